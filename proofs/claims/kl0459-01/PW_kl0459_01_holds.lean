import PyProof.Rows.All
import Wide.All
import OpenK.AllK
import Wide.FinOn
import Lean
import PySem.Challenge.RW_kl0459_01
set_option Elab.async false
set_option linter.unusedVariables false
namespace Mine
end Mine
section
open PySem PySem.W PyProof.Rows PySem.Calls Mine
set_option maxRecDepth 100000
section
namespace Mine
/-! ## Values without their tokens, abstract objects, the abstract state -/
def nm : Value → Value
  | .int i _ => .int i 0
  | .str s _ => .str s 0
  | .float b _ => .float b 0
  | .bytes b _ => .bytes b 0
  | v => v
theorem nm_int {v : Value} {i : Int} (h : nm v = .int i 0) : ∃ t, v = .int i t := by
  cases v <;> simp [nm] at h
  exact ⟨_, by rw [h]⟩
theorem nm_str {v : Value} {x : Str} (h : nm v = .str x 0) : ∃ t, v = .str x t := by
  cases v <;> simp [nm] at h
  exact ⟨_, by rw [h]⟩
theorem nm_ref {v : Value} {a : Addr} (h : nm v = .ref a) : v = .ref a := by
  cases v <;> simp [nm] at h
  rw [h]
theorem nm_none {v : Value} (h : nm v = .none) : v = .none := by
  cases v <;> simp [nm] at h
  rfl
theorem nm_bool {v : Value} {b : Bool} (h : nm v = .bool b) : v = .bool b := by
  cases v <;> simp [nm] at h
  rw [h]
theorem nm_builtin {v : Value} {b : String} (h : nm v = .builtin b) : v = .builtin b := by
  cases v <;> simp [nm] at h
  rw [h]
theorem nm_type {v : Value} {b : String} (h : nm v = .type b) : v = .type b := by
  cases v <;> simp [nm] at h
  rw [h]
theorem nm_nm (v : Value) : nm (nm v) = nm v := by cases v <;> rfl
inductive AO where
  | list (xs : List Value)
  | tuple (xs : List Value)
  | acc (C : Addr) (d : Addr) (xs : List Value)
  | obj (o : Obj)
  | sat (P : Obj → Prop)
def AO.is : AO → Obj → Prop
  | .list xs, o => ∃ (vs : Array Value) (n : Nat), o = { cls := .type "list", data := .seq vs n } ∧ vs.toList.map nm = xs
  | .tuple xs, o => ∃ (vs : Array Value) (n : Nat), o = { cls := .type "tuple", data := .seq vs n } ∧ vs.toList.map nm = xs
  | .acc C d xs, o => ∃ (vs : Array Value) (n : Nat), o = { cls := .ref C, dict := some d, data := .seq vs n } ∧ vs.toList.map nm = xs
  | .obj o', o => o = o'
  | .sat P, o => P o
abbrev HP := Addr → Option AO
abbrev LOC := Str → Option Value
def hset (hp : HP) (a : Addr) (o : AO) : HP := fun b => if b = a then some o else hp b
def lset (l : LOC) (x : Str) (v : Value) : LOC := fun y => if y = x then some v else l y
theorem hset_eq (hp : HP) (a : Addr) (o : AO) : hset hp a o a = some o := if_pos rfl
theorem hset_ne (hp : HP) {a b : Addr} (o : AO) (h : b ≠ a) : hset hp a o b = hp b := if_neg h
theorem hset_of {hp : HP} {a b : Addr} {o : AO} {o' : AO} (hn : hp a = none) (h : hp b = some o') : hset hp a o b = some o' := by
  unfold hset
  rw [if_neg (by rintro rfl; rw [hn] at h; cases h)]
  exact h
structure Fm where
  env : Env
  own : Str → Bool
def Bnd (h : Heap) (env : Env) (x : Str) (v : Value) : Prop :=
  (env.kindOf x = some .local ∧ ∃ m v', h.Ns env.locals m ∧ m x = some v' ∧ nm v' = v) ∨
  ((env.kindOf x = some .cell ∨ env.kindOf x = some .free) ∧ ∃ c v', env.cells.lookup x = some c ∧ h.IsCell c (some v') ∧ nm v' = v)
structure Rep (H₀ g : Heap) (fr : Fm) (loc : LOC) (hp : HP) (h : Heap) : Prop where
  keep : ∀ b o, g.get? b = some o → h.get? b = some o
  base : ∀ b o, H₀.get? b = some o → g.get? b = some o
  loc : ∀ x v, loc x = some v → Bnd h fr.env x v
  ns : ∃ m, h.Ns fr.env.locals m
  nsn : g.get? fr.env.locals = none
  cell : ∀ x c, fr.own x = true → fr.env.cells.lookup x = some c → g.get? c = none
  cne : ∀ x c, fr.env.cells.lookup x = some c → c ≠ fr.env.locals ∧ ∃ v, h.IsCell c v
  apart : ∀ x y c, fr.env.cells.lookup x = some c → fr.env.cells.lookup y = some c → x = y
  at_ : ∀ b ao, hp b = some ao → g.get? b = none ∧ b ≠ fr.env.locals ∧ (∀ x c, fr.env.cells.lookup x = some c → b ≠ c) ∧ ∃ o, h.get? b = some o ∧ ao.is o
theorem Bnd.keeps {h h' : Heap} {env : Env} {x : Str} {v : Value} (B : Bnd h env x v) (hk : ∀ b o, h.get? b = some o → h'.get? b = some o) : Bnd h' env x v := by
  rcases B with ⟨k, m, v', n, e, q⟩ | ⟨k, c, v', l, n, q⟩
  · exact .inl ⟨k, m, v', n.keeps hk, e, q⟩
  · exact .inr ⟨k, c, v', l, n.keeps hk, q⟩
theorem isCell_extBut {h h' : Heap} {a c : Addr} {v : Option Value} (x : h.IsCell c v) (hs : Heap.ExtBut a h h') (hca : c ≠ a) : h'.IsCell c v :=
  let ⟨o, ho, hd⟩ := x; ⟨o, hs c o hca ho, hd⟩
theorem Bnd.extBut {h h' : Heap} {env : Env} {x : Str} {v : Value} {a : Addr} (B : Bnd h env x v) (hs : Heap.ExtBut a h h') (hL : env.locals ≠ a) (hC : ∀ y c, env.cells.lookup y = some c → c ≠ a) : Bnd h' env x v := by
  rcases B with ⟨k, m, v', n, e, q⟩ | ⟨k, c, v', l, n, q⟩
  · exact .inl ⟨k, m, v', n.extBut hs hL, e, q⟩
  · exact .inr ⟨k, c, v', l, isCell_extBut n hs (hC _ _ l), q⟩
namespace Rep
variable {H₀ g h h' : Heap} {fr : Fm} {loc : LOC} {hp : HP}
theorem keeps (R : Rep H₀ g fr loc hp h) (hk : ∀ b o, h.get? b = some o → h'.get? b = some o) : Rep H₀ g fr loc hp h' where
  keep b o e := hk b o (R.keep b o e)
  base := R.base
  loc x v e := (R.loc x v e).keeps hk
  ns := let ⟨m, n⟩ := R.ns; ⟨m, n.keeps hk⟩
  nsn := R.nsn
  cell := R.cell
  cne x c e := let ⟨a, v, b⟩ := R.cne x c e; ⟨a, v, b.keeps hk⟩
  apart := R.apart
  at_ b ao e := let ⟨a, b', c, o, ho, i⟩ := R.at_ b ao e; ⟨a, b', c, o, hk _ _ ho, i⟩
theorem forget {loc' : LOC} {hp' : HP} (R : Rep H₀ g fr loc hp h) (hl : ∀ x v, loc' x = some v → loc x = some v) (hh : ∀ b o, hp' b = some o → hp b = some o) : Rep H₀ g fr loc' hp' h where
  keep := R.keep
  base := R.base
  loc x v e := R.loc x v (hl x v e)
  ns := R.ns
  nsn := R.nsn
  cell := R.cell
  cne := R.cne
  apart := R.apart
  at_ b ao e := R.at_ b ao (hh b ao e)
theorem chg {a : Addr} {ao ao' : AO} {o' : Obj} (R : Rep H₀ g fr loc hp h) (ha : hp a = some ao) (hs : Heap.ExtBut a h h') (ho : h'.get? a = some o') (hi : ao'.is o') : Rep H₀ g fr loc (hset hp a ao') h' := by
  obtain ⟨a1, a2, a3, _⟩ := R.at_ a ao ha
  refine ⟨fun b o e => hs b o (by rintro rfl; rw [a1] at e; cases e) (R.keep b o e), R.base, fun x v e => (R.loc x v e).extBut hs a2.symm fun y c l => (a3 y c l).symm, ?_, R.nsn, R.cell, fun x c l => ?_, R.apart, fun b x e => ?_⟩
  · obtain ⟨m, n⟩ := R.ns; exact ⟨m, n.extBut hs a2.symm⟩
  · obtain ⟨q, v, z⟩ := R.cne x c l; exact ⟨q, v, isCell_extBut z hs (a3 x c l).symm⟩
  · unfold hset at e
    by_cases hb : b = a
    · subst hb
      rw [if_pos rfl] at e
      cases e
      exact ⟨a1, a2, a3, o', ho, hi⟩
    · rw [if_neg hb] at e
      obtain ⟨b1, b2, b3, o, h1, h2⟩ := R.at_ b x e
      exact ⟨b1, b2, b3, o, hs b o hb h1, h2⟩
theorem step {hp' : HP} (R : Rep H₀ g fr loc hp h) (W : Addr → Prop) (hW : ∀ b, W b → ∃ ao, hp b = some ao) (hk : ∀ b o, ¬ W b → h.get? b = some o → h'.get? b = some o)
    (hn : ∀ b ao, hp' b = some ao → ((∃ ao₀, hp b = some ao₀) ∨ h.objs.size ≤ b) ∧ ∃ o, h'.get? b = some o ∧ ao.is o) : Rep H₀ g fr loc hp' h' := by
  have gW : ∀ b o, g.get? b = some o → ¬ W b := fun b o e w => by
    obtain ⟨ao, q⟩ := hW b w
    rw [(R.at_ b ao q).1] at e; cases e
  have lW : ¬ W fr.env.locals := fun w => by
    obtain ⟨ao, q⟩ := hW _ w
    exact (R.at_ _ ao q).2.1 rfl
  have cW : ∀ x c, fr.env.cells.lookup x = some c → ¬ W c := fun x c l w => by
    obtain ⟨ao, q⟩ := hW _ w
    exact (R.at_ _ ao q).2.2.1 x c l rfl
  have nsK : ∀ m, h.Ns fr.env.locals m → h'.Ns fr.env.locals m := fun m ⟨o, es, ep, e, r⟩ => ⟨o, es, ep, hk _ _ lW e, r⟩
  have cK : ∀ x c v, fr.env.cells.lookup x = some c → h.IsCell c v → h'.IsCell c v := fun x c v l ⟨o, e, r⟩ => ⟨o, hk _ _ (cW x c l) e, r⟩
  refine ⟨fun b o e => hk b o (gW b o e) (R.keep b o e), R.base, fun x v e => ?_, ?_, R.nsn, R.cell, fun x c l => ?_, R.apart, fun b ao e => ?_⟩
  · rcases R.loc x v e with ⟨k, m, v', n, q⟩ | ⟨k, c, v', l, n, q⟩
    · exact .inl ⟨k, m, v', nsK m n, q⟩
    · exact .inr ⟨k, c, v', l, cK x c _ l n, q⟩
  · obtain ⟨m, n⟩ := R.ns; exact ⟨m, nsK m n⟩
  · obtain ⟨a, v, n⟩ := R.cne x c l; exact ⟨a, v, cK x c v l n⟩
  · obtain ⟨q | q, o, ho, hi⟩ := hn b ao e
    · obtain ⟨ao₀, q⟩ := q
      obtain ⟨a1, a2, a3, _⟩ := R.at_ b ao₀ q
      exact ⟨a1, a2, a3, o, ho, hi⟩
    · refine ⟨?_, ?_, fun x c l => ?_, o, ho, hi⟩
      · cases z : g.get? b with
        | none => rfl
        | some o' => exact absurd (Heap.lt_size (R.keep _ _ z)) (Nat.not_lt.mpr q)
      · obtain ⟨m, n⟩ := R.ns
        exact Nat.ne_of_gt (Nat.lt_of_lt_of_le n.lt q)
      · obtain ⟨_, v, z⟩ := R.cne x c l
        exact Nat.ne_of_gt (Nat.lt_of_lt_of_le z.lt q)
theorem lt_of_hp {a : Addr} {ao : AO} (R : Rep H₀ g fr loc hp h) (ha : hp a = some ao) : a < h.objs.size := by
  obtain ⟨_, _, _, o, ho, _⟩ := R.at_ a ao ha
  exact Heap.lt_size ho
theorem cell_lt (R : Rep H₀ g fr loc hp h) {x : Str} {c : Addr} (hc : fr.env.cells.lookup x = some c) : c < h.objs.size := by
  obtain ⟨_, v, z⟩ := R.cne x c hc; exact z.lt
theorem none_at (R : Rep H₀ g fr loc hp h) : hp h.objs.size = none := by
  cases e : hp h.objs.size with
  | none => rfl
  | some x => exact absurd (R.lt_of_hp e) (Nat.lt_irrefl _)
end Rep
/-! ## The world, the judgement -/
structure Cx where
  prog : Program
  w : World
  H₀ : Heap
  os : OsState
def Sok (C : Cx) (s : Shared) : Prop := s.os = C.os ∧ AllBare s.gens
def aw {α : Type} (C : Cx) (A : Around) (g : Heap) (fr : Fm) (E : Value → Shared → Prop) (t : Sem α) (loc : LOC) (hp : HP) (Q : α → LOC → HP → Prop) : Prop :=
  ∀ s, Rep C.H₀ g fr loc hp s.heap → Sok C s → wpAny (model C.prog C.w) A t (fun a s' => Sok C s' ∧ ∃ loc' hp', Rep C.H₀ g fr loc' hp' s'.heap ∧ Q a loc' hp') E s
section
variable {α β : Type} {C : Cx} {A : Around} {g : Heap} {fr : Fm} {E : Value → Shared → Prop} {loc : LOC} {hp : HP}
theorem aw_pure {a : α} {Q : α → LOC → HP → Prop} (h : Q a loc hp) : aw C A g fr E (pure a) loc hp Q :=
  fun _ R S => wpAny_pure ⟨S, loc, hp, R, h⟩
theorem aw_bind {m : Sem α} {f : α → Sem β} {Q : β → LOC → HP → Prop} (h : aw C A g fr E m loc hp fun a l p => aw C A g fr E (f a) l p Q) : aw C A g fr E (m >>= f) loc hp Q :=
  fun s R S => wpAny_bind (wpAny_mono (h s R S) (fun _ s' ⟨S', _, _, R', q⟩ => q s' R' S') fun _ _ e => e)
theorem aw_mono {t : Sem α} {Q Q' : α → LOC → HP → Prop} (h : aw C A g fr E t loc hp Q) (hq : ∀ a l p, Q a l p → Q' a l p) : aw C A g fr E t loc hp Q' :=
  fun s R S => wpAny_mono (h s R S) (fun _ _ ⟨S', l, p, R', q⟩ => ⟨S', l, p, R', hq _ _ _ q⟩) fun _ _ e => e
theorem aw_forget {t : Sem α} {loc₁ : LOC} {hp₁ : HP} {Q : α → LOC → HP → Prop} (hl : ∀ x v, loc₁ x = some v → loc x = some v) (hh : ∀ b o, hp₁ b = some o → hp b = some o) (h : aw C A g fr E t loc₁ hp₁ Q) : aw C A g fr E t loc hp Q :=
  fun s R S => h s (R.forget hl hh) S
theorem aw_drop {t : Sem α} {hp₁ : HP} {Q : α → LOC → HP → Prop} (hh : ∀ b o, hp₁ b = some o → hp b = some o) (h : aw C A g fr E t loc hp₁ Q) : aw C A g fr E t loc hp Q :=
  aw_forget (fun _ _ e => e) hh h
theorem aw_still {t : Sem α} {P : α → Prop} {Q : α → LOC → HP → Prop}
    (h : ∀ s (Q' : α → Shared → Prop), Rep C.H₀ g fr loc hp s.heap → (∀ a tk, P a → Q' a { s with toks := tk }) → wpAny (model C.prog C.w) A t Q' E s)
    (k : ∀ a, P a → Q a loc hp) : aw C A g fr E t loc hp Q :=
  fun s R S => h s _ R fun a _ p => ⟨S, loc, hp, R, k a p⟩
theorem aw_ext {t : Sem α} {P : α → Prop} {Q : α → LOC → HP → Prop}
    (h : ∀ s (Q' : α → Shared → Prop), Rep C.H₀ g fr loc hp s.heap → (∀ a h' tk, P a → (∀ b o, s.heap.get? b = some o → h'.get? b = some o) → Q' a { s with heap := h', toks := tk }) → wpAny (model C.prog C.w) A t Q' E s)
    (k : ∀ a, P a → Q a loc hp) : aw C A g fr E t loc hp Q :=
  fun s R S => h s _ R fun a _ _ p hk => ⟨S, loc, hp, R.keeps hk, k a p⟩
theorem aw_standAt {pos : Pos} {Q : Unit → LOC → HP → Prop} (h : Q () loc hp) : aw C A g fr E (standAt pos) loc hp Q := fun _ R S => wpAny_standAt ⟨S, loc, hp, R, h⟩
theorem aw_rule {t : String} {Q : Unit → LOC → HP → Prop} (h : Q () loc hp) : aw C A g fr E (rule t) loc hp Q := fun _ R S => wpAny_rule ⟨S, loc, hp, R, h⟩
theorem aw_point {Q : Unit → LOC → HP → Prop} (h : Q () loc hp) : aw C A g fr E point loc hp Q := fun _ R S => wpAny_point ⟨S, loc, hp, R, h⟩
theorem aw_holding {vs : List Value} {m : Sem α} {Q : α → LOC → HP → Prop} (h : aw C A g fr E m loc hp Q) : aw C A g fr E (holding vs m) loc hp Q := fun s R S => wpAny_holding (h s R S)
theorem aw_keep {vs : List Value} {m : Sem α} {Q : α → LOC → HP → Prop} (h : aw C A g fr E m loc hp Q) : aw C A g fr E (m.keep vs) loc hp Q := fun s R S => wpAny_keep (h s R S)
theorem aw_of_eq {t : Sem α} {a : α} {Q : α → LOC → HP → Prop} (e : t = pure a) (h : Q a loc hp) : aw C A g fr E t loc hp Q := e ▸ aw_pure h
theorem aw_congr {t t' : Sem α} {Q : α → LOC → HP → Prop} (e : t = t') (h : aw C A g fr E t' loc hp Q) : aw C A g fr E t loc hp Q := e ▸ h
theorem wpAny_operate' {M : Model} {s : Shared} {vs : List Value} {m : Sem Value} {Q : Value → Shared → Prop} (h : wpAny M A m Q E s) : wpAny M A (operate vs m) Q E s := fun Γ p hΓ => by
  rw [Sem.wp_operate]; exact h Γ p hΓ
theorem aw_operate {vs : List Value} {m : Sem Value} {Q : Value → LOC → HP → Prop} (h : aw C A g fr E m loc hp Q) : aw C A g fr E (operate vs m) loc hp Q := fun s R S => wpAny_operate' (h s R S)
theorem wpAny_release' {M : Model} {s : Shared} {vs keep : List Value} {Q : Unit → Shared → Prop} (h : Q () s) : wpAny M A (release vs keep) Q E s := fun Γ p _ => by
  rw [Sem.wp_release]; exact h
theorem aw_release {vs keep : List Value} {Q : Unit → LOC → HP → Prop} (h : Q () loc hp) : aw C A g fr E (release vs keep) loc hp Q := fun _ R S => wpAny_release' ⟨S, loc, hp, R, h⟩
/-! ## a new object -/
theorem Rep.alloc {H₀ : Heap} {h : Heap} {o : Obj} {ao : AO} (R : Rep H₀ g fr loc hp h) (hf : o.isFreed = false) (hi : ao.is o) :
    Rep H₀ g fr loc (hset hp h.objs.size ao) (h.push o) := by
  have R' := R.keeps (h' := h.push o) fun b o' e => Heap.get?_push_of_some _ e
  have hgn : g.get? h.objs.size = none := by
    cases e : g.get? h.objs.size with
    | none => rfl
    | some o' => exact absurd (Heap.lt_size (R.keep _ _ e)) (Nat.lt_irrefl _)
  refine ⟨R'.keep, R'.base, R'.loc, R'.ns, R'.nsn, R'.cell, R'.cne, R'.apart, fun b x e => ?_⟩
  unfold hset at e
  by_cases hb : b = h.objs.size
  · subst hb
    rw [if_pos rfl] at e
    cases e
    refine ⟨hgn, ?_, fun x c l => Nat.ne_of_gt (R.cell_lt l), o, Heap.get?_push_size _ hf, hi⟩
    obtain ⟨m, n⟩ := R.ns
    exact Nat.ne_of_gt n.lt
  · rw [if_neg hb] at e
    exact R'.at_ b x e
theorem aw_newObj {t : Sem Value} {ao : AO} {Q : Value → LOC → HP → Prop}
    (ht : ∀ s (Q' : Value → Shared → Prop), (∀ o, o.isFreed = false → ao.is o → Q' (.ref s.heap.objs.size) { s with heap := s.heap.push o }) → wpAny (model C.prog C.w) A t Q' E s)
    (k : ∀ a, hp a = none → Q (.ref a) loc (hset hp a ao)) : aw C A g fr E t loc hp Q :=
  fun s R S => ht s _ fun _ hf hi => ⟨S, loc, _, R.alloc hf hi, k _ R.none_at⟩
theorem aw_newList {vs : List Value} {Q : Value → LOC → HP → Prop} (hsz : vs.length ≤ sizeLine) (k : ∀ a, hp a = none → Q (.ref a) loc (hset hp a (.list (vs.map nm)))) : aw C A g fr E (newList vs) loc hp Q :=
  aw_newObj (ao := .list (vs.map nm)) (fun s Q' h => wpAny_newObj_type (h _ rfl ⟨_, _, rfl, rfl⟩) (by show vs.toArray.size ≤ sizeLine; rw [List.size_toArray]; exact hsz)) k
theorem aw_newTuple {vs : List Value} {Q : Value → LOC → HP → Prop} (hsz : vs.length ≤ sizeLine) (k : ∀ a, hp a = none → Q (.ref a) loc (hset hp a (.tuple (vs.map nm)))) : aw C A g fr E (newTuple vs) loc hp Q :=
  aw_newObj (ao := .tuple (vs.map nm)) (fun s Q' h => wpAny_newObj_type (h _ rfl ⟨_, _, rfl, rfl⟩) (by show vs.toArray.size ≤ sizeLine; rw [List.size_toArray]; exact hsz)) k
end
/-! ## the veil: the heap less the things of the ledger -/
def veil (h : Heap) (hp : HP) : Heap := { h with objs := h.objs.mapIdx fun i o => if (hp i).isSome then { o with data := .freed } else o }
theorem veil_size (h : Heap) (hp : HP) : (veil h hp).objs.size = h.objs.size := by simp [veil]
theorem veil_get {h : Heap} {hp : HP} {b : Addr} (e : hp b = none) : (veil h hp).get? b = h.get? b := by
  unfold Heap.get? veil
  simp only [Array.getElem?_mapIdx, e]
  cases h.objs[b]? <;> rfl
theorem veil_none {h : Heap} {hp : HP} {b : Addr} {ao : AO} (e : hp b = some ao) : (veil h hp).get? b = none := by
  unfold Heap.get? veil
  simp only [Array.getElem?_mapIdx, e]
  cases h.objs[b]? <;> rfl
theorem of_veil {h : Heap} {hp : HP} {b : Addr} {o : Obj} (e : (veil h hp).get? b = some o) : h.get? b = some o ∧ hp b = none := by
  cases q : hp b with
  | none => rw [veil_get q] at e; exact ⟨e, rfl⟩
  | some a => rw [veil_none q] at e; cases e
theorem Rep.asleep {H₀ g h h' : Heap} {fr : Fm} {loc : LOC} {hp : HP} (R : Rep H₀ g fr loc hp h) (hk : ∀ b o, (veil h hp).get? b = some o → h'.get? b = some o) {hp' : HP}
    (hn : ∀ b ao, hp' b = some ao → (veil h hp).get? b = none ∧ ∃ o, h'.get? b = some o ∧ ao.is o) : Rep H₀ g fr loc hp' h' := by
  have gv : ∀ b o, g.get? b = some o → (veil h hp).get? b = some o := fun b o e => by
    have n : hp b = none := by
      cases q : hp b with
      | none => rfl
      | some a => rw [(R.at_ b a q).1] at e; cases e
    rw [veil_get n]; exact R.keep b o e
  have Lv : hp fr.env.locals = none := by
    cases q : hp fr.env.locals with
    | none => rfl
    | some a => exact absurd rfl (R.at_ _ a q).2.1
  have Cv : ∀ x c, fr.env.cells.lookup x = some c → hp c = none := fun x c l => by
    cases q : hp c with
    | none => rfl
    | some a => exact absurd rfl ((R.at_ _ a q).2.2.1 x c l)
  have nsK : ∀ m, h.Ns fr.env.locals m → h'.Ns fr.env.locals m := fun m ⟨o, es, ep, e, r⟩ => ⟨o, es, ep, hk _ _ (by rw [veil_get Lv]; exact e), r⟩
  have cK : ∀ x c v, fr.env.cells.lookup x = some c → h.IsCell c v → h'.IsCell c v := fun x c v l ⟨o, e, r⟩ => ⟨o, hk _ _ (by rw [veil_get (Cv x c l)]; exact e), r⟩
  refine ⟨fun b o e => hk b o (gv b o e), R.base, fun x v e => ?_, ?_, R.nsn, R.cell, fun x c l => ?_, R.apart, fun b ao e => ?_⟩
  · rcases R.loc x v e with ⟨k, m, v', n, q⟩ | ⟨k, c, v', l, n, q⟩
    · exact .inl ⟨k, m, v', nsK m n, q⟩
    · exact .inr ⟨k, c, v', l, cK x c _ l n, q⟩
  · obtain ⟨m, n⟩ := R.ns; exact ⟨m, nsK m n⟩
  · obtain ⟨a, v, n⟩ := R.cne x c l; exact ⟨a, v, cK x c v l n⟩
  · obtain ⟨q, o, ho, hi⟩ := hn b ao e
    obtain ⟨m, oL, es, ep, eL, _⟩ := R.ns
    refine ⟨?_, ?_, fun x c l => ?_, o, ho, hi⟩
    · cases z : g.get? b with
      | none => rfl
      | some o' => rw [gv b o' z] at q; cases q
    · rintro rfl; rw [veil_get Lv, eL] at q; cases q
    · rintro rfl
      obtain ⟨_, v, oc, ec, _⟩ := R.cne x _ l
      rw [veil_get (Cv x _ l), ec] at q; cases q
end Mine
end
section
namespace Mine
def nmF : Flow → Flow
  | .ret v => .ret (nm v)
  | f => f
section
variable (C : Cx) (A : Around) (g : Heap) (fr : Fm) (E : Value → Shared → Prop)
def awv (t : Sem Value) (loc : LOC) (hp : HP) (Q : Value → LOC → HP → Prop) : Prop := aw C A g fr E t loc hp fun v l p => Q (nm v) l p
def awf (t : Sem Flow) (loc : LOC) (hp : HP) (Q : Flow → LOC → HP → Prop) : Prop := aw C A g fr E t loc hp fun v l p => Q (nmF v) l p
def on1 {α : Type} (f : Value → Sem α) (x : Value) (loc : LOC) (hp : HP) (Q : α → LOC → HP → Prop) : Prop := ∀ a, nm a = x → aw C A g fr E (f a) loc hp Q
def ov1 (f : Value → Sem Value) (x : Value) (loc : LOC) (hp : HP) (Q : Value → LOC → HP → Prop) : Prop := ∀ a, nm a = x → awv C A g fr E (f a) loc hp Q
def ov2 (f : Value → Value → Sem Value) (x y : Value) (loc : LOC) (hp : HP) (Q : Value → LOC → HP → Prop) : Prop := ∀ a b, nm a = x → nm b = y → awv C A g fr E (f a b) loc hp Q
end
structure Glb (C : Cx) (x : Str) (v : Value) : Prop where
  is : (∃ mg, C.H₀.Ns mainGlobals mg ∧ mg x = some v) ∨ ∃ mg mb, C.H₀.Ns mainGlobals mg ∧ mg x = none ∧ C.H₀.Ns builtinsNs mb ∧ mb x = some v
section
variable {C : Cx} {A : Around} {g : Heap} {fr : Fm} {E : Value → Shared → Prop} {loc : LOC} {hp : HP}
theorem awv_mono {t : Sem Value} {Q Q' : Value → LOC → HP → Prop} (h : awv C A g fr E t loc hp Q) (hq : ∀ a l p, Q a l p → Q' a l p) : awv C A g fr E t loc hp Q' := aw_mono h fun _ _ _ => hq _ _ _
theorem awf_mono {t : Sem Flow} {Q Q' : Flow → LOC → HP → Prop} (h : awf C A g fr E t loc hp Q) (hq : ∀ a l p, Q a l p → Q' a l p) : awf C A g fr E t loc hp Q' := aw_mono h fun _ _ _ => hq _ _ _
/-! ### names -/
theorem aw_loadName {x : Str} {v : Value} {Q : Value → LOC → HP → Prop} (hk : fr.env.scope.kind = .function) (hl : loc x = some v) (hc : (x == ("__classdict__" : Str)) = false) (h : Q v loc hp) :
    awv C A g fr E (loadName fr.env x) loc hp Q := fun s R S => by
  rcases R.loc x v hl with ⟨k, m, v', n, e, q⟩ | ⟨k | k, c, v', l, n, q⟩
  · subst q; exact wpAny_loadName_local hk k n e ⟨S, loc, hp, R, h⟩
  · subst q; exact wpAny_loadName_cell hk k l n ⟨S, loc, hp, R, h⟩
  · subst q; exact wpAny_loadName_free hk k l n ⟨S, loc, hp, R, h⟩ hc
theorem aw_Name {x : Str} {pos : Pos} {v : Value} {Q : Value → LOC → HP → Prop} (hk : fr.env.scope.kind = .function) (hl : loc x = some v) (h : Q v loc hp)
    (hd : (x == ("__debug__" : Str)) = false := by decide) (hc : (x == ("__classdict__" : Str)) = false := by decide) :
    awv C A g fr E (eval (.Name x pos) fr.env) loc hp Q := fun s R S => wpAny_Name (aw_loadName hk hl hc h s R S) hd
theorem aw_Glob {x : Str} {pos : Pos} {v : Value} {Q : Value → LOC → HP → Prop} (hk : fr.env.scope.kind = .function) (hg : fr.env.globals = mainGlobals) (hb : fr.env.builtins = builtinsNs) (hx : fr.env.kindOf x = some .globalImplicit)
    (hG : Glb C x v) (h : Q v loc hp) (hd : (x == ("__debug__" : Str)) = false := by decide) (hv : nm v = v := by rfl) : awv C A g fr E (eval (.Name x pos) fr.env) loc hp Q := fun s R S => by
  have hk' : ∀ b o, C.H₀.get? b = some o → s.heap.get? b = some o := fun b o e => R.keep b o (R.base b o e)
  rw [← hv] at h
  rcases hG.is with ⟨mg, n, e⟩ | ⟨mg, mb, n, e, n', e'⟩
  · exact Name_function_global hk hx (loadGlobal_global (hg ▸ n.keeps hk') e ⟨S, loc, hp, R, h⟩) hd
  · exact Name_function_global hk hx (loadGlobal_builtin (hg ▸ n.keeps hk') e (hb ▸ n'.keeps hk') e' ⟨S, loc, hp, R, h⟩) hd
theorem Rep.storeL {H₀ h h' : Heap} {x : Str} {v : Value} (R : Rep H₀ g fr loc hp h) (hx : fr.env.kindOf x = some .local) {m : Str → Option Value} (n : h.Ns fr.env.locals m)
    (n' : h'.Ns fr.env.locals (fun y => if y = x then some v else m y)) (hs : Heap.SameBut fr.env.locals h h') : Rep H₀ g fr (lset loc x (nm v)) hp h' := by
  refine ⟨fun b o e => hs.extBut b o (by rintro rfl; rw [R.nsn] at e; cases e) (R.keep b o e), R.base, fun y u e => ?_, ⟨_, n'⟩, R.nsn, R.cell, fun y c l => ?_, R.apart, fun b ao e => ?_⟩
  · unfold lset at e
    by_cases hy : y = x
    · subst hy
      rw [if_pos rfl] at e; cases e
      exact .inl ⟨hx, _, v, n', if_pos rfl, rfl⟩
    · rw [if_neg hy] at e
      rcases R.loc y u e with ⟨k, m₁, v', n₁, e₁, q⟩ | ⟨k, c, v', l, z, q⟩
      · refine .inl ⟨k, _, v', n', ?_, q⟩
        obtain ⟨o1, es1, ep1, a1, b1, c1, d1⟩ := n
        obtain ⟨o2, es2, ep2, a2, b2, c2, d2⟩ := n₁
        rw [a1] at a2; cases a2
        rw [b1] at b2; cases b2
        simp only [if_neg hy]
        rw [← d1, d2]; exact e₁
      · exact .inr ⟨k, c, v', l, z.sameBut hs (R.cne y c l).1, q⟩
  · obtain ⟨a, u, z⟩ := R.cne y c l
    exact ⟨a, u, z.sameBut hs a⟩
  · obtain ⟨a, b', c, o, ho, i⟩ := R.at_ b ao e
    exact ⟨a, b', c, o, hs.extBut b o b' ho, i⟩
theorem Rep.storeC {H₀ h h' : Heap} {x : Str} {v : Value} {c : Addr} (R : Rep H₀ g fr loc hp h) (hx : fr.env.kindOf x = some .cell) (ho : fr.own x = true) (hc : fr.env.cells.lookup x = some c)
    (n' : h'.IsCell c (some v)) (hs : Heap.SameBut c h h') : Rep H₀ g fr (lset loc x (nm v)) hp h' := by
  have hcn := R.cell x c ho hc
  have hcl := (R.cne x c hc).1
  refine ⟨fun b o e => hs.extBut b o (by rintro rfl; rw [hcn] at e; cases e) (R.keep b o e), R.base, fun y u e => ?_, ?_, R.nsn, R.cell, fun y d l => ?_, R.apart, fun b ao e => ?_⟩
  · unfold lset at e
    by_cases hy : y = x
    · subst hy
      rw [if_pos rfl] at e; cases e
      exact .inr ⟨.inl hx, c, v, hc, n', rfl⟩
    · rw [if_neg hy] at e
      rcases R.loc y u e with ⟨k, m₁, v', n₁, e₁, q⟩ | ⟨k, d, v', l, z, q⟩
      · exact .inl ⟨k, m₁, v', n₁.sameBut hs hcl.symm, e₁, q⟩
      · exact .inr ⟨k, d, v', l, z.sameBut hs (fun e2 => hy (R.apart y x d l (e2 ▸ hc))), q⟩
  · obtain ⟨m, n⟩ := R.ns; exact ⟨m, n.sameBut hs hcl.symm⟩
  · obtain ⟨a, u, z⟩ := R.cne y d l
    by_cases hd : d = c
    · subst hd; exact ⟨a, _, n'⟩
    · exact ⟨a, u, z.sameBut hs hd⟩
  · obtain ⟨a, b', c', o, ho', i⟩ := R.at_ b ao e
    exact ⟨a, b', c', o, hs.extBut b o (c' x c hc) ho', i⟩
def Sto (fr : Fm) (x : Str) : Prop := fr.env.scope.kind = .function ∧ (fr.env.kindOf x = some .local ∨ fr.env.kindOf x = some .cell ∧ fr.own x = true ∧ (fr.env.cells.lookup x).isSome = true)
theorem aw_storeName {x : Str} {v : Value} {Q : Unit → LOC → HP → Prop} (hx : Sto fr x) (h : Q () (lset loc x (nm v)) hp) : aw C A g fr E (storeName fr.env x v) loc hp Q := fun s R S => by
  obtain ⟨hk, hx | ⟨hx, ho, hc⟩⟩ := hx
  · obtain ⟨m, n⟩ := R.ns
    exact wpAny_storeName_local hx n (fun h' n' hs => ⟨S, _, hp, R.storeL hx n n' hs, h⟩) (by rw [hk]; rfl)
  · obtain ⟨c, hc⟩ := Option.isSome_iff_exists.mp hc
    obtain ⟨_, v₀, z⟩ := R.cne x c hc
    exact wpAny_storeName_cell hk hx hc z fun h' n' hs => ⟨S, _, hp, R.storeC hx ho hc n' hs, h⟩
theorem aw_bindName {x : Str} {v : Value} {Q : Unit → LOC → HP → Prop} (hx : Sto fr x) (h : Q () (lset loc x (nm v)) hp) : aw C A g fr E (bindName fr.env x v) loc hp Q :=
  aw_bind (aw_holding (aw_point (aw_bind (aw_storeName hx (aw_point h)))))
theorem aw_assignName {x : Str} {pos : Pos} {v : Value} {Q : Unit → LOC → HP → Prop} (hx : Sto fr x) (h : Q () (lset loc x (nm v)) hp) : aw C A g fr E (assign (.Name x pos) fr.env v) loc hp Q :=
  aw_bind (aw_standAt (aw_bindName hx h))
/-! ### constants -/
theorem aw_int {i : Int} {k pos} {Q : Value → LOC → HP → Prop} (h : Q (.int i 0) loc hp) : awv C A g fr E (eval (.Constant (.int i) k pos) fr.env) loc hp Q := fun _ R S => wpAny_Constant_int ⟨S, loc, hp, R, h⟩
theorem aw_str {x : Str} {k pos} {Q : Value → LOC → HP → Prop} (h : Q (.str x 0) loc hp) : awv C A g fr E (eval (.Constant (.str x) k pos) fr.env) loc hp Q := fun _ R S => Constant_str ⟨S, loc, hp, R, h⟩
theorem aw_none {k pos} {Q : Value → LOC → HP → Prop} (h : Q .none loc hp) : awv C A g fr E (eval (.Constant .none k pos) fr.env) loc hp Q := aw_pure (a := Value.none) h
theorem aw_bool {b : Bool} {k pos} {Q : Value → LOC → HP → Prop} (h : Q (.bool b) loc hp) : awv C A g fr E (eval (.Constant (.bool b) k pos) fr.env) loc hp Q := aw_pure (a := Value.bool b) h
/-! ### expressions -/
theorem aw_BinOp {l op r pos} {Q : Value → LOC → HP → Prop} (h : awv C A g fr E (eval l fr.env) loc hp fun x l₁ p₁ => awv C A g fr E (eval r fr.env) l₁ p₁ fun y l₂ p₂ => ov2 C A g fr E (binaryOp op) x y l₂ p₂ Q) :
    awv C A g fr E (eval (.BinOp l op r pos) fr.env) loc hp Q := by
  refine aw_congr (eval_BinOp ..) (aw_bind (aw_mono h fun a l₁ p₁ h₁ => aw_bind (aw_holding (aw_mono h₁ fun b l₂ p₂ h₂ => ?_))))
  exact aw_bind (aw_standAt (aw_operate (h₂ a b rfl rfl)))
theorem aw_UnaryOp {op x pos} {Q : Value → LOC → HP → Prop} (h : awv C A g fr E (eval x fr.env) loc hp fun x l₁ p₁ => ov1 C A g fr E (unaryOp op) x l₁ p₁ Q) :
    awv C A g fr E (eval (.UnaryOp op x pos) fr.env) loc hp Q := by
  have e : eval (.UnaryOp op x pos) fr.env = (do let v ← eval x fr.env; standAt pos; holding [v] (unaryOp op v)) := rfl
  exact aw_congr e (aw_bind (aw_mono h fun a l₁ p₁ h₁ => aw_bind (aw_standAt (aw_holding (h₁ a rfl)))))
theorem aw_IfExp {test body orelse pos} {Q : Value → LOC → HP → Prop} (h : aw C A g fr E (isTrue test fr.env (eval test fr.env)) loc hp fun b l p => if b then awv C A g fr E (eval body fr.env) l p Q else awv C A g fr E (eval orelse fr.env) l p Q) :
    awv C A g fr E (eval (.IfExp test body orelse pos) fr.env) loc hp Q := by
  have e : eval (.IfExp test body orelse pos) fr.env = (do if ← isTrue test fr.env (eval test fr.env) then eval body fr.env else eval orelse fr.env) := rfl
  refine aw_congr e (aw_bind (aw_mono h fun b l p h₁ => ?_))
  cases b
  · exact h₁
  · exact h₁
theorem aw_isTrue_cmp1 {l op r pos whole} {Q : Bool → LOC → HP → Prop} (hm : behindInMarks op r = false)
    (h : awv C A g fr E (eval l fr.env) loc hp fun x l₁ p₁ => awv C A g fr E (eval r fr.env) l₁ p₁ fun y l₂ p₂ => ov2 C A g fr E (compareOp op) x y l₂ p₂ fun v l p => ∃ b, v = .bool b ∧ Q b l p) :
    aw C A g fr E (isTrue (.Compare l [op] [r] pos) fr.env whole) loc hp Q := by
  refine aw_congr (isTrue_Compare1 ..) (aw_bind (aw_mono h fun a l₁ p₁ h₁ => aw_bind (aw_holding ?_)))
  rw [markedBehindIn_of_false hm]
  refine aw_mono h₁ fun b l₂ p₂ h₂ => aw_bind (aw_standAt (aw_bind (aw_operate (aw_mono (h₂ a b rfl rfl) fun c l₃ p₃ h₃ => aw_holding ?_))))
  obtain ⟨b, e, q⟩ := h₃
  rw [nm_bool e]
  exact fun _ R S => wpAny_truthy_bool ⟨S, _, _, R, q⟩
theorem aw_Compare1 {l op r pos} {Q : Value → LOC → HP → Prop} (hm : behindInMarks op r = false)
    (h : awv C A g fr E (eval l fr.env) loc hp fun x l₁ p₁ => awv C A g fr E (eval r fr.env) l₁ p₁ fun y l₂ p₂ => ov2 C A g fr E (compareOp op) x y l₂ p₂ Q) :
    awv C A g fr E (eval (.Compare l [op] [r] pos) fr.env) loc hp Q := by
  refine aw_congr (eval_Compare1 ..) (aw_bind (aw_mono h fun a l₁ p₁ h₁ => aw_bind (aw_holding ?_)))
  rw [markedBehindIn_of_false hm]
  exact aw_mono h₁ fun b l₂ p₂ h₂ => aw_bind (aw_standAt (aw_operate (h₂ a b rfl rfl)))
theorem aw_isTrue_cmp2 {l op op' r r' pos whole} {Q : Bool → LOC → HP → Prop} (hm : behindInMarks op r = false) (hm' : behindInMarks op' r' = false)
    (h : awv C A g fr E (eval l fr.env) loc hp fun x l₁ p₁ => awv C A g fr E (eval r fr.env) l₁ p₁ fun y l₂ p₂ => ov2 C A g fr E (compareOp op) x y l₂ p₂ fun v l₃ p₃ => ∃ b, v = .bool b ∧
      (if b then awv C A g fr E (eval r' fr.env) l₃ p₃ fun z l₄ p₄ => ov2 C A g fr E (compareOp op') y z l₄ p₄ fun v l p => ∃ b, v = .bool b ∧ Q b l p else Q false l₃ p₃))
    (hme : markedEach [op, op'] [r, r'] (evalEach [r, r'] fr.env) = [markedBehindIn op r (eval r fr.env), markedBehindIn op' r' (eval r' fr.env)] := by rfl) :
    aw C A g fr E (isTrue (.Compare l [op, op'] [r, r'] pos) fr.env whole) loc hp Q := by
  have e : isTrue (.Compare l [op, op'] [r, r'] pos) fr.env whole = (do testChain pos (← eval l fr.env) [op, op'] (markedEach [op, op'] [r, r'] (evalEach [r, r'] fr.env))) := rfl
  refine aw_congr e (aw_bind (aw_mono h fun a l₁ p₁ h₁ => ?_))
  rw [hme, markedBehindIn_of_false hm, markedBehindIn_of_false hm']
  unfold testChain
  refine aw_bind (aw_holding (aw_mono h₁ fun b l₂ p₂ h₂ => aw_bind (aw_standAt (aw_bind (aw_holding (aw_mono (h₂ a b rfl rfl) fun c l₃ p₃ h₃ => aw_bind (aw_release (aw_bind (aw_holding ?_)))))))))
  obtain ⟨t, e, q⟩ := h₃
  rw [nm_bool e]
  refine fun s R S => wpAny_truthy_bool ⟨S, _, _, R, ?_⟩
  cases t with
  | false => exact aw_pure q
  | true =>
    unfold testChain
    refine aw_bind (aw_holding (aw_mono q fun d l₄ p₄ h₄ => aw_bind (aw_standAt (aw_bind (aw_operate (aw_mono (h₄ b d rfl rfl) fun c l₅ p₅ h₅ => aw_holding ?_))))))
    obtain ⟨t, e, q⟩ := h₅
    rw [nm_bool e]
    exact fun s R S => wpAny_truthy_bool ⟨S, _, _, R, q⟩
theorem aw_isTrue_not {x pos whole} {Q : Bool → LOC → HP → Prop} (h : aw C A g fr E (isTrue x fr.env (eval x fr.env)) loc hp fun b l p => Q (!b) l p) : aw C A g fr E (isTrue (.UnaryOp .Not x pos) fr.env whole) loc hp Q := by
  have e : isTrue (.UnaryOp .Not x pos) fr.env whole = (do return !(← isTrue x fr.env (eval x fr.env))) := rfl
  exact aw_congr e (aw_bind (aw_mono h fun b l p q => aw_pure q))
theorem aw_isTrue_or2 {x y pos whole} {Q : Bool → LOC → HP → Prop} (h : aw C A g fr E (isTrue x fr.env (eval x fr.env)) loc hp fun b l p => if b then Q true l p else aw C A g fr E (isTrue y fr.env (eval y fr.env)) l p Q) :
    aw C A g fr E (isTrue (.BoolOp .Or [x, y] pos) fr.env whole) loc hp Q := by
  have e : isTrue (.BoolOp .Or [x, y] pos) fr.env whole = allTrue .Or [x, y] fr.env := rfl
  rw [e]
  unfold allTrue
  refine aw_bind (aw_mono h fun b l p h₁ => ?_)
  cases b with
  | true => exact aw_pure h₁
  | false =>
    simp only [Bool.false_eq_true, if_false] at h₁
    unfold allTrue
    refine aw_bind (aw_mono h₁ fun b l p h₂ => ?_)
    cases b with
    | true => exact aw_pure h₂
    | false => unfold allTrue; exact aw_pure h₂
theorem aw_isTrue_and2 {x y pos whole} {Q : Bool → LOC → HP → Prop} (h : aw C A g fr E (isTrue x fr.env (eval x fr.env)) loc hp fun b l p => if b then aw C A g fr E (isTrue y fr.env (eval y fr.env)) l p Q else Q false l p) :
    aw C A g fr E (isTrue (.BoolOp .And [x, y] pos) fr.env whole) loc hp Q := by
  have e : isTrue (.BoolOp .And [x, y] pos) fr.env whole = allTrue .And [x, y] fr.env := rfl
  rw [e]
  unfold allTrue
  refine aw_bind (aw_mono h fun b l p h₁ => ?_)
  cases b with
  | false => exact aw_pure h₁
  | true =>
    simp only [if_true] at h₁
    unfold allTrue
    refine aw_bind (aw_mono h₁ fun b l p h₂ => ?_)
    cases b with
    | false => exact aw_pure h₂
    | true => unfold allTrue; exact aw_pure h₂
theorem aw_isTrue_plain {e : Expr} {pos : Pos} {Q : Bool → LOC → HP → Prop} (he : isTrue e fr.env (eval e fr.env) = (do let v ← eval e fr.env; standAt pos; holding [v] (truthy v)))
    (h : awv C A g fr E (eval e fr.env) loc hp fun x l p => on1 C A g fr E truthy x l p Q) : aw C A g fr E (isTrue e fr.env (eval e fr.env)) loc hp Q :=
  aw_congr he (aw_bind (aw_mono h fun v l p q => aw_bind (aw_standAt (aw_holding (q v rfl)))))
/-! ### statements -/
theorem aw_execs_nil {Q : Flow → LOC → HP → Prop} (h : Q .next loc hp) : awf C A g fr E (execs [] fr.env) loc hp Q := aw_pure (a := Flow.next) h
theorem aw_execs_cons {st rest} {Q : Flow → LOC → HP → Prop} (h : awf C A g fr E (exec st fr.env) loc hp fun f l p => match f with | .next => awf C A g fr E (execs rest fr.env) l p Q | f => Q f l p) :
    awf C A g fr E (execs (st :: rest) fr.env) loc hp Q := by
  refine aw_congr (execs_cons ..) (aw_bind (aw_mono h fun f l p h₁ => ?_))
  cases f with
  | next => exact h₁
  | brk => exact aw_pure h₁
  | cont => exact aw_pure h₁
  | ret v => exact aw_pure h₁
theorem aw_If {test body orelse pos} {Q : Flow → LOC → HP → Prop} (h : aw C A g fr E (isTrue test fr.env (eval test fr.env)) loc hp fun b l p => if b then awf C A g fr E (execs body fr.env) l p Q else awf C A g fr E (execs orelse fr.env) l p Q) :
    awf C A g fr E (exec (.If test body orelse pos) fr.env) loc hp Q := by
  refine aw_congr (exec_If ..) (aw_bind (aw_standAt (aw_bind (aw_mono h fun b l p h₁ => ?_))))
  cases b
  · exact h₁
  · exact h₁
theorem aw_Return {e pos} {Q : Flow → LOC → HP → Prop} (h : awv C A g fr E (eval e fr.env) loc hp fun v l p => Q (.ret v) l p) : awf C A g fr E (exec (.Return (some e) pos) fr.env) loc hp Q :=
  aw_congr (exec_Return_some ..) (aw_bind (aw_standAt (aw_bind (aw_mono h fun v l p q => aw_pure q))))
theorem aw_Pass {pos} {Q : Flow → LOC → HP → Prop} (h : Q .next loc hp) : awf C A g fr E (exec (.Pass pos) fr.env) loc hp Q := aw_bind (aw_standAt (aw_pure (a := Flow.next) h))
theorem aw_Break {pos} {Q : Flow → LOC → HP → Prop} (h : Q .brk loc hp) : awf C A g fr E (exec (.Break pos) fr.env) loc hp Q := aw_bind (aw_standAt (aw_pure (a := Flow.brk) h))
theorem aw_AssignName {x pos' value pos} {Q : Flow → LOC → HP → Prop} (hs : swapsWith value (some (.Name x pos')) pos.line fr.env = pure false) (hx : Sto fr x)
    (h : awv C A g fr E (eval value fr.env) loc hp fun v l p => Q .next (lset l x v) p) : awf C A g fr E (exec (.Assign [.Name x pos'] value pos) fr.env) loc hp Q :=
  aw_congr (exec_Assign_Name _ _ _ _ _ hs) (aw_bind (aw_standAt (aw_bind (aw_mono h fun v l p q => aw_bind (aw_standAt (aw_bind (aw_bindName hx (aw_pure (a := Flow.next) q))))))))
theorem aw_AugAssignName {x pos' op value pos} {u : Value} {Q : Flow → LOC → HP → Prop} (hk : fr.env.scope.kind = .function) (hl : loc x = some u) (hc : (x == ("__classdict__" : Str)) = false) (hx : Sto fr x)
    (h : awv C A g fr E (eval value fr.env) loc hp fun y l p => ov2 C A g fr E (inplaceOp op) u y l p fun v l p => Q .next (lset l x v) p) :
    awf C A g fr E (exec (.AugAssign (.Name x pos') op value pos) fr.env) loc hp Q := by
  refine aw_congr (exec_AugAssign_Name ..) (aw_bind (aw_standAt (aw_bind ?_)))
  have := aw_loadName (C := C) (A := A) (g := g) (fr := fr) (E := E) (loc := loc) (hp := hp) (x := x) (v := u) (Q := fun v l p => v = u ∧ l = loc ∧ p = hp) hk hl hc ⟨rfl, rfl, rfl⟩
  refine aw_mono this fun old l p ⟨q1, q2, q3⟩ => ?_
  subst q2; subst q3
  refine aw_bind (aw_holding (aw_mono h fun v l₂ p₂ h₂ => aw_bind (aw_standAt (aw_bind (aw_operate (aw_mono (h₂ old v q1 rfl) fun n l₃ p₃ h₃ => aw_bind (aw_standAt (aw_bind (aw_bindName hx (aw_pure (a := Flow.next) h₃))))))))))
theorem aw_Expr {e pos} {Q : Flow → LOC → HP → Prop} (hi : interactive fr.env = false) (hs : swapsWith e none pos.line fr.env = pure false)
    (h : awv C A g fr E (eval e fr.env) loc hp fun v l p => (∀ a, v ≠ .ref a) ∧ Q .next l p) : awf C A g fr E (exec (.Expr e pos) fr.env) loc hp Q := by
  refine aw_congr (exec_Expr _ _ _ hi hs) (aw_bind (aw_standAt (aw_bind (aw_mono h fun v l p ⟨q1, q2⟩ => ?_))))
  have hv : ∀ a, v ≠ .ref a := by rintro a rfl; exact q1 a rfl
  rw [dropValue_plain hv]
  exact aw_pure (a := Flow.next) q2
end
end Mine
end
section
namespace Mine
/-! ## calls of the text's own functions -/
def bindLoc : List (Str × Value) → LOC → LOC
  | [], l => l
  | (n, v) :: r, l => bindLoc r (lset l n (nm v))
def retOf : Flow → Value
  | .ret v => v
  | _ => .none
theorem bindLoc_ok {kindOf : Str → Option NameKind} : ∀ (binds : List (Str × Value)) (l : LOC) (m cm : Str → Option Value), (∀ x ∈ binds, kindOf x.1 = some .local ∨ kindOf x.1 = some .cell) →
    (∀ y v, l y = some v → (kindOf y = some .local ∧ ∃ v', m y = some v' ∧ nm v' = v) ∨ (kindOf y = some .cell ∧ ∃ v', cm y = some v' ∧ nm v' = v)) →
    ∀ y v, bindLoc binds l y = some v → (kindOf y = some .local ∧ ∃ v', bindL kindOf binds m y = some v' ∧ nm v' = v) ∨ (kindOf y = some .cell ∧ ∃ v', bindC kindOf binds cm y = some v' ∧ nm v' = v)
  | [], _, _, _, _, h => h
  | (n, u) :: r, l, m, cm, hk, h => by
    intro y v e
    unfold bindLoc at e
    unfold bindL bindC
    have hr : ∀ x ∈ r, kindOf x.1 = some .local ∨ kindOf x.1 = some .cell := fun x hx => hk x (List.mem_cons_of_mem _ hx)
    rcases hk (n, u) (.head _) with q | q
    · rw [if_pos q, if_pos q]
      refine bindLoc_ok r _ _ _ hr (fun z w e2 => ?_) y v e
      unfold lset at e2
      by_cases hz : z = n
      · subst hz; rw [if_pos rfl] at e2; cases e2
        exact .inl ⟨q, u, if_pos rfl, rfl⟩
      · rw [if_neg hz] at e2
        rcases h z w e2 with ⟨a, v', b, c⟩ | ⟨a, v', b, c⟩
        · exact .inl ⟨a, v', by rw [if_neg hz]; exact b, c⟩
        · exact .inr ⟨a, v', b, c⟩
    · have q' : ¬ kindOf n = some .local := by rw [q]; decide
      rw [if_neg q', if_neg q']
      refine bindLoc_ok r _ _ _ hr (fun z w e2 => ?_) y v e
      unfold lset at e2
      by_cases hz : z = n
      · subst hz; rw [if_pos rfl] at e2; cases e2
        exact .inr ⟨q, u, if_pos rfl, rfl⟩
      · rw [if_neg hz] at e2
        rcases h z w e2 with ⟨a, v', b, c⟩ | ⟨a, v', b, c⟩
        · exact .inl ⟨a, v', b, c⟩
        · exact .inr ⟨a, v', by rw [if_neg hz]; exact b, c⟩
structure FnAt (C : Cx) (f : Addr) (fd : FuncData) : Prop where
  at_ : ∃ o, C.H₀.get? f = some o ∧ o.data = .func fd
  co : fd.scope.isCoroutine = false
  gen : fd.scope.isGenerator = false
  kind : fd.scope.kind = .function
  code : C.H₀.CodeRec fd.code fd.qualname
theorem base_veil {H₀ g h : Heap} {fr : Fm} {loc : LOC} {hp : HP} (R : Rep H₀ g fr loc hp h) : ∀ b o, H₀.get? b = some o → (veil h hp).get? b = some o := fun b o e => by
  have e' := R.base b o e
  have n : hp b = none := by
    cases q : hp b with
    | none => rfl
    | some a => rw [(R.at_ b a q).1] at e'; cases e'
  rw [veil_get n]; exact R.keep b o e'
section
variable {C : Cx} {A : Around} {g : Heap} {fr : Fm} {E : Value → Shared → Prop} {loc : LOC} {hp : HP}
def fnFm (fd : FuncData) (L f : Addr) : Fm := ⟨callEnvC fd L f, fun _ => true⟩
structure FrOf (fr : Fm) (sc : Scope) (ow : Str → Bool) : Prop where
  scope : fr.env.scope = sc
  kind : sc.kind = .function
  glob : fr.env.globals = mainGlobals
  bi : fr.env.builtins = builtinsNs
  cells : ∀ x, sc.names.lookup x = some .cell ∨ sc.names.lookup x = some .free → (fr.env.cells.lookup x).isSome = true
  own : ∀ x, ow x = true → fr.own x = true
def allOwn : Str → Bool := fun _ => true
theorem lookup_nofree : ∀ {names : List (Str × NameKind)}, names.all (fun x => x.2 != .free) = true → ∀ x, names.lookup x ≠ some .free
  | [], _, _, e => by cases e
  | (n, k) :: r, h, x, e => by
    rw [List.all_cons, Bool.and_eq_true] at h
    rw [List.lookup_cons] at e
    split at e
    · cases e; exact Bool.noConfusion h.1
    · exact lookup_nofree h.2 x e
theorem frOf_fn (fd : FuncData) (L f : Addr) (hk : fd.scope.kind = .function) (hg : fd.globals = mainGlobals) (hb : fd.builtins = builtinsNs) (hf : fd.scope.names.all (fun x => x.2 != .free) = true) : FrOf (fnFm fd L f) fd.scope allOwn :=
  ⟨rfl, hk, hg, hb, fun x e => e.elim (fun e => cellsFrom_some _ _ _ (.inl e)) fun e => absurd e (lookup_nofree hf x), fun _ _ => rfl⟩
theorem FrOf.k {fr : Fm} {sc : Scope} {ow : Str → Bool} (F : FrOf fr sc ow) : fr.env.scope.kind = .function := by rw [F.scope]; exact F.kind
theorem FrOf.kindOf {fr : Fm} {sc : Scope} {ow : Str → Bool} (F : FrOf fr sc ow) {x : Str} {k : NameKind} (h : sc.names.lookup x = some k) : fr.env.kindOf x = some k := by unfold Env.kindOf; rw [F.scope]; exact h
theorem FrOf.stoL {fr : Fm} {sc : Scope} {ow : Str → Bool} (F : FrOf fr sc ow) {x : Str} (h : sc.names.lookup x = some .local) : Sto fr x := ⟨F.k, .inl (F.kindOf h)⟩
theorem FrOf.stoC {fr : Fm} {sc : Scope} {ow : Str → Bool} (F : FrOf fr sc ow) {x : Str} (h : sc.names.lookup x = some .cell) (ho : ow x = true) : Sto fr x := ⟨F.k, .inr ⟨F.kindOf h, F.own x ho, F.cells x (.inl h)⟩⟩
theorem rep_called {h : Heap} {s s' : Shared} {fd : FuncData} {f : Addr} {binds : List (Str × Value)} (R : Rep C.H₀ g fr loc hp s.heap)
    (hkind : ∀ x ∈ binds, fd.scope.names.lookup x.1 = some .local ∨ fd.scope.names.lookup x.1 = some .cell)
    (x : InCallC s (callEnvC fd s.heap.objs.size f).locals (bindL (callEnvC fd s.heap.objs.size f).kindOf binds fun _ => none) (callEnvC fd s.heap.objs.size f).cells
      (bindC (callEnvC fd s.heap.objs.size f).kindOf binds fun _ => none) s') :
    Rep C.H₀ (veil s.heap hp) (fnFm fd s.heap.objs.size f) (bindLoc binds fun _ => none) hp s'.heap := by
  have fresh : ∀ b, s.heap.objs.size ≤ b → (veil s.heap hp).get? b = none := fun b hb => by
    cases q : (veil s.heap hp).get? b with
    | none => rfl
    | some o => exact absurd (Heap.lt_size (of_veil q).1) (Nat.not_lt.mpr hb)
  have hL : (callEnvC fd s.heap.objs.size f).locals = s.heap.objs.size := rfl
  have habove : ∀ y c, (callEnvC fd s.heap.objs.size f).cells.lookup y = some c → s.heap.objs.size < c := fun y c l => x.above y c (mem_of_lookup l)
  refine ⟨fun b o e => x.toInCall.keep b o (of_veil e).1, base_veil R, fun y v e => ?_, ⟨_, x.toInCall.ns⟩, fresh _ (Nat.le_refl _), fun y c _ l => fresh _ (Nat.le_of_lt (habove y c l)), fun y c l => ?_, fun y z c l l' => ?_, fun b ao e => ?_⟩
  · have := bindLoc_ok (kindOf := (callEnvC fd s.heap.objs.size f).kindOf) binds (fun _ => none) (fun _ => none) (fun _ => none) hkind (fun _ _ e => by cases e) y v e
    rcases this with ⟨a, v', b, c⟩ | ⟨a, v', b, c⟩
    · exact .inl ⟨a, _, v', x.toInCall.ns, b, c⟩
    · have hs := cellsFrom_some (x := y) fd.scope.names (s.heap.objs.size + 1) [] (.inl a)
      obtain ⟨cc, hc⟩ := Option.isSome_iff_exists.mp hs
      have hc' : (callEnvC fd s.heap.objs.size f).cells.lookup y = some cc := hc
      have z := x.cell y cc hc'
      rw [b] at z
      exact .inr ⟨.inl a, cc, v', hc', z, c⟩
  · exact ⟨Nat.ne_of_gt (habove y c l), _, x.cell y c l⟩
  · exact name_of_addr x.apart (mem_of_lookup l) (mem_of_lookup l')
  · obtain ⟨_, _, _, o, ho, hi⟩ := R.at_ b ao e
    have hb := Heap.lt_size ho
    exact ⟨veil_none e, Nat.ne_of_lt hb, fun y c l => Nat.ne_of_lt (Nat.lt_trans hb (habove y c l)), o, x.toInCall.keep b o ho, hi⟩
theorem sok_called {s s' : Shared} {L : Addr} {m cm : Str → Option Value} {cs : List (Str × Addr)} (S : Sok C s) (x : InCallC s L m cs cm s') : Sok C s' := by
  obtain ⟨h, tk, rfl⟩ := x.toInCall.same
  exact S
theorem aw_callFn {f : Addr} {fd : FuncData} {body : List Stmt} {vals : List Value} {kw : List (Str × Value)} {binds : List (Str × Value)} {Q : Value → LOC → HP → Prop}
    (F : FnAt C f fd) (hbody : fd.body = .stmts body) (hclo : fd.closure = []) (hlim : C.H₀.NoLimit) (hroom : A.depth < recursionLimit)
    (hbind : ∀ s : Shared, (∀ b o, C.H₀.get? b = some o → s.heap.get? b = some o) → BindsTo s fd ⟨vals, kw⟩ binds)
    (hkb : (binds.all fun x => fd.scope.names.lookup x.1 == some .local || fd.scope.names.lookup x.1 == some .cell) = true)
    (hg : fd.globals = mainGlobals) (hb : fd.builtins = builtinsNs) (hf : fd.scope.names.all (fun x => x.2 != .free) = true)
    (h : ∀ A' g' fr' E', A'.depth = A.depth + 1 → A'.units = A.units + 3 → A'.handled = A.handled → FrOf fr' fd.scope allOwn → awf C A' g' fr' E' (execs body fr'.env) (bindLoc binds fun _ => none) hp fun fl _ p => Q (retOf fl) loc p) :
    awv C A g fr E (call (.ref f) vals kw) loc hp Q := fun s R S => by
  obtain ⟨o, ho, hd⟩ := F.at_
  have hkind : ∀ x ∈ binds, fd.scope.names.lookup x.1 = some .local ∨ fd.scope.names.lookup x.1 = some .cell := fun x hx => by
    have := List.all_eq_true.mp hkb x hx
    rcases Bool.or_eq_true_iff.mp this with q | q
    · exact .inl (by simpa using q)
    · exact .inr (by simpa using q)
  have hk : ∀ b o, C.H₀.get? b = some o → s.heap.get? b = some o := fun b o e => R.keep b o (R.base b o e)
  refine wpAny_call (codeAny_call_function hroom (hk _ _ ho) hd F.co F.gen hbody (F.code.keeps hk) (hbind s hk _ _ _ _ ?_))
  rw [hclo]
  refine wpAny_newFunctionEnv_cells F.kind (fun x hx => (hkind x hx).imp id fun e => ⟨e, cellsFrom_some _ _ _ (.inl e)⟩) fun env he s' x => ?_
  subst he
  refine ⟨(hlim.keeps hk).keeps x.toInCall.keep, codeAny_func ?_⟩
  have R' := rep_called (h := s.heap) R hkind x
  refine wpAny_mono (h (A.deeper (callEnvC fd s.heap.objs.size f)) _ (fnFm fd s.heap.objs.size f) _ rfl rfl rfl (frOf_fn fd _ f F.kind hg hb hf) s' R' (sok_called S x)) (fun fl s'' hq => ?_) fun _ _ e => e
  obtain ⟨S'', l', p', R'', q⟩ := hq
  refine ⟨S'', loc, p', R.asleep R''.keep fun b ao e => ?_, ?_⟩
  · obtain ⟨a1, _, _, a4⟩ := R''.at_ b ao e
    exact ⟨a1, a4⟩
  · cases fl <;> exact q
end
end Mine
end
section
namespace Mine
section
variable {C : Cx} {A : Around} {g : Heap} {fr : Fm} {E : Value → Shared → Prop} {loc : LOC} {hp : HP}
def Kp (C : Cx) (A : Around) (g : Heap) (fr : Fm) (E : Value → Shared → Prop) (f : Value) (loc : LOC) (hp : HP) : Prop := aw C A g fr E (keeperOf f) loc hp fun _ l p => l = loc ∧ p = hp
theorem kp_builtin {b : String} : Kp C A g fr E (.builtin b) loc hp := aw_pure ⟨rfl, rfl⟩
theorem kp_type {b : String} : Kp C A g fr E (.type b) loc hp := aw_pure ⟨rfl, rfl⟩
theorem kp_fn {f : Addr} {fd : FuncData} (F : FnAt C f fd) : Kp C A g fr E (.ref f) loc hp := fun s R S => by
  obtain ⟨o, ho, hd⟩ := F.at_
  unfold keeperOf
  refine wpAny_bind (wpAny_load (R.keep _ _ (R.base _ _ ho)) ?_)
  rw [hd]
  exact wpAny_pure ⟨S, loc, hp, R, rfl, rfl⟩
theorem kp_hp {f : Addr} {o : Obj} {fd : FuncData} (hf : hp f = some (.obj o)) (hd : o.data = .func fd) : Kp C A g fr E (.ref f) loc hp := fun s R S => by
  obtain ⟨_, _, _, o', ho, hi⟩ := R.at_ _ _ hf
  cases hi
  unfold keeperOf
  refine wpAny_bind (wpAny_load ho ?_)
  rw [hd]
  exact wpAny_pure ⟨S, loc, hp, R, rfl, rfl⟩
def awArgs (C : Cx) (A : Around) (g : Heap) (fr : Fm) (E : Value → Shared → Prop) : List Expr → LOC → HP → (List Value → LOC → HP → Prop) → Prop
  | [], l, p, Q => Q [] l p
  | e :: es, l, p, Q => awv C A g fr E (eval e fr.env) l p fun x l p => awArgs C A g fr E es l p fun xs l p => Q (x :: xs) l p
def notStar : Expr → Bool
  | .Starred .. => false
  | _ => true
theorem starEach_cons {e : Expr} (h : notStar e = true) (es : List Expr) (env : Env) : starEach (e :: es) env = (false, eval e env) :: starEach es env := by
  cases e <;> first | rfl | cases h
theorem aw_spliced {pos : Pos} : ∀ {es : List Expr} {loc : LOC} {hp : HP} {Q : List Value → LOC → HP → Prop}, es.all notStar = true → awArgs C A g fr E es loc hp Q →
    aw C A g fr E (spliced (backTo pos (starEach es fr.env))) loc hp fun vs l p => Q (vs.map nm) l p
  | [], _, _, _, _, h => aw_pure h
  | e :: es, _, _, _, hs, h => by
    rw [List.all_cons, Bool.and_eq_true] at hs
    rw [starEach_cons hs.1]
    show aw C A g fr E (spliced ((false, eval e fr.env) :: backTo pos (starEach es fr.env))) _ _ _
    unfold spliced
    refine aw_bind (aw_mono h fun v l p hv => ?_)
    simp only [Bool.false_eq_true, if_false]
    refine aw_bind (aw_pure (aw_bind (aw_holding (aw_mono (aw_spliced hs.2 hv) fun vs l p q => aw_pure ?_))))
    exact q
theorem plain_starEach {pos : Pos} {env : Env} : ∀ {es : List Expr}, es.all notStar = true → (backTo pos (starEach es env)).any (·.1) = false
  | [], _ => rfl
  | e :: es, hs => by
    rw [List.all_cons, Bool.and_eq_true] at hs
    rw [starEach_cons hs.1]
    show (false || (backTo pos (starEach es env)).any (·.1)) = false
    rw [plain_starEach hs.2]; rfl
def awKws (C : Cx) (A : Around) (g : Heap) (fr : Fm) (E : Value → Shared → Prop) : List Keyword → LOC → HP → (List (Str × Value) → LOC → HP → Prop) → Prop
  | [], l, p, Q => Q [] l p
  | k :: ks, l, p, Q => match k.arg with
    | none => False
    | some n => awv C A g fr E (eval k.value fr.env) l p fun x l p => awKws C A g fr E ks l p fun xs l p => Q ((n, x) :: xs) l p
theorem aw_evalAll_kw {pos : Pos} : ∀ {ks : List Keyword} {loc : LOC} {hp : HP} {Q : List (Str × Value) → LOC → HP → Prop}, awKws C A g fr E ks loc hp Q → ks.all (·.arg.isSome) = true →
    aw C A g fr E (evalAll ((backToKw pos (keywordEach ks fr.env)).map (·.2))) loc hp fun vs l p => Q ((((backToKw pos (keywordEach ks fr.env)).filterMap (·.1)).zip vs).map fun x => (x.1, nm x.2)) l p
  | [], _, _, _, h, _ => aw_pure h
  | k :: ks, _, _, _, h, hs => by
    obtain ⟨arg, value, kpos⟩ := k
    cases arg with
    | none => cases hs
    | some n =>
      have hs' : ks.all (·.arg.isSome) = true := by simpa using hs
      show aw C A g fr E (evalAll ((do let v ← eval value fr.env; standAt pos; pure v) :: (backToKw pos (keywordEach ks fr.env)).map (·.2))) _ _ _
      unfold evalAll
      refine aw_bind (aw_bind (aw_mono h fun v l p hv => aw_bind (aw_standAt (aw_pure (aw_bind (aw_holding (aw_mono (aw_evalAll_kw hv hs') fun vs l p q => aw_pure ?_)))))))
      exact q
theorem kw_isSome {pos : Pos} {env : Env} : ∀ {ks : List Keyword}, ks.all (·.arg.isSome) = true → (backToKw pos (keywordEach ks env)).all (·.1.isSome) = true ∧ (backToKw pos (keywordEach ks env)).any (·.1.isNone) = false
  | [], _ => ⟨rfl, rfl⟩
  | k :: ks, hs => by
    obtain ⟨arg, value, kpos⟩ := k
    cases arg with
    | none => cases hs
    | some n =>
      have hs' : ks.all (·.arg.isSome) = true := by simpa using hs
      obtain ⟨a, b⟩ := kw_isSome (pos := pos) (env := env) hs'
      exact ⟨by show (true && (backToKw pos (keywordEach ks env)).all (·.1.isSome)) = true; rw [a]; rfl, by show (false || (backToKw pos (keywordEach ks env)).any (·.1.isNone)) = false; rw [b]; rfl⟩
def onCall (C : Cx) (A : Around) (g : Heap) (fr : Fm) (E : Value → Shared → Prop) (f : Value) (xs : List Value) (kx : List (Str × Value)) (loc : LOC) (hp : HP) (Q : Value → LOC → HP → Prop) : Prop :=
  ∀ vs kw, vs.map nm = xs → kw.map (fun x => (x.1, nm x.2)) = kx → awv C A g fr E (call f vs kw) loc hp Q
theorem aw_evalArgs {pos : Pos} {f : Value} {es : List Expr} {ks : List Keyword} {Q : List Value → List (Str × Value) → LOC → HP → Prop} (hs : es.all notStar = true) (hk : ks.all (·.arg.isSome) = true)
    (h : awArgs C A g fr E es loc hp fun xs l p => awKws C A g fr E ks l p fun kx l p => Q xs kx l p) :
    aw C A g fr E (evalArgs f true (backTo pos (starEach es fr.env)) (backToKw pos (keywordEach ks fr.env))) loc hp fun a l p => Q (a.pos.map nm) (a.kw.map fun x => (x.1, nm x.2)) l p := by
  have e : evalArgs f true (backTo pos (starEach es fr.env)) (backToKw pos (keywordEach ks fr.env)) = (do
      let p ← spliced (backTo pos (starEach es fr.env))
      holding p (do
        let kw := ((backToKw pos (keywordEach ks fr.env)).filterMap (·.1)).zip (← evalAll ((backToKw pos (keywordEach ks fr.env)).map (·.2)))
        return ⟨p, kw⟩)) := by
    obtain ⟨h1, _⟩ := kw_isSome (pos := pos) (env := fr.env) hk
    unfold evalArgs
    cases es with
    | nil =>
      simp only [h1, if_true]
      show (spliced [] >>= _) = _
      simp [spliced, bind_assoc, backTo, starEach]
    | cons e es =>
      rw [List.all_cons, Bool.and_eq_true] at hs
      rw [starEach_cons hs.1]
      simp only [backTo, List.map_cons, h1, if_true, bind_assoc, pure_bind, Option.toList_none, List.append_nil]
  refine aw_congr e (aw_bind (aw_mono (aw_spliced hs h) fun vs l p hv => aw_holding (aw_bind (aw_mono (aw_evalAll_kw hv hk) fun kvs l p q => aw_pure ?_))))
  exact q
theorem aw_callWith {pos : Pos} {f : Value} {first : List Value} {es : List Expr} {ks : List Keyword} {Q : Value → LOC → HP → Prop} (hs : es.all notStar = true) (hk : ks.all (·.arg.isSome) = true)
    (h : awArgs C A g fr E es loc hp fun xs l p => awKws C A g fr E ks l p fun kx l p => Kp C A g fr E f l p ∧ onCall C A g fr E f (first.map nm ++ xs) kx l p Q) :
    awv C A g fr E (callWith pos f first (backTo pos (starEach es fr.env)) (backToKw pos (keywordEach ks fr.env))) loc hp Q := by
  unfold callWith
  refine aw_bind (aw_holding (aw_mono (aw_evalArgs hs hk h) fun a l p ⟨hkp, hc⟩ => aw_bind (aw_standAt ?_)))
  obtain ⟨_, h2⟩ := kw_isSome (pos := pos) (env := fr.env) hk
  rw [plain_starEach hs, h2]
  have hcall : awv C A g fr E (call f (first ++ a.pos) a.kw) l p Q := hc _ _ (by rw [List.map_append]) rfl
  have tail : ∀ {t : Sem Value}, aw C A g fr E t l p (fun v l p => Q (nm v) l p) → aw C A g fr E (t >>= fun r => holding [r] point >>= fun _ => pure r) l p fun v l p => Q (nm v) l p :=
    fun ht => aw_bind (aw_mono ht fun r l p q => aw_bind (aw_holding (aw_point (aw_pure q))))
  refine aw_bind (m := keeperOf f) (aw_mono hkp fun k l' p' ⟨e1, e2⟩ => ?_)
  subst e1; subst e2
  cases k with
  | frame =>
    show aw C A g fr E (if _ then _ else _) _ _ _
    split
    · exact tail hcall
    · exact tail (aw_keep hcall)
  | boundFrame =>
    show aw C A g fr E (if _ then _ else _) _ _ _
    split
    · exact tail hcall
    · exact tail (aw_keep hcall)
  | machine => exact tail hcall
  | caller => exact tail (aw_operate hcall)
theorem aw_CallName {id : Str} {p pos : Pos} {es : List Expr} {ks : List Keyword} {Q : Value → LOC → HP → Prop} (hs : es.all notStar = true) (hk : ks.all (·.arg.isSome) = true)
    (h : awv C A g fr E (eval (.Name id p) fr.env) loc hp fun f l p => awArgs C A g fr E es l p fun xs l p => awKws C A g fr E ks l p fun kx l p =>
      ∀ f', nm f' = f → Kp C A g fr E f' l p ∧ onCall C A g fr E f' xs kx l p Q) :
    awv C A g fr E (eval (.Call (.Name id p) es ks pos) fr.env) loc hp Q := by
  refine aw_congr (arm_eval_Call_Name' ..) (aw_bind (aw_mono h fun f l p hf => ?_))
  refine aw_callWith hs hk ?_
  have : ∀ {es : List Expr} {l : LOC} {p : HP} {Q Q' : List Value → LOC → HP → Prop}, awArgs C A g fr E es l p Q → (∀ xs l p, Q xs l p → Q' xs l p) → awArgs C A g fr E es l p Q' := by
    intro es
    induction es with
    | nil => intro l p Q Q' h hq; exact hq _ _ _ h
    | cons e es ih => intro l p Q Q' h hq; exact awv_mono h fun x l p hx => ih hx fun xs l p q => hq _ _ _ q
  have this2 : ∀ {ks : List Keyword} {l : LOC} {p : HP} {Q Q' : List (Str × Value) → LOC → HP → Prop}, awKws C A g fr E ks l p Q → (∀ xs l p, Q xs l p → Q' xs l p) → awKws C A g fr E ks l p Q' := by
    intro ks
    induction ks with
    | nil => intro l p Q Q' h hq; exact hq _ _ _ h
    | cons k ks ih =>
      intro l p Q Q' h hq
      obtain ⟨arg, value, kpos⟩ := k
      cases arg with
      | none => exact h.elim
      | some n =>
        have h' : awv C A g fr E (eval value fr.env) l p fun x l p => awKws C A g fr E ks l p fun xs l p => Q ((n, x) :: xs) l p := h
        exact awv_mono h' fun x l p hx => ih hx fun xs l p q => hq _ _ _ q
  exact this hf fun xs l p hx => this2 hx fun kx l p q => q f rfl
theorem ce_builtin {b : String} {xs : List Value} {kx : List (Str × Value)} {Q : Value → LOC → HP → Prop} (h : onCall C A g fr E (.builtin b) xs kx loc hp Q) : ∀ f', nm f' = .builtin b → Kp C A g fr E f' loc hp ∧ onCall C A g fr E f' xs kx loc hp Q := fun f' e => by
  rw [nm_builtin e]; exact ⟨kp_builtin, h⟩
theorem ce_type {b : String} {xs : List Value} {kx : List (Str × Value)} {Q : Value → LOC → HP → Prop} (h : onCall C A g fr E (.type b) xs kx loc hp Q) : ∀ f', nm f' = .type b → Kp C A g fr E f' loc hp ∧ onCall C A g fr E f' xs kx loc hp Q := fun f' e => by
  rw [nm_type e]; exact ⟨kp_type, h⟩
theorem ce_fn {f : Addr} {fd : FuncData} {xs : List Value} {kx : List (Str × Value)} {Q : Value → LOC → HP → Prop} (F : FnAt C f fd) (h : onCall C A g fr E (.ref f) xs kx loc hp Q) : ∀ f', nm f' = .ref f → Kp C A g fr E f' loc hp ∧ onCall C A g fr E f' xs kx loc hp Q := fun f' e => by
  rw [nm_ref e]; exact ⟨kp_fn F, h⟩
theorem ce_hp {f : Addr} {o : Obj} {fd : FuncData} {xs : List Value} {kx : List (Str × Value)} {Q : Value → LOC → HP → Prop} (hf : hp f = some (.obj o)) (hd : o.data = .func fd) (h : onCall C A g fr E (.ref f) xs kx loc hp Q) : ∀ f', nm f' = .ref f → Kp C A g fr E f' loc hp ∧ onCall C A g fr E f' xs kx loc hp Q := fun f' e => by
  rw [nm_ref e]; exact ⟨kp_hp hf hd, h⟩
end
end Mine
end
section
namespace Mine
theorem aw_of_codeAny_while {C : Cx} {A : Around} {g : Heap} {fr : Fm} {E : Value → Shared → Prop} {loc : LOC} {hp : HP} {test : Expr} {body : List Stmt} {pos : Pos} {Q : Flow → LOC → HP → Prop} (Inv : Nat → LOC → HP → Prop)
    (turn : ∀ n l p E', Inv n l p → aw C A g fr E' (isTrue test fr.env (eval test fr.env)) l p fun b l p => if b then awf C A g fr E' (execs body fr.env) l p (fun f l p => match f with
        | .next | .cont => ∃ m, m < n ∧ Inv m l p
        | .brk => Q .next l p
        | .ret v => Q (.ret v) l p) else Q .next l p)
    (n : Nat) (h : Inv n loc hp) : awf C A g fr E (exec (.While test body [] pos) fr.env) loc hp Q := fun s R S => by
  refine wpAny_While (codeAny_whileLoop (fun n s => Sok C s ∧ ∃ l p, Rep C.H₀ g fr l p s.heap ∧ Inv n l p) (fun n s' hI => ?_) n ⟨S, loc, hp, R, h⟩)
  obtain ⟨S', l, p, R', hI⟩ := hI
  refine wpAny_mono (turn n l p _ hI s' R' S') (fun b s₂ h₂ => ?_) fun _ _ e => e
  obtain ⟨S₂, l₂, p₂, R₂, h₂⟩ := h₂
  cases b with
  | false => exact wpAny_execs_nil ⟨S₂, l₂, p₂, R₂, h₂⟩
  | true =>
    refine wpAny_mono (h₂ s₂ R₂ S₂) (fun f s₃ h₃ => ?_) fun _ _ e => e
    obtain ⟨S₃, l₃, p₃, R₃, h₃⟩ := h₃
    cases f with
    | next => obtain ⟨m, hm, hi⟩ := h₃; exact ⟨m, hm, S₃, l₃, p₃, R₃, hi⟩
    | cont => obtain ⟨m, hm, hi⟩ := h₃; exact ⟨m, hm, S₃, l₃, p₃, R₃, hi⟩
    | brk => exact ⟨S₃, l₃, p₃, R₃, h₃⟩
    | ret v => exact ⟨S₃, l₃, p₃, R₃, h₃⟩
section
variable {C : Cx} {A : Around} {g : Heap} {fr : Fm} {E : Value → Shared → Prop} {loc : LOC} {hp : HP}
/-! ### ints -/
theorem op_add {a b : Int} {Q : Value → LOC → HP → Prop} (h : Q (.int (a + b) 0) loc hp) : ov2 C A g fr E (binaryOp .Add) (.int a 0) (.int b 0) loc hp Q := by
  intro x y hx hy; obtain ⟨t, rfl⟩ := nm_int hx; obtain ⟨u, rfl⟩ := nm_int hy; exact fun s R S => add_int ⟨S, loc, hp, R, h⟩
theorem op_sub {a b : Int} {Q : Value → LOC → HP → Prop} (h : Q (.int (a - b) 0) loc hp) : ov2 C A g fr E (binaryOp .Sub) (.int a 0) (.int b 0) loc hp Q := by
  intro x y hx hy; obtain ⟨t, rfl⟩ := nm_int hx; obtain ⟨u, rfl⟩ := nm_int hy; exact fun s R S => sub_int ⟨S, loc, hp, R, h⟩
theorem op_mul {a b : Int} {Q : Value → LOC → HP → Prop} (hm : IntMulOk a b) (h : Q (.int (a * b) 0) loc hp) : ov2 C A g fr E (binaryOp .Mult) (.int a 0) (.int b 0) loc hp Q := by
  intro x y hx hy; obtain ⟨t, rfl⟩ := nm_int hx; obtain ⟨u, rfl⟩ := nm_int hy; exact fun s R S => mul_int ⟨S, loc, hp, R, h⟩ hm
theorem op_mod {a b : Int} {Q : Value → LOC → HP → Prop} (hb : 0 < b) (h : Q (.int (a % b) 0) loc hp) : ov2 C A g fr E (binaryOp .Mod) (.int a 0) (.int b 0) loc hp Q := by
  intro x y hx hy; obtain ⟨t, rfl⟩ := nm_int hx; obtain ⟨u, rfl⟩ := nm_int hy
  rw [← Int.fmod_eq_emod_of_nonneg _ (Int.le_of_lt hb)] at h
  exact fun s R S => mod_int' (by omega) ⟨S, loc, hp, R, h⟩
theorem op_div {a b : Int} {Q : Value → LOC → HP → Prop} (hb : 0 < b) (hs : b.natAbs < 1073741824) (h : Q (.int (a / b) 0) loc hp) : ov2 C A g fr E (binaryOp .FloorDiv) (.int a 0) (.int b 0) loc hp Q := by
  intro x y hx hy; obtain ⟨t, rfl⟩ := nm_int hx; obtain ⟨u, rfl⟩ := nm_int hy
  rw [← Int.fdiv_eq_ediv_of_nonneg _ (Int.le_of_lt hb)] at h
  exact fun s R S => floordiv_int (by omega) ⟨S, loc, hp, R, h⟩ (.inl (PyProof.noPylong_small hs))
theorem op_and {a b : Int} {Q : Value → LOC → HP → Prop} (h : Q (.int (Builtin.bitAnd a b) 0) loc hp) : ov2 C A g fr E (binaryOp .BitAnd) (.int a 0) (.int b 0) loc hp Q := by
  intro x y hx hy; obtain ⟨t, rfl⟩ := nm_int hx; obtain ⟨u, rfl⟩ := nm_int hy; exact fun s R S => and_int ⟨S, loc, hp, R, h⟩
theorem op_shl {a b : Int} {Q : Value → LOC → HP → Prop} (h0 : 0 ≤ b) (h1 : b ≤ 1000000) (h2 : a.natAbs < 2 ^ 64) (h : Q (.int (a * 2 ^ b.toNat) 0) loc hp) : ov2 C A g fr E (binaryOp .LShift) (.int a 0) (.int b 0) loc hp Q := by
  intro x y hx hy; obtain ⟨t, rfl⟩ := nm_int hx; obtain ⟨u, rfl⟩ := nm_int hy; exact fun s R S => lshift_int_small h0 h1 h2 ⟨S, loc, hp, R, h⟩
theorem op_pow {a b : Int} {Q : Value → LOC → HP → Prop} (h0 : 0 ≤ b) (h1 : b ≤ 1000000) (h2 : a.natAbs < 2 ^ 64) (h : Q (.int (a ^ b.toNat) 0) loc hp) : ov2 C A g fr E (binaryOp .Pow) (.int a 0) (.int b 0) loc hp Q := by
  intro x y hx hy; obtain ⟨t, rfl⟩ := nm_int hx; obtain ⟨u, rfl⟩ := nm_int hy; exact fun s R S => pow_int_small h0 h1 h2 ⟨S, loc, hp, R, h⟩
theorem op_iadd {a b : Int} {Q : Value → LOC → HP → Prop} (h : Q (.int (a + b) 0) loc hp) : ov2 C A g fr E (inplaceOp .Add) (.int a 0) (.int b 0) loc hp Q := by
  intro x y hx hy; obtain ⟨t, rfl⟩ := nm_int hx; obtain ⟨u, rfl⟩ := nm_int hy; exact fun s R S => iadd_int ⟨S, loc, hp, R, h⟩
theorem op_ior {a b : Int} {Q : Value → LOC → HP → Prop} (h : Q (.int (Builtin.bitOr a b) 0) loc hp) : ov2 C A g fr E (inplaceOp .BitOr) (.int a 0) (.int b 0) loc hp Q := by
  intro x y hx hy; obtain ⟨t, rfl⟩ := nm_int hx; obtain ⟨u, rfl⟩ := nm_int hy; exact fun s R S => ior_int ⟨S, loc, hp, R, h⟩
theorem op_ixor {a b : Int} {Q : Value → LOC → HP → Prop} (h : Q (.int (Builtin.bitXor a b) 0) loc hp) : ov2 C A g fr E (inplaceOp .BitXor) (.int a 0) (.int b 0) loc hp Q := by
  intro x y hx hy; obtain ⟨t, rfl⟩ := nm_int hx; obtain ⟨u, rfl⟩ := nm_int hy; exact fun s R S => ixor_int ⟨S, loc, hp, R, h⟩
theorem op_ishl {a b : Int} {Q : Value → LOC → HP → Prop} (h0 : 0 ≤ b) (h1 : (Builtin.Int.intBits a : Int) + b ≤ 2 ^ 27) (h : Q (.int (a * 2 ^ b.toNat) 0) loc hp) : ov2 C A g fr E (inplaceOp .LShift) (.int a 0) (.int b 0) loc hp Q := by
  intro x y hx hy; obtain ⟨t, rfl⟩ := nm_int hx; obtain ⟨u, rfl⟩ := nm_int hy; exact fun s R S => ilshift_int h0 h1 ⟨S, loc, hp, R, h⟩
theorem op_neg {a : Int} {Q : Value → LOC → HP → Prop} (h : Q (.int (-a) 0) loc hp) : ov1 C A g fr E (unaryOp .USub) (.int a 0) loc hp Q := by
  intro x hx; obtain ⟨t, rfl⟩ := nm_int hx; exact fun s R S => neg_int ⟨S, loc, hp, R, h⟩
theorem cop_lt {a b : Int} {Q : Value → LOC → HP → Prop} (h : Q (.bool (decide (a < b))) loc hp) : ov2 C A g fr E (compareOp .Lt) (.int a 0) (.int b 0) loc hp Q := by
  intro x y hx hy; obtain ⟨t, rfl⟩ := nm_int hx; obtain ⟨u, rfl⟩ := nm_int hy; exact fun s R S => lt_int ⟨S, loc, hp, R, h⟩
theorem cop_gt {a b : Int} {Q : Value → LOC → HP → Prop} (h : Q (.bool (decide (b < a))) loc hp) : ov2 C A g fr E (compareOp .Gt) (.int a 0) (.int b 0) loc hp Q := by
  intro x y hx hy; obtain ⟨t, rfl⟩ := nm_int hx; obtain ⟨u, rfl⟩ := nm_int hy; exact fun s R S => gt_int ⟨S, loc, hp, R, h⟩
theorem cop_le {a b : Int} {Q : Value → LOC → HP → Prop} (h : Q (.bool (decide (a ≤ b))) loc hp) : ov2 C A g fr E (compareOp .LtE) (.int a 0) (.int b 0) loc hp Q := by
  intro x y hx hy; obtain ⟨t, rfl⟩ := nm_int hx; obtain ⟨u, rfl⟩ := nm_int hy; exact fun s R S => le_int ⟨S, loc, hp, R, h⟩
theorem cop_ge {a b : Int} {Q : Value → LOC → HP → Prop} (h : Q (.bool (decide (b ≤ a))) loc hp) : ov2 C A g fr E (compareOp .GtE) (.int a 0) (.int b 0) loc hp Q := by
  intro x y hx hy; obtain ⟨t, rfl⟩ := nm_int hx; obtain ⟨u, rfl⟩ := nm_int hy; exact fun s R S => ge_int ⟨S, loc, hp, R, h⟩
theorem cop_eq {a b : Int} {Q : Value → LOC → HP → Prop} (h : Q (.bool (a == b)) loc hp) : ov2 C A g fr E (compareOp .Eq) (.int a 0) (.int b 0) loc hp Q := by
  intro x y hx hy; obtain ⟨t, rfl⟩ := nm_int hx; obtain ⟨u, rfl⟩ := nm_int hy; exact fun s R S => eq_int ⟨S, loc, hp, R, h⟩
theorem cop_ne {a b : Int} {Q : Value → LOC → HP → Prop} (h : Q (.bool (a != b)) loc hp) : ov2 C A g fr E (compareOp .NotEq) (.int a 0) (.int b 0) loc hp Q := by
  intro x y hx hy; obtain ⟨t, rfl⟩ := nm_int hx; obtain ⟨u, rfl⟩ := nm_int hy; exact fun s R S => ne_int ⟨S, loc, hp, R, h⟩
theorem cop_isNone {x : Value} {Q : Value → LOC → HP → Prop} (h : Q (.bool (x == Value.none)) loc hp) : ov2 C A g fr E (compareOp .Is) x .none loc hp Q := by
  intro v y hx hy
  rw [nm_none hy]
  have e : (x == Value.none) = (v == Value.none) := by
    subst hx
    cases v <;> rfl
  rw [e] at h
  exact fun s R S => is_none ⟨S, loc, hp, R, h⟩
/-! ### lists and tuples -/
theorem Rep.list {H₀ h : Heap} {a : Addr} {xs : List Value} (R : Rep H₀ g fr loc hp h) (ha : hp a = some (.list xs)) : ∃ vs n, h.get? a = some { cls := .type "list", data := .seq vs n } ∧ vs.toList.map nm = xs := by
  obtain ⟨_, _, _, o, ho, vs, n, rfl, e⟩ := R.at_ a _ ha
  exact ⟨vs, n, ho, e⟩
theorem Rep.tuple {H₀ h : Heap} {a : Addr} {xs : List Value} (R : Rep H₀ g fr loc hp h) (ha : hp a = some (.tuple xs)) : ∃ vs n, h.get? a = some { cls := .type "tuple", data := .seq vs n } ∧ vs.toList.map nm = xs := by
  obtain ⟨_, _, _, o, ho, vs, n, rfl, e⟩ := R.at_ a _ ha
  exact ⟨vs, n, ho, e⟩
theorem nm_get {vs : Array Value} {xs : List Value} {i : Nat} {x : Value} (e : vs.toList.map nm = xs) (hx : xs[i]? = some x) : ∃ v, vs[i]? = some v ∧ nm v = x := by
  subst e
  rw [List.getElem?_map] at hx
  obtain ⟨v, hv, rfl⟩ := Option.map_eq_some_iff.mp hx
  exact ⟨v, by simpa using hv, rfl⟩
theorem nm_size {vs : Array Value} {xs : List Value} (e : vs.toList.map nm = xs) : vs.size = xs.length := by subst e; simp
theorem sub_list {value slice : Expr} {l : Addr} {i : Int} {xs : List Value} {x : Value} {Q : Value → LOC → HP → Prop} (hs : ∀ o j, subscripted slice false o j = operate [o, j] (getItem o j)) (hl : hp l = some (.list xs)) (h0 : 0 ≤ i) (hi : i < 2 ^ 63) (hx : xs[i.toNat]? = some x) (h : Q x loc hp) :
    ov2 C A g fr E (subscriptTail value slice) (.ref l) (.int i 0) loc hp Q := by
  intro a b ha hb; obtain ⟨t, rfl⟩ := nm_int hb; have := nm_ref ha; subst this
  intro s R S
  obtain ⟨vs, n, e, q⟩ := R.list hl
  obtain ⟨v, hv, rfl⟩ := nm_get q hx
  have hL : s.heap.IsList l vs := ⟨_, e, rfl, n, rfl⟩
  exact tail_any hL.typeIs slot_list_getitem.lookup (wpAny_getItem_list hL h0 hi hv ⟨S, loc, hp, R, h⟩) (hs _ _)
theorem sub_list_neg {value slice : Expr} {l : Addr} {i : Int} {xs : List Value} {x : Value} {Q : Value → LOC → HP → Prop} (hs : ∀ o j, subscripted slice false o j = operate [o, j] (getItem o j)) (hl : hp l = some (.list xs)) (h0 : i < 0) (hi : -(xs.length : Int) ≤ i) (hsz : xs.length ≤ sizeLine) (hx : xs[(xs.length + i).toNat]? = some x) (h : Q x loc hp) :
    ov2 C A g fr E (subscriptTail value slice) (.ref l) (.int i 0) loc hp Q := by
  intro a b ha hb; obtain ⟨t, rfl⟩ := nm_int hb; have := nm_ref ha; subst this
  intro s R S
  obtain ⟨vs, n, e, q⟩ := R.list hl
  obtain ⟨v, hv, rfl⟩ := nm_get q hx
  have hL : s.heap.IsList l vs := ⟨_, e, rfl, n, rfl⟩
  have hz := nm_size q
  rw [sizeLine_eq] at hsz
  have h63 : -(2 ^ 63 : Int) ≤ i := by
    have h9 : (-(2 ^ 63 : Int)) ≤ -16777216 := by decide
    omega
  have e2 : (i + (vs.size : Int)).toNat = (xs.length + i).toNat := by omega
  exact tail_any hL.typeIs slot_list_getitem.lookup (wpAny_getItem_list_neg (x := v) hL h0 (by omega) h63 (by rw [e2]; exact hv) ⟨S, loc, hp, R, h⟩) (hs _ _)
theorem sub_tuple {value slice : Expr} {l : Addr} {i : Int} {xs : List Value} {x : Value} {Q : Value → LOC → HP → Prop} (hs : ∀ o j, subscripted slice false o j = operate [o, j] (getItem o j)) (hl : hp l = some (.tuple xs)) (h0 : 0 ≤ i) (hi : i < 2 ^ 63) (hx : xs[i.toNat]? = some x) (h : Q x loc hp) :
    ov2 C A g fr E (subscriptTail value slice) (.ref l) (.int i 0) loc hp Q := by
  intro a b ha hb; obtain ⟨t, rfl⟩ := nm_int hb; have := nm_ref ha; subst this
  intro s R S
  obtain ⟨vs, n, e, q⟩ := R.tuple hl
  obtain ⟨v, hv, rfl⟩ := nm_get q hx
  have hk : seqIndex? i vs.size = some i.toNat := by
    unfold seqIndex?
    have := (Array.getElem?_eq_some_iff.mp hv).1
    simp only
    split <;> first | omega | skip
    all_goals (simp; omega)
  exact tail_any (T := "tuple") ⟨_, e, rfl⟩ F.slot_tuple_getitem.lookup (P.getItem_tuple (n := n) e (by omega) hi hk hv ⟨S, loc, hp, R, h⟩) (hs _ _)
theorem aw_Subscript {value slice : Expr} {pos : Pos} {Q : Value → LOC → HP → Prop}
    (h : awv C A g fr E (eval value fr.env) loc hp fun x l p => awv C A g fr E (eval slice fr.env) l p fun y l p => ov2 C A g fr E (subscriptTail value slice) x y l p Q) :
    awv C A g fr E (eval (.Subscript value slice pos) fr.env) loc hp Q := by
  refine aw_congr (eval_Subscript ..) (aw_bind (aw_mono h fun o l p h₁ => aw_bind (aw_holding (aw_mono h₁ fun i l p h₂ => aw_bind (aw_standAt ?_)))))
  exact h₂ o i rfl rfl
theorem onCall0 {f : Value} {Q : Value → LOC → HP → Prop} (h : awv C A g fr E (call f [] []) loc hp Q) : onCall C A g fr E f [] [] loc hp Q := by
  intro vs kw hv hk
  cases List.map_eq_nil_iff.mp hv
  cases List.map_eq_nil_iff.mp hk
  exact h
theorem onCall1 {f x : Value} {Q : Value → LOC → HP → Prop} (h : ∀ v, nm v = x → awv C A g fr E (call f [v] []) loc hp Q) : onCall C A g fr E f [x] [] loc hp Q := by
  intro vs kw hv hk
  cases List.map_eq_nil_iff.mp hk
  cases vs with
  | nil => cases hv
  | cons v r =>
    injection hv with a b
    cases List.map_eq_nil_iff.mp b
    exact h v a
theorem onCall2 {f x y : Value} {Q : Value → LOC → HP → Prop} (h : ∀ v u, nm v = x → nm u = y → awv C A g fr E (call f [v, u] []) loc hp Q) : onCall C A g fr E f [x, y] [] loc hp Q := by
  intro vs kw hv hk
  cases List.map_eq_nil_iff.mp hk
  cases vs with
  | nil => cases hv
  | cons v r =>
    injection hv with a b
    cases r with
    | nil => cases b
    | cons u r =>
      injection b with b c
      cases List.map_eq_nil_iff.mp c
      exact h v u a b
theorem onCall3 {f x y z : Value} {Q : Value → LOC → HP → Prop} (h : ∀ v u w, nm v = x → nm u = y → nm w = z → awv C A g fr E (call f [v, u, w] []) loc hp Q) : onCall C A g fr E f [x, y, z] [] loc hp Q := by
  intro vs kw hv hk
  cases List.map_eq_nil_iff.mp hk
  cases vs with
  | nil => cases hv
  | cons v r =>
    injection hv with a b
    cases r with
    | nil => cases b
    | cons u r =>
      injection b with b c
      cases r with
      | nil => cases c
      | cons w r =>
        injection c with c d
        cases List.map_eq_nil_iff.mp d
        exact h v u w a b c
theorem call_len_list' {l : Addr} {xs : List Value} {Q : Value → LOC → HP → Prop} (hl : hp l = some (.list xs)) (hsz : xs.length ≤ sizeLine) (h : Q (.int xs.length 0) loc hp) : onCall C A g fr E (.builtin "len") [.ref l] [] loc hp Q := onCall1 fun v hv => by
  have := nm_ref hv; subst this
  intro s R S
  obtain ⟨ws, n, e, q⟩ := R.list hl
  have hL : s.heap.IsList l ws := ⟨_, e, rfl, n, rfl⟩
  have hz := nm_size q
  rw [sizeLine_eq] at hsz
  exact PyProof.Rows.len_list hL (by omega) ⟨S, loc, hp, R, by rw [← hz] at h; exact h⟩
end
end Mine
end
section
namespace Mine
/-! ## the frame rule: what is not named stands still -/
def hjoin (p r : HP) : HP := fun b => match p b with | some o => some o | none => r b
def Apart (p r : HP) : Prop := ∀ b, r b ≠ none → p b = none
theorem hjoin_l {p r : HP} {b : Addr} {o : AO} (h : p b = some o) : hjoin p r b = some o := by unfold hjoin; rw [h]
theorem hjoin_r {p r : HP} {b : Addr} {o : AO} (ha : Apart p r) (h : r b = some o) : hjoin p r b = some o := by unfold hjoin; rw [ha b (by rw [h]; exact fun e => nomatch e)]; exact h
section
variable {α : Type} {C : Cx} {A : Around} {g : Heap} {fr : Fm} {E : Value → Shared → Prop} {loc : LOC} {hp : HP}
open Classical in
noncomputable def maskOf (fr : Fm) (hp : HP) : HP := fun b => if (hp b).isSome = true ∨ b = fr.env.locals ∨ ∃ x, fr.own x = true ∧ fr.env.cells.lookup x = some b then some (.obj default) else none
theorem mask_some {fr : Fm} {hp : HP} {b : Addr} (h : (hp b).isSome = true ∨ b = fr.env.locals ∨ ∃ x, fr.own x = true ∧ fr.env.cells.lookup x = some b) : maskOf fr hp b = some (.obj default) := if_pos h
theorem mask_none {fr : Fm} {hp : HP} {b : Addr} (h1 : hp b = none) (h2 : b ≠ fr.env.locals) (h3 : ∀ x, fr.own x = true → fr.env.cells.lookup x ≠ some b) : maskOf fr hp b = none :=
  if_neg (by
    rintro (q | q | ⟨x, q, z⟩)
    · rw [h1] at q; cases q
    · exact h2 q
    · exact h3 x q z)
theorem aw_frame {t : Sem α} {r : HP} {Q : α → LOC → HP → Prop} (ha : Apart hp r) (h : ∀ g', aw C A g' fr E t loc hp Q) :
    aw C A g fr E t loc (hjoin hp r) fun a l p => ∃ p₀, p = hjoin p₀ r ∧ Apart p₀ r ∧ Q a l p₀ := fun s R S => by
  have gm : ∀ b o, g.get? b = some o → (veil s.heap (maskOf fr hp)).get? b = some o := fun b o e => by
    rw [veil_get (mask_none ?_ ?_ ?_)]
    · exact R.keep b o e
    · cases q : hp b with
      | none => rfl
      | some a => have := (R.at_ b a (hjoin_l q)).1; rw [e] at this; cases this
    · rintro rfl; rw [R.nsn] at e; cases e
    · intro x w l; have := R.cell x b w l; rw [e] at this; cases this
  have R' : Rep C.H₀ (veil s.heap (maskOf fr hp)) fr loc hp s.heap := {
    keep := fun b o e => (of_veil e).1
    base := fun b o e => gm b o (R.base b o e)
    loc := R.loc
    ns := R.ns
    nsn := veil_none (mask_some (.inr (.inl rfl)))
    cell := fun x c w l => veil_none (mask_some (.inr (.inr ⟨x, w, l⟩)))
    cne := R.cne
    apart := R.apart
    at_ := fun b ao e => let ⟨_, b', c, d⟩ := R.at_ b ao (hjoin_l e); ⟨veil_none (mask_some (.inl (by rw [e]; rfl))), b', c, d⟩ }
  refine wpAny_mono (h _ s R' S) (fun a s' ⟨S', l', p', R'', q⟩ => ?_) fun _ _ e => e
  have ra : ∀ b o, r b = some o → (veil s.heap (maskOf fr hp)).get? b = s.heap.get? b := fun b o e => by
    have e' := hjoin_r ha e
    obtain ⟨_, h2, h3, _⟩ := R.at_ b o e'
    exact veil_get (mask_none (ha b (by rw [e]; exact fun z => nomatch z)) h2 fun x _ l => h3 x b l rfl)
  have ap : Apart p' r := fun b hb => by
    cases hr : r b with
    | none => exact absurd hr hb
    | some o =>
      cases q : p' b with
      | none => rfl
      | some a =>
        have h1 := (R''.at_ b a q).1
        obtain ⟨_, _, _, o', ho, _⟩ := R.at_ b o (hjoin_r ha hr)
        rw [ra b o hr, ho] at h1; cases h1
  refine ⟨S', l', hjoin p' r, ⟨fun b o e => R''.keep b o (gm b o e), R.base, R''.loc, R''.ns, R.nsn, R.cell, R''.cne, R.apart, fun b ao e => ?_⟩, p', rfl, ap, q⟩
  have gn : ∀ b, (veil s.heap (maskOf fr hp)).get? b = none → g.get? b = none := fun b e => by
    cases z : g.get? b with
    | none => rfl
    | some o => rw [gm b o z] at e; cases e
  unfold hjoin at e
  cases z : p' b with
  | some o =>
    rw [z] at e; cases e
    obtain ⟨a1, a2⟩ := R''.at_ b _ z
    exact ⟨gn b a1, a2⟩
  | none =>
    rw [z] at e
    obtain ⟨h1, h2, h3, o, ho, hi⟩ := R.at_ b ao (hjoin_r ha e)
    exact ⟨h1, h2, h3, o, R''.keep b o (by rw [ra b ao e]; exact ho), hi⟩
/-! ## sources of loops -/
def Adv (C : Cx) (A : Around) (g : Heap) (fr : Fm) (E : Value → Shared → Prop) (target : Expr) (it : Value) (l : LOC) (p : HP) (Q : LOC → HP → Prop) : Prop :=
  aw C A g fr E (pyNext it) l p fun r l p => ∃ v, r = some v ∧ aw C A g fr E (letOwnedTupleGo target it v) l p fun _ l p => aw C A g fr E (assign target fr.env v) l p fun _ l p => Q l p
def Stp (C : Cx) (A : Around) (g : Heap) (fr : Fm) (E : Value → Shared → Prop) (it : Value) (l : LOC) (p : HP) (Q : LOC → HP → Prop) : Prop :=
  aw C A g fr E (pyNext it) l p fun r l p => r = none ∧ Q l p
def setAll : List Str → List Value → LOC → LOC
  | x :: xs, v :: vs, l => setAll xs vs (lset l x v)
  | _, _, l => l
structure Src (C : Cx) (A : Around) (target : Expr) (names : List Str) (it : Value) (vss : List (List Value)) (need : HP → Prop) (St : Nat → HP → Prop) : Prop where
  adv : ∀ i vs r p g fr E l Q, vss[i]? = some vs → St i r → need p → Apart p r → (∀ x ∈ names, Sto fr x) → (∀ r', St (i + 1) r' → Apart p r' → Q (setAll names vs l) (hjoin p r')) → Adv C A g fr E target it l (hjoin p r) Q
  stp : ∀ r p g fr E l Q, St vss.length r → need p → Apart p r → (∀ r', Apart p r' → Q l (hjoin p r')) → Stp C A g fr E it l (hjoin p r) Q
  self : ∀ i r p g fr E l Q, St i r → need p → Apart p r → Q it l (hjoin p r) → aw C A g fr E (pyIter it) l (hjoin p r) Q
  up : ∀ p p' : HP, (∀ b o, p b = some o → p' b = some o) → need p → need p'
theorem hjoin_drop (p r : HP) : ∀ b o, p b = some o → hjoin p r b = some o := fun _ _ e => hjoin_l e
theorem wpAny_forLoop_core {prog : Program} {w : World} {A : Around} {R : Result → Shared → Prop} {s : Shared} {target it body orelse env} (I : Nat → Shared → Prop)
    (turn : ∀ n s, I n s → wpAny (model prog w) A (pyNext it) (fun r s₁ => match r with
      | none => wpAny (model prog w) A (execs orelse env) (fun f s' => R (.ok f) s') (notedBy (model prog w) A env fun e s' => R (.error e) s') s₁
      | some v => wpAny (model prog w) A (letOwnedTupleGo target it v) (fun _ s₂ => wpAny (model prog w) A (assign target env v) (fun _ s₂ => wpAny (model prog w) A (execs body env) (fun f s₃ => match f with
          | .next | .cont => ∃ m, m < n ∧ I m s₃
          | .brk => R (.ok .next) s₃
          | .ret v => R (.ok (.ret v)) s₃) (notedBy (model prog w) A env fun e s' => R (.error e) s') s₂) (notedBy (model prog w) A env fun e s' => R (.error e) s') s₂) (notedBy (model prog w) A env fun e s' => R (.error e) s') s₁)
        (notedBy (model prog w) A env fun e s' => R (.error e) s') s)
    (n : Nat) (h : I n s) : codeAny (model prog w) A (.forLoop target it body orelse env) R s := by
  refine codeAny_loop' rfl I (fun n s hI => ?_) n h
  show wpAny _ A ((forTurn target it body orelse env).onRaise (fun x => do noteFrame x env; theTreesLotGoes x)) _ _ s
  refine wpAny_noted ?_
  simp only [forTurn]
  refine wpAny_bind (wpAny_standAt (wpAny_bind (wpAny_onRaise (wpAny_mono (turn n s hI) (fun r s₁ h₁ => ?_) fun _ _ h' => wpAny_standAt h'))))
  cases r with
  | none => exact wpAny_pure (.inr ⟨rfl, codeAny_block h₁⟩)
  | some v =>
    refine wpAny_bind (wpAny_mono h₁ (fun _ s₂ h₂ => wpAny_bind (wpAny_mono h₂ (fun _ s₂ h₂ => wpAny_bind (wpAny_mono h₂ (fun f s₃ h₃ => ?_) fun _ _ h' => h')) fun _ _ h' => h')) fun _ _ h' => h')
    cases f with
    | next => exact wpAny_pure (.inl ⟨rfl, h₃⟩)
    | cont => exact wpAny_pure (.inl ⟨rfl, h₃⟩)
    | brk => exact wpAny_pure h₃
    | ret v => exact wpAny_pure h₃
theorem awf_forLoop {target : Expr} {names : List Str} {body orelse : List Stmt} {it : Value} {vss : List (List Value)} {need : HP → Prop} {St : Nat → HP → Prop} {r₀ : HP} {Q : Flow → LOC → HP → Prop}
    (W : Src C A target names it vss need St) (hok : ∀ x ∈ names, Sto fr x) (hst : St 0 r₀) (hap : Apart hp r₀) (Inv : Nat → LOC → HP → Prop) (h0 : Inv 0 loc hp) (hn : ∀ i l p, Inv i l p → need p)
    (turn : ∀ i vs l p g' E', vss[i]? = some vs → Inv i l p → awf C A g' fr E' (execs body fr.env) (setAll names vs l) p fun f l p => match f with
      | .next | .cont => Inv (i + 1) l p
      | .brk => Q .next l p
      | .ret v => Q (.ret v) l p)
    (fin : ∀ l p g' E', Inv vss.length l p → awf C A g' fr E' (execs orelse fr.env) l p Q) (s : Shared) (R : Rep C.H₀ g fr loc (hjoin hp r₀) s.heap) (S : Sok C s) (E₁ : Value → Shared → Prop) :
    codeAny (model C.prog C.w) A (.forLoop target it body orelse fr.env) (fun r s' => match r with | .ok f => Sok C s' ∧ ∃ l p, Rep C.H₀ g fr l p s'.heap ∧ Q (nmF f) l p | .error e => E₁ e s') s := by
  refine wpAny_forLoop_core (fun k s' => Sok C s' ∧ ∃ i l p r, k = vss.length - i ∧ i ≤ vss.length ∧ Rep C.H₀ g fr l (hjoin p r) s'.heap ∧ St i r ∧ Apart p r ∧ Inv i l p) ?_ vss.length ⟨S, 0, loc, hp, r₀, rfl, Nat.zero_le _, R, hst, hap, h0⟩
  rintro k s' ⟨S', i, l, p, r, rfl, hi, R', hst', hap', hI⟩
  by_cases hlt : i < vss.length
  · have hget : vss[i]? = some vss[i] := List.getElem?_eq_getElem hlt
    have := W.adv i _ r p g fr (notedBy (model C.prog C.w) A fr.env fun e s' => E₁ e s') l (fun l' p' => ∃ r', St (i + 1) r' ∧ Apart p r' ∧ l' = setAll names vss[i] l ∧ p' = hjoin p r') hget hst' (hn i l p hI) hap' hok (fun r' a b => ⟨r', a, b, rfl, rfl⟩) s' R' S'
    refine wpAny_mono this (fun rr s₁ ⟨S₁, l₁, p₁, R₁, v, e, h₁⟩ => ?_) fun _ _ e => e
    subst e
    refine wpAny_mono (h₁ s₁ R₁ S₁) (fun _ s₂ ⟨S₂, l₂, p₂, R₂, h₂⟩ => ?_) fun _ _ e => e
    refine wpAny_mono (h₂ s₂ R₂ S₂) (fun _ s₃ ⟨S₃, l₃, p₃, R₃, r', hst₃, hap₃, e1, e2⟩ => ?_) fun _ _ e => e
    subst e1; subst e2
    have tb := aw_frame (C := C) (A := A) (g := g) (fr := fr) (E := notedBy (model C.prog C.w) A fr.env fun e s' => E₁ e s') hap₃ (fun g' => turn i _ l p g' _ hget hI)
    refine wpAny_mono (tb s₃ R₃ S₃) (fun f s₄ ⟨S₄, l₄, p₄, R₄, p₅, e, hap₅, q⟩ => ?_) fun _ _ e => e
    subst e
    cases f with
    | next => exact ⟨vss.length - (i + 1), by omega, S₄, i + 1, l₄, p₅, r', rfl, hlt, R₄, hst₃, hap₅, q⟩
    | cont => exact ⟨vss.length - (i + 1), by omega, S₄, i + 1, l₄, p₅, r', rfl, hlt, R₄, hst₃, hap₅, q⟩
    | brk => exact ⟨S₄, l₄, p₅, R₄.forget (fun _ _ e => e) (hjoin_drop _ _), q⟩
    | ret v => exact ⟨S₄, l₄, p₅, R₄.forget (fun _ _ e => e) (hjoin_drop _ _), q⟩
  · have hin : i = vss.length := by omega
    subst hin
    have := W.stp r p g fr (notedBy (model C.prog C.w) A fr.env fun e s' => E₁ e s') l (fun l' p' => l' = l ∧ ∃ r', p' = hjoin p r') hst' (hn _ l p hI) hap' (fun r' _ => ⟨rfl, r', rfl⟩) s' R' S'
    refine wpAny_mono this (fun rr s₁ ⟨S₁, l₁, p₁, R₁, e, e1, r', e2⟩ => ?_) fun _ _ e => e
    subst e; subst e1; subst e2
    exact fin l₁ p g _ hI s₁ (R₁.forget (fun _ _ e => e) (hjoin_drop _ _)) S₁
def ItTo (C : Cx) (A : Around) (target : Expr) (names : List Str) (x : Value) (vss : List (List Value)) (need : HP → Prop) (r₁ : HP) : Prop :=
  ∀ g fr E l p x' (Q : Value → LOC → HP → Prop), nm x' = x → need p → Apart p r₁ → (∀ it St r₀, Src C A target names it vss need St → St 0 r₀ → Apart p r₀ → Q it l (hjoin p r₀)) → aw C A g fr E (pyIter x') l (hjoin p r₁) Q
def onIt (C : Cx) (A : Around) (target : Expr) (names : List Str) (x : Value) (l : LOC) (p : HP) (K : List (List Value) → (HP → Prop) → LOC → HP → Prop) : Prop :=
  ∃ vss need r₁ p₀, p = hjoin p₀ r₁ ∧ need p₀ ∧ Apart p₀ r₁ ∧ ItTo C A target names x vss need r₁ ∧ K vss need l p₀
theorem awf_For {target iter : Expr} {names : List Str} {body orelse : List Stmt} {pos : Pos} {Q : Flow → LOC → HP → Prop} (hfs : ∀ x, foldedSetIterable iter fr.env x = pure x) (hok : ∀ x ∈ names, Sto fr x)
    (h : awv C A g fr E (eval iter fr.env) loc hp fun x l p => onIt C A target names x l p fun vss need l p =>
      ∃ Inv : Nat → LOC → HP → Prop, Inv 0 l p ∧ (∀ i l p, Inv i l p → need p) ∧
        (∀ i vs l p g' E', vss[i]? = some vs → Inv i l p → awf C A g' fr E' (execs body fr.env) (setAll names vs l) p fun f l p => match f with
          | .next | .cont => Inv (i + 1) l p
          | .brk => Q .next l p
          | .ret v => Q (.ret v) l p) ∧ (∀ l p g' E', Inv vss.length l p → awf C A g' fr E' (execs orelse fr.env) l p Q)) :
    awf C A g fr E (exec (.For target iter body orelse pos) fr.env) loc hp Q := fun s R S => by
  refine wpAny_For (wpAny_mono (h s R S) (fun x s₁ ⟨S₁, l₁, p₁, R₁, vss, need, r₁, p₀, e, hnd, hap, hit, Inv, h0, hn, turn, fin⟩ => ?_) fun _ _ e => e) hfs
  subst e
  have := hit g fr E l₁ p₀ x (fun it l p => ∃ St r₀, l = l₁ ∧ p = hjoin p₀ r₀ ∧ Src C A target names it vss need St ∧ St 0 r₀ ∧ Apart p₀ r₀) rfl hnd hap (fun it St r₀ W hst hap => ⟨St, r₀, rfl, rfl, W, hst, hap⟩) s₁ R₁ S₁
  refine wpAny_mono this (fun it s₂ ⟨S₂, l₂, p₂, R₂, St, r₀, e1, e2, W, hst, hap⟩ => ?_) fun _ _ e => e
  subst e1; subst e2
  exact awf_forLoop W hok hst hap Inv h0 hn turn fin s₂ R₂ S₂ _
end
end Mine
end
section
namespace Mine
/-! ## the sources of loops -/
def hemp : HP := fun _ => none
theorem hjoin_hemp (p : HP) : hjoin p hemp = p := by funext b; unfold hjoin hemp; cases p b <;> rfl
theorem apart_hemp (p : HP) : Apart p hemp := fun b h => absurd rfl h
theorem hset_hjoin {p r : HP} {a : Addr} {o : AO} (h : p a = none) : hset (hjoin p r) a o = hjoin p (hset r a o) := by
  funext b
  unfold hset hjoin
  by_cases hb : b = a
  · subst hb; simp [h]
  · simp [hb]
theorem apart_hset {p r : HP} {a : Addr} {o : AO} (h : Apart p r) (ha : p a = none) : Apart p (hset r a o) := fun b hb => by
  by_cases e : b = a
  · subst e; exact ha
  · exact h b (by rwa [hset_ne _ _ e] at hb)
theorem hjoin_hset {p r : HP} {a : Addr} {o : AO} : hjoin (hset p a o) r = hset (hjoin p r) a o := by
  funext b
  unfold hset hjoin
  by_cases hb : b = a
  · subst hb; simp
  · simp [hb]
theorem hset_back {hp : HP} {a : Addr} {o : AO} (h : hp a = none) : ∀ b ao, hp b = some ao → hset hp a o b = some ao := fun b ao e => hset_of h e
theorem hset_hset {hp : HP} {a : Addr} {o o' : AO} : hset (hset hp a o) a o' = hset hp a o' := by
  funext b; unfold hset; by_cases e : b = a <;> simp [e]
theorem hset_comm {hp : HP} {a b : Addr} {o o' : AO} (h : a ≠ b) : hset (hset hp a o) b o' = hset (hset hp b o') a o := by
  funext c; unfold hset
  by_cases e : c = a
  · subst e; simp [h]
  · simp [e]
def listIt (a : Addr) (i : Nat) : AO := .sat fun o => o.cls = .type "list_iterator" ∧ o.data = .fields #[.ref a, .int i 0]
def enumIt (e it : Addr) (i : Int) (f0 old : Value) : AO := .obj { cls := .type "enumerate", dict := none, data := .fields #[f0, .bool false, .ref it, rawInt i, .none, old], slots := #[] }
def rangeIt (x left step : Int) : AO := .obj { cls := .type "range_iterator", dict := none, data := .fields #[rawInt x, rawInt left, rawInt step], slots := #[] }
def rangeO (a b c : Int) : AO := .sat fun o => ∃ t u v, o = { cls := .type "range", dict := none, data := .fields #[.int a t, .int b u, .int c v], slots := #[] }
section
variable {α : Type} {C : Cx} {A : Around} {g : Heap} {fr : Fm} {E : Value → Shared → Prop} {loc : LOC} {hp : HP}
theorem Rep.iter {H₀ h : Heap} {I a : Addr} {i : Nat} (R : Rep H₀ g fr loc hp h) (hI : hp I = some (listIt a i)) : h.IsListIter I a i := by
  obtain ⟨_, _, _, o, ho, hc, hd⟩ := R.at_ I _ hI
  exact ⟨o, ho, hc, hd⟩
theorem Rep.obj {H₀ h : Heap} {I : Addr} {o : Obj} (R : Rep H₀ g fr loc hp h) (hI : hp I = some (.obj o)) : h.get? I = some o := by
  obtain ⟨_, _, _, o', ho, e⟩ := R.at_ I _ hI
  cases e
  exact ho
theorem Rep.drop1 {H₀ h h' : Heap} {I : Addr} {ao : AO} {hp' : HP} (R : Rep H₀ g fr loc hp h) (hI : hp I = some ao) (hx : Heap.ExtBut I h h') (hs : ∀ b o, hp' b = some o → b ≠ I ∧ hp b = some o) : Rep H₀ g fr loc hp' h' := by
  refine R.step (W := fun b => b = I) (fun b hb => ?_) (fun b o hb e => hx b o hb e) fun b ao e => ?_
  · subst hb; exact ⟨_, hI⟩
  · obtain ⟨hb, q⟩ := hs b ao e
    obtain ⟨_, _, _, o, ho, hi⟩ := R.at_ b ao q
    exact ⟨.inl ⟨_, q⟩, o, hx b o hb ho, hi⟩
theorem aw_weak {t : Sem α} {Q : α → LOC → HP → Prop} (h : aw C A g fr E t loc hp fun a l p => ∃ p', (∀ b o, p' b = some o → p b = some o) ∧ Q a l p') : aw C A g fr E t loc hp Q := fun s R S =>
  wpAny_mono (h s R S) (fun _ _ ⟨S', l, p, R', p', hw, q⟩ => ⟨S', l, p', R'.forget (fun _ _ e => e) hw, q⟩) fun _ _ e => e
theorem aw_assignPair (hh : A.handled = none) {T : Addr} {a b : Value} {x y : Str} {px py pos : Pos} {k} {Q : Unit → LOC → HP → Prop} (hT : hp T = some (.tuple [a, b])) (hx : Sto fr x) (hy : Sto fr y) (h : Q () (lset (lset loc x a) y b) hp) :
    aw C A g fr E (assign (.Tuple [.Name x px, .Name y py] k pos) fr.env (.ref T)) loc hp Q := fun s R S => by
  obtain ⟨vs, n, e, q⟩ := R.tuple hT
  have h1 : vs.toList.length = 2 := by simpa using congrArg List.length q
  match hv : vs.toList, h1 with
  | [u, v], _ =>
    rw [hv] at q
    injection q with q1 q2
    injection q2 with q2 _
    subst q1; subst q2
    refine wpAny_assign_Tuple hh (items := vs) ⟨_, e, rfl, n, rfl⟩ (by rw [← Array.length_toList, hv]; rfl) rfl fun h' hx' => ?_
    have R' := R.keeps (h' := h') fun b o e => hx' b o (Nat.ne_of_lt (Heap.lt_size e)) e
    rw [hv]
    show wpAny _ A (do holding [v] (assign (.Name x px) fr.env u); do holding [] (assign (.Name y py) fr.env v); pure ()) _ _ _
    have := aw_bind (C := C) (A := A) (g := g) (fr := fr) (E := E) (loc := loc) (hp := hp) (Q := Q) (aw_holding (vs := [v]) (m := assign (.Name x px) fr.env u)
      (Q := fun _ l p => aw C A g fr E (do holding [] (assign (.Name y py) fr.env v); pure ()) l p Q) (aw_assignName hx (aw_bind (aw_holding (aw_assignName hy (aw_pure h))))))
    exact this _ R' S
/-! ### a list's items, each into one name -/
theorem src_list (hh : A.handled = none) {a I : Addr} {xs : List Value} {x : Str} {px : Pos} : Src C A (.Name x px) [x] (.ref I) (xs.map fun v => [v]) (fun p => p a = some (.list xs)) fun i r => r = hset hemp I (listIt a i) where
  adv := by
    rintro i vs r p g fr E l Q hv rfl hnd hap hok hQ s R S
    rw [List.getElem?_map] at hv
    obtain ⟨v, hv2, rfl⟩ := Option.map_eq_some_iff.mp hv
    obtain ⟨us, n, e, q⟩ := R.list (hjoin_l hnd)
    obtain ⟨u, hu, rfl⟩ := nm_get q hv2
    have hI : hjoin p (hset hemp I (listIt a i)) I = some (listIt a i) := hjoin_r hap (hset_eq ..)
    have pI : p I = none := hap I (by rw [hset_eq]; exact fun e => nomatch e)
    refine wpAny_pyNext_list_item (R.iter hI) ⟨_, e, rfl, n, rfl⟩ hu fun h' hit' hs' => ⟨S, l, hjoin p (hset hemp I (listIt a (i + 1))), ?_, u, rfl, ?_⟩
    · obtain ⟨o, ho, hc, hd⟩ := hit'
      have := R.chg hI hs'.extBut ho (ao' := listIt a (i + 1)) ⟨hc, hd⟩
      rwa [hset_hjoin pI, hset_hset] at this
    · exact aw_of_eq (a := ()) rfl (aw_assignName (hok x (.head _)) (hQ _ rfl (apart_hset (apart_hemp _) pI)))
  stp := by
    rintro r p g fr E l Q rfl hnd hap hQ s R S
    obtain ⟨us, n, e, q⟩ := R.list (hjoin_l hnd)
    have hI : hjoin p (hset hemp I (listIt a (xs.map fun v => [v]).length)) I = some (listIt a (xs.map fun v => [v]).length) := hjoin_r hap (hset_eq ..)
    have pI : p I = none := hap I (by rw [hset_eq]; exact fun e => nomatch e)
    refine wpAny_pyNext_list_end hh (R.iter hI) ⟨_, e, rfl, n, rfl⟩ (by rw [List.length_map, ← nm_size q]; simp) fun h' hx => ⟨S, l, hjoin p hemp, ?_, rfl, hQ _ (apart_hemp _)⟩
    rw [hjoin_hemp]
    exact R.drop1 hI hx fun b o e => ⟨(by rintro rfl; rw [pI] at e; cases e), hjoin_l e⟩
  self := by
    rintro i r p g fr E l Q rfl hnd hap hQ s R S
    exact wpAny_pyIter_listiter (R.iter (hjoin_r hap (hset_eq ..))) ⟨S, l, _, R, hQ⟩
  up := fun p p' h e => h _ _ e
theorem it_list (hh : A.handled = none) {a : Addr} {xs : List Value} {x : Str} {px : Pos} {K : List (List Value) → (HP → Prop) → LOC → HP → Prop} (ha : hp a = some (.list xs))
    (h : K (xs.map fun v => [v]) (fun p => p a = some (.list xs)) loc hp) : onIt C A (.Name x px) [x] (.ref a) loc hp K :=
  ⟨_, _, hemp, hp, (hjoin_hemp _).symm, ha, apart_hemp _, fun g fr E l p x' Q hx hnd _ hQ s R S => by
    rw [nm_ref hx]
    obtain ⟨us, n, e, q⟩ := R.list (hjoin_l hnd)
    refine wpAny_pyIter_list ⟨_, e, rfl, n, rfl⟩ ⟨S, l, hjoin p (hset hemp s.heap.objs.size (listIt a 0)), ?_, hQ _ _ _ (src_list hh) rfl (apart_hset (apart_hemp _) ?_)⟩
    · have := R.alloc (ao := listIt a 0) (o := { cls := .type "list_iterator", data := .fields #[.ref a, .int 0 0] }) rfl ⟨rfl, rfl⟩
      rw [hjoin_hemp] at this R
      rwa [← hset_hjoin R.none_at, hjoin_hemp]
    · rw [hjoin_hemp] at R; exact R.none_at, h⟩
/-! ### a list of pairs, each laid into two names -/
theorem src_pairs (hh : A.handled = none) {a I : Addr} {ts : List Addr} {ps : List (Value × Value)} {x y : Str} {px py pos : Pos} {k} :
    Src C A (.Tuple [.Name x px, .Name y py] k pos) [x, y] (.ref I) (ps.map fun v : Value × Value => [v.1, v.2]) (fun p => p a = some (.list (ts.map .ref)) ∧ ts.length = ps.length ∧ ∀ (i : Nat) (T : Addr) (v : Value × Value), ts[i]? = some T → ps[i]? = some v → p T = some (.tuple [v.1, v.2])) fun i r => r = hset hemp I (listIt a i) where
  adv := by
    rintro i vs r p g fr E l Q hv rfl ⟨hnd, hln, hts⟩ hap hok hQ s R S
    rw [List.getElem?_map] at hv
    obtain ⟨v, hv2, rfl⟩ := Option.map_eq_some_iff.mp hv
    obtain ⟨us, n, e, q⟩ := R.list (hjoin_l hnd)
    have hi : i < ts.length := by rw [hln]; exact (List.getElem?_eq_some_iff.mp hv2).1
    have hTi : ts[i]? = some ts[i] := List.getElem?_eq_getElem hi
    obtain ⟨u, hu, hu'⟩ := nm_get (x := .ref ts[i]) (i := i) q (by rw [List.getElem?_map, hTi]; rfl)
    have := nm_ref hu'; subst this
    have hI : hjoin p (hset hemp I (listIt a i)) I = some (listIt a i) := hjoin_r hap (hset_eq ..)
    have pI : p I = none := hap I (by rw [hset_eq]; exact fun e => nomatch e)
    refine wpAny_pyNext_list_item (R.iter hI) ⟨_, e, rfl, n, rfl⟩ hu fun h' hit' hs' => ⟨S, l, hjoin p (hset hemp I (listIt a (i + 1))), ?_, _, rfl, ?_⟩
    · obtain ⟨o, ho, hc, hd⟩ := hit'
      have := R.chg hI hs'.extBut ho (ao' := listIt a (i + 1)) ⟨hc, hd⟩
      rwa [hset_hjoin pI, hset_hset] at this
    · have ap' : Apart p (hset hemp I (listIt a (i + 1))) := apart_hset (apart_hemp _) pI
      intro s₂ R₂ S₂
      refine wpAny_letOwnedTupleGo_listiter (R₂.iter (hjoin_r ap' (hset_eq ..))) ⟨S₂, l, _, R₂, ?_⟩
      exact aw_assignPair hh (hjoin_l (hts i _ v hTi hv2)) (hok x (.head _)) (hok y (.tail _ (.head _))) (hQ _ rfl ap')
  stp := fun r p g fr E l Q e hnd hap hQ => by
    subst e
    have hl : (ps.map fun v : Value × Value => [v.1, v.2]).length = ((ts.map Value.ref).map fun v => [v]).length := by simp [hnd.2.1]
    refine (src_list (C := C) (x := x) (px := px) (xs := ts.map .ref) hh).stp _ p g fr E l Q ?_ hnd.1 hap hQ
    rw [hl]
  self := fun i r p g fr E l Q e hnd hap hQ => (src_list (C := C) (x := x) (px := px) hh).self i r p g fr E l Q e hnd.1 hap hQ
  up := fun p p' h e => ⟨h _ _ e.1, e.2.1, fun i T v a b => h _ _ (e.2.2 i T v a b)⟩
theorem it_pairs (hh : A.handled = none) {a : Addr} {ts : List Addr} {ps : List (Value × Value)} {x y : Str} {px py pos : Pos} {k} {K : List (List Value) → (HP → Prop) → LOC → HP → Prop} (ha : hp a = some (.list (ts.map .ref)))
    (hln : ts.length = ps.length) (hts : ∀ (i : Nat) (T : Addr) (v : Value × Value), ts[i]? = some T → ps[i]? = some v → hp T = some (.tuple [v.1, v.2]))
    (h : K (ps.map fun v : Value × Value => [v.1, v.2]) (fun p => p a = some (.list (ts.map .ref)) ∧ ts.length = ps.length ∧ ∀ (i : Nat) (T : Addr) (v : Value × Value), ts[i]? = some T → ps[i]? = some v → p T = some (.tuple [v.1, v.2])) loc hp) :
    onIt C A (.Tuple [.Name x px, .Name y py] k pos) [x, y] (.ref a) loc hp K :=
  ⟨_, _, hemp, hp, (hjoin_hemp _).symm, ⟨ha, hln, hts⟩, apart_hemp _, fun g fr E l p x' Q hx hnd _ hQ s R S => by
    rw [nm_ref hx]
    obtain ⟨us, n, e, q⟩ := R.list (hjoin_l hnd.1)
    refine wpAny_pyIter_list ⟨_, e, rfl, n, rfl⟩ ⟨S, l, hjoin p (hset hemp s.heap.objs.size (listIt a 0)), ?_, hQ _ _ _ (src_pairs hh) rfl (apart_hset (apart_hemp _) ?_)⟩
    · have := R.alloc (ao := listIt a 0) (o := { cls := .type "list_iterator", data := .fields #[.ref a, .int 0 0] }) rfl ⟨rfl, rfl⟩
      rw [hjoin_hemp] at this R
      rwa [← hset_hjoin R.none_at, hjoin_hemp]
    · rw [hjoin_hemp] at R; exact R.none_at, h⟩
/-! ### a range -/
def rangeL (a b : Int) : List Int := (List.range (b - a).toNat).map fun i => a + (i : Nat)
theorem src_range (hh : A.handled = none) {I : Addr} {a b : Int} {x : Str} {px : Pos} : Src C A (.Name x px) [x] (.ref I) ((rangeL a b).map fun v => [.int v 0]) (fun _ => True) fun i r => r = hset hemp I (rangeIt (a + (i : Nat)) ((rangeL a b).length - (i : Nat)) 1) where
  adv := by
    rintro i vs r p g fr E l Q hv rfl hnd hap hok hQ s R S
    rw [List.getElem?_map] at hv
    obtain ⟨v, hv2, rfl⟩ := Option.map_eq_some_iff.mp hv
    have hi := (List.getElem?_eq_some_iff.mp hv2).1
    have hv' : v = a + (i : Nat) := by
      unfold rangeL at hv2 hi
      rw [List.length_map, List.length_range] at hi
      rw [List.getElem?_map, List.getElem?_range hi] at hv2
      cases hv2; rfl
    subst hv'
    have hI : hjoin p (hset hemp I (rangeIt (a + (i : Nat)) ((rangeL a b).length - (i : Nat)) 1)) I = some _ := hjoin_r hap (hset_eq ..)
    have pI : p I = none := hap I (by rw [hset_eq]; exact fun e => nomatch e)
    refine wpAny_pyNext_range_item (R.obj hI) (by omega) fun h' hit' hs' => ⟨S, l, hjoin p (hset hemp I (rangeIt (a + ((i + 1 : Nat) : Int)) ((rangeL a b).length - ((i + 1 : Nat) : Int)) 1)), ?_, _, rfl, ?_⟩
    · have := R.chg hI hs'.extBut hit' (ao' := .obj _) rfl
      rw [hset_hjoin pI, hset_hset] at this
      have e1 : a + ((i + 1 : Nat) : Int) = a + (i : Int) + 1 := by omega
      have e2 : ((rangeL a b).length : Int) - ((i + 1 : Nat) : Int) = ((rangeL a b).length : Int) - (i : Int) - 1 := by omega
      rw [e1, e2]; exact this
    · exact aw_of_eq (a := ()) rfl (aw_assignName (hok x (.head _)) (hQ _ rfl (apart_hset (apart_hemp _) pI)))
  stp := by
    rintro r p g fr E l Q rfl hnd hap hQ s R S
    have hI := hjoin_r hap (hset_eq hemp I (rangeIt (a + (((rangeL a b).map fun v => [(.int v 0 : Value)]).length : Nat)) ((rangeL a b).length - (((rangeL a b).map fun v => [(.int v 0 : Value)]).length : Nat)) 1))
    have pI : p I = none := hap I (by rw [hset_eq]; exact fun e => nomatch e)
    refine wpAny_pyNext_range_end hh (R.obj hI) (by rw [List.length_map]; omega) fun h' hx => ⟨S, l, hjoin p hemp, ?_, rfl, hQ _ (apart_hemp _)⟩
    rw [hjoin_hemp]
    exact R.drop1 hI hx fun b o e => ⟨(by rintro rfl; rw [pI] at e; cases e), hjoin_l e⟩
  self := by
    rintro i r p g fr E l Q rfl hnd hap hQ s R S
    exact wpAny_pyIter_rangeiter (R.obj (hjoin_r hap (hset_eq ..))) ⟨S, l, _, R, hQ⟩
  up := fun _ _ _ _ => trivial
theorem call_range1 {b : Int} {Q : Value → LOC → HP → Prop} (h : ∀ r, hp r = none → Q (.ref r) loc (hset hp r (rangeO 0 b 1))) : onCall C A g fr E (.type "range") [.int b 0] [] loc hp Q := onCall1 fun v hv => by
  obtain ⟨t, rfl⟩ := nm_int hv
  exact fun s R S => call_range_1 ⟨S, loc, _, R.alloc (ao := rangeO 0 b 1) rfl ⟨_, _, _, rfl⟩, h _ R.none_at⟩
theorem call_range2 {a b : Int} {Q : Value → LOC → HP → Prop} (h : ∀ r, hp r = none → Q (.ref r) loc (hset hp r (rangeO a b 1))) : onCall C A g fr E (.type "range") [.int a 0, .int b 0] [] loc hp Q := onCall2 fun v u hv hu => by
  obtain ⟨t, rfl⟩ := nm_int hv
  obtain ⟨t', rfl⟩ := nm_int hu
  exact fun s R S => call_range_2 ⟨S, loc, _, R.alloc (ao := rangeO a b 1) rfl ⟨_, _, _, rfl⟩, h _ R.none_at⟩
theorem it_range (hh : A.handled = none) {r : Addr} {a b : Int} {x : Str} {px : Pos} {K : List (List Value) → (HP → Prop) → LOC → HP → Prop} (hr : hp r = none) (ha : -1000000 < a ∧ a < 1000000) (hb : -1000000 < b ∧ b < 1000000)
    (h : K ((rangeL a b).map fun v => [.int v 0]) (fun _ => True) loc hp) : onIt C A (.Name x px) [x] (.ref r) loc (hset hp r (rangeO a b 1)) K := by
  refine ⟨_, _, hset hemp r (rangeO a b 1), hp, by rw [← hset_hjoin hr, hjoin_hemp], trivial, apart_hset (apart_hemp _) hr, fun g fr E l p x' Q hx hnd hap hQ s R S => ?_, h⟩
  rw [nm_ref hx]
  have hpr : p r = none := hap r (by rw [hset_eq]; exact fun e => nomatch e)
  obtain ⟨_, _, _, o, ho, t, u, v, rfl⟩ := R.at_ r _ (hjoin_r hap (hset_eq ..))
  have hsz := PySem.rangeSize_one a b
  have hsm : Builtin.Range.small a b 1 = true := by
    have f : ∀ z : Int, -4000000 < z → z < 4000000 → Builtin.Range.rangeFitsLong z = true := fun z h1 h2 => by
      unfold Builtin.Range.rangeFitsLong
      simp only [decide_eq_true_eq, Bool.and_eq_true]
      omega
    unfold Builtin.Range.small
    have g0 : Builtin.Range.rangeFitsLong (Builtin.Range.rangeSize a b 1) = true := f _ (by rw [hsz]; split <;> omega) (by rw [hsz]; split <;> omega)
    have g1 : Builtin.Range.rangeFitsLong (b + (1 - 1)) = true := f _ (by omega) (by omega)
    rw [f a (by omega) (by omega), f b (by omega) (by omega), f 1 (by omega) (by omega), g0, if_pos (by decide), g1]
    simp
  refine wpAny_pyIter_range ho hsm ⟨S, l, hjoin p (hset hemp s.heap.objs.size (rangeIt (a + (0 : Nat)) ((rangeL a b).length - (0 : Nat)) 1)), ?_, hQ _ _ _ (src_range hh) rfl (apart_hset (apart_hemp _) ?_)⟩
  · have := R.alloc (ao := rangeIt (a + (0 : Nat)) ((rangeL a b).length - (0 : Nat)) 1) (o := { cls := .type "range_iterator", data := .fields #[rawInt a, rawInt (Builtin.Range.rangeSize a b 1), rawInt 1] }) rfl (by
      show Obj.mk _ _ _ _ = Obj.mk _ _ _ _
      have : ((rangeL a b).length : Int) - (0 : Nat) = Builtin.Range.rangeSize a b 1 := by
        unfold rangeL; rw [hsz]; simp only [List.length_map, List.length_range]; split <;> omega
      rw [this]; simp)
    refine this.forget (fun _ _ e => e) fun b ao e => ?_
    rw [← hset_hjoin ?_, hjoin_hemp] at e
    · unfold hset at e ⊢
      by_cases hb : b = s.heap.objs.size
      · rwa [if_pos hb] at e ⊢
      · rw [if_neg hb] at e ⊢; exact hjoin_l e
    · cases q : p s.heap.objs.size with
      | none => rfl
      | some o => exact absurd (R.lt_of_hp (hjoin_l q)) (Nat.lt_irrefl _)
  · cases q : p s.heap.objs.size with
    | none => rfl
    | some o => exact absurd (R.lt_of_hp (hjoin_l q)) (Nat.lt_irrefl _)
end
end Mine
end
section
namespace Mine
/-! ## list comprehensions -/
def relabelS (scope sc : Scope) : Scope :=
  { scope with names := scope.names.map fun (n, k) => if (k == .free && sc.kind == .function && sc.names.lookup n == some .cell) then (n, .cell) else (n, k) }
theorem relabelS_eq {scope sc : Scope} {env : Env} (h : env.scope = sc) : relabel scope env = relabelS scope sc := by subst h; rfl
def ownS (scope : Scope) : Str → Bool := fun x => scope.names.lookup x == some .cell
open Classical in
noncomputable def compLoc (scope : Scope) (loc : LOC) : LOC := fun x => if scope.names.lookup x = some .free then loc x else none
theorem compLoc_of {scope : Scope} {loc : LOC} {x : Str} {v : Value} (h : scope.names.lookup x = some .free) (e : loc x = some v) : compLoc scope loc x = some v := (if_pos h).trans e
theorem of_compLoc {scope : Scope} {loc : LOC} {x : Str} {v : Value} (e : compLoc scope loc x = some v) : scope.names.lookup x = some .free ∧ loc x = some v := by
  unfold compLoc at e
  split at e
  · exact ⟨‹_›, e⟩
  · cases e
def clOf (cells : List (Str × Addr)) : List (Str × NameKind) → List (Str × Addr) → List (Str × Addr)
  | [], acc => acc
  | (n, k) :: r, acc => if k == .free then clOf cells r ((n, (cells.lookup n).getD 0) :: acc) else clOf cells r acc
theorem forIn_clOf {env : Env} (f : Str × NameKind → List (Str × Addr) → Sem (ForInStep (List (Str × Addr))))
    (hf : ∀ n k cs, f (n, k) cs = if k == .free then (do let c ← cellOf env n; pure (.yield ((n, c) :: cs))) else pure (.yield cs)) :
    ∀ (names : List (Str × NameKind)) (acc : List (Str × Addr)), (∀ x ∈ names, x.2 = .free → (env.cells.lookup x.1).isSome = true) → forIn names acc f = pure (clOf env.cells names acc)
  | [], acc, _ => by rw [List.forIn_nil]; rfl
  | (n, k) :: r, acc, h => by
    have hr : ∀ x ∈ r, x.2 = .free → (env.cells.lookup x.1).isSome = true := fun x hx => h x (List.mem_cons_of_mem _ hx)
    rw [List.forIn_cons, hf]
    unfold clOf
    by_cases hk : (k == NameKind.free) = true
    · rw [if_pos hk, if_pos hk]
      obtain ⟨c, hc⟩ := Option.isSome_iff_exists.mp (h (n, k) (.head _) (by simpa using hk))
      unfold cellOf
      rw [hc]
      simp only [pure_bind, Option.getD_some]
      exact forIn_clOf f hf r _ hr
    · rw [if_neg hk, if_neg hk]
      simp only [pure_bind]
      exact forIn_clOf f hf r _ hr
theorem closureFor_eq {scope : Scope} {env : Env} (h : ∀ x ∈ scope.names, x.2 = .free → (env.cells.lookup x.1).isSome = true) : closureFor scope env = pure (clOf env.cells scope.names []) := by
  show (forIn scope.names ([] : List (Str × Addr)) _ >>= fun cs => pure cs) = _
  rw [forIn_clOf (env := env) _ (fun n k cs => by cases hk : k == NameKind.free <;> simp [hk]) scope.names [] h]
  rfl
theorem clOf_app (cells : List (Str × Addr)) : ∀ (names : List (Str × NameKind)) (acc : List (Str × Addr)), clOf cells names acc = clOf cells names [] ++ acc
  | [], acc => rfl
  | (n, k) :: r, acc => by
    unfold clOf
    split
    · rw [clOf_app cells r (_ :: acc), clOf_app cells r [_], List.append_assoc]; rfl
    · exact clOf_app cells r acc
theorem cellsFrom_app : ∀ (names : List (Str × NameKind)) (n : Nat) (acc : List (Str × Addr)), cellsFrom n names acc = cellsFrom n names [] ++ acc
  | [], n, acc => rfl
  | (x, k) :: r, n, acc => by
    unfold cellsFrom
    split
    · rw [cellsFrom_app r (n + 1) (_ :: acc), cellsFrom_app r (n + 1) [_], List.append_assoc]; rfl
    · exact cellsFrom_app r n acc
theorem mem_clOf (cells : List (Str × Addr)) : ∀ (names : List (Str × NameKind)) {x : Str} {c : Addr}, (x, c) ∈ clOf cells names [] ↔ (x, NameKind.free) ∈ names ∧ c = (cells.lookup x).getD 0
  | [], x, c => by simp [clOf]
  | (n, k) :: r, x, c => by
    unfold clOf
    split
    · rename_i hk
      have hk' : k = .free := by simpa using hk
      subst hk'
      rw [clOf_app, List.mem_append, mem_clOf cells r]
      simp only [List.mem_cons, List.not_mem_nil, or_false, Prod.mk.injEq, and_true]
      constructor
      · rintro (⟨a, b⟩ | ⟨rfl, b⟩)
        · exact ⟨.inr a, b⟩
        · exact ⟨.inl rfl, b⟩
      · rintro ⟨rfl | a, b⟩
        · exact .inr ⟨rfl, b⟩
        · exact .inl ⟨a, b⟩
    · rename_i hk
      have hk' : ¬ NameKind.free = k := fun e => hk (by rw [← e]; rfl)
      rw [mem_clOf cells r]
      simp [hk']
theorem mem_cellsFrom : ∀ (names : List (Str × NameKind)) (n : Nat) {x : Str} {c : Addr}, (x, c) ∈ cellsFrom n names [] → (x, NameKind.cell) ∈ names
  | [], n, x, c, h => by simp [cellsFrom] at h
  | (y, k) :: r, n, x, c, h => by
    unfold cellsFrom at h
    split at h
    · rename_i hk
      have hk' : k = .cell := by simpa using hk
      subst hk'
      rw [cellsFrom_app, List.mem_append] at h
      rcases h with h | h
      · exact .tail _ (mem_cellsFrom r _ h)
      · simp at h; rw [h.1]; exact .head _
    · exact .tail _ (mem_cellsFrom r _ h)
theorem lookup_app {α : Type} : ∀ {l₁ l₂ : List (Str × α)} {x : Str}, (l₁ ++ l₂).lookup x = match l₁.lookup x with | some c => some c | none => l₂.lookup x
  | [], l₂, x => rfl
  | (k, v) :: r, l₂, x => by
    rw [List.cons_append, List.lookup_cons, List.lookup_cons]
    cases x == k
    · exact lookup_app
    · rfl
theorem lookup_of_mem {α : Type} : ∀ {l : List (Str × α)} {x : Str} {c : α}, (x, c) ∈ l → ∃ d, l.lookup x = some d
  | (k, v) :: r, x, c, h => by
    rw [List.lookup_cons]
    cases hb : x == k
    · rcases List.mem_cons.mp h with e | h
      · cases e; simp at hb
      · exact lookup_of_mem h
    · exact ⟨_, rfl⟩
theorem lookup_mapk (f : Str → NameKind → NameKind) : ∀ (names : List (Str × NameKind)) (x : Str), (names.map fun y => (y.1, f y.1 y.2)).lookup x = (names.lookup x).map (f x)
  | [], _ => rfl
  | (n, k) :: r, x => by
    rw [List.map_cons, List.lookup_cons, List.lookup_cons]
    cases hb : x == n
    · exact lookup_mapk f r x
    · rw [beq_iff_eq.mp hb]; rfl
theorem relabelS_lookup (scope sc : Scope) (x : Str) : (relabelS scope sc).names.lookup x = (scope.names.lookup x).map fun k => if (k == .free && sc.kind == .function && sc.names.lookup x == some .cell) then .cell else k := by
  unfold relabelS
  rw [← lookup_mapk (fun x k => if (k == .free && sc.kind == .function && sc.names.lookup x == some .cell) then .cell else k)]
  congr 1
  refine List.map_congr_left fun y _ => ?_
  obtain ⟨n, k⟩ := y
  dsimp only
  split <;> rfl
def compFm (fr : Fm) (scope : Scope) (L : Addr) : Fm := ⟨compEnvC scope (cellsFrom (L + 1) scope.names (clOf fr.env.cells scope.names [])) L fr.env, ownS scope⟩
def ScOk (scope sc : Scope) : Bool := scope.kind == .function && scope.names.all (fun x => scope.names.lookup x.1 == some x.2) && scope.names.all fun x => x.2 != .free || (sc.names.lookup x.1 == some .cell || sc.names.lookup x.1 == some .free)
section
variable {α : Type} {C : Cx} {A : Around} {g : Heap} {fr : Fm} {E : Value → Shared → Prop} {loc : LOC} {hp : HP} {sc : Scope} {ow : Str → Bool} {scope : Scope}
theorem ScOk.kind (h : ScOk scope sc = true) : scope.kind = .function := by
  unfold ScOk at h; simp only [Bool.and_eq_true] at h; simpa using h.1.1
theorem ScOk.names (h : ScOk scope sc = true) {x : Str} {k : NameKind} (hx : (x, k) ∈ scope.names) : scope.names.lookup x = some k := by
  unfold ScOk at h; simp only [Bool.and_eq_true] at h
  simpa using List.all_eq_true.mp h.1.2 _ hx
theorem ScOk.clo (h : ScOk scope sc = true) {x : Str} (hx : (x, NameKind.free) ∈ scope.names) : sc.names.lookup x = some .cell ∨ sc.names.lookup x = some .free := by
  unfold ScOk at h; simp only [Bool.and_eq_true] at h
  have := List.all_eq_true.mp h.2 _ hx
  simpa using this
theorem comp_closure (F : FrOf fr sc ow) (hs : ScOk scope sc = true) : closureFor scope fr.env = pure (clOf fr.env.cells scope.names []) :=
  closureFor_eq fun x hx hf => F.cells _ (ScOk.clo hs (by obtain ⟨n, k⟩ := x; cases hf; exact hx))
theorem frOf_comp (F : FrOf fr sc ow) (hs : ScOk scope sc = true) (L : Addr) : FrOf (compFm fr scope L) (relabelS scope sc) (ownS scope) where
  scope := relabelS_eq F.scope
  kind := (ScOk.kind hs : scope.kind = .function)
  glob := F.glob
  bi := F.bi
  cells := fun x e => by
    have e' : scope.names.lookup x = some .cell ∨ scope.names.lookup x = some .free := by
      rw [relabelS_lookup] at e
      cases q : scope.names.lookup x with
      | none => rw [q] at e; rcases e with e | e <;> cases e
      | some k =>
        rw [q] at e
        simp only [Option.map_some, Option.some.injEq] at e
        cases k <;> first | exact .inl rfl | exact .inr rfl | (exfalso; simp at e)
    show ((cellsFrom (L + 1) scope.names (clOf fr.env.cells scope.names [])).lookup x).isSome = true
    rw [cellsFrom_app, lookup_app]
    rcases e' with e | e
    · have := cellsFrom_some (x := x) scope.names (L + 1) [] (.inl e)
      obtain ⟨d, hd⟩ := Option.isSome_iff_exists.mp this
      rw [hd]; rfl
    · split
      · rfl
      · obtain ⟨d, hd⟩ := lookup_of_mem ((mem_clOf fr.env.cells scope.names).mpr ⟨mem_of_lookup e, rfl⟩)
        rw [hd]; rfl
  own := fun _ e => e
theorem comp_lookup {x : Str} {c L : Addr} (hs : ScOk scope sc = true) (F : FrOf fr sc ow) (e : (compFm fr scope L).env.cells.lookup x = some c) :
    (scope.names.lookup x = some .cell ∧ (x, c) ∈ cellsFrom (L + 1) scope.names []) ∨ (scope.names.lookup x = some .free ∧ fr.env.cells.lookup x = some c) := by
  have e' : (cellsFrom (L + 1) scope.names (clOf fr.env.cells scope.names [])).lookup x = some c := e
  rw [cellsFrom_app, lookup_app] at e'
  split at e'
  · rename_i d hd
    cases e'
    exact .inl ⟨ScOk.names hs (mem_cellsFrom _ _ (mem_of_lookup hd)), mem_of_lookup hd⟩
  · obtain ⟨h1, h2⟩ := (mem_clOf fr.env.cells scope.names).mp (mem_of_lookup e')
    obtain ⟨d, hd⟩ := Option.isSome_iff_exists.mp (F.cells x (ScOk.clo hs h1))
    rw [hd] at h2
    exact .inr ⟨ScOk.names hs h1, by rw [hd, h2]; rfl⟩
theorem rep_comp {s : Shared} (F : FrOf fr sc ow) (hs : ScOk scope sc = true) (R : Rep C.H₀ g fr loc hp s.heap) :
    Rep C.H₀ (veil s.heap hp) (compFm fr scope s.heap.objs.size) (compLoc scope loc) hp (pushCells (s.heap.push { cls := .type "dict", data := .dict #[] }) scope.names) := by
  have hk : ∀ b o, s.heap.get? b = some o → (pushCells (s.heap.push { cls := .type "dict", data := .dict #[] }) scope.names).get? b = some o := fun b o e => pushCells_keeps _ _ b o (Heap.get?_push_of_some _ e)
  have fresh : ∀ b, s.heap.objs.size ≤ b → (veil s.heap hp).get? b = none := fun b hb => by
    cases q : (veil s.heap hp).get? b with
    | none => rfl
    | some o => exact absurd (Heap.lt_size (of_veil q).1) (Nat.not_lt.mpr hb)
  have ok := cellsFrom_ok scope.names (s.heap.push { cls := .type "dict", data := .dict #[] }) (s.heap.objs.size + 1) [] ⟨fun _ _ hm => (nomatch hm), List.Pairwise.nil⟩ (by rw [Heap.size_push]; exact Nat.le_refl _)
  rw [Heap.size_push] at ok
  refine ⟨fun b o e => hk b o (of_veil e).1, base_veil R, fun x v e => ?_, ⟨_, (Heap.Ns.new s.heap (.type "dict")).keeps (pushCells_keeps _ _)⟩, fresh _ (Nat.le_refl _), fun x c w l => ?_, fun x c l => ?_, fun x y c l l' => ?_, fun b ao e => ?_⟩
  · obtain ⟨e1, e2⟩ := of_compLoc e
    have hfr := ScOk.clo hs (mem_of_lookup e1)
    rcases R.loc x v e2 with ⟨k, _⟩ | ⟨k, c, v', l, n, q⟩
    · exfalso
      rcases hfr with q | q
      · rw [F.kindOf q] at k; cases k
      · rw [F.kindOf q] at k; cases k
    · refine .inr ⟨?_, c, v', ?_, n.keeps hk, q⟩
      · show (relabel scope fr.env).names.lookup x = _ ∨ (relabel scope fr.env).names.lookup x = _
        rw [relabelS_eq F.scope, relabelS_lookup, e1]
        simp only [Option.map_some, Option.some.injEq]
        split
        · exact .inl rfl
        · exact .inr rfl
      · show (cellsFrom _ scope.names (clOf fr.env.cells scope.names [])).lookup x = some c
        rw [cellsFrom_app, lookup_app]
        split
        · rename_i d hd
          have := ScOk.names hs (mem_cellsFrom _ _ (mem_of_lookup hd))
          rw [e1] at this; cases this
        · obtain ⟨d, hd⟩ := lookup_of_mem ((mem_clOf fr.env.cells scope.names).mpr ⟨mem_of_lookup e1, rfl⟩)
          obtain ⟨_, h2⟩ := (mem_clOf fr.env.cells scope.names).mp (mem_of_lookup hd)
          rw [l] at h2
          rw [hd, h2]; rfl
  · rcases comp_lookup hs F l with ⟨h1, h2⟩ | ⟨h1, h2⟩
    · exact fresh _ (Nat.le_of_lt (ok.empty x c h2).2)
    · have : (scope.names.lookup x == some NameKind.cell) = true := w
      rw [h1] at this; cases this
  · rcases comp_lookup hs F l with ⟨h1, h2⟩ | ⟨h1, h2⟩
    · exact ⟨Nat.ne_of_gt (ok.empty x c h2).2, none, (ok.empty x c h2).1⟩
    · obtain ⟨_, v, z⟩ := R.cne x c h2
      exact ⟨Nat.ne_of_lt z.lt, v, z.keeps hk⟩
  · rcases comp_lookup hs F l with ⟨h1, h2⟩ | ⟨h1, h2⟩ <;> rcases comp_lookup hs F l' with ⟨h3, h4⟩ | ⟨h3, h4⟩
    · exact name_of_addr ok.apart h2 h4
    · exact absurd (R.cell_lt h4) (Nat.not_lt.mpr (Nat.le_of_lt (ok.empty x c h2).2))
    · exact absurd (R.cell_lt h2) (Nat.not_lt.mpr (Nat.le_of_lt (ok.empty y c h4).2))
    · exact R.apart x y c h2 h4
  · obtain ⟨_, _, h3, o, ho, hi⟩ := R.at_ b ao e
    have hb := Heap.lt_size ho
    refine ⟨veil_none e, Nat.ne_of_lt hb, fun y c l => ?_, o, hk b o ho, hi⟩
    rcases comp_lookup hs F l with ⟨h1, h2⟩ | ⟨h1, h2⟩
    · exact Nat.ne_of_lt (Nat.lt_of_lt_of_le hb (Nat.le_of_lt (ok.empty y c h2).2))
    · exact h3 y c h2
theorem wpAny_newCompEnv {M : Model} {s : Shared} {globals : Addr} {closure : List (Str × Addr)} {qual : Str} {env : Env} {Q : Env → Shared → Prop}
    (h : Q (newEnv scope s.heap.objs.size globals (cellsFrom (s.heap.objs.size + 1) scope.names closure) qual none .none (some env) builtinsNs) { s with heap := pushCells (s.heap.push { cls := .type "dict", data := .dict #[] }) scope.names }) :
    wpAny M A (newFunctionEnv scope globals closure [] qual none .none (some env)) Q E s := by
  simp only [newFunctionEnv, Option.isSome_some, if_true]
  refine wpAny_bind (wpAny_alloc ?_)
  refine wpAny_bind (wpAny_layCells _ (fun name kind cells => by cases hkc : kind == NameKind.cell <;> simp [hkc]) _ _ _ _ ?_)
  rw [show ({ s with heap := s.heap.push { cls := .type "dict", data := .dict #[] } } : Shared).heap.objs.size = s.heap.objs.size + 1 from Heap.size_push ..]
  exact wpAny_bind (wpAny_pure (wpAny_pure h))
end
end Mine
end
section
namespace Mine
section
variable {α : Type} {C : Cx} {A : Around} {g : Heap} {fr : Fm} {E : Value → Shared → Prop} {loc : LOC} {hp : HP} {sc : Scope} {ow : Str → Bool} {scope : Scope}
theorem codeAny_compLoop_gen {prog : Program} {w : World} {R : Result → Shared → Prop} {s : Shared} {elt target iter : Expr} {ifs : List Expr} {scope : Scope} {pos : Pos} {it acc : Value} {env : Env} (I : Nat → Shared → Prop)
    (turn : ∀ n s, I n s → wpAny (model prog w) A (pyNext it) (fun r s₁ => match r with
      | none => R (.ok .next) s₁
      | some v => wpAny (model prog w) A (letOwnedTupleGo target it v) (fun _ s₁' => wpAny (model prog w) A (assign target env v) (fun _ s₂ =>
          wpAny (model prog w) A (forIn ifs true fun c r => if r = true then do let ok ← isTrue c env (eval c env); pure (ForInStep.yield ok) else pure (ForInStep.yield r)) (fun ok s₃ =>
            if ok = true then wpAny (model prog w) A (eval elt env) (fun x s₄ =>
              wpAny (model prog w) A (call (.builtin "list.append") [acc, x]) (fun _ s₅ => ∃ m, m < n ∧ I m s₅) (notedBy (model prog w) A env fun e s' => R (.error e) s') s₄) (notedBy (model prog w) A env fun e s' => R (.error e) s') s₃
            else ∃ m, m < n ∧ I m s₃) (notedBy (model prog w) A env fun e s' => R (.error e) s') s₂) (notedBy (model prog w) A env fun e s' => R (.error e) s') s₁') (notedBy (model prog w) A env fun e s' => R (.error e) s') s₁) (notedBy (model prog w) A env fun e s' => R (.error e) s') s)
    (n : Nat) (h : I n s) : codeAny (model prog w) A (.compLoop (.ListComp elt [⟨target, iter, ifs, 0⟩] scope pos) 0 it acc env) R s := by
  refine codeAny_loop rfl I (fun n s hI => ?_) n h
  show wpAny _ A ((compTurn (.ListComp elt [⟨target, iter, ifs, 0⟩] scope pos) 0 it acc env).onRaise (fun x => do noteFrame x env; theTreesLotGoes x)) _ _ s
  refine wpAny_noted ?_
  rw [compTurn_list]
  refine wpAny_bind (wpAny_standAt (wpAny_bind (wpAny_mono (turn n s hI) (fun r s₁ h₁ => ?_) fun _ _ h' => h')))
  cases r with
  | none => exact wpAny_pure h₁
  | some v =>
    refine wpAny_bind (wpAny_mono h₁ (fun _ s₁' h₁' => ?_) fun _ _ h' => h')
    refine wpAny_bind (wpAny_mono h₁' (fun _ s₂ h₂ => wpAny_bind (wpAny_mono h₂ (fun ok s₃ h₃ => ?_) fun _ _ h' => h')) fun _ _ h' => h')
    cases ok with
    | false => exact wpAny_pure ⟨rfl, h₃⟩
    | true =>
      exact wpAny_bind (wpAny_bind (wpAny_mono h₃ (fun x s₄ h₄ => wpAny_bind (wpAny_mono h₄ (fun _ s₅ h₅ => wpAny_pure (wpAny_pure ⟨rfl, h₅⟩)) fun _ _ h' => h')) fun _ _ h' => h'))
def awT (C : Cx) (A : Around) (g : Heap) (fr : Fm) (E : Value → Shared → Prop) (ifs : List Expr) (l : LOC) (p : HP) (K : Bool → LOC → HP → Prop) : Prop :=
  match ifs with
  | [] => K true l p
  | [c] => aw C A g fr E (isTrue c fr.env (eval c fr.env)) l p K
  | _ => False
theorem aw_tests {ifs : List Expr} {K : Bool → LOC → HP → Prop} (h : awT C A g fr E ifs loc hp K) :
    aw C A g fr E (forIn ifs true fun c r => if r = true then do let ok ← isTrue c fr.env (eval c fr.env); pure (ForInStep.yield ok) else pure (ForInStep.yield r)) loc hp K := by
  match ifs, h with
  | [], h => exact fun s R S => wpAny_tests_nil ⟨S, loc, hp, R, h⟩
  | [c], h => exact fun s R S => wpAny_tests_one (h s R S)
theorem setAll_mono : ∀ (names : List Str) (vs : List Value) {l l' : LOC}, (∀ x v, l x = some v → l' x = some v) → ∀ x v, setAll names vs l x = some v → setAll names vs l' x = some v
  | [], _, _, _, h => h
  | n :: ns, [], _, _, h => h
  | n :: ns, u :: us, l, l', h => setAll_mono ns us fun x v e => by
    unfold lset at e ⊢
    split
    · rename_i hx; rw [if_pos hx] at e; exact e
    · rename_i hx; rw [if_neg hx] at e; exact h x v e
theorem setAll_sup : ∀ (names : List Str) (vs : List Value) {l l' : LOC}, (∀ x v, l x = some v → l' x = some v ∧ x ∉ names) → ∀ x v, l x = some v → setAll names vs l' x = some v
  | [], _, _, _, h, x, v, e => (h x v e).1
  | n :: ns, [], _, _, h, x, v, e => (h x v e).1
  | n :: ns, u :: us, l, l', h, x, v, e => setAll_sup ns us (l := l) (fun y w e' => by
      obtain ⟨a, b⟩ := h y w e'
      refine ⟨?_, fun hm => b (.tail _ hm)⟩
      unfold lset
      rw [if_neg (by rintro rfl; exact b (.head _))]
      exact a) x v e
theorem call_append {D : Addr} {ys : List Value} {x : Value} {Q : Value → LOC → HP → Prop} (hD : hp D = some (.list ys)) (hsz : ys.length ≤ sizeLine) (h : Q .none loc (hset hp D (.list (ys ++ [nm x])))) :
    aw C A g fr E (call (.builtin "list.append") [.ref D, x]) loc hp Q := fun s R S => by
  obtain ⟨vs, n, e, q⟩ := R.list hD
  refine wpAny_list_append_plain (items := vs) ⟨n, e⟩ (fun h' hl hs => ?_) (by rw [nm_size q]; exact hsz)
  obtain ⟨n', e'⟩ := hl
  exact ⟨S, loc, _, R.chg hD hs.extBut (ao' := .list (ys ++ [nm x])) e' ⟨_, _, rfl, by rw [Array.toList_push, List.map_append, q]; rfl⟩, h⟩
def isNs : AO := .sat fun o => ∃ (h : Heap) (a : Addr) (m : Str → Option Value), h.Ns a m ∧ h.get? a = some o
theorem Rep.isNs {H₀ h : Heap} {L : Addr} (R : Rep H₀ g fr loc hp h) (hL : hp L = some isNs) : ∃ m, h.Ns L m := by
  obtain ⟨_, _, _, o, ho, h₁, a, m, ⟨o', es, ep, e, r⟩, e'⟩ := R.at_ L _ hL
  rw [e] at e'; cases e'
  exact ⟨m, _, es, ep, ho, r⟩
theorem comp_core {elt target iter : Expr} {ifs : List Expr} {pos pos₂ : Pos} {names : List Str} {use : Option (Value → Sem Unit)} {Qw : Value → Shared → Prop} (F : FrOf fr sc ow) (hs : ScOk scope sc = true)
    (hfs : ∀ x, foldedSetIterable iter fr.env x = pure x) (hok : names.all (fun x => scope.names.lookup x == some .local || scope.names.lookup x == some .cell) = true)
    (s : Shared) (R : Rep C.H₀ g fr loc hp s.heap) (S : Sok C s)
    (h : awv C A g fr E (eval iter fr.env) loc hp fun x l p => onIt C A target names x l p fun vss need l p => vss.length ≤ 100000 ∧ ∃ Inv : Nat → List Value → HP → Prop, Inv 0 [] p ∧ (∀ i ys p, Inv i ys p → need p) ∧
      (∀ i vs ys p g' fr' E', vss[i]? = some vs → Inv i ys p → FrOf fr' (relabelS scope sc) (ownS scope) → awT C A g' fr' E' ifs (setAll names vs (compLoc scope l)) p fun b l' p' => ∀ g'' E'',
        if b then awv C A g'' fr' E'' (eval elt fr'.env) l' p' fun y l'' p'' => l'' = setAll names vs (compLoc scope l) ∧ Inv (i + 1) (ys ++ [y]) p'' else l' = setAll names vs (compLoc scope l) ∧ Inv (i + 1) ys p') ∧
      (∀ D L ys p s', Inv vss.length ys p → p D = none → (hset p D (.list ys)) L = none → Sok C s' → Rep C.H₀ g fr l (hset (hset p D (.list ys)) L isNs) s'.heap → (∃ m, s'.heap.Ns L m) → compPost (model C.prog C.w) A E use Qw (.ref D) L (.ok .next) s')) :
    wpAny (model C.prog C.w) A (comprehension (.ListComp elt [⟨target, iter, ifs, 0⟩] scope pos) scope fr.env pos₂ (newList []) false (eval iter fr.env) use) Qw E s := by
  refine wpAny_comprehension_free rfl hfs (comp_closure F hs) (ScOk.kind hs) (fun x hx hl => by obtain ⟨n, k⟩ := x; cases hl; exact ScOk.names hs hx) ?_
  refine wpAny_mono (h s R S) (fun x s₁ ⟨S₁, l₁, p₁, R₁, vss, need, r₁, p₀, e, hnd, hap, hit, hlen, Inv, h0, hn, turn, fin⟩ => ?_) fun _ _ e => e
  subst e
  have := hit g fr E l₁ p₀ x (fun it l p => ∃ St r₀, l = l₁ ∧ p = hjoin p₀ r₀ ∧ Src C A target names it vss need St ∧ St 0 r₀ ∧ Apart p₀ r₀) rfl hnd hap (fun it St r₀ W hst hap => ⟨St, r₀, rfl, rfl, W, hst, hap⟩) s₁ R₁ S₁
  refine wpAny_mono this (fun it s₂ ⟨S₂, l₂, p₂, R₂, St, r₀, e1, e2, W, hst, hap⟩ => ?_) fun _ _ e => e
  subst e1; subst e2
  have hD0 : hjoin p₀ r₀ s₂.heap.objs.size = none := R₂.none_at
  have hDp : p₀ s₂.heap.objs.size = none := by
    cases q : p₀ s₂.heap.objs.size with
    | none => rfl
    | some o => rw [hjoin_l q] at hD0; cases hD0
  generalize hDe : s₂.heap.objs.size = D at hD0 hDp
  have alloc : Rep C.H₀ g fr l₂ (hjoin (hset p₀ D (.list [])) r₀) (s₂.heap.push { cls := .type "list", data := .seq ([] : List Value).toArray }) := by
    rw [hjoin_hset, ← hDe]
    exact R₂.alloc rfl ⟨_, _, rfl, rfl⟩
  refine wpAny_newObj_type ?_ (by show ([] : List Value).toArray.size ≤ sizeLine; rw [sizeLine_eq]; decide)
  rw [hDe]
  generalize hs₃ : ({ s₂ with heap := s₂.heap.push { cls := .type "list", data := .seq ([] : List Value).toArray } } : Shared) = s₃
  have R₃ : Rep C.H₀ g fr l₂ (hjoin (hset p₀ D (.list [])) r₀) s₃.heap := by rw [← hs₃]; exact alloc
  have S₃ : Sok C s₃ := by rw [← hs₃]; exact S₂
  clear hs₃ alloc this R₂ S₂ R₁ S₁ hit R S h
  refine wpAny_newCompEnv ?_
  generalize hL : s₃.heap.objs.size = L
  have R₄ := rep_comp F hs R₃
  rw [hL] at R₄
  have hF' := frOf_comp F hs L
  have hapD : Apart (hset p₀ D (.list [])) r₀ := fun b hb => by
    by_cases e : b = D
    · subst e
      exfalso
      unfold hjoin at hD0
      rw [hDp] at hD0
      exact hb hD0
    · rw [hset_ne _ _ e]; exact hap b hb
  have hokS : ∀ x ∈ names, Sto (compFm fr scope L) x := fun x hx => by
    have hk := List.all_eq_true.mp hok x hx
    rcases Bool.or_eq_true_iff.mp hk with q | q
    · refine hF'.stoL ?_
      rw [relabelS_lookup, beq_iff_eq.mp q]; rfl
    · refine hF'.stoC ?_ ?_
      · rw [relabelS_lookup, beq_iff_eq.mp q]; rfl
      · exact q
  have hbase : ∀ x v, compLoc scope l₂ x = some v → x ∉ names := fun x v e hx => by
    obtain ⟨e1, _⟩ := of_compLoc e
    have hk := List.all_eq_true.mp hok x hx
    rw [e1] at hk
    cases hk
  have gL : (veil s₃.heap (hjoin (hset p₀ D (.list [])) r₀)).get? L = none := by
    cases q : (veil s₃.heap (hjoin (hset p₀ D (.list [])) r₀)).get? L with
    | none => rfl
    | some o => exact absurd (Heap.lt_size (of_veil q).1) (by rw [hL]; exact Nat.lt_irrefl _)
  have loop : ∀ s : Shared, Sok C s → ∀ r, St 0 r → Apart (hset p₀ D (.list [])) r → Rep C.H₀ (veil s₃.heap (hjoin (hset p₀ D (.list [])) r₀)) (compFm fr scope L) (compLoc scope l₂) (hjoin (hset p₀ D (.list [])) r) s.heap →
      codeAny (model C.prog C.w) A (.compLoop (.ListComp elt [⟨target, iter, ifs, 0⟩] scope pos) 0 it (.ref D) (compFm fr scope L).env) (compPost (model C.prog C.w) A E use Qw (.ref D) L) s := fun s Ss r hst hap R => by
    refine codeAny_compLoop_gen (fun k s' => Sok C s' ∧ ∃ i l p r ys, k = vss.length - i ∧ i ≤ vss.length ∧ ys.length ≤ i ∧ p D = none ∧ Apart (hset p D (.list ys)) r ∧ Rep C.H₀ (veil s₃.heap (hjoin (hset p₀ D (.list [])) r₀)) (compFm fr scope L) l (hjoin (hset p D (.list ys)) r) s'.heap ∧ St i r ∧
      (∀ x v, compLoc scope l₂ x = some v → l x = some v) ∧ Inv i ys p) ?_ vss.length ⟨Ss, 0, _, p₀, r, [], rfl, Nat.zero_le _, Nat.zero_le _, hDp, hap, R, hst, fun _ _ e => e, h0⟩
    rintro k s' ⟨S', i, l, p, r, ys, rfl, hi, hys, hpD, hap, R', hst', hl, hI⟩
    have hup := hset_back (o := .list ys) hpD
    by_cases hlt : i < vss.length
    · have hget : vss[i]? = some vss[i] := List.getElem?_eq_getElem hlt
      have := W.adv i _ r (hset p D (.list ys)) _ (compFm fr scope L) (notedBy (model C.prog C.w) A (compFm fr scope L).env fun e s' => compPost (model C.prog C.w) A E use Qw (.ref D) L (.error e) s') l
        (fun l' p' => ∃ r', St (i + 1) r' ∧ Apart (hset p D (.list ys)) r' ∧ l' = setAll names vss[i] l ∧ p' = hjoin (hset p D (.list ys)) r') hget hst' (W.up _ _ hup (hn i ys p hI)) hap hokS (fun r' a b => ⟨r', a, b, rfl, rfl⟩) s' R' S'
      refine wpAny_mono this (fun rr s₁ ⟨S₁, l₁, p₁, R₁, v, e, h₁⟩ => ?_) fun _ _ e => e
      subst e
      refine wpAny_mono (h₁ s₁ R₁ S₁) (fun _ s₂ ⟨S₂, l₂', p₂, R₂, h₂⟩ => ?_) fun _ _ e => e
      refine wpAny_mono (h₂ s₂ R₂ S₂) (fun _ s₄ ⟨S₄, l₄, p₄, R₅, r', hst₃, hap₃, e1, e2⟩ => ?_) fun _ _ e => e
      subst e1; subst e2
      have apD : Apart p (hset r' D (.list ys)) := apart_hset (fun b hb => by
        have := hap₃ b hb
        by_cases e : b = D
        · subst e; exact hpD
        · rwa [hset_ne _ _ e] at this) hpD
      have ej : hjoin (hset p D (.list ys)) r' = hjoin p (hset r' D (.list ys)) := by rw [hjoin_hset, hset_hjoin hpD]
      rw [ej] at R₅
      have R₆ := R₅.forget (setAll_mono names vss[i] hl) (fun _ _ e => e)
      have tb := aw_frame (C := C) (A := A) (g := veil s₃.heap (hjoin (hset p₀ D (.list [])) r₀)) (fr := compFm fr scope L) (E := notedBy (model C.prog C.w) A (compFm fr scope L).env fun e s' => compPost (model C.prog C.w) A E use Qw (.ref D) L (.error e) s') apD
        (fun g' => aw_tests (turn i _ ys p g' (compFm fr scope L) _ hget hI hF'))
      refine wpAny_mono (tb s₄ R₆ S₄) (fun ok s₅ ⟨S₅, l₅, p₅, R₇, p₆, e, hap₆, q⟩ => ?_) fun _ _ e => e
      subst e
      have hsup : ∀ x v, compLoc scope l₂ x = some v → setAll names vss[i] (compLoc scope l₂) x = some v := setAll_sup names vss[i] fun x v e => ⟨e, hbase x v e⟩
      have back : ∀ {p' : HP} {zs : List Value}, Apart p' (hset r' D (.list ys)) → p' D = none ∧ Apart (hset p' D (.list zs)) r' := fun {p' zs} ha => by
        have hD : p' D = none := ha D (by rw [hset_eq]; exact fun e => nomatch e)
        refine ⟨hD, fun b hb => ?_⟩
        by_cases e : b = D
        · subst e
          have := hap₃ _ hb
          rw [hset_eq] at this; cases this
        · rw [hset_ne _ _ e]; exact ha b (by rw [hset_ne _ _ e]; exact hb)
      cases ok with
      | false =>
        have q' := q (veil s₃.heap (hjoin (hset p₀ D (.list [])) r₀)) (fun _ _ => True)
        simp only [Bool.false_eq_true, if_false] at q' ⊢
        obtain ⟨rfl, hI'⟩ := q'
        obtain ⟨hD', ha'⟩ := back (zs := ys) hap₆
        refine ⟨vss.length - (i + 1), by omega, S₅, i + 1, _, p₆, r', ys, rfl, hlt, by omega, hD', ha', ?_, hst₃, hsup, hI'⟩
        have ej' : hjoin (hset p₆ D (.list ys)) r' = hjoin p₆ (hset r' D (.list ys)) := by rw [hjoin_hset, hset_hjoin hD']
        rw [ej']; exact R₇
      | true =>
        simp only [if_true] at q ⊢
        have te := aw_frame (C := C) (A := A) (g := veil s₃.heap (hjoin (hset p₀ D (.list [])) r₀)) (fr := compFm fr scope L) (E := notedBy (model C.prog C.w) A (compFm fr scope L).env fun e s' => compPost (model C.prog C.w) A E use Qw (.ref D) L (.error e) s') hap₆
          (fun g' => q g' _)
        refine wpAny_mono (te s₅ R₇ S₅) (fun y s₆ ⟨S₆, l₆, p₇, R₈, p₈, e, hap₈, e', hI'⟩ => ?_) fun _ _ e => e
        subst e; subst e'
        obtain ⟨hD', ha'⟩ := back (zs := ys ++ [nm y]) hap₈
        have hDin : hjoin p₈ (hset r' D (.list ys)) D = some (.list ys) := hjoin_r hap₈ (hset_eq ..)
        have ap := call_append (C := C) (A := A) (g := veil s₃.heap (hjoin (hset p₀ D (.list [])) r₀)) (fr := compFm fr scope L) (E := notedBy (model C.prog C.w) A (compFm fr scope L).env fun e s' => compPost (model C.prog C.w) A E use Qw (.ref D) L (.error e) s')
          (loc := setAll names vss[i] (compLoc scope l₂)) (x := y) (Q := fun _ l p => l = setAll names vss[i] (compLoc scope l₂) ∧ p = hset (hjoin p₈ (hset r' D (.list ys))) D (.list (ys ++ [nm y]))) hDin (by rw [sizeLine_eq]; omega) ⟨rfl, rfl⟩
        refine wpAny_mono (ap s₆ R₈ S₆) (fun _ s₇ ⟨S₇, l₇, p₉, R₉, e1, e2⟩ => ?_) fun _ _ e => e
        subst e1; subst e2
        refine ⟨vss.length - (i + 1), by omega, S₇, i + 1, _, p₈, r', ys ++ [nm y], rfl, hlt, by simp; omega, hD', ha', ?_, hst₃, hsup, hI'⟩
        rw [hset_hjoin hD', hset_hset] at R₉
        have ej' : hjoin (hset p₈ D (.list (ys ++ [nm y]))) r' = hjoin p₈ (hset r' D (.list (ys ++ [nm y]))) := by rw [hjoin_hset, hset_hjoin hD']
        rw [ej']; exact R₉
    · have hin : i = vss.length := by omega
      subst hin
      have := W.stp r (hset p D (.list ys)) _ (compFm fr scope L) (notedBy (model C.prog C.w) A (compFm fr scope L).env fun e s' => compPost (model C.prog C.w) A E use Qw (.ref D) L (.error e) s') l
        (fun l' p' => l' = l ∧ ∃ r', p' = hjoin (hset p D (.list ys)) r') hst' (W.up _ _ hup (hn _ ys p hI)) hap (fun r' _ => ⟨rfl, r', rfl⟩) s' R' S'
      refine wpAny_mono this (fun rr s₁ ⟨S₁, l₁, p₁, R₁, e, e1, r', e2⟩ => ?_) fun _ _ e => e
      subst e; subst e1; subst e2
      have R₂ := R₁.forget (fun _ _ e => e) (hjoin_drop (hset p D (.list ys)) r')
      have hLn : hset p D (.list ys) L = none := by
        cases q : hset p D (.list ys) L with
        | none => rfl
        | some o => exact absurd rfl (R₂.at_ L o q).2.1
      refine fin D L ys p s₁ hI hpD hLn S₁ ?_ R₂.ns
      refine R₃.asleep R₂.keep fun b ao e => ?_
      by_cases hb : b = L
      · subst hb
        rw [hset_eq] at e; cases e
        obtain ⟨m, o, es, ep, ho, r⟩ := R₂.ns
        exact ⟨gL, o, ho, s₁.heap, _, m, ⟨o, es, ep, ho, r⟩, ho⟩
      · rw [hset_ne _ _ hb] at e
        obtain ⟨a1, _, _, a4⟩ := R₂.at_ b ao e
        exact ⟨a1, a4⟩
  refine codeAny_compStart_list ?_ ?_
  · refine loop _ ?_ r₀ hst hapD ?_
    · exact S₃
    · exact R₄
  · have sf := W.self 0 r₀ (hset p₀ D (.list [])) (veil s₃.heap (hjoin (hset p₀ D (.list [])) r₀)) (compFm fr scope L) (notedBy (model C.prog C.w) A (compFm fr scope L).env fun x s' => compPost (model C.prog C.w) A E use Qw (.ref D) L (.error x) s') (compLoc scope l₂)
      (fun it' l p => it' = it ∧ l = compLoc scope l₂ ∧ p = hjoin (hset p₀ D (.list [])) r₀) hst (W.up _ _ (hset_back hDp) hnd) hapD ⟨rfl, rfl, rfl⟩
    refine wpAny_mono (sf { s₃ with heap := pushCells (s₃.heap.push { cls := .type "dict", data := .dict #[] }) scope.names } R₄ S₃) (fun it' s₅ ⟨S₅, l₅, p₅, R₅, e1, e2, e3⟩ => ?_) fun _ _ e => e
    subst e1; subst e2; subst e3
    exact loop s₅ S₅ r₀ hst hapD R₅
def CompTo (C : Cx) (A : Around) (fr : Fm) (sc scope : Scope) (target elt : Expr) (ifs : List Expr) (names : List Str) (x : Value) (l : LOC) (p : HP) (Q : Value → LOC → HP → Prop) : Prop :=
  onIt C A target names x l p fun vss need l p => vss.length ≤ 100000 ∧ ∃ Inv : Nat → List Value → HP → Prop, Inv 0 [] p ∧ (∀ i ys p, Inv i ys p → need p) ∧
      (∀ i vs ys p g' fr' E', vss[i]? = some vs → Inv i ys p → FrOf fr' (relabelS scope sc) (ownS scope) → awT C A g' fr' E' ifs (setAll names vs (compLoc scope l)) p fun b l' p' => ∀ g'' E'',
        if b then awv C A g'' fr' E'' (eval elt fr'.env) l' p' fun y l'' p'' => l'' = setAll names vs (compLoc scope l) ∧ Inv (i + 1) (ys ++ [y]) p'' else l' = setAll names vs (compLoc scope l) ∧ Inv (i + 1) ys p') ∧
      (∀ D ys p, Inv vss.length ys p → p D = none → Q (.ref D) l (hset p D (.list ys)))
theorem onIt_mono {target : Expr} {names : List Str} {x : Value} {K K' : List (List Value) → (HP → Prop) → LOC → HP → Prop} (h : onIt C A target names x loc hp K) (hk : ∀ vss need l p, K vss need l p → K' vss need l p) : onIt C A target names x loc hp K' :=
  let ⟨vss, need, r₁, p₀, a, b, c, d, k⟩ := h; ⟨vss, need, r₁, p₀, a, b, c, d, hk _ _ _ _ k⟩
theorem aw_ListComp {elt target iter : Expr} {ifs : List Expr} {pos : Pos} {names : List Str} {Q : Value → LOC → HP → Prop} (F : FrOf fr sc ow) (hs : ScOk scope sc = true)
    (hfs : ∀ x, foldedSetIterable iter fr.env x = pure x) (hok : names.all (fun x => scope.names.lookup x == some .local || scope.names.lookup x == some .cell) = true)
    (h : awv C A g fr E (eval iter fr.env) loc hp fun x l p => CompTo C A fr sc scope target elt ifs names x l p Q) :
    awv C A g fr E (eval (.ListComp elt [⟨target, iter, ifs, 0⟩] scope pos) fr.env) loc hp Q := fun s R S => by
  rw [eval_ListComp]
  refine comp_core (use := none) F hs hfs hok s R S (awv_mono h fun x l p hx => onIt_mono hx fun vss need l p ⟨h1, Inv, h2, h3, h4, h5⟩ => ⟨h1, Inv, h2, h3, h4, fun D L ys p s' hI hD hL S' R' hn => ?_⟩)
  obtain ⟨m, n⟩ := hn
  refine ⟨m, n, fun h' hsb => ⟨S', l, hset p D (.list ys), ?_, h5 D ys p hI hD⟩⟩
  exact R'.drop1 (hset_eq ..) hsb.extBut fun b o e => ⟨(by rintro rfl; rw [hL] at e; cases e), hset_of hL e⟩
theorem aw_AssignUsed {elt target iter : Expr} {ifs : List Expr} {pos pos' spos : Pos} {x : Str} {names : List Str} {Q : Flow → LOC → HP → Prop} (hsw : swapsWith (.ListComp elt [⟨target, iter, ifs, 0⟩] scope pos) (some (.Name x pos')) spos.line fr.env = pure true)
    (hx : Sto fr x) (F : FrOf fr sc ow) (hs : ScOk scope sc = true)
    (hfs : ∀ x, foldedSetIterable iter fr.env x = pure x) (hok : names.all (fun x => scope.names.lookup x == some .local || scope.names.lookup x == some .cell) = true)
    (h : awv C A g fr E (eval iter fr.env) loc hp fun y l p => CompTo C A fr sc scope target elt ifs names y l p fun v l p => Q .next (lset l x v) p) :
    awf C A g fr E (exec (.Assign [.Name x pos'] (.ListComp elt [⟨target, iter, ifs, 0⟩] scope pos) spos) fr.env) loc hp Q := fun s R S => by
  rw [exec_Assign_Name_used _ _ _ _ hsw]
  refine wpAny_bind (wpAny_standAt (wpAny_bind ?_))
  show wpAny _ A (do let _ ← comprehension (.ListComp elt [⟨target, iter, ifs, 0⟩] scope pos) scope fr.env _ (newList []) false (eval iter fr.env) (some (assign (.Name x pos') fr.env))) _ _ s
  refine wpAny_bind (wpAny_mono (comp_core (use := some (assign (.Name x pos') fr.env)) (Qw := fun _ s' => Sok C s' ∧ ∃ l p, Rep C.H₀ g fr l p s'.heap ∧ Q .next l p) F hs hfs hok s R S (awv_mono h fun y l p hy => onIt_mono hy fun vss need l p ⟨h1, Inv, h2, h3, h4, h5⟩ => ⟨h1, Inv, h2, h3, h4, fun D L ys p s' hI hD hL S' R' hn => ?_⟩)) (fun _ s' q => wpAny_pure (wpAny_pure q)) fun _ _ e => e)
  have st := aw_assignName (C := C) (A := A) (g := g) (fr := fr) (E := E) (loc := l) (hp := hset (hset p D (.list ys)) L isNs) (x := x) (pos := pos') (v := .ref D)
    (Q := fun _ l' p' => l' = lset l x (.ref D) ∧ p' = hset (hset p D (.list ys)) L isNs) hx ⟨rfl, rfl⟩
  show wpAny _ A (assign (.Name x pos') fr.env (.ref D)) _ _ _
  refine wpAny_mono (st s' R' S') (fun _ s₂ ⟨S₂, l₂, p₂, R₂, e1, e2⟩ => ?_) fun _ _ e => e
  subst e1; subst e2
  obtain ⟨m, n⟩ := R₂.isNs (hset_eq ..)
  refine ⟨m, n, fun h' hsb => ⟨S₂, _, hset p D (.list ys), ?_, h5 D ys p hI hD⟩⟩
  exact R₂.drop1 (hset_eq ..) hsb.extBut fun b o e => ⟨(by rintro rfl; rw [hL] at e; cases e), hset_of hL e⟩
end
end Mine
end
section
namespace Mine
section
variable {α : Type} {C : Cx} {A : Around} {g : Heap} {fr : Fm} {E : Value → Shared → Prop} {loc : LOC} {hp : HP} {sc : Scope} {scope : Scope}
def Sub (p p' : HP) : Prop := ∀ b o, p b = some o → p' b = some o
theorem Sub.rfl {p : HP} : Sub p p := fun _ _ e => e
theorem Sub.trans {p q r : HP} (h : Sub p q) (h' : Sub q r) : Sub p r := fun b o e => h' b o (h b o e)
theorem Sub.set {p : HP} {a : Addr} {o : AO} (h : p a = none) : Sub p (hset p a o) := hset_back h
theorem Sub.none {p q : HP} (h : Sub p q) {a : Addr} (e : q a = none) : p a = none := by
  cases z : p a with
  | none => rfl
  | some o => rw [h _ _ z] at e; cases e
theorem take_succ_fm {β γ : Type} (f : β → Option γ) (l : List β) (i : Nat) (v : β) (h : l[i]? = some v) : (l.take (i + 1)).filterMap f = (l.take i).filterMap f ++ (f v).toList := by
  rw [List.take_add_one, h, List.filterMap_append]
  simp [List.filterMap_cons]
  cases f v <;> rfl
theorem comp_pure {β : Type} {target elt : Expr} {ifs : List Expr} {names : List Str} {x : Value} {Q : Value → LOC → HP → Prop} (xs : List β) (m : β → List Value) (f : β → Option Value)
    (h : onIt C A target names x loc hp fun vss need l p => vss = xs.map m ∧ xs.length ≤ 100000 ∧
      (∀ x ∈ xs, ∀ g' fr' E', FrOf fr' (relabelS scope sc) (ownS scope) → awT C A g' fr' E' ifs (setAll names (m x) (compLoc scope l)) p fun b l' p' => l' = setAll names (m x) (compLoc scope l) ∧ Sub p p' ∧
        if b then ∀ g'' E'', awv C A g'' fr' E'' (eval elt fr'.env) l' p' fun y l'' p'' => l'' = setAll names (m x) (compLoc scope l) ∧ Sub p p'' ∧ f x = some y else f x = none) ∧
      ∀ D, p D = none → Q (.ref D) l (hset p D (.list (xs.filterMap f)))) :
    CompTo C A fr sc scope target elt ifs names x loc hp Q := by
  obtain ⟨vss, need, r₁, p₀, a, hnd, c, d, rfl, h1, h2, h3⟩ := h
  refine ⟨_, need, r₁, p₀, a, hnd, c, d, by rwa [List.length_map], fun i ys p => p = p₀ ∧ ys = (xs.take i).filterMap f, ⟨rfl, rfl⟩, fun i ys p e => e.1 ▸ hnd, ?_, ?_⟩
  · rintro i vs ys p g' fr' E' hv ⟨rfl, rfl⟩ hF
    rw [List.getElem?_map] at hv
    obtain ⟨x, hx, rfl⟩ := Option.map_eq_some_iff.mp hv
    have := h2 x (List.mem_of_getElem? hx) g' fr' E' hF
    have hI : ∀ y, f x = y → (xs.take i).filterMap f ++ y.toList = (xs.take (i + 1)).filterMap f := fun y e => by rw [take_succ_fm f xs i x hx, e]
    have cl : ∀ b l' p', (l' = setAll names (m x) (compLoc scope loc) ∧ Sub p p' ∧ if b = true then ∀ g'' E'', awv C A g'' fr' E'' (eval elt fr'.env) l' p' fun y l'' p'' => l'' = setAll names (m x) (compLoc scope loc) ∧ Sub p p'' ∧ f x = some y else f x = none) →
        ∃ p₂, (∀ b o, p₂ b = some o → p' b = some o) ∧ ∀ g'' E'', if b = true then awv C A g'' fr' E'' (eval elt fr'.env) l' p₂ fun y l'' p'' => l'' = setAll names (m x) (compLoc scope loc) ∧ p'' = p ∧ (xs.take i).filterMap f ++ [y] = (xs.take (i + 1)).filterMap f
          else l' = setAll names (m x) (compLoc scope loc) ∧ p₂ = p ∧ (xs.take i).filterMap f = (xs.take (i + 1)).filterMap f := by
      rintro b l' p' ⟨e1, e2, q⟩
      cases b with
      | false =>
        refine ⟨p, e2, fun g'' E'' => ?_⟩
        rw [if_neg (by decide)] at q ⊢
        exact ⟨e1, rfl, by have := hI none q; simpa using this⟩
      | true =>
        refine ⟨p', Sub.rfl, fun g'' E'' => ?_⟩
        rw [if_pos rfl] at q ⊢
        exact aw_weak (aw_mono (q g'' E'') fun y l'' p'' ⟨a1, a2, a3⟩ => ⟨p, a2, a1, rfl, hI (some _) a3⟩)
    match ifs, this with
    | [], this =>
      obtain ⟨e1, e2, q⟩ := this
      intro g'' E''
      rw [if_pos rfl] at q ⊢
      exact aw_weak (aw_mono (q g'' E'') fun y l'' p'' ⟨a1, a2, a3⟩ => ⟨p, a2, a1, rfl, hI (some _) a3⟩)
    | [c], this => exact aw_weak (aw_mono this fun b l' p' q => cl b l' p' q)
  · rintro D ys p ⟨rfl, rfl⟩ hD
    rw [List.length_map, List.take_length]
    exact h3 D hD
theorem comp_map {β : Type} {target elt : Expr} {names : List Str} {x : Value} {Q : Value → LOC → HP → Prop} (xs : List β) (m : β → List Value) (f : β → Value)
    (h : onIt C A target names x loc hp fun vss need l p => vss = xs.map m ∧ xs.length ≤ 100000 ∧
      (∀ x ∈ xs, ∀ g' fr' E', FrOf fr' (relabelS scope sc) (ownS scope) → awv C A g' fr' E' (eval elt fr'.env) (setAll names (m x) (compLoc scope l)) p fun y l'' p'' => l'' = setAll names (m x) (compLoc scope l) ∧ Sub p p'' ∧ y = f x) ∧
      ∀ D, p D = none → Q (.ref D) l (hset p D (.list (xs.map f)))) :
    CompTo C A fr sc scope target elt [] names x loc hp Q :=
  comp_pure xs m (fun x => some (f x)) (onIt_mono h fun vss need l p ⟨h1, h2, h3, h4⟩ => ⟨h1, h2, fun x hx g' fr' E' hF => ⟨rfl, Sub.rfl, by
    rw [if_pos rfl]
    exact fun g'' E'' => awv_mono (h3 x hx g'' fr' E'' hF) fun y l'' p'' ⟨a, b, c⟩ => ⟨a, b, by rw [c]⟩⟩, by rw [List.filterMap_eq_map']; exact h4⟩)
theorem comp_new {β : Type} {target elt : Expr} {names : List Str} {x : Value} {Q : Value → LOC → HP → Prop} (xs : List β) (m : β → List Value) (F : β → AO)
    (h : onIt C A target names x loc hp fun vss need l p => vss = xs.map m ∧ xs.length ≤ 100000 ∧ (∀ p', Sub p p' → need p') ∧
      (∀ x ∈ xs, ∀ g' fr' E' p', FrOf fr' (relabelS scope sc) (ownS scope) → Sub p p' → awv C A g' fr' E' (eval elt fr'.env) (setAll names (m x) (compLoc scope l)) p' fun y l'' p'' => l'' = setAll names (m x) (compLoc scope l) ∧ ∃ T, y = .ref T ∧ p' T = none ∧ Sub p' p'' ∧ p'' T = some (F x)) ∧
      ∀ D (ts : List Addr) p', ts.length = xs.length → ts.Nodup → (∀ (k : Nat) (T : Addr) (x : β), ts[k]? = some T → xs[k]? = some x → p' T = some (F x)) → (∀ T ∈ ts, p T = none) → Sub p p' → p' D = none → Q (.ref D) l (hset p' D (.list (ts.map .ref)))) :
    CompTo C A fr sc scope target elt [] names x loc hp Q := by
  obtain ⟨vss, need, r₁, p₀, a, hnd, c, d, rfl, h1, h0, h2, h3⟩ := h
  refine ⟨_, need, r₁, p₀, a, hnd, c, d, by rwa [List.length_map], fun i ys p => Sub p₀ p ∧ i ≤ xs.length ∧ ∃ ts : List Addr, ys = ts.map .ref ∧ ts.length = i ∧ ts.Nodup ∧ (∀ T ∈ ts, p₀ T = none) ∧ ∀ (k : Nat) (T : Addr) (x : β), ts[k]? = some T → xs[k]? = some x → p T = some (F x),
    ⟨Sub.rfl, Nat.zero_le _, [], rfl, rfl, List.nodup_nil, (fun T h => by cases h), fun k T x e => by cases e⟩, fun i ys p e => h0 p e.1, ?_, ?_⟩
  · rintro i vs ys p g' fr' E' hv ⟨hs, hi, ts, rfl, hl, hnod, hp0, hts⟩ hF g'' E''
    rw [List.getElem?_map] at hv
    obtain ⟨x, hx, rfl⟩ := Option.map_eq_some_iff.mp hv
    have hTs : ∀ U ∈ ts, p U ≠ none := fun U hu e => by
      obtain ⟨k, hk⟩ := List.mem_iff_getElem?.mp hu
      have hk' : k < xs.length := by have := (List.getElem?_eq_some_iff.mp hk).1; omega
      have := hts k U _ hk (List.getElem?_eq_getElem hk')
      rw [e] at this; cases this
    rw [if_pos rfl]
    refine aw_mono (h2 x (List.mem_of_getElem? hx) g'' fr' E'' p hF hs) fun y l'' p'' ⟨e1, T, e2, e3, e4, e5⟩ => ⟨e1, hs.trans e4, (List.getElem?_eq_some_iff.mp hx).1, ts ++ [T], ?_, by simp [hl], ?_, ?_, ?_⟩
    · rw [e2]; simp
    · refine List.nodup_append.mpr ⟨hnod, by simp, fun u hu v hv' => ?_⟩
      rcases List.mem_cons.mp hv' with rfl | h
      · rintro rfl; exact hTs u hu e3
      · cases h
    · intro U hU
      rcases List.mem_append.mp hU with h | h
      · exact hp0 U h
      · rcases List.mem_cons.mp h with rfl | h
        · exact hs.none e3
        · cases h
    · intro k U y' hk hw
      rcases Nat.lt_or_ge k ts.length with q | q
      · rw [List.getElem?_append_left q] at hk
        exact e4 _ _ (hts k U y' hk hw)
      · rw [List.getElem?_append_right q] at hk
        have hk0 : k - ts.length = 0 := by
          have := (List.getElem?_eq_some_iff.mp hk).1
          simp at this; omega
        rw [hk0] at hk
        cases hk
        have : k = i := by omega
        subst this
        rw [hx] at hw; cases hw
        exact e5
  · rintro D ys p ⟨hs, hi, ts, rfl, hl, hnod, hp0, hts⟩ hD
    rw [List.length_map] at hl
    exact h3 D ts p hl hnod hts hp0 hs hD
theorem it_ints (hh : A.handled = none) {a : Addr} {ns : List Int} {x : Str} {px : Pos} {K : List (List Value) → (HP → Prop) → LOC → HP → Prop} (ha : hp a = some (.list (ns.map fun i => .int i 0)))
    (h : K (ns.map fun i => [.int i 0]) (fun p => p a = some (.list (ns.map fun i => .int i 0))) loc hp) : onIt C A (.Name x px) [x] (.ref a) loc hp K :=
  it_list hh ha (by rw [List.map_map]; exact h)
/-! ### enumerate -/
def enumL : Nat → List Value → List (List Value)
  | _, [] => []
  | n, x :: xs => [.int n 0, x] :: enumL (n + 1) xs
theorem enumL_get : ∀ (xs : List Value) (n i : Nat), (enumL n xs)[i]? = (xs[i]?).map fun x => [.int ((n + i : Nat) : Int) 0, x]
  | [], n, i => by simp [enumL]
  | x :: xs, n, 0 => by simp [enumL]
  | x :: xs, n, i + 1 => by
    have := enumL_get xs (n + 1) i
    simp only [enumL, List.getElem?_cons_succ, this]
    have e : n + 1 + i = n + (i + 1) := by omega
    rw [e]
theorem enumL_zip : ∀ (xs : List Value) (n : Nat), enumL n xs = (xs.zipIdx n).map fun x => [.int x.2 0, x.1]
  | [], n => rfl
  | x :: xs, n => by rw [enumL, enumL_zip xs (n + 1), List.zipIdx_cons, List.map_cons]
theorem enumL_length : ∀ (xs : List Value) (n : Nat), (enumL n xs).length = xs.length
  | [], n => rfl
  | x :: xs, n => by simp [enumL, enumL_length xs]
def enumSt (e it a : Addr) (i : Nat) (r : HP) : Prop := e ≠ it ∧ ∃ old, r = hset (hset hemp it (listIt a i)) e (enumIt e it i .none old)
theorem enumSt_hp {e it a : Addr} {i : Nat} {r : HP} (h : enumSt e it a i r) : ∃ old, r it = some (listIt a i) ∧ r e = some (enumIt e it i .none old) := by
  obtain ⟨hne, old, rfl⟩ := h
  exact ⟨old, by rw [hset_ne _ _ hne.symm, hset_eq], hset_eq ..⟩
theorem src_enum (hh : A.handled = none) {a e it : Addr} {xs : List Value} {x y : Str} {px py pos : Pos} {k} :
    Src C A (.Tuple [.Name x px, .Name y py] k pos) [x, y] (.ref e) (enumL 0 xs) (fun p => p a = some (.list xs)) (enumSt e it a) where
  adv := by
    intro i vs r p g fr E l Q hv hst hnd hap hok hQ s R S
    obtain ⟨old, hrit, hre⟩ := enumSt_hp hst
    obtain ⟨hne, old', hr⟩ := hst
    rw [enumL_get, Nat.zero_add] at hv
    obtain ⟨v, hv2, rfl⟩ := Option.map_eq_some_iff.mp hv
    obtain ⟨us, n, el, q⟩ := R.list (hjoin_l hnd)
    obtain ⟨u, hu, rfl⟩ := nm_get q hv2
    have hIt := hjoin_r hap hrit
    have hE := hjoin_r hap hre
    have pit : p it = none := hap it (by rw [hrit]; exact fun e => nomatch e)
    have pe : p e = none := hap e (by rw [hre]; exact fun e => nomatch e)
    have hae : a ≠ e := by rintro rfl; rw [pe] at hnd; cases hnd
    have hai : a ≠ it := by rintro rfl; rw [pit] at hnd; cases hnd
    refine wpAny_pyNext_enum_item (R.obj hE) (R.iter hIt) ⟨_, el, rfl, n, rfl⟩ hu hne fun h' a1 a2 a3 a4 a5 => ?_
    have hTe : s.heap.objs.size ≠ e := Nat.ne_of_gt (R.lt_of_hp hE)
    have hTi : s.heap.objs.size ≠ it := Nat.ne_of_gt (R.lt_of_hp hIt)
    have pT : p s.heap.objs.size = none := by
      cases q : p s.heap.objs.size with
      | none => rfl
      | some o => exact absurd (R.lt_of_hp (hjoin_l q)) (Nat.lt_irrefl _)
    generalize hT : s.heap.objs.size = T at a1 a3 a4 hTe hTi pT ⊢
    let r₂ : HP := hset (hset (hset hemp it (listIt a (i + 1))) e (enumIt e it ((i : Int) + 1) (rawInt T) u)) T (.tuple [.int i 0, nm u])
    have ap₂ : Apart p r₂ := apart_hset (apart_hset (apart_hset (apart_hemp _) pit) pe) pT
    have R₂ : Rep C.H₀ g fr l (hjoin p r₂) h' := by
      refine R.step (W := fun b => b = e ∨ b = it) (fun b hb => ?_) (fun b o hb eo => a5 b o (fun q => hb (.inl q)) (fun q => hb (.inr q)) eo) fun b ao eb => ?_
      · rcases hb with rfl | rfl
        · exact ⟨_, hE⟩
        · exact ⟨_, hIt⟩
      · unfold hjoin at eb
        cases q : p b with
        | some o =>
          rw [q] at eb; cases eb
          obtain ⟨_, _, _, o', ho', hi'⟩ := R.at_ b _ (hjoin_l q)
          exact ⟨.inl ⟨_, hjoin_l q⟩, o', a5 b o' (by rintro rfl; rw [pe] at q; cases q) (by rintro rfl; rw [pit] at q; cases q) ho', hi'⟩
        | none =>
          rw [q] at eb
          by_cases hbT : b = T
          · subst hbT
            simp only [r₂, hset_eq] at eb
            cases eb
            exact ⟨.inr (by rw [hT]; exact Nat.le_refl _), _, a3, _, _, rfl, rfl⟩
          · by_cases hbe : b = e
            · subst hbe
              simp only [r₂] at eb
              rw [hset_ne _ _ hTe.symm, hset_eq] at eb
              cases eb
              exact ⟨.inl ⟨_, hE⟩, _, a1, rfl⟩
            · by_cases hbi : b = it
              · subst hbi
                simp only [r₂] at eb
                rw [hset_ne _ _ hTi.symm, hset_ne _ _ hbe, hset_eq] at eb
                cases eb
                obtain ⟨o, ho, hc, hd⟩ := a2
                exact ⟨.inl ⟨_, hIt⟩, o, ho, hc, hd⟩
              · simp only [r₂] at eb
                rw [hset_ne _ _ hbT, hset_ne _ _ hbe, hset_ne _ _ hbi] at eb
                cases eb
    refine ⟨S, l, hjoin p r₂, R₂, _, rfl, ?_⟩
    intro s₃ R₃ S₃
    have hE₂ : hjoin p r₂ e = some (enumIt e it ((i : Int) + 1) (rawInt T) u) := hjoin_r ap₂ (by simp only [r₂]; rw [hset_ne _ _ hTe.symm, hset_eq])
    refine wpAny_letOwnedTupleGo_enum (R₃.obj hE₂) fun h₄ he₄ hs₄ => ?_
    have R₄ := R₃.chg hE₂ hs₄.extBut he₄ (ao' := enumIt e it ((i : Int) + 1) .none u) rfl
    refine ⟨S₃, l, _, R₄, ?_⟩
    have hTT : hset (hjoin p r₂) e (enumIt e it ((i : Int) + 1) .none u) T = some (.tuple [.int i 0, nm u]) := by
      rw [hset_ne _ _ hTe]
      exact hjoin_r ap₂ (hset_eq ..)
    refine aw_weak (aw_assignPair hh hTT (hok x (.head _)) (hok y (.tail _ (.head _))) ⟨hjoin p (hset (hset hemp it (listIt a (i + 1))) e (enumIt e it ((i + 1 : Nat) : Int) .none u)), fun b o eb => ?_, hQ _ ⟨hne, u, rfl⟩ (apart_hset (apart_hset (apart_hemp _) pit) pe)⟩)
    rw [hset_hjoin pe]
    unfold hjoin at eb ⊢
    cases q : p b with
    | some o' => rw [q] at eb; exact eb
    | none =>
      rw [q] at eb
      simp only at eb ⊢
      by_cases hbe : b = e
      · subst hbe
        rw [hset_eq] at eb ⊢
        rw [← eb]; rfl
      · rw [hset_ne _ _ hbe] at eb ⊢
        simp only [r₂]
        rw [hset_ne _ _ (show b ≠ T by
          rintro rfl
          rw [hset_ne _ _ hTi] at eb; cases eb), hset_ne _ _ hbe]
        exact eb
  stp := by
    intro r p g fr E l Q hst hnd hap hQ s R S
    obtain ⟨old, hrit, hre⟩ := enumSt_hp hst
    rw [enumL_length] at hrit hre
    obtain ⟨us, n, el, q⟩ := R.list (hjoin_l hnd)
    have hIt := hjoin_r hap hrit
    have hE := hjoin_r hap hre
    have pit : p it = none := hap it (by rw [hrit]; exact fun e => nomatch e)
    refine wpAny_pyNext_enum_end hh (R.obj hE) (R.iter hIt) ⟨_, el, rfl, n, rfl⟩ (by rw [← nm_size q]; simp) fun h' hx => ⟨S, l, hjoin p hemp, ?_, rfl, hQ _ (apart_hemp _)⟩
    rw [hjoin_hemp]
    exact R.drop1 hIt hx fun b o e => ⟨(by rintro rfl; rw [pit] at e; cases e), hjoin_l e⟩
  self := by
    intro i r p g fr E l Q hst hnd hap hQ s R S
    obtain ⟨old, hrit, hre⟩ := enumSt_hp hst
    exact wpAny_pyIter_enum (R.obj (hjoin_r hap hre)) ⟨S, l, _, R, hQ⟩
  up := fun p p' h e => h _ _ e
theorem it_enum' (hh : A.handled = none) {a : Addr} {xs : List Value} {x y : Str} {px py pos : Pos} {k} {K : List (List Value) → (HP → Prop) → LOC → HP → Prop} (ha : hp a = some (.list xs))
    (h : K (enumL 0 xs) (fun p => p a = some (.list xs)) loc hp) :
    onCall C A g fr E (.type "enumerate") [.ref a] [] loc hp fun v l p => onIt C A (.Tuple [.Name x px, .Name y py] k pos) [x, y] v l p K := onCall1 fun v hv => by
  have := nm_ref hv; subst this
  intro s R S
  obtain ⟨us, n, el, q⟩ := R.list ha
  refine call_enumerate_list ⟨_, el, rfl, n, rfl⟩ fun h' he hi hz hk => ?_
  have n0 := R.none_at
  have n1 : hp (s.heap.objs.size + 1) = none := by
    cases q : hp (s.heap.objs.size + 1) with
    | none => rfl
    | some o => exact absurd (R.lt_of_hp q) (Nat.not_lt.mpr (Nat.le_succ _))
  generalize hit : s.heap.objs.size = it at he hi hz n0 n1 ⊢
  have hne : it + 1 ≠ it := by omega
  let r : HP := hset (hset hemp it (listIt a 0)) (it + 1) (enumIt (it + 1) it ((0 : Nat) : Int) .none .none)
  have hap : Apart hp r := apart_hset (apart_hset (apart_hemp _) n0) n1
  refine ⟨S, loc, hjoin hp r, ?_, _, _, r, hp, rfl, ha, hap, fun g fr E l p x' Q hx hnd hap hQ s R S => ?_, h⟩
  · refine R.step (W := fun _ => False) (fun b hb => hb.elim) (fun b o _ e => hk b o e) fun b ao eb => ?_
    unfold hjoin at eb
    cases q : hp b with
    | some o =>
      rw [q] at eb; cases eb
      obtain ⟨_, _, _, o', ho', hi'⟩ := R.at_ b _ q
      exact ⟨.inl ⟨_, rfl⟩, o', hk b o' ho', hi'⟩
    | none =>
      rw [q] at eb
      simp only [r] at eb
      by_cases hb1 : b = it + 1
      · subst hb1
        rw [hset_eq] at eb; cases eb
        exact ⟨.inr (by omega), _, he, rfl⟩
      · rw [hset_ne _ _ hb1] at eb
        by_cases hb2 : b = it
        · subst hb2
          rw [hset_eq] at eb; cases eb
          obtain ⟨o, ho, hc, hd⟩ := hi
          exact ⟨.inr (by omega), o, ho, hc, hd⟩
        · rw [hset_ne _ _ hb2] at eb; cases eb
  · rw [nm_ref hx]
    exact wpAny_pyIter_enum (R.obj (hjoin_r hap (hset_eq ..))) ⟨S, l, _, R, hQ _ _ r (src_enum hh) ⟨hne, .none, rfl⟩ hap⟩
theorem it_enum (hh : A.handled = none) {a : Addr} {xs : List Value} {x y : Str} {px py pos : Pos} {k} {K : List (List Value) → (HP → Prop) → LOC → HP → Prop} (ha : hp a = some (.list xs))
    (h : K (xs.zipIdx.map fun x => [.int x.2 0, x.1]) (fun p => p a = some (.list xs)) loc hp) :
    onCall C A g fr E (.type "enumerate") [.ref a] [] loc hp fun v l p => onIt C A (.Tuple [.Name x px, .Name y py] k pos) [x, y] v l p K := it_enum' hh ha (by rw [enumL_zip]; exact h)
end
end Mine
end
section
namespace Mine
section
variable {α : Type} {C : Cx} {A : Around} {g : Heap} {fr : Fm} {E : Value → Shared → Prop} {loc : LOC} {hp : HP}
/-! ### displays -/
theorem aw_List {elts : List Expr} {pos : Pos} {Q : Value → LOC → HP → Prop} (hs : elts.all notStar = true)
    (h : awArgs C A g fr E elts loc hp fun xs l p => xs.length ≤ 100000 ∧ ∀ a, p a = none → Q (.ref a) l (hset p a (.list xs))) : awv C A g fr E (eval (.List elts pos) fr.env) loc hp Q := by
  refine aw_congr (arm_eval_List ..) (aw_bind (aw_standAt (aw_bind (aw_mono (aw_spliced hs h) fun vs l p ⟨h1, h2⟩ => ?_))))
  rw [List.length_map] at h1
  exact aw_newList (by rw [sizeLine_eq]; omega) h2
theorem aw_Tuple {elts : List Expr} {k} {pos : Pos} {Q : Value → LOC → HP → Prop} (hs : elts.all notStar = true)
    (h : awArgs C A g fr E elts loc hp fun xs l p => xs.length ≤ 100000 ∧ ∀ a, p a = none → Q (.ref a) l (hset p a (.tuple xs))) : awv C A g fr E (eval (.Tuple elts k pos) fr.env) loc hp Q := by
  refine aw_congr (arm_eval_Tuple ..) (aw_bind (aw_standAt (aw_bind (aw_mono (aw_spliced hs h) fun vs l p ⟨h1, h2⟩ => ?_))))
  rw [List.length_map] at h1
  exact aw_newTuple (by rw [sizeLine_eq]; omega) h2
/-! ### lists put together, parts of lists -/
theorem Rep.alloc' {H₀ h : Heap} {o : Obj} {ao : AO} (R : Rep H₀ g fr loc hp h) (hf : o.isFreed = false) (hi : ao.is o) : Rep H₀ g fr loc (hset hp h.objs.size ao) (h.push o) := R.alloc hf hi
theorem op_add_list {a b : Addr} {xs ys : List Value} {Q : Value → LOC → HP → Prop} (ha : hp a = some (.list xs)) (hb : hp b = some (.list ys)) (hsz : xs.length + ys.length ≤ 100000)
    (h : ∀ c, hp c = none → Q (.ref c) loc (hset hp c (.list (xs ++ ys)))) : ov2 C A g fr E (binaryOp .Add) (.ref a) (.ref b) loc hp Q := by
  intro x y hx hy
  rw [nm_ref hx, nm_ref hy]
  intro s R S
  obtain ⟨vs, n, e, q⟩ := R.list ha
  obtain ⟨ws, n', e', q'⟩ := R.list hb
  have h1 := nm_size q
  have h2 := nm_size q'
  exact P.add_list e e' ⟨S, loc, _, R.alloc (ao := .list (xs ++ ys)) rfl ⟨_, _, rfl, by rw [Array.toList_append, List.map_append, q, q']⟩, h _ R.none_at⟩ (by rw [sizeLine_eq]; omega)
def awPart (C : Cx) (A : Around) (g : Heap) (fr : Fm) (E : Value → Shared → Prop) (e : Option Expr) (l : LOC) (p : HP) (K : Option Int → LOC → HP → Prop) : Prop :=
  match e with
  | none => K none l p
  | some e => awv C A g fr E (eval e fr.env) l p fun v l p => ∃ i, v = .int i 0 ∧ K (some i) l p
theorem aw_part {e : Option Expr} {K : Option Int → LOC → HP → Prop} (h : awPart C A g fr E e loc hp K) : aw C A g fr E (evalPart e fr.env) loc hp fun v l p => ∃ i, IsPart v i ∧ K i l p := by
  cases e with
  | none => rw [evalPart_none]; exact aw_pure ⟨_, .none, h⟩
  | some e =>
    rw [evalPart_some]
    refine aw_mono h fun v l p ⟨i, e, q⟩ => ?_
    obtain ⟨t, rfl⟩ := nm_int e
    exact ⟨_, .int i t, q⟩
def sliceL (xs : List Value) (lo hi : Option Int) : List Value := (xs.drop (lo.elim 0 (clipAt xs.length))).take (hi.elim xs.length (clipAt xs.length) - lo.elim 0 (clipAt xs.length))
theorem aw_Slice {value : Expr} {lower upper : Option Expr} {p₁ pos : Pos} {Q : Value → LOC → HP → Prop} (ht : ∀ o r, letTemporaryGo value o r = pure ())
    (h : awv C A g fr E (eval value fr.env) loc hp fun x l p => awPart C A g fr E lower l p fun lo l p => awPart C A g fr E upper l p fun hi l p => ∃ a xs, x = .ref a ∧ p a = some (.list xs) ∧ xs.length ≤ 100000 ∧
      ∀ c, p c = none → Q (.ref c) l (hset p c (.list (sliceL xs lo hi)))) :
    awv C A g fr E (eval (.Subscript value (.Slice lower upper none p₁) pos) fr.env) loc hp Q := fun s R S => by
  refine wpAny_Subscript_list_slice (wpAny_mono (h s R S) (fun x s₁ ⟨S₁, l₁, p₁, R₁, h₁⟩ => wpAny_mono (aw_part h₁ s₁ R₁ S₁) (fun vl s₂ ⟨S₂, l₂, p₂, R₂, lo, hlo, h₂⟩ =>
    wpAny_mono (aw_part h₂ s₂ R₂ S₂) (fun vu s₃ ⟨S₃, l₃, p₃, R₃, hi, hhi, a, xs, e, ha, hsz, hQ⟩ => ?_) fun _ _ e => e) fun _ _ e => e) fun _ _ e => e) ht
  have := nm_ref e; subst this
  obtain ⟨vs, n, e, q⟩ := R₃.list ha
  have hz := nm_size q
  refine ⟨a, vs, lo, hi, rfl, ⟨_, e, rfl, n, rfl⟩, by rw [sizeLine_eq]; omega, hlo, hhi, S₃, l₃, hset p₃ (s₃.heap.objs.size + 1) (.list (sliceL xs lo hi)), ?_, hQ _ ?_⟩
  · have R₄ := R₃.alloc (ao := .sat fun _ => True) (o := { cls := .type "slice", data := .fields #[vl, vu, .none] }) rfl trivial
    have R₅ := R₄.alloc (ao := .list (sliceL xs lo hi)) (o := { cls := .type "list", data := .seq (slicePick vs lo hi none) }) rfl ⟨_, _, rfl, by
      rw [slicePick_plain, hz, List.map_take, List.map_drop, q]; rfl⟩
    rw [Heap.size_push] at R₅
    refine R₅.forget (fun _ _ e => e) fun b o eb => ?_
    unfold hset at eb ⊢
    by_cases hb : b = s₃.heap.objs.size + 1
    · rwa [if_pos hb] at eb ⊢
    · rw [if_neg hb] at eb ⊢
      rw [if_neg (by rintro rfl; rw [R₃.none_at] at eb; cases eb)]
      exact eb
  · cases q : p₃ (s₃.heap.objs.size + 1) with
    | none => rfl
    | some o => exact absurd (R₃.lt_of_hp q) (Nat.not_lt.mpr (Nat.le_succ _))
/-! ### max of a list of ints -/
theorem ints_of {vs : Array Value} {ns : List Int} (q : vs.toList.map nm = ns.map fun i => Value.int i 0) : ∃ xs : Array (Int × Tok), vs = intItems xs ∧ xs.toList.map (·.1) = ns := by
  have : ∀ (vl : List Value) (ns : List Int), vl.map nm = ns.map (fun i => Value.int i 0) → ∃ xl : List (Int × Tok), vl = xl.map (fun p => Value.int p.1 p.2) ∧ xl.map (·.1) = ns := by
    intro vl
    induction vl with
    | nil => intro ns q; cases ns with
      | nil => exact ⟨[], rfl, rfl⟩
      | cons => cases q
    | cons v r ih =>
      intro ns q
      cases ns with
      | nil => cases q
      | cons n ns =>
        injection q with a b
        obtain ⟨t, rfl⟩ := nm_int a
        obtain ⟨xl, e1, e2⟩ := ih ns b
        exact ⟨(n, t) :: xl, by rw [e1]; rfl, by rw [← e2]; rfl⟩
  obtain ⟨xl, e1, e2⟩ := this vs.toList ns q
  refine ⟨xl.toArray, ?_, e2⟩
  apply Array.toList_inj.mp
  rw [e1]; simp [intItems]
theorem call_max {a : Addr} {ns : List Int} {Q : Value → LOC → HP → Prop} (hh : A.handled = none) (ha : hp a = some (.list (ns.map fun i => .int i 0))) (hne : ns ≠ []) (h : ∀ M, M ∈ ns → (∀ x ∈ ns, x ≤ M) → Q (.int M 0) loc hp) :
    onCall C A g fr E (.builtin "max") [.ref a] [] loc hp Q := onCall1 fun v hv => by
  have := nm_ref hv; subst this
  intro s R S
  obtain ⟨vs, n, e, q⟩ := R.list ha
  obtain ⟨xs, rfl, e2⟩ := ints_of q
  have hsz : 0 < xs.size := by
    rw [← Array.length_toList, ← List.length_map (f := (·.1)), e2]; exact List.length_pos_iff.mpr hne
  refine max_intList hh ⟨_, e, rfl, n, rfl⟩ hsz fun v h' tk hv hk => ?_
  obtain ⟨t, rfl⟩ := intItems_at hv
  obtain ⟨h1, h2⟩ := argBest_gt (numAt xs) (xs.size - 1)
  refine ⟨S, loc, hp, R.keeps hk, h _ ?_ fun x hx => ?_⟩
  · rw [numAt_eq, e2]; exact PySem.getD_mem (by rw [← e2, List.length_map, Array.length_toList]; omega)
  · obtain ⟨j, hj, rfl⟩ := PySem.mem_getD hx
    rw [← e2, List.length_map, Array.length_toList] at hj
    rw [← e2, ← numAt_eq]; exact h2 j (by omega)
/-! ### methods -/
def onMeth (C : Cx) (A : Around) (g : Heap) (fr : Fm) (E : Value → Shared → Prop) (name : Str) (x : Value) (l : LOC) (p : HP) (f : Value) : Prop :=
  ∀ v pl, nm v = x → aw C A g fr E (getMethod v name pl) l p fun r l' p' => l' = l ∧ p' = p ∧ r = (f, [v])
theorem meth_list {a : Addr} {xs : List Value} {name : Str} {id : String} (slot : Slot "list" name id) (hty : typeOf (.builtin id) = pure (.type "method_descriptor")) (ha : hp a = some (.list xs)) : onMeth C A g fr E name (.ref a) loc hp (.builtin id) := by
  intro v pl hv s R S
  have := nm_ref hv; subst this
  obtain ⟨vs, n, e, q⟩ := R.list ha
  exact getMethod_builtin ⟨_, e, rfl⟩ F.plainAttrs_list slot hty (fun b eb => by cases eb; exact ⟨_, e, rfl⟩) ⟨S, loc, hp, R, rfl, rfl, rfl⟩
theorem meth_str {x : Str} {name : Str} {id : String} (slot : Slot "str" name id) (hty : typeOf (.builtin id) = pure (.type "method_descriptor")) : onMeth C A g fr E name (.str x 0) loc hp (.builtin id) := by
  intro v pl hv s R S
  obtain ⟨t, rfl⟩ := nm_str hv
  exact getMethod_builtin (typeIs_str _ _ _) F.plainAttrs_str slot hty (fun b eb => by cases eb) ⟨S, loc, hp, R, rfl, rfl, rfl⟩
theorem awArgs_mono : ∀ {es : List Expr} {l : LOC} {p : HP} {Q Q' : List Value → LOC → HP → Prop}, awArgs C A g fr E es l p Q → (∀ xs l p, Q xs l p → Q' xs l p) → awArgs C A g fr E es l p Q'
  | [], l, p, Q, Q', h, hq => hq _ _ _ h
  | e :: es, l, p, Q, Q', h, hq => awv_mono h fun x l p hx => awArgs_mono hx fun xs l p q => hq _ _ _ q
theorem aw_CallMeth {o : Expr} {name : Str} {apos pos : Pos} {es : List Expr} {Q : Value → LOC → HP → Prop} (hbase : attributeBase o name fr.env (eval o fr.env) = eval o fr.env) (hs : es.all notStar = true) (hlen : es.length < 30) (hline : (apos.endLine == pos.line) = true)
    (h : awv C A g fr E (eval o fr.env) loc hp fun x l p => ∃ f, onMeth C A g fr E name x l p f ∧ awArgs C A g fr E es l p fun xs l p => Kp C A g fr E f l p ∧ onCall C A g fr E f (x :: xs) [] l p Q) :
    awv C A g fr E (eval (.Call (.Attribute o name apos) es [] pos) fr.env) loc hp Q := by
  refine aw_congr (arm_eval_Call ..) ?_
  rw [hbase]
  refine aw_bind (aw_mono h fun v l p ⟨f, hm, ha⟩ => aw_bind (aw_standAt ?_))
  have hform : methodCallForm (es.length + ([] : List Keyword).length) (backTo pos (starEach es fr.env)) (backToKw pos (keywordEach [] fr.env)) = true := by
    unfold methodCallForm
    have h1 : (backTo pos (starEach es fr.env)).all (fun x => !x.1) = true := by
      have := plain_starEach (pos := pos) (env := fr.env) hs
      rw [List.any_eq_false] at this
      rw [List.all_eq_true]
      intro x hx
      have := this x hx
      simpa using this
    rw [h1]
    simp only [Bool.true_and, backToKw, keywordEach, List.map_nil, List.all_nil, List.length_nil, Nat.add_zero, List.isEmpty_nil, if_true, decide_eq_true_eq]
    exact hlen
  unfold methodCall
  rw [hform]
  have hpos : methodCallPos true o fr.env apos pos = pure pos := by unfold methodCallPos; simp [hline]
  rw [hpos]
  refine aw_bind (aw_holding ?_)
  have := hm v (do return (← importBound o fr.env).getD true) rfl
  refine aw_mono (show aw C A g fr E (calleeOf true o fr.env v name) l p _ from this) fun r l' p' ⟨e1, e2, e3⟩ => ?_
  subst e1; subst e2; subst e3
  refine aw_bind (aw_pure ?_)
  have hk : awArgs C A g fr E es l' p' fun xs l p => awKws C A g fr E [] l p fun kx l p => Kp C A g fr E f l p ∧ onCall C A g fr E f ([v].map nm ++ xs) kx l p Q := ha
  exact aw_callWith hs rfl hk
theorem m_append {a : Addr} {xs : List Value} {y : Value} {Q : Value → LOC → HP → Prop} (ha : hp a = some (.list xs)) (hsz : xs.length ≤ 100000) (h : Q .none loc (hset hp a (.list (xs ++ [y])))) :
    onCall C A g fr E (.builtin "list.append") [.ref a, y] [] loc hp Q := onCall2 fun v u hv hu => by
  have := nm_ref hv; subst this
  subst hu
  exact call_append ha (by rw [sizeLine_eq]; omega) h
theorem Rep.updSeq {H₀ h : Heap} {a : Addr} {xs ys : List Value} {f : Array Value → Array Value} (R : Rep H₀ g fr loc hp h) (ha : hp a = some (.list xs)) (hf : ∀ vs : Array Value, vs.toList.map nm = xs → (f vs).toList.map nm = ys) :
    Rep H₀ g fr loc (hset hp a (.list ys)) (h.update a (Obj.mapSeq f)) := by
  obtain ⟨vs, n, e, q⟩ := R.list ha
  exact R.chg ha (Heap.SameBut.update ..).extBut (PySem.IsL.update e f) ⟨_, _, rfl, hf vs q⟩
def insL (xs : List Value) (k : Nat) (y : Value) : List Value := xs.take k ++ y :: xs.drop k
theorem m_insert {a : Addr} {xs : List Value} {k : Nat} {y : Value} {Q : Value → LOC → HP → Prop} (ha : hp a = some (.list xs)) (hk : k ≤ xs.length) (hsz : xs.length ≤ 100000) (h : Q .none loc (hset hp a (.list (insL xs k y)))) :
    onCall C A g fr E (.builtin "list.insert") [.ref a, .int k 0, y] [] loc hp Q := onCall3 fun v u w hv hu hw => by
  have := nm_ref hv; subst this
  obtain ⟨t, rfl⟩ := nm_int hu
  subst hw
  intro s R S
  obtain ⟨vs, n, e, q⟩ := R.list ha
  have hz := nm_size q
  obtain ⟨z, hzk⟩ : ∃ z : Int, z = k := ⟨_, rfl⟩
  rw [← hzk]
  have hf : ¬ (!Builtin.List.listFitsIndex z) = true := by
    have : Builtin.List.listFitsIndex z = true := by
      unfold Builtin.List.listFitsIndex
      simp only [Bool.and_eq_true, decide_eq_true_eq]
      omega
    rw [this]; exact Bool.false_ne_true
  have hz' : vs.size ≤ sizeLine := by rw [sizeLine_eq]; omega
  refine call_meets PySem.F.slot_list_insert ⟨_, e, rfl⟩ PySem.F.entry_list_insert (PySem.F.args_list_insert_3 _ _ _) (PySem.AutoSeq1.list_insert_list_int_val_1 a vs n z t w hf hz') ⟨e, S, loc, _, R.updSeq (ys := insL xs k (nm w)) ha (fun us hus => ?_), h⟩
  have hu := nm_size hus
  dsimp only
  have h0 : ¬ z < 0 := by omega
  have h1 : min z.toNat us.size = k := by omega
  rw [if_neg h0, h1]
  unfold insL
  subst hus
  simp [List.map_take, List.map_drop]
  rw [List.take_of_length_le]
  simp
end
end Mine
end
section
namespace Mine
def tgtNames : Expr → List Str
  | .Name x _ => [x]
  | .Tuple [.Name x _, .Name y _] _ _ => [x, y]
  | _ => []
section
variable {α : Type} {C : Cx} {A : Around} {g : Heap} {fr : Fm} {E : Value → Shared → Prop} {loc : LOC} {hp : HP} {sc : Scope} {ow : Str → Bool} {scope : Scope}
theorem aw_ListComp' {elt target iter : Expr} {ifs : List Expr} {pos : Pos} {Q : Value → LOC → HP → Prop} (F : FrOf fr sc ow) (hs : ScOk scope sc = true)
    (hfs : ∀ x, foldedSetIterable iter fr.env x = pure x) (hok : (tgtNames target).all (fun x => scope.names.lookup x == some .local || scope.names.lookup x == some .cell) = true)
    (h : awv C A g fr E (eval iter fr.env) loc hp fun x l p => CompTo C A fr sc scope target elt ifs (tgtNames target) x l p Q) :
    awv C A g fr E (eval (.ListComp elt [⟨target, iter, ifs, 0⟩] scope pos) fr.env) loc hp Q := aw_ListComp F hs hfs hok h
theorem aw_AssignUsed' {elt target iter : Expr} {ifs : List Expr} {pos pos' spos : Pos} {x : Str} {Q : Flow → LOC → HP → Prop} (hsw : swapsWith (.ListComp elt [⟨target, iter, ifs, 0⟩] scope pos) (some (.Name x pos')) spos.line fr.env = pure true)
    (hx : Sto fr x) (F : FrOf fr sc ow) (hs : ScOk scope sc = true)
    (hfs : ∀ x, foldedSetIterable iter fr.env x = pure x) (hok : (tgtNames target).all (fun x => scope.names.lookup x == some .local || scope.names.lookup x == some .cell) = true)
    (h : awv C A g fr E (eval iter fr.env) loc hp fun y l p => CompTo C A fr sc scope target elt ifs (tgtNames target) y l p fun v l p => Q .next (lset l x v) p) :
    awf C A g fr E (exec (.Assign [.Name x pos'] (.ListComp elt [⟨target, iter, ifs, 0⟩] scope pos) spos) fr.env) loc hp Q := aw_AssignUsed hsw hx F hs hfs hok h
theorem aw_ExprF (F : FrOf fr sc ow) {e pos} {Q : Flow → LOC → HP → Prop} (hs : swapsWith e none pos.line fr.env = pure false)
    (h : awv C A g fr E (eval e fr.env) loc hp fun v l p => v = .none ∧ Q .next l p) : awf C A g fr E (exec (.Expr e pos) fr.env) loc hp Q :=
  aw_Expr (by unfold interactive; rw [F.scope, F.kind]; rfl) hs (awv_mono h fun v l p ⟨a, b⟩ => ⟨(fun x e => by rw [a] at e; cases e), b⟩)
theorem t_int {i : Int} {Q : Bool → LOC → HP → Prop} (h : Q (decide (i ≠ 0)) loc hp) : on1 C A g fr E truthy (.int i 0) loc hp Q := by
  intro x hx
  obtain ⟨t, rfl⟩ := nm_int hx
  have e : decide (i ≠ 0) = (i != 0) := by by_cases h : i = 0 <;> simp [h]
  rw [e] at h
  exact fun s R S => PyProof.Rows.truthy_int ⟨S, loc, hp, R, h⟩
def swapsB (sc scope : Scope) (t : Str) (l1 l2 : Nat) : Bool := sc.names.lookup t == some .local && l1 == l2 && !(scope.names.any fun (n, k) => n == t && (k == .local || k == .cell))
theorem swaps_comp (F : FrOf fr sc ow) {elt : Expr} {gens : List Comprehension} {pos pos' : Pos} {t : Str} {line : Nat} : swapsWith (.ListComp elt gens scope pos) (some (.Name t pos')) line fr.env = pure (swapsB sc scope t pos'.line pos.line) := by
  unfold swapsWith swapsB
  simp only
  unfold Env.blockKind Env.kindOf
  rw [F.scope, F.kind]
  rfl
theorem aw_AssignComp {elt target iter : Expr} {ifs : List Expr} {pos pos' spos : Pos} {x : Str} {Q : Flow → LOC → HP → Prop} (F : FrOf fr sc ow)
    (hx : Sto fr x) (hs : ScOk scope sc = true)
    (hfs : ∀ x, foldedSetIterable iter fr.env x = pure x) (hok : (tgtNames target).all (fun x => scope.names.lookup x == some .local || scope.names.lookup x == some .cell) = true)
    (h : awv C A g fr E (eval iter fr.env) loc hp fun y l p => CompTo C A fr sc scope target elt ifs (tgtNames target) y l p fun v l p => Q .next (lset l x v) p) :
    awf C A g fr E (exec (.Assign [.Name x pos'] (.ListComp elt [⟨target, iter, ifs, 0⟩] scope pos) spos) fr.env) loc hp Q := by
  cases hb : swapsB sc scope x pos'.line pos.line with
  | true => exact aw_AssignUsed' (by rw [swaps_comp F, hb]) hx F hs hfs hok h
  | false => exact aw_AssignName (by rw [swaps_comp F, hb]) hx (aw_ListComp' F hs hfs hok h)
def LoopTo (C : Cx) (A : Around) (fr : Fm) (target : Expr) (names : List Str) (body orelse : List Stmt) (x : Value) (l : LOC) (p : HP) (Q : Flow → LOC → HP → Prop) : Prop :=
  onIt C A target names x l p fun vss need l p =>
      ∃ Inv : Nat → LOC → HP → Prop, Inv 0 l p ∧ (∀ i l p, Inv i l p → need p) ∧
        (∀ i vs l p g' E', vss[i]? = some vs → Inv i l p → awf C A g' fr E' (execs body fr.env) (setAll names vs l) p fun f l p => match f with
          | .next | .cont => Inv (i + 1) l p
          | .brk => Q .next l p
          | .ret v => Q (.ret v) l p) ∧ (∀ l p g' E', Inv vss.length l p → awf C A g' fr E' (execs orelse fr.env) l p Q)
def allSto (sc : Scope) (ow : Str → Bool) (names : List Str) : Bool := names.all fun x => sc.names.lookup x == some .local || (sc.names.lookup x == some .cell && ow x)
theorem FrOf.stoAll (F : FrOf fr sc ow) {names : List Str} (h : allSto sc ow names = true) : ∀ x ∈ names, Sto fr x := fun x hx => by
  have := List.all_eq_true.mp h x hx
  rcases Bool.or_eq_true_iff.mp this with q | q
  · exact F.stoL (by simpa using q)
  · rw [Bool.and_eq_true] at q
    exact F.stoC (by simpa using q.1) q.2
theorem awf_For' {target iter : Expr} {body orelse : List Stmt} {pos : Pos} {Q : Flow → LOC → HP → Prop} (F : FrOf fr sc ow) (hfs : ∀ x, foldedSetIterable iter fr.env x = pure x) (hok : allSto sc ow (tgtNames target) = true)
    (h : awv C A g fr E (eval iter fr.env) loc hp fun x l p => LoopTo C A fr target (tgtNames target) body orelse x l p Q) :
    awf C A g fr E (exec (.For target iter body orelse pos) fr.env) loc hp Q := awf_For hfs (F.stoAll hok) h
theorem aw_isTrue_val {e : Expr} {Q : Bool → LOC → HP → Prop} (he : isTrue e fr.env (eval e fr.env) = (do let v ← eval e fr.env; standAt e.pos; holding [v] (truthy v)))
    (h : awv C A g fr E (eval e fr.env) loc hp fun x l p => on1 C A g fr E truthy x l p Q) : aw C A g fr E (isTrue e fr.env (eval e fr.env)) loc hp Q := aw_isTrue_plain he h
theorem aw_ExprCall {e pos} {Q : Flow → LOC → HP → Prop} (hi : interactive fr.env = false) (hs : swapsWith e none pos.line fr.env = pure false)
    (h : awv C A g fr E (eval e fr.env) loc hp fun v l p => v = .none ∧ Q .next l p) : awf C A g fr E (exec (.Expr e pos) fr.env) loc hp Q :=
  aw_Expr hi hs (awv_mono h fun v l p ⟨a, b⟩ => ⟨(fun x e => by rw [a] at e; cases e), b⟩)
end
def Rows (p : HP) (a : Addr) (ts : List Addr) (rows : List (List Int)) : Prop :=
  p a = some (.list (ts.map .ref)) ∧ ts.length = rows.length ∧ ts.Nodup ∧ ∀ (k : Nat) (T : Addr) (r : List Int), ts[k]? = some T → rows[k]? = some r → p T = some (.list (r.map fun i => .int i 0))
end Mine
end
section
namespace Mine
section
variable {α : Type} {C : Cx} {A : Around} {g : Heap} {fr : Fm} {E : Value → Shared → Prop} {loc : LOC} {hp : HP} {sc : Scope} {scope : Scope}
theorem onCall_mono {f : Value} {xs : List Value} {kx : List (Str × Value)} {Q Q' : Value → LOC → HP → Prop} (h : onCall C A g fr E f xs kx loc hp Q) (hq : ∀ v l p, Q v l p → Q' v l p) : onCall C A g fr E f xs kx loc hp Q' :=
  fun vs kw a b => awv_mono (h vs kw a b) hq
/-! ### zip of two lists -/
def zipO (TI TO : Addr) (f0 : Value) : AO := .obj { cls := .type "zip", dict := none, data := .fields #[f0, .bool false, .bool false, .ref TI, .ref TO], slots := #[] }
def pairO (a b : Value) : AO := .obj { cls := .type "tuple", data := .seq #[a, b] }
def zipR (z TI TO i1 i2 l1 l2 : Addr) (f0 a b : Value) (i j : Nat) : HP := hset (hset (hset (hset (hset hemp i2 (listIt l2 j)) i1 (listIt l1 i)) TO (pairO a b)) TI (pairO (.ref i1) (.ref i2))) z (zipO TI TO f0)
structure ZipDis (z TI TO i1 i2 : Addr) : Prop where
  a1 : TI ≠ z
  a2 : TO ≠ z
  a3 : i1 ≠ z
  a4 : i2 ≠ z
  a5 : TI ≠ TO
  a6 : TI ≠ i1
  a7 : TI ≠ i2
  a8 : TO ≠ i1
  a9 : TO ≠ i2
  a10 : i1 ≠ i2
section
variable {z TI TO i1 i2 l1 l2 : Addr} {f0 a b : Value} {i j : Nat}
theorem zipR_z : zipR z TI TO i1 i2 l1 l2 f0 a b i j z = some (zipO TI TO f0) := hset_eq ..
theorem zipR_TI (D : ZipDis z TI TO i1 i2) : zipR z TI TO i1 i2 l1 l2 f0 a b i j TI = some (pairO (.ref i1) (.ref i2)) := by
  unfold zipR; rw [hset_ne _ _ D.a1, hset_eq]
theorem zipR_TO (D : ZipDis z TI TO i1 i2) : zipR z TI TO i1 i2 l1 l2 f0 a b i j TO = some (pairO a b) := by
  unfold zipR; rw [hset_ne _ _ D.a2, hset_ne _ _ D.a5.symm, hset_eq]
theorem zipR_i1 (D : ZipDis z TI TO i1 i2) : zipR z TI TO i1 i2 l1 l2 f0 a b i j i1 = some (listIt l1 i) := by
  unfold zipR; rw [hset_ne _ _ D.a3, hset_ne _ _ D.a6.symm, hset_ne _ _ D.a8.symm, hset_eq]
theorem zipR_i2 (D : ZipDis z TI TO i1 i2) : zipR z TI TO i1 i2 l1 l2 f0 a b i j i2 = some (listIt l2 j) := by
  unfold zipR; rw [hset_ne _ _ D.a4, hset_ne _ _ D.a7.symm, hset_ne _ _ D.a9.symm, hset_ne _ _ D.a10.symm, hset_eq]
theorem zipR_cases {c : Addr} {o : AO} (D : ZipDis z TI TO i1 i2) (e : zipR z TI TO i1 i2 l1 l2 f0 a b i j c = some o) :
    (c = z ∧ o = zipO TI TO f0) ∨ (c = TI ∧ o = pairO (.ref i1) (.ref i2)) ∨ (c = TO ∧ o = pairO a b) ∨ (c = i1 ∧ o = listIt l1 i) ∨ (c = i2 ∧ o = listIt l2 j) := by
  by_cases h1 : c = z
  · subst h1; rw [zipR_z] at e; cases e; exact .inl ⟨rfl, rfl⟩
  by_cases h2 : c = TI
  · subst h2; rw [zipR_TI D] at e; cases e; exact .inr (.inl ⟨rfl, rfl⟩)
  by_cases h3 : c = TO
  · subst h3; rw [zipR_TO D] at e; cases e; exact .inr (.inr (.inl ⟨rfl, rfl⟩))
  by_cases h4 : c = i1
  · subst h4; rw [zipR_i1 D] at e; cases e; exact .inr (.inr (.inr (.inl ⟨rfl, rfl⟩)))
  by_cases h5 : c = i2
  · subst h5; rw [zipR_i2 D] at e; cases e; exact .inr (.inr (.inr (.inr ⟨rfl, rfl⟩)))
  unfold zipR at e
  rw [hset_ne _ _ h1, hset_ne _ _ h2, hset_ne _ _ h3, hset_ne _ _ h4, hset_ne _ _ h5] at e
  cases e
end
def zipSt (z TI TO i1 i2 l1 l2 : Addr) (i : Nat) (r : HP) : Prop := ZipDis z TI TO i1 i2 ∧ ∃ a b, r = zipR z TI TO i1 i2 l1 l2 .none a b i i
theorem zipApart {z TI TO i1 i2 l1 l2 : Addr} {p : HP} (D : ZipDis z TI TO i1 i2) {xs ys : List Value} {f0 a b : Value} {i j : Nat} (h1 : p l1 = some (.list xs)) (h2 : p l2 = some (.list ys)) (hap : Apart p (zipR z TI TO i1 i2 l1 l2 f0 a b i j)) : ZipApart z TI TO i1 i2 l1 l2 := by
  have nz : p z = none := hap z (by rw [zipR_z]; exact fun e => nomatch e)
  have nTO : p TO = none := hap TO (by rw [zipR_TO D]; exact fun e => nomatch e)
  have n1 : p i1 = none := hap i1 (by rw [zipR_i1 D]; exact fun e => nomatch e)
  have n2 : p i2 = none := hap i2 (by rw [zipR_i2 D]; exact fun e => nomatch e)
  have ne : ∀ {l c : Addr} {o : AO}, p l = some o → p c = none → l ≠ c := fun a b e => by subst e; rw [b] at a; cases a
  exact ⟨D.a1, D.a2, D.a3, D.a4, D.a5, D.a6, D.a7, D.a8, D.a9, D.a10, ne h1 nz, ne h1 nTO, ne h1 n1, ne h1 n2, ne h2 nz, ne h2 nTO, ne h2 n1, ne h2 n2⟩
theorem src_zip (hh : A.handled = none) {z TI TO i1 i2 l1 l2 : Addr} {xs ys : List Value} {x y : Str} {px py pos : Pos} {k} :
    Src C A (.Tuple [.Name x px, .Name y py] k pos) [x, y] (.ref z) ((xs.zip ys).map fun v => [v.1, v.2]) (fun p => p l1 = some (.list xs) ∧ p l2 = some (.list ys)) (zipSt z TI TO i1 i2 l1 l2) where
  adv := by
    rintro i vs r p g fr E l Q hv ⟨D, a, b, rfl⟩ ⟨hl1, hl2⟩ hap hok hQ s R S
    rw [List.getElem?_map] at hv
    obtain ⟨⟨v1, v2⟩, hv2, rfl⟩ := Option.map_eq_some_iff.mp hv
    have hz := List.getElem?_zip_eq_some.mp hv2
    obtain ⟨us1, n1, e1, q1⟩ := R.list (hjoin_l hl1)
    obtain ⟨us2, n2, e2, q2⟩ := R.list (hjoin_l hl2)
    obtain ⟨u1, hu1, rfl⟩ := nm_get q1 hz.1
    obtain ⟨u2, hu2, rfl⟩ := nm_get q2 hz.2
    have DA := zipApart D hl1 hl2 hap
    have hZ := hjoin_r hap (zipR_z (z := z) (TI := TI) (TO := TO) (i1 := i1) (i2 := i2) (l1 := l1) (l2 := l2) (f0 := .none) (a := a) (b := b) (i := i) (j := i))
    have hTI := hjoin_r hap (zipR_TI (l1 := l1) (l2 := l2) (f0 := .none) (a := a) (b := b) (i := i) (j := i) D)
    have hTO := hjoin_r hap (zipR_TO (l1 := l1) (l2 := l2) (f0 := .none) (a := a) (b := b) (i := i) (j := i) D)
    have h1 := hjoin_r hap (zipR_i1 (l1 := l1) (l2 := l2) (f0 := .none) (a := a) (b := b) (i := i) (j := i) D)
    have h2 := hjoin_r hap (zipR_i2 (l1 := l1) (l2 := l2) (f0 := .none) (a := a) (b := b) (i := i) (j := i) D)
    refine wpAny_pyNext_zip_item DA (R.obj hZ) (R.obj hTI) (R.obj hTO) (R.iter h1) (R.iter h2) ⟨_, e1, rfl, n1, rfl⟩ ⟨_, e2, rfl, n2, rfl⟩ hu1 hu2 fun h' a1 a2 a3 a4 a5 a6 a7 => ?_
    have nT : hjoin p (zipR z TI TO i1 i2 l1 l2 .none a b i i) s.heap.objs.size = none := R.none_at
    have hTlt : s.heap.objs.size = s.heap.objs.size := rfl
    generalize hT : s.heap.objs.size = T at a1 a5 nT ⊢
    have ne : ∀ {c : Addr} {o : AO}, hjoin p (zipR z TI TO i1 i2 l1 l2 .none a b i i) c = some o → c ≠ T := fun e e' => by subst e'; rw [nT] at e; cases e
    have pn : ∀ {c : Addr} {o : AO}, zipR z TI TO i1 i2 l1 l2 .none a b i i c = some o → p c = none := fun e => hap _ (by rw [e]; exact fun e => nomatch e)
    have pT : p T = none := by
      cases q : p T with
      | none => rfl
      | some o => rw [hjoin_l q] at nT; cases nT
    let r₁ := zipR z TI TO i1 i2 l1 l2 (rawInt T) u1 u2 (i + 1) (i + 1)
    let r₂ : HP := hset r₁ T (.tuple [nm u1, nm u2])
    have ap₁ : Apart p r₁ := fun c hc => by
      obtain ⟨o, ho⟩ := Option.ne_none_iff_exists'.mp hc
      rcases zipR_cases D ho with ⟨rfl, _⟩ | ⟨rfl, _⟩ | ⟨rfl, _⟩ | ⟨rfl, _⟩ | ⟨rfl, _⟩
      · exact pn zipR_z
      · exact pn (zipR_TI D)
      · exact pn (zipR_TO D)
      · exact pn (zipR_i1 D)
      · exact pn (zipR_i2 D)
    have ap₂ : Apart p r₂ := apart_hset ap₁ pT
    have R₂ : Rep C.H₀ g fr l (hjoin p r₂) h' := by
      refine R.step (W := fun c => c = z ∨ c = TO ∨ c = i1 ∨ c = i2) (fun c hc => ?_) (fun c o hc eo => a7 c o (fun q => hc (.inl q)) (fun q => hc (.inr (.inl q))) (fun q => hc (.inr (.inr (.inl q)))) (fun q => hc (.inr (.inr (.inr q)))) eo) fun c ao ec => ?_
      · rcases hc with rfl | rfl | rfl | rfl
        · exact ⟨_, hZ⟩
        · exact ⟨_, hTO⟩
        · exact ⟨_, h1⟩
        · exact ⟨_, h2⟩
      · unfold hjoin at ec
        cases q : p c with
        | some o =>
          rw [q] at ec; cases ec
          obtain ⟨_, _, _, o', ho', hi'⟩ := R.at_ c _ (hjoin_l q)
          have nn : ∀ {d : Addr} {o : AO}, zipR z TI TO i1 i2 l1 l2 .none a b i i d = some o → c ≠ d := fun e e' => by subst e'; rw [pn e] at q; cases q
          exact ⟨.inl ⟨_, hjoin_l q⟩, o', a7 c o' (nn zipR_z) (nn (zipR_TO D)) (nn (zipR_i1 D)) (nn (zipR_i2 D)) ho', hi'⟩
        | none =>
          rw [q] at ec
          by_cases hcT : c = T
          · subst hcT
            simp only [r₂, hset_eq] at ec
            cases ec
            exact ⟨.inr (by rw [hT]; exact Nat.le_refl _), _, a5, _, _, rfl, rfl⟩
          · simp only [r₂] at ec
            rw [hset_ne _ _ hcT] at ec
            rcases zipR_cases D ec with ⟨rfl, rfl⟩ | ⟨rfl, rfl⟩ | ⟨rfl, rfl⟩ | ⟨rfl, rfl⟩ | ⟨rfl, rfl⟩
            · exact ⟨.inl ⟨_, hZ⟩, _, a1, rfl⟩
            · exact ⟨.inl ⟨_, hTI⟩, _, a7 _ _ D.a1 D.a5 D.a6 D.a7 (R.obj hTI), rfl⟩
            · exact ⟨.inl ⟨_, hTO⟩, _, a2, rfl⟩
            · obtain ⟨o, ho, hc, hd⟩ := a3
              exact ⟨.inl ⟨_, h1⟩, o, ho, hc, hd⟩
            · obtain ⟨o, ho, hc, hd⟩ := a4
              exact ⟨.inl ⟨_, h2⟩, o, ho, hc, hd⟩
    refine ⟨S, l, hjoin p r₂, R₂, _, rfl, ?_⟩
    intro s₃ R₃ S₃
    have hzT : z ≠ T := ne hZ
    have hE₂ : hjoin p r₂ z = some (zipO TI TO (rawInt T)) := hjoin_r ap₂ (by simp only [r₂]; rw [hset_ne _ _ hzT]; exact zipR_z)
    refine wpAny_letOwnedTupleGo_zip (R₃.obj hE₂) fun h₄ he₄ hs₄ => ?_
    have R₄ := R₃.chg hE₂ hs₄.extBut he₄ (ao' := zipO TI TO .none) rfl
    refine ⟨S₃, l, _, R₄, ?_⟩
    have hTT : hset (hjoin p r₂) z (zipO TI TO .none) T = some (.tuple [nm u1, nm u2]) := by
      rw [hset_ne _ _ hzT.symm]
      exact hjoin_r ap₂ (hset_eq ..)
    have ap₅ : Apart p (zipR z TI TO i1 i2 l1 l2 .none u1 u2 (i + 1) (i + 1)) := fun c hc => by
      obtain ⟨o, ho⟩ := Option.ne_none_iff_exists'.mp hc
      rcases zipR_cases D ho with ⟨rfl, _⟩ | ⟨rfl, _⟩ | ⟨rfl, _⟩ | ⟨rfl, _⟩ | ⟨rfl, _⟩
      · exact pn zipR_z
      · exact pn (zipR_TI D)
      · exact pn (zipR_TO D)
      · exact pn (zipR_i1 D)
      · exact pn (zipR_i2 D)
    refine aw_weak (aw_assignPair hh hTT (hok x (.head _)) (hok y (.tail _ (.head _))) ⟨hjoin p (zipR z TI TO i1 i2 l1 l2 .none u1 u2 (i + 1) (i + 1)), fun c o ec => ?_, hQ _ ⟨D, u1, u2, rfl⟩ ap₅⟩)
    unfold hjoin at ec
    cases q : p c with
    | some o' =>
      rw [q] at ec; cases ec
      rw [hset_ne _ _ (by rintro rfl; rw [pn zipR_z] at q; cases q)]
      exact hjoin_l q
    | none =>
      rw [q] at ec
      have hj : ∀ {d : Addr} {o : AO}, r₁ d = some o → d ≠ z → d ≠ T → hset (hjoin p r₂) z (zipO TI TO .none) d = some o := fun e h1 h2 => by
        rw [hset_ne _ _ h1]
        exact hjoin_r ap₂ (by simp only [r₂]; rw [hset_ne _ _ h2]; exact e)
      rcases zipR_cases D ec with ⟨rfl, rfl⟩ | ⟨rfl, rfl⟩ | ⟨rfl, rfl⟩ | ⟨rfl, rfl⟩ | ⟨rfl, rfl⟩
      · exact hset_eq ..
      · exact hj (zipR_TI D) D.a1 (ne hTI)
      · exact hj (zipR_TO D) D.a2 (ne hTO)
      · exact hj (zipR_i1 D) D.a3 (ne h1)
      · exact hj (zipR_i2 D) D.a4 (ne h2)
  stp := by
    rintro r p g fr E l Q ⟨D, a, b, rfl⟩ ⟨hl1, hl2⟩ hap hQ s R S
    obtain ⟨us1, n1, e1, q1⟩ := R.list (hjoin_l hl1)
    obtain ⟨us2, n2, e2, q2⟩ := R.list (hjoin_l hl2)
    have DA := zipApart D hl1 hl2 hap
    generalize hN : ((xs.zip ys).map fun v : Value × Value => [v.1, v.2]).length = N at R hap ⊢
    have hN' : N = min xs.length ys.length := by rw [← hN]; simp
    have hZ := hjoin_r hap (zipR_z (z := z) (TI := TI) (TO := TO) (i1 := i1) (i2 := i2) (l1 := l1) (l2 := l2) (f0 := .none) (a := a) (b := b) (i := N) (j := N))
    have hTI := hjoin_r hap (zipR_TI (l1 := l1) (l2 := l2) (f0 := .none) (a := a) (b := b) (i := N) (j := N) D)
    have hTO := hjoin_r hap (zipR_TO (l1 := l1) (l2 := l2) (f0 := .none) (a := a) (b := b) (i := N) (j := N) D)
    have h1 := hjoin_r hap (zipR_i1 (l1 := l1) (l2 := l2) (f0 := .none) (a := a) (b := b) (i := N) (j := N) D)
    have h2 := hjoin_r hap (zipR_i2 (l1 := l1) (l2 := l2) (f0 := .none) (a := a) (b := b) (i := N) (j := N) D)
    have pn : ∀ {c : Addr} {o : AO}, zipR z TI TO i1 i2 l1 l2 .none a b N N c = some o → p c = none := fun e => hap _ (by rw [e]; exact fun e => nomatch e)
    have hz1 := nm_size q1
    have hz2 := nm_size q2
    refine wpAny_pyNext_zip_end hh DA (R.obj hZ) (R.obj hTI) (R.obj hTO) (R.iter h1) (R.iter h2) ⟨_, e1, rfl, n1, rfl⟩ ⟨_, e2, rfl, n2, rfl⟩ (by
      rcases Nat.le_total xs.length ys.length with h | h
      · exact .inl (Array.getElem?_eq_none (by omega))
      · exact .inr (Array.getElem?_eq_none (by omega))) fun h' hk => ⟨S, l, hjoin p hemp, ?_, rfl, hQ _ (apart_hemp _)⟩
    rw [hjoin_hemp]
    refine R.step (W := fun c => c = z ∨ c = TO ∨ c = i1 ∨ c = i2) (fun c hc => ?_) (fun c o hc eo => hk c o (fun q => hc (.inl q)) (fun q => hc (.inr (.inl q))) (fun q => hc (.inr (.inr (.inl q)))) (fun q => hc (.inr (.inr (.inr q)))) eo) fun c ao ec => ?_
    · rcases hc with rfl | rfl | rfl | rfl
      · exact ⟨_, hZ⟩
      · exact ⟨_, hTO⟩
      · exact ⟨_, h1⟩
      · exact ⟨_, h2⟩
    · obtain ⟨_, _, _, o', ho', hi'⟩ := R.at_ c _ (hjoin_l ec)
      have nn : ∀ {d : Addr} {o : AO}, zipR z TI TO i1 i2 l1 l2 .none a b N N d = some o → c ≠ d := fun e e' => by subst e'; rw [pn e] at ec; cases ec
      exact ⟨.inl ⟨_, hjoin_l ec⟩, o', hk c o' (nn zipR_z) (nn (zipR_TO D)) (nn (zipR_i1 D)) (nn (zipR_i2 D)) ho', hi'⟩
  self := by
    rintro i r p g fr E l Q ⟨D, a, b, rfl⟩ hnd hap hQ s R S
    exact wpAny_pyIter_zip (R.obj (hjoin_r hap zipR_z)) ⟨S, l, _, R, hQ⟩
  up := fun p p' h e => ⟨h _ _ e.1, h _ _ e.2⟩
theorem it_zip (hh : A.handled = none) {l1 l2 : Addr} {xs ys : List Value} {x y : Str} {px py pos : Pos} {k} {K : List (List Value) → (HP → Prop) → LOC → HP → Prop} (hl1 : hp l1 = some (.list xs)) (hl2 : hp l2 = some (.list ys))
    (h : K ((xs.zip ys).map fun v => [v.1, v.2]) (fun p => p l1 = some (.list xs) ∧ p l2 = some (.list ys)) loc hp) :
    onCall C A g fr E (.type "zip") [.ref l1, .ref l2] [] loc hp fun v l p => onIt C A (.Tuple [.Name x px, .Name y py] k pos) [x, y] v l p K := onCall2 fun v u hv hu => by
  have := nm_ref hv; subst this
  have := nm_ref hu; subst this
  intro s R S
  obtain ⟨us1, n1, e1, q1⟩ := R.list hl1
  obtain ⟨us2, n2, e2, q2⟩ := R.list hl2
  refine call_zip_2 ⟨_, e1, rfl, n1, rfl⟩ ⟨_, e2, rfl, n2, rfl⟩ fun h' a1 a2 a3 a4 a5 a6 hk => ?_
  have nn : ∀ d, s.heap.objs.size ≤ d → hp d = none := fun d hd => by
    cases q : hp d with
    | none => rfl
    | some o => exact absurd (R.lt_of_hp q) (Nat.not_lt.mpr hd)
  generalize hN : s.heap.objs.size = N at a1 a2 a3 a4 a5 nn ⊢
  have D : ZipDis (N + 4) (N + 2) (N + 3) N (N + 1) := by constructor <;> (intro e; have e' : @Eq Nat _ _ := e; omega)
  let r := zipR (N + 4) (N + 2) (N + 3) N (N + 1) l1 l2 .none .none .none 0 0
  have hap : Apart hp r := fun c hc => by
    obtain ⟨o, ho⟩ := Option.ne_none_iff_exists'.mp hc
    rcases zipR_cases D ho with ⟨rfl, _⟩ | ⟨rfl, _⟩ | ⟨rfl, _⟩ | ⟨rfl, _⟩ | ⟨rfl, _⟩ <;> exact nn _ (by first | exact Nat.le_refl _ | exact Nat.le_add_right _ _)
  refine ⟨S, loc, hjoin hp r, ?_, _, _, r, hp, rfl, ⟨hl1, hl2⟩, hap, fun g fr E l p x' Q hx hnd hap hQ s R S => ?_, h⟩
  · refine R.step (W := fun _ => False) (fun b hb => hb.elim) (fun b o _ e => hk b o e) fun c ao ec => ?_
    unfold hjoin at ec
    cases q : hp c with
    | some o =>
      rw [q] at ec; cases ec
      obtain ⟨_, _, _, o', ho', hi'⟩ := R.at_ c _ q
      exact ⟨.inl ⟨_, rfl⟩, o', hk c o' ho', hi'⟩
    | none =>
      rw [q] at ec
      rw [hN]
      rcases zipR_cases D ec with ⟨rfl, rfl⟩ | ⟨rfl, rfl⟩ | ⟨rfl, rfl⟩ | ⟨rfl, rfl⟩ | ⟨rfl, rfl⟩
      · exact ⟨.inr (Nat.le_add_right _ _), _, a1, rfl⟩
      · exact ⟨.inr (Nat.le_add_right _ _), _, a2, rfl⟩
      · exact ⟨.inr (Nat.le_add_right _ _), _, a3, rfl⟩
      · obtain ⟨o, ho, hc, hd⟩ := a4
        exact ⟨.inr (Nat.le_refl _), o, ho, hc, hd⟩
      · obtain ⟨o, ho, hc, hd⟩ := a5
        exact ⟨.inr (Nat.le_add_right _ _), o, ho, hc, hd⟩
  · rw [nm_ref hx]
    exact wpAny_pyIter_zip (R.obj (hjoin_r hap zipR_z)) ⟨S, l, _, R, hQ _ _ r (src_zip hh) ⟨D, .none, .none, rfl⟩ hap⟩
end
end Mine
end
section
namespace Mine
theorem lset_eq {l : LOC} {x : Str} {v : Value} : lset l x v x = some v := if_pos rfl
theorem lset_ne {l : LOC} {x y : Str} {v u : Value} (h : y ≠ x) (e : l y = some u) : lset l x v y = some u := (if_neg h).trans e
/-! ## the text's own functions -/
def topStmt (i : Nat) : Stmt := PySem.Challenge.pw_kl0459_01.main.body.getD i (.Pass default)
def dBody : Stmt → List Stmt
  | .FunctionDef _ _ b _ _ _ _ _ _ _ => b
  | _ => []
def dArgs : Stmt → Arguments
  | .FunctionDef _ a _ _ _ _ _ _ _ _ => a
  | _ => default
def dScope : Stmt → Scope
  | .FunctionDef _ _ _ _ _ _ s _ _ _ => s
  | _ => default
def dName : Stmt → Str
  | .FunctionDef n _ _ _ _ _ _ _ _ _ => n
  | _ => default
def mkFd (st : Stmt) (q : Str) (dfl kw code : Value) (pm : Value) (clo : List (Str × Addr)) (ct : Value) : FuncData :=
  { name := dName st, qualname := q, params := dArgs st, body := .stmts (dBody st), scope := dScope st, globals := mainGlobals, closure := clo, defaults := dfl, kwdefaults := kw, doc := .none, pyModule := pm, annotations := none, code := code, closureTuple := ct, builtins := builtinsNs }
structure Dfl (C : Cx) (a b : Addr) : Prop where
  t : ∃ t n, C.H₀.get? a = some ⟨.type "tuple", none, .seq #[.int 0 t, .none] n, #[]⟩
  k : ∃ h t n, C.H₀.get? b = some ⟨.type "dict", none, .dict #[⟨h, .str "key" t, .none⟩] n, #[]⟩
def IsFn (C : Cx) (f : Addr) (i : Nat) (name : Str) (code : Addr) : Prop := ∃ pm, FnAt C f (mkFd (topStmt i) name .none .none (.ref code) pm [] .none)
def baseWords : List Str := ["OPTIMIZED", "NEWLOCALS", "VARARGS", "VARKEYWORDS", "NESTED", "GENERATOR", "NOFREE", "COROUTINE", "ITERABLE_COROUTINE", "ASYNC_GENERATOR"]
structure WOk (C : Cx) : Prop where
  lim : C.H₀.NoLimit
  len : Glb C "len" (.builtin "len")
  max : Glb C "max" (.builtin "max")
  range : Glb C "range" (.type "range")
  fL : ∃ pm, FnAt C 57 (mkFd (topStmt 5) "bisect_left" (.ref 49) (.ref 50) (.ref 56) pm [] .none)
  dL : Dfl C 49 50
  fIR : ∃ pm, FnAt C 30 (mkFd (topStmt 2) "insort_right" (.ref 22) (.ref 23) (.ref 29) pm [] .none)
  dIR : Dfl C 22 23
  fIL : ∃ pm, FnAt C 48 (mkFd (topStmt 4) "insort_left" (.ref 40) (.ref 41) (.ref 47) pm [] .none)
  dIL : Dfl C 40 41
  gR : Glb C "bisect_right" (.ref 39)
  gL : Glb C "bisect_left" (.ref 57)
  zip : Glb C "zip" (.type "zip")
  gIR : Glb C "insort_right" (.ref 30)
  gIL : Glb C "insort_left" (.ref 48)
  fLevel : IsFn C 170 16 "_law_level" 169
  chr : Glb C "chr" (.builtin "chr")
  hex : Glb C "hex" (.builtin "hex")
  sum : Glb C "sum" (.builtin "sum")
  enumerate : Glb C "enumerate" (.type "enumerate")
  iter : Glb C "iter" (.builtin "iter")
  next : Glb C "next" (.builtin "next")
  sorted : Glb C "sorted" (.builtin "sorted")
  strT : Glb C "str" (.type "str")
  fMet : IsFn C 185 19 "_law_met" 184
  fText : IsFn C 190 20 "_law_text" 189
  fNames : IsFn C 165 15 "_law_names" 164
  fPlace : IsFn C 175 17 "_law_place" 174
  fRead : IsFn C 160 14 "_law_read" 159
  fVarint : IsFn C 72 9 "_parse_varint" 71
  fPretty : IsFn C 65 8 "pretty_flags" 64
  gRead : Glb C "_law_read" (.ref 160)
  gNames : Glb C "_law_names" (.ref 165)
  gLevel : Glb C "_law_level" (.ref 170)
  gPlace : Glb C "_law_place" (.ref 175)
  gDue : Glb C "_law_due" (.ref 180)
  gMet : Glb C "_law_met" (.ref 185)
  gText : Glb C "_law_text" (.ref 190)
  gVarint : Glb C "_parse_varint" (.ref 72)
  gPretty : Glb C "pretty_flags" (.ref 65)
  gFlags : Glb C "COMPILER_FLAG_NAMES" (.ref 58)
  gAcc : Glb C "_Accumulator" (.ref 151)
  flagsM : ∃ f : Int → Option Value, C.H₀.MapOf (intKind C.prog C.w) 58 f ∧ ∀ i : Nat, i < 32 → (f (2 ^ i)).map nm = if i < 10 then some (.str (baseWords.getD i Str.empty) 0) else none
  fDue : IsFn C 180 18 "_law_due" 179
  fR : ∃ pm, FnAt C 39 (mkFd (topStmt 3) "bisect_right" (.ref 31) (.ref 32) (.ref 38) pm [] .none)
  dR : Dfl C 31 32
theorem frag2 {h : Heap} {a b : Addr} {o o' : Obj} (hab : a ≠ b) (e : h.get? a = some o) (e' : h.get? b = some o') : Frag.In [(a, o), (b, o')] h := by
  intro x y q
  rw [List.lookup_cons] at q
  by_cases h1 : x = a
  · subst h1; simp at q; subst q; exact e
  · have : (x == a) = false := by simpa using h1
    rw [this] at q
    simp only [List.lookup_cons, List.lookup_nil] at q
    by_cases h2 : x = b
    · subst h2; simp at q; subst q; exact e'
    · have : (x == b) = false := by simpa using h2
      rw [this] at q; cases q
theorem frag0 {h : Heap} : Frag.In [] h := fun a o e => by cases e
theorem binds_R {C : Cx} (D : Dfl C 31 32) {pm va vx : Value} : ∃ t, ∀ s : Shared, (∀ b o, C.H₀.get? b = some o → s.heap.get? b = some o) →
    BindsTo s (mkFd (topStmt 3) "bisect_right" (.ref 31) (.ref 32) (.ref 38) pm [] .none) ⟨[va, vx], []⟩ [("a", va), ("x", vx), ("lo", .int 0 t), ("hi", .none), ("key", .none)] := by
  obtain ⟨t, n, e⟩ := D.t
  obtain ⟨h, t', n', e'⟩ := D.k
  exact ⟨t, fun s hk => kp_binds (frag2 (by decide) (hk _ _ e) (hk _ _ e')) fun S => by rfl⟩
abbrev iv (i : Int) : Value := .int i 0
section
variable {C : Cx} {A : Around} {g : Heap} {fr : Fm} {E : Value → Shared → Prop} {loc : LOC} {hp : HP}
theorem sub_ints {value slice : Expr} {l : Addr} {i : Int} {ys : List Int} {Q : Value → LOC → HP → Prop} (hs : ∀ o j, subscripted slice false o j = operate [o, j] (getItem o j)) (hl : hp l = some (.list (ys.map iv))) (h0 : 0 ≤ i) (hi : i < ys.length) (hsz : ys.length ≤ sizeLine)
    (h : ∀ (k : Nat) (hk : k < ys.length), (k : Int) = i → Q (iv ys[k]) loc hp) : ov2 C A g fr E (subscriptTail value slice) (.ref l) (.int i 0) loc hp Q := by
  have hk : i.toNat < ys.length := by omega
  rw [sizeLine_eq] at hsz
  exact sub_list hs hl h0 (by omega) (by rw [List.getElem?_map, List.getElem?_eq_getElem hk]; rfl) (h i.toNat hk (by omega))
end
end Mine
end
section
local macro_rules | `(tactic| walk_at "loc") => `(tactic| (try simp only [setAll]) <;> (repeat' (first | exact lset_eq | (refine' compLoc_of (by rfl) ?_) | (refine' lset_ne (by decide) ?_) | (show (_ : Option Value) = some _; assumption))))
local macro_rules | `(tactic| walk_at "sto") => `(tactic| (first | exact FrOf.stoL (by assumption) (by rfl) | exact FrOf.stoC (by assumption) (by rfl) (by rfl)))
local macro_rules | `(tactic| walk_at "hp") => `(tactic| (repeat' (first | assumption | exact hset_eq _ _ _ | (refine' hset_of (by assumption) ?_))))
local macro_rules | `(tactic| walk_at "kl") => `(tactic| (first
  | with_reducible refine aw_execs_nil ?_
  | with_reducible refine aw_execs_cons ?_
  | with_reducible refine aw_If ?_
  | with_reducible refine aw_Return ?_
  | ((with_reducible refine aw_AssignComp (by assumption) ?kx ?k1 ?k2 ?k3 ?_); (case kx => walk_at "sto"); (case k1 => rfl); (case k2 => (intro _; rfl)); (case k3 => rfl))
  | ((with_reducible refine aw_AssignName ?ks ?kx ?_); (case ks => with_unfolding_all rfl); (case kx => walk_at "sto"))
  | ((with_reducible refine' aw_AugAssignName ?kk ?kl ?kc ?kx ?_); (case kk => exact FrOf.k (by assumption)); (case kc => decide); (case kx => walk_at "sto"); (case kl => walk_at "loc"))
  | ((with_reducible refine' aw_Name ?kk ?kl ?_ ?k1 ?k2); (case kk => exact FrOf.k (by assumption)); (case k1 => decide); (case k2 => decide); (case kl => walk_at "loc"))
  | ((with_reducible refine' aw_Glob ?kk ?kg ?kb ?kx ?kG ?_ ?k1 ?kn); (case kk => exact FrOf.k (by assumption)); (case kg => exact FrOf.glob (by assumption)); (case kb => exact FrOf.bi (by assumption)); (case k1 => decide); (case kG => assumption); (case kn => rfl); (case kx => exact FrOf.kindOf (by assumption) (by rfl)))
  | ((with_reducible refine aw_ListComp' (by assumption) ?k1 ?k2 ?k3 ?_); (case k1 => rfl); (case k2 => (intro _; rfl)); (case k3 => rfl))
  | ((with_reducible refine awf_For' (by assumption) ?k2 ?k3 ?_); (case k2 => (intro _; rfl)); (case k3 => rfl))
  | ((with_reducible refine aw_List ?k1 ?_); (case k1 => rfl))
  | ((with_reducible refine aw_Tuple ?k1 ?_); (case k1 => rfl))
  | ((with_reducible refine aw_ExprF (by assumption) ?k2 ?_); (case k2 => with_unfolding_all rfl))
  | ((with_reducible refine aw_CallMeth ?k1 ?k2 ?k3 ?k4 ?_); (case k1 => with_unfolding_all rfl); (case k2 => rfl); (case k3 => decide); (case k4 => rfl))
  | ((with_reducible refine' sub_tuple ?k1 ?k2 ?k3 ?k4 ?k5 ?_); (case k1 => (intro _ _; with_unfolding_all rfl)); (case k2 => (walk_at "hp"; done)); (case k3 => decide); (case k4 => decide); (case k5 => rfl))
  | with_reducible refine aw_int ?_
  | with_reducible refine aw_none ?_
  | with_reducible refine aw_bool ?_
  | with_reducible refine aw_str ?_
  | with_reducible refine aw_BinOp ?_
  | with_reducible refine aw_UnaryOp ?_
  | with_reducible refine op_neg ?_
  | with_reducible refine op_and ?_
  | with_reducible refine op_ixor ?_
  | with_reducible refine op_ior ?_
  | with_reducible refine op_add ?_
  | with_reducible refine op_sub ?_
  | with_reducible refine op_iadd ?_
  | ((with_reducible refine op_div ?k1 ?k2 ?_); (case k1 => decide); (case k2 => decide))
  | ((with_reducible refine op_mod ?k1 ?_); (case k1 => decide))
  | ((with_reducible refine aw_isTrue_cmp1 ?k1 ?_); (case k1 => with_unfolding_all rfl))
  | ((with_reducible refine aw_Compare1 ?k1 ?_); (case k1 => with_unfolding_all rfl))
  | with_reducible refine cop_lt ⟨_, rfl, ?_⟩
  | with_reducible refine cop_le ⟨_, rfl, ?_⟩
  | with_reducible refine cop_isNone ⟨_, rfl, ?_⟩
  | with_reducible refine cop_eqb ⟨_, rfl, ?_⟩
  | with_reducible refine cop_neb ⟨_, rfl, ?_⟩
  | with_reducible refine cop_lt ?_
  | with_reducible refine cop_le ?_
  | with_reducible refine cop_isNone ?_
  | with_reducible refine cop_eqb ?_
  | with_reducible refine cop_neb ?_
  | with_reducible refine aw_isTrue_and2 ?_
  | with_reducible refine aw_isTrue_or2 ?_
  | with_reducible refine aw_isTrue_not ?_
  | with_reducible refine aw_IfExp ?_
  | ((with_reducible refine aw_isTrue_cmp2 ?k1 ?k2 ?_ ?k3); (case k1 => with_unfolding_all rfl); (case k2 => with_unfolding_all rfl); (case k3 => rfl))
  | ((with_reducible refine aw_AssignPairN (by assumption) (by assumption) ?ks ?kw ?kn ?kx ?ky ?_); (case ks => rfl); (case kw => with_unfolding_all rfl); (case kn => decide); (case kx => walk_at "sto"); (case ky => walk_at "sto"))
  | ((with_reducible refine aw_AssignPairS (by assumption) (by assumption) ?ks ?kw ?kn ?kx ?ky ?_); (case ks => rfl); (case kw => with_unfolding_all rfl); (case kn => decide); (case kx => walk_at "sto"); (case ky => walk_at "sto"))
  | ((with_reducible refine aw_isTrue_val ?k1 ?_); (case k1 => with_unfolding_all rfl))
  | with_reducible refine t_int ?_
  | with_reducible refine aw_Break ?_
  | with_reducible refine aw_Pass ?_
  | ((with_reducible refine aw_Slice ?k1 ?_); (case k1 => (intro _ _; rfl)))
  | ((with_reducible refine aw_SliceStep ?k1 ?_); (case k1 => (intro _ _; rfl)))
  | with_reducible refine op_pow64 ?_
  | with_reducible refine cop_gt ⟨_, rfl, ?_⟩
  | with_reducible refine aw_Subscript ?_
  | ((with_reducible refine aw_CallName ?k1 ?k2 ?_); (case k1 => rfl); (case k2 => rfl))
  | ((with_reducible show ite _ _ _); (first | (refine (if_neg (by decide)).mpr ?_) | (refine (if_pos (by decide)).mpr ?_)))
  | with_reducible refine ce_builtin ?_
  | with_reducible refine ce_type ?_
  | with_reducible refine ce_fn (by assumption) ?_
  | (with_reducible show awArgs _ _ _ _ _ _ _ _ _; unfold awArgs)
  | (with_reducible show awKws _ _ _ _ _ _ _ _ _; unfold awKws)
  | (with_reducible show awT _ _ _ _ _ _ _ _ _; dsimp only [awT])
  | (with_reducible show awPart _ _ _ _ _ _ _ _ _; dsimp only [awPart])
  | (with_reducible show ∃ i, Value.int _ 0 = Value.int i 0 ∧ _; refine ⟨_, rfl, ?_⟩)
  | dsimp only))
section
namespace Mine
def bisR (xs : List Int) (x : Int) : Nat := xs.countP fun y => decide (y ≤ x)
def bisL (xs : List Int) (x : Int) : Nat := xs.countP fun y => decide (y < x)
theorem countP_split {p : Int → Bool} {xs : List Int} {k : Nat} (hk : k ≤ xs.length) (h1 : ∀ i (hi : i < xs.length), i < k → p xs[i] = true) (h2 : ∀ i (hi : i < xs.length), k ≤ i → p xs[i] = false) : xs.countP p = k := by
  have e : xs = xs.take k ++ xs.drop k := (List.take_append_drop k xs).symm
  rw [e, List.countP_append]
  have a : (xs.take k).countP p = k := by
    have : (xs.take k).countP p = (xs.take k).length := List.countP_eq_length.mpr fun y hy => by
      obtain ⟨i, hi, rfl⟩ := List.mem_iff_getElem.mp hy
      rw [List.length_take] at hi
      rw [List.getElem_take]
      exact h1 i (by omega) (by omega)
    rw [this, List.length_take]; omega
  have c : (xs.drop k).countP p = 0 := List.countP_eq_zero.mpr fun y hy => by
    obtain ⟨i, hi, rfl⟩ := List.mem_iff_getElem.mp hy
    rw [List.length_drop] at hi
    rw [List.getElem_drop]
    rw [h2 (k + i) (by omega) (by omega)]
    exact Bool.false_ne_true
  rw [a, c, Nat.add_zero]
theorem bisR_core {C : Cx} (W : WOk C) {A : Around} {g : Heap} {fr : Fm} {E : Value → Shared → Prop} {loc : LOC} {hp : HP} {Q : Value → LOC → HP → Prop} {a : Addr} {xs : List Int} {x : Int} {vals : List Value} {kw : List (Str × Value)} {v u vl vh vk : Value} {pm : Value}
    (F : FnAt C 39 (mkFd (topStmt 3) "bisect_right" (.ref 31) (.ref 32) (.ref 38) pm [] .none))
    (hb : ∀ s : Shared, (∀ b o, C.H₀.get? b = some o → s.heap.get? b = some o) → BindsTo s (mkFd (topStmt 3) "bisect_right" (.ref 31) (.ref 32) (.ref 38) pm [] .none) ⟨vals, kw⟩ [("a", v), ("x", u), ("lo", vl), ("hi", vh), ("key", vk)])
    (hv : nm v = .ref a) (hu : nm u = iv x) (hl : nm vl = iv 0) (hh' : nm vh = .none) (hk' : nm vk = .none)
    (hroom : A.depth < recursionLimit) (ha : hp a = some (.list (xs.map iv))) (hsz : xs.length ≤ 1000) (hs : xs.Pairwise (· ≤ ·)) (h : Q (iv (bisR xs x)) loc hp) :
    awv C A g fr E (call (.ref 39) vals kw) loc hp Q := by
  have hlen := W.len
  refine aw_callFn F rfl rfl W.lim hroom hb (by rfl) rfl rfl (by rfl) fun A' g' fr' E' hd hu' hh hF => ?_
  unfold bindLoc bindLoc bindLoc bindLoc bindLoc bindLoc
  rw [hv, hu, hl, hh', hk']
  clear F hb
  refine aw_execs_cons ?_
  repeat' walk_at "kl"
  refine call_len_list' ha (by rw [List.length_map, sizeLine_eq]; omega) ?_
  repeat' walk_at "kl"
  refine aw_of_codeAny_while (fun n l p => ∃ lo hi : Nat, n = hi - lo ∧ lo ≤ hi ∧ hi ≤ xs.length ∧ (∀ i (hi : i < xs.length), i < lo → xs[i] ≤ x) ∧ (∀ i (h : i < xs.length), hi ≤ i → x < xs[i]) ∧ p = hp ∧
    l "a" = some (.ref a) ∧ l "x" = some (iv x) ∧ l "lo" = some (iv lo) ∧ l "hi" = some (iv hi)) ?turn _ ⟨0, xs.length, rfl, Nat.zero_le _, Nat.le_refl _, fun i _ h => absurd h (Nat.not_lt_zero _), fun i h h' => absurd h (Nat.not_lt.mpr h'), rfl, ?_, ?_, ?_, ?_⟩
  case turn =>
    rintro n l p E'' ⟨lo, hi, rfl, h1, h2, h3, h4, rfl, ea, ex, elo, ehi⟩
    repeat' walk_at "kl"
    by_cases hlt : lo < hi
    · rw [if_pos (by simpa using hlt)]
      repeat' walk_at "kl"
      refine sub_ints (by intro _ _; with_unfolding_all rfl) ha (by omega) (by omega) (by rw [sizeLine_eq]; omega) fun k hk ek => ?_
      repeat' walk_at "kl"
      have hk1 : lo ≤ k := by omega
      have hk2 : k < hi := by omega
      by_cases hx : x < xs[k]
      · rw [if_pos (by simpa using hx)]
        repeat' walk_at "kl"
        refine ⟨k - lo, by omega, lo, k, rfl, hk1, by omega, h3, fun i hi' hle => ?_, rfl, ?_, ?_, ?_, ?_⟩
        · rcases Nat.lt_or_ge k i with q | q
          · exact Int.lt_of_lt_of_le hx (List.pairwise_iff_getElem.mp hs k i hk hi' q)
          · have : i = k := by omega
            subst this; exact hx
        all_goals (first | (walk_at "loc"; done) | (rw [ek]; walk_at "loc"))
      · rw [if_neg (by simpa using hx)]
        repeat' walk_at "kl"
        refine ⟨hi - (k + 1), by omega, k + 1, hi, rfl, by omega, h2, fun i hi' hle => ?_, h4, rfl, ?_, ?_, ?_, ?_⟩
        · rcases Nat.lt_or_ge i k with q | q
          · exact Int.le_trans (List.pairwise_iff_getElem.mp hs i k hi' hk q) (Int.not_lt.mp hx)
          · have : i = k := by omega
            subst this; exact Int.not_lt.mp hx
        all_goals (first | (walk_at "loc"; done) | (rw [← ek]; walk_at "loc"))
    · rw [if_neg (by simpa using hlt)]
      repeat' walk_at "kl"
      have e : lo = bisR xs x := (countP_split (by omega) (fun i hi q => decide_eq_true (h3 i hi q)) fun i hi q => decide_eq_false (Int.not_le.mpr (h4 i hi (by omega)))).symm
      subst e
      exact h
  all_goals (first | (walk_at "loc"; done) | (rw [List.length_map]; walk_at "loc"))
theorem bisL_core {C : Cx} (W : WOk C) {A : Around} {g : Heap} {fr : Fm} {E : Value → Shared → Prop} {loc : LOC} {hp : HP} {Q : Value → LOC → HP → Prop} {a : Addr} {xs : List Int} {x : Int} {vals : List Value} {kw : List (Str × Value)} {v u vl vh vk : Value} {pm : Value}
    (F : FnAt C 57 (mkFd (topStmt 5) "bisect_left" (.ref 49) (.ref 50) (.ref 56) pm [] .none))
    (hb : ∀ s : Shared, (∀ b o, C.H₀.get? b = some o → s.heap.get? b = some o) → BindsTo s (mkFd (topStmt 5) "bisect_left" (.ref 49) (.ref 50) (.ref 56) pm [] .none) ⟨vals, kw⟩ [("a", v), ("x", u), ("lo", vl), ("hi", vh), ("key", vk)])
    (hv : nm v = .ref a) (hu : nm u = iv x) (hl : nm vl = iv 0) (hh' : nm vh = .none) (hk' : nm vk = .none)
    (hroom : A.depth < recursionLimit) (ha : hp a = some (.list (xs.map iv))) (hsz : xs.length ≤ 1000) (hs : xs.Pairwise (· ≤ ·)) (h : Q (iv (bisL xs x)) loc hp) :
    awv C A g fr E (call (.ref 57) vals kw) loc hp Q := by
  have hlen := W.len
  refine aw_callFn F rfl rfl W.lim hroom hb (by rfl) rfl rfl (by rfl) fun A' g' fr' E' hd hu' hh hF => ?_
  unfold bindLoc bindLoc bindLoc bindLoc bindLoc bindLoc
  rw [hv, hu, hl, hh', hk']
  clear F hb
  refine aw_execs_cons ?_
  repeat' walk_at "kl"
  refine call_len_list' ha (by rw [List.length_map, sizeLine_eq]; omega) ?_
  repeat' walk_at "kl"
  refine aw_of_codeAny_while (fun n l p => ∃ lo hi : Nat, n = hi - lo ∧ lo ≤ hi ∧ hi ≤ xs.length ∧ (∀ i (hi : i < xs.length), i < lo → xs[i] < x) ∧ (∀ i (h : i < xs.length), hi ≤ i → x ≤ xs[i]) ∧ p = hp ∧
    l "a" = some (.ref a) ∧ l "x" = some (iv x) ∧ l "lo" = some (iv lo) ∧ l "hi" = some (iv hi)) ?turn _ ⟨0, xs.length, rfl, Nat.zero_le _, Nat.le_refl _, fun i _ h => absurd h (Nat.not_lt_zero _), fun i h h' => absurd h (Nat.not_lt.mpr h'), rfl, ?_, ?_, ?_, ?_⟩
  case turn =>
    rintro n l p E'' ⟨lo, hi, rfl, h1, h2, h3, h4, rfl, ea, ex, elo, ehi⟩
    repeat' walk_at "kl"
    by_cases hlt : lo < hi
    · rw [if_pos (by simpa using hlt)]
      repeat' walk_at "kl"
      refine sub_ints (by intro _ _; with_unfolding_all rfl) ha (by omega) (by omega) (by rw [sizeLine_eq]; omega) fun k hk ek => ?_
      repeat' walk_at "kl"
      have hk1 : lo ≤ k := by omega
      have hk2 : k < hi := by omega
      by_cases hx : xs[k] < x
      · rw [if_pos (by simpa using hx)]
        repeat' walk_at "kl"
        refine ⟨hi - (k + 1), by omega, k + 1, hi, rfl, by omega, h2, fun i hi' hle => ?_, h4, rfl, ?_, ?_, ?_, ?_⟩
        · rcases Nat.lt_or_ge i k with q | q
          · exact Int.lt_of_le_of_lt (List.pairwise_iff_getElem.mp hs i k hi' hk q) hx
          · have : i = k := by omega
            subst this; exact hx
        all_goals (first | (walk_at "loc"; done) | (rw [← ek]; walk_at "loc"))
      · rw [if_neg (by simpa using hx)]
        repeat' walk_at "kl"
        refine ⟨k - lo, by omega, lo, k, rfl, hk1, by omega, h3, fun i hi' hle => ?_, rfl, ?_, ?_, ?_, ?_⟩
        · rcases Nat.lt_or_ge k i with q | q
          · exact Int.le_trans (Int.not_lt.mp hx) (List.pairwise_iff_getElem.mp hs k i hk hi' q)
          · have : i = k := by omega
            subst this; exact Int.not_lt.mp hx
        all_goals (first | (walk_at "loc"; done) | (rw [ek]; walk_at "loc"))
    · rw [if_neg (by simpa using hlt)]
      repeat' walk_at "kl"
      have e : lo = bisL xs x := (countP_split (by omega) (fun i hi q => decide_eq_true (h3 i hi q)) fun i hi q => decide_eq_false (Int.not_lt.mpr (h4 i hi (by omega)))).symm
      subst e
      exact h
  all_goals (first | (walk_at "loc"; done) | (rw [List.length_map]; walk_at "loc"))
theorem binds2 {C : Cx} {i : Nat} {q : Str} {ad ak ac : Addr} (D : Dfl C ad ak) {pm va vx : Value}
    (h : ∀ h' t t' n n' S, peek [(ad, ⟨.type "tuple", none, .seq #[.int 0 t, .none] n, #[]⟩), (ak, ⟨.type "dict", none, .dict #[⟨h', .str "key" t', .none⟩] n', #[]⟩)] S (bindArgs (mkFd (topStmt i) q (.ref ad) (.ref ak) (.ref ac) pm [] .none) ⟨[va, vx], []⟩) = some [(("a" : Str), va), ("x", vx), ("lo", .int 0 t), ("hi", .none), ("key", .none)]) (hab : ad ≠ ak) :
    ∃ t, ∀ s : Shared, (∀ b o, C.H₀.get? b = some o → s.heap.get? b = some o) → BindsTo s (mkFd (topStmt i) q (.ref ad) (.ref ak) (.ref ac) pm [] .none) ⟨[va, vx], []⟩ [("a", va), ("x", vx), ("lo", .int 0 t), ("hi", .none), ("key", .none)] := by
  obtain ⟨t, n, e⟩ := D.t
  obtain ⟨h', t', n', e'⟩ := D.k
  exact ⟨t, fun s hk => kp_binds (frag2 hab (hk _ _ e) (hk _ _ e')) fun S => h h' t t' n n' S⟩
theorem binds4 {C : Cx} {i : Nat} {q : Str} {ad ak ac : Addr} (D : Dfl C ad ak) {pm va vx vl vh : Value}
    (h : ∀ h' t t' n n' S, peek [(ad, ⟨.type "tuple", none, .seq #[.int 0 t, .none] n, #[]⟩), (ak, ⟨.type "dict", none, .dict #[⟨h', .str "key" t', .none⟩] n', #[]⟩)] S (bindArgs (mkFd (topStmt i) q (.ref ad) (.ref ak) (.ref ac) pm [] .none) ⟨[va, vx, vl, vh], []⟩) = some [(("a" : Str), va), ("x", vx), ("lo", vl), ("hi", vh), ("key", .none)]) (hab : ad ≠ ak) :
    ∀ s : Shared, (∀ b o, C.H₀.get? b = some o → s.heap.get? b = some o) → BindsTo s (mkFd (topStmt i) q (.ref ad) (.ref ak) (.ref ac) pm [] .none) ⟨[va, vx, vl, vh], []⟩ [("a", va), ("x", vx), ("lo", vl), ("hi", vh), ("key", .none)] := by
  obtain ⟨t, n, e⟩ := D.t
  obtain ⟨h', t', n', e'⟩ := D.k
  exact fun s hk => kp_binds (frag2 hab (hk _ _ e) (hk _ _ e')) fun S => h h' t t' n n' S
section
variable {C : Cx} (W : WOk C) {A : Around} {g : Heap} {fr : Fm} {E : Value → Shared → Prop} {loc : LOC} {hp : HP} {Q : Value → LOC → HP → Prop} {a : Addr} {xs : List Int} {x : Int}
    (hroom : A.depth < recursionLimit) (ha : hp a = some (.list (xs.map iv))) (hsz : xs.length ≤ 1000) (hs : xs.Pairwise (· ≤ ·))
include W hroom ha hsz hs
theorem bisect_right_ok (h : Q (iv (bisR xs x)) loc hp) : onCall C A g fr E (.ref 39) [.ref a, iv x] [] loc hp Q := onCall2 fun v u hv hu => by
  obtain ⟨pm, F⟩ := W.fR
  obtain ⟨t, hb⟩ := binds2 (i := 3) (q := "bisect_right") (ac := 38) W.dR (pm := pm) (va := v) (vx := u) (fun _ _ _ _ _ _ => by rfl) (by decide)
  exact bisR_core W F hb hv hu rfl rfl rfl hroom ha hsz hs h
theorem bisect_left_ok (h : Q (iv (bisL xs x)) loc hp) : onCall C A g fr E (.ref 57) [.ref a, iv x] [] loc hp Q := onCall2 fun v u hv hu => by
  obtain ⟨pm, F⟩ := W.fL
  obtain ⟨t, hb⟩ := binds2 (i := 5) (q := "bisect_left") (ac := 56) W.dL (pm := pm) (va := v) (vx := u) (fun _ _ _ _ _ _ => by rfl) (by decide)
  exact bisL_core W F hb hv hu rfl rfl rfl hroom ha hsz hs h
end
theorem onCall4 {C : Cx} {A : Around} {g : Heap} {fr : Fm} {E : Value → Shared → Prop} {loc : LOC} {hp : HP} {f x y z w : Value} {Q : Value → LOC → HP → Prop} (h : ∀ v u a b, nm v = x → nm u = y → nm a = z → nm b = w → awv C A g fr E (call f [v, u, a, b] []) loc hp Q) : onCall C A g fr E f [x, y, z, w] [] loc hp Q := by
  intro vs kw hv hk
  cases List.map_eq_nil_iff.mp hk
  match vs, hv with
  | [a, b, c, d], hv =>
    injection hv with h1 hv
    injection hv with h2 hv
    injection hv with h3 hv
    injection hv with h4 hv
    exact h a b c d h1 h2 h3 h4
theorem insort_right_ok {C : Cx} (W : WOk C) {A : Around} {g : Heap} {fr : Fm} {E : Value → Shared → Prop} {loc : LOC} {hp : HP} {Q : Value → LOC → HP → Prop} {a : Addr} {xs : List Int} {x : Int}
    (hroom : A.depth + 1 < recursionLimit) (ha : hp a = some (.list (xs.map iv))) (hsz : xs.length ≤ 1000) (hs : xs.Pairwise (· ≤ ·))
    (h : Q .none loc (hset hp a (.list (insL (xs.map iv) (bisR xs x) (iv x))))) : onCall C A g fr E (.ref 30) [.ref a, iv x] [] loc hp Q := onCall2 fun v u hv hu => by
  obtain ⟨pm, F⟩ := W.fIR
  obtain ⟨t, hb⟩ := binds2 (i := 2) (q := "insort_right") (ac := 29) W.dIR (pm := pm) (va := v) (vx := u) (fun _ _ _ _ _ _ => by rfl) (by decide)
  have hgR := W.gR
  have hfR := W.fR
  obtain ⟨pm', FR⟩ := hfR
  refine aw_callFn F rfl rfl W.lim (by omega) hb (by rfl) rfl rfl (by rfl) fun A' g' fr' E' hd hu' hh hF => ?_
  unfold bindLoc bindLoc bindLoc bindLoc bindLoc bindLoc
  rw [hv, hu]
  simp only [nm]
  clear F hb
  refine aw_execs_cons ?_
  repeat' walk_at "kl"
  refine onCall4 fun v₁ v₂ v₃ v₄ h₁ h₂ h₃ h₄ => bisR_core W FR (binds4 (i := 3) (q := "bisect_right") (ac := 38) W.dR (fun _ _ _ _ _ _ => by rfl) (by decide)) h₁ h₂ h₃ h₄ rfl (by omega) ha hsz hs ?_
  repeat' walk_at "kl"
  refine ⟨_, meth_list F.slot_list_insert F.type_list_insert ha, ?_⟩
  repeat' walk_at "kl"
  refine ⟨kp_builtin, m_insert ha (by rw [List.length_map]; exact List.countP_le_length) (by rw [List.length_map]; omega) ⟨rfl, ?_⟩⟩
  repeat' walk_at "kl"
  exact h
theorem insort_left_ok {C : Cx} (W : WOk C) {A : Around} {g : Heap} {fr : Fm} {E : Value → Shared → Prop} {loc : LOC} {hp : HP} {Q : Value → LOC → HP → Prop} {a : Addr} {xs : List Int} {x : Int}
    (hroom : A.depth + 1 < recursionLimit) (ha : hp a = some (.list (xs.map iv))) (hsz : xs.length ≤ 1000) (hs : xs.Pairwise (· ≤ ·))
    (h : Q .none loc (hset hp a (.list (insL (xs.map iv) (bisL xs x) (iv x))))) : onCall C A g fr E (.ref 48) [.ref a, iv x] [] loc hp Q := onCall2 fun v u hv hu => by
  obtain ⟨pm, F⟩ := W.fIL
  obtain ⟨t, hb⟩ := binds2 (i := 4) (q := "insort_left") (ac := 47) W.dIL (pm := pm) (va := v) (vx := u) (fun _ _ _ _ _ _ => by rfl) (by decide)
  have hgR := W.gL
  have hfR := W.fL
  obtain ⟨pm', FR⟩ := hfR
  refine aw_callFn F rfl rfl W.lim (by omega) hb (by rfl) rfl rfl (by rfl) fun A' g' fr' E' hd hu' hh hF => ?_
  unfold bindLoc bindLoc bindLoc bindLoc bindLoc bindLoc
  rw [hv, hu]
  simp only [nm]
  clear F hb
  refine aw_execs_cons ?_
  repeat' walk_at "kl"
  refine onCall4 fun v₁ v₂ v₃ v₄ h₁ h₂ h₃ h₄ => bisL_core W FR (binds4 (i := 5) (q := "bisect_left") (ac := 56) W.dL (fun _ _ _ _ _ _ => by rfl) (by decide)) h₁ h₂ h₃ h₄ rfl (by omega) ha hsz hs ?_
  repeat' walk_at "kl"
  refine ⟨_, meth_list F.slot_list_insert F.type_list_insert ha, ?_⟩
  repeat' walk_at "kl"
  refine ⟨kp_builtin, m_insert ha (by rw [List.length_map]; exact List.countP_le_length) (by rw [List.length_map]; omega) ⟨rfl, ?_⟩⟩
  repeat' walk_at "kl"
  exact h
end Mine
end
section
namespace Mine
def cntLe (r : List Int) (k : Int) : Nat := r.countP fun y => decide (y ≤ k)
def Fits (rows : List (List Int)) (lo hi : Nat) (k : Nat) : Prop := ∀ at_, lo ≤ at_ → at_ < hi → cntLe (rows.getD at_ []) k ≤ k
def addRows (rows : List (List Int)) (lo hi : Nat) (k : Nat) : List (List Int) := rows.mapIdx fun at_ r => if lo ≤ at_ ∧ at_ < hi then r ++ [(k : Int)] else r
theorem rangeL_get {a b : Int} {i : Nat} {vs : List Value} (h : ((rangeL a b).map fun v => [(.int v 0 : Value)])[i]? = some vs) : a + i < b ∧ vs = [.int (a + i) 0] := by
  rw [List.getElem?_map] at h
  obtain ⟨v, hv, rfl⟩ := Option.map_eq_some_iff.mp h
  unfold rangeL at hv
  rw [List.getElem?_map] at hv
  obtain ⟨j, hj, rfl⟩ := Option.map_eq_some_iff.mp hv
  have := List.getElem?_eq_some_iff.mp hj
  obtain ⟨h1, h2⟩ := this
  rw [List.length_range] at h1
  rw [List.getElem_range] at h2
  subst h2
  exact ⟨by omega, rfl⟩
theorem rangeL_len {a b : Int} : ((rangeL a b).map fun v => [(.int v 0 : Value)]).length = (b - a).toNat := by simp [rangeL]
theorem mem_rangeL {a b x : Int} : x ∈ rangeL a b ↔ a ≤ x ∧ x < b := by
  unfold rangeL
  simp only [List.mem_map, List.mem_range]
  constructor
  · rintro ⟨i, hi, rfl⟩; omega
  · intro h; exact ⟨(x - a).toNat, by omega, by omega⟩
theorem Rows.row {p : HP} {a : Addr} {ts : List Addr} {rows : List (List Int)} (h : Rows p a ts rows) {k : Nat} (hk : k < rows.length) : ∃ T, ts[k]? = some T ∧ p T = some (.list ((rows.getD k []).map iv)) := by
  obtain ⟨_, h2, _, h4⟩ := h
  have hk' : k < ts.length := by omega
  refine ⟨ts[k], List.getElem?_eq_getElem hk', ?_⟩
  rw [List.getD_eq_getElem?_getD, List.getElem?_eq_getElem hk]
  exact h4 k _ _ (List.getElem?_eq_getElem hk') (List.getElem?_eq_getElem hk)
theorem Rows.mono {p p' : HP} {a : Addr} {ts : List Addr} {rows : List (List Int)} (h : Rows p a ts rows) (hs : Sub p p') : Rows p' a ts rows :=
  ⟨hs _ _ h.1, h.2.1, h.2.2.1, fun k T r e1 e2 => hs _ _ (h.2.2.2 k T r e1 e2)⟩
theorem sub_rows {C : Cx} {A : Around} {g : Heap} {fr : Fm} {E : Value → Shared → Prop} {loc : LOC} {hp : HP} {value slice : Expr} {l : Addr} {i : Int} {ts : List Addr} {rows : List (List Int)} {Q : Value → LOC → HP → Prop} (hs : ∀ o j, subscripted slice false o j = operate [o, j] (getItem o j))
    (hR : Rows hp l ts rows) (h0 : 0 ≤ i) (hi : i < rows.length) (hsz : rows.length ≤ 100000) (h : ∀ T, ts[i.toNat]? = some T → hp T = some (.list ((rows.getD i.toNat []).map iv)) → Q (.ref T) loc hp) :
    ov2 C A g fr E (subscriptTail value slice) (.ref l) (.int i 0) loc hp Q := by
  obtain ⟨T, e1, e2⟩ := hR.row (k := i.toNat) (by omega)
  exact sub_list hs hR.1 h0 (by omega) (by rw [List.getElem?_map, e1]; rfl) (h T e1 e2)
theorem filterMap_count {r : List Int} {k : Int} {v : Value} : (r.filterMap fun y => if y ≤ k then some v else none).length = cntLe r k := by
  unfold cntLe
  induction r with
  | nil => rfl
  | cons a r ih =>
    rw [List.filterMap_cons, List.countP_cons]
    by_cases h : a ≤ k
    · simp [h, ih]
    · simp [h, ih]
theorem Rows.ne {p : HP} {a : Addr} {ts : List Addr} {rows : List (List Int)} (h : Rows p a ts rows) {k : Nat} {T : Addr} (hT : ts[k]? = some T) : a ≠ T := by
  rintro rfl
  have hk : k < rows.length := by rw [← h.2.1]; exact (List.getElem?_eq_some_iff.mp hT).1
  obtain ⟨U, e1, e2⟩ := h.row hk
  rw [hT] at e1; cases e1
  rw [h.1] at e2
  injection e2 with e2
  injection e2 with e2
  cases hts : ts with
  | nil => rw [hts] at hT; cases hT
  | cons t r =>
    rw [hts] at e2
    cases hr : rows.getD k [] with
    | nil => rw [hr] at e2; cases e2
    | cons y ys => rw [hr] at e2; injection e2 with e3 _; cases e3
theorem Rows.upd {p : HP} {a : Addr} {ts : List Addr} {rows : List (List Int)} (h : Rows p a ts rows) {k : Nat} {T : Addr} (hT : ts[k]? = some T) (r : List Int) : Rows (hset p T (.list (r.map iv))) a ts (rows.set k r) := by
  refine ⟨?_, by rw [List.length_set]; exact h.2.1, h.2.2.1, fun j U r' hU hr' => ?_⟩
  · rw [hset_ne _ _ (h.ne hT)]; exact h.1
  · have hkj : k = j ↔ T = U := ⟨fun e => by subst e; rw [hT] at hU; cases hU; rfl, fun e => by
      subst e
      have h1 := List.getElem?_eq_some_iff.mp hT
      have h2 := List.getElem?_eq_some_iff.mp hU
      obtain ⟨a1, a2⟩ := h1
      obtain ⟨b1, b2⟩ := h2
      exact (List.getElem_inj h.2.2.1).mp (a2.trans b2.symm)⟩
    rw [List.getElem?_set] at hr'
    by_cases e : k = j
    · rw [if_pos e] at hr'
      split at hr'
      · cases hr'
        rw [← hkj.mp e, hset_eq]
      · cases hr'
    · rw [if_neg e] at hr'
      rw [hset_ne _ _ (fun e' => e (hkj.mpr e'.symm))]
      exact h.2.2.2 j U r' hU hr'
theorem addRows_nil {rows : List (List Int)} {lo k : Nat} : addRows rows lo lo k = rows := by
  unfold addRows
  apply List.ext_getElem?
  intro j
  rw [List.getElem?_mapIdx]
  cases rows[j]? with
  | none => rfl
  | some r => rw [Option.map_some, if_neg (by omega)]
theorem addRows_len {rows : List (List Int)} {lo hi k : Nat} : (addRows rows lo hi k).length = rows.length := by simp [addRows]
theorem addRows_getD {rows : List (List Int)} {lo hi k j : Nat} (hj : j < rows.length) (hn : hi ≤ j) : (addRows rows lo hi k).getD j [] = rows.getD j [] := by
  unfold addRows
  rw [List.getD_eq_getElem?_getD, List.getD_eq_getElem?_getD, List.getElem?_mapIdx]
  rw [List.getElem?_eq_getElem hj, Option.map_some, if_neg (by omega)]
theorem addRows_succ {rows : List (List Int)} {lo hi k : Nat} (hlo : lo ≤ hi) (hj : hi < rows.length) : addRows rows lo (hi + 1) k = (addRows rows lo hi k).set hi (rows.getD hi [] ++ [(k : Int)]) := by
  apply List.ext_getElem?
  intro j
  rw [List.getElem?_set, addRows_len]
  unfold addRows
  rw [List.getElem?_mapIdx, List.getElem?_mapIdx]
  by_cases e : hi = j
  · subst e
    rw [if_pos rfl, if_pos hj, List.getElem?_eq_getElem hj, Option.map_some, if_pos (by omega), List.getD_eq_getElem?_getD, List.getElem?_eq_getElem hj]; rfl
  · rw [if_neg e]
    cases rows[j]? with
    | none => rfl
    | some r =>
      rw [Option.map_some, Option.map_some]
      by_cases h : lo ≤ j ∧ j < hi
      · rw [if_pos h, if_pos (by omega)]
      · rw [if_neg h, if_neg (by omega)]
theorem cntLe_le {r : List Int} {k : Int} : cntLe r k ≤ r.length := List.countP_le_length
theorem getD_mem' {rows : List (List Int)} {k : Nat} (h : k < rows.length) : rows.getD k [] ∈ rows := by
  rw [List.getD_eq_getElem?_getD, List.getElem?_eq_getElem h]
  exact List.getElem_mem _
theorem law_due_ok {C : Cx} (W : WOk C) {A : Around} {g : Heap} {fr : Fm} {E : Value → Shared → Prop} {loc : LOC} {hp : HP} {Q : Value → LOC → HP → Prop} {sp th : Addr} {ts : List Addr} {rows : List (List Int)} {lo hi : Nat}
    (hroom : A.depth < recursionLimit) (hh : A.handled = none) (hsp : hp sp = some (.tuple [iv lo, iv hi])) (hth : Rows hp th ts rows) (hlt : lo < hi) (hhi : hi ≤ rows.length) (hrn : rows.length ≤ 100) (hsz : ∀ r ∈ rows, r.length ≤ 100)
    (hno : ∀ p', (∀ j, j < 11 → ¬ Fits rows lo hi j) → Sub hp p' → Q (iv (-1)) loc p')
    (hyes : ∀ k p', k < 11 → Fits rows lo hi k → (∀ j, j < k → ¬ Fits rows lo hi j) → Rows p' th ts (addRows rows lo hi k) → (∀ b o, b ∉ ts → hp b = some o → p' b = some o) → Q (iv k) loc p') :
    onCall C A g fr E (.ref 180) [.ref sp, .ref th] [] loc hp Q := onCall2 fun v u hv hu => by
  obtain ⟨pm, F⟩ := W.fDue
  have hlen := W.len
  have hmax := W.max
  have hrange := W.range
  refine aw_callFn F rfl rfl W.lim hroom (binds := [("span", v), ("there", u)]) (fun s hk => kp_binds frag0 fun S => by rfl) (by rfl) rfl rfl (by rfl) fun A' g' fr' E' hd hu' hh' hF => ?_
  rw [hh] at hh'
  unfold bindLoc bindLoc bindLoc
  rw [hv, hu]
  clear F
  refine aw_execs_cons ?_
  repeat' walk_at "kl"
  refine call_range1 fun r hr => it_range hh' hr (by decide) (by decide) ⟨fun k l p => Sub hp p ∧ l "span" = some (.ref sp) ∧ l "there" = some (.ref th) ∧ ∀ j, j < k → ¬ Fits rows lo hi j, ⟨Sub.rfl, ?_, ?_, fun j h => absurd h (Nat.not_lt_zero _)⟩, fun i l p _ => trivial, ?turn, ?fin⟩
  · walk_at "loc"
  · walk_at "loc"
  case fin =>
    rintro l p g₂ E₂ ⟨hs, e1, e2, e3⟩
    rw [rangeL_len] at e3
    repeat' walk_at "kl"
    trace_state
    exact hno _ e3 hs
  case turn =>
    rintro i vs l p g₂ E₂ hvs ⟨hs, e1, e2, e3⟩
    obtain ⟨hi11, rfl⟩ := rangeL_get hvs
    rw [Int.zero_add] at hi11 ⊢
    have hsp := hs _ _ hsp
    have hth' := hth.mono hs
    dsimp only [tgtNames, setAll]
    repeat' walk_at "kl"
    refine call_range2 fun r hr => comp_map (rangeL lo hi) (fun v => [.int v 0]) (fun v => iv (cntLe (rows.getD v.toNat []) i)) (it_range hh' hr (by omega) (by omega) ⟨rfl, by simp [rangeL]; omega, ?elt, ?done⟩)
    case elt =>
      intro x hx g₃ fr₃ E₃ hF₃
      dsimp only [tgtNames, setAll]
      repeat' walk_at "kl"
      obtain ⟨hx1, hx2⟩ := mem_rangeL.mp hx
      have hlen := hsz _ (getD_mem' (rows := rows) (k := x.toNat) (by omega))
      refine sub_rows (by intro _ _; with_unfolding_all rfl) hth' (by omega) (by omega) (by omega) fun T hT hpT => ?_
      refine comp_pure (rows.getD x.toNat []) (fun y => [.int y 0]) (fun y => if y ≤ (i : Int) then some (iv 1) else none) (it_ints hh' hpT ⟨rfl, by omega, ?elt2, ?done2⟩)
      case elt2 =>
        intro y hy g₄ fr₄ E₄ hF₄
        dsimp only [tgtNames, setAll]
        repeat' walk_at "kl"
        refine ⟨rfl, Sub.rfl, ?_⟩
        by_cases hy : y ≤ (i : Int)
        · rw [if_pos (by simpa using hy)]
          intro g₅ E₅
          repeat' walk_at "kl"
          exact ⟨rfl, Sub.rfl, if_pos hy⟩
        · rw [if_neg (by simpa using hy)]
          exact if_neg hy
      case done2 =>
        intro D hD
        repeat' walk_at "kl"
        have hfc := filterMap_count (r := rows.getD x.toNat []) (k := i) (v := iv 1)
        have hle : cntLe (rows.getD x.toNat []) i ≤ 100 := Nat.le_trans cntLe_le hlen
        refine call_len_list' (hset_eq _ _ _) (by rw [hfc, sizeLine_eq]; omega) ⟨rfl, Sub.set hD, ?_⟩
        rw [hfc]
    case done =>
      intro D hD
      repeat' walk_at "kl"
      refine call_max (ns := (rangeL lo hi).map fun v => (cntLe (rows.getD v.toNat []) i : Int)) hh' (by rw [hset_eq, List.map_map]; rfl) ?_ fun M hM hMx => ?_
      · intro e
        have := List.map_eq_nil_iff.mp e
        have h2 : (lo : Int) ∈ rangeL lo hi := mem_rangeL.mpr ⟨by omega, by omega⟩
        rw [this] at h2; cases h2
      repeat' walk_at "kl"
      have hfits : Fits rows lo hi i ↔ M ≤ (i : Int) := by
        constructor
        · intro hf
          obtain ⟨v, hv, rfl⟩ := List.mem_map.mp hM
          obtain ⟨h1, h2⟩ := mem_rangeL.mp hv
          have := hf v.toNat (by omega) (by omega)
          omega
        · intro hle a ha hb
          have := hMx _ (List.mem_map.mpr ⟨(a : Int), mem_rangeL.mpr ⟨by omega, by omega⟩, rfl⟩)
          simp only [Int.toNat_natCast] at this
          omega
      have hsD : Sub hp (hset p D (AO.list (List.map (fun v => iv ↑(cntLe (rows.getD v.toNat []) ↑i)) (rangeL ↑lo ↑hi)))) := hs.trans (Sub.set hD)
      by_cases hfit : M ≤ (i : Int)
      · rw [if_pos (by simpa using hfit)]
        generalize hset p D (AO.list (List.map (fun v => iv ↑(cntLe (rows.getD v.toNat []) ↑i)) (rangeL ↑lo ↑hi))) = p₁ at hsD
        have hsp := hsD _ _ ‹hp sp = _›
        repeat' walk_at "kl"
        refine call_range2 fun r₂ hr₂ => it_range hh' hr₂ (by omega) (by omega) ⟨fun n l p => l "there" = some (.ref th) ∧ l "level" = some (iv i) ∧ Rows p th ts (addRows rows lo (lo + n) i) ∧ (∀ b o, b ∉ ts → hp b = some o → p b = some o), ⟨?_, ?_, ?_, fun b o _ e => hsD _ _ e⟩, fun _ _ _ _ => trivial, ?turn2, ?fin2⟩
        · walk_at "loc"
        · walk_at "loc"
        · rw [Nat.add_zero, addRows_nil]; exact hth.mono hsD
        case turn2 =>
          rintro n vs l p g₃ E₃ hvs ⟨e4, e5, e6, e7⟩
          obtain ⟨hn, rfl⟩ := rangeL_get hvs
          dsimp only [tgtNames, setAll]
          repeat' walk_at "kl"
          refine sub_rows (by intro _ _; with_unfolding_all rfl) e6 (by omega) (by rw [addRows_len]; omega) (by rw [addRows_len]; omega) fun T hT hpT => ?_
          have ek : ((lo : Int) + (n : Int)).toNat = lo + n := by omega
          rw [ek] at hT hpT
          rw [addRows_getD (by omega) (Nat.le_refl _)] at hpT
          refine ⟨_, meth_list F.slot_list_append F.type_list_append hpT, ?_⟩
          repeat' walk_at "kl"
          refine ⟨kp_builtin, m_append hpT (by rw [List.length_map]; have := hsz _ (getD_mem' (rows := rows) (k := lo + n) (by omega)); omega) ⟨rfl, ?_⟩⟩
          repeat' walk_at "kl"
          refine ⟨?_, ?_, ?_, fun b o hb e => ?_⟩
          · walk_at "loc"
          · walk_at "loc"
          · have := e6.upd hT (rows.getD (lo + n) [] ++ [(i : Int)])
            rw [← addRows_succ (by omega) (by omega), List.map_append] at this
            exact this
          · rw [hset_ne _ _ (by rintro rfl; exact hb (List.mem_of_getElem? hT))]
            exact e7 b o hb e
        case fin2 =>
          rintro l p g₃ E₃ ⟨e4, e5, e6, e7⟩
          rw [rangeL_len] at e6
          repeat' walk_at "kl"
          have ek : lo + ((hi : Int) - (lo : Int)).toNat = hi := by omega
          rw [ek] at e6
          exact hyes i p (by omega) (hfits.mpr hfit) e3 e6 e7
      · rw [if_neg (by simpa using hfit)]
        repeat' walk_at "kl"
        refine ⟨hsD, ?_, ?_, fun j hj => ?_⟩
        · walk_at "loc"
        · walk_at "loc"
        · rcases Nat.lt_or_ge j i with h | h
          · exact e3 j h
          · have : j = i := by omega
            subst this
            exact fun hf => hfit (hfits.mp hf)
end Mine
end
section
namespace Mine
theorem Rows.other {p : HP} {a : Addr} {ts : List Addr} {rows : List (List Int)} (h : Rows p a ts rows) {T : Addr} {r : List Int} {o : AO} (hT : p T = some (.list (r.map iv))) (hn : T ∉ ts) (hne : rows ≠ []) : Rows (hset p T o) a ts rows := by
  have ha : a ≠ T := by
    rintro rfl
    rw [h.1] at hT
    injection hT with e
    injection e with e
    have hl : 0 < ts.length := by rw [h.2.1]; exact List.length_pos_iff.mpr hne
    cases hts : ts with
    | nil => rw [hts] at hl; exact absurd hl (Nat.lt_irrefl _)
    | cons t q =>
      rw [hts] at e
      cases r with
      | nil => cases e
      | cons y ys => injection e with e3 _; cases e3
  refine ⟨by rw [hset_ne _ _ ha]; exact h.1, h.2.1, h.2.2.1, fun k U r' hU hr' => ?_⟩
  rw [hset_ne _ _ (by rintro rfl; exact hn (List.mem_of_getElem? hU))]
  exact h.2.2.2 k U r' hU hr'
def cov (bss ess : List (List Int)) : Nat → Int → Int
  | 0, _ => 0
  | k + 1, v => cov bss ess k v + ((bisL (bss.getD k []) (v + 1) : Int) - bisR (ess.getD k []) v)
def FitsL (bss ess : List (List Int)) (lo hi : Nat) (k : Nat) : Prop := ∀ a : Nat, lo ≤ a → a < hi → cov bss ess (k + 1) a ≤ k
def insI (xs : List Int) (k : Nat) (x : Int) : List Int := xs.take k ++ x :: xs.drop k
theorem insL_ints {xs : List Int} {k : Nat} {x : Int} : insL (xs.map iv) k (iv x) = (insI xs k x).map iv := by
  unfold insL insI; rw [List.map_append, List.map_cons, List.map_take, List.map_drop]
theorem it_zipints {C : Cx} {A : Around} {g : Heap} {fr : Fm} {E : Value → Shared → Prop} {loc : LOC} {hp : HP} (hh : A.handled = none) {β : Type} {l : List β} {F G : β → Int} {l1 l2 : Addr} {x y : Str} {px py pos : Pos} {k} {K : List (List Value) → (HP → Prop) → LOC → HP → Prop} (hl1 : hp l1 = some (.list (l.map fun v => iv (F v)))) (hl2 : hp l2 = some (.list (l.map fun v => iv (G v))))
    (h : K (l.map fun v => [iv (F v), iv (G v)]) (fun p => p l1 = some (.list (l.map fun v => iv (F v))) ∧ p l2 = some (.list (l.map fun v => iv (G v)))) loc hp) :
    onCall C A g fr E (.type "zip") [.ref l1, .ref l2] [] loc hp fun v l p => onIt C A (.Tuple [.Name x px, .Name y py] k pos) [x, y] v l p K := it_zip hh hl1 hl2 (by
  rw [List.zip_map', List.map_map]; exact h)
theorem law_level_ok {C : Cx} (W : WOk C) {A : Around} {g : Heap} {fr : Fm} {E : Value → Shared → Prop} {loc : LOC} {hp : HP} {Q : Value → LOC → HP → Prop} {sp bg en : Addr} {bts ets : List Addr} {bss ess : List (List Int)} {lo hi : Nat}
    (hroom : A.depth + 2 < recursionLimit) (hh : A.handled = none) (hsp : hp sp = some (.tuple [iv lo, iv hi])) (hb : Rows hp bg bts bss) (he : Rows hp en ets ess) (hlt : lo < hi) (hhi : hi ≤ 100) (hlen : ess.length = bss.length) (hrn : bss.length ≤ 100)
    (hbs : ∀ r ∈ bss, r.length ≤ 100 ∧ r.Pairwise (· ≤ ·)) (hes : ∀ r ∈ ess, r.length ≤ 100 ∧ r.Pairwise (· ≤ ·)) (hdis : ∀ T ∈ bts, T ∉ ets)
    (hno : ∀ p', (∀ j, j < bss.length → ¬ FitsL bss ess lo hi j) → Sub hp p' → Q (iv (-1)) loc p')
    (hyes : ∀ k p', k < bss.length → FitsL bss ess lo hi k → (∀ j, j < k → ¬ FitsL bss ess lo hi j) → Rows p' bg bts (bss.set k (insI (bss.getD k []) (bisL (bss.getD k []) lo) lo)) → Rows p' en ets (ess.set k (insI (ess.getD k []) (bisR (ess.getD k []) hi) hi)) →
      (∀ b o, b ∉ bts → b ∉ ets → hp b = some o → p' b = some o) → Q (iv k) loc p') :
    onCall C A g fr E (.ref 170) [.ref sp, .ref bg, .ref en] [] loc hp Q := onCall3 fun v u w hv hu hw => by
  obtain ⟨pm, F⟩ := W.fLevel
  have hlenG := W.len
  have hmax := W.max
  have hrange := W.range
  have hzip := W.zip
  have hgL := W.gL
  have hgR := W.gR
  have hgIL := W.gIL
  have hgIR := W.gIR
  obtain ⟨pm1, FL⟩ := W.fL
  obtain ⟨pm2, FR⟩ := W.fR
  obtain ⟨pm3, FIL⟩ := W.fIL
  obtain ⟨pm4, FIR⟩ := W.fIR
  refine aw_callFn F rfl rfl W.lim (by omega) (binds := [("span", v), ("begins", u), ("ends", w)]) (fun s hk => kp_binds frag0 fun S => by rfl) (by rfl) rfl rfl (by rfl) fun A' g' fr' E' hd hu' hh' hF => ?_
  rw [hh] at hh'
  unfold bindLoc bindLoc bindLoc bindLoc
  rw [hv, hu, hw]
  clear F
  refine aw_execs_cons ?_
  repeat' walk_at "kl"
  refine call_range2 fun r hr => comp_map (rangeL lo hi) (fun v => [.int v 0]) (fun v => iv (cov bss ess 0 v)) (it_range hh' hr (by omega) (by omega) ⟨rfl, by simp [rangeL]; omega, ?elt, ?done⟩)
  case elt =>
    intro x hx g₃ fr₃ E₃ hF₃
    dsimp only [tgtNames, setAll]
    repeat' walk_at "kl"
    exact ⟨rfl, Sub.rfl, rfl⟩
  case done =>
    intro D hD
    repeat' walk_at "kl"
    refine call_len_list' (by rw [hset_of hD hb.1]) (by rw [List.length_map, hb.2.1, sizeLine_eq]; omega) ?_
    repeat' walk_at "kl"
    refine call_range1 fun r hr => it_range hh' hr (by decide) (by rw [List.length_map, hb.2.1]; omega) ⟨fun k l p => Sub hp p ∧ l "span" = some (.ref sp) ∧ l "begins" = some (.ref bg) ∧ l "ends" = some (.ref en) ∧ (∃ c, l "covers" = some (.ref c) ∧ p c = some (.list ((rangeL lo hi).map fun v => iv (cov bss ess k v)))) ∧ ∀ j, j < k → ¬ FitsL bss ess lo hi j, ⟨Sub.set hD, ?_, ?_, ?_, ⟨D, ?_, hset_eq ..⟩, fun j h => absurd h (Nat.not_lt_zero _)⟩, fun i l p _ => trivial, ?turn, ?fin⟩
    · walk_at "loc"
    · walk_at "loc"
    · walk_at "loc"
    · walk_at "loc"
    case fin =>
      rintro l p g₂ E₂ ⟨hs, e1, e2, e3, _, e4⟩
      rw [rangeL_len, List.length_map, hb.2.1] at e4
      repeat' walk_at "kl"
      exact hno _ (fun j hj => e4 j (by omega)) hs
    case turn =>
      rintro i vs l p g₂ E₂ hvs ⟨hs, e1, e2, e3, ⟨c, ec, hc⟩, e4⟩
      obtain ⟨hi11, rfl⟩ := rangeL_get hvs
      rw [List.length_map, hb.2.1] at hi11
      rw [Int.zero_add] at hi11 ⊢
      have hib : i < bss.length := by omega
      have hsp' := hs _ _ hsp
      have hb' := hb.mono hs
      have he' := he.mono hs
      dsimp only [tgtNames, setAll]
      repeat' walk_at "kl"
      refine call_range2 fun r hr => comp_map (rangeL lo hi) (fun v => [.int v 0]) (fun v => iv ((bisL (bss.getD i []) (v + 1) : Int) - bisR (ess.getD i []) v)) (it_range hh' hr (by omega) (by omega) ⟨rfl, by simp [rangeL]; omega, ?elt2, ?done2⟩)
      case elt2 =>
        intro x hx g₃ fr₃ E₃ hF₃
        dsimp only [tgtNames, setAll]
        repeat' walk_at "kl"
        refine sub_rows (by intro _ _; with_unfolding_all rfl) hb' (by omega) (by omega) (by omega) fun T hT hpT => ?_
        repeat' walk_at "kl"
        obtain ⟨q1, q2⟩ := hbs _ (getD_mem' (rows := bss) (k := i) hib)
        obtain ⟨q3, q4⟩ := hes _ (getD_mem' (rows := ess) (k := i) (by omega))
        rw [Int.toNat_natCast] at hpT
        refine bisect_left_ok W (by omega) hpT (by omega) q2 ?_
        repeat' walk_at "kl"
        refine sub_rows (by intro _ _; with_unfolding_all rfl) he' (by omega) (by omega) (by omega) fun U hU hpU => ?_
        repeat' walk_at "kl"
        rw [Int.toNat_natCast] at hpU
        refine bisect_right_ok W (by omega) hpU (by omega) q4 ?_
        repeat' walk_at "kl"
        exact ⟨rfl, Sub.rfl, rfl⟩
      case done2 =>
        intro D2 hD2
        repeat' walk_at "kl"
        refine onCall_mono (it_zipints hh' (hset_of hD2 hc) (hset_eq _ _ _) ?zz) fun v l p hz => comp_map (rangeL lo hi) (fun v => [iv (cov bss ess i v), iv ((bisL (bss.getD i []) (v + 1) : Int) - bisR (ess.getD i []) v)]) (fun v => iv (cov bss ess (i + 1) v)) hz
        case zz =>
          refine ⟨rfl, by simp [rangeL]; omega, ?elt3, ?done3⟩
          case elt3 =>
            intro x hx g₃ fr₃ E₃ hF₃
            dsimp only [tgtNames, setAll]
            repeat' walk_at "kl"
            exact ⟨rfl, Sub.rfl, rfl⟩
          case done3 =>
            intro D3 hD3
            repeat' walk_at "kl"
            refine call_max (ns := (rangeL lo hi).map fun v => cov bss ess (i + 1) v) hh' (by rw [hset_eq, List.map_map]; rfl) ?_ fun M hM hMx => ?_
            · intro e
              have := List.map_eq_nil_iff.mp e
              have h2 : (lo : Int) ∈ rangeL lo hi := mem_rangeL.mpr ⟨by omega, by omega⟩
              rw [this] at h2; cases h2
            repeat' walk_at "kl"
            have hfits : FitsL bss ess lo hi i ↔ M ≤ (i : Int) := by
              constructor
              · intro hf
                obtain ⟨v, hv, rfl⟩ := List.mem_map.mp hM
                obtain ⟨h1, h2⟩ := mem_rangeL.mp hv
                have := hf v.toNat (by omega) (by omega)
                rwa [show ((v.toNat : Nat) : Int) = v by omega] at this
              · intro hle a ha hb
                have := hMx _ (List.mem_map.mpr ⟨(a : Int), mem_rangeL.mpr ⟨by omega, by omega⟩, rfl⟩)
                omega
            have hsD := hs.trans ((Sub.set (o := .list ((rangeL lo hi).map fun v => iv ((bisL (bss.getD i []) (v + 1) : Int) - bisR (ess.getD i []) v))) hD2).trans (Sub.set (o := .list ((rangeL lo hi).map fun v => iv (cov bss ess (i + 1) v))) hD3))
            have hcv := hset_eq (hset p D2 (.list ((rangeL lo hi).map fun v => iv ((bisL (bss.getD i []) (v + 1) : Int) - bisR (ess.getD i []) v)))) D3 (.list ((rangeL lo hi).map fun v => iv (cov bss ess (i + 1) v)))
            by_cases hfit : M ≤ (i : Int)
            · rw [if_pos (by simpa using hfit)]
              generalize hset (hset p D2 _) D3 _ = p₁ at hsD hcv ⊢
              have hsp₁ := hsD _ _ hsp
              have hb₁ := hb.mono hsD
              have he₁ := he.mono hsD
              obtain ⟨q1, q2⟩ := hbs _ (getD_mem' (rows := bss) (k := i) hib)
              obtain ⟨q3, q4⟩ := hes _ (getD_mem' (rows := ess) (k := i) (by omega))
              repeat' walk_at "kl"
              refine sub_rows (by intro _ _; with_unfolding_all rfl) hb₁ (by omega) (by omega) (by omega) fun T hT hpT => ?_
              rw [Int.toNat_natCast] at hpT hT
              repeat' walk_at "kl"
              refine insort_left_ok W (by omega) hpT (by omega) q2 ⟨rfl, ?_⟩
              rw [insL_ints]
              have hTe : T ∉ ets := hdis T (List.mem_of_getElem? hT)
              have hb₂ := hb₁.upd hT (insI (bss.getD i []) (bisL (bss.getD i []) lo) lo)
              have he₂ := he₁.other (o := .list ((insI (bss.getD i []) (bisL (bss.getD i []) lo) lo).map iv)) hpT hTe (by rintro rfl; rw [List.length_nil] at hlen; omega)
              have hspT : sp ≠ T := by rintro rfl; rw [hsp₁] at hpT; cases hpT
              have hsp₂ : hset p₁ T (.list ((insI (bss.getD i []) (bisL (bss.getD i []) lo) lo).map iv)) sp = some (.tuple [iv lo, iv hi]) := by rw [hset_ne _ _ hspT]; exact hsp₁
              have hkeep : ∀ b o, b ∉ bts → b ∉ ets → hp b = some o → hset p₁ T (.list ((insI (bss.getD i []) (bisL (bss.getD i []) lo) lo).map iv)) b = some o := fun b o h1 h2 e => by
                rw [hset_ne _ _ (by rintro rfl; exact h1 (List.mem_of_getElem? hT))]
                exact hsD _ _ e
              generalize hset p₁ T _ = p₂ at hb₂ he₂ hsp₂ hkeep ⊢
              repeat' walk_at "kl"
              refine sub_rows (by intro _ _; with_unfolding_all rfl) he₂ (by omega) (by omega) (by omega) fun U hU hpU => ?_
              rw [Int.toNat_natCast] at hpU hU
              repeat' walk_at "kl"
              refine insort_right_ok W (by omega) hpU (by omega) q4 ⟨rfl, ?_⟩
              rw [insL_ints]
              have hUb : U ∉ bts := fun h => hdis U h (List.mem_of_getElem? hU)
              have he₃ := he₂.upd hU (insI (ess.getD i []) (bisR (ess.getD i []) hi) hi)
              have hb₃ := hb₂.other (o := .list ((insI (ess.getD i []) (bisR (ess.getD i []) hi) hi).map iv)) hpU hUb (by intro e; have := congrArg List.length e; rw [List.length_set, List.length_nil] at this; omega)
              repeat' walk_at "kl"
              refine hyes i _ hib (hfits.mpr hfit) e4 hb₃ he₃ fun b o h1 h2 e => ?_
              rw [hset_ne _ _ (by rintro rfl; exact h2 (List.mem_of_getElem? hU))]
              exact hkeep b o h1 h2 e
            · rw [if_neg (by simpa using hfit)]
              repeat' walk_at "kl"
              refine ⟨hsD, ?_, ?_, ?_, ⟨D3, ?_, hcv⟩, fun j hj => ?_⟩
              · walk_at "loc"
              · walk_at "loc"
              · walk_at "loc"
              · walk_at "loc"
              · rcases Nat.lt_or_ge j i with h | h
                · exact e4 j h
                · have : j = i := by omega
                  subst this
                  exact fun hf => hfit (hfits.mp hf)
end Mine
end
section
namespace Mine
section
variable {α : Type} {C : Cx} {A : Around} {g : Heap} {fr : Fm} {E : Value → Shared → Prop} {loc : LOC} {hp : HP} {sc : Scope} {ow : Str → Bool} {scope : Scope}
/-! ### 'x, y = ..' -/
def mkEnv (sc : Scope) : Env := { (default : Env) with scope := sc }
theorem swapped_eq (F : FrOf fr sc ow) {targets : List Expr} {value : Expr} : swappedStores targets value fr.env = swappedStores targets value (mkEnv sc) := by
  unfold swappedStores
  unfold Env.blockKind Env.kindOf
  rw [F.scope]; rfl
theorem lset_comm {l : LOC} {x y : Str} {a b : Value} (h : x ≠ y) : lset (lset l x a) y b = lset (lset l y b) x a := by
  funext z; unfold lset
  by_cases h1 : z = y
  · subst h1; simp [h.symm]
  · simp [h1]
theorem aw_unpack2 (hh : A.handled = none) {T : Addr} {a b : Value} {Q : List Value → LOC → HP → Prop} (hT : hp T = some (.tuple [a, b])) (h : ∀ u v, nm u = a → nm v = b → Q [u, v] loc hp) :
    aw C A g fr E (unpackItems (.ref T) 2 none) loc hp Q := fun s R S => by
  obtain ⟨vs, n, e, q⟩ := R.tuple hT
  have h1 : vs.toList.length = 2 := by simpa using congrArg List.length q
  match hv : vs.toList, h1 with
  | [u, v], _ =>
    rw [hv] at q
    injection q with q1 q2
    injection q2 with q2 _
    have h2 : vs.size = 2 := by rw [← Array.length_toList, hv]; rfl
    rw [← h2]
    refine wpAny_unpackItems_tuple hh (items := vs) ⟨_, e, rfl, n, rfl⟩ fun h' hx' => ?_
    rw [hv]
    exact ⟨S, loc, hp, R.keeps (h' := h') fun b o e => hx' b o (Nat.ne_of_lt (Heap.lt_size e)) e, h u v q1 q2⟩
theorem aw_AssignPair (hh : A.handled = none) (F : FrOf fr sc ow) {x y : Str} {px py tp pos : Pos} {k} {value : Expr} {o : Option (List Str)} {Q : Flow → LOC → HP → Prop}
    (hs : swapsWithSole [.Tuple [.Name x px, .Name y py] k tp] value pos.line fr.env = pure false)
    (hw : swappedStores [.Tuple [.Name x px, .Name y py] k tp] value (mkEnv sc) = pure o) (ho : o = none ∨ o = some [x, y]) (hxy : x ≠ y) (hx : Sto fr x) (hy : Sto fr y)
    (h : awv C A g fr E (eval value fr.env) loc hp fun v l p => ∃ T a b, v = .ref T ∧ p T = some (.tuple [a, b]) ∧ Q .next (lset (lset l x a) y b) p) :
    awf C A g fr E (exec (.Assign [.Tuple [.Name x px, .Name y py] k tp] value pos) fr.env) loc hp Q := by
  refine aw_congr (PySem.exec_Assign_arm ..) (aw_bind (aw_standAt ?_))
  rw [hs]
  refine aw_bind (aw_pure ?_)
  rw [if_neg (by decide)]
  refine aw_bind (aw_mono h fun v l p ⟨T, a, b, e, hT, hQ⟩ => ?_)
  rw [swapped_eq F, hw]
  refine aw_bind (aw_pure ?_)
  have := nm_ref e; subst this
  rcases ho with rfl | rfl
  · show aw C A g fr E (do assignAll (.ref T) [assign (.Tuple [.Name x px, .Name y py] k tp) fr.env]; pure Flow.next) l p _
    exact aw_bind (show aw C A g fr E (assign (.Tuple [.Name x px, .Name y py] k tp) fr.env (.ref T)) l p _ from aw_assignPair hh hT hx hy (aw_pure (a := Flow.next) hQ))
  · show aw C A g fr E (do rule "assign.swapped-stores"; let items ← unpackItems (.ref T) 2 none; assignInOrder ([y, x].map fun n => bindName fr.env n) items.reverse; pure Flow.next) l p _
    refine aw_bind (aw_rule (aw_bind (aw_unpack2 hh hT fun u v eu ev => aw_bind ?_)))
    show aw C A g fr E (do holding [u] (bindName fr.env y v); do holding [] (bindName fr.env x u); pure ()) l p _
    refine aw_bind (aw_holding (aw_bindName hy (aw_bind (aw_holding (aw_bindName hx (aw_pure (aw_pure (a := Flow.next) ?_)))))))
    rw [eu, ev, lset_comm hxy.symm]
    exact hQ
theorem aw_AssignPairN (hh : A.handled = none) (F : FrOf fr sc ow) {x y : Str} {px py tp pos : Pos} {k} {value : Expr} {Q : Flow → LOC → HP → Prop}
    (hs : swapsWithSole [.Tuple [.Name x px, .Name y py] k tp] value pos.line fr.env = pure false)
    (hw : swappedStores [.Tuple [.Name x px, .Name y py] k tp] value (mkEnv sc) = pure none) (hxy : x ≠ y) (hx : Sto fr x) (hy : Sto fr y)
    (h : awv C A g fr E (eval value fr.env) loc hp fun v l p => ∃ T a b, v = .ref T ∧ p T = some (.tuple [a, b]) ∧ Q .next (lset (lset l x a) y b) p) :
    awf C A g fr E (exec (.Assign [.Tuple [.Name x px, .Name y py] k tp] value pos) fr.env) loc hp Q := aw_AssignPair hh F hs hw (.inl rfl) hxy hx hy h
theorem aw_AssignPairS (hh : A.handled = none) (F : FrOf fr sc ow) {x y : Str} {px py tp pos : Pos} {k} {value : Expr} {Q : Flow → LOC → HP → Prop}
    (hs : swapsWithSole [.Tuple [.Name x px, .Name y py] k tp] value pos.line fr.env = pure false)
    (hw : swappedStores [.Tuple [.Name x px, .Name y py] k tp] value (mkEnv sc) = pure (some [x, y])) (hxy : x ≠ y) (hx : Sto fr x) (hy : Sto fr y)
    (h : awv C A g fr E (eval value fr.env) loc hp fun v l p => ∃ T a b, v = .ref T ∧ p T = some (.tuple [a, b]) ∧ Q .next (lset (lset l x a) y b) p) :
    awf C A g fr E (exec (.Assign [.Tuple [.Name x px, .Name y py] k tp] value pos) fr.env) loc hp Q := aw_AssignPair hh F hs hw (.inr rfl) hxy hx hy h
end
def Pairs (p : HP) (a : Addr) (ts : List Addr) (ps : List (Nat × Nat)) : Prop :=
  p a = some (.list (ts.map .ref)) ∧ ts.length = ps.length ∧ ∀ (k : Nat) (T : Addr) (v : Nat × Nat), ts[k]? = some T → ps[k]? = some v → p T = some (.tuple [iv v.1, iv v.2])
theorem Pairs.mono {p p' : HP} {a : Addr} {ts : List Addr} {ps : List (Nat × Nat)} (h : Pairs p a ts ps) (hs : Sub p p') : Pairs p' a ts ps :=
  ⟨hs _ _ h.1, h.2.1, fun k T r e1 e2 => hs _ _ (h.2.2 k T r e1 e2)⟩
section
variable {C : Cx} {A : Around} {g : Heap} {fr : Fm} {E : Value → Shared → Prop} {loc : LOC} {hp : HP}
theorem it_Pairs (hh : A.handled = none) {a : Addr} {ts : List Addr} {ps : List (Nat × Nat)} {x y : Str} {px py pos : Pos} {k} {K : List (List Value) → (HP → Prop) → LOC → HP → Prop} (hP : Pairs hp a ts ps)
    (h : ∀ need : HP → Prop, (∀ p', Sub hp p' → need p') → K (ps.map fun v => [iv v.1, iv v.2]) need loc hp) :
    onIt C A (.Tuple [.Name x px, .Name y py] k pos) [x, y] (.ref a) loc hp K := by
  have hts : ∀ (p : HP), Pairs p a ts ps → ∀ (i : Nat) (T : Addr) (v : Value × Value), ts[i]? = some T → (ps.map fun v => (iv v.1, iv v.2))[i]? = some v → p T = some (.tuple [v.1, v.2]) := fun p hP i T v e1 e2 => by
    rw [List.getElem?_map] at e2
    obtain ⟨w, hw, rfl⟩ := Option.map_eq_some_iff.mp e2
    exact hP.2.2 i T w e1 hw
  have := it_pairs (C := C) (loc := loc) (x := x) (y := y) (px := px) (py := py) (pos := pos) (k := k) (K := K) hh (ps := ps.map fun v => (iv v.1, iv v.2)) hP.1 (by rw [List.length_map]; exact hP.2.1) (hts hp hP)
    (by
      rw [List.map_map]
      exact h _ fun p' hs => ⟨hs _ _ hP.1, by rw [List.length_map]; exact hP.2.1, hts p' (hP.mono hs)⟩)
  exact this
theorem sub_Pairs {value slice : Expr} {l : Addr} {i : Int} {ts : List Addr} {ps : List (Nat × Nat)} {Q : Value → LOC → HP → Prop} (hs : ∀ o j, subscripted slice false o j = operate [o, j] (getItem o j))
    (hP : Pairs hp l ts ps) (h0 : 0 ≤ i) (hi : i < ps.length) (hsz : ps.length ≤ 100000) (h : ∀ T, ts[i.toNat]? = some T → hp T = some (.tuple [iv (ps.getD i.toNat (0, 0)).1, iv (ps.getD i.toNat (0, 0)).2]) → Q (.ref T) loc hp) :
    ov2 C A g fr E (subscriptTail value slice) (.ref l) (.int i 0) loc hp Q := by
  have hk : i.toNat < ts.length := by rw [hP.2.1]; omega
  have hk' : i.toNat < ps.length := by omega
  have e : ps.getD i.toNat (0, 0) = ps[i.toNat] := by rw [List.getD_eq_getElem?_getD, List.getElem?_eq_getElem hk']; rfl
  exact sub_list hs hP.1 h0 (by omega) (by rw [List.getElem?_map, List.getElem?_eq_getElem hk]; rfl) (h _ (List.getElem?_eq_getElem hk) (by rw [e]; exact hP.2.2 _ _ _ (List.getElem?_eq_getElem hk) (List.getElem?_eq_getElem hk')))
theorem sub_int {value slice : Expr} {l : Addr} {i : Int} {ys : List Int} {Q : Value → LOC → HP → Prop} (hs : ∀ o j, subscripted slice false o j = operate [o, j] (getItem o j)) (hl : hp l = some (.list (ys.map iv))) (h0 : 0 ≤ i) (hi : i < ys.length) (hsz : ys.length ≤ 100000)
    (h : Q (iv (ys.getD i.toNat 0)) loc hp) : ov2 C A g fr E (subscriptTail value slice) (.ref l) (.int i 0) loc hp Q := by
  have hk : i.toNat < ys.length := by omega
  exact sub_list hs hl h0 (by omega) (by rw [List.getElem?_map, List.getElem?_eq_getElem hk]; rfl) (by rw [List.getD_eq_getElem?_getD, List.getElem?_eq_getElem hk] at h; exact h)
theorem cop_eqb {a b : Int} {Q : Value → LOC → HP → Prop} (h : Q (.bool (decide (a = b))) loc hp) : ov2 C A g fr E (compareOp .Eq) (.int a 0) (.int b 0) loc hp Q := cop_eq (by rw [show (a == b) = decide (a = b) from rfl]; exact h)
theorem cop_neb {a b : Int} {Q : Value → LOC → HP → Prop} (h : Q (.bool (decide (a ≠ b))) loc hp) : ov2 C A g fr E (compareOp .NotEq) (.int a 0) (.int b 0) loc hp Q := cop_ne (by
  have : (a != b) = decide (a ≠ b) := by by_cases e : a = b <;> simp [e]
  rw [this]; exact h)
end
end Mine
end
section
namespace Mine
section
variable {α : Type} {C : Cx} {A : Around} {g : Heap} {fr : Fm} {E : Value → Shared → Prop} {loc : LOC} {hp : HP} {sc : Scope} {ow : Str → Bool} {scope : Scope}
theorem comp_newF {β : Type} {target elt c : Expr} {names : List Str} {x : Value} {Q : Value → LOC → HP → Prop} (xs : List β) (m : β → List Value) (P : β → Bool) (F : β → AO)
    (h : onIt C A target names x loc hp fun vss need l p => vss = xs.map m ∧ xs.length ≤ 100000 ∧ (∀ p', Sub p p' → need p') ∧
      (∀ x ∈ xs, ∀ g' fr' E' p', FrOf fr' (relabelS scope sc) (ownS scope) → Sub p p' → aw C A g' fr' E' (isTrue c fr'.env (eval c fr'.env)) (setAll names (m x) (compLoc scope l)) p' fun b l' p'' => l' = setAll names (m x) (compLoc scope l) ∧ p'' = p' ∧ b = P x ∧
        (P x = true → ∀ g'' E'', awv C A g'' fr' E'' (eval elt fr'.env) (setAll names (m x) (compLoc scope l)) p' fun y l'' p'' => l'' = setAll names (m x) (compLoc scope l) ∧ ∃ T, y = .ref T ∧ p' T = none ∧ Sub p' p'' ∧ p'' T = some (F x))) ∧
      ∀ D (ts : List Addr) p', ts.length = (xs.filter P).length → ts.Nodup → (∀ (k : Nat) (T : Addr) (x : β), ts[k]? = some T → (xs.filter P)[k]? = some x → p' T = some (F x)) → (∀ T ∈ ts, p T = none) → Sub p p' → p' D = none → Q (.ref D) l (hset p' D (.list (ts.map .ref)))) :
    CompTo C A fr sc scope target elt [c] names x loc hp Q := by
  obtain ⟨vss, need, r₁, p₀, a, hnd, cc, d, rfl, h1, h0, h2, h3⟩ := h
  refine ⟨_, need, r₁, p₀, a, hnd, cc, d, by rwa [List.length_map], fun i ys p => Sub p₀ p ∧ i ≤ xs.length ∧ ∃ ts : List Addr, ys = ts.map .ref ∧ ts.length = ((xs.take i).filter P).length ∧ ts.Nodup ∧ (∀ T ∈ ts, p₀ T = none ∧ p T ≠ none) ∧ ∀ (k : Nat) (T : Addr) (x : β), ts[k]? = some T → ((xs.take i).filter P)[k]? = some x → p T = some (F x),
    ⟨Sub.rfl, Nat.zero_le _, [], rfl, rfl, List.nodup_nil, (fun T h => by cases h), fun k T x e => by cases e⟩, fun i ys p e => h0 p e.1, ?_, ?_⟩
  · rintro i vs ys p g' fr' E' hv ⟨hs, hi, ts, rfl, hl, hnod, hp0, hts⟩ hF
    rw [List.getElem?_map] at hv
    obtain ⟨x, hx, rfl⟩ := Option.map_eq_some_iff.mp hv
    refine aw_mono (h2 x (List.mem_of_getElem? hx) g' fr' E' p hF hs) fun b l' p' ⟨e1, e2, e3, e4⟩ => ?_
    subst e1; subst e2; subst e3
    intro g'' E''
    have htk := take_succ_filter P xs i x hx
    cases hP : P x with
    | false =>
      rw [if_neg (by decide)]
      rw [hP] at htk
      simp only [Bool.false_eq_true, if_false, List.append_nil] at htk
      exact ⟨rfl, hs, (List.getElem?_eq_some_iff.mp hx).1, ts, rfl, by rw [htk]; exact hl, hnod, hp0, by rw [htk]; exact hts⟩
    | true =>
      rw [if_pos rfl]
      rw [hP] at htk
      simp only [if_true] at htk
      refine aw_mono (e4 hP g'' E'') fun y l'' p'' ⟨e1, T, e2, e3, e4, e5⟩ => ⟨e1, hs.trans e4, (List.getElem?_eq_some_iff.mp hx).1, ts ++ [T], ?_, by rw [htk]; simp [hl], ?_, ?_, ?_⟩
      · rw [e2]; simp
      · refine List.nodup_append.mpr ⟨hnod, by simp, fun u hu v hv' => ?_⟩
        rcases List.mem_cons.mp hv' with rfl | h
        · rintro rfl; exact (hp0 u hu).2 e3
        · cases h
      · intro U hU
        rcases List.mem_append.mp hU with h | h
        · refine ⟨(hp0 U h).1, fun e => (hp0 U h).2 (e4.none e)⟩
        · rcases List.mem_cons.mp h with rfl | h
          · exact ⟨hs.none e3, by rw [e5]; exact fun e => nomatch e⟩
          · cases h
      · intro k U y' hk hw
        rw [htk] at hw
        rcases Nat.lt_or_ge k ts.length with q | q
        · rw [List.getElem?_append_left q] at hk
          rw [List.getElem?_append_left (by omega)] at hw
          exact e4 _ _ (hts k U y' hk hw)
        · rw [List.getElem?_append_right q] at hk
          rw [List.getElem?_append_right (by omega)] at hw
          have hk0 : k - ts.length = 0 := by
            have := (List.getElem?_eq_some_iff.mp hk).1
            simp at this; omega
          rw [hk0] at hk
          rw [← hl, hk0] at hw
          cases hk; cases hw
          exact e5
  · rintro D ys p ⟨hs, hi, ts, rfl, hl, hnod, hp0, hts⟩ hD
    rw [List.length_map, List.take_length] at hl hts
    exact h3 D ts p hl hnod hts (fun T h => (hp0 T h).1) hs hD
/-! ### strs -/
theorem c_chr {i : Int} {Q : Value → LOC → HP → Prop} (h0 : 0 ≤ i) (h1 : i ≤ 1000) (h : Q (.str ⟨#[i.toNat]⟩ 0) loc hp) : onCall C A g fr E (.builtin "chr") [.int i 0] [] loc hp Q := onCall1 fun v hv => by
  obtain ⟨t, rfl⟩ := nm_int hv
  exact fun s R S => chr_of_range h0 (by omega) ⟨S, loc, hp, R, h⟩
theorem op_iaddS {x y : Str} {Q : Value → LOC → HP → Prop} (hsz : x.length + y.length ≤ 100000) (h : Q (.str (x ++ y) 0) loc hp) : ov2 C A g fr E (inplaceOp .Add) (.str x 0) (.str y 0) loc hp Q := by
  intro a b ha hb; obtain ⟨t, rfl⟩ := nm_str ha; obtain ⟨u, rfl⟩ := nm_str hb
  exact fun s R S => PyProof.Rows.iadd_str (fun t' tk => ⟨S, loc, hp, R, h⟩) (by rw [sizeLine_eq]; omega)
theorem call_len_str {x : Str} {Q : Value → LOC → HP → Prop} (hsz : x.length ≤ 1000000) (h : Q (.int x.length 0) loc hp) : onCall C A g fr E (.builtin "len") [.str x 0] [] loc hp Q := onCall1 fun v hv => by
  obtain ⟨t, rfl⟩ := nm_str hv
  exact fun s R S => P.len_str (by omega) ⟨S, loc, hp, R, h⟩
def reps (n : Int) (c : Nat) : Str := ⟨(List.replicate n.toNat c).toArray⟩
theorem foldl_reps (c : Nat) : ∀ (k : Nat) (acc : Array Nat), (List.replicate k (#[c] : Array Nat)).foldl (· ++ ·) acc = acc ++ (List.replicate k c).toArray
  | 0, acc => by simp
  | k + 1, acc => by
    rw [List.replicate_succ, List.foldl_cons, foldl_reps c k, List.replicate_succ]
    apply Array.toList_inj.mp
    simp
theorem op_mulS {c : Nat} {n : Int} {Q : Value → LOC → HP → Prop} (hn : -100000 ≤ n) (hn' : n ≤ 100000) (h : Q (.str (reps n c) 0) loc hp) : ov2 C A g fr E (binaryOp .Mult) (.str ⟨#[c]⟩ 0) (.int n 0) loc hp Q := by
  intro a b ha hb; obtain ⟨t, rfl⟩ := nm_str ha; obtain ⟨u, rfl⟩ := nm_int hb
  intro s R S
  have hl : (⟨#[c]⟩ : Str).length = 1 := rfl
  have fin : ∀ v tk, nm v = .str (reps n c) 0 → (fun v s' => Sok C s' ∧ ∃ loc' hp', Rep C.H₀ g fr loc' hp' s'.heap ∧ Q (nm v) loc' hp') v { s with toks := tk } := fun v tk e => ⟨S, loc, hp, R, by rw [e]; exact h⟩
  refine P.mul_str ?_ (fun h1 _ => ?_) (fun h1 _ => ?_) ?_
  · rw [decide_eq_false (by omega), decide_eq_false (by omega)]; rfl
  · rw [hl]
    have h2 : 1 ≤ (2 ^ 63 - 1) / n := (Int.le_ediv_iff_mul_le (by omega)).mpr (by omega)
    omega
  · rw [hl]
    unfold Builtin.Str.tooLong
    simp only [decide_eq_false_iff_not]
    have := sizeLine_eq
    omega
  · split
    · refine ⟨by decide, fin _ _ ?_⟩
      unfold reps
      rw [show n.toNat = 0 by omega]; rfl
    · split
      · rename_i h1 h2
        rw [hl] at h2
        have h3 : n = 1 := by simpa using h2
        refine fin _ s.toks ?_
        subst h3; rfl
      · rename_i h1 h2
        have e : (⟨(List.replicate n.toNat (⟨#[c]⟩ : Str).cps).foldl (· ++ ·) #[]⟩ : Str) = reps n c := by
          unfold reps
          rw [foldl_reps c n.toNat #[]]
          simp
        rw [e]
        refine ⟨?_, fin _ _ rfl⟩
        show (reps n c).cps.size ≤ sizeLine
        unfold reps
        rw [sizeLine_eq]
        simp; omega
end
end Mine
end
end
section
local macro_rules | `(tactic| walk_at "loc") => `(tactic| (try simp only [setAll]) <;> (repeat' (first | exact lset_eq | (refine' compLoc_of (by rfl) ?_) | (refine' lset_ne (by decide) ?_) | (show (_ : Option Value) = some _; assumption))))
local macro_rules | `(tactic| walk_at "sto") => `(tactic| (first | exact FrOf.stoL (by assumption) (by rfl) | exact FrOf.stoC (by assumption) (by rfl) (by rfl)))
local macro_rules | `(tactic| walk_at "hp") => `(tactic| (repeat' (first | assumption | exact hset_eq _ _ _ | (refine' hset_of (by assumption) ?_))))
local macro_rules | `(tactic| walk_at "kl") => `(tactic| (first
  | with_reducible refine aw_execs_nil ?_
  | with_reducible refine aw_execs_cons ?_
  | with_reducible refine aw_If ?_
  | with_reducible refine aw_Return ?_
  | ((with_reducible refine aw_AssignComp (by assumption) ?kx ?k1 ?k2 ?k3 ?_); (case kx => walk_at "sto"); (case k1 => rfl); (case k2 => (intro _; rfl)); (case k3 => rfl))
  | ((with_reducible refine aw_AssignName ?ks ?kx ?_); (case ks => with_unfolding_all rfl); (case kx => walk_at "sto"))
  | ((with_reducible refine' aw_AugAssignName ?kk ?kl ?kc ?kx ?_); (case kk => exact FrOf.k (by assumption)); (case kc => decide); (case kx => walk_at "sto"); (case kl => walk_at "loc"))
  | ((with_reducible refine' aw_Name ?kk ?kl ?_ ?k1 ?k2); (case kk => exact FrOf.k (by assumption)); (case k1 => decide); (case k2 => decide); (case kl => walk_at "loc"))
  | ((with_reducible refine' aw_Glob ?kk ?kg ?kb ?kx ?kG ?_ ?k1 ?kn); (case kk => exact FrOf.k (by assumption)); (case kg => exact FrOf.glob (by assumption)); (case kb => exact FrOf.bi (by assumption)); (case k1 => decide); (case kG => assumption); (case kn => rfl); (case kx => exact FrOf.kindOf (by assumption) (by rfl)))
  | ((with_reducible refine aw_ListComp' (by assumption) ?k1 ?k2 ?k3 ?_); (case k1 => rfl); (case k2 => (intro _; rfl)); (case k3 => rfl))
  | ((with_reducible refine awf_For' (by assumption) ?k2 ?k3 ?_); (case k2 => (intro _; rfl)); (case k3 => rfl))
  | ((with_reducible refine aw_List ?k1 ?_); (case k1 => rfl))
  | ((with_reducible refine aw_Tuple ?k1 ?_); (case k1 => rfl))
  | ((with_reducible refine aw_ExprF (by assumption) ?k2 ?_); (case k2 => with_unfolding_all rfl))
  | ((with_reducible refine aw_CallMeth ?k1 ?k2 ?k3 ?k4 ?_); (case k1 => with_unfolding_all rfl); (case k2 => rfl); (case k3 => decide); (case k4 => rfl))
  | ((with_reducible refine' sub_tuple ?k1 ?k2 ?k3 ?k4 ?k5 ?_); (case k1 => (intro _ _; with_unfolding_all rfl)); (case k2 => (walk_at "hp"; done)); (case k3 => decide); (case k4 => decide); (case k5 => rfl))
  | with_reducible refine aw_int ?_
  | with_reducible refine aw_none ?_
  | with_reducible refine aw_bool ?_
  | with_reducible refine aw_str ?_
  | with_reducible refine aw_BinOp ?_
  | with_reducible refine aw_UnaryOp ?_
  | with_reducible refine op_neg ?_
  | with_reducible refine op_and ?_
  | with_reducible refine op_ixor ?_
  | with_reducible refine op_ior ?_
  | with_reducible refine op_add ?_
  | with_reducible refine op_sub ?_
  | with_reducible refine op_iadd ?_
  | ((with_reducible refine op_div ?k1 ?k2 ?_); (case k1 => decide); (case k2 => decide))
  | ((with_reducible refine op_mod ?k1 ?_); (case k1 => decide))
  | ((with_reducible refine aw_isTrue_cmp1 ?k1 ?_); (case k1 => with_unfolding_all rfl))
  | ((with_reducible refine aw_Compare1 ?k1 ?_); (case k1 => with_unfolding_all rfl))
  | with_reducible refine cop_lt ⟨_, rfl, ?_⟩
  | with_reducible refine cop_le ⟨_, rfl, ?_⟩
  | with_reducible refine cop_isNone ⟨_, rfl, ?_⟩
  | with_reducible refine cop_eqb ⟨_, rfl, ?_⟩
  | with_reducible refine cop_neb ⟨_, rfl, ?_⟩
  | with_reducible refine cop_lt ?_
  | with_reducible refine cop_le ?_
  | with_reducible refine cop_isNone ?_
  | with_reducible refine cop_eqb ?_
  | with_reducible refine cop_neb ?_
  | with_reducible refine aw_isTrue_and2 ?_
  | with_reducible refine aw_isTrue_or2 ?_
  | with_reducible refine aw_isTrue_not ?_
  | with_reducible refine aw_IfExp ?_
  | ((with_reducible refine aw_isTrue_cmp2 ?k1 ?k2 ?_ ?k3); (case k1 => with_unfolding_all rfl); (case k2 => with_unfolding_all rfl); (case k3 => rfl))
  | ((with_reducible refine aw_AssignPairN (by assumption) (by assumption) ?ks ?kw ?kn ?kx ?ky ?_); (case ks => rfl); (case kw => with_unfolding_all rfl); (case kn => decide); (case kx => walk_at "sto"); (case ky => walk_at "sto"))
  | ((with_reducible refine aw_AssignPairS (by assumption) (by assumption) ?ks ?kw ?kn ?kx ?ky ?_); (case ks => rfl); (case kw => with_unfolding_all rfl); (case kn => decide); (case kx => walk_at "sto"); (case ky => walk_at "sto"))
  | ((with_reducible refine aw_isTrue_val ?k1 ?_); (case k1 => with_unfolding_all rfl))
  | with_reducible refine t_int ?_
  | with_reducible refine aw_Break ?_
  | with_reducible refine aw_Pass ?_
  | ((with_reducible refine aw_Slice ?k1 ?_); (case k1 => (intro _ _; rfl)))
  | ((with_reducible refine aw_SliceStep ?k1 ?_); (case k1 => (intro _ _; rfl)))
  | with_reducible refine op_pow64 ?_
  | with_reducible refine cop_gt ⟨_, rfl, ?_⟩
  | with_reducible refine aw_Subscript ?_
  | ((with_reducible refine aw_CallName ?k1 ?k2 ?_); (case k1 => rfl); (case k2 => rfl))
  | ((with_reducible show ite _ _ _); (first | (refine (if_neg (by decide)).mpr ?_) | (refine (if_pos (by decide)).mpr ?_)))
  | with_reducible refine ce_builtin ?_
  | with_reducible refine ce_type ?_
  | with_reducible refine ce_fn (by assumption) ?_
  | (with_reducible show awArgs _ _ _ _ _ _ _ _ _; unfold awArgs)
  | (with_reducible show awKws _ _ _ _ _ _ _ _ _; unfold awKws)
  | (with_reducible show awT _ _ _ _ _ _ _ _ _; dsimp only [awT])
  | (with_reducible show awPart _ _ _ _ _ _ _ _ _; dsimp only [awPart])
  | (with_reducible show ∃ i, Value.int _ 0 = Value.int i 0 ∧ _; refine ⟨_, rfl, ?_⟩)
  | dsimp only))
section
namespace Mine
def nearL (levs : List Int) (i : Nat) : List Int := (rangeL 0 levs.length).filter fun v => decide (v ≠ (i : Int) ∧ levs.getD v.toNat 0 = levs.getD i 0)
def metL (ps : List (Nat × Nat)) (levs : List Int) (i : Nat) : List Int := (nearL levs i).filter fun v => decide ((ps.getD v.toNat (0, 0)).1 < (ps.getD i (0, 0)).2 ∧ (ps.getD i (0, 0)).1 < (ps.getD v.toNat (0, 0)).2)
theorem filterMap_if {β : Type} (P : β → Prop) [DecidablePred P] (f : β → Value) (l : List β) : (l.filterMap fun x => if P x then some (f x) else none) = (l.filter fun x => decide (P x)).map f := by
  induction l with
  | nil => rfl
  | cons a l ih =>
    rw [List.filterMap_cons, List.filter_cons]
    by_cases h : P a
    · simp [h, ih]
    · simp [h, ih]
theorem law_met_ok {C : Cx} (W : WOk C) {A : Around} {g : Heap} {fr : Fm} {E : Value → Shared → Prop} {loc : LOC} {hp : HP} {Q : Value → LOC → HP → Prop} {sps lv : Addr} {sts : List Addr} {ps : List (Nat × Nat)} {levs : List Int} {i : Nat}
    (hroom : A.depth < recursionLimit) (hh : A.handled = none) (hP : Pairs hp sps sts ps) (hl : hp lv = some (.list (levs.map iv))) (hi : i < levs.length) (hln : levs.length ≤ ps.length) (hsz : ps.length ≤ 100)
    (h : ∀ D p', Sub hp p' → p' D = some (.list ((metL ps levs i).map iv)) → Q (.ref D) loc p') :
    onCall C A g fr E (.ref 185) [iv i, .ref sps, .ref lv] [] loc hp Q := onCall3 fun v u w hv hu hw => by
  obtain ⟨pm, F⟩ := W.fMet
  have hlenG := W.len
  have hrange := W.range
  refine aw_callFn F rfl rfl W.lim (by omega) (binds := [("i", v), ("spans", u), ("levels", w)]) (fun s hk => kp_binds frag0 fun S => by rfl) (by rfl) rfl rfl (by rfl) fun A' g' fr' E' hd hu' hh' hF => ?_
  rw [hh] at hh'
  unfold bindLoc bindLoc bindLoc bindLoc
  rw [hv, hu, hw]
  clear F
  refine aw_execs_cons ?_
  repeat' walk_at "kl"
  refine sub_Pairs (by intro _ _; with_unfolding_all rfl) hP (by omega) (by omega) (by omega) fun T hT hpT => ⟨T, _, _, rfl, hpT, ?_⟩
  rw [Int.toNat_natCast]
  repeat' walk_at "kl"
  refine call_len_list' hl (by rw [List.length_map, sizeLine_eq]; omega) ?_
  repeat' walk_at "kl"
  rw [List.length_map]
  refine call_range1 fun r hr => comp_pure (rangeL 0 levs.length) (fun v => [.int v 0]) (fun v => if v ≠ (i : Int) ∧ levs.getD v.toNat 0 = levs.getD i 0 then some (iv v) else none) (it_range hh' hr (by decide) (by omega) ⟨rfl, by simp [rangeL]; omega, ?elt, ?done⟩)
  case elt =>
    intro x hx g₃ fr₃ E₃ hF₃
    obtain ⟨hx1, hx2⟩ := mem_rangeL.mp hx
    dsimp only [tgtNames, setAll]
    repeat' walk_at "kl"
    by_cases hne : x ≠ (i : Int)
    · rw [if_pos (by simpa using hne)]
      repeat' walk_at "kl"
      refine sub_int (by intro _ _; with_unfolding_all rfl) hl (by omega) (by omega) (by omega) ?_
      repeat' walk_at "kl"
      refine sub_int (by intro _ _; with_unfolding_all rfl) hl (by omega) (by omega) (by omega) ?_
      repeat' walk_at "kl"
      rw [Int.toNat_natCast]
      refine ⟨rfl, Sub.rfl, ?_⟩
      by_cases he : levs.getD x.toNat 0 = levs.getD i 0
      · rw [if_pos (by simpa using he)]
        intro g₄ E₄
        repeat' walk_at "kl"
        exact ⟨rfl, Sub.rfl, if_pos ⟨hne, he⟩⟩
      · rw [if_neg (by simpa using he)]
        exact if_neg fun h => he h.2
    · rw [if_neg (by simpa using hne)]
      refine ⟨rfl, Sub.rfl, ?_⟩
      rw [if_neg (by decide)]
      exact if_neg fun h => hne h.1
  case done =>
    intro D hD
    rw [filterMap_if (fun v : Int => v ≠ (i : Int) ∧ levs.getD v.toNat 0 = levs.getD i 0) iv]
    repeat' walk_at "kl"
    refine comp_pure (nearL levs i) (fun v => [.int v 0]) (fun v => if (ps.getD v.toNat (0, 0)).1 < (ps.getD i (0, 0)).2 ∧ (ps.getD i (0, 0)).1 < (ps.getD v.toNat (0, 0)).2 then some (iv v) else none) (it_ints hh' (hset_eq _ _ _) ⟨rfl, ?len, ?elt2, ?done2⟩)
    case len =>
      have := List.length_filter_le (fun v => decide (v ≠ (i : Int) ∧ levs.getD v.toNat 0 = levs.getD i 0)) (rangeL 0 levs.length)
      unfold nearL
      have h2 : (rangeL 0 levs.length).length ≤ 100 := by simp [rangeL]; omega
      omega
    case elt2 =>
      intro x hx g₃ fr₃ E₃ hF₃
      obtain ⟨hx1, hx2⟩ := mem_rangeL.mp (List.mem_filter.mp hx).1
      have hP' := hP.mono (Sub.set (o := .list ((nearL levs i).map iv)) hD)
      dsimp only [tgtNames, setAll]
      repeat' walk_at "kl"
      refine sub_Pairs (by intro _ _; with_unfolding_all rfl) hP' (by omega) (by omega) (by omega) fun T hT hpT => ?_
      repeat' walk_at "kl"
      by_cases h1 : (ps.getD x.toNat (0, 0)).1 < (ps.getD i (0, 0)).2
      · rw [if_pos (by simpa using h1)]
        repeat' walk_at "kl"
        refine sub_Pairs (by intro _ _; with_unfolding_all rfl) hP' (by omega) (by omega) (by omega) fun T hT hpT => ?_
        repeat' walk_at "kl"
        refine ⟨rfl, Sub.rfl, ?_⟩
        by_cases h2 : (ps.getD i (0, 0)).1 < (ps.getD x.toNat (0, 0)).2
        · rw [if_pos (by simpa using h2)]
          intro g₄ E₄
          repeat' walk_at "kl"
          exact ⟨rfl, Sub.rfl, if_pos ⟨h1, h2⟩⟩
        · rw [if_neg (by simpa using h2)]
          exact if_neg fun h => h2 h.2
      · rw [if_neg (by simpa using h1)]
        refine ⟨rfl, Sub.rfl, ?_⟩
        rw [if_neg (by decide)]
        exact if_neg fun h => h1 h.1
    case done2 =>
      intro D2 hD2
      rw [filterMap_if (fun v : Int => (ps.getD v.toNat (0, 0)).1 < (ps.getD i (0, 0)).2 ∧ (ps.getD i (0, 0)).1 < (ps.getD v.toNat (0, 0)).2) iv]
      repeat' walk_at "kl"
      exact h _ _ ((Sub.set hD).trans (Sub.set hD2)) (hset_eq _ _ _)
end Mine
end
section
namespace Mine
def mineL (lines : List Int) (line : Int) : List Int := (rangeL 0 lines.length).filter fun v => decide (lines.getD v.toNat 0 = line)
def lo_ (ps : List (Nat × Nat)) (v : Int) : Nat := (ps.getD v.toNat (0, 0)).1
def hi_ (ps : List (Nat × Nat)) (v : Int) : Nat := (ps.getD v.toNat (0, 0)).2
def signAt (ps : List (Nat × Nat)) (is : List Int) (a : Nat) : Nat := match is.find? fun v => decide (lo_ ps v ≤ a ∧ a < hi_ ps v) with | some v => 97 + v.toNat | none => 32
def textTo (ps : List (Nat × Nat)) (is : List Int) (n : Nat) : Str := ⟨((List.range n).map (signAt ps is)).toArray⟩
theorem textTo_succ {ps : List (Nat × Nat)} {is : List Int} {n : Nat} : textTo ps is (n + 1) = textTo ps is n ++ ⟨#[signAt ps is n]⟩ := by
  unfold textTo
  rw [List.range_succ, List.map_append]
  show _ = Str.append _ _
  unfold Str.append
  congr 1
  apply Array.toList_inj.mp
  simp
theorem textTo_len {ps : List (Nat × Nat)} {is : List Int} {n : Nat} : (textTo ps is n).length = n := by
  unfold textTo
  show Array.size _ = n
  simp
theorem head_find {ps : List (Nat × Nat)} {is : List Int} {a : Nat} : ((is.filterMap fun v => if (lo_ ps v : Int) ≤ a ∧ (a : Int) < hi_ ps v then some (Value.str ⟨#[97 + v.toNat]⟩ 0) else none) ++ [.str ⟨#[32]⟩ 0])[0]? = some (.str ⟨#[signAt ps is a]⟩ 0) := by
  unfold signAt
  induction is with
  | nil => rfl
  | cons v r ih =>
    rw [List.filterMap_cons, List.find?_cons]
    by_cases h : lo_ ps v ≤ a ∧ a < hi_ ps v
    · rw [if_pos (by omega), decide_eq_true h]; rfl
    · rw [if_neg (by omega), decide_eq_false h]; exact ih
theorem it_pairsV {C : Cx} {A : Around} {loc : LOC} {hp : HP} (hh : A.handled = none) {β : Type} {xs : List β} {f1 f2 : β → Value} {a : Addr} {ts : List Addr} {x y : Str} {px py pos : Pos} {k} {K : List (List Value) → (HP → Prop) → LOC → HP → Prop} (ha : hp a = some (.list (ts.map .ref)))
    (hln : ts.length = xs.length) (hts : ∀ (i : Nat) (T : Addr) (v : β), ts[i]? = some T → xs[i]? = some v → hp T = some (.tuple [f1 v, f2 v]))
    (h : ∀ need : HP → Prop, (∀ p', Sub hp p' → need p') → K (xs.map fun v => [f1 v, f2 v]) need loc hp) :
    onIt C A (.Tuple [.Name x px, .Name y py] k pos) [x, y] (.ref a) loc hp K := by
  have hts' : ∀ (p : HP), Sub hp p → ∀ (i : Nat) (T : Addr) (v : Value × Value), ts[i]? = some T → (xs.map fun v => (f1 v, f2 v))[i]? = some v → p T = some (.tuple [v.1, v.2]) := fun p hs i T v e1 e2 => by
    rw [List.getElem?_map] at e2
    obtain ⟨w, hw, rfl⟩ := Option.map_eq_some_iff.mp e2
    exact hs _ _ (hts i T w e1 hw)
  exact it_pairs (C := C) (loc := loc) (x := x) (y := y) (px := px) (py := py) (pos := pos) (k := k) (K := K) hh (ps := xs.map fun v => (f1 v, f2 v)) ha (by rw [List.length_map]; exact hln) (hts' hp Sub.rfl)
    (by
      rw [List.map_map]
      exact h _ fun p' hs => ⟨hs _ _ ha, by rw [List.length_map]; exact hln, hts' p' hs⟩)
theorem law_text_ok {C : Cx} (W : WOk C) {A : Around} {g : Heap} {fr : Fm} {E : Value → Shared → Prop} {loc : LOC} {hp : HP} {Q : Value → LOC → HP → Prop} {sps ln : Addr} {sts : List Addr} {ps : List (Nat × Nat)} {lines : List Int} {line : Int}
    (hroom : A.depth < recursionLimit) (hh : A.handled = none) (hP : Pairs hp sps sts ps) (hl : hp ln = some (.list (lines.map iv))) (hi : line ∈ lines) (hln : lines.length ≤ ps.length) (hsz : ps.length ≤ 100) (hps : ∀ v ∈ ps, v.2 ≤ 100)
    (h : ∀ D p' (M : Nat), Sub hp p' → M ∈ (mineL lines line).map (hi_ ps) → (∀ x ∈ mineL lines line, hi_ ps x ≤ M) → p' D = some (.tuple [.str (textTo ps (mineL lines line) M) 0, iv M, iv (mineL lines line).length]) → Q (.ref D) loc p') :
    onCall C A g fr E (.ref 190) [.ref sps, .ref ln, iv line] [] loc hp Q := onCall3 fun v u w hv hu hw => by
  obtain ⟨pm, F⟩ := W.fText
  have hlenG := W.len
  have hrange := W.range
  have hchr := W.chr
  have hmax := W.max
  refine aw_callFn F rfl rfl W.lim (by omega) (binds := [("spans", v), ("lines", u), ("line", w)]) (fun s hk => kp_binds frag0 fun S => by rfl) (by rfl) rfl rfl (by rfl) fun A' g' fr' E' hd hu' hh' hF => ?_
  rw [hh] at hh'
  unfold bindLoc bindLoc bindLoc bindLoc
  rw [hv, hu, hw]
  clear F
  refine aw_execs_cons ?_
  repeat' walk_at "kl"
  refine call_len_list' hl (by rw [List.length_map, sizeLine_eq]; omega) ?_
  repeat' walk_at "kl"
  rw [List.length_map]
  refine call_range1 fun r hr => comp_newF (rangeL 0 lines.length) (fun v => [.int v 0]) (fun v => decide (lines.getD v.toNat 0 = line)) (fun v => .tuple [.str ⟨#[97 + v.toNat]⟩ 0, .ref (sts.getD v.toNat 0)]) (it_range hh' hr (by decide) (by omega) ⟨rfl, by simp [rangeL]; omega, fun _ _ => trivial, ?elt, ?done⟩)
  case elt =>
    intro x hx g₃ fr₃ E₃ p₃ hF₃ hs₃
    obtain ⟨hx1, hx2⟩ := mem_rangeL.mp hx
    have hl₃ := hs₃ _ _ hl
    have hP₃ := hP.mono hs₃
    dsimp only [tgtNames, setAll]
    repeat' walk_at "kl"
    refine sub_int (by intro _ _; with_unfolding_all rfl) hl₃ (by omega) (by omega) (by omega) ?_
    repeat' walk_at "kl"
    refine ⟨rfl, rfl, rfl, fun hPx g₄ E₄ => ?_⟩
    repeat' walk_at "kl"
    refine c_chr (by omega) (by omega) ?_
    repeat' walk_at "kl"
    refine sub_Pairs (by intro _ _; with_unfolding_all rfl) hP₃ (by omega) (by omega) (by omega) fun T hT hpT => ?_
    repeat' walk_at "kl"
    refine ⟨by simp, fun a ha => ⟨rfl, a, rfl, ha, Sub.set ha, ?_⟩⟩
    rw [hset_eq, show (97 + x).toNat = 97 + x.toNat by omega, List.getD_eq_getElem?_getD, hT]; rfl
  case done =>
    intro D mts p₁ hml hmn hmt hm0 hs₁ hD
    have hP₁ := hP.mono (hs₁.trans (Sub.set (o := .list (mts.map .ref)) hD))
    have hD₁ := hset_eq p₁ D (.list (mts.map .ref))
    have hmt₁ : ∀ (k : Nat) (T : Addr) (x : Int), mts[k]? = some T → (mineL lines line)[k]? = some x → hset p₁ D (.list (mts.map .ref)) T = some (.tuple [.str ⟨#[97 + x.toNat]⟩ 0, .ref (sts.getD x.toNat 0)]) := fun k T x e1 e2 => hset_of hD (hmt k T x e1 e2)
    have hsp : ∀ x ∈ mineL lines line, ∀ p', Sub (hset p₁ D (.list (mts.map .ref))) p' → p' (sts.getD x.toNat 0) = some (.tuple [iv (lo_ ps x), iv (hi_ ps x)]) := fun x hx p' hs => by
      obtain ⟨hx1, hx2⟩ := mem_rangeL.mp (List.mem_filter.mp hx).1
      have hk : x.toNat < sts.length := by rw [hP.2.1]; omega
      have hk' : x.toNat < ps.length := by omega
      refine hs _ _ (hP₁.2.2 x.toNat _ (ps.getD x.toNat (0, 0)) ?_ ?_)
      · rw [List.getD_eq_getElem?_getD, List.getElem?_eq_getElem hk]; rfl
      · rw [List.getElem?_eq_getElem hk', List.getD_eq_getElem?_getD, List.getElem?_eq_getElem hk']; rfl
    have hs₂ := hs₁.trans (Sub.set (o := .list (mts.map .ref)) hD)
    generalize hset p₁ D (.list (mts.map .ref)) = p₂ at hP₁ hD₁ hmt₁ hsp hs₂ ⊢
    have hml' : mts.length = (mineL lines line).length := hml
    have hlen9 : (mineL lines line).length ≤ 100 := by
      have := List.length_filter_le (fun v => decide (lines.getD v.toNat 0 = line)) (rangeL 0 lines.length)
      have h2 : (rangeL 0 lines.length).length ≤ 100 := by simp [rangeL]; omega
      exact Nat.le_trans this h2
    repeat' walk_at "kl"
    refine comp_map (mineL lines line) (fun x => [.str ⟨#[97 + x.toNat]⟩ 0, .ref (sts.getD x.toNat 0)]) (fun x => iv (hi_ ps x)) (it_pairsV hh' hD₁ hml' hmt₁ fun need hneed => ⟨rfl, by omega, ?elt2, ?done2⟩)
    case elt2 =>
      intro x hx g₃ fr₃ E₃ hF₃
      have hx₃ := hsp x hx _ Sub.rfl
      dsimp only [tgtNames, setAll]
      repeat' walk_at "kl"
      exact ⟨rfl, Sub.rfl, rfl⟩
    case done2 =>
      intro D2 hD2
      repeat' walk_at "kl"
      refine call_max (ns := (mineL lines line).map fun x => (hi_ ps x : Int)) hh' (by rw [hset_eq, List.map_map]; rfl) ?_ fun M hM hMx => ?_
      · intro e
        have := List.map_eq_nil_iff.mp e
        obtain ⟨k, hk, hk2⟩ := List.mem_iff_getElem.mp hi
        have h2 : (k : Int) ∈ mineL lines line := List.mem_filter.mpr ⟨mem_rangeL.mpr ⟨by omega, by omega⟩, by
          rw [Int.toNat_natCast, List.getD_eq_getElem?_getD, List.getElem?_eq_getElem hk]; simpa using hk2⟩
        rw [this] at h2; cases h2
      obtain ⟨xm, hxm, hxm'⟩ := List.mem_map.mp hM
      obtain ⟨m, rfl⟩ : ∃ m : Nat, M = m := ⟨hi_ ps xm, hxm'.symm⟩
      have hm100 : m ≤ 100 := by
        obtain ⟨hx1, hx2⟩ := mem_rangeL.mp (List.mem_filter.mp hxm).1
        have hk' : xm.toNat < ps.length := by omega
        have := hps _ (List.getElem_mem hk')
        have e : hi_ ps xm = (ps[xm.toNat]).2 := by unfold hi_; rw [List.getD_eq_getElem?_getD, List.getElem?_eq_getElem hk']; rfl
        omega
      repeat' walk_at "kl"
      have hs₃ := hs₂.trans (Sub.set (o := .list ((mineL lines line).map fun x => iv (hi_ ps x))) hD2)
      have hs₂₃ : Sub p₂ (hset p₂ D2 (.list ((mineL lines line).map fun x => iv (hi_ ps x)))) := Sub.set hD2
      generalize hset p₂ D2 (.list ((mineL lines line).map fun x => iv (hi_ ps x))) = p₃ at hs₃ hs₂₃ ⊢
      refine call_range1 fun r hr => it_range hh' hr (by decide) (by omega) ⟨fun n l p => Sub p₂ p ∧ l "mine" = some (.ref D) ∧ l "text" = some (.str (textTo ps (mineL lines line) n) 0), ⟨hs₂₃, ?_, ?_⟩, fun _ _ _ _ => trivial, ?turn, ?fin⟩
      · walk_at "loc"
      · walk_at "loc"
      case turn =>
        rintro n vs l p g₃ E₃ hvs ⟨e1, e2, e3⟩
        obtain ⟨hn, rfl⟩ := rangeL_get hvs
        rw [Int.zero_add] at hn ⊢
        dsimp only [tgtNames, setAll]
        repeat' walk_at "kl"
        refine comp_pure (mineL lines line) (fun x => [.str ⟨#[97 + x.toNat]⟩ 0, .ref (sts.getD x.toNat 0)]) (fun v => if (lo_ ps v : Int) ≤ n ∧ (n : Int) < hi_ ps v then some (Value.str ⟨#[97 + v.toNat]⟩ 0) else none)
          (it_pairsV hh' (e1 _ _ hD₁) hml' (fun k T x a b => e1 _ _ (hmt₁ k T x a b)) fun need hneed => ⟨rfl, by omega, ?elt3, ?done3⟩)
        case elt3 =>
          intro x hx g₄ fr₄ E₄ hF₄
          have hx₃ := hsp x hx _ e1
          dsimp only [tgtNames, setAll]
          repeat' walk_at "kl"
          by_cases h1 : (lo_ ps x : Int) ≤ n
          · rw [if_pos (by simpa using h1)]
            repeat' walk_at "kl"
            refine ⟨rfl, Sub.rfl, ?_⟩
            by_cases h2 : (n : Int) < hi_ ps x
            · rw [if_pos (by simpa using h2)]
              intro g₅ E₅
              repeat' walk_at "kl"
              exact ⟨rfl, Sub.rfl, if_pos ⟨h1, h2⟩⟩
            · rw [if_neg (by simpa using h2)]
              exact if_neg fun h => h2 h.2
          · rw [if_neg (by simpa using h1)]
            refine ⟨rfl, Sub.rfl, ?_⟩
            rw [if_neg (by decide)]
            exact if_neg fun h => h1 h.1
        case done3 =>
          intro D3 hD3
          have hl3 : ((mineL lines line).filterMap fun v => if (lo_ ps v : Int) ≤ n ∧ (n : Int) < hi_ ps v then some (Value.str ⟨#[97 + v.toNat]⟩ 0) else none).length ≤ 100 := Nat.le_trans (List.length_filterMap_le _ _) hlen9
          repeat' walk_at "kl"
          refine ⟨by decide, fun D4 hD4 => ?_⟩
          refine op_add_list (hset_of hD4 (hset_eq _ _ _)) (hset_eq _ _ _) (by simp only [List.length_cons, List.length_nil]; omega) fun D5 hD5 => ?_
          repeat' walk_at "kl"
          refine sub_list (by intro _ _; with_unfolding_all rfl) (hset_eq _ _ _) (by decide) (by decide) head_find ?_
          repeat' walk_at "kl"
          refine op_iaddS (by rw [textTo_len]; show n + 1 ≤ 100000; omega) ?_
          repeat' walk_at "kl"
          refine ⟨e1.trans ((Sub.set hD3).trans ((Sub.set hD4).trans (Sub.set hD5))), ?_, ?_⟩
          · walk_at "loc"
          · rw [textTo_succ]; walk_at "loc"
      case fin =>
        rintro l p g₃ E₃ ⟨e1, e2, e3⟩
        rw [rangeL_len] at e3
        rw [show (((m : Int) - 0).toNat) = m by omega] at e3
        repeat' walk_at "kl"
        refine call_len_str (by rw [textTo_len]; omega) ?_
        rw [textTo_len]
        repeat' walk_at "kl"
        refine call_len_list' (e1 _ _ hD₁) (by rw [List.length_map, sizeLine_eq]; omega) ?_
        repeat' walk_at "kl"
        refine ⟨by simp, fun D6 hD6 => ?_⟩
        repeat' walk_at "kl"
        rw [List.length_map, hml']
        refine h D6 _ m ((hs₂.trans e1).trans (Sub.set hD6)) (List.mem_map.mpr ⟨xm, hxm, by omega⟩) (fun x hx => ?_) (hset_eq _ _ _)
        have := hMx _ (List.mem_map.mpr ⟨x, hx, rfl⟩)
        omega
end Mine
end
section
namespace Mine
def word (k : Nat) : Str := if k < 10 then baseWords.getD k Str.empty else baseText "0x" 16 ((2 : Int) ^ k)
theorem baseText_small {i : Int} (h : i.natAbs < 16 ^ 64) : (baseText "0x" 16 i).length ≤ 100 := by
  have h1 := toDigits_len_pow (b := 16) (k := 64) (n := i.natAbs) (by decide) (by decide) h
  unfold baseText
  rw [Str.length_append, Str.length_append]
  have h5 := ofString_ofList_length (Nat.toDigits 16 i.natAbs)
  have h3 : (Str.ofString (if i < 0 then "-" else "")).length ≤ 1 := by split <;> (rw [PyProof.Rows.ofString_len]; decide)
  have h4 : (Str.ofString "0x").length = 2 := by rw [PyProof.Rows.ofString_len]; decide
  omega
theorem word_len {k : Nat} (hk : k < 32) : (word k).length ≤ 100 := by
  unfold word
  split
  · rename_i h
    have : ∀ j < 10, (baseWords.getD j Str.empty).length ≤ 100 := by decide +kernel
    exact this k h
  · refine baseText_small ?_
    have : ((2 : Int) ^ k).natAbs = 2 ^ k := by rw [Int.natAbs_pow]; rfl
    rw [this]
    calc 2 ^ k < 2 ^ 32 := Nat.pow_lt_pow_right (by decide) hk
      _ ≤ 16 ^ 64 := by decide
section
variable {C : Cx} {A : Around} {g : Heap} {fr : Fm} {E : Value → Shared → Prop} {loc : LOC} {hp : HP}
theorem c_hex {i : Int} {Q : Value → LOC → HP → Prop} (h1 : i.natAbs < 2 ^ 60) (h : Q (.str (baseText "0x" 16 i) 0) loc hp) : onCall C A g fr E (.builtin "hex") [.int i 0] [] loc hp Q := onCall1 fun v hv => by
  obtain ⟨t, rfl⟩ := nm_int hv
  exact fun s R S => P.hex_of_int ⟨S, loc, hp, R, h⟩ (by have := baseText_small (i := i) (by omega); rw [sizeLine_eq]; omega)
theorem strsAre_of : ∀ {vs : List Value} {ys : List Str}, vs.map nm = ys.map (fun y => Value.str y 0) → StrsAre vs ys
  | [], [], _ => .nil
  | [], y :: ys, h => by cases h
  | v :: vs, [], h => by cases h
  | v :: vs, y :: ys, h => by
    injection h with a b
    obtain ⟨t, rfl⟩ := nm_str a
    exact .cons y t (strsAre_of b)
theorem m_join {x : Str} {a : Addr} {ys : List Str} {Q : Value → LOC → HP → Prop} (ha : hp a = some (.list (ys.map fun y => .str y 0))) (hx : x.length ≤ 10) (hl : ys.length ≤ 1000) (hy : ∀ y ∈ ys, y.length ≤ 1000) (h : Q (.str (Txt.join x ys) 0) loc hp) :
    onCall C A g fr E (.builtin "str.join") [.str x 0, .ref a] [] loc hp Q := onCall2 fun v u hv hu => by
  obtain ⟨t, rfl⟩ := nm_str hv
  have := nm_ref hu; subst this
  intro s R S
  obtain ⟨vs, n, e, q⟩ := R.list ha
  have hs : ∀ l : List Str, (∀ y ∈ l, y.length ≤ 1000) → (l.map (·.length)).sum ≤ l.length * 1000 := by
    intro l
    induction l with
    | nil => intro _; simp
    | cons a l ih =>
      intro h
      have h1 := h a (.head _)
      have h2 := ih fun y hy => h y (.tail _ hy)
      simp only [List.map_cons, List.sum_cons, List.length_cons]
      omega
  have h1 := hs ys hy
  have h2 : ys.length * x.length ≤ ys.length * 10 := Nat.mul_le_mul_left _ hx
  exact join_list ⟨_, e, rfl, n, rfl⟩ (strsAre_of q) (by omega) fun t' k => ⟨S, loc, hp, R, h⟩
end
theorem shl1 {i : Int} (h : 0 ≤ i) : (1 : Int) * 2 ^ i.toNat = 2 ^ i.toNat := Int.one_mul _
theorem words_split : (List.range 32).map (fun k => Value.str (word k) 0) = (baseWords.map fun y => Value.str y 0) ++ ((rangeL 10 32).map fun k => .str (baseText "0x" 16 (1 * 2 ^ k.toNat)) 0) := by
  have e : List.range 32 = List.range 10 ++ (rangeL 10 32).map Int.toNat := by decide
  rw [e, List.map_append, List.map_map]
  congr 1
theorem law_names_ok {C : Cx} (W : WOk C) {A : Around} {g : Heap} {fr : Fm} {E : Value → Shared → Prop} {loc : LOC} {hp : HP} {Q : Value → LOC → HP → Prop}
    (hroom : A.depth < recursionLimit) (hh : A.handled = none)
    (h : ∀ D p', Sub hp p' → hp D = none → p' D = some (.list ((List.range 32).map fun k => .str (word k) 0)) → Q (.ref D) loc p') :
    onCall C A g fr E (.ref 165) [] [] loc hp Q := onCall0 (by
  obtain ⟨pm, F⟩ := W.fNames
  have hrange := W.range
  have hhex := W.hex
  refine aw_callFn F rfl rfl W.lim (by omega) (binds := []) (fun s hk => kp_binds frag0 fun S => by rfl) (by rfl) rfl rfl (by rfl) fun A' g' fr' E' hd hu' hh' hF => ?_
  rw [hh] at hh'
  unfold bindLoc
  clear F
  refine aw_execs_cons ?_
  repeat' walk_at "kl"
  refine ⟨by decide, fun a ha => ?_⟩
  repeat' walk_at "kl"
  refine ⟨by decide, fun b hb => ?_⟩
  repeat' walk_at "kl"
  refine op_add_list (hset_of hb (hset_eq _ _ _)) (hset_eq _ _ _) (by decide) fun c hc => ?_
  repeat' walk_at "kl"
  refine call_range2 fun r hr => comp_map (rangeL 10 32) (fun v => [.int v 0]) (fun v => .str (baseText "0x" 16 (1 * 2 ^ v.toNat)) 0) (it_range hh' hr (by decide) (by decide) ⟨rfl, by decide, ?elt, ?done⟩)
  case elt =>
    intro x hx g₃ fr₃ E₃ hF₃
    obtain ⟨hx1, hx2⟩ := mem_rangeL.mp hx
    dsimp only [tgtNames, setAll]
    repeat' walk_at "kl"
    refine op_shl (by omega) (by omega) (by decide) ?_
    repeat' walk_at "kl"
    refine c_hex ?_ ?_
    · rw [Int.one_mul, Int.natAbs_pow]
      exact Nat.pow_lt_pow_right (by decide) (by omega)
    · repeat' walk_at "kl"
      exact ⟨rfl, Sub.rfl, rfl⟩
  case done =>
    intro D hD
    refine op_add_list (hset_of hD (hset_eq _ _ _)) (hset_eq _ _ _) (by rw [List.length_map]; decide) fun e he => ?_
    repeat' walk_at "kl"
    refine h e _ ((Sub.set ha).trans ((Sub.set hb).trans ((Sub.set hc).trans ((Sub.set hD).trans (Sub.set he))))) (((Sub.set ha).trans ((Sub.set hb).trans ((Sub.set hc).trans (Sub.set hD)))).none he) ?_
    rw [hset_eq, words_split]; rfl)
end Mine
end
section
namespace Mine
def fl (x i : Nat) : Nat := x / 2 ^ i * 2 ^ i
theorem fl_zero {x : Nat} : fl x 0 = x := by simp [fl]
theorem tb {x i : Nat} : x.testBit i = decide (x / 2 ^ i % 2 = 1) := Nat.testBit_eq_decide_div_mod_eq
theorem fl_set {x i : Nat} (h : x.testBit i = true) : fl x i = fl x (i + 1) + 2 ^ i := by
  rw [tb] at h
  have h1 : x / 2 ^ i % 2 = 1 := by simpa using h
  unfold fl
  have e : x / 2 ^ (i + 1) = x / 2 ^ i / 2 := by rw [Nat.pow_succ, Nat.div_div_eq_div_mul]
  rw [e, Nat.pow_succ]
  have h2 : x / 2 ^ i = 2 * (x / 2 ^ i / 2) + 1 := by omega
  generalize x / 2 ^ i / 2 = q at h2
  rw [h2, Nat.add_mul, Nat.one_mul, Nat.mul_comm (2 ^ i) 2, ← Nat.mul_assoc, Nat.mul_comm q 2]
theorem fl_clear {x i : Nat} (h : x.testBit i = false) : fl x i = fl x (i + 1) := by
  rw [tb] at h
  have h1 : x / 2 ^ i % 2 = 0 := by
    have : ¬ x / 2 ^ i % 2 = 1 := by simpa using h
    omega
  unfold fl
  have e : x / 2 ^ (i + 1) = x / 2 ^ i / 2 := by rw [Nat.pow_succ, Nat.div_div_eq_div_mul]
  rw [e, Nat.pow_succ]
  have h2 : x / 2 ^ i = 2 * (x / 2 ^ i / 2) := by omega
  generalize x / 2 ^ i / 2 = q at h2
  rw [h2, Nat.mul_comm (2 ^ i) 2, ← Nat.mul_assoc, Nat.mul_comm q 2]
theorem fl_bit {x i : Nat} : (fl x i).testBit i = x.testBit i := by
  rw [tb, tb]
  unfold fl
  rw [Nat.mul_div_cancel _ (Nat.two_pow_pos i)]
theorem fl_and {x i : Nat} : Builtin.bitAnd (fl x i : Int) ((2 : Int) ^ i) = if x.testBit i then (2 : Int) ^ i else 0 := by
  have e : ((2 : Int) ^ i) = ((2 ^ i : Nat) : Int) := by push_cast; rfl
  have e2 : fl x i &&& 2 ^ i = if x.testBit i then 2 ^ i else 0 := by
    apply Nat.eq_of_testBit_eq
    intro j
    rw [Nat.testBit_and, Nat.testBit_two_pow]
    by_cases hj : i = j
    · subst hj
      rw [fl_bit]
      cases h : x.testBit i
      · simp
      · simp [Nat.testBit_two_pow]
    · cases h : x.testBit i
      · simp [hj]
      · simp [Nat.testBit_two_pow, hj]
  have h0 : (0 : Int) ≤ (2 ^ i : Nat) := Int.natCast_nonneg _
  rw [e, bitAnd_pp (Int.natCast_nonneg _) h0, Int.toNat_natCast, Int.toNat_natCast, e2]
  cases x.testBit i <;> simp
theorem fl_xor {x i : Nat} (h : x.testBit i = true) : Builtin.bitXor (fl x i : Int) ((2 : Int) ^ i) = (fl x (i + 1) : Nat) := by
  unfold Builtin.bitXor
  rw [bitOr_and, fl_and, h, if_pos rfl, fl_set h]
  push_cast
  omega
theorem fl_none {x i j : Nat} (h : fl x i = 0) (hj : i ≤ j) : x.testBit j = false := by
  have h0 : x / 2 ^ i = 0 := by
    unfold fl at h
    rcases Nat.mul_eq_zero.mp h with h | h
    · exact h
    · exact absurd h (Nat.ne_of_gt (Nat.two_pow_pos i))
  have h1 : x < 2 ^ i := by
    rcases Nat.lt_or_ge x (2 ^ i) with q | q
    · exact q
    · have := Nat.div_pos q (Nat.two_pow_pos i); omega
  exact Nat.testBit_lt_two_pow (Nat.lt_of_lt_of_le h1 (Nat.pow_le_pow_right (by decide) hj))
def bitsTo (x n : Nat) : List Nat := (List.range n).filter fun k => x.testBit k
def wordsOf (x : Nat) : List Str := if x = 0 then [baseText "0x" 16 0] else (bitsTo x 32).map word
theorem bitsTo_succ {x n : Nat} : bitsTo x (n + 1) = bitsTo x n ++ if x.testBit n then [n] else [] := by
  unfold bitsTo
  rw [List.range_succ, List.filter_append]
  congr 1
  rw [List.filter_cons]
  cases x.testBit n <;> rfl
theorem Sub.hset {p q : HP} {a : Addr} {o : AO} (h : Sub p q) (ha : p a = Option.none) : Sub p (Mine.hset q a o) := fun b o' e => by
  rw [hset_ne _ _ (by rintro rfl; rw [ha] at e; cases e)]
  exact h b o' e
theorem bitsTo_all {x i n : Nat} (h : fl x i = 0) (hi : i ≤ n) : bitsTo x n = bitsTo x i := by
  induction n with
  | zero => rw [Nat.le_zero.mp hi]
  | succ n ih =>
    rcases Nat.lt_or_ge i (n + 1) with q | q
    · rw [bitsTo_succ, fl_none h (by omega), ih (by omega)]; simp
    · rw [Nat.le_antisymm hi q]
theorem meth_flags {C : Cx} (W : WOk C) {A : Around} {g : Heap} {fr : Fm} {E : Value → Shared → Prop} {loc : LOC} {hp : HP} : onMeth C A g fr E "get" (.ref 58) loc hp (.builtin "dict.get") := by
  obtain ⟨f, ⟨o, es, ep, ho, hx, hd, hk, hf⟩, _⟩ := W.flagsM
  intro v pl hv s R S
  have := nm_ref hv; subst this
  have ho' := R.keep _ _ (R.base _ _ ho)
  exact getMethod_builtin ⟨o, ho', hx.1⟩ F.plainAttrs_dict F.slot_dict_get F.type_dict_get (fun b eb => by cases eb; exact ⟨_, ho', hx.2.1⟩) ⟨S, loc, hp, R, rfl, rfl, rfl⟩
theorem call_flags {C : Cx} (W : WOk C) {A : Around} {g : Heap} {fr : Fm} {E : Value → Shared → Prop} {loc : LOC} {hp : HP} {i : Nat} {Q : Value → LOC → HP → Prop} (hi : i < 32) (h : Q (.str (word i) 0) loc hp) :
    onCall C A g fr E (.builtin "dict.get") [.ref 58, .int (2 ^ i) 0, .str (baseText "0x" 16 (2 ^ i)) 0] [] loc hp Q := onCall3 fun v u w hv hu hw => by
  obtain ⟨f, ⟨o, es, ep, ho, hx, hd, hk, hf⟩, hfl⟩ := W.flagsM
  have := nm_ref hv; subst this
  obtain ⟨t, rfl⟩ := nm_int hu
  intro s R S
  have ho' := R.keep _ _ (R.base _ _ ho)
  have hm : s.heap.MapOf (intKind C.prog C.w) 58 f := ⟨o, es, ep, ho', hx, hd, hk, hf⟩
  have hkey : (intKind C.prog C.w).is ((2 : Int) ^ i) (.int (2 ^ i) t) = true := by simp [intKind, Value.isInt]
  refine call_meetsIn PySem.F.slot_dict_get ⟨o, ho', hx.1⟩ PySem.F.entry_dict_get (PySem.F.args_dict_get_3 _ _ _) (meets_dict_get_default (intKind C.prog C.w) 58 hkey (by decide) w) ⟨_, hm, S, loc, hp, R, ?_⟩
  have e : nm ((f ((2 : Int) ^ i)).getD w) = .str (word i) 0 := by
    have := hfl i hi
    unfold word
    split at this
    · rename_i h10
      rw [if_pos h10]
      obtain ⟨v, hv, e⟩ := Option.map_eq_some_iff.mp this
      rw [hv]; exact e
    · rename_i h10
      rw [if_neg h10, Option.map_eq_none_iff.mp this]
      exact hw
  show Q (nm ((f ((2 : Int) ^ i)).getD w)) loc hp
  rw [e]; exact h
theorem pretty_ok {C : Cx} (W : WOk C) {A : Around} {g : Heap} {fr : Fm} {E : Value → Shared → Prop} {loc : LOC} {hp : HP} {Q : Value → LOC → HP → Prop} {x : Nat}
    (hroom : A.depth < recursionLimit) (hh : A.handled = none) (hx : x < 2 ^ 32)
    (h : ∀ p', Sub hp p' → Q (.str (Txt.join ", " (wordsOf x)) 0) loc p') :
    onCall C A g fr E (.ref 65) [iv x] [] loc hp Q := onCall1 fun v hv => by
  obtain ⟨pm, F⟩ := W.fPretty
  have hrange := W.range
  have hhex := W.hex
  have hfl := W.gFlags
  refine aw_callFn F rfl rfl W.lim (by omega) (binds := [("flags", v)]) (fun s hk => kp_binds frag0 fun S => by rfl) (by rfl) rfl rfl (by rfl) fun A' g' fr' E' hd hu' hh' hF => ?_
  rw [hh] at hh'
  unfold bindLoc bindLoc
  rw [hv]
  clear F
  refine aw_execs_cons ?_
  repeat' walk_at "kl"
  refine ⟨by decide, fun N hN => ?_⟩
  repeat' walk_at "kl"
  have join : ∀ (p : HP) (l : LOC) (ys : List Str) (g₂ : Heap) (E₂ : Value → Shared → Prop), ys = wordsOf x → Sub hp p → p N = some (.list (ys.map fun y => .str y 0)) → onCall C A' g₂ fr' E₂ (.builtin "str.join") [.str ", " 0, .ref N] [] l p fun v l p => Q (retOf (.ret v)) loc p := by
    rintro p l ys g₂ E₂ rfl hs hpN
    refine m_join hpN (by decide) ?_ ?_ (h p hs)
    · unfold wordsOf
      split
      · decide
      · rw [List.length_map]
        have := List.length_filter_le (fun k => x.testBit k) (List.range 32)
        rw [List.length_range] at this
        exact Nat.le_trans this (by decide)
    · intro y hy
      unfold wordsOf at hy
      split at hy
      · rw [List.mem_singleton] at hy
        subst hy
        exact Nat.le_trans (baseText_small (by decide)) (by decide)
      · obtain ⟨k, hk, rfl⟩ := List.mem_map.mp hy
        exact Nat.le_trans (word_len (List.mem_range.mp (List.mem_filter.mp hk).1)) (by decide)
  refine call_range1 fun r hr => it_range hh' hr (by decide) (by decide) ⟨fun i l p => l "names" = some (.ref N) ∧ l "flags" = some (iv (fl x i)) ∧ Sub hp p ∧ p N = some (.list (((bitsTo x i).map word).map fun y => .str y 0)) ∧ (x ≠ 0 → fl x i ≠ 0), ⟨?_, ?_, Sub.set hN, hset_eq _ _ _, fun h => by rwa [fl_zero]⟩, fun _ _ _ _ => trivial, ?turn, ?fin⟩
  · walk_at "loc"
  · rw [fl_zero]; walk_at "loc"
  case fin =>
    rintro l p g₂ E₂ ⟨e1, e2, e3, e4, e5⟩
    rw [rangeL_len, show ((32 : Int) - 0).toNat = 32 from rfl] at e2 e4 e5
    have f32 : fl x 32 = 0 := by unfold fl; rw [Nat.div_eq_of_lt hx, Nat.zero_mul]
    have hx0 : x = 0 := by
      by_cases q : x = 0
      · exact q
      · exact absurd f32 (e5 q)
    have e2' : l "flags" = some (iv 0) := by rw [e2, f32]; rfl
    have eb : bitsTo x 32 = [] := by rw [hx0]; decide
    have e4' : p N = some (.list []) := by rw [e4, eb]; rfl
    clear e2 e4 e5 f32 eb
    repeat' walk_at "kl"
    refine ⟨_, meth_list F.slot_list_append F.type_list_append e4', ?_⟩
    repeat' walk_at "kl"
    refine c_hex (by decide) ?_
    repeat' walk_at "kl"
    refine ⟨kp_builtin, m_append e4' (by decide) ⟨rfl, ?_⟩⟩
    repeat' walk_at "kl"
    refine ⟨_, meth_str F.slot_str_join F.type_str_join, ?_⟩
    repeat' walk_at "kl"
    exact ⟨kp_builtin, join _ _ [baseText "0x" 16 0] _ _ (by unfold wordsOf; rw [if_pos hx0]) (e3.hset hN) (hset_eq _ _ _)⟩
  case turn =>
    rintro i vs l p g₂ E₂ hvs ⟨e1, e2, e3, e4, e5⟩
    obtain ⟨hi32, rfl⟩ := rangeL_get hvs
    rw [Int.zero_add] at hi32 ⊢
    have hi : i < 32 := by omega
    dsimp only [tgtNames, setAll]
    repeat' walk_at "kl"
    refine op_shl (by omega) (by omega) (by decide) ?_
    rw [Int.one_mul, Int.toNat_natCast]
    repeat' walk_at "kl"
    cases hb : x.testBit i with
    | false =>
      have ea := fl_and (x := x) (i := i)
      rw [hb, if_neg (by decide)] at ea
      rw [ea, if_neg (by decide)]
      repeat' walk_at "kl"
      refine ⟨?_, ?_, e3, ?_, fun h => ?_⟩
      · walk_at "loc"
      · rw [← fl_clear hb]; walk_at "loc"
      · rw [bitsTo_succ, hb]; simpa using e4
      · rw [← fl_clear hb]; exact e5 h
    | true =>
      have h2 : ((2 : Int) ^ i) ≠ 0 := by
        have : ((2 : Int) ^ i) = ((2 ^ i : Nat) : Int) := by push_cast; rfl
        rw [this]
        have := Nat.two_pow_pos i
        omega
      have ea := fl_and (x := x) (i := i)
      rw [hb, if_pos rfl] at ea
      rw [ea, if_pos (by simpa using h2)]
      repeat' walk_at "kl"
      have hlen : (((bitsTo x i).map word).map fun y => Value.str y 0).length ≤ 100 := by
        rw [List.length_map, List.length_map]
        have := List.length_filter_le (fun k => x.testBit k) (List.range i)
        rw [List.length_range] at this
        unfold bitsTo
        omega
      refine ⟨_, meth_list F.slot_list_append F.type_list_append e4, ?_⟩
      repeat' walk_at "kl"
      refine ⟨_, meth_flags W, ?_⟩
      repeat' walk_at "kl"
      refine c_hex ?_ ?_
      · rw [Int.natAbs_pow]
        exact Nat.pow_lt_pow_right (by decide) (by omega)
      repeat' walk_at "kl"
      refine ⟨kp_builtin, call_flags W hi ?_⟩
      repeat' walk_at "kl"
      refine ⟨kp_builtin, m_append e4 (by omega) ⟨rfl, ?_⟩⟩
      have e6 : ((bitsTo x i).map word).map (fun y => Value.str y 0) ++ [.str (word i) 0] = ((bitsTo x (i + 1)).map word).map fun y => Value.str y 0 := by
        rw [bitsTo_succ, hb, if_pos rfl]; simp
      rw [e6]
      repeat' walk_at "kl"
      rw [fl_xor hb]
      repeat' walk_at "kl"
      by_cases hz : fl x (i + 1) = 0
      · rw [if_pos (by simpa using hz)]
        repeat' walk_at "kl"
        refine ⟨_, meth_str F.slot_str_join F.type_str_join, ?_⟩
        repeat' walk_at "kl"
        refine ⟨kp_builtin, join _ _ ((bitsTo x (i + 1)).map word) _ _ ?_ (e3.hset hN) (hset_eq _ _ _)⟩
        unfold wordsOf
        rw [if_neg (by rintro rfl; rw [Nat.zero_testBit] at hb; cases hb), bitsTo_all (n := 32) hz (by omega)]
      · rw [if_neg (by simpa using hz)]
        repeat' walk_at "kl"
        refine ⟨?_, ?_, e3.hset hN, hset_eq _ _ _, fun _ => hz⟩
        · walk_at "loc"
        · walk_at "loc"
end Mine
end
section
namespace Mine
/-! ## the class _Accumulator -/
def accDict (hh : Int) (t : Tok) (v : Value) (ep : Nat) : Obj := { cls := .type "dict", data := .dict #[⟨hh, .str "_initial_size" t, v⟩] ep }
structure AccK (K : Frag) : Prop where
  ga : findIn K (.ref 151) "__getattribute__" = some (some (.builtin "list.__getattribute__"))
  gattr : findIn K (.ref 151) "__getattr__" = some none
  push : findIn K (.ref 151) "push" = some (some (.ref 96))
  popf : findIn K (.ref 151) "pop_from" = some (some (.ref 104))
  len : findIn K (.ref 151) "__len__" = some (some (.ref 118))
  str : findIn K (.ref 151) "__str__" = some (some (.ref 125))
  pcount : findIn K (.ref 151) "part_count" = some (some (.ref 148))
  init : findIn K (.ref 151) "__init__" = some (some (.ref 89))
  append : findIn K (.ref 151) "append" = some (some (.builtin "list.append"))
  getitem : findIn K (.ref 151) "__getitem__" = some (some (.builtin "list.__getitem__"))
  setitem : findIn K (.ref 151) "__setitem__" = some (some (.builtin "list.__setitem__"))
  iter : findIn K (.ref 151) "__iter__" = some (some (.builtin "list.__iter__"))
  tf : ∀ f ∈ ([89, 96, 104, 118, 125, 148] : List Addr), typeIn K (.ref f) = some (.type "function")
  sub : mroIn K 151 (.type "list") = some true
  deque : mroIn K 151 (.type "collections.deque") = some false
  size : ∀ hh t v ep, findObj K 151 (some (accDict hh t v ep)) "_initial_size" = some (.value v)
def clsBody : Stmt → List Stmt
  | .ClassDef _ _ _ b _ _ _ _ _ _ _ => b
  | _ => []
def accStmt (i : Nat) : Stmt := (clsBody (topStmt 12)).getD i (.Pass default)
def accD (i : Int) : AO := .sat fun o => ∃ hh t u ep, o = accDict hh t (.int i u) ep
structure AccW (C : Cx) : Prop where
  K : ∃ K : Frag, K.In C.H₀ ∧ AccK K
  fPush : ∃ pm, FnAt C 96 (mkFd (accStmt 1) "_Accumulator.push" .none .none (.ref 95) pm [] .none)
  fPop : ∃ pm, FnAt C 104 (mkFd (accStmt 2) "_Accumulator.pop_from" (.ref 97) .none (.ref 103) pm [] .none)
  dPop : ∃ t n, C.H₀.get? 97 = some ⟨.type "tuple", none, .seq #[.int 0 t] n, #[]⟩
  fLen : ∃ pm, FnAt C 118 (mkFd (accStmt 4) "_Accumulator.__len__" .none .none (.ref 117) pm [] .none)
  fStr : ∃ pm, FnAt C 125 (mkFd (accStmt 5) "_Accumulator.__str__" .none .none (.ref 124) pm [] .none)
def Acc (p : HP) (x : Addr) (i : Int) (xs : List Value) : Prop := ∃ d, p x = some (.acc 151 d xs) ∧ p d = some (accD i)
theorem Acc.mono {p p' : HP} {x : Addr} {i : Int} {xs : List Value} (h : Acc p x i xs) (hs : Sub p p') : Acc p' x i xs := let ⟨d, a, b⟩ := h; ⟨d, hs _ _ a, hs _ _ b⟩
section
variable {α : Type} {C : Cx} {A : Around} {g : Heap} {fr : Fm} {E : Value → Shared → Prop} {loc : LOC} {hp : HP} {x : Addr} {i : Int} {xs : List Value}
theorem Rep.acc {H₀ h : Heap} (R : Rep H₀ g fr loc hp h) (hx : Acc hp x i xs) : ∃ d hh t u ep vs n, h.get? x = some { cls := .ref 151, dict := some d, data := .seq vs n } ∧ vs.toList.map nm = xs ∧ h.get? d = some (accDict hh t (.int i u) ep) ∧
    InstAt h x { cls := .ref 151, dict := some d, data := .seq vs n } 151 (some (accDict hh t (.int i u) ep)) ∧ hp x = some (.acc 151 d xs) ∧ hp d = some (accD i) := by
  obtain ⟨d, h1, h2⟩ := hx
  obtain ⟨_, _, _, o, ho, vs, n, rfl, e⟩ := R.at_ x _ h1
  obtain ⟨_, _, _, o', ho', hh, t, u, ep, rfl⟩ := R.at_ d _ h2
  exact ⟨d, hh, t, u, ep, vs, n, ho, e, ho', ⟨ho, rfl, rfl, ho'⟩, h1, h2⟩
theorem Rep.K {h : Heap} (R : Rep C.H₀ g fr loc hp h) {K : Frag} (X : K.In C.H₀) : K.In h := X.keeps fun b o e => R.keep b o (R.base b o e)
theorem entry_lga : entryFor table "list.__getattribute__" = some Builtin.«object.__getattribute__» :=
  entryFor_alias (id' := "object.__getattribute__") (by kernel_rfl) (by rfl) (by decide +kernel) (by kernel_rfl)
theorem canon_list_ga : (Manifest.canonical "list.__getattribute__" != "object.__getattribute__") = false := by decide +kernel
theorem meth_acc {K : Frag} (X : K.In C.H₀) (AK : AccK K) (hx : Acc hp x i xs) {name : Str} {f : Addr} (hf : findIn K (.ref 151) name = some (some (.ref f))) (ht : f ∈ ([89, 96, 104, 118, 125, 148] : List Addr))
    (hs : ∀ hh t v ep, shadowIn (some (accDict hh t v ep)) name = some false) : onMeth C A g fr E name (.ref x) loc hp (.ref f) := by
  intro v pl hv s R S
  have := nm_ref hv; subst this
  obtain ⟨d, hh, t, u, ep, vs, n, e1, e2, e3, I, h1, h2⟩ := R.acc hx
  have XX := R.K X
  have hcan := canon_list_ga
  unfold getMethod specialOf
  refine wpAny_bind (wpAny_bind (I.type.here ((looks_findIn XX AK.ga).here ?_)))
  dsimp only
  rw [hcan, if_neg (by decide)]
  refine wpAny_bind (wpAny_bind (I.type.here ((looks_findIn XX AK.gattr).here ?_)))
  refine wpAny_bind (wpAny_bind (I.type.here ((looks_findIn XX hf).here (wpAny_bind ((looks_typeIn XX (AK.tf f ht)).here ?_)))))
  rw [if_neg (by decide +kernel)]
  refine wpAny_bind (wpAny_loadPart I.at_ ?_)
  obtain ⟨r, a, b⟩ := Option.map_eq_some_iff.mp (hs hh t (.int i u) ep)
  refine wpAny_bind (wpAny_bind (wpAny_loadPart e3 ?_))
  rw [nsLook_of a]
  refine wpAny_pure ?_
  rw [b]
  exact wpAny_bind (wpAny_rule (wpAny_pure ⟨S, loc, hp, R, rfl, rfl, rfl⟩))
theorem meth_accB {K : Frag} (X : K.In C.H₀) (AK : AccK K) (hx : Acc hp x i xs) {name : Str} {id : String} (hf : findIn K (.ref 151) name = some (some (.builtin id))) (hty : typeOf (.builtin id) = pure (.type "method_descriptor"))
    (hs : ∀ hh t v ep, shadowIn (some (accDict hh t v ep)) name = some false) : onMeth C A g fr E name (.ref x) loc hp (.builtin id) := by
  intro v pl hv s R S
  have := nm_ref hv; subst this
  obtain ⟨d, hh, t, u, ep, vs, n, e1, e2, e3, I, h1, h2⟩ := R.acc hx
  have XX := R.K X
  have hcan := canon_list_ga
  unfold getMethod specialOf
  refine wpAny_bind (wpAny_bind (I.type.here ((looks_findIn XX AK.ga).here ?_)))
  dsimp only
  rw [hcan, if_neg (by decide)]
  refine wpAny_bind (wpAny_bind (I.type.here ((looks_findIn XX AK.gattr).here ?_)))
  refine wpAny_bind (wpAny_bind (I.type.here ((looks_findIn XX hf).here (wpAny_bind ?_))))
  refine wpAny_of_eq hty ?_
  rw [if_neg (by decide +kernel)]
  refine wpAny_bind (wpAny_loadPart I.at_ ?_)
  obtain ⟨r, a, b⟩ := Option.map_eq_some_iff.mp (hs hh t (.int i u) ep)
  refine wpAny_bind (wpAny_bind (wpAny_loadPart e3 ?_))
  rw [nsLook_of a]
  refine wpAny_pure ?_
  rw [b]
  exact wpAny_bind (wpAny_rule (wpAny_pure ⟨S, loc, hp, R, rfl, rfl, rfl⟩))
theorem check_inst {M : Model} {s : Shared} {id owner n : String} {self : Value} {rest : List Value} {kw : List (Str × Value)} {Q : Unit → Shared → Prop}
    (hk : builtinKind id = some .slot ∨ builtinKind id = some .method) (hs : splitId id = some (owner, n)) (hi : Looks M s.heap (isInstance self (.type owner)) true) (ha : argsOk id ⟨self :: rest, kw⟩) (q : Q () s) :
    wpAny M A (checkBuiltinCall id ⟨self :: rest, kw⟩) Q E s := by
  rcases hk with hk | hk
  · exact check_slot hk hs hi ha q
  · simp only [checkBuiltinCall, hk, hs]
    refine wpAny_bind (hi.here ?_)
    simp only [Bool.not_true, Bool.false_eq_true, if_false]
    cases hsig : Manifest.signature? id with
    | none => exact wpAny_pure q
    | some sig =>
      simp only [argsOk, hsig] at ha
      have h2 : Bind.checkArgs id sig ⟨self :: rest, kw⟩ = pure () := ha
      show wpAny M A (Bind.checkArgs id sig ⟨self :: rest, kw⟩) Q E s
      rw [h2]; exact wpAny_pure q
theorem acc_inst {M : Model} {K : Frag} {h : Heap} {ox : Obj} {od : Option Obj} (X : K.In h) (AK : AccK K) (I : InstAt h x ox 151 od) : Looks M h (isInstance (.ref x) (.type "list")) true := by
  unfold isInstance
  exact I.type.andThen (looks_mroIn X AK.sub)
theorem call_inst {K : Frag} {s : Shared} {ox : Obj} {od : Option Obj} {id n : String} {b : Builtin} {rest : List Value} {Q : Value → Shared → Prop} (X : K.In s.heap) (AK : AccK K) (I : InstAt s.heap x ox 151 od)
    (hp : plainId id = true) (hb : entryFor table id = some b) (hk : builtinKind id = some .slot ∨ builtinKind id = some .method) (hs : splitId id = some ("list", n)) (ha : argsOk id ⟨.ref x :: rest, []⟩)
    (h : wpAny (model C.prog C.w) A.in1 (b ⟨.ref x :: rest, []⟩) (fun fin s' => ∃ v, fin = .done (.ret v) ∧ Q v s') E s) :
    wpAny (model C.prog C.w) A (call (.builtin id) (.ref x :: rest)) Q E s := by
  refine wpAny_call (codeAny_call_builtin hp hb (check_inst hk hs (acc_inst X AK I) ha (wpAny_mono h (fun fin s' hf => ?_) fun _ _ e => e)))
  obtain ⟨v, rfl, q⟩ := hf
  exact q
theorem acc_value {K : Frag} {s : Shared} {ox : Obj} {od : Option Obj} {v : Value} {name : Str} {expr : Bool} {Q : Value → Shared → Prop} (X : K.In s.heap) (AK : AccK K) (I : InstAt s.heap x ox 151 od)
    (hf : findObj K 151 od name = some (.value v)) (hh : handedIn v = true) (h : Q v { s with toks := s.toks + 1 }) : wpAny (model C.prog C.w) A (getAttr (.ref x) name expr) Q E s := by
  obtain ⟨h0, g0, d0, t0, os0⟩ := s
  have T := I.type (M := model C.prog C.w)
  have G := looks_findIn (M := model C.prog C.w) X AK.ga
  have G2 := looks_findIn (M := model C.prog C.w) X AK.gattr
  have V := looks_find (M := model C.prog C.w) X I hf
  unfold getAttr getAttrBy
  refine wpAny_bind (wpAny_mkText (wpAny_holding (wpAny_bind (T.at (wpAny_bind (G.at ?_))))))
  show wpAny _ _ (getAttrByItsOwn (.ref x) (.str name t0) (.ref 151) (.builtin "list.__getattribute__") true expr) _ _ _
  unfold getAttrByItsOwn hookBefore callGetattribute boundAndCalled
  refine wpAny_bind ?_
  show wpAny _ _ (typeLookup (.ref 151) "__getattr__") _ _ _
  refine G2.at ?_
  refine wpAny_bind (wpAny_attempt (wpAny_holding ?_))
  rw [show (expr && onTheHeap (.builtin "list.__getattribute__")) = false from by cases expr <;> rfl, if_neg Bool.false_ne_true]
  refine wpAny_bind (wpAny_of_eq (F.slot_list_getattribute.bind _) ?_)
  refine wpAny_mono (Q := fun v' s' => v' = v ∧ s' = ⟨h0, g0, d0, t0 + 1, os0⟩) (E := fun _ _ => False)
    (call_inst (n := "__getattribute__") X AK I F.slot_list_getattribute.plain entry_lga (.inl (by decide +kernel)) (by kernel_rfl) (F.args_list_getattribute_2 _ _) ?_) (fun v' s' hv => ?_) fun _ _ z => z.elim
  · unfold Builtin.«object.__getattribute__»
    refine wpAny_bind (wpAny_pure ?_)
    refine wpAny_bind (wpAny_pure ?_)
    refine wpAny_bind (T.at (wpAny_bind (V.at (wpAny_pure ⟨v, rfl, rfl, rfl⟩))))
  · obtain ⟨rfl, rfl⟩ := hv
    show wpAny _ _ (handedOut v') _ _ _
    rw [handedOut_of hh]
    exact wpAny_pure h
theorem Acc.upd {H₀ h : Heap} {f : Array Value → Array Value} {ys : List Value} {d : Addr} (R : Rep H₀ g fr loc hp h) (hx : hp x = some (.acc 151 d xs)) (hf : ∀ vs : Array Value, vs.toList.map nm = xs → (f vs).toList.map nm = ys) :
    Rep H₀ g fr loc (hset hp x (.acc 151 d ys)) (h.update x (Obj.mapSeq f)) := by
  obtain ⟨_, _, _, o, ho, vs, n, rfl, e⟩ := R.at_ x _ hx
  refine R.chg hx (Heap.SameBut.update ..).extBut (Heap.get?_update_self _ ho rfl) (ao' := .acc 151 d ys) ⟨f vs, if (f vs).size == vs.size then n else n + 1, ?_, hf vs e⟩
  simp only [Obj.mapSeq]
theorem m_append_acc {K : Frag} (X : K.In C.H₀) (AK : AccK K) (hx : Acc hp x i xs) (hsz : xs.length ≤ 100000) {y : Value} {Q : Value → LOC → HP → Prop} (h : ∀ p', Acc p' x i (xs ++ [y]) → (∀ b, b ≠ x → p' b = hp b) → Q .none loc p') :
    onCall C A g fr E (.builtin "list.append") [.ref x, y] [] loc hp Q := onCall2 fun v u hv hu => by
  have := nm_ref hv; subst this
  subst hu
  intro s R S
  obtain ⟨d, hh, t, w, ep, vs, n, e1, e2, e3, I, h1, h2⟩ := R.acc hx
  have hz := nm_size e2
  have hxd : d ≠ x := by rintro rfl; rw [h1] at h2; cases h2
  refine call_inst (n := "append") (R.K X) AK I slot_list_append.plain entry_list_append (.inr (by decide +kernel)) (by kernel_rfl) (args_list_append _ _) ?_
  show wpAny _ _ (updateSeq x (·.push u) >>= fun _ => ret .none) _ _ s
  refine wpAny_bind (wpAny_updateSeq e1 rfl (wpAny_pure ⟨.none, rfl, S, loc, _, Acc.upd (ys := xs ++ [nm u]) R h1 (fun ws hw => by rw [Array.toList_push, List.map_append, hw]; rfl), h _ ⟨d, hset_eq .., by rw [hset_ne _ _ hxd]; exact h2⟩ fun b hb => hset_ne _ _ hb⟩) (by rw [sizeLine_eq]; omega) (by rw [sizeLine_eq]; simp; omega))
end
end Mine
end
section
namespace Mine
section
variable {α : Type} {C : Cx} {A : Around} {g : Heap} {fr : Fm} {E : Value → Shared → Prop} {loc : LOC} {hp : HP} {x : Addr} {i : Int} {xs : List Value}
theorem acc_key {M : Model} {K : Frag} {h : Heap} {ox : Obj} {od : Option Obj} (X : K.In h) (hs : mroIn K 151 (.type "collections.deque") = some false) (I : InstAt h x ox 151 od) (k : Value) (name : Str) : Looks M h (sequenceKey (.ref x) k name) k := by
  unfold sequenceKey
  refine I.type.andThen ?_
  intro A Q E s kk q
  show wpAny M A (seqItemTypes.anyM (fun n => isSubtype (.ref 151) (.type n)) >>= _) Q E s
  refine wpAny_bind ?_
  unfold seqItemTypes
  show wpAny M A (List.anyM _ _) _ E s
  simp only [List.anyM]
  refine wpAny_bind (looks_mroIn X hs A _ E s kk ?_)
  exact wpAny_pure (wpAny_pure q)
theorem inst_getslice {K : Frag} {s : Shared} {sl : Addr} {vs : Array Value} {n : Nat} {d : Addr} {od : Option Obj} {vl vu : Value} {lo hi : Option Int} {Q : Value → Shared → Prop} (X : K.In s.heap) (AK : AccK K)
    (I : InstAt s.heap x { cls := .ref 151, dict := some d, data := .seq vs n } 151 od) (hs : s.heap.IsSliceOf sl vl vu .none) (pl : IsPart vl lo) (pu : IsPart vu hi) (hsz : vs.size ≤ sizeLine)
    (h : Q (.ref s.heap.objs.size) { s with heap := s.heap.push { cls := .type "list", data := .seq (slicePick vs lo hi none) } }) : wpAny (model C.prog C.w) A (getItem (.ref x) (.ref sl)) Q E s := by
  obtain ⟨os, hos, hcs, hds⟩ := id hs
  have hTs : s.TypeIs (.ref sl) "slice" := ⟨os, hos, hcs⟩
  have ho := I.at_
  unfold getItem
  refine wpAny_holding (wpAny_bind ((acc_key X AK.deque I _ _).here ?_))
  refine wpAny_bind ?_
  unfold callSpecial? specialOf
  refine wpAny_bind (wpAny_bind (I.type.here ((looks_findIn X AK.getitem).here ?_)))
  dsimp only
  rw [slot_list_getitem.bind]
  refine wpAny_holding (wpAny_bind (wpAny_pure (wpAny_bind (call_inst (n := "__getitem__") X AK I slot_list_getitem.plain entry_list_getitem (.inr (by decide +kernel)) (by kernel_rfl) (args_list_getitem _ _) ?_))))
  show wpAny _ _ (Builtin.List.listSubscript? (.ref sl) >>= _) _ _ s
  refine wpAny_bind ?_
  unfold Builtin.List.listSubscript?
  refine wpAny_bind (wpAny_specialOf hTs slice_no_index ?_)
  simp only [Option.isNone_none, if_true]
  refine wpAny_pure ?_
  show wpAny _ _ (typeOf (.ref sl) >>= _) _ _ s
  refine wpAny_bind (wpAny_typeOf hTs ?_)
  rw [if_neg (by decide)]
  rw [listSliceParts_eq]
  refine wpAny_bind (wpAny_bind (wpAny_field hos hds (x := .none) rfl (wpAny_bind (wpAny_listPart .none ?_))))
  rw [if_neg (by exact Bool.false_ne_true)]
  refine wpAny_bind (wpAny_field hos hds (x := vl) rfl (wpAny_bind (wpAny_listPart pl ?_)))
  refine wpAny_bind (wpAny_field hos hds (x := vu) rfl (wpAny_bind (wpAny_listPart pu (wpAny_pure ?_))))
  refine wpAny_bind (m := Builtin.List.listItems (.ref x)) ?_
  unfold Builtin.List.listItems
  refine wpAny_bind (wpAny_seqItems ho rfl (wpAny_pure ?_))
  refine wpAny_bind (wpAny_of_eq (sliceIndices_raw lo hi none vs.size (by simp)) ?_)
  refine wpAny_bind (wpAny_newObj_type (wpAny_pure ⟨_, rfl, wpAny_pure (wpAny_pure h)⟩) (Nat.le_trans (slicePick_size_le vs lo hi none) hsz))
theorem aw_SliceAcc {K : Frag} (X : K.In C.H₀) (AK : AccK K) {value : Expr} {lower upper : Option Expr} {p₁ pos : Pos} {Q : Value → LOC → HP → Prop} (ht : ∀ o r, letTemporaryGo value o r = pure ())
    (h : awv C A g fr E (eval value fr.env) loc hp fun y l p => awPart C A g fr E lower l p fun lo l p => awPart C A g fr E upper l p fun hi l p => ∃ x i xs, y = .ref x ∧ Acc p x i xs ∧ xs.length ≤ 100000 ∧
      ∀ c, p c = none → Q (.ref c) l (hset p c (.list (sliceL xs lo hi)))) :
    awv C A g fr E (eval (.Subscript value (.Slice lower upper none p₁) pos) fr.env) loc hp Q := fun s R S => by
  rw [eval_Subscript]
  refine wpAny_bind (wpAny_mono (h s R S) (fun o s₁ ⟨S₁, l₁, p₁, R₁, h₁⟩ => wpAny_bind (wpAny_holding (wpAny_Slice (wpAny_mono (aw_part h₁ s₁ R₁ S₁) (fun vl s₂ ⟨S₂, l₂, p₂, R₂, lo, hlo, h₂⟩ =>
    wpAny_mono (aw_part h₂ s₂ R₂ S₂) (fun vu s₃ ⟨S₃, l₃, p₃, R₃, hi, hhi, x, i, xs, e, hx, hsz, hQ⟩ => ?_) fun _ _ e => e) fun _ _ e => e)))) fun _ _ e => e)
  rw [evalPart_none]
  refine wpAny_pure (wpAny_bind (wpAny_standAt ?_))
  have := nm_ref e; subst this
  have R₄ := R₃.alloc (ao := .sat fun _ => True) (o := { cls := .type "slice", data := .fields #[vl, vu, .none] }) rfl trivial
  have hx₄ : Acc (hset p₃ s₃.heap.objs.size (.sat fun _ => True)) x i xs := hx.mono (Sub.set R₃.none_at)
  obtain ⟨d, hh, t, u, ep, vs, n, e1, e2, e3, I, h1, h2⟩ := R₄.acc hx₄
  have hz := nm_size e2
  have XX := R₄.K X
  show wpAny _ A (getitemInPython (.ref x) >>= _) _ _ _
  unfold getitemInPython specialOf
  refine wpAny_bind (wpAny_bind (wpAny_bind (I.type.here ((looks_findIn XX AK.getitem).here (wpAny_pure ?_)))))
  refine wpAny_bind (wpAny_operating (inst_getslice XX AK I (Heap.IsSliceOf.new ..) hlo hhi (by rw [sizeLine_eq]; omega) ?_))
  refine wpAny_bind (wpAny_of_eq (ht _ _) (wpAny_pure ?_))
  have R₅ := R₄.alloc (ao := .list (sliceL xs lo hi)) (o := { cls := .type "list", data := .seq (slicePick vs lo hi none) }) rfl ⟨_, _, rfl, by
    rw [slicePick_plain, hz, List.map_take, List.map_drop, e2]; rfl⟩
  refine ⟨S₃, l₃, hset p₃ (s₃.heap.objs.size + 1) (.list (sliceL xs lo hi)), ?_, ?_⟩
  · refine R₅.forget (fun _ _ e => e) fun b o eb => ?_
    rw [Heap.size_push]
    unfold hset at eb ⊢
    by_cases hb : b = s₃.heap.objs.size + 1
    · rwa [if_pos hb] at eb ⊢
    · rw [if_neg hb] at eb ⊢
      rw [if_neg (by rintro rfl; rw [R₃.none_at] at eb; cases eb)]
      exact eb
  · have := hQ (s₃.heap.objs.size + 1) (by
      cases q : p₃ (s₃.heap.objs.size + 1) with
      | none => rfl
      | some o => exact absurd (R₃.lt_of_hp q) (Nat.not_lt.mpr (Nat.le_succ _)))
    show Q (nm (.ref (s₃.heap.push _).objs.size)) _ _
    rw [Heap.size_push]
    exact this
end
end Mine
end
section
namespace Mine
section
variable {α : Type} {C : Cx} {A : Around} {g : Heap} {fr : Fm} {E : Value → Shared → Prop} {loc : LOC} {hp : HP} {x : Addr} {i : Int} {xs : List Value}
theorem wpAny_listItems {M : Model} {s : Shared} {a : Addr} {o : Obj} {items : Array Value} {n : Nat} {Q : Array Value → Shared → Prop} (ho : s.heap.get? a = some o) (hd : o.data = .seq items n) (h : Q items s) : wpAny M A (Builtin.List.listItems (.ref a)) Q E s := by
  unfold Builtin.List.listItems
  exact wpAny_bind (wpAny_seqItems ho hd (wpAny_pure h))
theorem inst_setslice {K : Frag} {s : Shared} {sl v : Addr} {vs ws : Array Value} {n n' : Nat} {d : Addr} {od : Option Obj} {vl vu : Value} {k : Nat} {Q : Unit → Shared → Prop} (X : K.In s.heap) (AK : AccK K)
    (I : InstAt s.heap x { cls := .ref 151, dict := some d, data := .seq vs n } 151 od) (hs : s.heap.IsSliceOf sl vl vu .none) (pl : IsPart vl (some (k : Int))) (pu : IsPart vu none) (hk : k ≤ vs.size) (hxv : x ≠ v)
    (hv : s.heap.get? v = some { cls := .type "list", data := .seq ws n' }) (hsz : vs.size + ws.size ≤ 100000)
    (h : Q () { s with heap := s.heap.update x (Obj.mapSeq fun xs => xs.extract 0 k ++ ws ++ xs.extract vs.size xs.size) }) : wpAny (model C.prog C.w) A (setItem (.ref x) (.ref sl) (.ref v)) Q E s := by
  obtain ⟨os, hos, hcs, hds⟩ := id hs
  have hTs : s.TypeIs (.ref sl) "slice" := ⟨os, hos, hcs⟩
  have hTv : s.TypeIs (.ref v) "list" := ⟨_, hv, rfl⟩
  have ho := I.at_
  unfold setItem
  refine wpAny_holding (wpAny_bind ((acc_key X AK.deque I _ _).here ?_))
  refine wpAny_bind ?_
  unfold callSpecial? specialOf
  refine wpAny_bind (wpAny_bind (I.type.here ((looks_findIn X AK.setitem).here ?_)))
  dsimp only
  rw [F.slot_list_setitem.bind]
  refine wpAny_holding (wpAny_bind (wpAny_pure (wpAny_bind (call_inst (n := "__setitem__") X AK I F.slot_list_setitem.plain F.entry_list_setitem (.inl (by decide +kernel)) (by kernel_rfl) (F.args_list_setitem_3 _ _ _) ?_))))
  show wpAny _ _ (Builtin.List.listSubscript? (.ref sl) >>= _) _ _ s
  refine wpAny_bind ?_
  unfold Builtin.List.listSubscript?
  refine wpAny_bind (wpAny_specialOf hTs slice_no_index ?_)
  simp only [Option.isNone_none, if_true]
  refine wpAny_pure ?_
  show wpAny _ _ (typeOf (.ref sl) >>= _) _ _ s
  refine wpAny_bind (wpAny_typeOf hTs ?_)
  rw [if_neg (by decide)]
  rw [listSliceParts_eq]
  refine wpAny_bind (wpAny_bind (wpAny_field hos hds (x := .none) rfl (wpAny_bind (wpAny_listPart .none ?_))))
  rw [if_neg (by exact Bool.false_ne_true)]
  refine wpAny_bind (wpAny_field hos hds (x := vl) rfl (wpAny_bind (wpAny_listPart pl ?_)))
  refine wpAny_bind (wpAny_field hos hds (x := vu) rfl (wpAny_bind (wpAny_listPart pu (wpAny_pure ?_))))
  have hsame : Builtin.List.listSameRef (.ref x) (.ref v) = false := by
    unfold Builtin.List.listSameRef
    simpa using hxv
  dsimp only
  rw [if_neg (by rw [hsame]; exact Bool.false_ne_true)]
  refine wpAny_bind (m := Builtin.List.listAllItems (.ref v) _) ?_
  unfold Builtin.List.listAllItems
  refine wpAny_bind (wpAny_typeOf hTv ?_)
  rw [if_pos (by decide)]
  refine wpAny_listItems hv rfl ?_
  refine wpAny_bind (wpAny_listItems ho rfl ?_)
  refine wpAny_bind (wpAny_of_eq (sliceIndices_raw (some (k : Int)) none none vs.size (by simp)) ?_)
  have hb : sliceBounds (some (k : Int)) none none vs.size = ((k : Int), (vs.size : Int), 1) := by
    rw [sliceBounds_plain]
    simp only [Option.elim, clipAt_nat]
    rw [Nat.min_eq_left hk]
  rw [hb]
  dsimp only
  rw [if_pos (by decide)]
  refine wpAny_bind (wpAny_rule ?_)
  have htl : Builtin.List.listTooLong (vs.size + ws.size) = false := by
    unfold Builtin.List.listTooLong
    rw [decide_eq_false (by rw [sizeLine_eq]; omega)]
  rw [htl]
  have e1 : (max (k : Int) (vs.size : Int)).toNat = vs.size := by omega
  rw [Int.toNat_natCast, e1, if_neg Bool.false_ne_true]
  refine wpAny_bind ?_
  show wpAny _ _ (updateSeq x _) _ _ _
  refine wpAny_updateSeq ho rfl ?_ (by rw [sizeLine_eq]; omega) (by rw [sizeLine_eq]; simp; omega)
  exact wpAny_bind (wpAny_letGo (wpAny_bind (wpAny_pure (wpAny_pure ⟨_, rfl, wpAny_pure (wpAny_pure h)⟩))))
end
end Mine
end
section
namespace Mine
section
variable {α : Type} {C : Cx} {A : Around} {g : Heap} {fr : Fm} {E : Value → Shared → Prop} {loc : LOC} {hp : HP} {x : Addr} {i : Int} {xs : List Value}
theorem aw_setSliceAcc {K : Frag} (X : K.In C.H₀) (AK : AccK K) {sl a d : Addr} {ys : List Value} {k : Nat} {Q : Unit → LOC → HP → Prop}
    (hx1 : hp x = some (.acc 151 d xs)) (hx2 : hp d = some (accD i)) (ha : hp a = some (.list ys)) (hk : k ≤ xs.length) (hsz : xs.length + ys.length ≤ 100000) (hsl : hp sl = some (.sat fun o => ∃ t, o.cls = .type "slice" ∧ o.data = .fields #[.int k t, .none, .none]))
    (h : Q () loc (hset hp x (.acc 151 d (xs.take k ++ ys)))) : aw C A g fr E (setItem (.ref x) (.ref sl) (.ref a)) loc hp Q := fun s R S => by
  obtain ⟨d', hh, t, u, ep, vs, n, e1, e2, e3, I, h1, h2⟩ := R.acc ⟨d, hx1, hx2⟩
  rw [hx1] at h1; cases h1
  obtain ⟨ws, n', e, q⟩ := R.list ha
  obtain ⟨_, _, _, os, hos, t', hc, hd⟩ := R.at_ sl _ hsl
  have hz1 := nm_size e2
  have hz2 := nm_size q
  refine inst_setslice (R.K X) AK I ⟨os, hos, hc, hd⟩ (.int k t') .none (by omega) (by rintro rfl; rw [hx1] at ha; cases ha) e (by omega) ⟨S, loc, _, Acc.upd (ys := xs.take k ++ ys) R hx1 (fun us hus => ?_), h⟩
  have hz3 := nm_size hus
  have e4 : us.extract vs.size us.size = #[] := by
    apply Array.eq_empty_of_size_eq_zero
    simp; omega
  rw [e4]
  subst hus
  simp [List.map_take, q]
theorem aw_AssignSliceAcc {K : Frag} (X : K.In C.H₀) (AK : AccK K) {o e value : Expr} {p₁ p₂ pos : Pos} {Q : Flow → LOC → HP → Prop}
    (hs : swapsWith value (some (.Subscript o (.Slice (some e) none none p₁) p₂)) pos.line fr.env = pure false)
    (h : awv C A g fr E (eval value fr.env) loc hp fun v l p => awv C A g fr E (eval o fr.env) l p fun y l p => awv C A g fr E (eval e fr.env) l p fun lo l p =>
      ∃ x d i xs k ys a, v = .ref a ∧ y = .ref x ∧ lo = .int ((k : Nat) : Int) 0 ∧ p a = some (.list ys) ∧ p x = some (.acc 151 d xs) ∧ p d = some (accD i) ∧ k ≤ xs.length ∧ xs.length + ys.length ≤ 100000 ∧ Q .next l (hset p x (.acc 151 d (xs.take k ++ ys)))) :
    awf C A g fr E (exec (.Assign [.Subscript o (.Slice (some e) none none p₁) p₂] value pos) fr.env) loc hp Q := by
  refine aw_congr (exec_Assign_Subscript _ _ _ _ _ hs) (aw_bind (aw_standAt (aw_bind (aw_mono h fun v l p h₁ => aw_bind ?_))))
  show aw C A g fr E (do
    let ov ← holding [v] (eval o fr.env)
    let iv ← holding [v, ov] (eval (.Slice (some e) none none p₁) fr.env)
    standAt p₂
    holding [v, ov, iv] (setItem ov iv v)
    release [iv, v, ov] []) l p _
  refine aw_bind (aw_holding (aw_mono h₁ fun ov l p h₂ => aw_bind (aw_holding ?_)))
  intro s R S
  refine wpAny_Slice (wpAny_mono (h₂ s R S) (fun lv s₁ ⟨S₁, l₁, p₁', R₁, x, d, i, xs, k, ys, a, e1, e2, e3, ha, hx1, hx2, hk, hsz, hQ⟩ => ?_) fun _ _ e => e)
  rw [evalPart_none]
  refine wpAny_pure (wpAny_pure ?_)
  have := nm_ref e1; subst this
  have := nm_ref e2; subst this
  obtain ⟨t, rfl⟩ := nm_int e3
  have R₂ := R₁.alloc (ao := .sat fun o => ∃ t, o.cls = .type "slice" ∧ o.data = .fields #[.int k t, .none, .none]) (o := { cls := .type "slice", data := .fields #[.int (k : Int) t, .none, .none] }) rfl ⟨t, rfl, rfl⟩
  have n0 := R₁.none_at
  refine ⟨S₁, l₁, _, R₂, ?_⟩
  generalize s₁.heap.objs.size = sl at R₂ n0 ⊢
  refine aw_bind (aw_standAt (aw_bind (aw_holding (aw_setSliceAcc X AK (hset_of n0 hx1) (hset_of n0 hx2) (hset_of n0 ha) hk hsz (hset_eq ..) (aw_release ?_)))))
  refine aw_drop (hp₁ := hset p₁' x (.acc 151 d (xs.take k ++ ys))) (fun b ao eb => ?_) (aw_pure (a := Flow.next) hQ)
  unfold hset at eb ⊢
  by_cases hb : b = x
  · rwa [if_pos hb] at eb ⊢
  · rw [if_neg hb] at eb ⊢
    rw [if_neg (by rintro rfl; rw [n0] at eb; cases eb)]
    exact eb
theorem aw_attrSize {K : Frag} (X : K.In C.H₀) (AK : AccK K) {o : Expr} {pos : Pos} {Q : Value → LOC → HP → Prop}
    (hb : attributeBase o "_initial_size" fr.env (eval o fr.env) = eval o fr.env) (ht : ∀ v r, letTemporaryGo o v r = pure ())
    (h : awv C A g fr E (eval o fr.env) loc hp fun y l p => ∃ x i xs, y = .ref x ∧ Acc p x i xs ∧ Q (.int i 0) l p) : awv C A g fr E (eval (.Attribute o "_initial_size" pos) fr.env) loc hp Q := by
  refine aw_congr (arm_eval_Attribute ..) ?_
  rw [hb]
  refine aw_bind (aw_mono h fun ov l p ⟨x, i, xs, e, hx, q⟩ => aw_bind (aw_standAt (aw_bind (aw_holding ?_))))
  have := nm_ref e; subst this
  intro s R S
  obtain ⟨d, hh, t, u, ep, vs, n, e1, e2, e3, I, h1, h2⟩ := R.acc hx
  exact acc_value (R.K X) AK I (AK.size ..) rfl ⟨S, l, p, R, aw_bind (aw_of_eq (ht _ _) (aw_pure q))⟩
end
end Mine
end
section
namespace Mine
theorem sliceL_from {xs : List Value} {k : Nat} (hk : k ≤ xs.length) : sliceL xs (some (k : Int)) none = xs.drop k := by
  unfold sliceL
  simp only [Option.elim, clipAt_nat]
  rw [Nat.min_eq_left hk, List.take_of_length_le (by simp)]
theorem frag1 {h : Heap} {a : Addr} {o : Obj} (e : h.get? a = some o) : Frag.In [(a, o)] h := by
  intro x y q
  rw [List.lookup_cons] at q
  by_cases h1 : x = a
  · subst h1; simp at q; subst q; exact e
  · have : (x == a) = false := by simpa using h1
    rw [this] at q; cases q
section
variable {C : Cx} {A : Around} {g : Heap} {fr : Fm} {E : Value → Shared → Prop} {loc : LOC} {hp : HP} {x : Addr} {i : Int} {xs : List Value}
theorem push_ok (W : WOk C) (AW : AccW C) {a b : Value} {Q : Value → LOC → HP → Prop} (hroom : A.depth < recursionLimit) (hx : Acc hp x i xs) (hsz : xs.length ≤ 1000)
    (h : ∀ T p', hp T = none → p' T = some (.tuple [a, b]) → Acc p' x i (xs ++ [.ref T]) → (∀ b o, b ≠ x → hp b = some o → p' b = some o) → Q .none loc p') :
    onCall C A g fr E (.ref 96) [.ref x, a, b] [] loc hp Q := onCall3 fun v u w hv hu hw => by
  obtain ⟨K, X, AK⟩ := AW.K
  obtain ⟨pm, F⟩ := AW.fPush
  refine aw_callFn F rfl rfl W.lim hroom (binds := [("self", v), ("fws", u), ("string", w)]) (fun s hk => kp_binds frag0 fun S => by rfl) (by rfl) rfl rfl (by rfl) fun A' g' fr' E' hd hu' hh' hF => ?_
  unfold bindLoc bindLoc bindLoc bindLoc
  rw [hv, hu, hw]
  clear F
  refine aw_execs_cons ?_
  repeat' walk_at "kl"
  refine ⟨_, meth_accB X AK hx AK.append F.type_list_append (fun _ _ _ _ => by rfl), ?_⟩
  repeat' walk_at "kl"
  refine ⟨by simp, fun T hT => ?_⟩
  repeat' walk_at "kl"
  have hx' := hx.mono (Sub.set (o := .tuple [a, b]) hT)
  refine ⟨kp_builtin, m_append_acc X AK hx' (by omega) fun p' h1 h2 => ⟨rfl, ?_⟩⟩
  repeat' walk_at "kl"
  have hTx : T ≠ x := by rintro rfl; obtain ⟨d, e, _⟩ := hx; rw [hT] at e; cases e
  refine h T p' hT ?_ h1 fun b o hb e => ?_
  · rw [h2 T hTx, hset_eq]
  · rw [h2 b hb]; exact hset_of hT e
theorem pop_ok (W : WOk C) (AW : AccW C) {k : Nat} {Q : Value → LOC → HP → Prop} (hroom : A.depth < recursionLimit) (hx : Acc hp x i xs) (hsz : xs.length ≤ 1000) (hk : k ≤ xs.length)
    (h : ∀ c p', hp c = none → p' c = some (.list (xs.drop k)) → Acc p' x i (xs.take k) → (∀ b o, b ≠ x → hp b = some o → p' b = some o) → Q (.ref c) loc p') :
    onCall C A g fr E (.ref 104) [.ref x, iv k] [] loc hp Q := onCall2 fun v u hv hu => by
  obtain ⟨K, X, AK⟩ := AW.K
  obtain ⟨pm, F⟩ := AW.fPop
  obtain ⟨t, n, e97⟩ := AW.dPop
  refine aw_callFn F rfl rfl W.lim hroom (binds := [("self", v), ("i", u)]) (fun s hk => kp_binds (frag1 (hk _ _ e97)) fun S => by rfl) (by rfl) rfl rfl (by rfl) fun A' g' fr' E' hd hu' hh' hF => ?_
  unfold bindLoc bindLoc bindLoc
  rw [hv, hu]
  clear F
  refine aw_execs_cons ?_
  refine aw_AssignName (by with_unfolding_all rfl) (by walk_at "sto") ?_
  refine aw_SliceAcc X AK (by intro _ _; rfl) ?_
  repeat' walk_at "kl"
  refine ⟨x, i, xs, rfl, hx, by omega, fun c hc => ?_⟩
  rw [sliceL_from hk]
  have hx' := hx.mono (Sub.set (o := .list (xs.drop k)) hc)
  refine aw_execs_cons ?_
  refine aw_AssignSliceAcc X AK (by with_unfolding_all rfl) ?_
  repeat' walk_at "kl"
  refine ⟨by decide, fun a ha => ?_⟩
  repeat' walk_at "kl"
  obtain ⟨d, h1, h2⟩ := hx'
  refine ⟨x, d, i, xs, k, [], a, rfl, rfl, rfl, hset_eq _ _ _, hset_of ha h1, hset_of ha h2, hk, by simp; omega, ?_⟩
  repeat' walk_at "kl"
  have hax : a ≠ x := by rintro rfl; rw [h1] at ha; cases ha
  have hcx : c ≠ x := by rintro rfl; obtain ⟨d, e, _⟩ := hx; rw [hc] at e; cases e
  have hca : c ≠ a := by rintro rfl; rw [hset_eq] at ha; cases ha
  have hda : d ≠ x := by rintro rfl; rw [h1] at h2; cases h2
  refine h c _ hc ?_ ⟨d, by rw [hset_eq, List.append_nil], by rw [hset_ne _ _ hda]; exact hset_of ha h2⟩ fun b o hb e => ?_
  · rw [hset_ne _ _ hcx, hset_ne _ _ hca, hset_eq]
  · rw [hset_ne _ _ hb]
    exact hset_of ha (hset_of hc e)
end
end Mine
end
section
namespace Mine
section
variable {prog : Program} {w : World} {A : Around} {E : Value → Shared → Prop} {s : Shared}
def SeqAt_ (h : Heap) (x : Addr) (items : Array Value) : Prop := ∃ o n, h.get? x = some o ∧ o.data = .seq items n
theorem pyNext_seq_item {it l : Addr} {i : Nat} {items : Array Value} {x : Value} {Q : Option Value → Shared → Prop} (hit : s.heap.IsListIter it l i)
    (hl : SeqAt_ s.heap l items) (hx : items[i]? = some x)
    (hQ : ∀ h', h'.IsListIter it l (i + 1) → Heap.SameBut it s.heap h' → Q (some x) { s with heap := h' }) :
    wpAny (model prog w) A (pyNext (.ref it)) Q E s := by
  obtain ⟨o, ho, hc, hd⟩ := id hit
  obtain ⟨ol, nl, hol, hdl⟩ := hl
  unfold pyNext
  refine wpAny_bind (wpAny_attempt (wpAny_callSpecial?_slot (name := Str.ofString "__next__") hit.typeIs slot_listiter_next
    (wpAny_call_entry slot_listiter_next hit.typeIs entry_listiter_next ?_ (args_listiter_next _))))
  show wpAny _ _ (field (.ref it) 0 >>= _) _ _ s
  refine wpAny_bind (wpAny_field ho hd (x := .ref l) rfl ?_)
  show wpAny _ _ (if (Value.ref l == Value.none) = true then _ else _) _ _ s
  rw [if_neg (show ¬ ((Value.ref l == Value.none) = true) from Bool.false_ne_true)]
  show wpAny _ _ (field (.ref it) 1 >>= _) _ _ s
  refine wpAny_bind (wpAny_field ho hd (x := .int i 0) rfl ?_)
  show wpAny _ _ (seqItems? (.ref l) >>= _) _ _ s
  refine wpAny_bind (wpAny_seqItems hol hdl ?_)
  simp only [Int.toNat_natCast, hx]
  refine wpAny_bind (wpAny_setField ho hd (by simp) (wpAny_pure ⟨x, rfl, wpAny_pure (hQ _ ?_ (Heap.SameBut.update ..))⟩))
  exact ⟨_, Heap.get?_update_self _ ho (Obj.isFreed_of_fields (Obj.data_mapFields hd _)), (Obj.cls_mapFields ..).trans hc, by
    rw [Obj.data_mapFields hd]; simp [rawInt]⟩
theorem pyNext_seq_end {it l : Addr} {i : Nat} {items : Array Value} {Q : Option Value → Shared → Prop} (hh : A.handled = none)
    (hit : s.heap.IsListIter it l i) (hl : SeqAt_ s.heap l items) (hx : items[i]? = none)
    (hQ : ∀ h', Heap.ExtBut it s.heap h' → Q none { s with heap := h' }) : wpAny (model prog w) A (pyNext (.ref it)) Q E s := by
  obtain ⟨o, ho, hc, hd⟩ := id hit
  obtain ⟨ol, nl, hol, hdl⟩ := hl
  unfold pyNext
  refine wpAny_bind (wpAny_attempt (wpAny_callSpecial?_slot (name := Str.ofString "__next__") hit.typeIs slot_listiter_next
    (wpAny_call_entry slot_listiter_next hit.typeIs entry_listiter_next ?_ (args_listiter_next _))))
  show wpAny _ _ (field (.ref it) 0 >>= _) _ _ s
  refine wpAny_bind (wpAny_field ho hd (x := .ref l) rfl ?_)
  show wpAny _ _ (if (Value.ref l == Value.none) = true then _ else _) _ _ s
  rw [if_neg (show ¬ ((Value.ref l == Value.none) = true) from Bool.false_ne_true)]
  show wpAny _ _ (field (.ref it) 1 >>= _) _ _ s
  refine wpAny_bind (wpAny_field ho hd (x := .int i 0) rfl ?_)
  show wpAny _ _ (seqItems? (.ref l) >>= _) _ _ s
  refine wpAny_bind (wpAny_seqItems hol hdl ?_)
  simp only [Int.toNat_natCast, hx]
  refine wpAny_bind (wpAny_rule (wpAny_bind (wpAny_setField ho hd (by simp) ?_)))
  show wpAny _ _ (newExc (.type "StopIteration") [] >>= _) _ _ _
  refine wpAny_bind ?_
  simp only [newExc, newTuple]
  refine wpAny_bind (wpAny_newObj_type ?_ (by size_fits))
  refine wpAny_bind (m := firstArgMember _ _) (wpAny_of_eq (a := Value.none) (by first | rfl | (simp only [firstArgMember]; rfl)) ?_)
  refine wpAny_newObj_type ?_ (by size_fits)
  simp only [raiseNew]
  refine wpAny_bind (wpAny_handled ?_)
  rw [show A.in1.handled = none from hh]
  refine wpAny_bind (wpAny_pure (wpAny_throw ?_))
  refine wpAny_bind (wpAny_isInstance (T := "StopIteration") (b := true) ⟨_, Heap.get?_push_size _ rfl, rfl⟩ isSubtype_stop ?_)
  exact wpAny_pure (hQ _ (((Heap.SameBut.update ..).extBut.push _).push _))
theorem SeqAt_.at' {h h' : Heap} {x : Addr} {items : Array Value} (e : SeqAt_ h x items) (k : ∀ o, h.get? x = some o → h'.get? x = some o) : SeqAt_ h' x items := let ⟨o, n, a, b⟩ := e; ⟨o, n, k _ a, b⟩
theorem WalksU.inst (I ax : Addr) (hne : ax ≠ I) (items : Array Value) (Ts : Nat → Addr) (vals : Nat → Array Value)
    (hit : ∀ j, j < items.size → items[j]? = some (.ref (Ts j))) (hTI : ∀ j, j < items.size → Ts j ≠ I) (A : Around) (hh : A.handled = none) :
    WalksU prog w A I (I :: ax :: (List.range items.size).map Ts) [I] items.size (fun j v => j < items.size ∧ v = vals j)
      (fun j h => h.IsListIter I ax j ∧ SeqAt_ h ax items ∧ ∀ k, k < items.size → h.IsTuple (Ts k) (vals k))
      (fun j T h => (j < items.size ∧ T = Ts j) ∧ h.IsListIter I ax (j + 1) ∧ SeqAt_ h ax items ∧ ∀ k, k < items.size → h.IsTuple (Ts k) (vals k)) where
  sub := fun b hb => by simp at hb; simp [hb]
  frame := fun _ _ _ st hk => ⟨st.1.at fun o e => hk I (by simp) o e, st.2.1.at' fun o e => hk ax (by simp) o e,
    fun k hk' => (st.2.2 k hk').at fun o e => hk (Ts k) (List.mem_cons_of_mem _ (List.mem_cons_of_mem _ (List.mem_map.mpr ⟨k, List.mem_range.mpr hk', rfl⟩))) o e⟩
  item := fun i s Q E hi st hQ => by
    refine pyNext_seq_item st.1 st.2.1 (x := .ref (Ts i)) (hit i hi) fun h' hit' hs' => ?_
    have tup : ∀ k, k < items.size → h'.IsTuple (Ts k) (vals k) := fun k hk' => (st.2.2 k hk').extBut hs'.extBut (hTI k hk')
    exact hQ (Ts i) (vals i) h' s.toks ⟨hi, rfl⟩ (tup i hi) ⟨⟨hi, rfl⟩, hit', st.2.1.at' fun o e => hs'.extBut _ _ hne e, tup⟩ fun b o hb e => hs'.extBut b o (fun h => hb (by simp [h])) e
  go := fun _ _ _ _ _ s Q _ hm hQ => wpAny_letOwnedTupleGo_listiter hm.2.1 (hQ s.heap hm.2 fun _ _ _ e => e)
  apart := fun j T _ hm hmem => by
    rcases List.mem_cons.mp hmem with e | e
    · exact hTI j hm.1.1 (hm.1.2 ▸ e)
    · cases e
  done := fun s Q E st hQ => pyNext_seq_end hh st.1 st.2.1 (by simp) fun h' he' => hQ h' s.toks fun b o hb e => he' b o (fun h => hb (by simp [h])) e
  self := fun _ _ _ _ st hQ => wpAny_pyIter_listiter st.1 hQ
theorem pyIter_inst {K : Frag} {x : Addr} {ox : Obj} {od : Option Obj} {Q : Value → Shared → Prop} (X : K.In s.heap) (AK : AccK K) (I : InstAt s.heap x ox 151 od)
    (h : Q (.ref s.heap.objs.size) { s with heap := s.heap.push { cls := .type "list_iterator", data := .fields #[.ref x, .int 0 0] } }) : wpAny (model prog w) A (pyIter (.ref x)) Q E s := by
  unfold pyIter specialOf
  refine wpAny_bind (wpAny_bind (I.type.here ((looks_findIn X AK.iter).here ?_)))
  show wpAny _ A (callSpecialIfBoundUnlessNone? (.ref x) "__iter__" _ >>= _) Q E s
  refine wpAny_bind ?_
  have fin : ∀ {refuse : Sem Value} {Q' : Option Value → Shared → Prop}, Q' (some (.ref s.heap.objs.size)) { s with heap := s.heap.push { cls := .type "list_iterator", data := .fields #[.ref x, .int 0 0] } } →
      wpAny (model prog w) A (if (Value.builtin "list.__iter__" == Value.none) = true then (refuse >>= fun v => pure (some v)) else (call (.builtin "list.__iter__") [.ref x] >>= fun v => pure (some v))) Q' E s := by
    intro refuse Q' hq
    simp only [builtin_beq_none, Bool.false_eq_true, if_false]
    refine wpAny_bind (call_inst (C := ⟨prog, w, s.heap, s.os⟩) (n := "__iter__") X AK I slot_list_iter.plain entry_list_iter (.inl (by decide +kernel)) (by kernel_rfl) (args_list_iter _) ?_)
    show wpAny _ _ (do ret (← newFields "list_iterator" [.ref x, rawInt 0])) _ _ s
    exact wpAny_bind (wpAny_newObj_type (wpAny_pure ⟨_, rfl, wpAny_pure hq⟩))
  have tail : wpAny (model prog w) A (do
      match ← specialOf (.ref s.heap.objs.size) "__next__" with
      | none => (do rule "iter.non-iterator"; raiseError "TypeError" s!"iter() returned non-iterator of type '{← typeNameOf (.ref s.heap.objs.size)}'" : Sem Value)
      | some _ => pure (.ref s.heap.objs.size)) Q E { s with heap := s.heap.push { cls := .type "list_iterator", data := .fields #[.ref x, .int 0 0] } } := by
    refine wpAny_bind (wpAny_specialOf (T := "list_iterator") ⟨_, Heap.get?_push_size _ rfl, rfl⟩ slot_listiter_next.lookup (wpAny_pure h))
  unfold callSpecialIfBoundUnlessNone? bindSpecialIfBound? specialOf
  refine wpAny_holding (wpAny_bind (wpAny_bind (wpAny_bind (I.type.here ((looks_findIn X AK.iter).here ?_)))))
  simp only [slot_list_iter.bind]
  refine wpAny_bind (wpAny_askSetting (wpAny_ite ?_))
  split
  · exact wpAny_bind (wpAny_pure (wpAny_pure (fin tail)))
  · exact wpAny_tryCatch (wpAny_bind (wpAny_pure (wpAny_pure (fin tail))))
end
end Mine
end
section
namespace Mine
section
variable {prog : Program} {w : World} {A : Around} {E : Value → Shared → Prop} {s : Shared}
theorem args_sum2 (a b : Value) : argsOk "sum" ⟨[a, b], []⟩ := by unfold argsOk; kernel_rfl
theorem WalksS.shift {I : Addr} {fp wr : List Addr} {G : Array GenState → Array GenState → Prop} {n : Nat} {P : Nat → Value → Prop} {St : Nat → Shared → Prop} (W : WalksS prog w A I fp wr G n P St) :
    WalksS prog w A I fp wr G (n + 1) (fun j v => ∃ i, j = i + 1 ∧ P i v) (fun j s => ∃ i, j = i + 1 ∧ St i s) where
  sub := W.sub
  grefl := W.grefl
  gtrans := W.gtrans
  frame := fun j s h' tk ⟨i, e, st⟩ ht hk => ⟨i, e, W.frame i s h' tk st ht hk⟩
  item := fun j s Q E hj ⟨i, e, st⟩ hQ => W.item i s Q E (by omega) st fun v s' hp hs hm => hQ v s' ⟨i, e, hp⟩ ⟨i + 1, by omega, hs⟩ hm
  done := fun s Q E ⟨i, e, st⟩ hQ => W.done s Q E (by
    have e' : i = n := by omega
    rw [← e']; exact st) hQ
  self := fun j s Q E ⟨i, e, st⟩ hQ => W.self i s Q E st hQ
def valsFrom (v : Int) (val : Nat → Int) : Nat → Int
  | 0 => v
  | j + 1 => val j
theorem preSum_from (v : Int) (val : Nat → Int) : ∀ n, preSum (valsFrom v val) (n + 1) = v + preSum val n
  | 0 => by simp [preSum, valsFrom]
  | n + 1 => by
    have e1 : preSum (valsFrom v val) (n + 1 + 1) = preSum (valsFrom v val) (n + 1) + valsFrom v val (n + 1) := rfl
    have e2 : preSum val (n + 1) = preSum val n + val n := rfl
    rw [e1, preSum_from v val n, e2]
    show v + preSum val n + val n = _
    omega
theorem call_sum2 {x : Value} {v : Int} {t : Tok} {Q : Value → Shared → Prop}
    (h : wpAny (model prog w) A.in1 (pyIter x) (fun it s₂ => ∃ I fp wr G n P St val, it = .ref I ∧ WalksS prog w A.in1 I fp wr G n P St ∧ St 0 s₂ ∧ (∀ b ∈ fp, b < s₂.heap.objs.size) ∧
      (∀ i v, P i v → ∃ t, v = .int (val i) t) ∧
      ∀ s' t', Moved wr G s₂ s' → Q (.int (v + preSum val n) t') s') E s) :
    wpAny (model prog w) A (call (.builtin "sum") [x, .int v t]) Q E s := by
  refine call_function_tree F.kind_sum F.plain_sum F.entry_sum (args_sum2 _ _) ?_
  unfold Builtin.«sum»
  simp only [List.length_cons, List.length_nil]
  rw [if_neg (by decide)]
  refine wpAny_bind (wpAny_of_eq (show Builtin.Builtins.bindParams "sum" ["start"] 0 ⟨[.int v t], []⟩ = pure [some (.int v t)] from rfl) ?_)
  refine wpAny_bind (wpAny_mono h (fun it s₂ h₂ => ?_) fun _ _ e => e)
  obtain ⟨I, fp, wr, G, n, P, St, val, rfl, W, hst, hfp, hval, hQ⟩ := h₂
  have hp0 : preSum (valsFrom v val) 1 = v := by simp [preSum, valsFrom]
  have fin : ∀ (tk : Nat) (t₀ : Tok) (st : Int), (st = 0 ∨ st = 2) → s₂.toks ≤ tk → codeAny (model prog w) A (.builtin "sum.loop" ⟨[.ref I, .ref s₂.heap.objs.size, rawInt st, rawInt 0], []⟩)
      (fun r s' => match r with | .ok (.ret v) => Q v s' | .ok _ => False | .error e => E e s') { s₂ with heap := s₂.heap.push { cls := .type "list", data := .seq #[.int v t₀] }, toks := tk } := by
    intro tk t₀ st hst2 htk
    have hSf : s₂.heap.objs.size ∉ fp := fun hm => Nat.lt_irrefl _ (hfp _ hm)
    refine codeAny_sum_loopAnyS (WalksS.shift W) (valsFrom v val) (fun i u ⟨j, e, hp⟩ => by subst e; exact hval j u hp) s₂.heap.objs.size hSf n 1 _ t₀ 0 st hst2 (by omega) (by omega)
      ⟨0, rfl, W.frame 0 s₂ _ _ hst htk fun b _ o e => Heap.get?_push_of_some _ e⟩ ?_ fun s' t' hm => ?_
    · rw [hp0]; exact Heap.get?_push_size _ rfl
    · rw [preSum_from]
      exact hQ s' t' (hm.drop_new htk)
  dsimp only
  split
  · refine wpAny_bind (wpAny_rule (wpAny_bind (wpAny_mkInt (wpAny_bind (wpAny_pure ?_)))))
    simp only [List.forIn_cons, List.forIn_nil]
    refine wpAny_bind (wpAny_bind (wpAny_bind (wpAny_isInstance (T := "int") (b := false) (typeIs_int _ _ _) PySem.sub_int_str ?_)))
    simp only [Bool.false_eq_true, if_false]
    refine wpAny_pure (wpAny_bind (wpAny_bind (wpAny_isInstance (T := "int") (b := false) (typeIs_int _ _ _) sub_int_bytes ?_)))
    simp only [Bool.false_eq_true, if_false]
    refine wpAny_pure (wpAny_bind (wpAny_bind (wpAny_isInstance (T := "int") (b := false) (typeIs_int _ _ _) sub_int_bytearray ?_)))
    simp only [Bool.false_eq_true, if_false]
    refine wpAny_pure (wpAny_pure ?_)
    refine wpAny_bind (wpAny_newObj_type ?_)
    exact wpAny_pure ⟨plainId_quiet F.plain_sum_loop _, fin _ _ 0 (.inl rfl) (Nat.le_succ _)⟩
  · refine wpAny_bind (wpAny_pure ?_)
    simp only [List.forIn_cons, List.forIn_nil]
    refine wpAny_bind (wpAny_bind (wpAny_bind (wpAny_isInstance (T := "int") (b := false) (typeIs_int _ _ _) PySem.sub_int_str ?_)))
    simp only [Bool.false_eq_true, if_false]
    refine wpAny_pure (wpAny_bind (wpAny_bind (wpAny_isInstance (T := "int") (b := false) (typeIs_int _ _ _) sub_int_bytes ?_)))
    simp only [Bool.false_eq_true, if_false]
    refine wpAny_pure (wpAny_bind (wpAny_bind (wpAny_isInstance (T := "int") (b := false) (typeIs_int _ _ _) sub_int_bytearray ?_)))
    simp only [Bool.false_eq_true, if_false]
    refine wpAny_pure (wpAny_pure ?_)
    refine wpAny_bind (wpAny_newObj_type ?_)
    exact wpAny_pure ⟨plainId_quiet F.plain_sum_loop _, fin _ _ 2 (.inr rfl) (Nat.le_refl _)⟩
end
end Mine
end
section
namespace Mine
def tabA : AO := .sat fun o => ∃ ps : Array Value, o = tabObj ps ∧ TriplesOk ps.toList
structure CodeH (C : Cx) (c P : Addr) : Prop where
  is : ∃ o vs file tf flags tg inF text tt, C.H₀.get? c = some o ∧ o.cls = .type "code" ∧ o.data = .fields vs ∧ vs.getD 11 .none = .ref P ∧ vs.getD 18 .none = .str file tf ∧ vs.getD 7 .none = .int flags tg ∧ vs.getD 9 .none = .bool inF ∧ vs.getD 10 .none = .int text tt ∧ c ≠ P
structure BiOk (C : Cx) : Prop where
  is : ∃ mg o, C.H₀.Ns mainGlobals mg ∧ mg "__builtins__" = some (.ref 4) ∧ C.H₀.get? 4 = some o ∧ o.cls = .type "module" ∧ o.dict = some builtinsNs ∧ o.data = .plain
def tupArr (h : Heap) (T : Addr) : Array Value := match h.get? T with | some ⟨_, _, .seq a _, _⟩ => a | _ => #[]
theorem passing_true_all (n : Nat) : passing (fun _ => true) n 0 = List.range n := by
  unfold passing; simp
section
variable {α : Type} {C : Cx} {A : Around} {g : Heap} {fr : Fm} {E : Value → Shared → Prop} {loc : LOC} {hp : HP} {x : Addr} {i : Int} {sc : Scope} {ow : Str → Bool}
theorem Rep.code {h : Heap} {c P : Addr} (R : Rep C.H₀ g fr loc hp h) (CH : CodeH C c P) (hP : hp P = some tabA) : ∃ ps, h.IsCode c P ps ∧ h.TableAt c P ps := by
  obtain ⟨o, vs, file, tf, flags, tg, inF, text, tt, ho, h0, h1, h2, h3, h4, h5, h6, h7⟩ := CH.is
  obtain ⟨_, _, _, op, hop, ps, rfl, ht⟩ := R.at_ P _ hP
  have h2' : vs[11]? = some (.ref P) := by
    rw [Array.getD_eq_getD_getElem?] at h2
    cases q : vs[11]? with
    | none => rw [q] at h2; cases h2
    | some v => rw [q] at h2; rw [show v = _ from h2]
  exact ⟨ps, ⟨o, vs, file, tf, flags, tg, inF, text, tt, _, R.keep _ _ (R.base _ _ ho), h1, h2, h3, h4, h5, h6, hop, rfl, ht, h7⟩, ⟨o, vs, R.keep _ _ (R.base _ _ ho), h0, h1, h2'⟩, hop⟩
theorem genexprCodeT {M : Model} {A : Around} {E : Value → Shared → Prop} {s : Shared} {env : Env} {c P : Addr} {ps : Array Value} {pos : Pos} {qualname : Str} {scope : Scope} {Q : Value → Shared → Prop} (hc : env.code = .ref c) (hok : s.heap.IsCode c P ps) (htab : s.heap.TableAt c P ps)
    (hQ : ∀ code h' tk ps', Heap.ExtBut P s.heap h' → h'.IsCode c P ps' → h'.TableAt c P ps' → Q code { s with heap := h', toks := tk }) : wpAny M A (genexprCode env pos qualname scope) Q E s := by
  cases hnf : codeAmong pos ps.toList with
  | some cv => exact wpAny_genexprCode_hit hc hok hnf (hQ cv s.heap s.toks ps (Heap.ExtBut.refl _ _) hok htab)
  | none => exact wpAny_genexprCodeX hc hok htab hnf fun c' h' tk e _ _ i _ t _ => hQ _ h' tk _ e i t
theorem WalksS.monoP {prog : Program} {w : World} {I : Addr} {fp wr : List Addr} {G : Array GenState → Array GenState → Prop} {n : Nat} {P P' : Nat → Value → Prop} {St : Nat → Shared → Prop} (W : WalksS prog w A I fp wr G n P St) (h : ∀ i v, P i v → P' i v) : WalksS prog w A I fp wr G n P' St where
  sub := W.sub
  grefl := W.grefl
  gtrans := W.gtrans
  frame := W.frame
  item := fun j s Q E hj st hQ => W.item j s Q E hj st fun v s' hp hs hm => hQ v s' (h _ _ hp) hs hm
  done := W.done
  self := W.self
theorem gen_acc {K : Frag} (X : K.In C.H₀) (AK : AccK K) (W : WOk C) (BI : BiOk C) {P c : Addr} (hcode : fr.env.code = .ref c) (CH : CodeH C c P) (F : FrOf fr sc ow) (hh : A.handled = none) (hroom : A.depth < recursionLimit)
    {ts : List Addr} {ps : List (Value × Value)} (hx : Acc hp x i (ts.map .ref)) (hts : ∀ (k : Nat) (T : Addr) (v : Value × Value), ts[k]? = some T → ps[k]? = some v → hp T = some (.tuple [v.1, v.2])) (hln : ts.length = ps.length) (hP : hp P = some tabA)
    {elt : Expr} {n xa xb : Str} {np pa pb pt pos : Pos} {kt : Nat} {scope : Scope} (hco : scope.isCoroutine = false) (hfree : ∀ y ∈ scope.names, y.2 ≠ .free) (hcell : ∀ y ∈ scope.names, y.2 ≠ .cell) (h0 : scope.names.lookup (".0" : Str) = some NameKind.local)
    (hxa : scope.names.lookup xa = some .local) (hxb : scope.names.lookup xb = some .local) (hab : xa ≠ xb) (hkind : scope.kind = .function)
    (hn : loc n = some (.ref x)) (hd : (n == ("__debug__" : Str)) = false) (hc : (n == ("__classdict__" : Str)) = false) (Fv : Nat → Value → Prop)
    (helt : ∀ (Cg : Addr) (code : Value) (A' : Around) E' (j : Nat) (va vb : Value) (s₂ : Shared) m₂ v, A'.handled = none → ps[j]? = some v → nm va = v.1 → nm vb = v.2 → s₂.heap.Ns Cg m₂ → m₂ xa = some va → m₂ xb = some vb → (∀ b o, C.H₀.get? b = some o → s₂.heap.get? b = some o) →
      wpAny (model C.prog C.w) A' (eval elt (genEnv scope [] Cg code builtinsNs fr.env)) (fun y s₃ => Fv j y ∧ Keeps s₂ s₃) E' s₂)
    (s : Shared) (R : Rep C.H₀ g fr loc hp s.heap) (S : Sok C s) {Q : Value → Shared → Prop}
    (hQ : ∀ a s₅ wr fp St, WalksS C.prog C.w A.in4 a fp wr (GenOnlyQ s.gens.size) ps.length Fv St → St 0 s₅ → (∀ b ∈ fp, b < s₅.heap.objs.size) → a ∈ fp → (∀ j s', St j s' → s'.TypeIs (.ref a) "generator") →
      (∀ b o, s.heap.get? b = some o → b ≠ P → s₅.heap.get? b = some o) → (∀ s', Moved wr (GenOnlyQ s.gens.size) s₅ s' → Sok C s' ∧ Rep C.H₀ g fr loc hp s'.heap) → Q (.ref a) s₅) :
    wpAny (model C.prog C.w) A (eval (.GeneratorExp elt [⟨.Tuple [.Name xa pa, .Name xb pb] kt pt, .Name n np, [], 0⟩] scope pos) fr.env) Q E s := by
  obtain ⟨d, hh1, t, u, ep, vs, nn, e1, e2, e3, I, h1, h2⟩ := R.acc hx
  obtain ⟨pcs, hcd, htb⟩ := R.code CH hP
  have hk₀ : ∀ b o, C.H₀.get? b = some o → s.heap.get? b = some o := fun b o e => R.keep b o (R.base b o e)
  have hvs : vs.size = ps.length := by rw [nm_size e2, List.length_map, hln]
  have hitem : ∀ j, j < vs.size → vs[j]? = some (.ref (ts.getD j 0)) := fun j hj => by
    have hj' : j < ts.length := by omega
    obtain ⟨v, hv, hv'⟩ := nm_get (x := .ref ts[j]) (i := j) e2 (by rw [List.getElem?_map, List.getElem?_eq_getElem hj']; rfl)
    rw [hv, nm_ref hv', List.getD_eq_getElem?_getD, List.getElem?_eq_getElem hj']; rfl
  have htup : ∀ j, j < vs.size → s.heap.IsTuple (ts.getD j 0) (tupArr s.heap (ts.getD j 0)) ∧ ∀ v, ps[j]? = some v → ∃ va vb, tupArr s.heap (ts.getD j 0) = #[va, vb] ∧ nm va = v.1 ∧ nm vb = v.2 := fun j hj => by
    have hj' : j < ts.length := by omega
    have hj'' : j < ps.length := by omega
    have ej : ts.getD j 0 = ts[j] := by rw [List.getD_eq_getElem?_getD, List.getElem?_eq_getElem hj']; rfl
    obtain ⟨ws, m, ew, qw⟩ := R.tuple (hts j ts[j] ps[j] (List.getElem?_eq_getElem hj') (List.getElem?_eq_getElem hj''))
    have et : tupArr s.heap (ts.getD j 0) = ws := by unfold tupArr; rw [ej, ew]
    rw [et, ej]
    refine ⟨⟨_, ew, rfl, m, rfl⟩, fun v hv => ?_⟩
    rw [List.getElem?_eq_getElem hj''] at hv
    cases hv
    have h1 : ws.toList.length = 2 := by simpa using congrArg List.length qw
    match hw : ws.toList, h1 with
    | [va, vb], _ =>
      rw [hw] at qw
      injection qw with q1 q2
      injection q2 with q2 _
      exact ⟨va, vb, by apply Array.toList_inj.mp; rw [hw], q1, q2⟩
  have hTlt : ∀ j, j < vs.size → ts.getD j 0 < s.heap.objs.size := fun j hj => let ⟨⟨o, ho, _⟩, _⟩ := htup j hj; Heap.lt_size ho
  have hxP : x ≠ P := by rintro rfl; rw [h1] at hP; cases hP
  have hTP : ∀ j, j < vs.size → ts.getD j 0 ≠ P := fun j hj e => by
    have hj' : j < ts.length := by omega
    have hj'' : j < ps.length := by omega
    have := hts j ts[j] ps[j] (List.getElem?_eq_getElem hj') (List.getElem?_eq_getElem hj'')
    have ej : ts.getD j 0 = ts[j] := by rw [List.getD_eq_getElem?_getD, List.getElem?_eq_getElem hj']; rfl
    rw [← ej, e, hP] at this; cases this
  obtain ⟨mg, ob, hns, hbm, hob, hob1, hob2, hob3⟩ := BI.is
  refine wpAny_GeneratorExp_walksQT hh hco (closureFor_none hfree) hcell h0 hxa hxb hab hkind hroom ?_ (fun _ => rfl)
  -- the iterable
  have self : wpAny (model C.prog C.w) A (eval (.Name n np) fr.env) (fun v s' => v = .ref x ∧ s' = s) E s := by
    rcases R.loc n _ hn with ⟨k, m, v', hm, e, q⟩ | ⟨k | k, cc, v', l, hm, q⟩
    · exact wpAny_Name (wpAny_loadName_local F.k k hm e ⟨nm_ref q, rfl⟩) hd
    · exact wpAny_Name (wpAny_loadName_cell F.k k l hm ⟨nm_ref q, rfl⟩) hd
    · exact wpAny_Name (wpAny_loadName_free F.k k l hm ⟨nm_ref q, rfl⟩ hc) hd
  refine wpAny_mono self (fun v s' ⟨ev, es⟩ => ?_) fun _ _ e => e
  subst ev; subst es
  refine pyIter_inst (R.K X) AK I ?_
  generalize hI : s'.heap.objs.size = It
  have hIx : x ≠ It := by
    intro e
    have := Heap.lt_size e1
    rw [hI, e] at this
    exact Nat.lt_irrefl _ this
  have hPlt : P < s'.heap.objs.size := R.lt_of_hp hP
  have hIP : It ≠ P := by
    intro e
    rw [hI, e] at hPlt
    exact Nat.lt_irrefl _ hPlt
  have hkp : ∀ b o, s'.heap.get? b = some o → (s'.heap.push { cls := .type "list_iterator", data := .fields #[.ref x, .int 0 0] }).get? b = some o := fun b o e => Heap.get?_push_of_some _ e
  have hItp : (s'.heap.push { cls := .type "list_iterator", data := .fields #[.ref x, .int 0 0] }).get? It = some { cls := .type "list_iterator", data := .fields #[.ref x, .int 0 0] } := by rw [← hI]; exact Heap.get?_push_size _ rfl
  refine ⟨(W.lim.keeps hk₀).keeps hkp, genexprCodeT hcode (hcd.keeps hkp) (htb.keeps hkp) fun code h' tk ps' hext hcd' htb' => ?_⟩
  have hPn : C.H₀.get? P = none := by
    cases q : C.H₀.get? P with
    | none => rfl
    | some o => have := R.base P o q; rw [(R.at_ P _ hP).1] at this; cases this
  have old : ∀ b o, s'.heap.get? b = some o → b ≠ P → h'.get? b = some o := fun b o e hb => hext b o hb (hkp b o e)
  have oldH : ∀ b o, C.H₀.get? b = some o → h'.get? b = some o := fun b o e => old b o (hk₀ b o e) (by rintro rfl; rw [hPn] at e; cases e)
  have hsz' : s'.heap.objs.size < h'.objs.size := by
    have := Heap.lt_size (hext It _ hIP hItp)
    rw [← hI] at this; exact this
  have eg : fr.env.globals = mainGlobals := F.glob
  rw [eg]
  refine wpAny_builtinsFor (hns.keeps oldH) hbm (by decide) (oldH _ _ hob) hob1 hob2 hob3 ?_
  have hcs : cStatics < s'.heap.objs.size := let ⟨_, hn, _⟩ := W.lim.keeps hk₀; hn.lt
  refine ⟨It, It :: x :: (List.range vs.size).map (fun j => ts.getD j 0), [It], vs.size, fun j v => j < vs.size ∧ v = tupArr s'.heap (ts.getD j 0),
    fun j h => h.IsListIter It x j ∧ SeqAt_ h x vs ∧ ∀ k, k < vs.size → h.IsTuple (ts.getD k 0) (tupArr s'.heap (ts.getD k 0)),
    fun j T h => (j < vs.size ∧ T = ts.getD j 0) ∧ h.IsListIter It x (j + 1) ∧ SeqAt_ h x vs ∧ ∀ k, k < vs.size → h.IsTuple (ts.getD k 0) (tupArr s'.heap (ts.getD k 0)), fun _ => true, Fv, rfl,
    fun A' hA => WalksU.inst It x hIx vs _ _ hitem (fun j hj e => absurd (hTlt j hj) (by rw [e, hI]; exact Nat.lt_irrefl _)) A' hA, ?_, ?_, ?_, W.lim.keeps oldH, ?_, ?_, ?_⟩
  · rintro j v ⟨hj, rfl⟩
    obtain ⟨_, hv⟩ := htup j hj
    obtain ⟨va, vb, e, _⟩ := hv _ (List.getElem?_eq_getElem (by omega))
    exact ⟨va, vb, e⟩
  · refine ⟨⟨_, hext It _ hIP hItp, rfl, rfl⟩, ⟨_, nn, old _ _ e1 hxP, rfl⟩, fun k hk => ?_⟩
    obtain ⟨⟨o, ho, r⟩, _⟩ := htup k hk
    exact ⟨o, old _ _ ho (hTP k hk), r⟩
  · intro b hb
    rcases List.mem_cons.mp hb with eb | hb
    · rw [eb]; exact Heap.lt_size (hext It _ hIP hItp)
    · rcases List.mem_cons.mp hb with eb | hb
      · rw [eb]; exact Nat.lt_trans (Heap.lt_size e1) hsz'
      · obtain ⟨j, hj, rfl⟩ := List.mem_map.mp hb
        exact Nat.lt_trans (hTlt j (List.mem_range.mp hj)) hsz'
  · intro hm
    rcases List.mem_cons.mp hm with e | e
    · rw [← hI] at e; exact absurd hcs (by rw [e]; exact Nat.lt_irrefl _)
    · cases e
  · intro href hhref
    refine ⟨fun A' E' j va vb s₂ m₂ hA hPt hns₂ h1 h2 hkp₂ => wpAny_tests_nil ⟨rfl, _, _, rfl, fun _ _ e => e⟩, fun A' E' j va vb s₂ m₂ hA hPt _ hns₂ h1 h2 hkp₂ => ?_⟩
    obtain ⟨hj, ev⟩ := hPt
    obtain ⟨_, hv⟩ := htup j hj
    have hjp : j < ps.length := by omega
    obtain ⟨va', vb', e, q1, q2⟩ := hv _ (List.getElem?_eq_getElem hjp)
    rw [e] at ev
    have e4 := congrArg Array.toList ev
    injection e4 with e5 e6
    injection e6 with e6 _
    subst e5; subst e6
    refine helt _ code A' E' j va vb s₂ m₂ _ hA (List.getElem?_eq_getElem hjp) q1 q2 hns₂ h1 h2 fun b o eb => ?_
    have hb := hk₀ b o eb
    have hblt := Heap.lt_size hb
    refine hkp₂ b (List.mem_range.mpr (Nat.lt_trans hblt hsz')) (fun hm => ?_) o (hhref b o (oldH b o eb))
    rcases List.mem_cons.mp hm with e | e
    · rw [e, hI] at hblt; exact Nat.lt_irrefl _ hblt
    · cases e
  · intro a h₅ tk₅ gs hgs ha1 ha2 keep₅ WS hGA
    have hlen : (passing (fun _ => true) vs.size 0).length = ps.length := by rw [passing_true_all, List.length_range, hvs]
    rw [hlen] at WS
    have WS' := WalksS.monoP WS (P' := Fv) fun j v ⟨k, hk, hf⟩ => by
      rw [passing_true_all] at hk
      have hk' := List.getElem?_eq_some_iff.mp hk
      obtain ⟨hlt, e⟩ := hk'
      rw [List.getElem_range] at e
      subst e; exact hf
    have bare : ∀ y ∈ s'.gens.push gs, y.bare = true := fun y hy => by
      rcases Array.mem_push.mp hy with h | h
      · exact S.2 y h
      · rw [h]; exact hgs
    refine hQ a _ _ _ _ WS' hGA ?_ (List.mem_cons_self ..) (fun j s'' h => ?_) (fun b o e hb => keep₅ b o (old b o e hb)) fun s'' hm => ⟨⟨hm.os.trans S.1, hm.gens.bare bare⟩, ?_⟩
    · intro b hb
      show b < h₅.objs.size
      rcases List.mem_cons.mp hb with eb | hb
      · rw [eb, ha2]; exact Nat.lt_succ_self _
      · have hsz5 : h'.objs.size < h₅.objs.size := by
          have h1 : h'.objs.size < a := ha1
          rw [ha2]; exact Nat.lt_succ_of_lt h1
        rcases List.mem_cons.mp hb with eb | hb
        · rw [eb]; exact hsz5
        · exact Nat.lt_trans (List.mem_range.mp hb) hsz5
    · obtain ⟨⟨o, _, _, ho, hc, _⟩, _⟩ := h
      exact ⟨o, ho, hc⟩
    · have hk5 : ∀ b o, ¬ b = P → s'.heap.get? b = some o → s''.heap.get? b = some o := fun b o hb e => by
        have hblt := Heap.lt_size e
        refine hm.heap b o (fun hmem => ?_) (keep₅ b o (old b o e hb))
        rcases List.mem_cons.mp hmem with e' | hmem
        · have e'' : b = h'.objs.size := e'
          rw [e''] at hblt
          exact absurd (Nat.lt_trans hblt hsz') (Nat.lt_irrefl _)
        · rcases List.mem_cons.mp hmem with e' | e'
          · rw [e', ← hI] at hblt; exact Nat.lt_irrefl _ hblt
          · cases e'
      refine R.step (W := fun b => b = P) (fun b hb => by subst hb; exact ⟨_, hP⟩) hk5 fun b ao eb => ⟨.inl ⟨_, eb⟩, ?_⟩
      by_cases hb : b = P
      · subst hb
        rw [hP] at eb; cases eb
        obtain ⟨_, _, _, _, _, _, _, _, _, op, _, _, _, _, _, _, _, hop₀, hod, hot, _⟩ := hcd'
        have hop := htb'.2
        have hopl := Heap.lt_size hop
        refine ⟨_, hm.heap _ _ (fun hmem => ?_) (keep₅ _ _ hop), ps', rfl, hot⟩
        rcases List.mem_cons.mp hmem with e' | hmem
        · have e'' : b = h'.objs.size := e'
          rw [e''] at hopl; exact Nat.lt_irrefl _ hopl
        · rcases List.mem_cons.mp hmem with e' | e'
          · exact hIP e'.symm
          · cases e'
      · obtain ⟨_, _, _, o, ho, hi⟩ := R.at_ b ao eb
        exact ⟨o, hk5 b o hb ho, hi⟩
end
end Mine
end
section
namespace Mine
section
variable {α : Type} {C : Cx} {A : Around} {g : Heap} {fr : Fm} {E : Value → Shared → Prop} {loc : LOC} {hp : HP} {x : Addr} {i : Int} {sc : Scope} {ow : Str → Bool}
theorem aw_callFnX {f : Addr} {fd : FuncData} {body : List Stmt} {vals : List Value} {kw : List (Str × Value)} {binds : List (Str × Value)} {Q : Value → LOC → HP → Prop}
    (F : FnAt C f fd) (hbody : fd.body = .stmts body) (hclo : fd.closure = []) (hlim : C.H₀.NoLimit) (hroom : A.depth < recursionLimit)
    (hbind : ∀ s : Shared, (∀ b o, C.H₀.get? b = some o → s.heap.get? b = some o) → BindsTo s fd ⟨vals, kw⟩ binds)
    (hkb : (binds.all fun x => fd.scope.names.lookup x.1 == some .local || fd.scope.names.lookup x.1 == some .cell) = true)
    (hg : fd.globals = mainGlobals) (hb : fd.builtins = builtinsNs) (hf : fd.scope.names.all (fun x => x.2 != .free) = true)
    (h : ∀ g' L E', FrOf (fnFm fd L f) fd.scope allOwn → awf C (A.deeper (callEnvC fd L f)) g' (fnFm fd L f) E' (execs body (fnFm fd L f).env) (bindLoc binds fun _ => none) hp fun fl _ p => Q (retOf fl) loc p) :
    awv C A g fr E (call (.ref f) vals kw) loc hp Q := fun s R S => by
  obtain ⟨o, ho, hd⟩ := F.at_
  have hkind : ∀ x ∈ binds, fd.scope.names.lookup x.1 = some .local ∨ fd.scope.names.lookup x.1 = some .cell := fun x hx => by
    have := List.all_eq_true.mp hkb x hx
    rcases Bool.or_eq_true_iff.mp this with q | q
    · exact .inl (by simpa using q)
    · exact .inr (by simpa using q)
  have hk : ∀ b o, C.H₀.get? b = some o → s.heap.get? b = some o := fun b o e => R.keep b o (R.base b o e)
  refine wpAny_call (codeAny_call_function hroom (hk _ _ ho) hd F.co F.gen hbody (F.code.keeps hk) (hbind s hk _ _ _ _ ?_))
  rw [hclo]
  refine wpAny_newFunctionEnv_cells F.kind (fun x hx => (hkind x hx).imp id fun e => ⟨e, cellsFrom_some _ _ _ (.inl e)⟩) fun env he s' x => ?_
  subst he
  refine ⟨(hlim.keeps hk).keeps x.toInCall.keep, codeAny_func ?_⟩
  have R' := rep_called (h := s.heap) R hkind x
  refine wpAny_mono (h _ _ _ (frOf_fn fd _ f F.kind hg hb hf) s' R' (sok_called S x)) (fun fl s'' hq => ?_) fun _ _ e => e
  obtain ⟨S'', l', p', R'', q⟩ := hq
  refine ⟨S'', loc, p', R.asleep R''.keep fun b ao e => ?_, ?_⟩
  · obtain ⟨a1, _, _, a4⟩ := R''.at_ b ao e
    exact ⟨a1, a4⟩
  · cases fl <;> exact q
theorem name_here {s : Shared} {n : Str} {np : Pos} (F : FrOf fr sc ow) (R : Rep C.H₀ g fr loc hp s.heap) (hn : loc n = some (.ref x)) (hd : (n == ("__debug__" : Str)) = false) (hc : (n == ("__classdict__" : Str)) = false) :
    wpAny (model C.prog C.w) A (eval (.Name n np) fr.env) (fun v s' => v = .ref x ∧ s' = s) E s := by
  rcases R.loc n _ hn with ⟨k, m, v', hm, e, q⟩ | ⟨k | k, cc, v', l, hm, q⟩
  · exact wpAny_Name (wpAny_loadName_local F.k k hm e ⟨nm_ref q, rfl⟩) hd
  · exact wpAny_Name (wpAny_loadName_cell F.k k l hm ⟨nm_ref q, rfl⟩) hd
  · exact wpAny_Name (wpAny_loadName_free F.k k l hm ⟨nm_ref q, rfl⟩ hc) hd
theorem aw_sum_acc {K : Frag} (X : K.In C.H₀) (AK : AccK K) (W : WOk C) (BI : BiOk C) {P c : Addr} (hcode : fr.env.code = .ref c) (CH : CodeH C c P) (F : FrOf fr sc ow) (hh : A.handled = none) (hroom : A.depth < recursionLimit)
    {ts : List Addr} {ps : List (Value × Value)} (hx : Acc hp x i (ts.map .ref)) (hts : ∀ (k : Nat) (T : Addr) (v : Value × Value), ts[k]? = some T → ps[k]? = some v → hp T = some (.tuple [v.1, v.2])) (hln : ts.length = ps.length) (hP : hp P = some tabA)
    {elt : Expr} {n xa xb : Str} {np np2 sp ap pa pb pt gpos pos : Pos} {kt : Nat} {scope : Scope} (hco : scope.isCoroutine = false) (hfree : ∀ y ∈ scope.names, y.2 ≠ .free) (hcell : ∀ y ∈ scope.names, y.2 ≠ .cell) (h0 : scope.names.lookup (".0" : Str) = some NameKind.local)
    (hxa : scope.names.lookup xa = some .local) (hxb : scope.names.lookup xb = some .local) (hab : xa ≠ xb) (hkind : scope.kind = .function)
    (hn : loc n = some (.ref x)) (hd : (n == ("__debug__" : Str)) = false) (hc : (n == ("__classdict__" : Str)) = false) (hks : sc.names.lookup ("sum" : Str) = some .globalImplicit)
    (hbase : attributeBase (.Name n np2) "_initial_size" fr.env (eval (.Name n np2) fr.env) = eval (.Name n np2) fr.env) (val : Nat → Int)
    (helt : ∀ (Cg : Addr) (code : Value) (A' : Around) E' (j : Nat) (va vb : Value) (s₂ : Shared) m₂ v, A'.handled = none → ps[j]? = some v → nm va = v.1 → nm vb = v.2 → s₂.heap.Ns Cg m₂ → m₂ xa = some va → m₂ xb = some vb → (∀ b o, C.H₀.get? b = some o → s₂.heap.get? b = some o) →
      wpAny (model C.prog C.w) A' (eval elt (genEnv scope [] Cg code builtinsNs fr.env)) (fun y s₃ => (∃ t, y = .int (val j) t) ∧ Keeps s₂ s₃) E' s₂)
    {Q : Value → LOC → HP → Prop} (hQ : Q (.int (i + preSum val ps.length) 0) loc hp) :
    awv C A g fr E (eval (.Call (.Name "sum" sp) [.GeneratorExp elt [⟨.Tuple [.Name xa pa, .Name xb pb] kt pt, .Name n np, [], 0⟩] scope gpos, .Attribute (.Name n np2) "_initial_size" ap] [] pos) fr.env) loc hp Q := fun s R S => by
  have hsum := aw_Glob (C := C) (A := A) (g := g) (fr := fr) (E := E) (loc := loc) (hp := hp) (x := "sum") (pos := sp) (v := .builtin "sum") (Q := fun v l p => v = .builtin "sum" ∧ l = loc ∧ p = hp) F.k F.glob F.bi (F.kindOf hks) W.sum ⟨rfl, rfl, rfl⟩ (by decide) rfl
  refine Call_Name2 (wpAny_mono (hsum s R S) (fun f s₁ ⟨S₁, l, p, R₁, e1, e2, e3⟩ => ?_) fun _ _ e => e)
  subst e2; subst e3
  have := nm_builtin e1; subst this
  refine Calls.callWith_builtin rfl (Calls.evalArgs_plain (Calls.spliced_cons ?_))
  refine gen_acc X AK W BI hcode CH F hh hroom hx hts hln hP hco hfree hcell h0 hxa hxb hab hkind hn hd hc (fun j y => ∃ t, y = .int (val j) t) helt s₁ R₁ S₁ fun a s₅ wr fp St WS hst hfp haf hT hk hfin => ?_
  obtain ⟨S₅, R₅⟩ := hfin s₅ ⟨fun _ _ _ e => e, .inl rfl, rfl, rfl, Nat.le_refl _⟩
  refine Calls.spliced_cons ?_
  rw [arm_eval_Attribute, hbase]
  refine wpAny_bind (wpAny_mono (name_here F R₅ hn hd hc) (fun v s' ⟨ev, es⟩ => ?_) fun _ _ e => e)
  subst ev; subst es
  obtain ⟨d, hh1, t, u, ep, vs, nn, ee1, ee2, ee3, I, h1, h2⟩ := R₅.acc hx
  refine wpAny_bind (wpAny_standAt (wpAny_bind (wpAny_holding (acc_value (R₅.K X) AK I (AK.size ..) rfl ?_))))
  refine wpAny_bind (wpAny_of_eq (a := ()) rfl (wpAny_pure (Calls.spliced_nil ?_)))
  refine call_sum2 ?_
  have st6 := WS.frame 0 s' s'.heap (s'.toks + 1) hst (Nat.le_succ _) fun b _ o e => e
  refine (WalksS.in4_1 WS).self 0 _ _ _ st6 ⟨a, fp, wr, _, _, _, St, val, rfl, WalksS.in4_1 WS, st6, hfp, fun j v hv => hv, fun s'' t' hm => ?_⟩
  have hm' : Moved wr (GenOnlyQ s₁.gens.size) s' s'' := ⟨hm.heap, hm.gens, hm.drawn, hm.os, Nat.le_trans (Nat.le_succ _) hm.toks⟩
  obtain ⟨S₆, R₆⟩ := hfin s'' hm'
  exact ⟨S₆, l, p, R₆, hQ⟩
end
end Mine
end
section
namespace Mine
structure AccW2 (C : Cx) : Prop where
  bi : BiOk C
  cLen : CodeH C 117 113
  cStr : CodeH C 124 120
  gEmpty : ∃ t, Glb C "EMPTYSTRING" (.str Str.empty t)
theorem glob_here {C : Cx} {A : Around} {E : Value → Shared → Prop} {s : Shared} {env : Env} {x : Str} {pos : Pos} {v : Value} (hG : Glb C x v) (hk : env.scope.kind = .function) (hg : env.globals = mainGlobals) (hb : env.builtins = builtinsNs) (hx : env.kindOf x = some .globalImplicit)
    (hk' : ∀ b o, C.H₀.get? b = some o → s.heap.get? b = some o) (hd : (x == ("__debug__" : Str)) = false) : wpAny (model C.prog C.w) A (eval (.Name x pos) env) (fun u s' => u = v ∧ s' = s) E s := by
  rcases hG.is with ⟨mg, n, e⟩ | ⟨mg, mb, n, e, n', e'⟩
  · exact Name_function_global hk hx (loadGlobal_global (hg ▸ n.keeps hk') e ⟨rfl, rfl⟩) hd
  · exact Name_function_global hk hx (loadGlobal_builtin (hg ▸ n.keeps hk') e (hb ▸ n'.keeps hk') e' ⟨rfl, rfl⟩) hd
theorem len_here {C : Cx} (W : WOk C) {A : Around} {E : Value → Shared → Prop} {s : Shared} {env : Env} {n : Str} {p1 p2 pos : Pos} {m : Str → Option Value} {y : Str} {t : Tok} {Q : Value → Shared → Prop} (hk : env.scope.kind = .function) (hg : env.globals = mainGlobals) (hb : env.builtins = builtinsNs)
    (hx : env.kindOf "len" = some .globalImplicit) (hn : env.kindOf n = some .local) (hns : s.heap.Ns env.locals m) (hm : m n = some (.str y t)) (hy : y.length ≤ 100000) (hk' : ∀ b o, C.H₀.get? b = some o → s.heap.get? b = some o) (hd : (n == ("__debug__" : Str)) = false)
    (h : ∀ u tk, Q (.int y.length u) { s with toks := tk }) : wpAny (model C.prog C.w) A (eval (.Call (.Name "len" p1) [.Name n p2] [] pos) env) Q E s := by
  refine Call_Name1 (wpAny_mono (glob_here W.len hk hg hb hx hk' (by decide)) (fun f s₁ ⟨e1, e2⟩ => ?_) fun _ _ e => e)
  subst e1; subst e2
  refine Calls.callWith_builtin rfl (Calls.evalArgs_plain (Calls.spliced_cons (wpAny_Name (wpAny_loadName_local hk hn hns hm (Calls.spliced_nil ?_)) hd)))
  exact P.len_str (by omega) (h _ _)
def lenSum (ps : List (Str × Str)) : Nat → Int := fun j => ((ps.getD j (Str.empty, Str.empty)).1.length : Int) + ((ps.getD j (Str.empty, Str.empty)).2.length : Int)
def strPs (ps : List (Str × Str)) : List (Value × Value) := ps.map fun v => (.str v.1 0, .str v.2 0)
section
variable {C : Cx} {A : Around} {g : Heap} {fr : Fm} {E : Value → Shared → Prop} {loc : LOC} {hp : HP} {x : Addr} {i : Int} {ts : List Addr} {ps : List (Str × Str)} {Q : Value → LOC → HP → Prop}
structure Pile (p : HP) (x : Addr) (i : Int) (ts : List Addr) (ps : List (Str × Str)) : Prop where
  acc : Acc p x i (ts.map .ref)
  len : ts.length = ps.length
  at_ : ∀ (k : Nat) (T : Addr) (v : Str × Str), ts[k]? = some T → ps[k]? = some v → p T = some (.tuple [.str v.1 0, .str v.2 0])
theorem Pile.strs {p : HP} (h : Pile p x i ts ps) : ∀ (k : Nat) (T : Addr) (v : Value × Value), ts[k]? = some T → (strPs ps)[k]? = some v → p T = some (.tuple [v.1, v.2]) := fun k T v e1 e2 => by
  unfold strPs at e2
  rw [List.getElem?_map] at e2
  obtain ⟨w, hw, rfl⟩ := Option.map_eq_some_iff.mp e2
  exact h.at_ k T w e1 hw
theorem accLen_ok (W : WOk C) (AW : AccW C) (A2 : AccW2 C) (hroom : A.depth + 1 < recursionLimit) (hh : A.handled = none) (hx : Pile hp x i ts ps) (hP : hp 113 = some tabA) (hy : ∀ v ∈ ps, v.1.length ≤ 100000 ∧ v.2.length ≤ 100000)
    (h : Q (.int (i + preSum (lenSum ps) ps.length) 0) loc hp) : onCall C A g fr E (.ref 118) [.ref x] [] loc hp Q := onCall1 fun v hv => by
  obtain ⟨K, X, AK⟩ := AW.K
  obtain ⟨pm, F⟩ := AW.fLen
  have hln : ts.length = (strPs ps).length := by unfold strPs; rw [List.length_map]; exact hx.len
  refine aw_callFnX F rfl rfl W.lim (by omega) (binds := [("self", v)]) (fun s hk => kp_binds frag0 fun S => by rfl) (by rfl) rfl rfl (by rfl) fun g' L E' hF => ?_
  unfold bindLoc bindLoc
  rw [hv]
  clear F
  refine aw_execs_cons (aw_Return ?_)
  refine aw_sum_acc X AK W A2.bi (P := 113) (c := 117) rfl A2.cLen hF ?hh ?room hx.acc hx.strs hln hP ?a1 ?a2 ?a3 ?a4 ?a5 ?a6 ?a7 ?a8 ?a9 ?b1 ?b2 ?b3 ?b4 (lenSum ps) ?e ?q
  case hh => exact hh
  case room => show A.depth + 1 < _; omega
  case a1 => rfl
  case a2 => decide
  case a3 => decide
  case a4 => rfl
  case a5 => rfl
  case a6 => rfl
  case a7 => decide
  case a8 => rfl
  case a9 => exact lset_eq
  case b1 => decide
  case b2 => decide
  case b3 => rfl
  case b4 => with_unfolding_all rfl
  case e =>
    intro Cg code A' E₂ j va vb s₂ m₂ v hA hj h1 h2 hns e1 e2 hk
    unfold strPs at hj
    rw [List.getElem?_map] at hj
    obtain ⟨w, hw, rfl⟩ := Option.map_eq_some_iff.mp hj
    obtain ⟨t1, rfl⟩ := nm_str h1
    obtain ⟨t2, rfl⟩ := nm_str h2
    obtain ⟨hy1, hy2⟩ := hy w (List.mem_of_getElem? hw)
    have ew : ps.getD j (Str.empty, Str.empty) = w := by rw [List.getD_eq_getElem?_getD, hw]; rfl
    rw [eval_BinOp]
    refine wpAny_bind (len_here W rfl rfl rfl (by rfl) (by rfl) hns e1 hy1 hk (by decide) fun u tk => ?_)
    refine wpAny_bind (wpAny_holding (len_here W rfl rfl rfl (by rfl) (by rfl) (s := { s₂ with toks := tk }) hns e2 hy2 hk (by decide) fun u' tk' => ?_))
    refine wpAny_bind (wpAny_standAt (wpAny_operate' (add_int ?_)))
    have es : (w.1.length : Int) + (w.2.length : Int) = lenSum ps j := by unfold lenSum; rw [ew]
    exact ⟨⟨_, congrArg (fun z => Value.int z _) es⟩, _, _, rfl, fun _ _ e => e⟩
  case q => rw [← hln, hx.len]; exact h
end
end Mine
end
section
namespace Mine
section
variable {C : Cx} {A : Around} {g : Heap} {fr : Fm} {E : Value → Shared → Prop} {loc : LOC} {hp : HP} {x : Addr} {i : Int} {ts : List Addr} {ps : List (Str × Str)} {Q : Value → LOC → HP → Prop} {sc : Scope} {ow : Str → Bool}
theorem call_len_pile (W : WOk C) (AW : AccW C) (A2 : AccW2 C) (hroom : A.depth + 1 < recursionLimit) (hh : A.handled = none) (hx : Pile hp x i ts ps) (hP : hp 113 = some tabA) (hy : ∀ v ∈ ps, v.1.length ≤ 100000 ∧ v.2.length ≤ 100000)
    (h0 : 0 ≤ i + preSum (lenSum ps) ps.length) (h1 : i + preSum (lenSum ps) ps.length < 2 ^ 60) (h : Q (.int (i + preSum (lenSum ps) ps.length) 0) loc hp) : onCall C A g fr E (.builtin "len") [.ref x] [] loc hp Q := onCall1 fun v hv => by
  have := nm_ref hv; subst this
  obtain ⟨K, X, AK⟩ := AW.K
  intro s R S
  obtain ⟨d, hh1, t, u, ep, vs, nn, e1, e2, e3, I, h2, h3⟩ := R.acc hx.acc
  refine Calls.call_function_entry kind_len plain_len entry_len (args_len1 _) ?_
  unfold Builtin.«len»
  refine wpAny_bind (m := oneArg "len" _) (wpAny_pure ?_)
  have fn := accLen_ok (A := A.in1) (g := g) (fr := fr) (E := E) (loc := loc) (hp := hp) (Q := fun v l p => v = .int (i + preSum (lenSum ps) ps.length) 0 ∧ l = loc ∧ p = hp) W AW A2 hroom hh hx hP hy ⟨rfl, rfl, rfl⟩ [.ref x] [] rfl rfl
  refine wpAny_bind (m := callSpecial? (.ref x) (Str.ofString "__len__")) (special_fn (R.K X) I AK.len (AK.tf 118 (by decide)) (wpAny_mono (fn s R S) (fun r s' ⟨S', l, p, R', e, el, ep⟩ => ?_) fun _ _ y => y))
  subst el; subst ep
  obtain ⟨t', rfl⟩ := nm_int e
  refine wpAny_bind (wpAny_holding (wpAny_pure ?_))
  refine wpAny_bind (wpAny_letGo ?_)
  show wpAny _ _ (if i + preSum (lenSum ps) ps.length < 0 then _ else _) _ _ _
  rw [if_neg (by omega)]
  show wpAny _ _ (if i + preSum (lenSum ps) ps.length ≥ 2 ^ 63 then _ else _) _ _ _
  rw [if_neg (by omega)]
  exact wpAny_bind (wpAny_mkInt (wpAny_pure ⟨_, rfl, S', l, p, R', h⟩))
def pieceText (v : Str × Str) : Str := Txt.join Str.empty [v.1, v.2]
def pileText (ps : List (Str × Str)) : Str := Txt.join Str.empty (ps.map pieceText)
theorem pieceText_len (v : Str × Str) : (pieceText v).length ≤ v.1.length + v.2.length := by
  have e : Txt.join Str.empty [v.1, v.2] = Str.join Str.empty [v.1, v.2] := beq_iff_eq.mp (join_plain_closes _ _)
  have := StrLaws.join_length_le Str.empty [v.1, v.2]
  unfold pieceText
  rw [e]
  have e0 : Str.empty.length = 0 := rfl
  rw [e0] at this
  simpa using this
theorem sum_le (M : Nat) : ∀ l : List Str, (∀ y ∈ l, y.length ≤ M) → (l.map (·.length)).sum ≤ l.length * M
  | [], _ => by simp
  | a :: l, h => by
    have h1 := h a (.head _)
    have h2 := sum_le M l fun y hy => h y (.tail _ hy)
    simp only [List.map_cons, List.sum_cons, List.length_cons, Nat.add_mul, Nat.one_mul]
    omega
theorem join_here (W : WOk C) (A2 : AccW2 C) {s : Shared} {env : Env} {n1 n2 : Str} {p1 ap p2 p3 tp pos : Pos} {k} {m : Str → Option Value} {y1 y2 : Str} {t1 t2 : Tok} {Q : Value → Shared → Prop} (hk : env.scope.kind = .function) (hg : env.globals = mainGlobals) (hb : env.builtins = builtinsNs)
    (hx : env.kindOf "EMPTYSTRING" = some .globalImplicit) (hn1 : env.kindOf n1 = some .local) (hn2 : env.kindOf n2 = some .local) (hns : s.heap.Ns env.locals m) (hm1 : m n1 = some (.str y1 t1)) (hm2 : m n2 = some (.str y2 t2)) (hy1 : y1.length ≤ 100000) (hy2 : y2.length ≤ 100000)
    (hk' : ∀ b o, C.H₀.get? b = some o → s.heap.get? b = some o) (hd1 : (n1 == ("__debug__" : Str)) = false) (hd2 : (n2 == ("__debug__" : Str)) = false) (hbase : attributeBase (.Name "EMPTYSTRING" p1) "join" env (eval (.Name "EMPTYSTRING" p1) env) = eval (.Name "EMPTYSTRING" p1) env) (hline : (ap.endLine == pos.line) = true)
    (h : ∀ u tk h', (∀ b o, s.heap.get? b = some o → h'.get? b = some o) → Q (.str (pieceText (y1, y2)) u) { s with heap := h', toks := tk }) :
    wpAny (model C.prog C.w) A (eval (.Call (.Attribute (.Name "EMPTYSTRING" p1) "join" ap) [.Tuple [.Name n1 p2, .Name n2 p3] k tp] [] pos) env) Q E s := by
  obtain ⟨te, hG⟩ := A2.gEmpty
  refine wpAny_Call_method_lateS hbase rfl hline (wpAny_mono (glob_here hG hk hg hb hx hk' (by decide)) (fun ov s₁ ⟨e1, e2⟩ => ?_) fun _ _ e => e)
  subst e1; subst e2
  refine ⟨"str", "str.join", F.plainAttrs_str, F.slot_str_join, F.type_str_join, typeIs_str _ _ _, (fun _ e => nomatch e), ?_⟩
  refine Calls.callWith_builtin rfl (Calls.evalArgs_plain (Calls.spliced_cons ?_))
  refine wpAny_Tuple (k := k) (Calls.spliced_cons (wpAny_Name (wpAny_loadName_local hk hn1 hns hm1 (Calls.spliced_cons (wpAny_Name (wpAny_loadName_local hk hn2 hns hm2 (Calls.spliced_nil ⟨(by rw [sizeLine_eq]; simp), Calls.spliced_nil ?_⟩)) hd2))) hd1))
  refine join_tuple (ys := [y1, y2]) ⟨_, Heap.get?_push_size _ rfl, rfl, _, rfl⟩ (.cons y1 t1 (.cons y2 t2 .nil)) ?_ fun t' k => h t' k _ fun b o e => Heap.get?_push_of_some _ e
  show y1.length + (y2.length + 0) + 2 * 0 ≤ _
  omega
theorem accStr_ok (W : WOk C) (AW : AccW C) (A2 : AccW2 C) (hroom : A.depth + 1 < recursionLimit) (hh : A.handled = none) (hx : Pile hp x i ts ps) (hP : hp 120 = some tabA) (hy' : ∀ v ∈ ps, v.1.length ≤ 1000 ∧ v.2.length ≤ 1000) (hn : ps.length ≤ 1000)
    (h : Q (.str (pileText ps) 0) loc hp) : onCall C A g fr E (.ref 125) [.ref x] [] loc hp Q := onCall1 fun v hv => by
  obtain ⟨K, X, AK⟩ := AW.K
  obtain ⟨pm, F⟩ := AW.fStr
  obtain ⟨te, hG⟩ := A2.gEmpty
  have hln : ts.length = (strPs ps).length := by unfold strPs; rw [List.length_map]; exact hx.len
  refine aw_callFnX F rfl rfl W.lim (by omega) (binds := [("self", v)]) (fun s hk => kp_binds frag0 fun S => by rfl) (by rfl) rfl rfl (by rfl) fun g' L E' hF => ?_
  unfold bindLoc bindLoc
  rw [hv]
  clear F
  refine aw_execs_cons (aw_Return ?_)
  intro s R S
  have hk' : ∀ b o, C.H₀.get? b = some o → s.heap.get? b = some o := fun b o e => R.keep b o (R.base b o e)
  refine wpAny_Call_method_lateS (by with_unfolding_all rfl) rfl (by rfl) (wpAny_mono (glob_here hG rfl rfl rfl (by rfl) hk' (by decide)) (fun ov s₁ ⟨e1, e2⟩ => ?_) fun _ _ e => e)
  subst e1; subst e2
  refine ⟨"str", "str.join", F.plainAttrs_str, F.slot_str_join, F.type_str_join, typeIs_str _ _ _, (fun _ e => nomatch e), ?_⟩
  refine Calls.callWith_builtin rfl (Calls.evalArgs_plain (Calls.spliced_cons ?_))
  refine gen_acc X AK W A2.bi (P := 120) (c := 124) rfl A2.cStr hF ?hh ?room hx.acc hx.strs hln hP ?a1 ?a2 ?a3 ?a4 ?a5 ?a6 ?a7 ?a8 ?a9 ?b1 ?b2 (fun j y => ∃ t, y = .str (pieceText (ps.getD j (Str.empty, Str.empty))) t) ?e s₁ R S ?q
  case hh => exact hh
  case room => show A.depth + 1 < _; omega
  case a1 => rfl
  case a2 => decide
  case a3 => decide
  case a4 => rfl
  case a5 => rfl
  case a6 => rfl
  case a7 => decide
  case a8 => rfl
  case a9 => exact lset_eq
  case b1 => decide
  case b2 => decide
  case e =>
    intro Cg code A' E₂ j va vb s₂ m₂ v hA hj h1 h2 hns e1 e2 hk
    unfold strPs at hj
    rw [List.getElem?_map] at hj
    obtain ⟨w, hw, rfl⟩ := Option.map_eq_some_iff.mp hj
    obtain ⟨t1, rfl⟩ := nm_str h1
    obtain ⟨t2, rfl⟩ := nm_str h2
    obtain ⟨hy1, hy2⟩ := hy' w (List.mem_of_getElem? hw)
    have ew : ps.getD j (Str.empty, Str.empty) = w := by rw [List.getD_eq_getElem?_getD, hw]; rfl
    rw [ew]
    exact join_here W A2 rfl rfl rfl (by rfl) (by rfl) (by rfl) hns e1 e2 (by omega) (by omega) hk (by decide) (by decide) (by with_unfolding_all rfl) (by rfl) fun u tk h' hk => ⟨⟨u, rfl⟩, _, _, rfl, hk⟩
  case q =>
    intro a s₅ wr fp St WS hst hfp haf hT hk hfin
    refine Calls.spliced_nil ?_
    refine SC.joinGen (WS.of_in1.of_in1) hT hst hfp haf (fun j v ⟨t, e⟩ => ⟨_, t, e⟩) (fun s' l hm hl => ?_) ?_
    · have hl' : l.map (·.1) = ps.map pieceText := by
        obtain ⟨hl1, hl2⟩ := hl
        have hlen : l.length = ps.length := by
          have : (strValues l).toArray.size = (strPs ps).length := hl1
          unfold strValues strPs at this
          simpa using this
        apply List.ext_getElem?
        intro j
        rw [List.getElem?_map, List.getElem?_map]
        rcases Nat.lt_or_ge j l.length with q | q
        · have q' : j < ps.length := by omega
          rw [List.getElem?_eq_getElem q, List.getElem?_eq_getElem q']
          obtain ⟨t, e⟩ := hl2 j (.str l[j].1 l[j].2) (by unfold strValues; simp [q])
          injection e with e _
          simp only [Option.map_some]
          rw [e, List.getD_eq_getElem?_getD, List.getElem?_eq_getElem q']; rfl
        · rw [List.getElem?_eq_none q, List.getElem?_eq_none (by omega)]; rfl
      obtain ⟨S₆, R₆⟩ := hfin s' hm
      rw [hl']
      refine ⟨joinOk_of ?_, fun t' k => ⟨S₆, _, hp, R₆, h⟩⟩
      have hb : ∀ y ∈ ps.map pieceText, y.length ≤ 2000 := fun y hy => by
        obtain ⟨v, hv, rfl⟩ := List.mem_map.mp hy
        have := pieceText_len v
        obtain ⟨h1, h2⟩ := hy' v hv
        omega
      have h1 := sum_le 2000 _ hb
      have e0 : Str.empty.length = 0 := rfl
      rw [List.length_map] at h1
      rw [e0, Nat.mul_zero]
      omega
    · rw [← hln, hx.len, sizeLine_eq]; omega
end
end Mine
end
section
namespace Mine
def total (ps : List (Str × Str)) : Int := preSum (lenSum ps) ps.length
def pushOne (head : Int) (ps : List (Str × Str)) (it : Int × Str) : List (Str × Str) := ps ++ [(reps (it.1 + head - (head + total ps)) 32, it.2)]
def newItems (st : List Int) (ps : List (Str × Str)) (lo : Int) (part : Str) : List (Int × Str) := (lo, part) :: ((st.drop (bisR st lo)).zip (ps.drop (bisR st lo))).map fun z => (z.1, z.2.2)
def placed (head : Int) (st : List Int) (ps : List (Str × Str)) (lo : Int) (part : Str) : List (Str × Str) := (newItems st ps lo part).foldl (pushOne head) (ps.take (bisR st lo))
theorem preSum_congr {f g : Nat → Int} : ∀ {n : Nat}, (∀ j, j < n → f j = g j) → preSum f n = preSum g n
  | 0, _ => rfl
  | n + 1, h => by
    have e1 : preSum f (n + 1) = preSum f n + f n := rfl
    have e2 : preSum g (n + 1) = preSum g n + g n := rfl
    rw [e1, e2, preSum_congr fun j hj => h j (by omega), h n (by omega)]
theorem total_snoc {ps : List (Str × Str)} {v : Str × Str} : total (ps ++ [v]) = total ps + ((v.1.length : Int) + v.2.length) := by
  unfold total
  rw [List.length_append]
  show preSum (lenSum (ps ++ [v])) (ps.length + 1) = _
  have e1 : preSum (lenSum (ps ++ [v])) (ps.length + 1) = preSum (lenSum (ps ++ [v])) ps.length + lenSum (ps ++ [v]) ps.length := rfl
  rw [e1]
  congr 1
  · refine preSum_congr fun j hj => ?_
    unfold lenSum
    rw [List.getD_eq_getElem?_getD, List.getD_eq_getElem?_getD, List.getElem?_append_left hj]
  · unfold lenSum
    rw [List.getD_eq_getElem?_getD, List.getElem?_append_right (Nat.le_refl _), Nat.sub_self]; rfl
theorem preSum_bound {f : Nat → Int} {M : Int} : ∀ {n : Nat}, (∀ j, j < n → 0 ≤ f j ∧ f j ≤ M) → 0 ≤ preSum f n ∧ preSum f n ≤ M * n
  | 0, _ => ⟨Int.le_refl _, by simp [preSum]⟩
  | n + 1, h => by
    have e1 : preSum f (n + 1) = preSum f n + f n := rfl
    obtain ⟨a, b⟩ := preSum_bound (n := n) (f := f) (M := M) fun j hj => h j (by omega)
    obtain ⟨c, d⟩ := h n (by omega)
    rw [e1]
    push_cast
    rw [Int.mul_add, Int.mul_one]
    omega
theorem total_bound {ps : List (Str × Str)} (hy : ∀ v ∈ ps, v.1.length ≤ 100 ∧ v.2.length ≤ 100) : 0 ≤ total ps ∧ total ps ≤ 200 * ps.length := by
  refine preSum_bound fun j hj => ?_
  unfold lenSum
  rw [List.getD_eq_getElem?_getD, List.getElem?_eq_getElem hj]
  obtain ⟨h1, h2⟩ := hy _ (List.getElem_mem hj)
  simp only [Option.getD_some]
  omega
theorem reps_len {n : Int} {c : Nat} : (reps n c).length = n.toNat := by
  unfold reps
  show Array.size _ = _
  simp
section
variable {C : Cx} {A : Around} {g : Heap} {fr : Fm} {E : Value → Shared → Prop} {loc : LOC} {hp : HP} {x : Addr} {i : Int} {Q : Value → LOC → HP → Prop}
theorem it_zipV (hh : A.handled = none) {β : Type} {l : List β} {F G : β → Value} {l1 l2 : Addr} {x y : Str} {px py pos : Pos} {k} {K : List (List Value) → (HP → Prop) → LOC → HP → Prop} (hl1 : hp l1 = some (.list (l.map F))) (hl2 : hp l2 = some (.list (l.map G)))
    (h : K (l.map fun v => [F v, G v]) (fun p => p l1 = some (.list (l.map F)) ∧ p l2 = some (.list (l.map G))) loc hp) :
    onCall C A g fr E (.type "zip") [.ref l1, .ref l2] [] loc hp fun v l p => onIt C A (.Tuple [.Name x px, .Name y py] k pos) [x, y] v l p K := it_zip hh hl1 hl2 (by
  rw [List.zip_map', List.map_map]; exact h)
theorem it_pairsW (hh : A.handled = none) {β : Type} {xs : List β} {f1 f2 : β → Value} {a : Addr} {ts : List Addr} {x y : Str} {px py pos : Pos} {k} {K : List (List Value) → (HP → Prop) → LOC → HP → Prop} (ha : hp a = some (.list (ts.map .ref)))
    (hln : ts.length = xs.length) (hts : ∀ (i : Nat) (T : Addr) (v : β), ts[i]? = some T → xs[i]? = some v → hp T = some (.tuple [f1 v, f2 v]))
    (h : ∀ need : HP → Prop, (∀ p', p' a = some (.list (ts.map .ref)) → (∀ T ∈ ts, ∀ o, hp T = some o → p' T = some o) → need p') → K (xs.map fun v => [f1 v, f2 v]) need loc hp) :
    onIt C A (.Tuple [.Name x px, .Name y py] k pos) [x, y] (.ref a) loc hp K := by
  have hts' : ∀ (p : HP), (∀ T ∈ ts, ∀ o, hp T = some o → p T = some o) → ∀ (i : Nat) (T : Addr) (v : Value × Value), ts[i]? = some T → (xs.map fun v => (f1 v, f2 v))[i]? = some v → p T = some (.tuple [v.1, v.2]) := fun p hs i T v e1 e2 => by
    rw [List.getElem?_map] at e2
    obtain ⟨w, hw, rfl⟩ := Option.map_eq_some_iff.mp e2
    exact hs _ (List.mem_of_getElem? e1) _ (hts i T w e1 hw)
  exact it_pairs (C := C) (loc := loc) (x := x) (y := y) (px := px) (py := py) (pos := pos) (k := k) (K := K) hh (ps := xs.map fun v => (f1 v, f2 v)) ha (by rw [List.length_map]; exact hln) (hts' hp fun _ _ _ e => e)
    (by
      rw [List.map_map]
      exact h _ fun p' ha' hs => ⟨ha', by rw [List.length_map]; exact hln, hts' p' hs⟩)
theorem zip3_map {β γ δ : Type} {f : β → δ → Int × Str} : ∀ (A : List β) (B : List γ) (D : List δ), A.length = B.length → B.length = D.length → ((A.zip (B.zip D)).map fun z => f z.1 z.2.2) = (A.zip D).map fun z => f z.1 z.2
  | [], _, _, _, _ => rfl
  | a :: A, [], _, h, _ => by cases h
  | a :: A, b :: B, [], _, h => by cases h
  | a :: A, b :: B, d :: D, h1, h2 => by
    have := zip3_map (f := f) A B D (by simpa using h1) (by simpa using h2)
    simp only [List.zip_cons_cons, List.map_cons, this]
theorem onCall5 {f a1 a2 a3 a4 a5 : Value} (h : ∀ v1 v2 v3 v4 v5, nm v1 = a1 → nm v2 = a2 → nm v3 = a3 → nm v4 = a4 → nm v5 = a5 → awv C A g fr E (call f [v1, v2, v3, v4, v5] []) loc hp Q) : onCall C A g fr E f [a1, a2, a3, a4, a5] [] loc hp Q := by
  intro vs kw hv hk
  cases List.map_eq_nil_iff.mp hk
  have hl : vs.length = 5 := by have := congrArg List.length hv; simpa using this
  match vs, hl with
  | [v1, v2, v3, v4, v5], _ =>
    injection hv with q1 hv
    injection hv with q2 hv
    injection hv with q3 hv
    injection hv with q4 hv
    injection hv with q5 _
    exact h v1 v2 v3 v4 v5 q1 q2 q3 q4 q5
theorem law_place_ok (W : WOk C) (AW : AccW C) (A2 : AccW2 C) {sa sp : Addr} {ts : List Addr} {ps : List (Str × Str)} {st : List Int} {lo hi : Nat} {head : Int} {c : Nat}
    (hroom : A.depth + 3 < recursionLimit) (hh : A.handled = none) (hx : Pile hp x head ts ps) (hsa : hp sa = some (.list (st.map iv))) (hsp : hp sp = some (.tuple [iv lo, iv hi])) (hP : hp 113 = some tabA) (hlen : st.length = ps.length) (hsz : ps.length ≤ 50)
    (hsort : st.Pairwise (· ≤ ·)) (hst : ∀ v ∈ st, 0 ≤ v ∧ v ≤ 100) (hy : ∀ v ∈ ps, v.1.length ≤ 100 ∧ v.2.length ≤ 100) (hlt : lo < hi) (hhi : hi ≤ 100) (hhead : 0 ≤ head ∧ head ≤ 100)
    (h : ∀ ts' p', Pile p' x head ts' (placed head st ps lo (reps ((hi : Int) - lo) c)) → p' sa = some (.list ((insI st (bisR st lo) lo).map iv)) → (∀ b o, b ≠ x → b ≠ sa → hp b = some o → p' b = some o) → Q .none loc p') :
    onCall C A g fr E (.ref 175) [.ref x, .ref sa, .ref sp, .str ⟨#[c]⟩ 0, iv head] [] loc hp Q := onCall5 fun v1 v2 v3 v4 v5 q1 q2 q3 q4 q5 => by
  obtain ⟨K, X, AK⟩ := AW.K
  obtain ⟨pm, F⟩ := W.fPlace
  have hgR := W.gR
  have hgIR := W.gIR
  have hlenG := W.len
  have hzip := W.zip
  obtain ⟨pmR, FR⟩ := W.fR
  obtain ⟨pmIR, FIR⟩ := W.fIR
  refine aw_callFn F rfl rfl W.lim (by omega) (binds := [("line", v1), ("starts", v2), ("span", v3), ("sign", v4), ("head", v5)]) (fun s hk => kp_binds frag0 fun S => by rfl) (by rfl) rfl rfl (by rfl) fun A' g' fr' E' hd hu' hh' hF => ?_
  rw [hh] at hh'
  unfold bindLoc bindLoc bindLoc bindLoc bindLoc bindLoc
  rw [q1, q2, q3, q4, q5]
  clear F
  refine aw_execs_cons ?_
  repeat' walk_at "kl"
  refine bisect_right_ok W (by omega) hsa (by omega) hsort ?_
  have hkl : bisR st lo ≤ ps.length := by rw [← hlen]; exact List.countP_le_length
  generalize hkdef : bisR st (lo : Int) = k at hkl ⊢
  repeat' walk_at "kl"
  refine ⟨_, meth_acc X AK hx.acc AK.popf (by decide) (fun _ _ _ _ => by rfl), ?_⟩
  obtain ⟨pmP, FP⟩ := AW.fPop
  repeat' walk_at "kl"
  refine ⟨kp_fn FP, pop_ok W AW (by omega) hx.acc (by rw [List.length_map, hx.len]; omega) (by rw [List.length_map, hx.len]; exact hkl) fun c₁ p₁ hc1 hc2 hacc1 hkeep1 => ?_⟩
  have hxsa : sa ≠ x := by rintro rfl; obtain ⟨d, e, _⟩ := hx.acc; rw [hsa] at e; cases e
  have hxsp : sp ≠ x := by rintro rfl; obtain ⟨d, e, _⟩ := hx.acc; rw [hsp] at e; cases e
  have hx113 : (113 : Addr) ≠ x := by rintro rfl; obtain ⟨d, e, _⟩ := hx.acc; rw [hP] at e; cases e
  have hsa1 := hkeep1 sa _ hxsa hsa
  have hsp1 := hkeep1 sp _ hxsp hsp
  have hP1 := hkeep1 113 _ hx113 hP
  repeat' walk_at "kl"
  refine ⟨sa, _, rfl, hsa1, by rw [List.length_map]; omega, fun c₂ hc₂ => ?_⟩
  have hlts : ts.length = ps.length := hx.len
  obtain ⟨L, hLdef⟩ : ∃ L, L = (st.drop k).zip ((ts.drop k).zip (ps.drop k)) := ⟨_, rfl⟩
  have e1 : sliceL (st.map iv) (some (k : Int)) none = L.map fun z => iv z.1 := by
    rw [sliceL_from (by rw [List.length_map]; omega), ← List.map_drop, hLdef]
    have : ((st.drop k).zip ((ts.drop k).zip (ps.drop k))).map Prod.fst = st.drop k := List.map_fst_zip (by simp; omega)
    conv => lhs; rw [← this]
    rw [List.map_map]; rfl
  have e2 : (ts.map Value.ref).drop k = L.map fun z => .ref z.2.1 := by
    rw [← List.map_drop, hLdef]
    have h1 : ((st.drop k).zip ((ts.drop k).zip (ps.drop k))).map Prod.snd = (ts.drop k).zip (ps.drop k) := List.map_snd_zip (by simp; omega)
    have h2 : ((ts.drop k).zip (ps.drop k)).map Prod.fst = ts.drop k := List.map_fst_zip (by simp; omega)
    conv => lhs; rw [← h2, ← h1]
    rw [List.map_map, List.map_map]; rfl
  rw [e1]
  rw [e2] at hc2
  have hLlen : L.length ≤ 50 := by rw [hLdef]; simp; omega
  have hLz : ∀ z ∈ L, p₁ z.2.1 = some (.tuple [.str z.2.2.1 0, .str z.2.2.2 0]) ∧ 0 ≤ z.1 ∧ z.1 ≤ 100 ∧ z.2.2.2.length ≤ 100 := fun z hz => by
    obtain ⟨j, hj⟩ := List.mem_iff_getElem?.mp hz
    rw [hLdef] at hj
    have hj1 := List.getElem?_zip_eq_some.mp hj
    have hj2 := List.getElem?_zip_eq_some.mp hj1.2
    rw [List.getElem?_drop] at hj1
    rw [List.getElem?_drop, List.getElem?_drop] at hj2
    have ht := hx.at_ _ _ _ hj2.1 hj2.2
    refine ⟨hkeep1 _ _ (by rintro e; rw [e] at ht; obtain ⟨d, e', _⟩ := hx.acc; rw [ht] at e'; cases e') ht, ?_⟩
    have h1 := hst _ (List.mem_of_getElem? hj1.1)
    have h2 := hy _ (List.mem_of_getElem? hj2.2)
    exact ⟨h1.1, h1.2, h2.2⟩
  repeat' walk_at "kl"
  refine onCall_mono (it_zipV hh' (hset_eq _ _ _) (hset_of hc₂ hc2) ?zz) fun v l p hz => comp_new L (fun z => [iv z.1, .ref z.2.1]) (fun z => .tuple [iv z.1, .str z.2.2.2 0]) hz
  case zz =>
    refine ⟨rfl, by omega, fun p' hs => ⟨hs _ _ (hset_eq ..), hs _ _ (hset_of hc₂ hc2)⟩, ?elt, ?done⟩
    case elt =>
      intro z hz g₃ fr₃ E₃ p₃ hF₃ hs₃
      have hz1 := hs₃ _ _ (Sub.set hc₂ _ _ (hLz z hz).1)
      dsimp only [tgtNames, setAll]
      repeat' walk_at "kl"
      exact ⟨by simp, fun T hT => ⟨rfl, T, rfl, hT, Sub.set hT, hset_eq ..⟩⟩
    case done =>
      intro D nts p₂ hnl hnn hnt hn0 hs₂ hD
      have hs13 : Sub p₁ (hset p₂ D (.list (nts.map .ref))) := (Sub.set hc₂).trans (hs₂.trans (Sub.set hD))
      have hD3 := hset_eq p₂ D (.list (nts.map .ref))
      have hnt3 : ∀ (j : Nat) (T : Addr) (z : Int × Addr × Str × Str), nts[j]? = some T → L[j]? = some z → hset p₂ D (.list (nts.map .ref)) T = some (.tuple [iv z.1, .str z.2.2.2 0]) := fun j T z a b => hset_of hD (hnt j T z a b)
      generalize hset p₂ D (.list (nts.map .ref)) = p₃ at hs13 hD3 hnt3 ⊢
      have hsp3 := hs13 _ _ hsp1
      repeat' walk_at "kl"
      refine op_mulS (by omega) (by omega) ?_
      repeat' walk_at "kl"
      refine ⟨by simp, fun T0 hT0 => ?_⟩
      repeat' walk_at "kl"
      refine ⟨by simp, fun D0 hD0 => ?_⟩
      repeat' walk_at "kl"
      refine op_add_list (hset_eq _ _ _) (hset_of hD0 (hset_of hT0 hD3)) (by simp; omega) fun D1 hD1 => ?_
      have hT04 : hset (hset (hset p₃ T0 (.tuple [iv lo, .str (reps ((hi : Int) - lo) c) 0])) D0 (.list [.ref T0])) D1 (.list ([.ref T0] ++ nts.map .ref)) T0 = some (.tuple [iv lo, .str (reps ((hi : Int) - lo) c) 0]) := hset_of hD1 (hset_of hD0 (hset_eq ..))
      have hD14 := hset_eq (hset (hset p₃ T0 (.tuple [iv lo, .str (reps ((hi : Int) - lo) c) 0])) D0 (.list [.ref T0])) D1 (.list ([.ref T0] ++ nts.map .ref))
      have hs34 : Sub p₃ (hset (hset (hset p₃ T0 (.tuple [iv lo, .str (reps ((hi : Int) - lo) c) 0])) D0 (.list [.ref T0])) D1 (.list ([.ref T0] ++ nts.map .ref))) := (Sub.set hT0).trans ((Sub.set hD0).trans (Sub.set hD1))
      have eT : [Value.ref T0] ++ nts.map Value.ref = (T0 :: nts).map Value.ref := rfl
      rw [eT] at hT04 hD14 hs34 ⊢
      generalize hset (hset (hset p₃ T0 (.tuple [iv lo, .str (reps ((hi : Int) - lo) c) 0])) D0 (.list [.ref T0])) D1 (.list ((T0 :: nts).map .ref)) = p₄ at hT04 hD14 hs34 ⊢
      have hs14 := hs13.trans hs34
      obtain ⟨items, hitems⟩ : ∃ items, items = newItems st ps lo (reps ((hi : Int) - lo) c) := ⟨_, rfl⟩
      have hit2 : items = ((lo : Int), reps ((hi : Int) - lo) c) :: L.map fun z => (z.1, z.2.2.2) := by
        rw [hitems, hLdef]
        unfold newItems
        rw [hkdef, zip3_map (f := fun a (d : Str × Str) => (a, d.2)) _ _ _ (by simp; omega) (by simp; omega)]
      have hitlen : items.length ≤ 51 := by rw [hit2]; simp; omega
      have hitb : ∀ v ∈ items, 0 ≤ v.1 ∧ v.1 ≤ 100 ∧ v.2.length ≤ 100 := fun v hv => by
        rw [hit2] at hv
        rcases List.mem_cons.mp hv with e | hv
        · rw [e, reps_len]; simp only; omega
        · obtain ⟨z, hz, rfl⟩ := List.mem_map.mp hv
          exact (hLz z hz).2
      have hx4 : ∀ {b : Addr} {o : AO}, p₄ b = some o → (∀ d xs, o ≠ .acc 151 d xs) → b ≠ x := fun e hne => by
        rintro rfl
        obtain ⟨d, e', _⟩ := hacc1
        rw [hs14 _ _ e'] at e; cases e
        exact hne _ _ rfl
      have htup4 : ∀ (j : Nat) (T : Addr) (v : Int × Str), (T0 :: nts)[j]? = some T → items[j]? = some v → p₄ T = some (.tuple [iv v.1, .str v.2 0]) := fun j T v a b => by
        rw [hit2] at b
        cases j with
        | zero => cases a; cases b; exact hT04
        | succ j =>
          rw [List.getElem?_cons_succ] at a b
          rw [List.getElem?_map] at b
          obtain ⟨z, hz, rfl⟩ := Option.map_eq_some_iff.mp b
          exact hs34 _ _ (hnt3 j T z a hz)
      have hnl' : (T0 :: nts).length = items.length := by rw [hit2]; simp [hnl]
      refine it_pairsW hh' (f1 := fun v => iv v.1) (f2 := fun v => .str v.2 0) hD14 hnl' htup4 fun need hneed => ⟨fun n l p => (∀ b o, b ≠ x → p₄ b = some o → p b = some o) ∧ l "line" = some (.ref x) ∧ l "starts" = some (.ref sa) ∧ l "span" = some (.ref sp) ∧ l "head" = some (iv head) ∧
        ∃ ts', Pile p x head ts' ((items.take n).foldl (pushOne head) (ps.take k)) ∧ (∀ v ∈ (items.take n).foldl (pushOne head) (ps.take k), v.1.length ≤ 100 ∧ v.2.length ≤ 100) ∧ ((items.take n).foldl (pushOne head) (ps.take k)).length ≤ k + n, ?i0, ?need, ?turn, ?fin⟩
      case i0 =>
        refine ⟨fun b o _ e => e, ?_, ?_, ?_, ?_, ts.take k, ⟨?_, ?_, fun j T v a b => ?_⟩, fun v hv => hy v (List.mem_of_mem_take hv), by simp; omega⟩
        · walk_at "loc"
        · walk_at "loc"
        · walk_at "loc"
        · walk_at "loc"
        · have := hacc1.mono hs14
          rwa [← List.map_take] at this
        · simp [hlts]
        · simp only [List.take_zero, List.foldl_nil] at b
          rw [List.getElem?_take] at a b
          split at a
          · rename_i hj
            rw [if_pos hj] at b
            have ht := hx.at_ j T v a b
            exact hs14 _ _ (hkeep1 _ _ (by rintro rfl; obtain ⟨d, e, _⟩ := hx.acc; rw [ht] at e; cases e) ht)
          · cases a
      case need =>
        rintro n l p ⟨hk4, _⟩
        refine hneed p (hk4 _ _ (hx4 hD14 fun d xs e => by cases e) hD14) fun T hT o e => ?_
        obtain ⟨j, hj⟩ := List.mem_iff_getElem?.mp hT
        have hj' : j < items.length := by rw [← hnl']; exact (List.getElem?_eq_some_iff.mp hj).1
        have := htup4 j T _ hj (List.getElem?_eq_getElem hj')
        rw [this] at e; cases e
        exact hk4 _ _ (hx4 this fun d xs e => by cases e) this
      case turn =>
        rintro n vs l p g₃ E₃ hvs ⟨hk4, n1, n2, n3, n4, ts', hpile, hpb, hpl⟩
        rw [List.getElem?_map] at hvs
        obtain ⟨v, hv, rfl⟩ := Option.map_eq_some_iff.mp hvs
        obtain ⟨hv1, hv2, hv3⟩ := hitb v (List.mem_of_getElem? hv)
        have hn : n < items.length := (List.getElem?_eq_some_iff.mp hv).1
        have hP4 := hk4 113 _ hx113 (hs14 _ _ hP1)
        generalize hcur : (items.take n).foldl (pushOne head) (ps.take k) = cur at hpile hpb hpl
        obtain ⟨ht0, ht1⟩ := total_bound hpb
        obtain ⟨pmQ, FQ⟩ := AW.fPush
        dsimp only [tgtNames, setAll]
        repeat' walk_at "kl"
        refine ⟨_, meth_acc X AK hpile.acc AK.push (by decide) (fun _ _ _ _ => by rfl), ?_⟩
        repeat' walk_at "kl"
        refine call_len_pile W AW A2 (by omega) hh' hpile hP4 (fun w hw => by have := hpb w hw; omega) (by show 0 ≤ head + total cur; omega) (by show head + total cur < 2 ^ 60; omega) ?_
        repeat' walk_at "kl"
        refine op_mulS (by show -100000 ≤ v.1 + head - (head + total cur); omega) (by show v.1 + head - (head + total cur) ≤ 100000; omega) ?_
        repeat' walk_at "kl"
        refine ⟨kp_fn FQ, push_ok W AW (by omega) hpile.acc (by rw [List.length_map, hpile.len]; omega) fun T p' hT1 hT2 hacc' hkp => ⟨rfl, ?_⟩⟩
        repeat' walk_at "kl"
        have ecur : (items.take (n + 1)).foldl (pushOne head) (ps.take k) = cur ++ [(reps (v.1 + head - (head + total cur)) 32, v.2)] := by
          rw [List.take_add_one, hv, List.foldl_append, hcur]; rfl
        refine ⟨fun b o hb e => hkp b o hb (hk4 b o hb e), ?_, ?_, ?_, ?_, ts' ++ [T], ?_⟩
        · walk_at "loc"
        · walk_at "loc"
        · walk_at "loc"
        · walk_at "loc"
        · rw [ecur]
          refine ⟨⟨?_, by simp [hpile.len], fun j U w a b => ?_⟩, fun w hw => ?_, by simp; omega⟩
          · rw [List.map_append]; exact hacc'
          · rcases Nat.lt_or_ge j ts'.length with q | q
            · rw [List.getElem?_append_left q] at a
              rw [List.getElem?_append_left (by rw [← hpile.len]; exact q)] at b
              have ht := hpile.at_ j U w a b
              exact hkp _ _ (by rintro rfl; obtain ⟨d, e, _⟩ := hpile.acc; rw [ht] at e; cases e) ht
            · rw [List.getElem?_append_right q] at a
              rw [List.getElem?_append_right (by rw [← hpile.len]; exact q)] at b
              have hj0 : j - ts'.length = 0 := by
                have := (List.getElem?_eq_some_iff.mp a).1
                simp at this; omega
              rw [hj0] at a
              rw [← hpile.len, hj0] at b
              cases a; cases b
              exact hT2
          · rcases List.mem_append.mp hw with h | h
            · exact hpb w h
            · rcases List.mem_singleton.mp h with rfl
              refine ⟨?_, hv3⟩
              rw [reps_len]
              omega
      case fin =>
        rintro l p g₃ E₃ ⟨hk4, n1, n2, n3, n4, ts', hpile, hpb, hpl⟩
        rw [List.length_map, List.take_length] at hpile
        have hsa4 := hk4 sa _ hxsa (hs14 _ _ hsa1)
        have hsp4 := hk4 sp _ hxsp (hs14 _ _ hsp1)
        repeat' walk_at "kl"
        refine insort_right_ok W (by omega) hsa4 (by omega) hsort ⟨rfl, ?_⟩
        rw [insL_ints, hkdef]
        repeat' walk_at "kl"
        have hpl2 : Pile (hset p sa (.list ((insI st k lo).map iv))) x head ts' (items.foldl (pushOne head) (ps.take k)) := by
          refine ⟨?_, hpile.len, fun j U w a b => ?_⟩
          · obtain ⟨d, a1, a2⟩ := hpile.acc
            refine ⟨d, by rw [hset_ne _ _ hxsa.symm]; exact a1, by rw [hset_ne _ _ (by rintro rfl; rw [hsa4] at a2; cases a2)]; exact a2⟩
          · have ht := hpile.at_ j U w a b
            rw [hset_ne _ _ (by rintro rfl; rw [hsa4] at ht; cases ht)]; exact ht
        refine h ts' _ ?_ ?_ fun b o hb1 hb2 e => ?_
        · unfold placed
          rw [hkdef, ← hitems]
          exact hpl2
        · rw [hkdef]; exact hset_eq ..
        · rw [hset_ne _ _ hb2]
          exact hk4 b o hb1 (hs14 _ _ (hkeep1 b o hb1 e))
end
end Mine
end
section
namespace Mine
def KeyAt (C : Cx) (hp : HP) (kf : Addr) (T : Value) (x : Int) : Prop := ∀ {A : Around} {g : Heap} {fr : Fm} {E : Value → Shared → Prop} {loc : LOC} {Q : Value → LOC → HP → Prop}, A.depth < recursionLimit → Q (iv x) loc hp → onCall C A g fr E (.ref kf) [T] [] loc hp Q
structure KeyFn (C : Cx) (hp : HP) (kf : Addr) (ts : List Value) (xs : List Int) : Prop where
  obj : ∃ o fd, hp kf = some (.obj o) ∧ o.data = .func fd
  len : ts.length = xs.length
  at_ : ∀ (i : Nat) (T : Value) (x : Int), ts[i]? = some T → xs[i]? = some x → KeyAt C hp kf T x
theorem ref_none {a : Addr} : ¬ ((Value.ref a == Value.none) = true) := fun h => by cases h
theorem sub_vals {C : Cx} {A : Around} {g : Heap} {fr : Fm} {E : Value → Shared → Prop} {loc : LOC} {hp : HP} {value slice : Expr} {l : Addr} {i : Int} {ys : List Value} {Q : Value → LOC → HP → Prop} (hs : ∀ o j, subscripted slice false o j = operate [o, j] (getItem o j)) (hl : hp l = some (.list ys)) (h0 : 0 ≤ i) (hi : i < ys.length) (hsz : ys.length ≤ sizeLine)
    (h : ∀ (k : Nat) (hk : k < ys.length), (k : Int) = i → Q ys[k] loc hp) : ov2 C A g fr E (subscriptTail value slice) (.ref l) (.int i 0) loc hp Q := by
  have hk : i.toNat < ys.length := by omega
  rw [sizeLine_eq] at hsz
  exact sub_list hs hl h0 (by omega) (List.getElem?_eq_getElem hk) (h i.toNat hk (by omega))
theorem bisRk_core {C : Cx} (W : WOk C) {A : Around} {g : Heap} {fr : Fm} {E : Value → Shared → Prop} {loc : LOC} {hp : HP} {Q : Value → LOC → HP → Prop} {a kf : Addr} {ts : List Value} {xs : List Int} {x : Int} {vals : List Value} {kw : List (Str × Value)} {v u vl vh vk : Value} {pm : Value}
    (F : FnAt C 39 (mkFd (topStmt 3) "bisect_right" (.ref 31) (.ref 32) (.ref 38) pm [] .none))
    (hb : ∀ s : Shared, (∀ b o, C.H₀.get? b = some o → s.heap.get? b = some o) → BindsTo s (mkFd (topStmt 3) "bisect_right" (.ref 31) (.ref 32) (.ref 38) pm [] .none) ⟨vals, kw⟩ [("a", v), ("x", u), ("lo", vl), ("hi", vh), ("key", vk)])
    (hv : nm v = .ref a) (hu : nm u = iv x) (hl : nm vl = iv 0) (hh' : nm vh = .none) (hk' : nm vk = .ref kf)
    (hroom : A.depth + 1 < recursionLimit) (ha : hp a = some (.list ts)) (K : KeyFn C hp kf ts xs) (hsz : xs.length ≤ 1000) (hs : xs.Pairwise (· ≤ ·)) (h : Q (iv (bisR xs x)) loc hp) :
    awv C A g fr E (call (.ref 39) vals kw) loc hp Q := by
  have hlen := W.len
  refine aw_callFn F rfl rfl W.lim (by omega) hb (by rfl) rfl rfl (by rfl) fun A' g' fr' E' hd hu' hh hF => ?_
  unfold bindLoc bindLoc bindLoc bindLoc bindLoc bindLoc
  rw [hv, hu, hl, hh', hk']
  clear F hb
  obtain ⟨ko, kfd, hko, hkd⟩ := K.obj
  have hln := K.len
  refine aw_execs_cons ?_
  repeat' walk_at "kl"
  refine call_len_list' ha (by rw [sizeLine_eq]; omega) ?_
  repeat' walk_at "kl"
  refine (if_neg ref_none).mpr ?_
  repeat' walk_at "kl"
  refine aw_of_codeAny_while (fun n l p => ∃ lo hi : Nat, n = hi - lo ∧ lo ≤ hi ∧ hi ≤ xs.length ∧ (∀ i (hi : i < xs.length), i < lo → xs[i] ≤ x) ∧ (∀ i (h : i < xs.length), hi ≤ i → x < xs[i]) ∧ p = hp ∧
    l "a" = some (.ref a) ∧ l "x" = some (iv x) ∧ l "lo" = some (iv lo) ∧ l "hi" = some (iv hi) ∧ l "key" = some (.ref kf)) ?turn _ ⟨0, xs.length, rfl, Nat.zero_le _, Nat.le_refl _, fun i _ h => absurd h (Nat.not_lt_zero _), fun i h h' => absurd h (Nat.not_lt.mpr h'), rfl, ?_, ?_, ?_, ?_, ?_⟩
  case turn =>
    rintro n l p E'' ⟨lo, hi, rfl, h1, h2, h3, h4, rfl, ea, ex, elo, ehi, ekey⟩
    repeat' walk_at "kl"
    by_cases hlt : lo < hi
    · rw [if_pos (by simpa using hlt)]
      repeat' walk_at "kl"
      refine sub_vals (by intro _ _; with_unfolding_all rfl) ha (by omega) (by omega) (by rw [sizeLine_eq]; omega) fun k hkt ek => ?_
      have hk : k < xs.length := by omega
      repeat' walk_at "kl"
      refine ce_hp hko hkd ?_
      refine K.at_ k _ _ (List.getElem?_eq_getElem hkt) (List.getElem?_eq_getElem hk) (by omega) ?_
      repeat' walk_at "kl"
      have hk1 : lo ≤ k := by omega
      have hk2 : k < hi := by omega
      by_cases hx : x < xs[k]
      · rw [if_pos (by simpa using hx)]
        repeat' walk_at "kl"
        refine ⟨k - lo, by omega, lo, k, rfl, hk1, by omega, h3, fun i hi' hle => ?_, rfl, ?_, ?_, ?_, ?_, ?_⟩
        · rcases Nat.lt_or_ge k i with q | q
          · exact Int.lt_of_lt_of_le hx (List.pairwise_iff_getElem.mp hs k i hk hi' q)
          · have : i = k := by omega
            subst this; exact hx
        all_goals (first | (walk_at "loc"; done) | (rw [ek]; walk_at "loc"))
      · rw [if_neg (by simpa using hx)]
        repeat' walk_at "kl"
        refine ⟨hi - (k + 1), by omega, k + 1, hi, rfl, by omega, h2, fun i hi' hle => ?_, h4, rfl, ?_, ?_, ?_, ?_, ?_⟩
        · rcases Nat.lt_or_ge i k with q | q
          · exact Int.le_trans (List.pairwise_iff_getElem.mp hs i k hi' hk q) (Int.not_lt.mp hx)
          · have : i = k := by omega
            subst this; exact Int.not_lt.mp hx
        all_goals (first | (walk_at "loc"; done) | (rw [← ek]; walk_at "loc"))
    · rw [if_neg (by simpa using hlt)]
      repeat' walk_at "kl"
      have e : lo = bisR xs x := (countP_split (by omega) (fun i hi q => decide_eq_true (h3 i hi q)) fun i hi q => decide_eq_false (Int.not_le.mpr (h4 i hi (by omega)))).symm
      subst e
      exact h
  all_goals (first | (walk_at "loc"; done) | (rw [hln]; walk_at "loc"))
theorem bisLk_core {C : Cx} (W : WOk C) {A : Around} {g : Heap} {fr : Fm} {E : Value → Shared → Prop} {loc : LOC} {hp : HP} {Q : Value → LOC → HP → Prop} {a kf : Addr} {ts : List Value} {xs : List Int} {x : Int} {vals : List Value} {kw : List (Str × Value)} {v u vl vh vk : Value} {pm : Value}
    (F : FnAt C 57 (mkFd (topStmt 5) "bisect_left" (.ref 49) (.ref 50) (.ref 56) pm [] .none))
    (hb : ∀ s : Shared, (∀ b o, C.H₀.get? b = some o → s.heap.get? b = some o) → BindsTo s (mkFd (topStmt 5) "bisect_left" (.ref 49) (.ref 50) (.ref 56) pm [] .none) ⟨vals, kw⟩ [("a", v), ("x", u), ("lo", vl), ("hi", vh), ("key", vk)])
    (hv : nm v = .ref a) (hu : nm u = iv x) (hl : nm vl = iv 0) (hh' : nm vh = .none) (hk' : nm vk = .ref kf)
    (hroom : A.depth + 1 < recursionLimit) (ha : hp a = some (.list ts)) (K : KeyFn C hp kf ts xs) (hsz : xs.length ≤ 1000) (hs : xs.Pairwise (· ≤ ·)) (h : Q (iv (bisL xs x)) loc hp) :
    awv C A g fr E (call (.ref 57) vals kw) loc hp Q := by
  have hlen := W.len
  refine aw_callFn F rfl rfl W.lim (by omega) hb (by rfl) rfl rfl (by rfl) fun A' g' fr' E' hd hu' hh hF => ?_
  unfold bindLoc bindLoc bindLoc bindLoc bindLoc bindLoc
  rw [hv, hu, hl, hh', hk']
  clear F hb
  obtain ⟨ko, kfd, hko, hkd⟩ := K.obj
  have hln := K.len
  refine aw_execs_cons ?_
  repeat' walk_at "kl"
  refine call_len_list' ha (by rw [sizeLine_eq]; omega) ?_
  repeat' walk_at "kl"
  refine (if_neg ref_none).mpr ?_
  repeat' walk_at "kl"
  refine aw_of_codeAny_while (fun n l p => ∃ lo hi : Nat, n = hi - lo ∧ lo ≤ hi ∧ hi ≤ xs.length ∧ (∀ i (hi : i < xs.length), i < lo → xs[i] < x) ∧ (∀ i (h : i < xs.length), hi ≤ i → x ≤ xs[i]) ∧ p = hp ∧
    l "a" = some (.ref a) ∧ l "x" = some (iv x) ∧ l "lo" = some (iv lo) ∧ l "hi" = some (iv hi) ∧ l "key" = some (.ref kf)) ?turn _ ⟨0, xs.length, rfl, Nat.zero_le _, Nat.le_refl _, fun i _ h => absurd h (Nat.not_lt_zero _), fun i h h' => absurd h (Nat.not_lt.mpr h'), rfl, ?_, ?_, ?_, ?_, ?_⟩
  case turn =>
    rintro n l p E'' ⟨lo, hi, rfl, h1, h2, h3, h4, rfl, ea, ex, elo, ehi, ekey⟩
    repeat' walk_at "kl"
    by_cases hlt : lo < hi
    · rw [if_pos (by simpa using hlt)]
      repeat' walk_at "kl"
      refine sub_vals (by intro _ _; with_unfolding_all rfl) ha (by omega) (by omega) (by rw [sizeLine_eq]; omega) fun k hkt ek => ?_
      have hk : k < xs.length := by omega
      repeat' walk_at "kl"
      refine ce_hp hko hkd ?_
      refine K.at_ k _ _ (List.getElem?_eq_getElem hkt) (List.getElem?_eq_getElem hk) (by omega) ?_
      repeat' walk_at "kl"
      have hk1 : lo ≤ k := by omega
      have hk2 : k < hi := by omega
      by_cases hx : xs[k] < x
      · rw [if_pos (by simpa using hx)]
        repeat' walk_at "kl"
        refine ⟨hi - (k + 1), by omega, k + 1, hi, rfl, by omega, h2, fun i hi' hle => ?_, h4, rfl, ?_, ?_, ?_, ?_, ?_⟩
        · rcases Nat.lt_or_ge i k with q | q
          · exact Int.lt_of_le_of_lt (List.pairwise_iff_getElem.mp hs i k hi' hk q) hx
          · have : i = k := by omega
            subst this; exact hx
        all_goals (first | (walk_at "loc"; done) | (rw [← ek]; walk_at "loc"))
      · rw [if_neg (by simpa using hx)]
        repeat' walk_at "kl"
        refine ⟨k - lo, by omega, lo, k, rfl, hk1, by omega, h3, fun i hi' hle => ?_, rfl, ?_, ?_, ?_, ?_, ?_⟩
        · rcases Nat.lt_or_ge k i with q | q
          · exact Int.le_trans (Int.not_lt.mp hx) (List.pairwise_iff_getElem.mp hs k i hk hi' q)
          · have : i = k := by omega
            subst this; exact Int.not_lt.mp hx
        all_goals (first | (walk_at "loc"; done) | (rw [ek]; walk_at "loc"))
    · rw [if_neg (by simpa using hlt)]
      repeat' walk_at "kl"
      have e : lo = bisL xs x := (countP_split (by omega) (fun i hi q => decide_eq_true (h3 i hi q)) fun i hi q => decide_eq_false (Int.not_lt.mpr (h4 i hi (by omega)))).symm
      subst e
      exact h
  all_goals (first | (walk_at "loc"; done) | (rw [hln]; walk_at "loc"))
end Mine
end
section
namespace Mine
theorem binds2k {C : Cx} {i : Nat} {q : Str} {ad ak ac : Addr} (D : Dfl C ad ak) {pm va vx vk : Value}
    (h : ∀ h' t t' n n' S, peek [(ad, ⟨.type "tuple", none, .seq #[.int 0 t, .none] n, #[]⟩), (ak, ⟨.type "dict", none, .dict #[⟨h', .str "key" t', .none⟩] n', #[]⟩)] S (bindArgs (mkFd (topStmt i) q (.ref ad) (.ref ak) (.ref ac) pm [] .none) ⟨[va, vx], [("key", vk)]⟩) = some [(("a" : Str), va), ("x", vx), ("lo", .int 0 t), ("hi", .none), ("key", vk)]) (hab : ad ≠ ak) :
    ∃ t, ∀ s : Shared, (∀ b o, C.H₀.get? b = some o → s.heap.get? b = some o) → BindsTo s (mkFd (topStmt i) q (.ref ad) (.ref ak) (.ref ac) pm [] .none) ⟨[va, vx], [("key", vk)]⟩ [("a", va), ("x", vx), ("lo", .int 0 t), ("hi", .none), ("key", vk)] := by
  obtain ⟨t, n, e⟩ := D.t
  obtain ⟨h', t', n', e'⟩ := D.k
  exact ⟨t, fun s hk => kp_binds (frag2 hab (hk _ _ e) (hk _ _ e')) fun S => h h' t t' n n' S⟩
theorem binds4k {C : Cx} {i : Nat} {q : Str} {ad ak ac : Addr} (D : Dfl C ad ak) {pm va vx vl vh vk : Value}
    (h : ∀ h' t t' n n' S, peek [(ad, ⟨.type "tuple", none, .seq #[.int 0 t, .none] n, #[]⟩), (ak, ⟨.type "dict", none, .dict #[⟨h', .str "key" t', .none⟩] n', #[]⟩)] S (bindArgs (mkFd (topStmt i) q (.ref ad) (.ref ak) (.ref ac) pm [] .none) ⟨[va, vx, vl, vh], [("key", vk)]⟩) = some [(("a" : Str), va), ("x", vx), ("lo", vl), ("hi", vh), ("key", vk)]) (hab : ad ≠ ak) :
    ∀ s : Shared, (∀ b o, C.H₀.get? b = some o → s.heap.get? b = some o) → BindsTo s (mkFd (topStmt i) q (.ref ad) (.ref ak) (.ref ac) pm [] .none) ⟨[va, vx, vl, vh], [("key", vk)]⟩ [("a", va), ("x", vx), ("lo", vl), ("hi", vh), ("key", vk)] := by
  obtain ⟨t, n, e⟩ := D.t
  obtain ⟨h', t', n', e'⟩ := D.k
  exact fun s hk => kp_binds (frag2 hab (hk _ _ e) (hk _ _ e')) fun S => h h' t t' n n' S
section
variable {C : Cx} {A : Around} {g : Heap} {fr : Fm} {E : Value → Shared → Prop} {loc : LOC} {hp : HP} {Q : Value → LOC → HP → Prop} {a kf : Addr} {ts : List Value} {T : Value} {xs : List Int} {x : Int}
theorem onCall2k {f x y : Value} {k : Str} {z : Value} (h : ∀ v u w, nm v = x → nm u = y → nm w = z → awv C A g fr E (call f [v, u] [(k, w)]) loc hp Q) : onCall C A g fr E f [x, y] [(k, z)] loc hp Q := by
  intro vs kw hv hk
  match vs, kw, hv, hk with
  | [a, b], [(k', w)], hv, hk =>
    injection hv with h1 hv
    injection hv with h2 hv
    injection hk with h3 hk
    injection h3 with h4 h5
    subst h4
    exact h a b w h1 h2 h5
theorem onCall4k {f x y p q : Value} {k : Str} {z : Value} (h : ∀ v u c d w, nm v = x → nm u = y → nm c = p → nm d = q → nm w = z → awv C A g fr E (call f [v, u, c, d] [(k, w)]) loc hp Q) : onCall C A g fr E f [x, y, p, q] [(k, z)] loc hp Q := by
  intro vs kw hv hk
  match vs, kw, hv, hk with
  | [a, b, c, d], [(k', w)], hv, hk =>
    injection hv with h1 hv
    injection hv with h2 hv
    injection hv with h6 hv
    injection hv with h7 hv
    injection hk with h3 hk
    injection h3 with h4 h5
    subst h4
    exact h a b c d w h1 h2 h6 h7 h5
theorem insort_right_key (W : WOk C) (hroom : A.depth + 2 < recursionLimit) (ha : hp a = some (.list ts)) (K : KeyFn C hp kf ts xs) (hT : KeyAt C hp kf T x) (hTn : nm T = T) (hsz : xs.length ≤ 1000) (hs : xs.Pairwise (· ≤ ·))
    (h : Q .none loc (hset hp a (.list (insL ts (bisR xs x) T)))) : onCall C A g fr E (.ref 30) [.ref a, T] [("key", .ref kf)] loc hp Q := onCall2k fun v u w hv hu hw => by
  obtain ⟨pm, F⟩ := W.fIR
  obtain ⟨t, hb⟩ := binds2k (i := 2) (q := "insort_right") (ac := 29) W.dIR (pm := pm) (va := v) (vx := u) (vk := w) (fun _ _ _ _ _ _ => by rfl) (by decide)
  have hgR := W.gR
  obtain ⟨pm', FR⟩ := W.fR
  refine aw_callFn F rfl rfl W.lim (by omega) hb (by rfl) rfl rfl (by rfl) fun A' g' fr' E' hd hu' hh hF => ?_
  unfold bindLoc bindLoc bindLoc bindLoc bindLoc bindLoc
  rw [hv, hu, hw]
  simp only [nm]
  clear F hb
  obtain ⟨ko, kfd, hko, hkd⟩ := K.obj
  have hln := K.len
  refine aw_execs_cons ?_
  repeat' walk_at "kl"
  refine (if_neg ref_none).mpr ?_
  repeat' walk_at "kl"
  refine ce_hp hko hkd ?_
  refine hT (by omega) ?_
  repeat' walk_at "kl"
  refine onCall4k fun v₁ v₂ v₃ v₄ v₅ h₁ h₂ h₃ h₄ h₅ => bisRk_core W FR (binds4k (i := 3) (q := "bisect_right") (ac := 38) W.dR (fun _ _ _ _ _ _ => by rfl) (by decide)) h₁ h₂ h₃ h₄ h₅ (by omega) ha K hsz hs ?_
  repeat' walk_at "kl"
  refine ⟨_, meth_list F.slot_list_insert F.type_list_insert ha, ?_⟩
  repeat' walk_at "kl"
  refine ⟨kp_builtin, m_insert ha (by rw [hln]; exact List.countP_le_length) (by omega) ⟨rfl, ?_⟩⟩
  repeat' walk_at "kl"
  exact h
theorem insort_left_key (W : WOk C) (hroom : A.depth + 2 < recursionLimit) (ha : hp a = some (.list ts)) (K : KeyFn C hp kf ts xs) (hT : KeyAt C hp kf T x) (hTn : nm T = T) (hsz : xs.length ≤ 1000) (hs : xs.Pairwise (· ≤ ·))
    (h : Q .none loc (hset hp a (.list (insL ts (bisL xs x) T)))) : onCall C A g fr E (.ref 48) [.ref a, T] [("key", .ref kf)] loc hp Q := onCall2k fun v u w hv hu hw => by
  obtain ⟨pm, F⟩ := W.fIL
  obtain ⟨t, hb⟩ := binds2k (i := 4) (q := "insort_left") (ac := 47) W.dIL (pm := pm) (va := v) (vx := u) (vk := w) (fun _ _ _ _ _ _ => by rfl) (by decide)
  have hgR := W.gL
  obtain ⟨pm', FR⟩ := W.fL
  refine aw_callFn F rfl rfl W.lim (by omega) hb (by rfl) rfl rfl (by rfl) fun A' g' fr' E' hd hu' hh hF => ?_
  unfold bindLoc bindLoc bindLoc bindLoc bindLoc bindLoc
  rw [hv, hu, hw]
  simp only [nm]
  clear F hb
  obtain ⟨ko, kfd, hko, hkd⟩ := K.obj
  have hln := K.len
  refine aw_execs_cons ?_
  repeat' walk_at "kl"
  refine (if_neg ref_none).mpr ?_
  repeat' walk_at "kl"
  refine ce_hp hko hkd ?_
  refine hT (by omega) ?_
  repeat' walk_at "kl"
  refine onCall4k fun v₁ v₂ v₃ v₄ v₅ h₁ h₂ h₃ h₄ h₅ => bisLk_core W FR (binds4k (i := 5) (q := "bisect_left") (ac := 56) W.dL (fun _ _ _ _ _ _ => by rfl) (by decide)) h₁ h₂ h₃ h₄ h₅ (by omega) ha K hsz hs ?_
  repeat' walk_at "kl"
  refine ⟨_, meth_list F.slot_list_insert F.type_list_insert ha, ?_⟩
  repeat' walk_at "kl"
  refine ⟨kp_builtin, m_insert ha (by rw [hln]; exact List.countP_le_length) (by omega) ⟨rfl, ?_⟩⟩
  repeat' walk_at "kl"
  exact h
end
end Mine
end
section
namespace Mine
def codeA (q : Str) : AO := .sat fun o => ∃ vs t, o.data = .fields vs ∧ vs[1]? = some (.str q t)
structure LamTab (p : HP) (P : Addr) (q : Str) : Prop where
  is : ∃ ps : Array Value, p P = some (.obj (tabObj ps)) ∧ TriplesOk ps.toList ∧ ∀ pos, codeAmong pos ps.toList = none ∨ ∃ c, codeAmong pos ps.toList = some (.ref c) ∧ p c = some (codeA q)
theorem codeAmong_append {pos : Pos} : ∀ (l r : List Value), TriplesOk l → codeAmong pos (l ++ r) = (codeAmong pos l).or (codeAmong pos r)
  | [], r, _ => rfl
  | .int a _ :: .int b _ :: c :: l, r, h => by
    have ih := codeAmong_append (pos := pos) l r h
    simp only [List.cons_append, codeAmong]
    split
    · rfl
    · exact ih
structure BiOk2 (C : Cx) : Prop where
  is : ∃ mg, C.H₀.Ns mainGlobals mg ∧ C.H₀.BuiltinsAt mg 192
theorem LamTab.keeps {p p' : HP} {P : Addr} {q : Str} (L : LamTab p P q) (h : ∀ b o, p b = some o → p' b = some o) : LamTab p' P q := by
  obtain ⟨ps, a, b, c⟩ := L.is
  exact ⟨ps, h _ _ a, b, fun pos => (c pos).imp id fun ⟨c, e1, e2⟩ => ⟨c, e1, h _ _ e2⟩⟩
section
variable {C : Cx} {A : Around} {g : Heap} {fr : Fm} {E : Value → Shared → Prop} {loc : LOC} {hp : HP} {sc : Scope} {ow : Str → Bool} {Q : Value → LOC → HP → Prop}
theorem aw_Lambda {c : Addr} {params : Arguments} {body : Expr} {scope : Scope} {pos : Pos} {q : Str} (hcode : fr.env.code = .ref c) (CH : CodeHd C.H₀ c 192) (BI : BiOk2 C) (F : FrOf fr sc ow) (L : LamTab hp 192 q) (hdef : defaultsOf params fr.env = ([], [])) (hq : fr.env.qual ++ "<lambda>" = q)
    (hfree : ∀ y ∈ scope.names, y.2 ≠ .free)
    (h : ∀ f c' pm ctv p', hp f = none → LamTab p' 192 q → p' f = some (.obj (kla_obj "<lambda>" q params body scope [] pm c' ctv)) → p' c' = some (codeA q) → (∀ b o, b ≠ 192 → hp b = some o → p' b = some o) → Q (.ref f) loc p') :
    awv C A g fr E (eval (.Lambda params body scope pos) fr.env) loc hp Q := fun s R S => by
  obtain ⟨ps, hP, hT, hC⟩ := L.is
  obtain ⟨mg, hns, hbi⟩ := BI.is
  have hk₀ : ∀ b o, C.H₀.get? b = some o → s.heap.get? b = some o := fun b o e => R.keep b o (R.base b o e)
  have hPs : s.heap.get? 192 = some (tabObj ps) := by obtain ⟨_, _, _, o, ho, hi⟩ := R.at_ _ _ hP; cases hi; exact ho
  obtain ⟨bm, ob, b1, b2, b3, b4, b5, b6, b7, b8⟩ := hbi
  have hbi' : s.heap.BuiltinsAt mg 192 := ⟨bm, ob, b1, b2, b3, b4, hk₀ _ _ b5, b6, b7, b8⟩
  subst hq
  refine kla_eval hdef ?_
  rcases hC pos with hn | ⟨c', hc', hcp⟩
  · refine kla_makeFunction (clos := []) (closureFor_none hfree) F.glob (hns.keeps hk₀) hcode (CH.keeps hk₀) hPs hT hn (by decide) hbi' fun c' ctv h' tk hext hge hlt hrec htab => ?_
    have hk : ∀ b o, ¬ b = 192 → s.heap.get? b = some o → (h'.push (kla_obj "<lambda>" (fr.env.qual ++ "<lambda>") params body scope [] ((mg "__name__").getD .none) c' ctv)).get? b = some o := fun b o hb e => Heap.get?_push_of_some _ (hext b o hb e)
    obtain ⟨c₂, oc, vs, t, e2, hoc, hd, hv⟩ := hrec
    cases e2
    have hf : s.heap.objs.size ≤ h'.objs.size := by omega
    have hcn : hp c' = none := by
      cases e : hp c' with
      | none => rfl
      | some x => exact absurd (R.lt_of_hp e) (Nat.not_lt.mpr hge)
    have hfn : hp h'.objs.size = none := by
      cases e : hp h'.objs.size with
      | none => rfl
      | some x => exact absurd (R.lt_of_hp e) (Nat.not_lt.mpr hf)
    have hPlt := R.lt_of_hp hP
    have n1 : c' ≠ 192 := by intro e; rw [e] at hge; exact absurd hPlt (Nat.not_lt.mpr hge)
    have n2 : h'.objs.size ≠ 192 := by intro e; rw [e] at hf; exact absurd hPlt (Nat.not_lt.mpr hf)
    have n3 : c' ≠ h'.objs.size := Nat.ne_of_lt hlt
    obtain ⟨p', hp'⟩ : ∃ p', p' = hset (hset (hset hp 192 (.obj (tabObj (ps ++ #[rawInt pos.line, rawInt pos.col, .ref c'])))) c' (codeA (fr.env.qual ++ "<lambda>"))) h'.objs.size (.obj (kla_obj "<lambda>" (fr.env.qual ++ "<lambda>") params body scope [] ((mg "__name__").getD .none) c' ctv)) := ⟨_, rfl⟩
    have q1 : p' 192 = some (.obj (tabObj (ps ++ #[rawInt pos.line, rawInt pos.col, .ref c']))) := by rw [hp', hset_ne _ _ n2.symm, hset_ne _ _ n1.symm, hset_eq]
    have q2 : p' c' = some (codeA (fr.env.qual ++ "<lambda>")) := by rw [hp', hset_ne _ _ n3, hset_eq]
    have q3 : p' h'.objs.size = some (.obj (kla_obj "<lambda>" (fr.env.qual ++ "<lambda>") params body scope [] ((mg "__name__").getD .none) c' ctv)) := by rw [hp', hset_eq]
    have q4 : ∀ b o, b ≠ 192 → hp b = some o → p' b = some o := fun b o hb e => by
      have m1 : b ≠ c' := by rintro rfl; rw [hcn] at e; cases e
      have m2 : b ≠ h'.objs.size := by rintro rfl; rw [hfn] at e; cases e
      rw [hp', hset_ne _ _ m2, hset_ne _ _ m1, hset_ne _ _ hb]; exact e
    have q5 : ∀ b ao, p' b = some ao → b = 192 ∨ b = c' ∨ b = h'.objs.size ∨ (b ≠ 192 ∧ hp b = some ao) := fun b ao e => by
      rw [hp'] at e
      by_cases w1 : b = h'.objs.size
      · exact .inr (.inr (.inl w1))
      · rw [hset_ne _ _ w1] at e
        by_cases w2 : b = c'
        · exact .inr (.inl w2)
        · rw [hset_ne _ _ w2] at e
          by_cases w3 : b = 192
          · exact .inl w3
          · rw [hset_ne _ _ w3] at e
            exact .inr (.inr (.inr ⟨w3, e⟩))
    refine ⟨S, loc, p', R.step (W := fun b => b = 192) (fun b hb => by subst hb; exact ⟨_, hP⟩) hk fun b ao e => ?_, h _ c' _ ctv p' hfn ⟨_, q1, ?_, fun pos' => ?_⟩ q3 q2 q4⟩
    · rcases q5 b ao e with w | w | w | ⟨w1, w2⟩
      · subst w; rw [q1] at e; cases e
        exact ⟨.inl ⟨_, hP⟩, _, Heap.get?_push_of_some _ htab, rfl⟩
      · subst w; rw [q2] at e; cases e
        exact ⟨.inr hge, _, Heap.get?_push_of_some _ hoc, vs, t, hd, hv⟩
      · subst w; rw [q3] at e; cases e
        exact ⟨.inr hf, _, Heap.get?_push_size _ rfl, rfl⟩
      · obtain ⟨_, _, _, o, ho, hi⟩ := R.at_ b ao w2
        exact ⟨.inl ⟨_, w2⟩, o, hk b o w1 ho, hi⟩
    · rw [Array.toList_append]
      exact TriplesOk_snoc _ _ _ _ hT
    · rw [Array.toList_append, codeAmong_append _ _ hT]
      rcases hC pos' with w | ⟨c₃, w, w'⟩
      · rw [w]
        show codeAmong pos' [rawInt pos.line, rawInt pos.col, .ref c'] = none ∨ ∃ c, codeAmong pos' [rawInt pos.line, rawInt pos.col, .ref c'] = some (.ref c) ∧ _
        simp only [codeAmong, rawInt]
        split
        · exact .inr ⟨c', rfl, q2⟩
        · exact .inl rfl
      · rw [w]
        exact .inr ⟨c₃, rfl, q4 c₃ _ (by rintro rfl; rw [hP] at w'; cases w') w'⟩
  · refine kla_makeFunctionHit (clos := []) (closureFor_none hfree) F.glob (hns.keeps hk₀) hcode (CH.keeps hk₀) hPs hT hc' hbi' fun ctv h' tk hk hsz => ?_
    have hfn : hp h'.objs.size = none := by
      cases e : hp h'.objs.size with
      | none => rfl
      | some x => exact absurd (R.lt_of_hp e) (Nat.not_lt.mpr hsz)
    have R' := (R.keeps (h' := h') hk).alloc (o := kla_obj "<lambda>" (fr.env.qual ++ "<lambda>") params body scope [] ((mg "__name__").getD .none) c' ctv) (ao := .obj (kla_obj "<lambda>" (fr.env.qual ++ "<lambda>") params body scope [] ((mg "__name__").getD .none) c' ctv)) rfl rfl
    exact ⟨S, loc, _, R', h _ c' _ ctv _ hfn (L.keeps fun b o e => hset_of hfn e) (hset_eq ..) (hset_of hfn hcp) fun b o _ e => hset_of hfn e⟩
theorem aw_callLam {f c' : Addr} {name q : Str} {params : Arguments} {body : Expr} {scope : Scope} {pm ctv : Value} {vals : List Value} {binds : List (Str × Value)} (hf : hp f = some (.obj (kla_obj name q params body scope [] pm c' ctv))) (hc : hp c' = some (codeA q)) (hlim : C.H₀.NoLimit)
    (hroom : A.depth < recursionLimit) (hco : scope.isCoroutine = false) (hgen : scope.isGenerator = false) (hk : scope.kind = .function)
    (hbind : bindArgs (kla_fn name q params body scope [] pm (.ref c') ctv) ⟨vals, []⟩ = pure binds)
    (hkb : (binds.all fun x => scope.names.lookup x.1 == some .local || scope.names.lookup x.1 == some .cell) = true) (hfr : scope.names.all (fun x => x.2 != .free) = true)
    (h : ∀ A' g' fr' E', A'.depth = A.depth + 1 → A'.handled = A.handled → FrOf fr' scope allOwn → awv C A' g' fr' E' (eval body fr'.env) (bindLoc binds fun _ => none) hp fun v _ p => Q v loc p) :
    awv C A g fr E (call (.ref f) vals []) loc hp Q := fun s R S => by
  obtain ⟨_, _, _, o, ho, hi⟩ := R.at_ _ _ hf
  cases hi
  obtain ⟨_, _, _, oc, hoc, vs, t, hd, hv⟩ := R.at_ _ _ hc
  obtain ⟨fd, hfd⟩ : ∃ fd, fd = kla_fn name q params body scope [] pm (.ref c') ctv := ⟨_, rfl⟩
  have hkind : ∀ x ∈ binds, fd.scope.names.lookup x.1 = some .local ∨ fd.scope.names.lookup x.1 = some .cell := fun x hx => by
    rw [hfd]
    have := List.all_eq_true.mp hkb x hx
    rcases Bool.or_eq_true_iff.mp this with q | q
    · exact .inl (by simpa using q)
    · exact .inr (by simpa using q)
  have hk' : ∀ b o, C.H₀.get? b = some o → s.heap.get? b = some o := fun b o e => R.keep b o (R.base b o e)
  refine wpAny_call (kla_callFunE hroom ho rfl hco hgen rfl ⟨c', oc, vs, t, rfl, hoc, hd, hv⟩ ?_)
  rw [hbind]
  refine wpAny_pure ?_
  rw [hfd] at hkind
  refine wpAny_newFunctionEnv_cells (scope := scope) hk (fun x hx => (hkind x hx).imp id fun e => ⟨e, cellsFrom_some _ _ _ (.inl e)⟩) fun env he s' x => ?_
  subst he
  refine ⟨(hlim.keeps hk').keeps x.toInCall.keep, kla_codeExpr ?_⟩
  have R' := rep_called (h := s.heap) (fd := kla_fn name q params body scope [] pm (.ref c') ctv) (f := f) R hkind x
  refine wpAny_mono (h (A.deeper (callEnvC (kla_fn name q params body scope [] pm (.ref c') ctv) s.heap.objs.size f)) _ (fnFm (kla_fn name q params body scope [] pm (.ref c') ctv) s.heap.objs.size f) _ rfl rfl (frOf_fn (kla_fn name q params body scope [] pm (.ref c') ctv) _ f hk rfl rfl hfr) s' R' (sok_called S x)) (fun v s'' hq => ?_) fun _ _ e => e
  obtain ⟨S'', l', p', R'', q⟩ := hq
  refine ⟨S'', loc, p', R.asleep R''.keep fun b ao e => ?_, q⟩
  obtain ⟨a1, _, _, a4⟩ := R''.at_ b ao e
  exact ⟨a1, a4⟩
end
end Mine
end
section
namespace Mine
section
variable {C : Cx} {A : Around} {g : Heap} {fr : Fm} {E : Value → Shared → Prop} {loc : LOC} {hp : HP} {x : Addr} {i : Int} {ts : List Addr} {ps : List (Str × Str)} {Q : Value → LOC → HP → Prop}
theorem call_str_pile (W : WOk C) (AW : AccW C) (A2 : AccW2 C) (hu : A.units + 10 < cLine) (hroom : A.depth + 1 < recursionLimit) (hh : A.handled = none) (hx : Pile hp x i ts ps) (hP : hp 120 = some tabA) (hsz : ps.length ≤ 50) (hy : ∀ v ∈ ps, v.1.length ≤ 1000 ∧ v.2.length ≤ 1000)
    (h : Q (.str (pileText ps) 0) loc hp) : onCall C A g fr E (.type "str") [.ref x] [] loc hp Q := onCall1 fun v hv => by
  have := nm_ref hv; subst this
  obtain ⟨K, X, AK⟩ := AW.K
  intro s R S
  obtain ⟨d, hh1, t, u, ep, vs, n, e1, e2, e3, I, h1, h2⟩ := R.acc hx.acc
  refine kso_call (by show A.units + 1 + 1 < cLine; omega) (R.K X) I AK.str (by unfold isFn; rw [AK.tf 125 (by decide)]; rfl) ?_
  have := accStr_ok (C := C) (A := A.in1.in1) (g := g) (fr := fr) (E := E) (loc := loc) (hp := hp) (x := x) (i := i) (Q := fun v l p => v = .str (pileText ps) 0 ∧ l = loc ∧ p = hp) W AW A2 (by show A.depth + 1 < _; exact hroom) hh hx hP hy (by omega) ⟨rfl, rfl, rfl⟩ [.ref x] [] rfl rfl s R S
  refine wpAny_mono this (fun v s' ⟨S', l, p, R', q1, q2, q3⟩ => ?_) fun _ _ e => e
  obtain ⟨tk, rfl⟩ := nm_str q1
  subst q2; subst q3
  exact ⟨S', l, p, R', h⟩
end
end Mine
end
section
namespace Mine
theorem slot_wrapper_get : Slot "wrapper_descriptor" "__get__" "wrapper_descriptor.__get__" := .of (owner := "wrapper_descriptor") (n := "__get__") (by rw [typeLookup_type, builtinLookup_eq_fast]; kernel_rfl) (by decide +kernel) (by decide +kernel) (by decide +kernel)
  (by first | exact .inl (by decide +kernel) | exact .inr (by decide +kernel)) (by rw [isSubtype_type]; kernel_rfl)
theorem entry_wrapper_get : entryFor table "wrapper_descriptor.__get__" = some Builtin.«wrapper_descriptor.__get__» := entryFor_of_tree (by kernel_rfl)
theorem getArgs_wrapper (a b c : Value) : argsOk "wrapper_descriptor.__get__" ⟨[a, b, c], []⟩ := by unfold argsOk; kernel_rfl
theorem type_len : typeOf (.builtin "list.__len__") = pure (.type "wrapper_descriptor") := by kernel_rfl
theorem type_init : typeOf (.builtin "list.__init__") = pure (.type "wrapper_descriptor") := by kernel_rfl
section
variable {prog : Program} {w : World} {M : Model} {A : Around} {E : Value → Shared → Prop} {h : Heap} {g : Array GenState} {d : Drawn} {t : Nat} {os : OsState}
theorem own_len : ".".intercalate ("list.__len__".cutAt '.').dropLast = "list" := by decide +kernel
theorem own_init : ".".intercalate ("list.__init__".cutAt '.').dropLast = "list" := by decide +kernel
theorem get_wrap {id : String} (how : ".".intercalate (id.cutAt '.').dropLast = "list") {x C : Addr} {ox : Obj} {c' : Addr} {Q : Fin → Shared → Prop} (hx : h.get? x = some ox) (hc : ox.cls = .ref C) (hi : Looks (model prog w) h (isSubtype (.ref C) (.type "list")) true)
    (hq : Q (.done (.ret (.ref h.objs.size))) ⟨h.push { cls := .type "method-wrapper", data := .fields #[.builtin id, .ref x] }, g, d, t, os⟩) :
    wpAny (model prog w) A (Builtin.«wrapper_descriptor.__get__» ⟨[.builtin id, .ref x, .ref c'], []⟩) Q E ⟨h, g, d, t, os⟩ := by
  unfold Builtin.«wrapper_descriptor.__get__»
  repeat (first
    | (with_reducible refine wpAny_loadPart_at hx ?_; rw [hc])
    | (rw [how]; with_reducible refine Looks.at hi ?_)
    | wp_step
    | dsimp only)
  all_goals exact hq
set_option maxHeartbeats 2000000 in
theorem super_gaB {id : String} (how : ".".intercalate (id.cutAt '.').dropLast = "list") (hty : typeOf (.builtin id) = pure (.type "wrapper_descriptor")) {so D x C : Addr} {ox : Obj} {l₀ l : List Value} {K : Frag} {name : Str} {tk : Tok} {Q : Fin → Shared → Prop}
    (hso : h.get? so = some { cls := .type "super", dict := none, data := .fields #[.ref D, .ref x, .ref C], slots := #[] }) (hno : Looks (model prog w) h (opaqueClassAbove (.ref C)) none)
    (hC : Looks (model prog w) h (mroOf (.ref C)) l₀) (hl : (l₀.dropWhile (· != .ref D)).drop 1 = l) (X : K.In h) (hx : h.get? x = some ox) (hc : ox.cls = .ref C) (hi : Looks (model prog w) h (isSubtype (.ref C) (.type "list")) true)
    (hf : alongIn K name l = some (some (.builtin id))) (hxC : x ≠ C) (hn : (name == ("__class__" : Str)) = false)
    (hq : Q (.done (.ret (.ref h.objs.size))) ⟨h.push { cls := .type "method-wrapper", data := .fields #[.builtin id, .ref x] }, g, d, t, os⟩) :
    wpAny (model prog w) A (Builtin.«super.__getattribute__» ⟨[.ref so, .str name tk], []⟩) Q E ⟨h, g, d, t, os⟩ := by
  have hlk := slot_wrapper_get.lookup
  have hne : (Value.ref x == Value.ref C) = false := by simp [hxC]
  have hTf : (⟨h, g, d, t, os⟩ : Shared).TypeIs (.builtin id) "wrapper_descriptor" := hty
  have hdt : ({ cls := .type "super", dict := none, data := .fields #[.ref D, .ref x, .ref C], slots := #[] } : Obj).data = .fields #[.ref D, .ref x, .ref C] := rfl
  have f0 : (#[.ref D, .ref x, .ref C] : Array Value)[0]? = some (.ref D) := rfl
  have f1 : (#[.ref D, .ref x, .ref C] : Array Value)[1]? = some (.ref x) := rfl
  have f2 : (#[.ref D, .ref x, .ref C] : Array Value)[2]? = some (.ref C) := rfl
  unfold Builtin.«super.__getattribute__»
  repeat (first
    | (with_reducible refine wpAny_field hso hdt f0 ?_) | (with_reducible refine wpAny_field hso hdt f1 ?_) | (with_reducible refine wpAny_field hso hdt f2 ?_)
    | (with_reducible refine ks_wpAny_notOpaque hno ?_)
    | (with_reducible refine Looks.at hC ?_; rw [hl])
    | (refine ks_forIn_along X (fun _ _ => rfl) rfl ?_ hf)
    | (with_reducible refine wpAny_of_eq hty ?_)
    | (with_reducible refine wpAny_call_entry slot_wrapper_get hTf entry_wrapper_get ?_ (getArgs_wrapper _ _ _))
    | (rw [hc, how]; with_reducible refine Looks.at hi ?_)
    | (with_reducible refine wpAny_loadPart_at hx ?_)
    | (with_reducible refine ⟨_, rfl, ?_⟩)
    | (simp only [hn, hne, Bool.or_false, Bool.false_eq_true, if_false])
    | wp_step
    | dsimp only)
  all_goals exact hq
theorem super_getMethodB {id : String} (how : ".".intercalate (id.cutAt '.').dropLast = "list") (hty : typeOf (.builtin id) = pure (.type "wrapper_descriptor")) {so D x C : Addr} {ox : Obj} {l₀ l : List Value} {K : Frag} {name : Str} {pl : Sem Bool} {Q : Value × List Value → Shared → Prop}
    (hso : h.get? so = some { cls := .type "super", dict := none, data := .fields #[.ref D, .ref x, .ref C], slots := #[] }) (hno : Looks (model prog w) h (opaqueClassAbove (.ref C)) none)
    (hC : Looks (model prog w) h (mroOf (.ref C)) l₀) (hl : (l₀.dropWhile (· != .ref D)).drop 1 = l) (X : K.In h) (hx : h.get? x = some ox) (hc : ox.cls = .ref C) (hi : Looks (model prog w) h (isSubtype (.ref C) (.type "list")) true)
    (hf : alongIn K name l = some (some (.builtin id))) (hxC : x ≠ C) (hn : (name == ("__class__" : Str)) = false)
    (hq : Q (.ref h.objs.size, []) ⟨h.push { cls := .type "method-wrapper", data := .fields #[.builtin id, .ref x] }, g, d, t + 1, os⟩) :
    wpAny (model prog w) A (getMethod (.ref so) name pl) Q E ⟨h, g, d, t, os⟩ := by
  have hlk := F.ks_slot_super_ga.lookup
  have hcan := F.ks_canon_super_ga
  have hT : ∀ t', (⟨h, g, d, t', os⟩ : Shared).TypeIs (.ref so) "super" := fun _ => ⟨_, hso, rfl⟩
  unfold getMethod
  refine wpAny_bind (wpAny_specialOf (hT _) hlk ?_)
  show wpAny _ _ (if (Manifest.canonical "super.__getattribute__" != "object.__getattribute__") = true then _ else _) _ _ _
  rw [if_pos hcan]
  unfold getAttr getAttrBy
  refine wpAny_bind (wpAny_bind (wpAny_mkText (wpAny_holding (wpAny_bind (wpAny_typeOf (hT _) (wpAny_bind (wpAny_of_eq hlk ?_)))))))
  show wpAny _ _ (getAttrByItsOwn (.ref so) (.str name t) (.type "super") (.builtin "super.__getattribute__") true false) _ _ _
  unfold getAttrByItsOwn hookBefore callGetattribute boundAndCalled
  refine wpAny_bind (wpAny_of_eq (show (if onTheHeap (.type "super") then typeLookup (.type "super") "__getattr__" else pure none) = pure none from rfl) ?_)
  refine wpAny_bind (wpAny_attempt (wpAny_holding ?_))
  show wpAny _ _ (bindSpecial (.builtin "super.__getattribute__") (.ref so) >>= _) _ _ _
  refine wpAny_bind (wpAny_of_eq (F.ks_slot_super_ga.bind _) ?_)
  refine wpAny_mono (Q := fun v s' => v = .ref h.objs.size ∧ s' = ⟨h.push { cls := .type "method-wrapper", data := .fields #[.builtin id, .ref x] }, g, d, t + 1, os⟩) (E := fun _ _ => False)
    (wpAny_call_entry F.ks_slot_super_ga (hT _) F.ks_entry_super_ga (super_gaB how hty hso hno hC hl X hx hc hi hf hxC hn ⟨_, rfl, rfl, rfl⟩) (F.ks_gaArgs_super _ _)) (fun v s' hv => ?_) fun _ _ z => z.elim
  obtain ⟨rfl, rfl⟩ := hv
  exact wpAny_pure (wpAny_pure hq)
theorem call_wrap0 {id : String} {b : Builtin} {u x : Addr} {pos : Pos} {env : Env} {Q : Value → Shared → Prop} (hu : h.get? u = some { cls := .type "method-wrapper", data := .fields #[.builtin id, .ref x] }) (hplain : plainId id = true) (hb : entryFor table id = some b)
    (hck : checkBoundCall id ⟨[.ref x], []⟩ = pure ())
    (hq : wpAny (model prog w) A.in1 (b ⟨[.ref x], []⟩) (fun fin s' => ∃ v, fin = .done (.ret v) ∧ Q v s') E ⟨h, g, d, t, os⟩) :
    wpAny (model prog w) A (callWith pos (.ref u) [] (backTo pos (starEach [] env)) []) Q E ⟨h, g, d, t, os⟩ := by
  unfold callWith
  refine wpAny_bind (wpAny_holding (wpAny_mono (evalArgs_nil3 (Q := fun a s₁ => a = ⟨[], []⟩ ∧ s₁ = ⟨h, g, d, t, os⟩) ⟨rfl, rfl⟩) (fun a s₁ ⟨e1, e2⟩ => wpAny_bind (wpAny_standAt ?_)) fun _ _ y => y))
  subst e1; subst e2
  simp only [show (backTo pos (starEach [] env)).any (·.1) = false from rfl, List.any_nil, Bool.or_false]
  refine wpAny_bind (m := keeperOf (.ref u)) ?_
  unfold keeperOf
  refine wpAny_bind (wpAny_load hu ?_)
  simp only [show (Value.type "method-wrapper" != Value.type "method") = true by decide, show (Value.type "method-wrapper" == Value.type "builtin_function_or_method" || Value.type "method-wrapper" == Value.type "method-wrapper") = true by decide, if_true]
  refine wpAny_pure ?_
  have tail : ∀ {t₁ : Sem Value}, wpAny (model prog w) A t₁ Q E ⟨h, g, d, t, os⟩ → wpAny (model prog w) A (t₁ >>= fun r => holding [r] point >>= fun _ => pure r) Q E ⟨h, g, d, t, os⟩ :=
    fun ht => wpAny_bind (wpAny_mono ht (fun r s₂ hr => wpAny_bind (wpAny_holding (wpAny_point (wpAny_pure hr)))) fun _ _ y => y)
  refine tail (wpAny_call (codeAny_of_tree ?_))
  show wpAny _ A.in1 (callAny (.ref u) ⟨[], []⟩) _ _ _
  unfold callAny
  refine wpAny_bind (wpAny_load hu ?_)
  simp only [show (Value.type "method-wrapper" == Value.type "method" || Value.type "method-wrapper" == Value.type "builtin_function_or_method" || Value.type "method-wrapper" == Value.type "method-wrapper") = true by decide, if_true]
  show wpAny _ _ (if (Value.type "method-wrapper" != Value.type "method") = true then _ else _) _ _ _
  rw [if_pos (by decide)]
  refine wpAny_bind (wpAny_of_eq hck ?_)
  refine wpAny_bind (wpAny_pure ?_)
  refine wpAny_pure ⟨plainId_quiet hplain _, codeAny_builtin hb ?_⟩
  rw [Around.under_plainId hplain _]
  refine wpAny_mono hq (fun fin s' hf => ?_) fun _ _ e => e
  obtain ⟨v, rfl, q⟩ := hf
  exact q
end
end Mine
end
section
namespace Mine
structure AccK2 (K : Frag) : Prop where
  obj : ∃ oc od cd sl, K.lookup 151 = some ⟨oc, od, .cls cd, sl⟩ ∧ cd.mro = [.ref 151, .type "list", .type "object"] ∧ cd.abstract = false ∧ cd.hasDel = false ∧ (sl.toList[4]?).join = some (.builtin "list.__new__")
  has : (clsIn K 151).any (·.hasDict) = true
  noSize : findIn K (.ref 151) "_initial_size" = some none
  sa : findIn K (.ref 151) "__setattr__" = some (some (.builtin "object.__setattr__"))
  opq : nsIn K cStatics "thirdparty.any" = some none
  call : specialIn K (.ref 151) "__call__" = some (some (.builtin "type.__call__"))
  typ : instIn K (.ref 151) (.type "type") = some true
def CodeOf (C : Cx) (c : Addr) : Prop := ∃ o vs file tf, C.H₀.get? c = some o ∧ o.data = .fields vs ∧ vs[2]? = some (.str file tf) ∧ ((C.prog.main.file : Str) == file) = true
structure AccW3 (C : Cx) : Prop where
  K : ∃ K : Frag, K.In C.H₀ ∧ AccK K ∧ AccK2 K
  fCount : ∃ pm, FnAt C 148 (mkFd (accStmt 8) "_Accumulator.part_count" .none .none (.ref 147) pm [("__class__", 76)] (.ref 141))
  fInit : ∃ pm, FnAt C 89 (mkFd (accStmt 0) "_Accumulator.__init__" (.ref 81) .none (.ref 88) pm [("__class__", 76)] (.ref 82))
  dInit : ∃ t n, C.H₀.get? 81 = some ⟨.type "tuple", none, .seq #[.int 0 t] n, #[]⟩
  cell : C.H₀.IsCell 76 (some (.ref 151))
  gSuper : Glb C "super" (.type "super")
  gAcc : Glb C "_Accumulator" (.ref 151)
  cCount : CodeOf C 147
  cInit : CodeOf C 88
  top : (C.prog.main.scope.names.lookup ("super" : Str)).isSome = false
theorem along_len : ∀ K : Frag, alongIn K "__len__" [.type "list", .type "object"] = some (some (.builtin "list.__len__")) := fun K => by kernel_rfl
theorem along_init : ∀ K : Frag, alongIn K "__init__" [.type "list", .type "object"] = some (some (.builtin "list.__init__")) := fun K => by kernel_rfl
theorem Glb.load {C : Cx} {A : Around} {E : Value → Shared → Prop} {s : Shared} {env : Env} {x : Str} {v : Value} {Q : Value → Shared → Prop} (hG : Glb C x v) (hk : env.scope.kind = .function) (hg : env.globals = mainGlobals) (hb : env.builtins = builtinsNs) (hx : env.kindOf x = some .globalImplicit)
    (hk' : ∀ b o, C.H₀.get? b = some o → s.heap.get? b = some o) (h : Q v s) : wpAny (model C.prog C.w) A (loadName env x) Q E s := by
  refine ks_loadName_global hk hx ?_
  rcases hG.is with ⟨mg, n, e⟩ | ⟨mg, mb, n, e, n', e'⟩
  · exact loadGlobal_global (hg ▸ n.keeps hk') e h
  · exact loadGlobal_builtin (hg ▸ n.keeps hk') e (hb ▸ n'.keeps hk') e' h
section
variable {C : Cx} {A : Around} {g : Heap} {fr : Fm} {E : Value → Shared → Prop} {loc : LOC} {hp : HP} {x : Addr} {i : Int} {xs : List Value} {Q : Value → LOC → HP → Prop}
theorem super_call0 (A3 : AccW3 C) {id : String} {b : Builtin} (how : ".".intercalate (id.cutAt '.').dropLast = "list") (hty : typeOf (.builtin id) = pure (.type "wrapper_descriptor")) (hplain : plainId id = true) (hb : entryFor table id = some b) (hck : ∀ x, checkBoundCall id ⟨[.ref x], []⟩ = pure ())
    {name : Str} (hal : ∀ K : Frag, alongIn K name [.type "list", .type "object"] = some (some (.builtin id))) (hnm : (name == ("__class__" : Str)) = false)
    {s : Shared} {ox : Obj} {od : Option Obj} (I : InstAt s.heap x ox 151 od) (hk₀ : ∀ b o, C.H₀.get? b = some o → s.heap.get? b = some o) {fd : FuncData} {L f cda : Addr} {m : Str → Option Value} {body : List Stmt} {p0 p1 pos apos : Pos} {ar : Arg} {Q : Value → Shared → Prop}
    (hf : ∃ o, s.heap.get? f = some o ∧ o.data = .func fd) (hclo : fd.closure = [(("__class__" : Str), 76)]) (hcode : fd.code = .ref cda) (hCO : CodeOf C cda) (hp : (fd.params.posonlyargs ++ fd.params.args).head? = some ar) (hns : s.heap.Ns L m) (hm : m ar.arg = some (.ref x))
    (hks : fd.scope.names.lookup ("super" : Str) = some .globalImplicit) (hkc : fd.scope.names.lookup ("__class__" : Str) = some .free) (hka : fd.scope.names.lookup ar.arg = some .local) (hkind : fd.scope.kind = .function) (hgl : fd.globals = mainGlobals) (hbi : fd.builtins = builtinsNs)
    {pl : Sem Bool} (he : eval (.Call (.Attribute (.Call (.Name "super" p0) [] [] p1) name apos) [] [] pos) (callEnv fd L f) = (do
      let ov ← attributeBase (.Call (.Name "super" p0) [] [] p1) name (callEnv fd L f) (eval (.Call (.Name "super" p0) [] [] p1) (callEnv fd L f))
      standAt apos.atName
      let (f₁, first) ← holding [ov] (getMethod ov name pl)
      callWith pos f₁ first (backTo pos (starEach [] (callEnv fd L f))) []))
    (h : ∀ h' tk A', (∀ b o, s.heap.get? b = some o → h'.get? b = some o) → wpAny (model C.prog C.w) A' (b ⟨[.ref x], []⟩) (fun fin s' => ∃ v, fin = .done (.ret v) ∧ Q v s') E { s with heap := h', toks := tk }) :
    _root_.PySem.wpAt (model C.prog C.w) A (.func body (callEnv fd L f)) (eval (.Call (.Attribute (.Call (.Name "super" p0) [] [] p1) name apos) [] [] pos) (callEnv fd L f)) Q E s := by
  obtain ⟨K, X₀, AK, AK2⟩ := A3.K
  obtain ⟨oc, odd, cd, sl, hK, hmro, _, _, _⟩ := AK2.obj
  have hcl : clsIn K 151 = some cd := by unfold clsIn; rw [hK]
  have X : K.In s.heap := X₀.keeps hk₀
  obtain ⟨o, ho, hd⟩ := hf
  obtain ⟨co, vs, file, tf, hc1, hc2, hc3, hc4⟩ := hCO
  obtain ⟨hh, gg, dd, t, os⟩ := s
  have hD := X _ _ hK
  have hself : mroIn K 151 (.ref 151) = some true := by
    unfold mroIn; rw [hcl, Option.bind_some, hmro]; rfl
  have hxC : x ≠ 151 := ks_ne X I hcl
  refine ks_wpAt_MethodCall (pl := pl) ?_ he
  refine ks_wpAt_super_base (env := callEnv fd L f) hks hkc hnm rfl ho hd hp hcode (hk₀ _ _ hc1) hc2 hc3 hc4 A3.top ?_
  refine Glb.load A3.gSuper hkind hgl hbi hks hk₀ ⟨rfl, ?_⟩
  refine wpAny_loadName_free hkind hkc (c := 76) (by show fd.closure.lookup _ = _; rw [hclo]; rfl) (A3.cell.keeps hk₀) ?_
  refine wpAny_loadName_local hkind hka hns hm ?_
  refine ks_wpAny_isType_cls hD rfl ⟨rfl, ?_⟩
  refine ks_wpAny_call_super hD rfl I.at_ I.cls (fun c e => ?_) (looks_mroIn X hself) (fun h' e k => ?_)
  · have := I.no
    unfold notCls at this
    rw [e] at this
    exact Bool.noConfusion this
  · refine super_getMethodB how hty e (looks_opaque (X.keeps k) AK2.opq) (l₀ := cd.mro) (l := [.type "list", .type "object"]) ?_ (by rw [hmro]; rfl) (X.keeps k) (k _ _ I.at_) I.cls (looks_mroIn (X.keeps k) AK.sub) (hal K) hxC hnm ?_
    · exact fun A Q E s k' q => wpAny_bind ((looks_clsIn (X.keeps k) hcl) A _ E s k' (wpAny_pure q))
    · refine call_wrap0 (Heap.get?_push_size _ rfl) hplain hb (hck x) ?_
      exact h _ _ _ fun b o e => Heap.get?_push_of_some _ (k b o e)
end
end Mine
end
section
namespace Mine
theorem chk_len (x : Addr) : checkBoundCall "list.__len__" ⟨[.ref x], []⟩ = pure () := by kernel_rfl
theorem chk_init (x : Addr) : checkBoundCall "list.__init__" ⟨[.ref x], []⟩ = pure () := by kernel_rfl
section
variable {C : Cx} {A : Around} {g : Heap} {fr : Fm} {E : Value → Shared → Prop} {loc : LOC} {hp : HP} {x : Addr} {i : Int} {xs : List Value} {Q : Value → LOC → HP → Prop}
theorem partCount_ok (W : WOk C) (A3 : AccW3 C) (hroom : A.depth < recursionLimit) (hx : Acc hp x i xs) (h : Q (iv xs.length) loc hp) : onCall C A g fr E (.ref 148) [.ref x] [] loc hp Q := onCall1 fun v hv => by
  have := nm_ref hv; subst this
  obtain ⟨pm, F⟩ := A3.fCount
  intro s R S
  obtain ⟨d, hh1, t, u, ep, vs, n, e1, e2, e3, I, h1, h2⟩ := R.acc hx
  obtain ⟨o, ho, hd⟩ := F.at_
  have hk₀ : ∀ b o, C.H₀.get? b = some o → s.heap.get? b = some o := fun b o e => R.keep b o (R.base b o e)
  refine wpAny_call (ks_codeAny_call_defAt hroom (hk₀ _ _ ho) hd (W.lim.keeps hk₀) (F.code.keeps hk₀) (body := dBody (accStmt 8)) rfl (kp_binds frag0 fun S => by rfl : BindsTo s _ _ [("self", .ref x)]) (by show ∀ y ∈ (dScope (accStmt 8)).names, y.2 ≠ .cell; decide) (fun y hy => by cases List.mem_singleton.mp hy; rfl) fun h₀ hns hk => ?_)
  show _root_.PySem.wpAt _ _ _ (execs (_ :: []) _) _ _ _
  refine ks_wpAt_execs_cons (ks_wpAt_Return_some ?_)
  refine super_call0 (s := { s with heap := h₀, toks := s.toks + 1 }) A3 own_len type_len (by decide +kernel) entry_list_len chk_len along_len (by decide) (ox := { cls := .ref 151, dict := some d, data := .seq vs n }) (od := some (accDict hh1 t (.int i u) ep)) ⟨hk _ _ e1, rfl, rfl, hk _ _ e3⟩ (fun b o e => hk _ _ (hk₀ b o e)) ⟨o, hk _ _ (hk₀ _ _ ho), hd⟩ rfl rfl A3.cCount rfl hns (by rfl) (by rfl) (by rfl) (by rfl) (by rfl) rfl rfl (by rfl) ?_
  intro h' tk A' hk'
  show wpAny _ _ (do retInt (← seqSize x)) _ _ _
  unfold seqSize
  refine wpAny_bind (wpAny_bind (wpAny_loadPart (hk' _ _ (hk _ _ e1)) ?_))
  refine wpAny_pure (wpAny_bind (wpAny_mkInt (wpAny_pure ⟨_, rfl, ?_⟩)))
  refine ⟨S, loc, hp, R.keeps fun b o e => hk' _ _ (hk _ _ e), ?_⟩
  have : vs.size = xs.length := nm_size e2
  simp only [nm]
  rw [this]
  exact h
end
end Mine
end
section
namespace Mine
open Builtin
structure MakesL (M : Model) (h : Heap) : Prop where
  obj : ∃ oc od cd sl, h.get? 151 = some ⟨oc, od, .cls cd, sl⟩ ∧ cd.abstract = false ∧ cd.hasDel = false ∧ cd.mro.isEmpty = false
  made : Looks M h (Bind.madeBy (.ref 151)) (some "list.__new__")
  base : Looks M h (Bind.staticBase (.ref 151)) (.ref 151)
  self : Looks M h (isSubtype (.ref 151) (.ref 151)) true
  top : Looks M h (isSubtype (.ref 151) (.type "list")) true
  call : Looks M h (specialOf (.ref 151) "__call__") (some (.builtin "type.__call__"))
  typ : Looks M h (isInstance (.ref 151) (.type "type")) true
theorem makesL {K : Frag} {M : Model} {h : Heap} (X : K.In h) (A1 : AccK K) (A2 : AccK2 K) : MakesL M h := by
  obtain ⟨oc, od, cd, sl, ho, e1, e2, e3, e4⟩ := A2.obj
  have hc : clsIn K 151 = some cd := by unfold clsIn; rw [ho]
  have hm : Looks M h (mroOf (.ref 151)) cd.mro := (looks_clsIn X hc).andThen .now
  have made : Looks M h (Bind.madeBy (.ref 151)) (some "list.__new__") := by
    intro A Q E s k q
    unfold Bind.madeBy
    refine wpAny_bind (hm A _ E s k ?_)
    rw [e1, List.forIn_cons]
    refine wpAny_bind (wpAny_bind (wpAny_bind (wpAny_bind (wpAny_loadPart (k _ _ (X _ _ ho)) (wpAny_pure ?_)))))
    dsimp only
    rw [← Array.getElem?_toList, e4]
    exact wpAny_pure (wpAny_pure (wpAny_pure q))
  refine ⟨⟨oc, od, cd, sl, X _ _ ho, e2, e3, by rw [e1]; rfl⟩, made, ?_, looks_mroIn X ?_, looks_mroIn X A1.sub, looks_specialIn X A2.call, looks_instIn X A2.typ⟩
  · intro A Q E s k q
    unfold Bind.staticBase
    refine wpAny_bind (hm A _ E s k ?_)
    rw [e1, List.forIn_cons]
    exact wpAny_bind (wpAny_bind (wpAny_bind (made A _ E s k (wpAny_pure (wpAny_pure (wpAny_pure q))))))
  · unfold mroIn; rw [hc, Option.bind_some, e1]; rfl
abbrev newAcc (d : Addr) : Obj := { cls := .ref 151, dict := some d, data := .seq #[] }
theorem kind_ln : builtinKind "list.__new__" = some .builtinFn := by decide +kernel
theorem split_ln : splitId "list.__new__" = some ("list", "__new__") := by decide +kernel
section
variable {prog : Program} {w : World} {A : Around} {K : Frag} {R : Result → Shared → Prop} {h : Heap} {g : Array GenState} {d : Drawn} {t : Nat} {os : OsState}
theorem new_L {v : Value} (Y : MakesL (model prog w) h)
    (hq : R (.ok (.ret (.ref (h.objs.size + 1)))) ⟨(h.push emptyDict).push (newAcc h.objs.size), g, d, t, os⟩) :
    codeAny (model prog w) A (.call (.builtin "list.__new__") ⟨[.ref 151, v], []⟩) R ⟨h, g, d, t, os⟩ := by
  obtain ⟨⟨oc, od, cd, sl, hC, e1, e2, e4⟩, made, base, self, top, call, typ⟩ := Y
  refine codeAny_call_builtin_code (Code.quiet_builtin _ (by decide +kernel)) ?_
  simp only [checkBuiltinCall, kind_ln, split_ln]
  have hit : Looks (model prog w) h (isType (.ref 151)) true := by
    intro A Q E s k q
    unfold isType loadHead
    exact wpAny_bind (wpAny_loadPart (k _ _ hC) (wpAny_pure q))
  repeat (first | simp only [Bool.not_true, Bool.false_eq_true, if_false] | (with_reducible refine Looks.at hit ?_) | (with_reducible refine Looks.at top ?_) | (with_reducible refine Looks.at base ?_) | (with_reducible refine Looks.at made ?_) | lk)
  refine codeAny_builtin_stack PySem.F.entry_list_new rfl fun p st => ?_
  rw [Around.under_plainId PySem.F.plain_list_new _]
  simp only [owner_list_new]
  have tail : ∀ A', wpAny (model prog w) A' (do
      let .ref dd ← newDict | unsupported "internal:list.__new__"
      ret (← newObj (.ref 151) (.seq #[]) (some dd))) (fun fin s' => match fin with | .done f => R (.ok f) s' | .again c' => c'.quiet = true ∧ codeAny (model prog w) A c' R s') (fun e s' => R (.error e) s') ⟨h, g, d, t, os⟩ := by
    intro A'
    unfold newDict
    refine wpAny_bind (wpAny_newObj_type ?_ (by size_fits))
    dsimp only
    refine wpAny_bind ?_
    unfold newObj
    unfold newObjAsIs classHasDel
    refine wpAny_bind (wpAny_alloc (wpAny_bind (wpAny_bind (wpAny_load (Heap.get?_push_of_some _ (Heap.get?_push_of_some _ hC)) (wpAny_pure ?_)))))
    rw [e2]
    refine wpAny_pure (wpAny_pure ?_)
    show R _ _
    rw [Heap.size_push]
    exact hq
  repeat (first | simp only [Bool.not_true, Bool.false_eq_true, if_false] | (with_reducible refine Looks.at hit ?_) | (with_reducible refine Looks.at top ?_) | exact tail _ | lk)
end
end Mine
end
section
namespace Mine
open Builtin Builtin.ObjectAttr
section
variable {prog : Program} {w : World} {A : Around} {K : Frag} {R : Result → Shared → Prop} {h : Heap} {g : Array GenState} {d : Drawn} {t : Nat} {os : OsState}
theorem make_L {v : Value} (X : K.In h) (A1 : AccK K) (A2 : AccK2 K)
    (hq : codeAny (model prog w) (A.under (.builtin "type.__call__" ⟨[.ref 151, v], []⟩)) (.call (.ref 89) ⟨[.ref (h.objs.size + 1), v], []⟩) (InitBack (h.objs.size + 1) R) ⟨(h.push emptyDict).push (newAcc h.objs.size), g, d, t, os⟩) :
    codeAny (model prog w) A (.call (.ref 151) ⟨[v], []⟩) R ⟨h, g, d, t, os⟩ := by
  have Y' := makesL (M := model prog w) X A1 A2
  have hi : Looks (model prog w) h (typeLookup (.ref 151) "__init__") (some (.ref 89)) := looks_findIn X A1.init
  have hb : ∀ self, Looks (model prog w) h (bindSpecial (.ref 89) self) (.ref 89, [self]) := fun self => bind_fn X self (A1.tf 89 (by decide))
  obtain ⟨⟨oc, od, cd, sl, hC, e1, e2, e4⟩, made, base, self, top, call, typ⟩ := makesL (M := model prog w) X A1 A2
  refine codeAny_of_tree ?_
  show wpAny _ _ (callAny (.ref 151) _) _ _ _
  refine nd_load hC ?_
  show wpAny _ _ (callAny.viaDunder (.ref 151) _) _ _ _
  unfold callAny.viaDunder
  refine wpAny_bind (call.at ?_)
  dsimp only
  rw [tc_bind]
  refine wpAny_bind (wpAny_pure (wpAny_bind (wpAny_pure ?_)))
  refine wpAny_pure (a := Fin.again (.call (.builtin "type.__call__") ⟨[.ref 151, v], []⟩)) (And.intro rfl ?_)
  refine codeAny_call_builtin_at (Code.quiet_builtin _ (by decide +kernel)) entry_typeCall (check_slot tc_kind tc_split typ (tc_args _ _ _) ?_)
  unfold Builtin.«type.__call__»
  have hm : Looks (model prog w) h (mroOf (.ref 151)) cd.mro := ((Looks.ld (part := none) hC).andThen .now).andThen .now
  repeat (first | simp only [e4, Bool.false_eq_true, if_false] | with_reducible refine wpAny_call ?_ | lk)
  refine new_L Y' ?_
  have k : ∀ b o, h.get? b = some o → ((h.push emptyDict).push (newAcc h.objs.size)).get? b = some o := fun b o e => Heap.get?_push_of_some _ (Heap.get?_push_of_some _ e)
  have hx : ((h.push emptyDict).push (newAcc h.objs.size)).get? (h.objs.size + 1) = some (newAcc h.objs.size) := by heap_get
  have t1 : Looks (model prog w) ((h.push emptyDict).push (newAcc h.objs.size)) (typeOf (.ref (h.objs.size + 1))) (.ref 151) := (Looks.ld hx).andThen .now
  have s1 := self.keeps k
  have i1 := hi.keeps k
  have b1 := (hb (.ref (h.objs.size + 1))).keeps k
  unfold isInstance callSpecial? specialOf
  repeat (first | with_reducible refine wpAny_call ?_ | lk)
  refine codeAny_mono hq fun r s' z => ?_
  rcases r with e | (v | _ | _ | _) <;> first | exact z | exact z.elim | skip
  obtain ⟨rfl, z⟩ := z
  exact wpAny_pure (wpAny_pure z)
end
theorem own_list_sa : classOwn (.type "list") "__setattr__" = pure none := by kernel_rfl
theorem refuseLoop_list (self : Value) (l : List Value) : refuseLoop self "__setattr__" (.type "list" :: l) = refuseLoop self "__setattr__" l := by
  unfold refuseLoop
  simp only [List.forIn_cons, own_list_sa]
  rfl
theorem refuse_acc (self : Value) : refuseLoop self "__setattr__" [.ref 151, .type "list", .type "object"] = pure () := by
  rw [refuseLoop_ref, refuseLoop_list]
  exact PySem.F.store_object.passes self
section
variable {C : Cx} {A : Around} {E : Value → Shared → Prop} {x d : Addr} {K : Frag} {s : Shared} {vs : Array Value} {n : Nat}
theorem set_size {v : Value} {Q : Unit → Shared → Prop} (X : K.In s.heap) (A1 : AccK K) (A2 : AccK2 K) (I : InstAt s.heap x { cls := .ref 151, dict := some d, data := .seq vs n } 151 (some emptyDict)) (hd : s.heap.get? d = some emptyDict)
    (h : ∀ h' tk hh u ep, h'.get? d = some (accDict hh u v ep) → Heap.ExtBut d s.heap h' → Q () { s with heap := h', toks := tk }) :
    wpAny (model C.prog C.w) A (setAttr (.ref x) "_initial_size" v) Q E s := by
  have SF := PySem.F.store_object
  obtain ⟨oc, od, cd, sl, hK, hmro, _, _, _⟩ := A2.obj
  have hcl : clsIn K 151 = some cd := by unfold clsIn; rw [hK]
  have hhas : cd.hasDict = true := by have := A2.has; rw [hcl] at this; exact this
  obtain ⟨hh, g, dr, t, os⟩ := s
  dsimp only at X I hd
  unfold setAttr
  refine wpAny_bind (wpAny_mkText ?_)
  refine wpAny_bind ?_
  unfold callSpecial? specialOf
  refine wpAny_bind (wpAny_bind (I.type.here ((looks_findIn X A2.sa).here ?_)))
  dsimp only
  refine wpAny_holding ?_
  refine wpAny_bind (wpAny_of_eq (SF.slot.bind _) ?_)
  refine wpAny_bind (wpAny_call ?_)
  have sub : Looks (model C.prog C.w) hh (isInstance (.ref x) (.type "object")) true := I.type.andThen (looks_mroIn X (by unfold mroIn; rw [hcl, Option.bind_some, hmro]; rfl))
  refine codeAny_call_builtin SF.slot.plain SF.entry (@check_slot (model C.prog C.w) _ _ _ "object.__setattr__" "object" "__setattr__" (.ref x) [.str "_initial_size" t, v] [] _ SF.kind SF.split sub (SF.args (.ref x) (.str "_initial_size" t) v) ?_)
  have hm : Looks (model C.prog C.w) hh (mroOf (.ref 151)) cd.mro := (looks_clsIn X hcl).andThen .now
  show wpAny _ _ (Builtin.«object.__setattr__» ⟨[.ref x, .str "_initial_size" t, v], []⟩) _ _ _
  rw [osa_eq, refuse_eq]
  refine wpAny_bind (wpAny_bind (I.type.here (wpAny_bind (hm.here ?_))))
  rw [hmro, refuse_acc]
  refine wpAny_pure (wpAny_bind (I.type.here (wpAny_bind ((looks_findIn X A2.noSize).here (wpAny_bind (wpAny_pure ?_))))))
  dsimp only
  refine wpAny_bind (wpAny_pure (wpAny_bind (wpAny_bind (wpAny_loadPart I.at_ (wpAny_bind ((looks_clsIn X hcl).here ?_))))))
  rw [hhas]
  refine wpAny_pure (a := some d) (wpAny_bind (wpAny_pure (wpAny_bind ?_)))
  unfold nsSet
  refine wpAny_bind (wpAny_bind (wpAny_askSetting (wpAny_pure (wpAny_bind (wpAny_mkText (wpAny_bind (wpAny_loadPart hd ?_)))))))
  have ha : aRefKeyMayBeTheName "_initial_size" (#[] : Array DictEntry) = false := by rw [aRefKeyMayBeTheName_at]; simp
  dsimp only
  rw [ha, if_neg Bool.false_ne_true]
  obtain ⟨H, hH⟩ : ∃ H, H = (if (("_initial_size" : Str)).cps.isEmpty = true then 0 else reduceHash ((C.w.params).strHash ("_initial_size" : Str).cps)) := ⟨_, rfl⟩
  have hput : Obj.putName "_initial_size" H (.str "_initial_size" (t + 1)) v emptyDict = accDict H (t + 1) v 1 := by rfl
  have D' : (hh.update d (Obj.putName "_initial_size" H (.str "_initial_size" (t + 1)) v)).get? d = some (accDict H (t + 1) v 1) := by
    rw [← hput]; exact Heap.get?_update_self _ hd rfl
  have hext : Heap.ExtBut d hh (hh.update d (Obj.putName "_initial_size" H (.str "_initial_size" (t + 1)) v)) := (Heap.SameBut.update ..).extBut
  subst hH
  refine wpAny_updatePart hd ?_
  refine wpAny_bind (wpAny_lookBehind D' (pastItsLine_dict (by rw [sizeLine_eq, List.size_toArray]; show 1 ≤ _; omega)) ?_)
  exact wpAny_pure (wpAny_pure (wpAny_pure (h _ _ _ _ _ D' hext)))
end
end Mine
end
section
namespace Mine
theorem weight_type_call_ref (a : Addr) (r : List Value) (kw : List (Str × Value)) : (Code.builtin "type.__call__" ⟨.ref a :: r, kw⟩).weight = 1 := by kernel_rfl
section
variable {C : Cx} {A : Around} {g : Heap} {fr : Fm} {E : Value → Shared → Prop} {loc : LOC} {hp : HP} {Q : Value → LOC → HP → Prop}
theorem call_acc (W : WOk C) (A3 : AccW3 C) {head : Int} (hroom : A.depth + 1 < recursionLimit) (h : ∀ x p', hp x = none → Acc p' x head [] → Sub hp p' → Q (.ref x) loc p') : onCall C A g fr E (.ref 151) [iv head] [] loc hp Q := onCall1 fun v hv => by
  obtain ⟨t₀, rfl⟩ := nm_int hv
  obtain ⟨K, X₀, A1, A2⟩ := A3.K
  obtain ⟨pm, F⟩ := A3.fInit
  obtain ⟨o, ho, hd⟩ := F.at_
  intro s R S
  have hk₀ : ∀ b o, C.H₀.get? b = some o → s.heap.get? b = some o := fun b o e => R.keep b o (R.base b o e)
  obtain ⟨hh, gg, dr, t, os⟩ := s
  dsimp only at R hk₀
  refine wpAny_call (make_L (X₀.keeps hk₀) A1 A2 ?_)
  have k1 : ∀ b o, hh.get? b = some o → ((hh.push emptyDict).push (newAcc hh.objs.size)).get? b = some o := fun b o e => Heap.get?_push_of_some _ (Heap.get?_push_of_some _ e)
  have hx1 : ((hh.push emptyDict).push (newAcc hh.objs.size)).get? (hh.objs.size + 1) = some (newAcc hh.objs.size) := by heap_get
  have hd1 : ((hh.push emptyDict).push (newAcc hh.objs.size)).get? hh.objs.size = some emptyDict := by heap_get
  generalize (hh.push emptyDict).push (newAcc hh.objs.size) = h2 at k1 hx1 hd1 ⊢
  obtain ⟨x, hx⟩ : ∃ x, x = hh.objs.size + 1 := ⟨_, rfl⟩
  rw [← hx] at hx1 ⊢
  obtain ⟨dT, nT, hT⟩ := A3.dInit
  refine ks_codeAny_call_defAt (by show A.depth + (Code.builtin "type.__call__" ⟨[.ref 151, _], []⟩).weight < _; rw [weight_type_call_ref]; exact hroom) (k1 _ _ (hk₀ _ _ ho)) hd ((W.lim.keeps hk₀).keeps k1) ((F.code.keeps hk₀).keeps k1) (body := dBody (accStmt 0)) rfl (kp_binds (frag1 (k1 _ _ (hk₀ _ _ hT))) fun S => by rfl : BindsTo _ _ _ [("self", .ref x), ("initial_size", .int head t₀)]) (by show ∀ y ∈ (dScope (accStmt 0)).names, y.2 ≠ .cell; decide)
    (fun y hy => by rcases List.mem_cons.mp hy with rfl | hy; exact rfl; cases List.mem_singleton.mp hy; rfl) fun h₀ hns hk => ?_
  show _root_.PySem.wpAt _ _ _ (execs (_ :: _ :: []) _) _ _ _
  refine ks_wpAt_execs_cons (ks_wpAt_Assign_Attr ?_)
  refine wpAt_of_wpAny (wpAny_Name (wpAny_loadName_local (by rfl) (by rfl) hns rfl ?_) (by rfl))
  refine wpAny_Name (wpAny_loadName_local (by rfl) (by rfl) hns rfl ?_) (by rfl)
  refine set_size ((X₀.keeps hk₀).keeps fun b o e => hk _ _ (k1 b o e)) A1 A2 (d := hh.objs.size) (vs := #[]) (n := 0) ⟨hk _ _ hx1, rfl, rfl, hk _ _ hd1⟩ (hk _ _ hd1) fun h3 tk3 H3 u3 ep3 hd3 hext => ?_
  dsimp only at hns hk hext ⊢
  have hx3 : h3.get? x = some (newAcc hh.objs.size) := hext _ _ (by rw [hx]; exact Nat.succ_ne_self _) (hk _ _ hx1)
  have hold : ∀ b o, hh.get? b = some o → h3.get? b = some o := fun b o e => hext b o (Nat.ne_of_lt (Heap.lt_size e)) (hk _ _ (k1 b o e))
  have hns3 := hns.extBut hext (by
    intro e
    have := Heap.lt_size hd1
    rw [e] at this
    exact Nat.lt_irrefl _ this)
  refine ks_wpAt_execs_cons (ks_wpAt_Expr_any ?_)
  refine super_call0 (s := ⟨h3, gg, dr, tk3, os⟩) A3 own_init type_init (by decide +kernel) PySem.F.entry_list_init chk_init along_init (by decide) (ox := newAcc hh.objs.size) (od := some (accDict H3 u3 (.int head t₀) ep3)) ⟨hx3, rfl, rfl, hd3⟩ (fun b o e => hold _ _ (hk₀ b o e)) ⟨o, hold _ _ (hk₀ _ _ ho), hd⟩ rfl rfl A3.cInit rfl hns3 (by rfl) (by rfl) (by rfl) (by rfl) (by rfl) rfl rfl (by rfl) ?_
  intro h4 tk A' hk4
  dsimp only at hk4
  have hx4 := hk4 _ _ hx3
  show wpAny _ _ (Builtin.List.listItems (.ref x) >>= _) _ _ _
  unfold Builtin.List.listItems
  refine wpAny_bind (wpAny_bind (wpAny_seqItems hx4 rfl (wpAny_pure ?_)))
  refine wpAny_bind ?_
  show wpAny _ _ (updateSeq x fun _ => #[]) _ _ _
  refine wpAny_updateSeq hx4 rfl ?_ (by rw [sizeLine_eq]; decide) (by rw [sizeLine_eq]; decide)
  refine wpAny_bind (wpAny_letGo ?_)
  refine wpAny_pure ⟨.none, rfl, ?_⟩
  have hlt : hh.objs.size ≠ x := by rw [hx]; exact (Nat.succ_ne_self _).symm
  have hx5 := Heap.get?_update_self (Obj.mapSeq fun _ => #[]) hx4 rfl
  have hext5 : Heap.ExtBut x h4 (h4.update x (Obj.mapSeq fun _ => #[])) := (Heap.SameBut.update ..).extBut
  have hd5 := hext5 _ _ hlt (hk4 _ _ hd3)
  have hold5 : ∀ b o, hh.get? b = some o → (h4.update x (Obj.mapSeq fun _ => #[])).get? b = some o := fun b o e => hext5 _ _ (Nat.ne_of_lt (Nat.lt_trans (Heap.lt_size e) (by rw [hx]; exact Nat.lt_succ_self _))) (hk4 _ _ (hold b o e))
  have hpx : hp x = none := by
    cases e : hp x with
    | none => rfl
    | some ao => exact absurd (R.lt_of_hp e) (by rw [hx]; exact Nat.not_lt.mpr (Nat.le_succ _))
  have hpd : hp hh.objs.size = none := R.none_at
  obtain ⟨p', hp'⟩ : ∃ p', p' = hset (hset hp hh.objs.size (accD head)) x (.acc 151 hh.objs.size []) := ⟨_, rfl⟩
  have q1 : p' x = some (.acc 151 hh.objs.size []) := by rw [hp', hset_eq]
  have q2 : p' hh.objs.size = some (accD head) := by rw [hp', hset_ne _ _ hlt, hset_eq]
  have q3 : Sub hp p' := by
    rw [hp']
    intro b o e
    exact hset_of (by rw [hset_ne _ _ hlt.symm]; exact hpx) (hset_of hpd e)
  refine wpAt_of_wpAny (wpAny_pure ⟨rfl, S, loc, p', R.step (W := fun _ => False) (fun _ z => z.elim) (fun b o _ e => hold5 b o e) fun b ao e => ?_, h x p' hpx ⟨_, q1, q2⟩ q3⟩)
  by_cases w1 : b = x
  · subst w1
    rw [q1] at e; cases e
    exact ⟨.inr (by rw [hx]; exact Nat.le_succ _), _, hx5, #[], _, rfl, rfl⟩
  · by_cases w2 : b = hh.objs.size
    · subst w2
      rw [q2] at e; cases e
      exact ⟨.inr (Nat.le_refl _), _, hd5, H3, u3, t₀, ep3, rfl⟩
    · rw [hp', hset_ne _ _ w1, hset_ne _ _ w2] at e
      obtain ⟨_, _, _, o, ho, hi⟩ := R.at_ b ao e
      exact ⟨.inl ⟨_, e⟩, o, hold5 _ _ ho, hi⟩
end
end Mine
end
section
namespace Mine
theorem and_lo : ∀ d : Fin 64, Builtin.bitAnd ((d.val : Int) + 64) 63 = d.val ∧ Builtin.bitAnd ((d.val : Int) + 128) 63 = d.val ∧ Builtin.bitAnd ((d.val : Int) + 64) 64 = 64 ∧ Builtin.bitAnd ((d.val : Int) + 128) 64 = 0 := by decide +kernel
theorem or_lo (v d : Nat) (h : d < 64) : Builtin.bitOr ((v : Int) * 64) (d : Int) = (v : Int) * 64 + d := by
  rw [bitOr_and, bitAnd_pp (by omega) (by omega)]
  have e1 : ((v : Int) * 64).toNat = v * 64 := by omega
  have e2 : ((d : Int)).toNat = d := by omega
  rw [e1, e2]
  have e3 : v * 64 &&& d = 0 := by
    have h1 : d &&& (2 ^ 6 - 1) = d % 2 ^ 6 := Nat.and_two_pow_sub_one_eq_mod d 6
    have h2 : (v * 64) &&& (2 ^ 6 - 1) = (v * 64) % 2 ^ 6 := Nat.and_two_pow_sub_one_eq_mod _ 6
    have h3 : d % 2 ^ 6 = d := Nat.mod_eq_of_lt h
    have h4 : (v * 64) % 2 ^ 6 = 0 := by omega
    rw [h3] at h1
    rw [h4] at h2
    calc v * 64 &&& d = v * 64 &&& (d &&& (2 ^ 6 - 1)) := by rw [h1]
      _ = (v * 64 &&& (2 ^ 6 - 1)) &&& d := by rw [Nat.and_comm d, Nat.and_assoc]
      _ = 0 := by rw [h2]; simp
  rw [e3]; omega
section
variable {C : Cx} {A : Around} {g : Heap} {fr : Fm} {E : Value → Shared → Prop} {loc : LOC} {hp : HP} {a I : Addr} {i : Nat} {xs : List Value} {v : Value} {Q : Value → LOC → HP → Prop}
theorem call_next (hI : hp I = some (listIt a i)) (ha : hp a = some (.list xs)) (hx : xs[i]? = some v) (h : Q v loc (hset hp I (listIt a (i + 1)))) : onCall C A g fr E (.builtin "next") [.ref I] [] loc hp Q := onCall1 fun u hu => by
  have := nm_ref hu; subst this
  intro s R S
  obtain ⟨us, n, e, q⟩ := R.list ha
  obtain ⟨u, hu', rfl⟩ := nm_get q hx
  have hit := R.iter hI
  obtain ⟨o, ho, hc, hd⟩ := id hit
  refine Calls.call_function_entry (by decide +kernel) (by decide +kernel) kdk_entry_next (kdk_args_next _) ?_
  unfold Builtin.«next»
  refine wpAny_bind (m := someArgs "next" 1 2 _) (wpAny_of_eq (a := [Value.ref I]) (by first | rfl | kernel_rfl!) ?_)
  dsimp only
  refine wpAny_bind (wpAny_specialOf (name := Str.ofString "__next__") hit.typeIs slot_listiter_next.lookup ?_)
  refine wpAny_ite_split (fun hab => absurd hab (by decide)) (fun _ => ?_)
  refine wpAny_bind (wpAny_callSpecial?_slot (name := Str.ofString "__next__") hit.typeIs slot_listiter_next (wpAny_call_entry slot_listiter_next hit.typeIs entry_listiter_next ?_ (args_listiter_next _)))
  show wpAny _ _ (field (.ref I) 0 >>= _) _ _ s
  refine wpAny_bind (wpAny_field ho hd (x := .ref a) rfl ?_)
  show wpAny _ _ (if (Value.ref a == Value.none) = true then _ else _) _ _ s
  rw [if_neg (show ¬ ((Value.ref a == Value.none) = true) from Bool.false_ne_true)]
  show wpAny _ _ (field (.ref I) 1 >>= _) _ _ s
  refine wpAny_bind (wpAny_field ho hd (x := .int i 0) rfl ?_)
  show wpAny _ _ (seqItems? (.ref a) >>= _) _ _ s
  refine wpAny_bind (wpAny_seqItems e rfl ?_)
  simp only [Int.toNat_natCast, hu']
  refine wpAny_bind (wpAny_setField ho hd (by simp) (wpAny_pure ⟨u, rfl, wpAny_pure ⟨_, rfl, S, loc, _, ?_, h⟩⟩))
  refine R.chg hI (Heap.SameBut.update ..).extBut (Heap.get?_update_self _ ho (Obj.isFreed_of_fields (Obj.data_mapFields hd _))) (ao' := listIt a (i + 1)) ⟨(Obj.cls_mapFields ..).trans hc, ?_⟩
  rw [Obj.data_mapFields hd]; simp [rawInt]
def valOf (ds : List Nat) (v : Nat) : Nat := ds.foldl (fun v d => v * 64 + d) v
theorem valOf_lt : ∀ (ds : List Nat) (v : Nat), (∀ d ∈ ds, d < 64) → valOf ds v < (v + 1) * 64 ^ ds.length
  | [], v, _ => by simp [valOf]
  | d :: ds, v, h => by
    have := valOf_lt ds (v * 64 + d) fun e he => h e (.tail _ he)
    have hd := h d (.head _)
    refine Nat.lt_of_lt_of_le this ?_
    rw [List.length_cons, Nat.pow_succ, Nat.mul_comm (64 ^ ds.length) 64, ← Nat.mul_assoc]
    exact Nat.mul_le_mul_right _ (by omega)
theorem valOf_snoc (ds : List Nat) (d v : Nat) : valOf (ds ++ [d]) v = valOf ds v * 64 + d := by unfold valOf; rw [List.foldl_append]; rfl
def oct (ds : List Nat) (last k : Nat) : Int := if k < ds.length then ((ds.getD k 0 : Nat) : Int) + 64 else (last : Int) + 128
theorem varint_ok (W : WOk C) {os : List Int} {ds : List Nat} {last : Nat} (hroom : A.depth < recursionLimit) (hI : hp I = some (listIt a i)) (ha : hp a = some (.list (os.map iv))) (hds : ∀ d ∈ ds, d < 64) (hlast : last < 64) (hln : ds.length ≤ 2)
    (hos : ∀ k, k ≤ ds.length → os[i + k]? = some (oct ds last k)) (h : Q (iv (valOf (ds ++ [last]) 0 : Nat)) loc (hset hp I (listIt a (i + ds.length + 1)))) : onCall C A g fr E (.ref 72) [.ref I] [] loc hp Q := onCall1 fun u hu => by
  obtain ⟨pm, F⟩ := W.fVarint
  have hnext := W.next
  have haI : a ≠ I := by rintro rfl; rw [ha] at hI; cases hI
  have hfull : ∀ k, k ≤ ds.length → (ds ++ [last]).getD k 0 < 64 ∧ (Builtin.bitAnd (oct ds last k) 63 = ((ds ++ [last]).getD k 0 : Nat)) ∧ Builtin.bitAnd (oct ds last k) 64 = if k < ds.length then 64 else 0 := fun k hk => by
    unfold oct
    by_cases q : k < ds.length
    · have e : (ds ++ [last]).getD k 0 = ds.getD k 0 := by simp [List.getD_eq_getElem?_getD, List.getElem?_append_left q]
      have hb : ds.getD k 0 < 64 := by
        rw [List.getD_eq_getElem?_getD, List.getElem?_eq_getElem q]
        exact hds _ (List.getElem_mem q)
      obtain ⟨h1, h2, h3, h4⟩ := and_lo ⟨ds.getD k 0, hb⟩
      rw [e, if_pos q, if_pos q]
      exact ⟨hb, h1, h3⟩
    · have e0 : k = ds.length := by omega
      have e : (ds ++ [last]).getD k 0 = last := by simp [List.getD_eq_getElem?_getD, e0]
      obtain ⟨h1, h2, h3, h4⟩ := and_lo ⟨last, hlast⟩
      rw [e, if_neg q, if_neg q]
      exact ⟨hlast, h2, h4⟩
  have hval : ∀ k, k ≤ ds.length → valOf ((ds ++ [last]).take k) 0 < 2 ^ 12 := fun k hk => by
    have h1 := valOf_lt ((ds ++ [last]).take k) 0 fun d hd => by
      rcases List.mem_append.mp (List.mem_of_mem_take hd) with h | h
      · exact hds d h
      · cases List.mem_singleton.mp h; exact hlast
    refine Nat.lt_of_lt_of_le h1 ?_
    have h2 : ((ds ++ [last]).take k).length ≤ 2 := by rw [List.length_take]; omega
    have h3 : 64 ^ ((ds ++ [last]).take k).length ≤ 64 ^ 2 := Nat.pow_le_pow_right (by decide) h2
    omega
  have htake : ∀ k, k ≤ ds.length → valOf ((ds ++ [last]).take (k + 1)) 0 = valOf ((ds ++ [last]).take k) 0 * 64 + (ds ++ [last]).getD k 0 := fun k hk => by
    have hk' : k < (ds ++ [last]).length := by simp; omega
    rw [List.take_add_one, List.getElem?_eq_getElem hk', List.getD_eq_getElem?_getD, List.getElem?_eq_getElem hk']
    exact valOf_snoc ..
  refine aw_callFn F rfl rfl W.lim hroom (binds := [("iterator", u)]) (fun s hk => kp_binds frag0 fun S => by rfl) (by rfl) rfl rfl (by rfl) fun A' g' fr' E' hd hu' hh' hF => ?_
  unfold bindLoc bindLoc
  rw [hu]
  clear F
  refine aw_execs_cons ?_
  repeat' walk_at "kl"
  refine call_next hI ha (v := iv (oct ds last 0)) (by rw [List.getElem?_map, ← Nat.add_zero i, hos 0 (Nat.zero_le _)]; rfl) ?_
  repeat' walk_at "kl"
  rw [(hfull 0 (Nat.zero_le _)).2.1]
  refine aw_of_codeAny_while (fun n l p => ∃ k : Nat, n = ds.length - k ∧ k ≤ ds.length ∧ p = hset hp I (listIt a (i + k + 1)) ∧ l "iterator" = some (.ref I) ∧ l "b" = some (iv (oct ds last k)) ∧ l "val" = some (iv (valOf ((ds ++ [last]).take (k + 1)) 0 : Nat))) ?turn _ ⟨0, rfl, Nat.zero_le _, rfl, ?_, ?_, ?_⟩
  case turn =>
    rintro n l p E'' ⟨k, rfl, hk, rfl, e1, e2, e3⟩
    repeat' walk_at "kl"
    rw [(hfull k hk).2.2]
    by_cases hlt : k < ds.length
    · rw [if_pos hlt]
      repeat' walk_at "kl"
      have hv := hval (k + 1) hlt
      have hb : Builtin.Int.intBits ((valOf ((ds ++ [last]).take (k + 1)) 0 : Nat) : Int) ≤ 12 := intBits_le_iff.mpr (by rw [Int.natAbs_natCast]; exact hv)
      refine op_ishl (by decide) (by omega) ?_
      repeat' walk_at "kl"
      refine call_next (hset_eq ..) (by rw [hset_ne _ _ haI]; exact ha) (v := iv (oct ds last (k + 1))) (by rw [List.getElem?_map, show i + k + 1 = i + (k + 1) from rfl, hos (k + 1) hlt]; rfl) ?_
      rw [hset_hset]
      repeat' walk_at "kl"
      rw [(hfull (k + 1) hlt).2.1]
      rw [show (6 : Int).toNat = 6 from rfl, show (2 : Int) ^ 6 = 64 from rfl, or_lo _ _ (hfull (k + 1) hlt).1]
      refine ⟨ds.length - (k + 1), by omega, k + 1, rfl, hlt, rfl, ?_, ?_, ?_⟩
      · walk_at "loc"
      · walk_at "loc"
      · rw [htake (k + 1) hlt]
        walk_at "loc"
    · rw [if_neg hlt]
      repeat' walk_at "kl"
      have ek : k = ds.length := by omega
      subst ek
      rw [show (ds ++ [last]).take (ds.length + 1) = ds ++ [last] from List.take_of_length_le (by simp)] at *
      exact h
  · walk_at "loc"
  · walk_at "loc"
  · rw [htake 0 (Nat.zero_le _)]
    simp only [List.take_zero, valOf, List.foldl_nil, Nat.zero_mul, Nat.zero_add]
    walk_at "loc"
end
end Mine
end
section
namespace Mine
section
variable {C : Cx} {A : Around} {g : Heap} {fr : Fm} {E : Value → Shared → Prop} {loc : LOC} {hp : HP} {a I : Addr} {i : Nat} {xs : List Value} {Q : Value → LOC → HP → Prop}
structure Stopped (I : Addr) (h h' : Heap) (e : Addr) : Prop where
  keep : ∀ b o, b ≠ I → h.get? b = some o → h'.get? b = some o
  new : h.objs.size ≤ e
  there : ∃ o vs, h'.get? e = some o ∧ o.cls = .type "StopIteration" ∧ o.data = .fields vs ∧ vs[1]? = some .none
theorem call_next_stop (hh : A.handled = none) (hI : hp I = some (listIt a i)) (ha : hp a = some (.list xs)) (hx : xs[i]? = none)
    (h : ∀ s e h' tk, Rep C.H₀ g fr loc hp s.heap → Sok C s → Stopped I s.heap h' e → E (.ref e) { s with heap := h', toks := tk }) : onCall C A g fr E (.builtin "next") [.ref I] [] loc hp Q := onCall1 fun u hu => by
  have := nm_ref hu; subst this
  intro s R S
  obtain ⟨us, n, e, q⟩ := R.list ha
  have hu' : us[i]? = none := by
    have h1 := nm_size q
    have h2 := List.getElem?_eq_none_iff.mp hx
    exact Array.getElem?_eq_none (by omega)
  have hit := R.iter hI
  obtain ⟨o, ho, hc, hd⟩ := id hit
  refine Calls.call_function_entry (by decide +kernel) (by decide +kernel) kdk_entry_next (kdk_args_next _) ?_
  unfold Builtin.«next»
  refine wpAny_bind (m := someArgs "next" 1 2 _) (wpAny_of_eq (a := [Value.ref I]) (by first | rfl | kernel_rfl!) ?_)
  dsimp only
  refine wpAny_bind (wpAny_specialOf (name := Str.ofString "__next__") hit.typeIs slot_listiter_next.lookup ?_)
  refine wpAny_ite_split (fun hab => absurd hab (by decide)) (fun _ => ?_)
  refine wpAny_bind (wpAny_callSpecial?_slot (name := Str.ofString "__next__") hit.typeIs slot_listiter_next (wpAny_call_entry slot_listiter_next hit.typeIs entry_listiter_next ?_ (args_listiter_next _)))
  show wpAny _ _ (field (.ref I) 0 >>= _) _ _ s
  refine wpAny_bind (wpAny_field ho hd (x := .ref a) rfl ?_)
  show wpAny _ _ (if (Value.ref a == Value.none) = true then _ else _) _ _ s
  rw [if_neg (show ¬ ((Value.ref a == Value.none) = true) from Bool.false_ne_true)]
  show wpAny _ _ (field (.ref I) 1 >>= _) _ _ s
  refine wpAny_bind (wpAny_field ho hd (x := .int i 0) rfl ?_)
  show wpAny _ _ (seqItems? (.ref a) >>= _) _ _ s
  refine wpAny_bind (wpAny_seqItems e rfl ?_)
  simp only [Int.toNat_natCast, hu']
  refine wpAny_bind (wpAny_rule (wpAny_bind (wpAny_setField ho hd (by simp) ?_)))
  show wpAny _ _ (newExc (.type "StopIteration") [] >>= _) _ _ _
  refine wpAny_bind ?_
  simp only [newExc, newTuple]
  refine wpAny_bind (wpAny_newObj_type ?_ (by size_fits))
  refine wpAny_bind (m := firstArgMember _ _) (wpAny_of_eq (a := Value.none) (by first | rfl | (simp only [firstArgMember]; rfl)) ?_)
  refine wpAny_newObj_type ?_ (by size_fits)
  simp only [raiseNew]
  refine wpAny_bind (wpAny_handled ?_)
  rw [show A.in1.in1.handled = none from hh]
  refine wpAny_bind (wpAny_pure (wpAny_throw ?_))
  refine h s _ _ _ R S ⟨fun b o hb hbo => Heap.get?_push_of_some _ (Heap.get?_push_of_some _ ((Heap.SameBut.update ..).extBut b o hb hbo)), ?_, _, _, Heap.get?_push_size _ rfl, rfl, rfl, ?_⟩
  · rw [Heap.size_push, Heap.size_after_update]; exact Nat.le_succ _
  · rfl
end
section
variable {M : Model} {A : Around} {E : Value → Shared → Prop} {s : Shared}
theorem note_next {base : Heap} {env : Env} {outer : List Env} {L e : Addr} {cls : Value} {Q : Unit → Shared → Prop}
    (hfr : A.frames = some (env :: outer)) (hl : s.heap.FunFrames base (env :: outer)) (hf : env.frame = some L) (ht : s.heap.Traced base e cls) (hkb : base.StaysIn s.heap) (hen : base.get? e = none)
    (h : ∀ h', Heap.Left base (env :: outer) e cls s.heap h' → Q () { s with heap := h' }) : wpAny M A (noteFrame (.ref e) env) (fun _ s' => wpAny M A (setFlight (.ref e) none) Q E s') E s := by
  obtain ⟨oe, vs, T, oT, ts, he, hcls, hd, h1, hnT, hTe, hT, hdT, h3⟩ := ht
  subst hcls
  unfold noteFrame
  simp only [hf]
  refine wpAny_bind (wpAny_field he hd h1 ?_)
  rw [if_pos (show (Value.ref T != Value.none) = true from by simp)]
  refine wpAny_bind (wpAny_field hT hdT h3 ?_)
  rw [if_neg (show ¬ ((Value.none == rawInt L) = true) from by simp [rawInt])]
  refine wpAny_bind (wpAny_setField hT hdT (Array.getElem?_eq_some_iff.mp h3).1 ?_)
  have other : ∀ b, b ≠ T → (s.heap.update T (Obj.mapFields (·.setIfInBounds 3 Value.none))).get? b = s.heap.get? b := fun b hb => Heap.get?_update_other _ _ (Ne.symm hb)
  have noRecord : ∀ b o, s.heap.get? b = some o → (∀ vs, o.data ≠ .fields vs) → b ≠ T := fun b o hb hnf q => by
    rw [q, hT] at hb; injection hb with hb; subst hb; exact hnf ts hdT
  refine wpAny_newEntry hfr (hl.of_keeps fun b o hb hnf => ⟨o, (other b (noRecord b o hb hnf)).trans hb, rfl⟩) hf ((other e (Ne.symm hTe)).trans he)
    (fun b o hbo => (other b fun q => by rw [q, hnT] at hbo; cases hbo).trans (hkb b o hbo)) hen hd (Array.getElem?_eq_some_iff.mp h1).1
    fun h' ⟨x1, x2, x3, x4⟩ => h h' ⟨x1, x2, x3, fun b o hb hnf => x4 b o ((other b (noRecord b o hb hnf)).trans hb) hnf⟩
end
end Mine
end
section
namespace Mine
structure Flown (C : Cx) (g : Heap) (fr : Fm) (loc : LOC) (hp : HP) (I fL : Addr) (e : Addr) (s : Shared) : Prop where
  sok : Sok C s
  ex : ∃ h₁ l, Rep C.H₀ g fr loc hp h₁ ∧ (∀ b ∈ l, (b ≠ fr.env.locals → g.get? b = none) ∧ (∀ x c, fr.env.cells.lookup x = some c → c ≠ b) ∧ (hp b = none ∨ b = I ∨ b = fL)) ∧ fr.env.locals ∈ l ∧ fL ∈ l ∧ (hideAll h₁ l).StaysIn s.heap ∧
    (∀ b o, b = fr.env.locals ∨ b = fL → h₁.get? b = some o → ∃ sl, s.heap.get? b = some { o with slots := sl }) ∧ (hideAll h₁ l).get? e = none ∧ s.heap.Traced (hideAll h₁ l) e (.type "StopIteration")
def SlotFree (P : Obj → Prop) : Prop := ∀ o, P o → (∀ sl, P { o with slots := sl }) ∧ ∀ vs, o.data ≠ .fields vs
def hrem (hp : HP) (I : Addr) : HP := fun b => if b = I then none else hp b
section
variable {C : Cx} {A : Around} {g : Heap} {fr : Fm} {E : Value → Shared → Prop} {loc : LOC} {hp : HP} {a I fL e : Addr} {i : Nat} {xs : List Value} {Q : Value → LOC → HP → Prop} {P : Obj → Prop} {s : Shared} {law : Env}
theorem Flown.rep (f : Flown C g fr loc hp I fL e s) (hP : hp fL = some (.sat P)) (sf : SlotFree P) : Rep C.H₀ g fr loc (hrem hp I) s.heap := by
  obtain ⟨h₁, l, R, hl, hL, hf, hb, hs, _, _⟩ := f.ex
  have keep : ∀ b o, b ∉ l → h₁.get? b = some o → s.heap.get? b = some o := fun b o hbl e => hb b o (hideAll_get _ e hbl)
  have nsK : ∀ m, h₁.Ns fr.env.locals m → s.heap.Ns fr.env.locals m := fun m ⟨o, es, ep, e, r⟩ => by
    obtain ⟨sl, e'⟩ := hs _ o (.inl rfl) e
    exact ⟨_, es, ep, e', r⟩
  have cK : ∀ x c v, fr.env.cells.lookup x = some c → h₁.IsCell c v → s.heap.IsCell c v := fun x c v lk ⟨o, e, r⟩ => ⟨o, keep _ _ (fun q => (hl c q).2.1 x c lk rfl) e, r⟩
  refine ⟨fun b o e => keep b o (fun q => ?_) (R.keep b o e), R.base, fun x v e => ?_, ?_, R.nsn, R.cell, fun x c lk => ?_, R.apart, fun b ao e => ?_⟩
  · by_cases hbL : b = fr.env.locals
    · rw [hbL, R.nsn] at e; cases e
    · rw [(hl b q).1 hbL] at e; cases e
  · rcases R.loc x v e with ⟨k, m, v', n, q⟩ | ⟨k, c, v', lk, n, q⟩
    · exact .inl ⟨k, m, v', nsK m n, q⟩
    · exact .inr ⟨k, c, v', lk, cK x c _ lk n, q⟩
  · obtain ⟨m, n⟩ := R.ns; exact ⟨m, nsK m n⟩
  · obtain ⟨a, v, n⟩ := R.cne x c lk; exact ⟨a, v, cK x c v lk n⟩
  · unfold hrem at e
    by_cases hbI : b = I
    · rw [if_pos hbI] at e; cases e
    · rw [if_neg hbI] at e
      obtain ⟨a1, a2, a3, o, ho, hi⟩ := R.at_ b ao e
      refine ⟨a1, a2, a3, ?_⟩
      by_cases hbf : b = fL
      · subst hbf
        rw [hP] at e; cases e
        obtain ⟨sl, e'⟩ := hs _ o (.inr rfl) ho
        exact ⟨_, e', (sf o hi).1 sl⟩
      · refine ⟨o, keep b o (fun q => ?_) ho, hi⟩
        rcases (hl b q).2.2 with w | w | w
        · rw [w] at e; cases e
        · exact hbI w
        · exact hbf w
theorem Flown.frames (f : Flown C g fr loc hp I fL e s) (hP : hp fL = some (.sat P)) (sf : SlotFree P) (hk : fr.env.scope.kind = .function) (hff : fr.env.frame = some fr.env.locals) (hlk : law.scope.kind = .function) (hlf : law.frame = some fL) :
    ∃ base, base.StaysIn s.heap ∧ base.get? e = none ∧ s.heap.FunFrames base [fr.env, law] ∧ s.heap.Traced base e (.type "StopIteration") ∧ ∀ h', Heap.Left base [fr.env, law] e (.type "StopIteration") s.heap h' → Flown C g fr loc hp I fL e { s with heap := h' } := by
  obtain ⟨h₁, l, R, hl, hL, hf, hb, hs, hen, htr⟩ := f.ex
  obtain ⟨m, oL, es, ep, hoL, hdL, _⟩ := R.ns
  obtain ⟨_, _, _, oF, hoF, hPF⟩ := R.at_ _ _ hP
  obtain ⟨slL, hsL⟩ := hs _ oL (.inl rfl) hoL
  obtain ⟨slF, hsF⟩ := hs _ oF (.inr rfl) hoF
  have nL : ∀ vs, ({ oL with slots := slL } : Obj).data ≠ .fields vs := fun vs q => by
    have q' : oL.data = .fields vs := q
    rw [hdL] at q'; cases q'
  have nF : ∀ vs, ({ oF with slots := slF } : Obj).data ≠ .fields vs := (sf oF hPF).2
  refine ⟨hideAll h₁ l, hb, hen, ⟨by rw [hk]; decide, ⟨_, _, hff, hideAll_none _ hL, hsL, nL⟩, ⟨by rw [hlk]; decide, ⟨_, _, hlf, hideAll_none _ hf, hsF, nF⟩, trivial⟩⟩, htr, fun h' ⟨k1, k2, k3, k4⟩ => ⟨f.sok, h₁, l, R, hl, hL, hf, k1, fun b o hbb ho => ?_, hen, k3⟩⟩
  rcases hbb with w | w
  · subst w
    rw [hoL] at ho; cases ho
    obtain ⟨sl, e'⟩ := k4 _ _ hsL nL
    exact ⟨sl, e'⟩
  · subst w
    rw [hoF] at ho; cases ho
    obtain ⟨sl, e'⟩ := k4 _ _ hsF nF
    exact ⟨sl, e'⟩
theorem Flown.flight (f : Flown C g fr loc hp I fL e s) (hP : hp fL = some (.sat P)) (sf : SlotFree P) {M : Model} {A : Around} {E : Value → Shared → Prop} {Q : Unit → Shared → Prop} (h : ∀ h', Flown C g fr loc hp I fL e { s with heap := h' } → Q () { s with heap := h' }) : wpAny M A (setFlight (.ref e) none) Q E s := by
  obtain ⟨h₁, l, R, hl, hL, hf, hb, hs, hen, htr⟩ := f.ex
  obtain ⟨m, oL, es, ep, hoL, hdL, _⟩ := R.ns
  obtain ⟨_, _, _, oF, hoF, hPF⟩ := R.at_ _ _ hP
  obtain ⟨oe, vs, T, oT, ts, he, hcls, hd, h1, hnT, hTe, hT, hdT, h3⟩ := htr
  have other : ∀ b, b ≠ T → (s.heap.update T (Obj.mapFields (·.setIfInBounds 3 Value.none))).get? b = s.heap.get? b := fun b hb => Heap.get?_update_other _ _ (Ne.symm hb)
  refine wpAny_setFlight_none he hd h1 hT hdT (Array.getElem?_eq_some_iff.mp h3).1 (h _ ⟨f.sok, h₁, l, R, hl, hL, hf, fun b o hbo => ?_, fun b o hbb ho => ?_, hen, oe, vs, T, _, _, (other e (Ne.symm hTe)).trans he, hcls, hd, h1, hnT, hTe, Heap.get?_update_self _ hT (Obj.isFreed_of_fields (Obj.data_mapFields hdT _)), Obj.data_mapFields hdT _, ?_⟩)
  · rw [other b fun q => by rw [q, hnT] at hbo; cases hbo]
    exact hb b o hbo
  · obtain ⟨sl, e'⟩ := hs b o hbb ho
    refine ⟨sl, (other b fun q => ?_).trans e'⟩
    rw [q, hT] at e'
    cases e'
    rcases hbb with w | w
    · rw [w, hoL] at ho; cases ho
      have q' : oL.data = .fields ts := hdT
      rw [hdL] at q'; cases q'
    · rw [w, hoF] at ho; cases ho
      exact (sf _ hPF).2 _ hdT
  · have hlt := (Array.getElem?_eq_some_iff.mp h3).1
    simp [hlt]
end
end Mine
end
section
namespace Mine
section
variable {C : Cx} {A : Around} {g : Heap} {fr : Fm} {E : Value → Shared → Prop} {loc : LOC} {hp : HP} {a I fL : Addr} {i : Nat} {xs : List Value} {Q : Value → LOC → HP → Prop} {P : Obj → Prop} {law : Env}
theorem varint_stop (W : WOk C) (hroom : A.depth < recursionLimit) (hh : A.handled = none) (hfr : A.frames = some [fr.env, law]) (hff : fr.env.frame = some fr.env.locals) (hk : fr.env.scope.kind = .function) (hlk : law.scope.kind = .function) (hlf : law.frame = some fL) (hP : hp fL = some (.sat P)) (sf : SlotFree P)
    (hI : hp I = some (listIt a i)) (ha : hp a = some (.list xs)) (hx : xs[i]? = none) (h : ∀ e s, Flown C g fr loc hp I fL e s → E (.ref e) s) : onCall C A g fr E (.ref 72) [.ref I] [] loc hp Q := onCall1 fun u hu => by
  have := nm_ref hu; subst this
  obtain ⟨pm, F⟩ := W.fVarint
  have hnext := W.next
  intro s R S
  obtain ⟨o, ho, hd⟩ := F.at_
  have hk0 : ∀ b o, C.H₀.get? b = some o → s.heap.get? b = some o := fun b o e => R.keep b o (R.base b o e)
  have hbT : BindsTo s (mkFd (topStmt 9) "_parse_varint" .none .none (.ref 71) pm [] .none) ⟨[.ref I], []⟩ [("iterator", .ref I)] := kp_binds frag0 fun S => by rfl
  refine wpAny_call (codeAny_call_function hroom (hk0 _ _ ho) hd F.co F.gen (body := dBody (topStmt 9)) rfl (F.code.keeps hk0) (hbT _ _ _ _ ?_))
  refine wpAny_newFunctionEnv_cells F.kind (fun x hx => by cases List.mem_singleton.mp hx; exact .inl rfl) fun env he s' x => ?_
  subst he
  refine ⟨(W.lim.keeps hk0).keeps x.toInCall.keep, codeAny_func ?_⟩
  have R' := rep_called (h := s.heap) R (fd := mkFd (topStmt 9) "_parse_varint" .none .none (.ref 71) pm [] .none) (f := 72) (binds := [("iterator", .ref I)]) (fun x hx => by cases List.mem_singleton.mp hx; exact .inl rfl) x
  have hF : FrOf (fnFm (mkFd (topStmt 9) "_parse_varint" .none .none (.ref 71) pm [] .none) s.heap.objs.size 72) (mkFd (topStmt 9) "_parse_varint" .none .none (.ref 71) pm [] .none).scope allOwn := frOf_fn _ _ 72 F.kind rfl rfl (by rfl)
  have hF' : (fnFm (mkFd (topStmt 9) "_parse_varint" .none .none (.ref 71) pm [] .none) s.heap.objs.size 72).env.frame = some s.heap.objs.size := rfl
  have hFl : (fnFm (mkFd (topStmt 9) "_parse_varint" .none .none (.ref 71) pm [] .none) s.heap.objs.size 72).env.locals = s.heap.objs.size := rfl
  have hFk : (fnFm (mkFd (topStmt 9) "_parse_varint" .none .none (.ref 71) pm [] .none) s.heap.objs.size 72).env.scope.kind = .function := F.kind
  have S' := sok_called S x
  show wpAny (model C.prog C.w) (A.deeper (fnFm (mkFd (topStmt 9) "_parse_varint" .none .none (.ref 71) pm [] .none) s.heap.objs.size 72).env) (execs (dBody (topStmt 9)) (fnFm (mkFd (topStmt 9) "_parse_varint" .none .none (.ref 71) pm [] .none) s.heap.objs.size 72).env) _
    (fun e s' => wpAny (model C.prog C.w) (A.deeper (fnFm (mkFd (topStmt 9) "_parse_varint" .none .none (.ref 71) pm [] .none) s.heap.objs.size 72).env) (leaving (fnFm (mkFd (topStmt 9) "_parse_varint" .none .none (.ref 71) pm [] .none) s.heap.objs.size 72).env e) (fun _ s'' => E e s'') (fun e' s'' => E e' s'') s') s'
  generalize fnFm (mkFd (topStmt 9) "_parse_varint" .none .none (.ref 71) pm [] .none) s.heap.objs.size 72 = fp at R' hF hF' hFl hFk ⊢
  have gnone : ∀ b, s.heap.objs.size ≤ b → g.get? b = none := fun b hb => by
    cases q : g.get? b with
    | none => rfl
    | some o => exact absurd (Heap.lt_size (R.keep _ _ q)) (Nat.not_lt.mpr hb)
  have hIL : I ≠ fr.env.locals := (R.at_ _ _ hI).2.1
  have hfI : fL ≠ I := by
    rintro rfl
    obtain ⟨_, _, _, o1, e1, i1⟩ := R.at_ _ _ hI
    obtain ⟨_, _, _, o2, e2, i2⟩ := R.at_ _ _ hP
    rw [e1] at e2; cases e2
    exact (sf _ i2).2 _ i1.2
  have body : awf C (A.deeper fp.env) (veil s.heap hp) fp (fun e s' => wpAny (model C.prog C.w) (A.deeper fp.env) (leaving fp.env e) (fun _ s'' => E e s'') (fun e' s'' => E e' s'') s') (execs (dBody (topStmt 9)) fp.env) (bindLoc [("iterator", .ref I)] fun _ => none) hp (fun _ _ _ => False) := by
    unfold bindLoc bindLoc
    refine aw_execs_cons ?_
    repeat' walk_at "kl"
    refine call_next_stop hh hI ha hx fun s₃ e h₄ tk R₃ S₃ st => ?_
    have Rc : Rep C.H₀ g fr loc hp s₃.heap := R.asleep R₃.keep fun b ao e => ⟨(R₃.at_ b ao e).1, (R₃.at_ b ao e).2.2.2⟩
    obtain ⟨oe, vs, he, hcls, hdat, h1⟩ := st.there
    obtain ⟨mp, oP, esP, epP, hoP, hdP, _⟩ := R₃.ns
    rw [hFl] at hoP
    obtain ⟨mL, oL, esL, epL, hoL, hdL, _⟩ := Rc.ns
    obtain ⟨_, _, _, oF, hoF, hPF⟩ := Rc.at_ _ _ hP
    have hpI : s.heap.objs.size ≠ I := by
      have := (R₃.at_ _ _ hI).2.1
      rw [hFl] at this
      exact this.symm
    have k4 : ∀ b o, b ≠ I → s₃.heap.get? b = some o → h₄.get? b = some o := st.keep
    have nd : ∀ {oo : Obj} {es ep}, oo.data = .dict es ep → ∀ vs, oo.data ≠ .fields vs := fun q vs w => by rw [q] at w; cases w
    refine wpAny_leaving_first (base := hideAll s₃.heap [s.heap.objs.size, I, fr.env.locals, fL]) (env := fp.env) (outer := [fr.env, law]) (Around.frames_deeper hfr) ?_ hF' he (fun b o e => ?_) (Heap.get?_none_of_le (by rw [hideAll_size]; exact st.new)) hdat h1 fun h' ⟨l1, l2, l3, l4⟩ => ?_
    · refine ⟨by rw [hFk]; decide, ⟨_, oP, hF', hideAll_none _ (.head _), k4 _ _ hpI hoP, nd hdP⟩, ⟨by rw [hk]; decide, ⟨_, oL, hff, hideAll_none _ (.tail _ (.tail _ (.head _))), k4 _ _ hIL.symm hoL, nd hdL⟩, ⟨by rw [hlk]; decide, ⟨_, oF, hlf, hideAll_none _ (.tail _ (.tail _ (.tail _ (.head _)))), k4 _ _ hfI hoF, (sf _ hPF).2⟩, trivial⟩⟩⟩
    · refine k4 b o (fun q => ?_) (of_hideAll _ e)
      rw [q, hideAll_none _ (.tail _ (.head _))] at e; cases e
    · refine h e _ ⟨S₃, s₃.heap, [s.heap.objs.size, I, fr.env.locals, fL], Rc, fun b hb => ?_, .tail _ (.tail _ (.head _)), .tail _ (.tail _ (.tail _ (.head _))), l1, fun b o hb e => ?_, Heap.get?_none_of_le (by rw [hideAll_size]; exact st.new), by rw [← hcls]; exact l3⟩
      · rcases List.mem_cons.mp hb with w | hb
        · subst w
          exact ⟨fun _ => gnone _ (Nat.le_refl _), fun x c lk => Nat.ne_of_lt (R.cell_lt lk), .inl R.none_at⟩
        · rcases List.mem_cons.mp hb with w | hb
          · subst w
            exact ⟨fun _ => (R.at_ _ _ hI).1, fun x c lk => ((R.at_ _ _ hI).2.2.1 x c lk).symm, .inr (.inl rfl)⟩
          · rcases List.mem_cons.mp hb with w | hb
            · subst w
              refine ⟨fun q => absurd rfl q, fun x c lk => (R.cne x c lk).1, .inl ?_⟩
              cases q : hp fr.env.locals with
              | none => rfl
              | some ao => exact absurd rfl (R.at_ _ _ q).2.1
            · cases List.mem_singleton.mp hb
              exact ⟨fun _ => (R.at_ _ _ hP).1, fun x c lk => ((R.at_ _ _ hP).2.2.1 x c lk).symm, .inr (.inr rfl)⟩
      · rcases hb with w | w
        · subst w
          rw [hoL] at e; cases e
          exact l4 _ _ (k4 _ _ hIL.symm hoL) (nd hdL)
        · subst w
          rw [hoF] at e; cases e
          exact l4 _ _ (k4 _ _ hfI hoF) (sf _ hPF).2
  exact wpAny_mono (body s' R' S') (fun fl s'' hq => by obtain ⟨_, _, _, _, q⟩ := hq; exact q.elim) fun _ _ e => e
end
end Mine
end
section
namespace Mine
theorem stop_base : isSubtype (.type "StopIteration") (.type "BaseException") = pure true := by rw [isSubtype_type]; kernel_rfl
theorem stop_tuple : isSubtype (.type ((Manifest.find? "StopIteration").elim "type" fun x => x.metatype)) (.type "tuple") = pure false := by rw [isSubtype_type]; kernel_rfl
theorem stop_stop : isSubtype (.type "StopIteration") (.type "StopIteration") = pure true := by rw [isSubtype_type]; kernel_rfl
section
variable {C : Cx} {A : Around} {g : Heap} {fr : Fm} {E : Value → Shared → Prop} {loc loc₁ : LOC} {hp hp₁ : HP} {a I fL : Addr} {i : Nat} {xs : List Value} {Q : Flow → LOC → HP → Prop} {P : Obj → Prop} {law : Env} {sc : Scope} {ow : Str → Bool}
theorem aw_TryStop {body orelse suite : List Stmt} {b₀ : Stmt} {p hpos pos : Pos} (F : FrOf fr sc ow) (hG : Glb C "StopIteration" (.type "StopIteration")) (hks : sc.names.lookup ("StopIteration" : Str) = some .globalImplicit)
    (hfr : A.frames = some [fr.env, law]) (hff : fr.env.frame = some fr.env.locals) (hlk : law.scope.kind = .function) (hlf : law.frame = some fL) (hP : hp₁ fL = some (.sat P)) (sf : SlotFree P)
    (hb : ∀ E₁ : Value → Shared → Prop, (∀ e s, Flown C g fr loc₁ hp₁ I fL e s → E₁ (.ref e) s) → awf C A g fr E₁ (execs body fr.env) loc hp fun _ _ _ => False)
    (hq : ∀ A' E', A'.depth = A.depth → A'.units = A.units → awf C A' g fr E' (execs (b₀ :: suite) fr.env) loc₁ (hrem hp₁ I) Q) :
    awf C A g fr E (exec (.Try body [.ExceptHandler (some (.Name "StopIteration" p)) none (b₀ :: suite) hpos] orelse [] pos) fr.env) loc hp Q := fun s R S => by
  refine wpAny_Try_except (wpAny_mono (hb _ (fun e s f => ?_) s R S) (fun fl s'' hq => by obtain ⟨_, _, _, _, q⟩ := hq; exact q.elim) fun _ _ e => e)
  obtain ⟨base, b1, b2, b3, b4, b5⟩ := f.frames hP sf F.k hff hlk hlf
  refine note_next hfr b3 hff b4 b1 b2 fun h' hl => ?_
  have f' := b5 h' hl
  have R' := f'.rep hP sf
  have hk' : ∀ b o, C.H₀.get? b = some o → h'.get? b = some o := fun b o e => R'.keep b o (R'.base b o e)
  refine wpAny_handleBy_builtin stop_base stop_tuple stop_stop (b := true) (wpAny_mono (glob_here hG F.k F.glob F.bi (F.kindOf hks) hk' (by decide)) (fun c s₁ ⟨e1, e2⟩ => ?_) fun _ _ e => e)
  subst e2
  refine ⟨e1, ?_, ?_⟩
  · obtain ⟨_, _, _, _, _, _, _, _, _, htr⟩ := f'.ex
    obtain ⟨oe, _, _, _, _, he, hcls, _⟩ := htr
    exact ⟨oe, he, hcls⟩
  · rw [if_pos rfl]
    refine f'.flight hP sf fun h'' f'' => ?_
    exact hq (A.mark (some (.ref e))) _ rfl rfl _ (f''.rep hP sf) f''.sok
end
end Mine
end
section
namespace Mine
section
variable {C : Cx} {A : Around} {g : Heap} {fr : Fm} {E : Value → Shared → Prop} {loc : LOC} {hp : HP} {a : Addr} {xs : List Value} {Q : Value → LOC → HP → Prop}
theorem call_iter (ha : hp a = some (.list xs)) (h : ∀ I, hp I = none → Q (.ref I) loc (hset hp I (listIt a 0))) : onCall C A g fr E (.builtin "iter") [.ref a] [] loc hp Q := onCall1 fun u hu => by
  have := nm_ref hu; subst this
  intro s R S
  obtain ⟨us, n, e, q⟩ := R.list ha
  refine Calls.call_function_entry (by decide +kernel) (by decide +kernel) kdk_entry_iter (kdk_args_iter _) ?_
  unfold Builtin.«iter»
  refine wpAny_bind (m := someArgs "iter" 1 2 _) (wpAny_of_eq (a := [Value.ref a]) (by first | rfl | kernel_rfl!) ?_)
  show wpAny _ _ (pyIter (.ref a) >>= _) _ _ _
  refine wpAny_bind (wpAny_pyIter_list ⟨_, e, rfl, n, rfl⟩ ?_)
  exact wpAny_pure ⟨_, rfl, S, loc, _, R.alloc (ao := listIt a 0) (o := { cls := .type "list_iterator", data := .fields #[.ref a, .int 0 0] }) rfl ⟨rfl, rfl⟩, h _ R.none_at⟩
end
/-! ### a comprehension of two clauses: 'y for x in A for y in B(x)' -/
section
variable {prog : Program} {w : World} {A : Around} {R : Result → Shared → Prop} {s : Shared} {elt target iter t₂ i₂ : Expr} {scope : Scope} {pos : Pos} {it acc : Value} {env : Env}
abbrev two (elt target iter t₂ i₂ : Expr) (scope : Scope) (pos : Pos) : Expr := .ListComp elt [⟨target, iter, [], 0⟩, ⟨t₂, i₂, [], 0⟩] scope pos
theorem compTurn_two0 : compTurn (two elt target iter t₂ i₂ scope pos) 0 it acc env = (do
      standAt iter.pos
      match ← pyNext it with
      | none => pure (.done .next)
      | some v =>
        letOwnedTupleGo target it v
        assign target env v
        let x ← eval i₂ env
        standAt i₂.pos
        let x ← foldedSetIterable i₂ env x
        let _ ← runOwn (.compStart (two elt target iter t₂ i₂ scope pos) 1 (← holding [x] (pyIter x)) acc env) env
        again (.compLoop (two elt target iter t₂ i₂ scope pos) 0 it acc env)) := by rfl
theorem compTurn_two1 : compTurn (two elt target iter t₂ i₂ scope pos) 1 it acc env = (do
      standAt i₂.pos
      match ← pyNext it with
      | none => pure (.done .next)
      | some v =>
        letOwnedTupleGo t₂ it v
        assign t₂ env v
        (do let _ ← call (.builtin "list.append") [acc, ← eval elt env])
        again (.compLoop (two elt target iter t₂ i₂ scope pos) 1 it acc env)) := by rfl
end
end Mine
end
section
namespace Mine
section
variable {prog : Program} {w : World} {A : Around} {R : Result → Shared → Prop} {s : Shared} {elt target iter t₂ i₂ : Expr} {scope : Scope} {pos : Pos} {it acc : Value} {env : Env}
theorem codeAny_two1 (I : Nat → Shared → Prop)
    (turn : ∀ n s, I n s → wpAny (model prog w) A (pyNext it) (fun r s₁ => match r with
      | none => R (.ok .next) s₁
      | some v => wpAny (model prog w) A (letOwnedTupleGo t₂ it v) (fun _ s₁' => wpAny (model prog w) A (assign t₂ env v) (fun _ s₂ =>
          wpAny (model prog w) A (eval elt env) (fun x s₄ =>
              wpAny (model prog w) A (call (.builtin "list.append") [acc, x]) (fun _ s₅ => ∃ m, m < n ∧ I m s₅) (notedBy (model prog w) A env fun e s' => R (.error e) s') s₄) (notedBy (model prog w) A env fun e s' => R (.error e) s') s₂) (notedBy (model prog w) A env fun e s' => R (.error e) s') s₁') (notedBy (model prog w) A env fun e s' => R (.error e) s') s₁) (notedBy (model prog w) A env fun e s' => R (.error e) s') s)
    (n : Nat) (h : I n s) : codeAny (model prog w) A (.compLoop (two elt target iter t₂ i₂ scope pos) 1 it acc env) R s := by
  refine codeAny_loop rfl I (fun n s hI => ?_) n h
  show wpAny _ A ((compTurn (two elt target iter t₂ i₂ scope pos) 1 it acc env).onRaise (fun x => do noteFrame x env; theTreesLotGoes x)) _ _ s
  refine wpAny_noted ?_
  rw [compTurn_two1]
  refine wpAny_bind (wpAny_standAt (wpAny_bind (wpAny_mono (turn n s hI) (fun r s₁ h₁ => ?_) fun _ _ h' => h')))
  cases r with
  | none => exact wpAny_pure h₁
  | some v =>
    refine wpAny_bind (wpAny_mono h₁ (fun _ s₁' h₁' => ?_) fun _ _ h' => h')
    refine wpAny_bind (wpAny_mono h₁' (fun _ s₂ h₂ => ?_) fun _ _ h' => h')
    exact wpAny_bind (wpAny_bind (wpAny_mono h₂ (fun x s₄ h₄ => wpAny_bind (wpAny_mono h₄ (fun _ s₅ h₅ => wpAny_pure (wpAny_pure ⟨rfl, h₅⟩)) fun _ _ h' => h')) fun _ _ h' => h'))
theorem codeAny_start1 (h0 : codeAny (model prog w) A (.compLoop (two elt target iter t₂ i₂ scope pos) 1 it acc env) R s)
    (h : wpAny (model prog w) A (pyIter it) (fun it' s' => codeAny (model prog w) A (.compLoop (two elt target iter t₂ i₂ scope pos) 1 it' acc env) R s')
      (notedBy (model prog w) A env fun x s' => R (.error x) s') s) :
    codeAny (model prog w) A (.compStart (two elt target iter t₂ i₂ scope pos) 1 it acc env) R s := by
  refine codeAny_of_tree ?_
  show wpAny _ _ ((compStart (two elt target iter t₂ i₂ scope pos) 1 it acc env).onRaise (fun x => do noteFrame x env; standAt theWindowsPlace)) _ _ s
  refine wpAny_notedAt ?_
  unfold compStart
  show wpAny _ _ (ask >>= _) _ _ s
  refine wpAny_bind (wpAny_askSetting (wpAny_ite ?_))
  split
  · first
      | exact wpAny_bind (wpAny_pure (wpAny_pure (And.intro rfl h0)))
      | exact wpAny_pure (And.intro rfl h0)
  · first
      | exact wpAny_bind (wpAny_rule (wpAny_bind (wpAny_standAt (wpAny_bind (wpAny_mono h (fun it' s' h' => wpAny_pure (And.intro rfl h')) fun _ _ x => x)))))
      | (refine wpAny_bind (wpAny_rule ?_); show wpAny _ _ (standAt i₂.pos >>= _) _ _ s; exact wpAny_bind (wpAny_standAt (wpAny_bind (wpAny_mono h (fun it' s' h' => wpAny_pure (And.intro rfl h')) fun _ _ x => x))))
def ownE (prog : Program) (w : World) (A : Around) (env : Env) (E : Value → Shared → Prop) : Value → Shared → Prop := fun x s => wpAny (model prog w) A (do
    if (← field x 1) == .none then unsupported "frame.own-activation:exception-without-traceback"
    setFlight x env.frame) (fun _ s' => E x s') E s
theorem codeAny_two0 (hfs : ∀ x, foldedSetIterable i₂ env x = pure x) (I : Nat → Shared → Prop)
    (turn : ∀ n s, I n s → wpAny (model prog w) A (pyNext it) (fun r s₁ => match r with
      | none => R (.ok .next) s₁
      | some v => wpAny (model prog w) A (letOwnedTupleGo target it v) (fun _ s₁' => wpAny (model prog w) A (assign target env v) (fun _ s₂ =>
          wpAny (model prog w) A (eval i₂ env) (fun x s₃ => wpAny (model prog w) A (pyIter x) (fun it₂ s₄ =>
              codeAny (model prog w) A (.compStart (two elt target iter t₂ i₂ scope pos) 1 it₂ acc env) (fun r s₅ => match r with | .ok _ => ∃ m, m < n ∧ I m s₅ | .error e => ownE prog w A env (notedBy (model prog w) A env fun e s' => R (.error e) s') e s₅) s₄)
            (notedBy (model prog w) A env fun e s' => R (.error e) s') s₃) (notedBy (model prog w) A env fun e s' => R (.error e) s') s₂) (notedBy (model prog w) A env fun e s' => R (.error e) s') s₁') (notedBy (model prog w) A env fun e s' => R (.error e) s') s₁) (notedBy (model prog w) A env fun e s' => R (.error e) s') s)
    (n : Nat) (h : I n s) : codeAny (model prog w) A (.compLoop (two elt target iter t₂ i₂ scope pos) 0 it acc env) R s := by
  refine codeAny_loop rfl I (fun n s hI => ?_) n h
  show wpAny _ A ((compTurn (two elt target iter t₂ i₂ scope pos) 0 it acc env).onRaise (fun x => do noteFrame x env; theTreesLotGoes x)) _ _ s
  refine wpAny_noted ?_
  rw [compTurn_two0]
  refine wpAny_bind (wpAny_standAt (wpAny_bind (wpAny_mono (turn n s hI) (fun r s₁ h₁ => ?_) fun _ _ h' => h')))
  cases r with
  | none => exact wpAny_pure h₁
  | some v =>
    refine wpAny_bind (wpAny_mono h₁ (fun _ s₁' h₁' => ?_) fun _ _ h' => h')
    refine wpAny_bind (wpAny_mono h₁' (fun _ s₂ h₂ => ?_) fun _ _ h' => h')
    refine wpAny_bind (wpAny_mono h₂ (fun x s₃ h₃ => ?_) fun _ _ h' => h')
    refine wpAny_bind (wpAny_standAt (wpAny_bind ?_))
    rw [hfs]
    refine wpAny_pure (wpAny_bind (wpAny_holding (wpAny_mono h₃ (fun it₂ s₄ h₄ => ?_) fun _ _ h' => h')))
    refine wpAny_bind ?_
    unfold runOwn
    refine wpAny_onRaise (wpAny_run (codeAny_mono h₄ fun r s₅ h₅ => ?_))
    cases r with
    | ok f => exact wpAny_pure ⟨rfl, h₅⟩
    | error e => exact h₅
end
end Mine
end
section
namespace Mine
section
variable {α : Type} {C : Cx} {A : Around} {g : Heap} {fr : Fm} {E : Value → Shared → Prop} {loc : LOC} {hp : HP} {sc : Scope} {ow : Str → Bool} {scope : Scope}
theorem inner_flat {target iter i₂ : Expr} {y : Str} {py₁ py₂ : Pos} {pos : Pos} {T D it₂ : Addr} {ys zs : List Value} {b : HP} {l : LOC} {R : Result → Shared → Prop} (hh : A.handled = none) (hsto : Sto fr y) (hk : fr.env.scope.kind = .function) (hyd : (y == ("__debug__" : Str)) = false) (hyc : (y == ("__classdict__" : Str)) = false)
    (hT : b T = some (.list zs)) (hD : b D = some (.list ys)) (hTD : T ≠ D) (hit : b it₂ = none) (hsz : ys.length + zs.length ≤ 100000)
    (fin : ∀ s' l', Sok C s' → Rep C.H₀ g fr l' (hset b D (.list (ys ++ zs))) s'.heap → (∀ x v, l x = some v → x ≠ y → l' x = some v) → R (.ok .next) s')
    (s : Shared) (Rp : Rep C.H₀ g fr l (hset b it₂ (listIt T 0)) s.heap) (S : Sok C s) :
    codeAny (model C.prog C.w) A (.compLoop (two (.Name y py₁) target iter (.Name y py₂) i₂ scope pos) 1 (.ref it₂) (.ref D) fr.env) R s := by
  have hDi : D ≠ it₂ := by rintro rfl; rw [hit] at hD; cases hD
  have hTi : T ≠ it₂ := by rintro rfl; rw [hit] at hT; cases hT
  refine codeAny_two1 (fun k s' => Sok C s' ∧ ∃ j l', k = zs.length - j ∧ j ≤ zs.length ∧ Rep C.H₀ g fr l' (hset (hset b D (.list (ys ++ zs.take j))) it₂ (listIt T j)) s'.heap ∧ ∀ x v, l x = some v → x ≠ y → l' x = some v) ?_ zs.length
    ⟨S, 0, l, rfl, Nat.zero_le _, by rw [List.take_zero, List.append_nil, show hset b D (.list ys) = b from funext fun c => by unfold hset; split; rename_i q; rw [q, hD]; rfl]; exact Rp, fun _ _ e _ => e⟩
  rintro k s' ⟨S', j, l', rfl, hj, R', hl⟩
  have hq : (hset b D (.list (ys ++ zs.take j))) it₂ = none := by rw [hset_ne _ _ hDi.symm]; exact hit
  have hTq : hset (hset b D (.list (ys ++ zs.take j))) it₂ (listIt T j) T = some (.list zs) := by rw [hset_ne _ _ hTi, hset_ne _ _ hTD]; exact hT
  obtain ⟨us, n, e, q⟩ := R'.list hTq
  by_cases hlt : j < zs.length
  · obtain ⟨u, hu, hun⟩ := nm_get q (List.getElem?_eq_getElem hlt)
    refine wpAny_pyNext_list_item (R'.iter (hset_eq ..)) ⟨_, e, rfl, n, rfl⟩ hu fun h' hit' hs' => ?_
    obtain ⟨o, ho, hc, hd⟩ := hit'
    have R₂ := R'.chg (hset_eq ..) hs'.extBut ho (ao' := listIt T (j + 1)) ⟨hc, hd⟩
    rw [hset_hset] at R₂
    refine wpAny_of_eq (a := ()) rfl ?_
    have as := aw_assignName (C := C) (A := A) (g := g) (fr := fr) (E := notedBy (model C.prog C.w) A fr.env fun e s' => R (.error e) s') (loc := l') (hp := hset (hset b D (.list (ys ++ zs.take j))) it₂ (listIt T (j + 1))) (x := y) (pos := py₂) (v := u)
      (Q := fun _ l p => l = lset l' y (nm u) ∧ p = hset (hset b D (.list (ys ++ zs.take j))) it₂ (listIt T (j + 1))) hsto ⟨rfl, rfl⟩
    refine wpAny_mono (as { s' with heap := h' } R₂ S') (fun _ s₃ ⟨S₃, l₃, p₃, R₃, e1, e2⟩ => ?_) fun _ _ e => e
    subst e1; subst e2
    have nmv := aw_Name (C := C) (A := A) (g := g) (fr := fr) (E := notedBy (model C.prog C.w) A fr.env fun e s' => R (.error e) s') (loc := lset l' y (nm u)) (hp := hset (hset b D (.list (ys ++ zs.take j))) it₂ (listIt T (j + 1))) (x := y) (pos := py₁) (v := nm u)
      (Q := fun v l p => v = nm u ∧ l = lset l' y (nm u) ∧ p = hset (hset b D (.list (ys ++ zs.take j))) it₂ (listIt T (j + 1))) hk lset_eq ⟨rfl, rfl, rfl⟩ hyd hyc
    refine wpAny_mono (nmv s₃ R₃ S₃) (fun v s₄ ⟨S₄, l₄, p₄, R₄, e1, e2, e3⟩ => ?_) fun _ _ e => e
    subst e2; subst e3
    have hD4 : hset (hset b D (.list (ys ++ zs.take j))) it₂ (listIt T (j + 1)) D = some (.list (ys ++ zs.take j)) := by rw [hset_ne _ _ hDi, hset_eq]
    have ap := call_append (C := C) (A := A) (g := g) (fr := fr) (E := notedBy (model C.prog C.w) A fr.env fun e s' => R (.error e) s') (loc := lset l' y (nm u)) (x := v)
      (Q := fun _ l p => l = lset l' y (nm u) ∧ p = hset (hset (hset b D (.list (ys ++ zs.take j))) it₂ (listIt T (j + 1))) D (.list (ys ++ zs.take j ++ [nm v]))) hD4 (by rw [sizeLine_eq, List.length_append, List.length_take]; omega) ⟨rfl, rfl⟩
    refine wpAny_mono (ap s₄ R₄ S₄) (fun _ s₅ ⟨S₅, l₅, p₅, R₅, e4, e5⟩ => ?_) fun _ _ e => e
    subst e4; subst e5
    refine ⟨zs.length - (j + 1), by omega, S₅, j + 1, lset l' y (nm u), rfl, hlt, ?_, fun x v e hx => ?_⟩
    · rw [hset_comm hDi.symm, hset_hset, e1, hun] at R₅
      rw [List.take_add_one, List.getElem?_eq_getElem hlt, ← List.append_assoc, hun]
      exact R₅
    · show lset l' y (nm u) x = some v
      unfold lset; rw [if_neg hx]; exact hl x v e hx
  · have hje : j = zs.length := by omega
    subst hje
    refine wpAny_pyNext_list_end hh (R'.iter (hset_eq ..)) ⟨_, e, rfl, n, rfl⟩ (Array.getElem?_eq_none (by rw [nm_size q]; exact Nat.le_refl _)) fun h' hx => ?_
    refine fin { s' with heap := h' } l' S' ?_ hl
    have := R'.drop1 (hset_eq ..) hx (hp' := hset b D (.list (ys ++ zs.take zs.length))) fun c o e => ⟨(by rintro rfl; rw [hq] at e; cases e), hset_of hq e⟩
    rwa [List.take_length] at this
end
end Mine
end
section
namespace Mine
section
variable {α : Type} {C : Cx} {A : Around} {g : Heap} {fr : Fm} {E : Value → Shared → Prop} {loc : LOC} {hp : HP} {sc : Scope} {ow : Str → Bool} {scope : Scope}
theorem comp_flat {β : Type} {target iter i₂ : Expr} {y : Str} {py₁ py₂ : Pos} {pos pos₂ : Pos} (rows : List β) (m : β → List Value) (zs : β → List Value) {names : List Str} {use : Option (Value → Sem Unit)} {Qw : Value → Shared → Prop} (hh : A.handled = none) (F : FrOf fr sc ow) (hs : ScOk scope sc = true)
    (hfs : ∀ x, foldedSetIterable iter fr.env x = pure x) (hfs₂ : ∀ fr' : Fm, ∀ x, foldedSetIterable i₂ fr'.env x = pure x) (hy : scope.names.lookup y = some .local) (hyd : (y == ("__debug__" : Str)) = false) (hyc : (y == ("__classdict__" : Str)) = false) (hok : names.all (fun x => scope.names.lookup x == some .local || scope.names.lookup x == some .cell) = true)
    (s : Shared) (R : Rep C.H₀ g fr loc hp s.heap) (S : Sok C s)
    (h : awv C A g fr E (eval iter fr.env) loc hp fun x l p => onIt C A target names x l p fun vss need l p => vss = rows.map m ∧ rows.length ≤ 1000 ∧ (∀ x ∈ rows, (zs x).length ≤ 10) ∧ (∀ p', Sub p p' → need p') ∧
      (∀ x ∈ rows, ∀ g' fr' E' p', FrOf fr' (relabelS scope sc) (ownS scope) → Sub p p' → awv C A g' fr' E' (eval i₂ fr'.env) (setAll names (m x) (compLoc scope l)) p' fun v l' p'' => l' = setAll names (m x) (compLoc scope l) ∧ ∃ T, v = .ref T ∧ Sub p' p'' ∧ p'' T = some (.list (zs x))) ∧
      (∀ D L p' s', Sub p p' → p' D = none → (hset p' D (.list (rows.flatMap zs))) L = none → Sok C s' → Rep C.H₀ g fr l (hset (hset p' D (.list (rows.flatMap zs))) L isNs) s'.heap → (∃ m, s'.heap.Ns L m) → compPost (model C.prog C.w) A E use Qw (.ref D) L (.ok .next) s')) :
    wpAny (model C.prog C.w) A (comprehension (two (.Name y py₁) target iter (.Name y py₂) i₂ scope pos) scope fr.env pos₂ (newList []) false (eval iter fr.env) use) Qw E s := by
  refine wpAny_comprehension_free rfl hfs (comp_closure F hs) (ScOk.kind hs) (fun x hx hl => by obtain ⟨n, k⟩ := x; cases hl; exact ScOk.names hs hx) ?_
  refine wpAny_mono (h s R S) (fun x s₁ ⟨S₁, l₁, p₁, R₁, vss, need, r₁, p₀, e, hnd, hap, hit, hvv, hlen, hz, hn, turn, fin⟩ => ?_) fun _ _ e => e
  subst e; subst hvv
  have := hit g fr E l₁ p₀ x (fun it l p => ∃ St r₀, l = l₁ ∧ p = hjoin p₀ r₀ ∧ Src C A target names it (rows.map m) need St ∧ St 0 r₀ ∧ Apart p₀ r₀) rfl hnd hap (fun it St r₀ W hst hap => ⟨St, r₀, rfl, rfl, W, hst, hap⟩) s₁ R₁ S₁
  refine wpAny_mono this (fun it s₂ ⟨S₂, l₂, p₂, R₂, St, r₀, e1, e2, W, hst, hap⟩ => ?_) fun _ _ e => e
  subst e1; subst e2
  have hD0 : hjoin p₀ r₀ s₂.heap.objs.size = none := R₂.none_at
  have hDp : p₀ s₂.heap.objs.size = none := by
    cases q : p₀ s₂.heap.objs.size with
    | none => rfl
    | some o => rw [hjoin_l q] at hD0; cases hD0
  generalize hDe : s₂.heap.objs.size = D at hD0 hDp
  have alloc : Rep C.H₀ g fr l₂ (hjoin (hset p₀ D (.list [])) r₀) (s₂.heap.push { cls := .type "list", data := .seq ([] : List Value).toArray }) := by
    rw [hjoin_hset, ← hDe]
    exact R₂.alloc rfl ⟨_, _, rfl, rfl⟩
  refine wpAny_newObj_type ?_ (by show ([] : List Value).toArray.size ≤ sizeLine; rw [sizeLine_eq]; decide)
  rw [hDe]
  generalize hs₃ : ({ s₂ with heap := s₂.heap.push { cls := .type "list", data := .seq ([] : List Value).toArray } } : Shared) = s₃
  have R₃ : Rep C.H₀ g fr l₂ (hjoin (hset p₀ D (.list [])) r₀) s₃.heap := by rw [← hs₃]; exact alloc
  have S₃ : Sok C s₃ := by rw [← hs₃]; exact S₂
  clear hs₃ alloc this R₂ S₂ R₁ S₁ hit R S h
  refine wpAny_newCompEnv ?_
  generalize hL : s₃.heap.objs.size = L
  have R₄ := rep_comp F hs R₃
  rw [hL] at R₄
  have hF' := frOf_comp F hs L
  have hapD : Apart (hset p₀ D (.list [])) r₀ := fun b hb => by
    by_cases e : b = D
    · subst e
      exfalso
      unfold hjoin at hD0
      rw [hDp] at hD0
      exact hb hD0
    · rw [hset_ne _ _ e]; exact hap b hb
  have hokS : ∀ x ∈ names, Sto (compFm fr scope L) x := fun x hx => by
    have hk := List.all_eq_true.mp hok x hx
    rcases Bool.or_eq_true_iff.mp hk with q | q
    · refine hF'.stoL ?_
      rw [relabelS_lookup, beq_iff_eq.mp q]; rfl
    · refine hF'.stoC ?_ ?_
      · rw [relabelS_lookup, beq_iff_eq.mp q]; rfl
      · exact q
  have hbase : ∀ x v, compLoc scope l₂ x = some v → x ∉ names := fun x v e hx => by
    obtain ⟨e1, _⟩ := of_compLoc e
    have hk := List.all_eq_true.mp hok x hx
    rw [e1] at hk
    cases hk
  have gL : (veil s₃.heap (hjoin (hset p₀ D (.list [])) r₀)).get? L = none := by
    cases q : (veil s₃.heap (hjoin (hset p₀ D (.list [])) r₀)).get? L with
    | none => rfl
    | some o => exact absurd (Heap.lt_size (of_veil q).1) (by rw [hL]; exact Nat.lt_irrefl _)
  have loop : ∀ s : Shared, Sok C s → ∀ r, St 0 r → Apart (hset p₀ D (.list [])) r → Rep C.H₀ (veil s₃.heap (hjoin (hset p₀ D (.list [])) r₀)) (compFm fr scope L) (compLoc scope l₂) (hjoin (hset p₀ D (.list [])) r) s.heap →
      codeAny (model C.prog C.w) A (.compLoop (two (.Name y py₁) target iter (.Name y py₂) i₂ scope pos) 0 it (.ref D) (compFm fr scope L).env) (compPost (model C.prog C.w) A E use Qw (.ref D) L) s := fun s Ss r hst hap R => by
    refine codeAny_two0 (fun x => hfs₂ _ x) (fun k s' => Sok C s' ∧ ∃ i l p r, k = rows.length - i ∧ i ≤ rows.length ∧ p D = none ∧ Apart (hset p D (.list ((rows.take i).flatMap zs))) r ∧ Rep C.H₀ (veil s₃.heap (hjoin (hset p₀ D (.list [])) r₀)) (compFm fr scope L) l (hjoin (hset p D (.list ((rows.take i).flatMap zs))) r) s'.heap ∧ St i r ∧
      (∀ x v, compLoc scope l₂ x = some v → l x = some v) ∧ Sub p₀ p) ?_ rows.length ⟨Ss, 0, _, p₀, r, rfl, Nat.zero_le _, hDp, hap, R, hst, fun _ _ e => e, Sub.rfl⟩
    rintro k s' ⟨S', i, l, p, r, rfl, hi, hpD, hap, R', hst', hl, hI⟩
    have hbound : ∀ n, n ≤ rows.length → ((rows.take n).flatMap zs).length ≤ 10 * n := fun n hn => by
      have : ∀ (l : List β), (∀ x ∈ l, (zs x).length ≤ 10) → (l.flatMap zs).length ≤ 10 * l.length := fun l => by
        induction l with
        | nil => intro _; simp
        | cons x l ih =>
          intro h
          rw [List.flatMap_cons, List.length_append, List.length_cons]
          have h1 := h x (.head _)
          have h2 := ih fun y hy => h y (.tail _ hy)
          omega
      have h1 := this (rows.take n) fun x hx => hz x (List.mem_of_mem_take hx)
      rw [List.length_take] at h1
      omega
    generalize hys : (rows.take i).flatMap zs = ys at hap R'
    have hup := hset_back (o := .list ys) hpD
    by_cases hlt : i < rows.length
    · obtain ⟨x, hx⟩ : ∃ x, rows[i]? = some x := ⟨_, List.getElem?_eq_getElem hlt⟩
      have hxm := List.mem_of_getElem? hx
      have hget : (rows.map m)[i]? = some (m x) := by rw [List.getElem?_map, hx]; rfl
      have := W.adv i _ r (hset p D (.list ys)) _ (compFm fr scope L) (notedBy (model C.prog C.w) A (compFm fr scope L).env fun e s' => compPost (model C.prog C.w) A E use Qw (.ref D) L (.error e) s') l
        (fun l' p' => ∃ r', St (i + 1) r' ∧ Apart (hset p D (.list ys)) r' ∧ l' = setAll names (m x) l ∧ p' = hjoin (hset p D (.list ys)) r') hget hst' (W.up _ _ hup (hn p hI)) hap hokS (fun r' a b => ⟨r', a, b, rfl, rfl⟩) s' R' S'
      refine wpAny_mono this (fun rr s₁ ⟨S₁, l₁, p₁, R₁, v, e, h₁⟩ => ?_) fun _ _ e => e
      subst e
      refine wpAny_mono (h₁ s₁ R₁ S₁) (fun _ s₂ ⟨S₂, l₂', p₂, R₂, h₂⟩ => ?_) fun _ _ e => e
      refine wpAny_mono (h₂ s₂ R₂ S₂) (fun _ s₄ ⟨S₄, l₄, p₄, R₅, r', hst₃, hap₃, e1, e2⟩ => ?_) fun _ _ e => e
      subst e1; subst e2
      have apD : Apart p (hset r' D (.list ys)) := apart_hset (fun b hb => by
        have := hap₃ b hb
        by_cases e : b = D
        · subst e; exact hpD
        · rwa [hset_ne _ _ e] at this) hpD
      have ej : hjoin (hset p D (.list ys)) r' = hjoin p (hset r' D (.list ys)) := by rw [hjoin_hset, hset_hjoin hpD]
      rw [ej] at R₅
      have R₆ := R₅.forget (setAll_mono names (m x) hl) (fun _ _ e => e)
      have te := aw_frame (C := C) (A := A) (g := (veil s₃.heap (hjoin (hset p₀ D (.list [])) r₀))) (fr := compFm fr scope L) (E := notedBy (model C.prog C.w) A (compFm fr scope L).env fun e s' => compPost (model C.prog C.w) A E use Qw (.ref D) L (.error e) s') apD
        (fun g' => turn x hxm g' (compFm fr scope L) _ p hF' hI)
      refine wpAny_mono (te s₄ R₆ S₄) (fun y₀ s₆ ⟨S₆, l₆, p₇, R₈, p₈, e, hap₈, e', T, e₃, hI', hT⟩ => ?_) fun _ _ e => e
      subst e; subst e'
      have := nm_ref e₃; subst this
      have hsup : ∀ x' v, compLoc scope l₂ x' = some v → setAll names (m x) (compLoc scope l₂) x' = some v := setAll_sup names (m x) fun x' v e => ⟨e, hbase x' v e⟩
      have hD' : p₈ D = none := hap₈ D (by rw [hset_eq]; exact fun e => nomatch e)
      have ha' : ∀ o, Apart (hset p₈ D o) r' := fun o b hb => by
        by_cases e : b = D
        · subst e
          have := hap₃ _ hb
          rw [hset_eq] at this; cases this
        · rw [hset_ne _ _ e]; exact hap₈ b (by rw [hset_ne _ _ e]; exact hb)
      have hTb : hjoin p₈ (hset r' D (.list ys)) T = some (.list (zs x)) := hjoin_l hT
      have hDb : hjoin p₈ (hset r' D (.list ys)) D = some (.list ys) := hjoin_r hap₈ (hset_eq ..)
      have hTD : T ≠ D := by rintro rfl; rw [hD'] at hT; cases hT
      obtain ⟨us, n, e, q⟩ := R₈.list hTb
      refine wpAny_pyIter_list ⟨_, e, rfl, n, rfl⟩ ?_
      have R₉ := R₈.alloc (ao := listIt T 0) (o := { cls := .type "list_iterator", data := .fields #[.ref T, .int 0 0] }) rfl ⟨rfl, rfl⟩
      have hni := R₈.none_at
      generalize s₆.heap.objs.size = it₂ at R₉ hni
      have hzl := hz x hxm
      have hyl : ys.length ≤ 10000 := by
        have := hbound i hi
        rw [hys] at this
        omega
      have inner : ∀ s₇ : Shared, Sok C s₇ → Rep C.H₀ (veil s₃.heap (hjoin (hset p₀ D (.list [])) r₀)) (compFm fr scope L) (setAll names (m x) (compLoc scope l₂)) (hset (hjoin p₈ (hset r' D (.list ys))) it₂ (listIt T 0)) s₇.heap → _ := fun s₇ S₇ R₇ =>
        inner_flat (target := target) (iter := iter) (i₂ := i₂) (y := y) (py₁ := py₁) (py₂ := py₂) (pos := pos) (scope := scope) hh (hF'.stoL (by rw [relabelS_lookup, hy]; rfl)) hF'.k hyd hyc hTb hDb hTD hni (by omega)
          (R := fun r s₅ => match r with | .ok _ => ∃ m', m' < rows.length - i ∧ (fun k s' => Sok C s' ∧ ∃ i l p r, k = rows.length - i ∧ i ≤ rows.length ∧ p D = none ∧ Apart (hset p D (.list ((rows.take i).flatMap zs))) r ∧ Rep C.H₀ (veil s₃.heap (hjoin (hset p₀ D (.list [])) r₀)) (compFm fr scope L) l (hjoin (hset p D (.list ((rows.take i).flatMap zs))) r) s'.heap ∧ St i r ∧ (∀ x v, compLoc scope l₂ x = some v → l x = some v) ∧ Sub p₀ p) m' s₅ | .error e => ownE C.prog C.w A (compFm fr scope L).env (notedBy (model C.prog C.w) A (compFm fr scope L).env fun e s' => compPost (model C.prog C.w) A E use Qw (.ref D) L (.error e) s') e s₅)
          (fun s₈ l₈ S₈ R₈' hl₈ => by
            refine ⟨rows.length - (i + 1), by omega, S₈, i + 1, l₈, p₈, r', rfl, hlt, hD', ha' _, ?_, hst₃, fun x' v e => hl₈ x' v (hsup x' v e) (by rintro rfl; obtain ⟨e1, _⟩ := of_compLoc e; rw [hy] at e1; cases e1), hI.trans hI'⟩
            rw [hset_hjoin hD', hset_hset] at R₈'
            have ej' : ∀ zz, hjoin (hset p₈ D (.list zz)) r' = hjoin p₈ (hset r' D (.list zz)) := fun zz => by rw [hjoin_hset, hset_hjoin hD']
            rw [ej', List.take_add_one, hx, List.flatMap_append, hys]
            simpa using R₈') s₇ R₇ S₇
      refine codeAny_start1 (inner _ S₆ R₉) ?_
      exact wpAny_pyIter_listiter (Rep.iter R₉ (hset_eq ..)) (inner _ S₆ R₉)
    · have hin : i = rows.length := by omega
      subst hin
      rw [List.take_length] at hys
      rw [← List.length_map (f := m)] at hst'
      have := W.stp r (hset p D (.list ys)) _ (compFm fr scope L) (notedBy (model C.prog C.w) A (compFm fr scope L).env fun e s' => compPost (model C.prog C.w) A E use Qw (.ref D) L (.error e) s') l
        (fun l' p' => l' = l ∧ ∃ r', p' = hjoin (hset p D (.list ys)) r') hst' (W.up _ _ hup (hn p hI)) hap (fun r' _ => ⟨rfl, r', rfl⟩) s' R' S'
      refine wpAny_mono this (fun rr s₁ ⟨S₁, l₁, p₁, R₁, e, e1, r', e2⟩ => ?_) fun _ _ e => e
      subst e; subst e1; subst e2
      have R₂ := R₁.forget (fun _ _ e => e) (hjoin_drop (hset p D (.list ys)) r')
      have hLn : hset p D (.list ys) L = none := by
        cases q : hset p D (.list ys) L with
        | none => rfl
        | some o => exact absurd rfl (R₂.at_ L o q).2.1
      subst hys
      refine fin D L p s₁ hI hpD hLn S₁ ?_ R₂.ns
      refine R₃.asleep R₂.keep fun b ao e => ?_
      by_cases hb : b = L
      · subst hb
        rw [hset_eq] at e; cases e
        obtain ⟨m, o, es, ep, ho, r⟩ := R₂.ns
        exact ⟨gL, o, ho, s₁.heap, _, m, ⟨o, es, ep, ho, r⟩, ho⟩
      · rw [hset_ne _ _ hb] at e
        obtain ⟨a1, _, _, a4⟩ := R₂.at_ b ao e
        exact ⟨a1, a4⟩
  refine codeAny_compStart_list ?_ ?_
  · refine loop _ ?_ r₀ hst hapD ?_
    · exact S₃
    · exact R₄
  · have sf := W.self 0 r₀ (hset p₀ D (.list [])) (veil s₃.heap (hjoin (hset p₀ D (.list [])) r₀)) (compFm fr scope L) (notedBy (model C.prog C.w) A (compFm fr scope L).env fun x s' => compPost (model C.prog C.w) A E use Qw (.ref D) L (.error x) s') (compLoc scope l₂)
      (fun it' l p => it' = it ∧ l = compLoc scope l₂ ∧ p = hjoin (hset p₀ D (.list [])) r₀) hst (W.up _ _ (hset_back hDp) hnd) hapD ⟨rfl, rfl, rfl⟩
    refine wpAny_mono (sf { s₃ with heap := pushCells (s₃.heap.push { cls := .type "dict", data := .dict #[] }) scope.names } R₄ S₃) (fun it' s₅ ⟨S₅, l₅, p₅, R₅, e1, e2, e3⟩ => ?_) fun _ _ e => e
    subst e1; subst e2; subst e3
    exact loop s₅ S₅ r₀ hst hapD R₅
end
end Mine
end
section
namespace Mine
section
variable {α : Type} {C : Cx} {A : Around} {g : Heap} {fr : Fm} {E : Value → Shared → Prop} {loc : LOC} {hp : HP} {sc : Scope} {ow : Str → Bool} {scope : Scope}
theorem aw_Flat {β : Type} {target iter i₂ : Expr} {y : Str} {py₁ py₂ : Pos} {pos : Pos} (rows : List β) (m : β → List Value) (zs : β → List Value) {Q : Value → LOC → HP → Prop} (hh : A.handled = none) (F : FrOf fr sc ow) (hs : ScOk scope sc = true)
    (hfs : ∀ x, foldedSetIterable iter fr.env x = pure x) (hfs₂ : ∀ fr' : Fm, ∀ x, foldedSetIterable i₂ fr'.env x = pure x) (hy : scope.names.lookup y = some .local) (hyd : (y == ("__debug__" : Str)) = false) (hyc : (y == ("__classdict__" : Str)) = false)
    (hok : (tgtNames target).all (fun x => scope.names.lookup x == some .local || scope.names.lookup x == some .cell) = true)
    (h : awv C A g fr E (eval iter fr.env) loc hp fun x l p => onIt C A target (tgtNames target) x l p fun vss need l p => vss = rows.map m ∧ rows.length ≤ 1000 ∧ (∀ x ∈ rows, (zs x).length ≤ 10) ∧ (∀ p', Sub p p' → need p') ∧
      (∀ x ∈ rows, ∀ g' fr' E' p', FrOf fr' (relabelS scope sc) (ownS scope) → Sub p p' → awv C A g' fr' E' (eval i₂ fr'.env) (setAll (tgtNames target) (m x) (compLoc scope l)) p' fun v l' p'' => l' = setAll (tgtNames target) (m x) (compLoc scope l) ∧ ∃ T, v = .ref T ∧ Sub p' p'' ∧ p'' T = some (.list (zs x))) ∧
      (∀ D p', Sub p p' → p' D = none → Q (.ref D) l (hset p' D (.list (rows.flatMap zs))))) :
    awv C A g fr E (eval (two (.Name y py₁) target iter (.Name y py₂) i₂ scope pos) fr.env) loc hp Q := fun s R S => by
  rw [eval_ListComp]
  refine comp_flat rows m zs (use := none) hh F hs hfs hfs₂ hy hyd hyc hok s R S (awv_mono h fun x l p hx => onIt_mono hx fun vss need l p ⟨h1, h2, h3, h4, h5, h6⟩ => ⟨h1, h2, h3, h4, h5, fun D L p' s' hI hD hL S' R' hn => ?_⟩)
  obtain ⟨mm, n⟩ := hn
  refine ⟨mm, n, fun h' hsb => ⟨S', l, hset p' D (.list (rows.flatMap zs)), ?_, h6 D p' hI hD⟩⟩
  exact R'.drop1 (hset_eq ..) hsb.extBut fun b o e => ⟨(by rintro rfl; rw [hL] at e; cases e), hset_of hL e⟩
end
end Mine
end
section
namespace Mine
def Noted (o₀ : Obj) : Obj → Prop := fun o => ∃ sl, o = { o₀ with slots := sl }
theorem noted_free {o₀ : Obj} {es : Array DictEntry} {ep : Nat} (h : o₀.data = .dict es ep) : SlotFree (Noted o₀) := by
  rintro o ⟨sl, rfl⟩
  refine ⟨fun sl' => ⟨sl', rfl⟩, fun vs q => ?_⟩
  have q' : o₀.data = .fields vs := q
  rw [h] at q'; cases q'
section
variable {α : Type} {C : Cx} {A : Around} {g : Heap} {fr : Fm} {E : Value → Shared → Prop} {loc : LOC} {hp : HP} {sc : Scope} {ow : Str → Bool}
theorem aw_callFnT {f : Addr} {fd : FuncData} {body : List Stmt} {vals : List Value} {kw : List (Str × Value)} {binds : List (Str × Value)} {Q : Value → LOC → HP → Prop}
    (F : FnAt C f fd) (hbody : fd.body = .stmts body) (hclo : fd.closure = []) (hlim : C.H₀.NoLimit) (hroom : A.depth < recursionLimit)
    (hbind : ∀ s : Shared, (∀ b o, C.H₀.get? b = some o → s.heap.get? b = some o) → BindsTo s fd ⟨vals, kw⟩ binds)
    (hkb : (binds.all fun x => fd.scope.names.lookup x.1 == some .local || fd.scope.names.lookup x.1 == some .cell) = true)
    (hg : fd.globals = mainGlobals) (hb : fd.builtins = builtinsNs) (hf : fd.scope.names.all (fun x => x.2 != .free) = true)
    (h : ∀ P g' L E', hp fr.env.locals = none → SlotFree P → FrOf (fnFm fd L f) fd.scope allOwn → awf C (A.deeper (callEnvC fd L f)) g' (fnFm fd L f) E' (execs body (fnFm fd L f).env) (bindLoc binds fun _ => none) (hset hp fr.env.locals (.sat P))
      fun fl _ p => ∃ p', p' fr.env.locals = none ∧ Sub p' p ∧ p fr.env.locals = some (.sat P) ∧ Q (retOf fl) loc p') :
    awv C A g fr E (call (.ref f) vals kw) loc hp Q := fun s R S => by
  obtain ⟨o, ho, hd⟩ := F.at_
  have hkind : ∀ x ∈ binds, fd.scope.names.lookup x.1 = some .local ∨ fd.scope.names.lookup x.1 = some .cell := fun x hx => by
    have := List.all_eq_true.mp hkb x hx
    rcases Bool.or_eq_true_iff.mp this with q | q
    · exact .inl (by simpa using q)
    · exact .inr (by simpa using q)
  have hk : ∀ b o, C.H₀.get? b = some o → s.heap.get? b = some o := fun b o e => R.keep b o (R.base b o e)
  refine wpAny_call (codeAny_call_function hroom (hk _ _ ho) hd F.co F.gen hbody (F.code.keeps hk) (hbind s hk _ _ _ _ ?_))
  rw [hclo]
  refine wpAny_newFunctionEnv_cells F.kind (fun x hx => (hkind x hx).imp id fun e => ⟨e, cellsFrom_some _ _ _ (.inl e)⟩) fun env he s' x => ?_
  subst he
  refine ⟨(hlim.keeps hk).keeps x.toInCall.keep, codeAny_func ?_⟩
  have hpL : hp fr.env.locals = none := by
    cases q : hp fr.env.locals with
    | none => rfl
    | some ao => exact absurd rfl (R.at_ _ _ q).2.1
  obtain ⟨m, oL, es, ep, hoL, hdL, hrest⟩ := R.ns
  have hbaseL : C.H₀.get? fr.env.locals = none := by
    cases q : C.H₀.get? fr.env.locals with
    | none => rfl
    | some o' => have := R.base _ _ q; rw [R.nsn] at this; cases this
  obtain ⟨hp1, hhp1⟩ : ∃ hp1, hp1 = hset hp fr.env.locals (.sat (Noted oL)) := ⟨_, rfl⟩
  have hat : ∀ b ao, hp1 b = some ao → C.H₀.get? b = none ∧ g.get? b = none ∧ ∃ o, s.heap.get? b = some o ∧ ao.is o := fun b ao e => by
    rw [hhp1] at e
    by_cases w : b = fr.env.locals
    · subst w
      rw [hset_eq] at e; cases e
      exact ⟨hbaseL, R.nsn, oL, hoL, oL.slots, rfl⟩
    · rw [hset_ne _ _ w] at e
      obtain ⟨a1, _, _, a4⟩ := R.at_ b ao e
      refine ⟨?_, a1, a4⟩
      cases q : C.H₀.get? b with
      | none => rfl
      | some o' => have := R.base _ _ q; rw [a1] at this; cases this
  have hcall : Rep C.H₀ (veil s.heap hp1) (fnFm fd s.heap.objs.size f) (bindLoc binds fun _ => none) hp1 s'.heap := by
    have R0 : Rep C.H₀ g fr loc (fun _ => none) s.heap := R.forget (fun _ _ e => e) fun _ _ e => nomatch e
    have R1 := rep_called (h := s.heap) R0 (fd := fd) (f := f) (binds := binds) hkind x
    have habove : ∀ y c, (callEnvC fd s.heap.objs.size f).cells.lookup y = some c → s.heap.objs.size < c := fun y c l => x.above y c (mem_of_lookup l)
    have sub : ∀ b o, (veil s.heap hp1).get? b = some o → (veil s.heap fun _ => none).get? b = some o := fun b o e => by
      rw [veil_get rfl]; exact (of_veil e).1
    refine ⟨fun b o e => R1.keep b o (sub b o e), fun b o e => ?_, R1.loc, R1.ns, ?_, fun y c ho l => ?_, R1.cne, R1.apart, fun b ao e => ?_⟩
    · have n : hp1 b = none := by
        cases q : hp1 b with
        | none => rfl
        | some ao => rw [(hat b ao q).1] at e; cases e
      rw [veil_get n]; exact hk b o e
    · cases q : (veil s.heap hp1).get? (fnFm fd s.heap.objs.size f).env.locals with
      | none => rfl
      | some o' => have := sub _ _ q; rw [R1.nsn] at this; cases this
    · cases q : (veil s.heap hp1).get? c with
      | none => rfl
      | some o' => have := sub _ _ q; rw [R1.cell y c ho l] at this; cases this
    · obtain ⟨_, _, o, ho, hi⟩ := hat b ao e
      have hb := Heap.lt_size ho
      exact ⟨veil_none e, Nat.ne_of_lt hb, fun y c l => Nat.ne_of_lt (Nat.lt_trans hb (habove y c l)), o, x.toInCall.keep b o ho, hi⟩
  refine wpAny_mono (h (Noted oL) _ _ _ hpL (noted_free hdL) (frOf_fn fd _ f F.kind hg hb hf) s' (by rw [← hhp1]; exact hcall) (sok_called S x)) (fun fl s'' hq => ?_) fun _ _ e => e
  obtain ⟨S'', l', p, R'', p', hpn, hsub, hpL', q⟩ := hq
  have hkeep : ∀ b o, hp1 b = none → s.heap.get? b = some o → s''.heap.get? b = some o := fun b o n e => R''.keep b o (by rw [veil_get n]; exact e)
  have hLn : ∀ b, b ≠ fr.env.locals → hp b = none → hp1 b = none := fun b hb e => by rw [hhp1, hset_ne _ _ hb]; exact e
  obtain ⟨_, _, _, oL', hoL', sl, rfl⟩ := R''.at_ _ _ hpL'
  have nsK : ∀ m, s.heap.Ns fr.env.locals m → s''.heap.Ns fr.env.locals m := fun m ⟨o, es, ep, e, r⟩ => by
    rw [hoL] at e; cases e
    exact ⟨_, es, ep, hoL', r⟩
  have Cv : ∀ x c, fr.env.cells.lookup x = some c → hp1 c = none := fun x c l => hLn c (R.cne x c l).1 (by
    cases q : hp c with
    | none => rfl
    | some a => exact absurd rfl ((R.at_ _ a q).2.2.1 x c l))
  have cK : ∀ x c v, fr.env.cells.lookup x = some c → s.heap.IsCell c v → s''.heap.IsCell c v := fun x c v l ⟨o, e, r⟩ => ⟨o, hkeep _ _ (Cv x c l) e, r⟩
  refine ⟨S'', loc, p', ⟨fun b o e => ?_, R.base, fun y v e => ?_, ⟨m, nsK m ⟨oL, es, ep, hoL, hdL, hrest⟩⟩, R.nsn, R.cell, fun y c l => ?_, R.apart, fun b ao e => ?_⟩, ?_⟩
  · refine hkeep b o ?_ (R.keep b o e)
    cases q : hp1 b with
    | none => rfl
    | some ao => rw [(hat b ao q).2.1] at e; cases e
  · rcases R.loc y v e with ⟨k, m, v', n, q⟩ | ⟨k, c, v', l, n, q⟩
    · exact .inl ⟨k, m, v', nsK m n, q⟩
    · exact .inr ⟨k, c, v', l, cK y c _ l n, q⟩
  · obtain ⟨a, v, n⟩ := R.cne y c l; exact ⟨a, v, cK y c v l n⟩
  · obtain ⟨a1, a2, a3, a4⟩ := R''.at_ b ao (hsub _ _ e)
    refine ⟨?_, (by rintro rfl; rw [hpn] at e; cases e), fun y c l => ?_, a4⟩
    · cases q : g.get? b with
      | none => rfl
      | some o' =>
        have hn : hp1 b = none := by
          cases q' : hp1 b with
          | none => rfl
          | some ao => rw [(hat b ao q').2.1] at q; cases q
        have := R.keep _ _ q
        rw [← veil_get hn, a1] at this; cases this
    · rintro rfl
      obtain ⟨_, v, o', e', _⟩ := R.cne y b l
      rw [← veil_get (Cv y b l), a1] at e'; cases e'
  · cases fl <;> exact q
end
end Mine
end
section
namespace Mine
def digs (x : Int) : List Int := [x / 4096, x / 64 % 64, x % 64]
def cutAt (k : Nat) (ds : List Int) : Nat := if k % 2 ≠ 0 ∨ 0 < ds.getD 0 0 then 0 else if 0 < ds.getD 1 0 then 1 else 2
def octs (r : List Int) : List Int := r.dropLast.map (· + 64) ++ [r.getLastD 0 + 128]
theorem dig_law (k : Nat) (x : Int) (h0 : 0 ≤ x) (h1 : x < 262144) : ∃ (ds : List Nat) (last : Nat), (∀ d ∈ ds, d < 64) ∧ last < 64 ∧ ds.length ≤ 2 ∧ (digs x).drop (cutAt k (digs x)) = ds.map Int.ofNat ++ [(last : Int)] ∧ ((valOf (ds ++ [last]) 0 : Nat) : Int) = x := by
  obtain ⟨a, ha⟩ : ∃ a : Nat, x / 4096 = a := ⟨(x / 4096).toNat, by omega⟩
  obtain ⟨b, hb⟩ : ∃ b : Nat, x / 64 % 64 = b := ⟨(x / 64 % 64).toNat, by omega⟩
  obtain ⟨c, hc⟩ : ∃ c : Nat, x % 64 = c := ⟨(x % 64).toNat, by omega⟩
  have hd : digs x = [(a : Int), (b : Int), (c : Int)] := by unfold digs; rw [ha, hb, hc]
  rw [hd]
  unfold cutAt
  by_cases q : k % 2 ≠ 0 ∨ 0 < ([(a : Int), (b : Int), (c : Int)] : List Int).getD 0 0
  · rw [if_pos q]
    refine ⟨[a, b], c, ?_, by omega, by simp, rfl, ?_⟩
    · intro d hd'; simp at hd'; omega
    · simp [valOf]; omega
  · rw [if_neg q]
    have q1 : ¬ (0 < (a : Int)) := fun w => q (.inr (by simpa using w))
    by_cases q2 : 0 < ([(a : Int), (b : Int), (c : Int)] : List Int).getD 1 0
    · rw [if_pos q2]
      refine ⟨[b], c, ?_, by omega, by simp, rfl, ?_⟩
      · intro d hd'; simp at hd'; omega
      · simp [valOf]; omega
    · rw [if_neg q2]
      have q3 : ¬ (0 < (b : Int)) := fun w => q2 (by simpa using w)
      refine ⟨[], c, ?_, by omega, by simp, rfl, ?_⟩
      · intro d hd'; cases hd'
      · simp [valOf]; omega
theorem octs_of (ds : List Nat) (last : Nat) : octs (ds.map Int.ofNat ++ [(last : Int)]) = ds.map (fun d : Nat => (d : Int) + 64) ++ [(last : Int) + 128] := by
  unfold octs
  rw [List.dropLast_concat, List.map_map]
  congr 1
  simp [List.getLastD_eq_getLast?]
theorem oct_get (ds : List Nat) (last j : Nat) (h : j ≤ ds.length) : (ds.map (fun d : Nat => (d : Int) + 64) ++ [(last : Int) + 128])[j]? = some (oct ds last j) := by
  unfold oct
  by_cases q : j < ds.length
  · rw [if_pos q, List.getElem?_append_left (by simpa using q), List.getElem?_map, List.getD_eq_getElem?_getD, List.getElem?_eq_getElem q]; rfl
  · have : j = ds.length := by omega
    subst this
    rw [if_neg q, List.getElem?_append_right (by simp)]; simp
theorem flat_get {α β : Type} (f : α → List β) : ∀ (rows : List α) (k : Nat) (r : α) (j : Nat), rows[k]? = some r → j < (f r).length → (rows.flatMap f)[((rows.take k).flatMap f).length + j]? = (f r)[j]?
  | [], k, r, j, h, _ => by simp at h
  | r₀ :: rows, 0, r, j, h, hj => by
    simp at h; subst h
    simp [List.flatMap_cons, List.getElem?_append_left hj]
  | r₀ :: rows, k + 1, r, j, h, hj => by
    have ih := flat_get f rows k r j (by simpa using h) hj
    rw [List.take_succ_cons, List.flatMap_cons, List.flatMap_cons, List.length_append, Nat.add_assoc, List.getElem?_append_right (by omega), Nat.add_sub_cancel_left]
    exact ih
theorem sliceL_init (xs : List Value) : sliceL xs none (some (-1)) = xs.dropLast := by
  unfold sliceL
  have e : clipAt xs.length (-1) = xs.length - 1 := by unfold clipAt; omega
  simp only [Option.elim, List.drop_zero, Nat.sub_zero]
  rw [e, List.dropLast_eq_take]
theorem last_get {r : List Int} (h : r ≠ []) : (r.map iv)[(((r.map iv).length : Int) + (-1)).toNat]? = some (iv (r.getLastD 0)) := by
  have e : (((r.map iv).length : Int) + (-1)).toNat = r.length - 1 := by rw [List.length_map]; omega
  rw [e, List.getElem?_map, List.getLastD_eq_getLast?, ← List.getLast?_eq_getElem?]
  cases q : r.getLast? with
  | none => exact absurd (List.getLast?_eq_none_iff.mp q) h
  | some x => rfl
theorem flat_zip {ts : List Addr} {rows : List (List Int)} (h : rows.length = ts.length) : (ts.zip rows).flatMap (fun z => (octs z.2).map iv) = (rows.flatMap octs).map iv := by
  rw [List.map_flatMap]
  have e : (ts.zip rows).map Prod.snd = rows := List.map_snd_zip (by omega)
  conv => rhs; rw [← e]
  rw [List.flatMap_map]
theorem law_read_walk {C : Cx} (W : WOk C) (hstop : Glb C "StopIteration" (.type "StopIteration")) {A : Around} {g : Heap} {fr : Fm} {E : Value → Shared → Prop} {loc : LOC} {hp : HP} {Q : Value → LOC → HP → Prop} {sn : Addr} {ns : List Int}
    (hroom : A.depth + 1 < recursionLimit) (hh : A.handled = none) (hfrm : A.frames = some [fr.env]) (hlf : fr.env.frame = some fr.env.locals) (hlk : fr.env.scope.kind = .function) (hn : hp sn = some (.list (ns.map iv))) (hsz : ns.length = 10) (hb : ∀ x ∈ ns, 0 ≤ x ∧ x < 262144)
    (h : ∀ D p', Sub hp p' → p' D = some (.list (ns.map iv)) → Q (.ref D) loc p') :
    onCall C A g fr E (.ref 160) [.ref sn] [] loc hp Q := onCall1 fun v hv => by
  obtain ⟨pm, F⟩ := W.fRead
  have henum := W.enumerate
  have hiter := W.iter
  have hvar := W.gVarint
  obtain ⟨pmV, FV⟩ := W.fVarint
  refine aw_callFnT F rfl rfl W.lim (by omega) (binds := [("numbers", v)]) (fun s hk => kp_binds frag0 fun S => by rfl) (by rfl) rfl rfl (by rfl) fun P g' L E' hpl sf hF => ?_
  unfold bindLoc bindLoc
  rw [hv]
  clear F
  have hn1 : hset hp fr.env.locals (.sat P) sn = some (.list (ns.map iv)) := hset_of hpl hn
  have hh' : (A.deeper (callEnvC (mkFd (topStmt 14) "_law_read" .none .none (.ref 159) pm [] .none) L 160)).handled = none := hh
  refine aw_execs_cons ?_
  repeat' walk_at "kl"
  refine comp_new ns (fun x => [iv x]) (fun x => .list ((digs x).map iv)) (it_ints hh' hn1 ⟨rfl, by omega, fun p' hs => hs _ _ hn1, ?elt, ?done⟩)
  case elt =>
    intro x hx g₃ fr₃ E₃ p₃ hF₃ hs₃
    dsimp only [tgtNames, setAll]
    repeat' walk_at "kl"
    refine ⟨by simp, fun T hT => ⟨rfl, T, rfl, hT, Sub.set hT, ?_⟩⟩
    rw [hset_eq]; rfl
  case done =>
    intro D₁ ts₁ p₁ hl₁ hnd₁ ht₁ hn₁ hs₁ hD₁
    have hR1 : Rows (hset p₁ D₁ (.list (ts₁.map .ref))) D₁ ts₁ (ns.map digs) := ⟨hset_eq .., by rw [hl₁, List.length_map], hnd₁, fun k T r a b => by
      rw [List.getElem?_map] at b
      obtain ⟨x, hx, rfl⟩ := Option.map_eq_some_iff.mp b
      exact hset_of hD₁ (ht₁ k T x a hx)⟩
    have hs1 : Sub (hset hp fr.env.locals (.sat P)) (hset p₁ D₁ (.list (ts₁.map .ref))) := hs₁.trans (Sub.set hD₁)
    generalize hset p₁ D₁ (.list (ts₁.map .ref)) = q₁ at hR1 hs1 ⊢
    repeat' walk_at "kl"
    obtain ⟨r1, r2, r3, r4⟩ := hR1
    refine onCall_mono (it_enum hh' r1 ?en) fun v l p hz => comp_new (((ns.map digs).zip ts₁).zipIdx) (fun z => [iv z.2, .ref z.1.2]) (fun z => .list (sliceL (z.1.1.map iv) (some (cutAt z.2 z.1.1 : Int)) none)) hz
    case en =>
      have hz2 : ((ns.map digs).zip ts₁).map Prod.snd = ts₁ := List.map_snd_zip (by rw [r2]; exact Nat.le_refl _)
      refine ⟨?evs, by simp; omega, fun p' hs => hs _ _ r1, ?elt2, ?done2⟩
      case evs =>
        conv => lhs; rw [← hz2]
        rw [List.map_map, List.zipIdx_map, List.map_map]
        rfl
      case elt2 =>
        intro z hz g₃ fr₃ E₃ p₃ hF₃ hs₃
        obtain ⟨⟨ds, T⟩, k⟩ := z
        have hzm : (ds, T) ∈ (ns.map digs).zip ts₁ := by
          obtain ⟨j, hj⟩ := List.mem_iff_getElem?.mp hz
          rw [List.getElem?_zipIdx] at hj
          obtain ⟨w, hw, e⟩ := Option.map_eq_some_iff.mp hj
          cases e
          exact List.mem_of_getElem? hw
        obtain ⟨j, hj⟩ := List.mem_iff_getElem?.mp hzm
        obtain ⟨hj1, hj2⟩ := List.getElem?_zip_eq_some.mp hj
        have hT := hs₃ _ _ (r4 j T ds hj2 hj1)
        obtain ⟨x, hx, rfl⟩ : ∃ x, ns[j]? = some x ∧ digs x = ds := by rw [List.getElem?_map] at hj1; exact Option.map_eq_some_iff.mp hj1
        have hsub : ∀ (i : Nat) (d : Int), i < 3 → (digs x)[i]? = some d → ((digs x).map iv)[i]? = some (iv d) := fun i d _ e => by rw [List.getElem?_map, e]; rfl
        dsimp only [tgtNames, setAll]
        repeat' walk_at "kl"
        have e0 : (digs x).getD 0 0 = x / 4096 := rfl
        have e1 : (digs x).getD 1 0 = x / 64 % 64 := rfl
        by_cases hk : ((k : Int) % 2) = 0
        · rw [if_neg (by simp [hk])]
          repeat' walk_at "kl"
          refine sub_list (by intro _ _; with_unfolding_all rfl) hT (by decide) (by decide) (x := iv (x / 4096)) rfl ?_
          repeat' walk_at "kl"
          by_cases h0 : 0 < x / 4096
          · rw [if_pos (by simpa using h0)]
            repeat' walk_at "kl"
            exact ⟨T, _, rfl, hT, by simp [digs], fun c hc => ⟨rfl, c, rfl, hc, Sub.set hc, by rw [hset_eq]; unfold cutAt; rw [if_pos (.inr (by rw [e0]; exact h0))]; rfl⟩⟩
          · rw [if_neg (by simpa using h0)]
            repeat' walk_at "kl"
            refine sub_list (by intro _ _; with_unfolding_all rfl) hT (by decide) (by decide) (x := iv (x / 64 % 64)) rfl ?_
            repeat' walk_at "kl"
            have hc1 : ¬ (k % 2 ≠ 0 ∨ 0 < (digs x).getD 0 0) := by rw [e0]; omega
            by_cases h1 : 0 < x / 64 % 64
            · rw [if_pos (by simpa using h1)]
              repeat' walk_at "kl"
              exact ⟨T, _, rfl, hT, by simp [digs], fun c hc => ⟨rfl, c, rfl, hc, Sub.set hc, by rw [hset_eq]; unfold cutAt; rw [if_neg hc1, if_pos (by rw [e1]; exact h1)]; rfl⟩⟩
            · rw [if_neg (by simpa using h1)]
              repeat' walk_at "kl"
              exact ⟨T, _, rfl, hT, by simp [digs], fun c hc => ⟨rfl, c, rfl, hc, Sub.set hc, by rw [hset_eq]; unfold cutAt; rw [if_neg hc1, if_neg (by rw [e1]; exact h1)]; rfl⟩⟩
        · rw [if_pos (by simpa using hk)]
          rw [if_pos rfl]
          repeat' walk_at "kl"
          exact ⟨T, _, rfl, hT, by simp [digs], fun c hc => ⟨rfl, c, rfl, hc, Sub.set hc, by rw [hset_eq]; unfold cutAt; rw [if_pos (.inl (by omega))]; rfl⟩⟩
      case done2 =>
        intro D₂ ts₂ p₂ hl₂ hnd₂ ht₂ hn₂ hs₂ hD₂
        have hlz : (((ns.map digs).zip ts₁).zipIdx).length = ns.length := by simp; omega
        obtain ⟨rows, hrows⟩ : ∃ rows, rows = ns.zipIdx.map fun z => (digs z.1).drop (cutAt z.2 (digs z.1)) := ⟨_, rfl⟩
        have hR2 : Rows (hset p₂ D₂ (.list (ts₂.map .ref))) D₂ ts₂ rows := ⟨hset_eq .., by rw [hl₂, hlz, hrows]; simp, hnd₂, fun k T r a b => by
          rw [hrows, List.getElem?_map, List.getElem?_zipIdx] at b
          obtain ⟨z, hz, rfl⟩ := Option.map_eq_some_iff.mp b
          obtain ⟨x, hx, rfl⟩ := Option.map_eq_some_iff.mp hz
          have hk : k < ts₁.length := by rw [hl₁]; exact (List.getElem?_eq_some_iff.mp hx).1
          have hz' : (((ns.map digs).zip ts₁).zipIdx)[k]? = some ((digs x, ts₁[k]), k) := by
            have e1 : ((ns.map digs).zip ts₁)[k]? = some (digs x, ts₁[k]) := List.getElem?_zip_eq_some.mpr ⟨by rw [List.getElem?_map, hx]; rfl, List.getElem?_eq_getElem hk⟩
            rw [List.getElem?_zipIdx, e1]; simp
          refine hset_of hD₂ ((ht₂ k T _ a hz').trans ?_)
          dsimp only
          have hcut : cutAt k (digs x) ≤ 2 := by unfold cutAt; split; · omega
                                                 split <;> omega
          rw [sliceL_from (by rw [List.length_map]; show _ ≤ 3; omega), List.map_drop]; simp⟩
        have hs2 : Sub q₁ (hset p₂ D₂ (.list (ts₂.map .ref))) := hs₂.trans (Sub.set hD₂)
        generalize hset p₂ D₂ (.list (ts₂.map .ref)) = q₂ at hR2 hs2 ⊢
        obtain ⟨u1, u2, u3, u4⟩ := hR2
        repeat' walk_at "kl"
        have hrow : ∀ (k : Nat) (r : List Int), rows[k]? = some r → ∃ (x : Int) (ds : List Nat) (last : Nat), ns[k]? = some x ∧ (∀ d ∈ ds, d < 64) ∧ last < 64 ∧ ds.length ≤ 2 ∧ r = ds.map Int.ofNat ++ [(last : Int)] ∧ ((valOf (ds ++ [last]) 0 : Nat) : Int) = x := fun k r b => by
          rw [hrows, List.getElem?_map, List.getElem?_zipIdx] at b
          obtain ⟨z, hz, rfl⟩ := Option.map_eq_some_iff.mp b
          obtain ⟨x, hx, rfl⟩ := Option.map_eq_some_iff.mp hz
          obtain ⟨b1, b2⟩ := hb x (List.mem_of_getElem? hx)
          obtain ⟨ds, last, d1, d2, d3, d4, d5⟩ := dig_law (0 + k) x b1 b2
          exact ⟨x, ds, last, hx, d1, d2, d3, d4, d5⟩
        have hlr : rows.length = ns.length := by rw [hrows]; simp
        clear hrows
        refine aw_Flat (ts₂.zip rows) (fun z => [.ref z.1]) (fun z => (octs z.2).map iv) hh' hF (by rfl) (fun _ => rfl) (fun _ _ => rfl) (by rfl) (by decide) (by decide) (by rfl) ?fl
        case fl =>
          repeat' walk_at "kl"
          have hz3 : (ts₂.zip rows).map Prod.fst = ts₂ := List.map_fst_zip (by rw [u2]; exact Nat.le_refl _)
          refine it_list hh' u1 ⟨?evs3, ?len3, ?zl3, fun p' hs => hs _ _ u1, ?elt3, ?done3⟩
          case evs3 =>
            conv => lhs; rw [← hz3]
            rw [List.map_map, List.map_map]
            rfl
          case len3 =>
            have : (ts₂.zip rows).length ≤ rows.length := by simp; omega
            omega
          case zl3 =>
            intro z hz
            obtain ⟨k, hk⟩ := List.mem_iff_getElem?.mp (List.of_mem_zip hz).2
            obtain ⟨x, ds, last, _, _, _, d3, d4, _⟩ := hrow k _ hk
            rw [d4, octs_of]
            simp; omega
          case elt3 =>
            intro z hz g₃ fr₃ E₃ p₃ hF₃ hs₃
            obtain ⟨T, r⟩ := z
            obtain ⟨k, hk⟩ := List.mem_iff_getElem?.mp hz
            obtain ⟨hk1, hk2⟩ := List.getElem?_zip_eq_some.mp hk
            have hT := hs₃ _ _ (u4 k T r hk1 hk2)
            obtain ⟨x, ds, last, hx, d1, d2, d3, d4, d5⟩ := hrow k _ hk2
            have hrl : r.length = ds.length + 1 := by rw [show r = _ from d4]; simp
            dsimp only [tgtNames, setAll]
            repeat' walk_at "kl"
            refine ⟨T, _, rfl, hT, by rw [List.length_map]; omega, fun c hc => ?_⟩
            have hc1 : hset p₃ c (.list (sliceL (r.map iv) none (some (-1)))) c = some (.list (r.dropLast.map iv)) := by rw [hset_eq, sliceL_init, List.map_dropLast]
            have hTc : hset p₃ c (.list (sliceL (r.map iv) none (some (-1)))) T = some (.list (r.map iv)) := hset_of hc hT
            refine comp_map r.dropLast (fun d => [iv d]) (fun d => iv (d + 64)) (it_ints hh' hc1 ⟨rfl, by rw [List.length_dropLast]; omega, ?e4, ?d4⟩)
            case e4 =>
              intro d hd g₄ fr₄ E₄ hF₄
              dsimp only [tgtNames, setAll]
              repeat' walk_at "kl"
              exact ⟨rfl, Sub.rfl, rfl⟩
            case d4 =>
              intro c2 hc2
              repeat' walk_at "kl"
              have hrne : r ≠ [] := by rintro rfl; simp at hrl
              refine sub_list_neg (by intro _ _; with_unfolding_all rfl) (l := T) (xs := r.map iv) (x := iv (r.getLastD 0)) (hset_of hc2 hTc) (by decide) (by rw [List.length_map]; omega) (by rw [sizeLine_eq, List.length_map]; omega) (last_get hrne) ?_
              repeat' walk_at "kl"
              refine ⟨by simp, fun c3 hc3 => ?_⟩
              refine op_add_list (hset_of hc3 (hset_eq ..)) (hset_eq ..) (by simp; omega) fun c4 hc4 => ?_
              refine ⟨rfl, c4, rfl, (Sub.set hc).trans ((Sub.set hc2).trans ((Sub.set hc3).trans (Sub.set hc4))), ?_⟩
              rw [hset_eq]
              show _ = some (AO.list ((octs r).map iv))
              unfold octs
              rw [List.map_append, List.map_map]; rfl
          case done3 =>
            intro D₃ p₃ hs₃ hD₃
            rw [flat_zip (by omega)]
            obtain ⟨os, hos⟩ : ∃ os, os = rows.flatMap octs := ⟨_, rfl⟩
            rw [← hos]
            obtain ⟨p₄, hp₄⟩ : ∃ p₄, p₄ = hset p₃ D₃ (.list (os.map iv)) := ⟨_, rfl⟩
            rw [← hp₄]
            have hD₄ : p₄ D₃ = some (.list (os.map iv)) := by rw [hp₄, hset_eq]
            have hs₄ : Sub q₂ p₄ := by rw [hp₄]; exact hs₃.trans (Sub.set hD₃)
            repeat' walk_at "kl"
            refine call_iter hD₄ fun I hI => ?_
            repeat' walk_at "kl"
            have hDI : D₃ ≠ I := by rintro rfl; rw [hI] at hD₄; cases hD₄
            obtain ⟨pos, hpos⟩ : ∃ pos : Nat → Nat, pos = fun i => ((rows.take i).flatMap octs).length := ⟨_, rfl⟩
            have hI0 : hset p₄ I (listIt D₃ 0) = hset p₄ I (listIt D₃ (pos 0)) := by rw [hpos]; rfl
            have hne : ∀ i, hset p₄ I (listIt D₃ i) D₂ = some (.list (ts₂.map .ref)) := fun i => by
              rw [hset_ne _ _ (by rintro rfl; rw [hs₄ _ _ u1] at hI; cases hI)]; exact hs₄ _ _ u1
            have hoct : ∀ (i : Nat) (r : List Int) (x : Int) (ds : List Nat) (last : Nat), rows[i]? = some r → r = ds.map Int.ofNat ++ [(last : Int)] → pos (i + 1) = pos i + ds.length + 1 ∧ ∀ k, k ≤ ds.length → os[pos i + k]? = some (oct ds last k) := fun i r x ds last hr er => by
              have eo : octs r = ds.map (fun d : Nat => (d : Int) + 64) ++ [(last : Int) + 128] := by rw [er, octs_of]
              refine ⟨?_, fun k hk => ?_⟩
              · rw [hpos]
                dsimp only
                rw [List.take_add_one, hr, List.flatMap_append, List.length_append]
                simp [eo]; omega
              · rw [hpos, hos]
                dsimp only
                rw [flat_get octs rows i r k hr (by rw [eo]; simp; omega), eo]
                exact oct_get ds last k hk
            refine it_list hh' (hne 0) ⟨by rw [List.length_map, List.length_map]; omega, fun i ys p => i ≤ 10 ∧ p = hset p₄ I (listIt D₃ (pos i)) ∧ ys = (ns.take i).map iv, ⟨Nat.zero_le _, hI0, rfl⟩, fun i ys p e => e.2.1 ▸ hne _, ?turn5, ?end5⟩
            case turn5 =>
              rintro i vs ys p g₅ fr₅ E₅ hv ⟨hi, rfl, rfl⟩ hF₅
              have hi2 : i < ts₂.length := by
                have := (List.getElem?_eq_some_iff.mp hv).1
                simpa using this
              obtain ⟨r, hr⟩ : ∃ r, rows[i]? = some r := ⟨_, List.getElem?_eq_getElem (by omega)⟩
              obtain ⟨x, ds, last, hx, d1, d2, d3, d4, d5⟩ := hrow i r hr
              obtain ⟨o1, o2⟩ := hoct i r x ds last hr d4
              rw [List.getElem?_map, List.getElem?_map, List.getElem?_eq_getElem hi2] at hv
              cases hv
              dsimp only [tgtNames, setAll, awT]
              intro g₆ E₆
              rw [if_pos rfl]
              repeat' walk_at "kl"
              refine varint_ok W (by show A.depth + 1 < recursionLimit; omega) (hset_eq ..) (by rw [hset_ne _ _ hDI]; exact hD₄) d1 d2 d3 o2 ?_
              refine ⟨rfl, by omega, by rw [hset_hset, o1], ?_⟩
              rw [List.take_add_one, hx, d5]; simp
            case end5 =>
              rintro D ys p ⟨hi, rfl, rfl⟩ hD
              have hln : ((ts₂.map Value.ref).map fun v => [v]).length = 10 := by rw [List.length_map, List.length_map]; omega
              rw [hln] at hD ⊢
              have hpe : pos 10 = os.length := by rw [hpos, hos]; dsimp only; rw [List.take_of_length_le (by omega)]
              have hall : (ns.take 10).map iv = ns.map iv := by rw [List.take_of_length_le (by omega)]
              rw [hall]
              have hsP : Sub (hset hp fr.env.locals (.sat P)) p₄ := hs1.trans (hs2.trans hs₄)
              have hsI : Sub p₄ (hset p₄ I (listIt D₃ (pos 10))) := Sub.set hI
              have hsD : Sub (hset p₄ I (listIt D₃ (pos 10))) (hset (hset p₄ I (listIt D₃ (pos 10))) D (.list (ns.map iv))) := Sub.set hD
              have hDt := hset_eq (hset p₄ I (listIt D₃ (pos 10))) D (.list (ns.map iv))
              have hPt := hsD _ _ (hsI _ _ (hsP _ _ (hset_eq hp fr.env.locals (.sat P))))
              have hIt := hsD _ _ (hset_eq p₄ I (listIt D₃ (pos 10)))
              have hD3t := hsD _ _ (hsI _ _ hD₄)
              have hsub : Sub hp (hset (hset p₄ I (listIt D₃ (pos 10))) D (.list (ns.map iv))) := (Sub.set hpl).trans (hsP.trans (hsI.trans hsD))
              have hIn : hp I = none := (Sub.set hpl (o := .sat P)).none (hsP.none hI)
              generalize hset (hset p₄ I (listIt D₃ (pos 10))) D (.list (ns.map iv)) = p₅ at hDt hPt hIt hD3t hsub ⊢
              repeat' walk_at "kl"
              refine aw_TryStop (I := I) (fL := fr.env.locals) (loc₁ := lset (lset (lset (lset (lset (fun _ => none) "numbers" (.ref sn)) "rows" (.ref D₁)) "rows" (.ref D₂)) "hand" (.ref I)) "told" (.ref D)) hF hstop (by rfl) (Around.frames_deeper hfrm) rfl hlk hlf hPt sf (fun E₁ hE₁ => ?tb) (fun A' E'' hd' hu' => ?tq)
              case tb =>
                refine aw_execs_cons ?_
                repeat' walk_at "kl"
                refine ⟨_, meth_list F.slot_list_append F.type_list_append hDt, ?_⟩
                repeat' walk_at "kl"
                exact varint_stop W (by show A.depth + 1 < recursionLimit; omega) hh' (Around.frames_deeper hfrm) rfl (by exact hF.kind) hlk hlf hPt sf hIt hD3t (by rw [List.getElem?_map, hpe, List.getElem?_eq_none (Nat.le_refl _)]; rfl) hE₁
              case tq =>
                refine aw_execs_cons ?_
                repeat' walk_at "kl"
                have hLI : fr.env.locals ≠ I := fun q => by have w := hsP _ _ (hset_eq hp fr.env.locals (.sat P)); rw [q, hI] at w; cases w
                refine ⟨fun b => if b = fr.env.locals then none else hrem p₅ I b, if_pos rfl, fun b o e => ?_, ?_, ?_⟩
                · by_cases q : b = fr.env.locals
                  · dsimp only at e; rw [if_pos q] at e; cases e
                  · dsimp only at e; rw [if_neg q] at e; exact e
                · unfold hrem; rw [if_neg hLI]; exact hPt
                · have hDL : D ≠ fr.env.locals := by rintro rfl; rw [hPt] at hDt; cases hDt
                  have hDI' : D ≠ I := by rintro rfl; rw [hset_eq] at hD; cases hD
                  refine h D _ (fun b o e => ?_) ?_
                  · have q1 : b ≠ fr.env.locals := by rintro rfl; rw [hpl] at e; cases e
                    have q2 : b ≠ I := by rintro rfl; rw [hIn] at e; cases e
                    rw [if_neg q1]; unfold hrem; rw [if_neg q2]; exact hsub _ _ e
                  · rw [if_neg hDL]; unfold hrem; rw [if_neg hDI']; exact hDt
end Mine
end
section
namespace Mine
/-! ### the sort of the model is stable: a proof over its tree of comparisons -/
def okT {α : Type} (lt : Nat → Nat → Bool) (n : Nat) : KasT α → (α → Prop) → Prop
  | .ret a, Q => Q a
  | .ask i j k, Q => i < n ∧ j < n ∧ okT lt n (k (lt i j)) Q
theorem okT_bind {α β : Type} {lt : Nat → Nat → Bool} {n : Nat} {f : α → KasT β} {Q : β → Prop} : ∀ (t : KasT α), okT lt n t (fun a => okT lt n (f a) Q) → okT lt n (t.bind f) Q
  | .ret a, h => h
  | .ask i j k, ⟨h1, h2, h3⟩ => ⟨h1, h2, okT_bind (k (lt i j)) h3⟩
theorem okT_mono {α : Type} {lt : Nat → Nat → Bool} {n : Nat} {Q Q' : α → Prop} (hq : ∀ a, Q a → Q' a) : ∀ (t : KasT α), okT lt n t Q → okT lt n t Q'
  | .ret a, h => hq a h
  | .ask i j k, ⟨h1, h2, h3⟩ => ⟨h1, h2, okT_mono hq (k (lt i j)) h3⟩
theorem okT_wp {α : Type} {lt : Nat → Nat → Bool} {n : Nat} {Q : α → Prop} {P : α → Shared → Prop} {cmp : Nat → Nat → (Bool → Shared → Prop) → Shared → Prop} {I : Shared → Prop}
    (hc : ∀ i j C s, i < n → j < n → I s → (∀ s', I s' → C (lt i j) s') → cmp i j C s) (hq : ∀ a s, I s → Q a → P a s) : ∀ (t : KasT α) (s : Shared), I s → okT lt n t Q → t.kasWp cmp P s
  | .ret a, s, hI, h => hq a s hI h
  | .ask i j k, s, hI, ⟨h1, h2, h3⟩ => hc i j _ s h1 h2 hI fun s' hI' => okT_wp hc hq (k (lt i j)) s' hI' h3
section
variable {K : Nat → Int} {n : Nat}
def ltK (K : Nat → Int) (i j : Nat) : Bool := decide (K i < K j)
def RK (K : Nat → Int) (a b : Nat) : Prop := K a < K b ∨ (K a = K b ∧ a < b)
theorem RK.trans {a b c : Nat} (h : RK K a b) (h' : RK K b c) : RK K a c := by unfold RK at *; omega
structure Ins (n : Nat) (p : Array Nat) (k : Nat) : Prop where
  size : p.size = n
  perm : p.Perm (List.range n).toArray
  tail : ∀ j, k ≤ j → j < n → p.getD j 0 = j
  pre : ∀ j, j < k → p.getD j 0 < k
  le : k ≤ n
def Srt (K : Nat → Int) (p : Array Nat) (k : Nat) : Prop := ∀ a b, a < b → b < k → RK K (p.getD a 0) (p.getD b 0)
def Dsc (K : Nat → Int) (p : Array Nat) (k : Nat) : Prop := ∀ a b, a < b → b < k → RK K (p.getD b 0) (p.getD a 0)
theorem getD_of {p : Array Nat} {k : Nat} : p.getD k 0 = (p[k]?).getD 0 := by simp
theorem rev_get {p : Array Nat} {i j : Nat} (hj : j ≤ p.size) (k : Nat) : (kas_rev p i j).getD k 0 = if i ≤ k ∧ k < j then p.getD (i + j - 1 - k) 0 else p.getD k 0 := by
  unfold kas_rev
  rw [getD_of, getElem?_mirror_all hj]
  split <;> rw [getD_of]
theorem bub_get {p : Array Nat} {src d : Nat} (hs : src < p.size) (hd : d ≤ src) (k : Nat) : (bubble p src d).getD k 0 = if k = src - d then p.getD src 0 else if src - d < k ∧ k ≤ src then p.getD (k - 1) 0 else p.getD k 0 := by
  rw [getD_of, getElem?_bubble hs d hd]
  by_cases q : k = src - d
  · rw [if_pos q, if_pos q, getD_of]
  · rw [if_neg q, if_neg q]
    by_cases w : src - d < k ∧ k ≤ src
    · rw [if_pos w, if_pos w, getD_of]
    · rw [if_neg w, if_neg w, getD_of]
theorem Ins.rev {p : Array Nat} {k i j : Nat} (h : Ins n p k) (hj : j ≤ k) : Ins n (kas_rev p i j) k where
  size := by unfold kas_rev; rw [mirror_size]; exact h.size
  perm := (mirror_perm _ _ _ _).trans h.perm
  tail := fun l h1 h2 => by rw [rev_get (by have := h.size; have := h.le; omega), if_neg (by omega)]; exact h.tail l h1 h2
  pre := fun l h1 => by
    rw [rev_get (by have := h.size; have := h.le; omega)]
    split
    · exact h.pre _ (by omega)
    · exact h.pre _ h1
  le := h.le
theorem Ins.up {p : Array Nat} {k : Nat} (h : Ins n p k) (hk : k < n) : Ins n p (k + 1) where
  size := h.size
  perm := h.perm
  tail := fun j h1 h2 => h.tail j (by omega) h2
  pre := fun j h1 => by
    rcases Nat.lt_or_ge j k with q | q
    · have := h.pre j q; omega
    · rw [show j = k by omega, h.tail k (Nat.le_refl _) hk]; omega
  le := hk
theorem Ins.bub {p : Array Nat} {k l : Nat} (h : Ins n p k) (hk : k < n) (hl : l ≤ k) : Ins n (bubble p k (k - l)) (k + 1) := by
  have hg := bub_get (p := p) (src := k) (d := k - l) (by rw [h.size]; exact hk) (by omega)
  refine ⟨by rw [bubble_size]; exact h.size, (bubble_perm _ _ _).trans h.perm, fun j h1 h2 => ?_, fun j h1 => ?_, hk⟩
  · rw [hg, if_neg (by omega), if_neg (by omega)]; exact h.tail j (by omega) h2
  · have hu := h.up hk
    rw [hg]
    split
    · exact hu.pre _ (by omega)
    · split
      · exact hu.pre _ (by omega)
      · exact hu.pre _ h1
theorem place_ok {p : Array Nat} {k : Nat} (h : Ins n p k) (hk : k < n) (hs : Srt K p k) : ∀ (f l r : Nat), r - l ≤ f → l ≤ r → r ≤ k → (∀ a, a < l → RK K (p.getD a 0) k) → (∀ a, r ≤ a → a < k → RK K k (p.getD a 0)) →
    okT (ltK K) n (kas_place p k f l r) fun l => l ≤ k ∧ (∀ a, a < l → RK K (p.getD a 0) k) ∧ ∀ a, l ≤ a → a < k → RK K k (p.getD a 0)
  | 0, l, r, hf, hlr, hr, h1, h2 => ⟨by omega, h1, fun a ha hak => h2 a (by omega) hak⟩
  | f + 1, l, r, hf, hlr, hr, h1, h2 => by
    unfold kas_place
    by_cases q : l ≥ r
    · rw [if_pos q]; exact ⟨by omega, h1, fun a ha hak => h2 a (by omega) hak⟩
    · rw [if_neg q]
      have hm := h.pre ((l + r) / 2) (by omega)
      rw [h.tail k (Nat.le_refl _) hk]
      refine ⟨hk, by omega, ?_⟩
      by_cases c : K k < K (p.getD ((l + r) / 2) 0)
      · rw [show ltK K k (p.getD ((l + r) / 2) 0) = true from decide_eq_true c]; dsimp only; rw [if_pos rfl]
        refine place_ok h hk hs f l ((l + r) / 2) (by omega) (by omega) (by omega) h1 fun a ha hak => ?_
        rcases Nat.lt_or_ge ((l + r) / 2) a with w | w
        · exact RK.trans (.inl c) (hs _ _ w hak)
        · rw [show a = (l + r) / 2 by omega]; exact .inl c
      · rw [show ltK K k (p.getD ((l + r) / 2) 0) = false from decide_eq_false c]; dsimp only; rw [if_neg Bool.false_ne_true]
        have hR : RK K (p.getD ((l + r) / 2) 0) k := by unfold RK; omega
        refine place_ok h hk hs f ((l + r) / 2 + 1) r (by omega) (by omega) hr (fun a ha => ?_) h2
        rcases Nat.lt_or_ge a ((l + r) / 2) with w | w
        · exact RK.trans (hs _ _ w (by omega)) hR
        · rw [show a = (l + r) / 2 by omega]; exact hR
theorem bin_ok : ∀ (f : Nat) (p : Array Nat) (k : Nat), k + f = n → Ins n p k → Srt K p k → okT (ltK K) n (kas_bin f p k) fun p' => Ins n p' n ∧ Srt K p' n
  | 0, p, k, e, h, hs => by
    have : k = n := by omega
    subst this
    exact ⟨h, hs⟩
  | f + 1, p, k, e, h, hs => by
    have hk : k < n := by omega
    unfold kas_bin
    refine okT_bind _ (okT_mono (fun l ⟨h1, h2, h3⟩ => ?_) _ (place_ok h hk hs k 0 k (by omega) (by omega) (Nat.le_refl _) (fun a ha => by omega) fun a ha hak => by omega))
    refine bin_ok f _ (k + 1) (by omega) (h.bub hk h1) fun a b hab hb => ?_
    have hg := bub_get (p := p) (src := k) (d := k - l) (by rw [h.size]; exact hk) (by omega)
    have hkk := h.tail k (Nat.le_refl _) hk
    rw [hg a, hg b, hkk]
    rcases Nat.lt_or_ge b l with w | w
    · rw [if_neg (by omega), if_neg (by omega), if_neg (by omega), if_neg (by omega)]; exact hs a b hab (by omega)
    · rcases Nat.eq_or_lt_of_le w with w' | w'
      · rw [if_neg (by omega), if_neg (by omega), if_pos (by omega)]; exact h2 a (by omega)
      · rw [if_neg (show ¬ b = k - (k - l) by omega), if_pos (show k - (k - l) < b ∧ b ≤ k by omega)]
        rcases Nat.lt_or_ge a l with u | u
        · rw [if_neg (by omega), if_neg (by omega)]; exact hs a (b - 1) (by omega) (by omega)
        · rcases Nat.eq_or_lt_of_le u with u' | u'
          · rw [if_pos (by omega)]; exact h3 (b - 1) (by omega) (by omega)
          · rw [if_neg (by omega), if_pos (by omega)]; exact hs (a - 1) (b - 1) (by omega) (by omega)
theorem asc_ok : ∀ (f : Nat) (p : Array Nat) (k : Nat), k + f = n → 1 ≤ k → Ins n p k → Srt K p k → okT (ltK K) n (kas_asc p f k) fun m => k ≤ m ∧ Ins n p m ∧ Srt K p m ∧ (m < n → K (p.getD m 0) < K (p.getD (m - 1) 0))
  | 0, p, k, e, h1, h, hs => ⟨Nat.le_refl _, h, hs, fun w => by omega⟩
  | f + 1, p, k, e, h1, h, hs => by
    have hk : k < n := by omega
    unfold kas_asc
    have hkk := h.tail k (Nat.le_refl _) hk
    have hp := h.pre (k - 1) (by omega)
    refine ⟨by omega, by omega, ?_⟩
    by_cases c : K (p.getD k 0) < K (p.getD (k - 1) 0)
    · rw [show ltK K (p.getD k 0) (p.getD (k - 1) 0) = true from decide_eq_true c]; dsimp only; rw [if_pos rfl]
      exact ⟨Nat.le_refl _, h, hs, fun _ => c⟩
    · rw [show ltK K (p.getD k 0) (p.getD (k - 1) 0) = false from decide_eq_false c]; dsimp only; rw [if_neg Bool.false_ne_true]
      have hR : RK K (p.getD (k - 1) 0) (p.getD k 0) := by unfold RK; omega
      refine okT_mono (fun m ⟨a1, a2⟩ => ⟨by omega, a2⟩) _ (asc_ok f p (k + 1) (by omega) (by omega) (h.up hk) fun a b hab hb => ?_)
      rcases Nat.lt_or_ge b k with w | w
      · exact hs a b hab w
      · rw [show b = k by omega]
        rcases Nat.lt_or_ge a (k - 1) with u | u
        · exact RK.trans (hs a (k - 1) u (by omega)) hR
        · rw [show a = k - 1 by omega]; exact hR
structure Fal (K : Nat → Int) (n : Nat) (p : Array Nat) (k q : Nat) : Prop where
  ins : Ins n p k
  qk : q + 1 ≤ k
  dsc : ∀ a b, a < b → b < k - q - 1 → RK K (p.getD b 0) (p.getD a 0)
  low : ∀ a b, a < k - q - 1 → k - q - 1 ≤ b → b < k → K (p.getD b 0) < K (p.getD a 0)
  eqs : ∀ b, k - q - 1 ≤ b → b < k → p.getD b 0 = b ∧ K b = K (k - 1)
theorem Fal.turn {p : Array Nat} {k q : Nat} (h : Fal K n p k q) : Ins n (kas_rev p (k - (q + 1)) k) k ∧ Dsc K (kas_rev p (k - (q + 1)) k) k ∧ K ((kas_rev p (k - (q + 1)) k).getD (k - 1) 0) = K (k - 1) := by
  have hsz := h.ins.size
  have hle := h.ins.le
  have hqk := h.qk
  have hg := rev_get (p := p) (i := k - (q + 1)) (j := k) (by omega)
  refine ⟨h.ins.rev (Nat.le_refl _), fun a b hab hb => ?_, ?_⟩
  · rw [hg a, hg b]
    rcases Nat.lt_or_ge b (k - q - 1) with w | w
    · rw [if_neg (by omega), if_neg (by omega)]; exact h.dsc a b hab w
    · rw [if_pos (show k - (q + 1) ≤ b ∧ b < k by omega)]
      rcases Nat.lt_or_ge a (k - q - 1) with u | u
      · rw [if_neg (by omega)]; exact .inl (h.low a _ u (by omega) (by omega))
      · rw [if_pos (by omega)]
        obtain ⟨a1, a2⟩ := h.eqs (k - (q + 1) + k - 1 - a) (by omega) (by omega)
        obtain ⟨b1, b2⟩ := h.eqs (k - (q + 1) + k - 1 - b) (by omega) (by omega)
        rw [a1, b1]; unfold RK; omega
  · rw [hg, if_pos (by omega)]
    obtain ⟨a1, a2⟩ := h.eqs (k - (q + 1) + k - 1 - (k - 1)) (by omega) (by omega)
    rw [a1, a2]
theorem Fal.one {p : Array Nat} {k : Nat} (h : Fal K n p k 0) : Dsc K p k := fun a b hab hb => by
  rcases Nat.lt_or_ge b (k - 0 - 1) with w | w
  · exact h.dsc a b hab w
  · exact .inl (h.low a b (by omega) w hb)
theorem Fal.start {p : Array Nat} {k : Nat} (h : Ins n p k) (hk : k < n) (h1 : 1 ≤ k) (hd : Dsc K p k) (hlt : K k < K (p.getD (k - 1) 0)) : Fal K n p (k + 1) 0 where
  ins := h.up hk
  qk := by omega
  dsc := fun a b hab hb => hd a b hab (by omega)
  low := fun a b ha hb hb' => by
    rw [show b = k by omega, h.tail k (Nat.le_refl _) hk]
    rcases Nat.lt_or_ge a (k - 1) with u | u
    · have := hd a (k - 1) u (by omega)
      unfold RK at this; omega
    · rw [show a = k - 1 by omega]; exact hlt
  eqs := fun b hb hb' => by rw [show b = k by omega, h.tail k (Nat.le_refl _) hk]; exact ⟨rfl, by simp⟩
theorem desc_ok : ∀ (f : Nat) (p : Array Nat) (k q : Nat), k + f = n → Fal K n p k q → okT (ltK K) n (kas_desc f p k q) fun r => Fal K n r.1 r.2.1 r.2.2
  | 0, p, k, q, e, h => h
  | f + 1, p, k, q, e, h => by
    have hk : k < n := by omega
    have hqk := h.qk
    unfold kas_desc
    have hkk := h.ins.tail k (Nat.le_refl _) hk
    obtain ⟨e1, e2⟩ := h.eqs (k - 1) (by omega) (by omega)
    rw [hkk, e1]
    refine ⟨hk, by omega, ?_⟩
    by_cases c : K k < K (k - 1)
    · rw [show ltK K k (k - 1) = true from decide_eq_true c]; dsimp only; rw [if_pos rfl]
      by_cases hq : q > 0
      · rw [if_pos hq]
        obtain ⟨t1, t2, t3⟩ := h.turn
        exact desc_ok f _ (k + 1) 0 (by omega) (Fal.start t1 hk (by omega) t2 (by rw [t3]; exact c))
      · rw [if_neg hq]
        have : q = 0 := by omega
        subst this
        exact desc_ok f _ (k + 1) 0 (by omega) (Fal.start h.ins hk (by omega) h.one (by rw [e1]; exact c))
    · rw [show ltK K k (k - 1) = false from decide_eq_false c]; dsimp only; rw [if_neg Bool.false_ne_true]
      refine ⟨by omega, hk, ?_⟩
      by_cases d : K (k - 1) < K k
      · rw [show ltK K (k - 1) k = true from decide_eq_true d]; dsimp only; rw [if_pos rfl]
        exact h
      · rw [show ltK K (k - 1) k = false from decide_eq_false d]; dsimp only; rw [if_neg Bool.false_ne_true]
        refine desc_ok f p (k + 1) (q + 1) (by omega) ⟨h.ins.up hk, by omega, fun a b hab hb => h.dsc a b hab (by omega), fun a b ha hb hb' => ?_, fun b hb hb' => ?_⟩
        · rcases Nat.lt_or_ge b k with w | w
          · exact h.low a b (by omega) (by omega) w
          · rw [show b = k by omega, hkk]
            have := h.low a (k - 1) (by omega) (by omega) (by omega)
            rw [e1] at this; omega
        · rcases Nat.lt_or_ge b k with w | w
          · obtain ⟨x1, x2⟩ := h.eqs b (by omega) w
            refine ⟨x1, ?_⟩
            rw [show k + 1 - 1 = k by omega]; omega
          · rw [show b = k by omega, hkk]; exact ⟨rfl, by simp⟩
theorem tail3_ok {p : Array Nat} {k : Nat} (h : Ins n p k) (h1 : 1 ≤ k) (hd : Dsc K p k) : okT (ltK K) n (kas_tail3 k n p) fun r => 1 ≤ r.1 ∧ Ins n r.2 r.1 ∧ Srt K r.2 r.1 := by
  unfold kas_tail3
  have hsz := h.size
  have hle := h.le
  have hg := rev_get (p := p) (i := 0) (j := k) (by omega)
  have hs : Srt K (kas_rev p 0 k) k := fun a b hab hb => by
    rw [hg a, hg b, if_pos (by omega), if_pos (by omega)]
    exact hd _ _ (by omega) (by omega)
  exact okT_bind _ (okT_mono (fun m ⟨a1, a2, a3, _⟩ => ⟨by omega, a2, a3⟩) _ (asc_ok (n - k) _ k (by omega) h1 (h.rev (Nat.le_refl _)) hs))
theorem descPart_ok {p : Array Nat} {k : Nat} (h : Ins n p k) (hk : k < n) (h1 : 1 ≤ k) (hd : Dsc K p k) (hlt : K k < K (p.getD (k - 1) 0)) : okT (ltK K) n (kas_descPart k n p) fun r => 1 ≤ r.1 ∧ Ins n r.2 r.1 ∧ Srt K r.2 r.1 := by
  unfold kas_descPart
  refine okT_bind _ (okT_mono (fun r hr => ?_) _ (desc_ok (n - (k + 1)) p (k + 1) 0 (by omega) (Fal.start h hk h1 hd hlt)))
  have hqk := hr.qk
  by_cases hq : r.2.2 > 0
  · rw [if_pos hq]
    obtain ⟨t1, t2, t3⟩ := hr.turn
    exact tail3_ok t1 (by omega) t2
  · rw [if_neg hq]
    have e : r.2.2 = 0 := by omega
    rw [e] at hr
    exact tail3_ok hr.ins (by omega) hr.one
theorem count_ok {p : Array Nat} (hn : 1 ≤ n) (h : Ins n p 1) : okT (ltK K) n (kas_count n p) fun r => 1 ≤ r.1 ∧ Ins n r.2 r.1 ∧ Srt K r.2 r.1 := by
  unfold kas_count
  refine okT_bind _ (okT_mono (fun m ⟨a1, a2, a3, a4⟩ => ?_) _ (asc_ok (n - 1) p 1 (by omega) (Nat.le_refl _) h fun a b hab hb => by omega))
  have hle := a2.le
  have hsz := a2.size
  by_cases hm : m = n
  · rw [if_pos (by simp [hm])]; exact ⟨a1, a2, a3⟩
  · rw [if_neg (by simp [hm])]
    have hmn : m < n := by omega
    have a4' := a4 hmn
    rw [a2.tail m (Nat.le_refl _) hmn] at a4'
    by_cases h1 : m > 1
    · rw [if_pos h1]
      have p0 := a2.pre 0 (by omega)
      have p1 := a2.pre (m - 1) (by omega)
      refine ⟨by omega, by omega, ?_⟩
      by_cases c : K (p.getD 0 0) < K (p.getD (m - 1) 0)
      · rw [show ltK K (p.getD 0 0) (p.getD (m - 1) 0) = true from decide_eq_true c]; dsimp only; rw [if_pos rfl]; exact ⟨a1, a2, a3⟩
      · rw [show ltK K (p.getD 0 0) (p.getD (m - 1) 0) = false from decide_eq_false c]; dsimp only; rw [if_neg Bool.false_ne_true]
        have hg := rev_get (p := p) (i := 0) (j := m) (by omega)
        refine descPart_ok (a2.rev (Nat.le_refl _)) hmn a1 (fun a b hab hb => ?_) ?_
        · rw [hg a, hg b, if_pos (by omega), if_pos (by omega)]
          have u1 := a3 (0 + m - 1 - b) (0 + m - 1 - a) (by omega) (by omega)
          exact u1
        · rw [hg, if_pos (by omega), show 0 + m - 1 - (m - 1) = 0 by omega]
          have := a3 0 (m - 1) (by omega) (by omega)
          unfold RK at this; omega
    · rw [if_neg h1]
      exact descPart_ok a2 hmn a1 (fun a b hab hb => by omega) a4'
theorem kas_stable (hn : 1 ≤ n) : okT (ltK K) n (kas_sort n) fun p => p.size = n ∧ p.toList.Perm (List.range n) ∧ p.toList.Pairwise (RK K) := by
  unfold kas_sort
  have h0 : Ins n (List.range n).toArray 1 := ⟨by simp, Array.Perm.refl _, fun j _ h2 => by simp [h2], fun j h1 => by
    rw [show j = 0 by omega]
    simp [show 0 < n by omega], hn⟩
  have fin : ∀ p : Array Nat, Ins n p n ∧ Srt K p n → p.size = n ∧ p.toList.Perm (List.range n) ∧ p.toList.Pairwise (RK K) := fun p ⟨h, hs⟩ => by
    refine ⟨h.size, by simpa using Array.perm_iff_toList_perm.mp h.perm, List.pairwise_iff_getElem.mpr fun i j hi hj hij => ?_⟩
    have := hs i j hij (by rw [Array.length_toList, h.size] at hj; exact hj)
    rw [Array.length_toList] at hi hj
    simpa [hi, hj] using this
  refine okT_bind _ (okT_mono (fun r ⟨h1, h2, h3⟩ => ?_) _ (count_ok (K := K) hn h0))
  have hle := h2.le
  by_cases q : r.1 < n
  · rw [if_pos q]
    have hmx : max r.1 1 = r.1 := by omega
    rw [hmx]
    exact okT_mono fin _ (bin_ok (n - r.1) r.2 r.1 (by omega) h2 h3)
  · rw [if_neg q]
    have e : r.1 = n := by omega
    rw [e] at h2 h3
    exact fin _ ⟨h2, h3⟩
end
end Mine
end
section
namespace Mine
section
variable {C : Cx} {A : Around} {g : Heap} {fr : Fm} {E : Value → Shared → Prop} {loc : LOC} {hp : HP}
/-! ### comparisons of lists and tuples that are alike; in; sum; index; split -/
def FlatV (v : Value) : Prop := (∃ i, v = iv i) ∨ ∃ x, v = .str x 0
def SameV (p : HP) (v w : Value) : Prop := (FlatV v ∧ v = w) ∨ ∃ a b xs, v = .ref a ∧ w = .ref b ∧ p a = some (.tuple xs) ∧ p b = some (.tuple xs) ∧ ∀ x ∈ xs, FlatV x
open PySem.SeqAt in
theorem eqAt_flat {A : Around} {s : Shared} {v w : Value} (hf : FlatV (nm v)) (e : nm v = nm w) : EqAt A s v w true := by
  rcases hf with ⟨i, h⟩ | ⟨x, h⟩
  · obtain ⟨t, rfl⟩ := nm_int h
    obtain ⟨u, rfl⟩ := nm_int (e.symm.trans h)
    have := EqAt.int_int (A := A) (s := s) i t i u
    rwa [beq_self_eq_true] at this
  · obtain ⟨t, rfl⟩ := nm_str h
    obtain ⟨u, rfl⟩ := nm_str (e.symm.trans h)
    have := EqAt.str_str (A := A) (s := s) x t x u
    rwa [beq_self_eq_true] at this
open PySem.SeqAt in
theorem eqAt_items {A : Around} {s : Shared} {vs ws : Array Value} {xs : List Value} (q : vs.toList.map nm = xs) (q' : ws.toList.map nm = xs) (hf : ∀ x ∈ xs, FlatV x) : ∀ j (h1 : j < vs.size) (h2 : j < ws.size), EqAt A s vs[j] ws[j] ((fun _ => true) j) := fun j h1 h2 => by
  have a1 : xs[j]? = some (nm vs[j]) := by rw [← q, List.getElem?_map, Array.getElem?_toList, Array.getElem?_eq_getElem h1]; rfl
  have a2 : xs[j]? = some (nm ws[j]) := by rw [← q', List.getElem?_map, Array.getElem?_toList, Array.getElem?_eq_getElem h2]; rfl
  refine eqAt_flat (hf _ (List.mem_of_getElem? a1)) ?_
  rw [a1] at a2; injection a2
theorem all_true (n : Nat) : ((List.range n).all fun _ => true) = true := by simp
open PySem.SeqAt in
theorem SameV.eqAt {s : Shared} (R : Rep C.H₀ g fr loc hp s.heap) {A : Around} (hu : A.units < cLine) {v w : Value} (h : SameV hp (nm v) (nm w)) : EqAt A s v w true := by
  rcases h with ⟨hf, e⟩ | ⟨a, b, xs, e1, e2, ha, hb, hf⟩
  · exact eqAt_flat hf e
  · have := nm_ref e1; subst this
    have := nm_ref e2; subst this
    by_cases hab : a = b
    · subst hab; exact EqAt.same _
    · obtain ⟨vs, n, e, q⟩ := R.tuple ha
      obtain ⟨ws, n', e', q'⟩ := R.tuple hb
      refine EqAt.of_refs hab ?_
      have := RcAt.tuples (A := A) (s := s) ⟨_, e, rfl, n, rfl⟩ ⟨_, e', rfl, n', rfl⟩ hu (e := fun _ => true) (eqAt_items q q' hf)
      have hsz : (vs.size == ws.size) = true := by rw [nm_size q, nm_size q']; simp
      rwa [all_true, hsz] at this
theorem cop_ne_lists {a b : Addr} {xs ys : List Value} {Q : Value → LOC → HP → Prop} (ha : hp a = some (.list xs)) (hb : hp b = some (.list ys)) (hl : xs.length = ys.length) (hs : ∀ (i : Nat) v w, xs[i]? = some v → ys[i]? = some w → SameV hp v w) (hu : A.units + 10 < cLine)
    (h : Q (.bool false) loc hp) : ov2 C A g fr E (compareOp .NotEq) (.ref a) (.ref b) loc hp Q := by
  intro x y hx hy
  rw [nm_ref hx, nm_ref hy]
  intro s R S
  obtain ⟨vs, n, e, q⟩ := R.list ha
  obtain ⟨ws, n', e', q'⟩ := R.list hb
  have hsz : vs.size = ws.size := by rw [nm_size q, nm_size q', hl]
  refine PySem.SeqAt.RcNeAt.lists (A := A) (s := s) ⟨_, e, rfl, n, rfl⟩ ⟨_, e', rfl, n', rfl⟩ hsz (by omega) (e := fun _ => true) (fun j h1 h2 => ?_) C.prog C.w E _ ?_
  · have a1 : xs[j]? = some (nm vs[j]) := by rw [← q, List.getElem?_map, Array.getElem?_toList, Array.getElem?_eq_getElem h1]; rfl
    have a2 : ys[j]? = some (nm ws[j]) := by rw [← q', List.getElem?_map, Array.getElem?_toList, Array.getElem?_eq_getElem h2]; rfl
    exact (hs j _ _ a1 a2).eqAt R (by show A.units + 1 < cLine; omega)
  · rw [all_true]
    exact ⟨S, loc, hp, R, h⟩
theorem cop_ne_tuples {a b : Addr} {xs : List Value} {Q : Value → LOC → HP → Prop} (ha : hp a = some (.tuple xs)) (hb : hp b = some (.tuple xs)) (hs : ∀ v ∈ xs, FlatV v) (hu : A.units + 10 < cLine)
    (h : Q (.bool false) loc hp) : ov2 C A g fr E (compareOp .NotEq) (.ref a) (.ref b) loc hp Q := by
  intro x y hx hy
  rw [nm_ref hx, nm_ref hy]
  intro s R S
  obtain ⟨vs, n, e, q⟩ := R.tuple ha
  obtain ⟨ws, n', e', q'⟩ := R.tuple hb
  have hsz : (vs.size == ws.size) = true := by rw [nm_size q, nm_size q']; simp
  refine PySem.SeqAt.RcNeAt.tuples (A := A) (s := s) ⟨_, e, rfl, n, rfl⟩ ⟨_, e', rfl, n', rfl⟩ (by omega) (e := fun _ => true) (eqAt_items q q' hs) C.prog C.w E _ ?_
  rw [all_true, hsz]
  exact ⟨S, loc, hp, R, h⟩
def isI (i : Int) : Value → Bool | .int j _ => j == i | _ => false
def isT (z : Str) : Value → Bool | .str x _ => x == z | _ => false
theorem cop_in_ints {a : Addr} {xs : List Int} {i : Int} {Q : Value → LOC → HP → Prop} (ha : hp a = some (.list (xs.map iv))) (h : Q (.bool (decide (i ∈ xs))) loc hp) : ov2 C A g fr E (compareOp .In) (.int i 0) (.ref a) loc hp Q := by
  intro x y hx hy
  obtain ⟨t, rfl⟩ := nm_int hx
  rw [nm_ref hy]
  intro s R S
  obtain ⟨vs, n, e, q⟩ := R.list ha
  refine PySem.SeqAt.in_listAt (fun v => isI i v) ⟨_, e, rfl, n, rfl⟩ (fun v hv => ?_) ?_
  · have hm : nm v ∈ xs.map iv := by rw [← q]; exact List.mem_map.mpr ⟨v, by simpa using hv, rfl⟩
    obtain ⟨j, hj, e⟩ := List.mem_map.mp hm
    obtain ⟨u, rfl⟩ := nm_int e.symm
    have := PySem.SeqAt.EqAt.int_int (A := A.in1) (s := s) j u i t
    have e2 : isI i (.int j u) = (j == i) := rfl
    rw [e2]; exact this
  · have e3 : (vs.any fun v => isI i v) = decide (i ∈ xs) := by
      rw [← Array.any_toList]
      have : (vs.toList.any fun v => isI i v) = (vs.toList.map nm).any fun v => isI i v := by
        rw [List.any_map]
        exact congrArg (fun f => vs.toList.any f) (funext fun v => by cases v <;> rfl)
      rw [this, q, List.any_map]
      clear this q e ha h
      induction xs with
      | nil => simp
      | cons z zs ih =>
        rw [List.any_cons, ih]
        show ((z == i) || _) = _
        by_cases w : z = i
        · subst w; simp
        · simp [w, Ne.symm w]
    rw [e3]
    exact ⟨S, loc, hp, R, h⟩
theorem cop_notin_strs {a : Addr} {xs : List Str} {z : Str} {Q : Value → LOC → HP → Prop} (ha : hp a = some (.list (xs.map fun x => .str x 0))) (h : Q (.bool (decide (z ∉ xs))) loc hp) : ov2 C A g fr E (compareOp .NotIn) (.str z 0) (.ref a) loc hp Q := by
  intro x y hx hy
  obtain ⟨t, rfl⟩ := nm_str hx
  rw [nm_ref hy]
  intro s R S
  obtain ⟨vs, n, e, q⟩ := R.list ha
  refine PySem.SeqAt.notIn_listAt (fun v => isT z v) ⟨_, e, rfl, n, rfl⟩ (fun v hv => ?_) ?_
  · have hm : nm v ∈ xs.map fun x => Value.str x 0 := by rw [← q]; exact List.mem_map.mpr ⟨v, by simpa using hv, rfl⟩
    obtain ⟨j, hj, e⟩ := List.mem_map.mp hm
    obtain ⟨u, rfl⟩ := nm_str e.symm
    have := PySem.SeqAt.EqAt.str_str (A := A.in1) (s := s) j u z t
    have e2 : isT z (.str j u) = (j == z) := rfl
    rw [e2]; exact this
  · have e3 : (!(vs.any fun v => isT z v)) = decide (z ∉ xs) := by
      rw [← Array.any_toList]
      have : (vs.toList.any fun v => isT z v) = (vs.toList.map nm).any fun v => isT z v := by
        rw [List.any_map]
        exact congrArg (fun f => vs.toList.any f) (funext fun v => by cases v <;> rfl)
      rw [this, q, List.any_map]
      clear this q e ha h
      induction xs with
      | nil => simp
      | cons y ys ih =>
        rw [List.any_cons, Bool.not_or, ih]
        show (!(y == z) && _) = _
        by_cases w : y = z
        · subst w; simp
        · simp [w, Ne.symm w]
    rw [e3]
    exact ⟨S, loc, hp, R, h⟩
theorem cop_eq_strs {x y : Str} {Q : Value → LOC → HP → Prop} (h : Q (.bool (x == y)) loc hp) : ov2 C A g fr E (compareOp .Eq) (.str x 0) (.str y 0) loc hp Q := by
  intro a b ha hb
  obtain ⟨t, rfl⟩ := nm_str ha
  obtain ⟨u, rfl⟩ := nm_str hb
  exact fun s R S => PyProof.Rows.eq_str ⟨S, loc, hp, R, h⟩
theorem call_sum {a : Addr} {ns : List Int} {Q : Value → LOC → HP → Prop} (hh : A.handled = none) (ha : hp a = some (.list (ns.map iv))) (h : Q (iv ns.sum) loc hp) : onCall C A g fr E (.builtin "sum") [.ref a] [] loc hp Q := onCall1 fun v hv => by
  have := nm_ref hv; subst this
  intro s R S
  obtain ⟨vs, n, e, q⟩ := R.list ha
  obtain ⟨xs, rfl, e2⟩ := ints_of q
  refine sum_intListG hh ⟨_, e, rfl, n, rfl⟩ fun h' tk t' hk => ⟨S, loc, hp, R.keeps hk, ?_⟩
  have e3 : preSum (numAt xs) xs.size = ns.sum := by
    rw [preSum_eq, List.take_of_length_le (by simp), e2]
  show Q (.int (preSum (numAt xs) xs.size) 0) loc hp
  rw [e3]; exact h
theorem m_index {a : Addr} {ns : List Int} {k : Int} {Q : Value → LOC → HP → Prop} (ha : hp a = some (.list (ns.map iv))) (hsz : ns.length ≤ 1000) (hk : k ∈ ns) (h : Q (iv (ns.idxOf k : Nat)) loc hp) : onCall C A g fr E (.builtin "list.index") [.ref a, .int k 0] [] loc hp Q := onCall2 fun v u hv hu => by
  have := nm_ref hv; subst this
  obtain ⟨t, rfl⟩ := nm_int hu
  intro s R S
  obtain ⟨vs, n, e, q⟩ := R.list ha
  have hlen := nm_size q
  rw [List.length_map] at hlen
  have hj : ns.idxOf k < ns.length := List.idxOf_lt_length_iff.mpr hk
  have at_ : ∀ j (hj : j < vs.size), ∃ (i : Int) (u : Tok), vs[j] = .int i u ∧ ns[j]? = some i := fun j hj => by
    have a1 : (ns.map iv)[j]? = some (nm vs[j]) := by rw [← q, List.getElem?_map, Array.getElem?_toList, Array.getElem?_eq_getElem hj]; rfl
    rw [List.getElem?_map] at a1
    obtain ⟨i, hi, e⟩ := Option.map_eq_some_iff.mp a1
    obtain ⟨u, hu⟩ := nm_int e.symm
    exact ⟨i, u, hu, hi⟩
  have eqi : ∀ (i : Int) (u : Tok), isI k (.int i u) = (i == k) := fun _ _ => rfl
  refine call_meets PySem.F.slot_list_index ⟨_, e, rfl⟩ PySem.F.entry_list_index (PySem.F.args_list_index_2 _ _)
    (PySem.SeqAt.list_indexAt a vs n none _ (.int k t) (isI k) (ns.idxOf k) (by omega) (by omega) ?_ ?_) ⟨e, fun y hy => ?_, ?_⟩
  · obtain ⟨i, u, e1, e2⟩ := at_ (ns.idxOf k) (by omega)
    rw [e1, eqi]
    rw [List.getElem?_eq_getElem hj, List.getElem_idxOf hj] at e2
    injection e2 with e2; simp [e2]
  · intro m hm hlt
    obtain ⟨i, u, e1, e2⟩ := at_ m hm
    rw [e1, eqi]
    have := List.not_of_lt_findIdx (show m < ns.findIdx (· == k) from hlt)
    rw [List.getElem?_eq_getElem (by omega)] at e2
    injection e2 with e2
    rw [e2] at this
    exact this
  · obtain ⟨j, hj, rfl⟩ := Array.mem_iff_getElem.mp hy
    obtain ⟨i, u, e1, e2⟩ := at_ j hj
    rw [e1, eqi]
    exact PySem.SeqAt.EqAt.int_int _ _ _ _
  · exact ⟨S, loc, hp, R, h⟩
theorem m_split {x y : Str} {Q : Value → LOC → HP → Prop} (hy : (y.length == 0) = false) (hx : x.length ≤ 100000) (h : ∀ D, hp D = none → Q (.ref D) loc (hset hp D (.list ((Txt.split x y).map fun z => .str z 0)))) :
    onCall C A g fr E (.builtin "str.split") [.str x 0, .str y 0] [] loc hp Q := onCall2 fun v u hv hu => by
  obtain ⟨t, rfl⟩ := nm_str hv
  obtain ⟨u', rfl⟩ := nm_str hu
  intro s R S
  have fin : ∀ (l : List (Str × Tok)) (tk : Nat), l.map (·.1) = Txt.split x y → (fun v s' => Sok C s' ∧ ∃ loc' hp', Rep C.H₀ g fr loc' hp' s'.heap ∧ Q (nm v) loc' hp') (.ref s.heap.objs.size) { s with toks := tk, heap := s.heap.push { cls := .type "list", data := .seq (strValues l).toArray } } := fun l tk hl =>
    ⟨S, loc, _, R.alloc (ao := .list ((Txt.split x y).map fun z => .str z 0)) rfl ⟨_, _, rfl, by rw [← hl, List.map_map]; simp only [strValues, List.map_map]; rfl⟩, h _ R.none_at⟩
  have hx' : x.length ≤ sizeLine := by rw [sizeLine_eq]; omega
  cases h1 : (decide (x.length < y.length) || decide (Builtin.Str.strKind x < Builtin.Str.strKind y))
  · cases hf : (Builtin.Str.occurrences x y 0 x.length (x.length + 1)).isEmpty
    · have hn : (Builtin.Str.partsBetween x (Builtin.Str.occurrences x y 0 x.length (x.length + 1)) y.length).length ≤ sizeLine := by
        have := split_le x y
        have e : Txt.split x y = Builtin.Str.partsBetween x (Builtin.Str.occurrences x y 0 x.length (x.length + 1)) y.length := by
          unfold Txt.split; rw [h1, hf]; rfl
        rw [e] at this; rw [sizeLine_eq]; omega
      refine call_meets F.slot_str_split (typeIs_str _ _ _) F.entry_str_split (F.args_str_split_2 _ _) (meets_str_split_sep x y t u' h1 hy hf hx' hn) ?_
      show wants _ E _ { s with toks := _, heap := s.heap.push { cls := .type "list", data := .seq (strsFrom s.toks (Builtin.Str.partsBetween x (Builtin.Str.occurrences x y 0 x.length (x.length + 1)) y.length)).toArray } }
      rw [strsFrom_eq]
      exact fin (numbered s.toks _) _ ((numbered_texts _ _).trans ((if_neg (ne_true_of_eq_false h1)).trans (if_neg (ne_true_of_eq_false hf))).symm)
    · exact call_meets F.slot_str_split (typeIs_str _ _ _) F.entry_str_split (F.args_str_split_2 _ _) (meets_str_split_not_found x y t u' h1 hy hf)
        (fin [(x, t)] _ ((if_neg (ne_true_of_eq_false h1)).trans (if_pos hf)).symm)
  · exact call_meets F.slot_str_split (typeIs_str _ _ _) F.entry_str_split (F.args_str_split_2 _ _) (meets_str_split_cannot_occur x y t u' h1)
      (fin [(x, t)] _ (if_pos h1).symm)
end
end Mine
end
section
namespace Mine
/-! ### sorted -/
def hEmpty : Heap := {}
theorem hEmpty_get (b : Addr) : hEmpty.get? b = none := rfl
def allBut (h : Heap) (L : Addr) : List (Addr × Obj) := (List.range h.objs.size).filterMap fun b => if b = L then none else (h.get? b).map fun o => (b, o)
theorem mem_allBut {h : Heap} {L b : Addr} {o : Obj} : (b, o) ∈ allBut h L ↔ b ≠ L ∧ h.get? b = some o := by
  unfold allBut
  rw [List.mem_filterMap]
  constructor
  · rintro ⟨c, _, e⟩
    by_cases q : c = L
    · rw [if_pos q] at e; cases e
    · rw [if_neg q] at e
      obtain ⟨o', ho, e'⟩ := Option.map_eq_some_iff.mp e
      cases e'
      exact ⟨q, ho⟩
  · rintro ⟨q, e⟩
    exact ⟨b, List.mem_range.mpr (Heap.lt_size e), by rw [if_neg q, e]; rfl⟩
section
variable {C : Cx} {A : Around} {g : Heap} {fr : Fm} {E : Value → Shared → Prop} {loc : LOC} {hp : HP} {h h' : Heap} {m : Str → Option Value}
theorem rep_news (R : Rep C.H₀ g fr loc hp h) (hn : h.Ns fr.env.locals m) (n' : h'.Ns fr.env.locals m) (hk : ∀ b o, b ≠ fr.env.locals → h.get? b = some o → h'.get? b = some o) : Rep C.H₀ g fr loc hp h' where
  keep b o e := hk b o (by rintro rfl; rw [R.nsn] at e; cases e) (R.keep b o e)
  base := R.base
  loc x v e := by
    rcases R.loc x v e with ⟨k, m', v', n, e, q⟩ | ⟨k, c, v', l, n, q⟩
    · refine .inl ⟨k, m', v', ?_, e, q⟩
      rw [n.eq_nsMap, ← hn.eq_nsMap]; exact n'
    · obtain ⟨o, ho, hd⟩ := n
      exact .inr ⟨k, c, v', l, ⟨o, hk c o (R.cne x c l).1 ho, hd⟩, q⟩
  ns := ⟨m, n'⟩
  nsn := R.nsn
  cell := R.cell
  cne x c l := by
    obtain ⟨a, v, o, ho, hd⟩ := R.cne x c l
    exact ⟨a, v, o, hk c o a ho, hd⟩
  apart := R.apart
  at_ b ao e := by
    obtain ⟨a1, a2, a3, o, ho, hi⟩ := R.at_ b ao e
    exact ⟨a1, a2, a3, o, hk b o a2 ho, hi⟩
theorem rep_add {D : Addr} {o : Obj} {ao : AO} (R : Rep C.H₀ g fr loc hp h) (R' : Rep C.H₀ g fr loc hp h') (hD : h.get? D = none) (ho : h'.get? D = some o) (hi : ao.is o) : hp D = none ∧ Rep C.H₀ g fr loc (hset hp D ao) h' := by
  have hpD : hp D = none := by
    cases q : hp D with
    | none => rfl
    | some a => obtain ⟨_, _, _, o', e, _⟩ := R.at_ _ _ q; rw [hD] at e; cases e
  refine ⟨hpD, R'.keep, R'.base, R'.loc, R'.ns, R'.nsn, R'.cell, R'.cne, R'.apart, fun b ao' e => ?_⟩
  by_cases w : b = D
  · subst w
    rw [hset_eq] at e; cases e
    refine ⟨?_, ?_, fun x c l => ?_, o, ho, hi⟩
    · cases q : g.get? b with
      | none => rfl
      | some o' => have := R.keep _ _ q; rw [hD] at this; cases this
    · rintro rfl
      obtain ⟨_, o', _, _, e, _⟩ := R.ns
      rw [hD] at e; cases e
    · rintro rfl
      obtain ⟨_, v, o', e, _⟩ := R.cne x b l
      rw [hD] at e; cases e
  · rw [hset_ne _ _ w] at e
    exact R'.at_ b ao' e
theorem call_sorted_ints {a : Addr} {ns : List Int} {Q : Value → LOC → HP → Prop} (ha : hp a = some (.list (ns.map iv))) (hsz : ns.length < 64)
    (h : ∀ D (ns' : List Int), ns'.Perm ns → ns'.Pairwise (· ≤ ·) → hp D = none → Q (.ref D) loc (hset hp D (.list (ns'.map iv)))) : onCall C A g fr E (.builtin "sorted") [.ref a] [] loc hp Q := onCall1 fun v hv => by
  have := nm_ref hv; subst this
  intro s R S
  obtain ⟨vs, n, e, q⟩ := R.list ha
  have hI : IntsAre vs.toList ns := by
    have : ∀ (vl : List Value) (ns : List Int), vl.map nm = ns.map iv → IntsAre vl ns := by
      intro vl
      induction vl with
      | nil => intro ns q; cases ns with
        | nil => exact .nil
        | cons => cases q
      | cons v vl ih => intro ns q; cases ns with
        | nil => cases q
        | cons i ns =>
          rw [List.map_cons, List.map_cons] at q
          injection q with q1 q2
          obtain ⟨t, rfl⟩ := nm_int q1
          exact .cons i t (ih ns q2)
    exact this _ _ q
  refine sorted_ints (vs := vs.toList) ⟨_, e, rfl, n, rfl⟩ hI (by have := nm_size q; rw [List.length_map] at this; simpa [this] using hsz) fun out ns' hI' hp' hs' => ?_
  obtain ⟨e2, he2⟩ := sortedAll_at s.heap vs.toList out
  have hD : s.heap.get? (s.heap.objs.size + 1) = none := Heap.get?_none_of_le (Nat.le_succ _)
  have hnm : ∀ {vl : List Value} {ns : List Int}, IntsAre vl ns → vl.map nm = ns.map iv := fun hi => by
    induction hi with
    | nil => rfl
    | cons i t _ ih => rw [List.map_cons, List.map_cons, ih]; rfl
  obtain ⟨a1, a2⟩ := rep_add (ao := .list (ns'.map iv)) R (R.keeps fun b o e => sortedAll_old e) hD he2 ⟨out, e2, rfl, hnm hI'⟩
  exact ⟨S, loc, _, a2, h _ ns' hp' hs' a1⟩
end
section
variable {C : Cx} {A : Around} {g : Heap} {fr : Fm} {E : Value → Shared → Prop} {loc : LOC} {hp : HP}
theorem lex_key {a a' b b' : Int} (h1 : 0 ≤ b) (h2 : b < 1000) (h1' : 0 ≤ b') (h2' : b' < 1000) : (a * 1000 + b < a' * 1000 + b') ↔ (a < a' ∨ (a = a' ∧ b < b')) := by omega
theorem katTups_of {h : Heap} : ∀ (ts : List Addr) (fs : List Value), ts.length = fs.length → (∀ (k : Nat) T f, ts[k]? = some T → fs[k]? = some f → ∃ xs n, h.get? T = some { cls := .type "tuple", data := .seq xs n } ∧ xs[0]? = some f) → KatTups h (ts.map .ref) fs
  | [], [], _, _ => .nil
  | [], _ :: _, h, _ => by cases h
  | _ :: _, [], h, _ => by cases h
  | T :: ts, f :: fs, hl, hx => by
    obtain ⟨xs, n, e1, e2⟩ := hx 0 T f rfl rfl
    exact .cons e1 rfl rfl e2 (katTups_of ts fs (by simpa using hl) fun k T f a b => hx (k + 1) T f a b)
theorem call_sorted_pairs {l : Addr} {ts : List Addr} {ps : List (Int × Int)} {Q : Value → LOC → HP → Prop} (hl : hp l = some (.list (ts.map .ref))) (hln : ts.length = ps.length) (h2 : 2 ≤ ps.length) (h64 : ps.length < 64)
    (hT : ∀ (k : Nat) T x, ts[k]? = some T → ps[k]? = some x → hp T = some (.tuple [iv x.1, iv x.2])) (hb : ∀ x ∈ ps, 0 ≤ x.2 ∧ x.2 < 1000)
    (h : ∀ D (p : List Nat), p.Perm (List.range ps.length) → p.Pairwise (RK fun i => (ps.getD i (0, 0)).1 * 1000 + (ps.getD i (0, 0)).2) → hp D = none → Q (.ref D) loc (hset hp D (.list (p.map fun i => .ref (ts.getD i 0))))) :
    onCall C A g fr E (.builtin "sorted") [.ref l] [] loc hp Q := onCall1 fun v hv => by
  have := nm_ref hv; subst this
  intro s R S
  obtain ⟨vs, n, e, q⟩ := R.list hl
  have hvs : vs.toList = ts.map .ref := by
    have : ∀ (vl : List Value) (ts : List Addr), vl.map nm = ts.map .ref → vl = ts.map .ref := by
      intro vl
      induction vl with
      | nil => intro ts q; cases ts with
        | nil => rfl
        | cons => cases q
      | cons v vl ih => intro ts q; cases ts with
        | nil => cases q
        | cons t ts =>
          rw [List.map_cons, List.map_cons] at q
          injection q with q1 q2
          rw [nm_ref q1, List.map_cons, ih ts q2]
    exact this _ _ q
  obtain ⟨m, hn⟩ := R.ns
  have hlen : vs.toList.length = ps.length := by rw [hvs, List.length_map, hln]
  refine kat_sorted (vs := vs.toList) (news := allBut s.heap fr.env.locals) (h₀ := hEmpty) (L := fr.env.locals) (m := m) ⟨hn, fun b o e => (by rw [hEmpty_get] at e; cases e), Nat.zero_le _⟩ (fun p hp => ⟨(mem_allBut.mp hp).2, (mem_allBut.mp hp).1, hEmpty_get _⟩) ⟨_, e, rfl, n, rfl⟩ (by omega) (by omega) fun D e1 h' F' N' hlt => ?_
  have hk' : ∀ b o, b ≠ fr.env.locals → s.heap.get? b = some o → h'.get? b = some o := fun b o hb e => (N' (b, o) (.tail _ (mem_allBut.mpr ⟨hb, e⟩))).1
  have R' := rep_news R hn F'.ns hk'
  -- the pairs
  have hpair : ∀ (k : Nat), k < ps.length → ∃ (T : Addr) (xs : Array Value) (n : Nat) (t u : Tok), ts[k]? = some T ∧ h'.get? T = some { cls := .type "tuple", data := .seq xs n } ∧ xs.toList = [.int (ps.getD k (0, 0)).1 t, .int (ps.getD k (0, 0)).2 u] := fun k hk => by
    have hkt : k < ts.length := by omega
    have := hT k ts[k] ps[k] (List.getElem?_eq_getElem hkt) (List.getElem?_eq_getElem hk)
    obtain ⟨xs, n, e, q⟩ := R'.tuple this
    have h1 : xs.toList.length = 2 := by simpa using congrArg List.length q
    match hv : xs.toList, h1 with
    | [u, v], _ =>
      rw [hv] at q
      injection q with q1 q2
      injection q2 with q2 _
      obtain ⟨t, rfl⟩ := nm_int q1
      obtain ⟨t', rfl⟩ := nm_int q2
      refine ⟨ts[k], xs, n, t, t', List.getElem?_eq_getElem hkt, e, ?_⟩
      rw [hv, List.getD_eq_getElem?_getD, List.getElem?_eq_getElem hk]; rfl
  have hkK : ∀ k, k < ps.length → 0 ≤ (ps.getD k (0, 0)).2 ∧ (ps.getD k (0, 0)).2 < 1000 := fun k hk => hb _ (by rw [List.getD_eq_getElem?_getD, List.getElem?_eq_getElem hk]; exact List.getElem_mem hk)
  obtain ⟨fs, hfs, hfl⟩ : ∃ fs : List Value, (∀ (k : Nat) T f, ts[k]? = some T → fs[k]? = some f → (∃ xs n, h'.get? T = some { cls := .type "tuple", data := .seq xs n } ∧ xs[0]? = some f) ∧ ∃ i t, f = .int i t) ∧ fs.length = ts.length := by
    refine ⟨ts.map fun T => (((h'.get? T).map fun o => match o.data with | .seq xs _ => xs.getD 0 .none | _ => .none).getD .none), fun k T f a b => ?_, by simp⟩
    have hk : k < ps.length := by have := (List.getElem?_eq_some_iff.mp a).1; omega
    obtain ⟨T', xs, n, t, u, e1, e2, e3⟩ := hpair k hk
    rw [a] at e1; cases e1
    rw [List.getElem?_map, a] at b
    injection b with b
    dsimp only at b
    rw [e2] at b
    have e4 : xs[0]? = some (.int (ps.getD k (0, 0)).1 t) := by rw [← Array.getElem?_toList, e3]; rfl
    have b' : f = .int (ps.getD k (0, 0)).1 t := by
      rw [← b]
      show xs.getD 0 .none = _
      rw [Array.getD_eq_getD_getElem?, e4]; rfl
    subst b'
    exact ⟨⟨xs, n, e2, e4⟩, _, _, rfl⟩
  have hkt : KatTups h' vs.toList fs := by rw [hvs]; exact katTups_of ts fs hfl.symm fun k T f a b => (hfs k T f a b).1
  refine kat_kind (T := .type "int") hkt (by omega) (fun f hf => ?_) (by rfl) ?_
  · obtain ⟨k, hk⟩ := List.mem_iff_getElem?.mp hf
    have hk' : k < ts.length := by have := (List.getElem?_eq_some_iff.mp hk).1; omega
    obtain ⟨_, i, t, rfl⟩ := hfs k _ f (List.getElem?_eq_getElem hk') hk
    exact Looks.of_pure rfl
  rw [hlen]
  refine okT_wp (I := fun s' => s' = { s with heap := h' }) (lt := ltK fun i => (ps.getD i (0, 0)).1 * 1000 + (ps.getD i (0, 0)).2) (n := ps.length) (fun i j Cc s₂ hi hj hs₂ hC => ?_) (fun p s₂ hs₂ hp₂ => ?_) _ _ rfl (kas_stable (by omega))
  · subst hs₂
    obtain ⟨Ti, xi, ni, ti, ui, a1, a2, a3⟩ := hpair i hi
    obtain ⟨Tj, xj, nj, tj, uj, b1, b2, b3⟩ := hpair j hj
    obtain ⟨c1, c2⟩ := hkK i hi
    obtain ⟨d1, d2⟩ := hkK j hj
    have gi : vs.toList.getD i .none = .ref Ti := by rw [hvs, List.getD_eq_getElem?_getD, List.getElem?_map, a1]; rfl
    have gj : vs.toList.getD j .none = .ref Tj := by rw [hvs, List.getD_eq_getElem?_getD, List.getElem?_map, b1]; rfl
    unfold kas_ask
    rw [gi, gj]
    refine kat_lt a2 rfl b2 rfl ?_
    rw [a3, b3]
    have hC' := hC _ rfl
    unfold ltK at hC'
    rw [show decide ((ps.getD i (0, 0)).1 * 1000 + (ps.getD i (0, 0)).2 < (ps.getD j (0, 0)).1 * 1000 + (ps.getD j (0, 0)).2) = decide ((ps.getD i (0, 0)).1 < (ps.getD j (0, 0)).1 ∨ ((ps.getD i (0, 0)).1 = (ps.getD j (0, 0)).1 ∧ (ps.getD i (0, 0)).2 < (ps.getD j (0, 0)).2)) from decide_eq_decide.mpr (lex_key c1 c2 d1 d2)] at hC'
    generalize (ps.getD i (0, 0)).1 = x1 at *
    generalize (ps.getD i (0, 0)).2 = x2 at *
    generalize (ps.getD j (0, 0)).1 = y1 at *
    generalize (ps.getD j (0, 0)).2 = y2 at *
    refine kat_cons (wpAny_eqBool_int ?_)
    by_cases w : x1 = y1
    · subst w
      rw [show (x1 == x1) = true from beq_self_eq_true x1]
      refine kat_yes (kat_cons (wpAny_eqBool_int ?_))
      by_cases w2 : x2 = y2
      · subst w2
        rw [show (x2 == x2) = true from beq_self_eq_true x2]
        refine kat_yes (kat_nil ?_)
        have z : xi.size = xj.size := by rw [← Array.length_toList, ← Array.length_toList, a3, b3]; rfl
        rw [show decide (xi.size < xj.size) = false by rw [z]; simp]
        rw [show decide (x1 < x1 ∨ x1 = x1 ∧ x2 < x2) = false by simp] at hC'
        exact hC'
      · rw [show (x2 == y2) = false by simpa using w2]
        refine kat_no (kat_one _ _ ?_)
        refine lt_int ?_
        dsimp only [W.BoolBack]
        rw [show decide (x1 < x1 ∨ x1 = x1 ∧ x2 < y2) = decide (x2 < y2) by simp] at hC'
        exact hC'
    · rw [show (x1 == y1) = false by simpa using w]
      refine kat_no ?_
      refine oneLt_int ?_
      rw [show decide (x1 < y1 ∨ x1 = y1 ∧ x2 < y2) = decide (x1 < y1) by simp [w]] at hC'
      exact hC'
  · subst hs₂
    obtain ⟨p1, p2, p3⟩ := hp₂
    refine KasFin.intro F' N' (UpdF.head fun r hr => Nat.ne_of_lt (hlt r hr)) fun h₂ c F₂ N₂ => ?_
    have R₂ := rep_news (h' := h₂) R hn F₂.ns fun b o hb e => (N₂ (b, o) (.tail _ (mem_allBut.mpr ⟨hb, e⟩))).1
    have hD : s.heap.get? D = none := by
      cases w : s.heap.get? D with
      | none => rfl
      | some o =>
        have := hlt (D, o) (mem_allBut.mpr ⟨(N₂ _ (.head _)).2.1, w⟩)
        exact absurd this (Nat.lt_irrefl _)
    obtain ⟨z1, z2⟩ := rep_add (ao := .list (p.toList.map fun i => .ref (ts.getD i 0))) R R₂ hD (N₂ _ (.head _)).1 ⟨_, _, rfl, by
      rw [List.toList_toArray, List.map_map]
      refine List.map_congr_left fun i hi => ?_
      have hi' : i < ts.length := by have := List.mem_range.mp (p2.mem_iff.mp hi); omega
      show nm (vs.toList.getD i .none) = _
      rw [hvs, List.getD_eq_getElem?_getD, List.getElem?_map, List.getD_eq_getElem?_getD, List.getElem?_eq_getElem hi']; rfl⟩
    exact ⟨S, loc, _, z2, h D p.toList p2 p3 z1⟩
end
end Mine
end
section
namespace Mine
/-! ### sorted with a key that is a lambda -/
section
variable {C : Cx} {A : Around} {g : Heap} {fr : Fm} {E : Value → Shared → Prop} {loc : LOC} {hp : HP} {s : Shared}
theorem lam_call {f c' : Addr} {oc : Obj} {cvs : Array Value} {ct : Tok} {name q : Str} {params : Arguments} {body : Expr} {scope : Scope} {pm ctv : Value} {vals : List Value} {binds : List (Str × Value)} {P : Value → Prop} (R : Rep C.H₀ g fr loc (fun _ => none) s.heap) (S : Sok C s)
    (ho : s.heap.get? f = some (kla_obj name q params body scope [] pm c' ctv)) (hoc : s.heap.get? c' = some oc) (hd : oc.data = .fields cvs) (hv : cvs[1]? = some (.str q ct)) (hlim : C.H₀.NoLimit)
    (hroom : A.depth < recursionLimit) (hco : scope.isCoroutine = false) (hgen : scope.isGenerator = false) (hk : scope.kind = .function)
    (hbind : bindArgs (kla_fn name q params body scope [] pm (.ref c') ctv) ⟨vals, []⟩ = pure binds)
    (hkb : (binds.all fun x => scope.names.lookup x.1 == some .local || scope.names.lookup x.1 == some .cell) = true) (hfr : scope.names.all (fun x => x.2 != .free) = true)
    (h : ∀ A' g' fr' E', A'.depth = A.depth + 1 → A'.handled = A.handled → FrOf fr' scope allOwn → (∀ b o, s.heap.get? b = some o → g'.get? b = some o) → awv C A' g' fr' E' (eval body fr'.env) (bindLoc binds fun _ => none) (fun _ => none) fun v _ _ => P v) :
    wpAny (model C.prog C.w) A (call (.ref f) vals []) (fun v s' => Sok C s' ∧ (∀ b o, s.heap.get? b = some o → s'.heap.get? b = some o) ∧ P (nm v)) E s := by
  obtain ⟨fd, hfd⟩ : ∃ fd, fd = kla_fn name q params body scope [] pm (.ref c') ctv := ⟨_, rfl⟩
  have hkind : ∀ x ∈ binds, fd.scope.names.lookup x.1 = some .local ∨ fd.scope.names.lookup x.1 = some .cell := fun x hx => by
    rw [hfd]
    have := List.all_eq_true.mp hkb x hx
    rcases Bool.or_eq_true_iff.mp this with q | q
    · exact .inl (by simpa using q)
    · exact .inr (by simpa using q)
  have hk' : ∀ b o, C.H₀.get? b = some o → s.heap.get? b = some o := fun b o e => R.keep b o (R.base b o e)
  refine wpAny_call (kla_callFunE hroom ho rfl hco hgen rfl ⟨c', oc, cvs, ct, rfl, hoc, hd, hv⟩ ?_)
  rw [hbind]
  refine wpAny_pure ?_
  rw [hfd] at hkind
  refine wpAny_newFunctionEnv_cells (scope := scope) hk (fun x hx => (hkind x hx).imp id fun e => ⟨e, cellsFrom_some _ _ _ (.inl e)⟩) fun env he s' x => ?_
  subst he
  refine ⟨(hlim.keeps hk').keeps x.toInCall.keep, kla_codeExpr ?_⟩
  have R' := rep_called (h := s.heap) (fd := kla_fn name q params body scope [] pm (.ref c') ctv) (f := f) R hkind x
  refine wpAny_mono (h (A.deeper (callEnvC (kla_fn name q params body scope [] pm (.ref c') ctv) s.heap.objs.size f)) _ (fnFm (kla_fn name q params body scope [] pm (.ref c') ctv) s.heap.objs.size f) _ rfl rfl (frOf_fn (kla_fn name q params body scope [] pm (.ref c') ctv) _ f hk rfl rfl hfr) (fun b o e => by rw [veil_get rfl]; exact e) s' R' (sok_called S x)) (fun v s'' hq => ?_) fun _ _ e => e
  obtain ⟨S'', l', p', R'', q⟩ := hq
  exact ⟨S'', fun b o e => R''.keep b o (by rw [veil_get rfl]; exact e), q⟩
theorem sub_tuple_g {value slice : Expr} {l : Addr} {i : Int} {vs : Array Value} {n : Nat} {v : Value} {Q : Value → LOC → HP → Prop} (hs : ∀ o j, subscripted slice false o j = operate [o, j] (getItem o j)) (hl : g.get? l = some { cls := .type "tuple", data := .seq vs n }) (h0 : 0 ≤ i) (hi : i < 2 ^ 63) (hv : vs[i.toNat]? = some v) (h : Q (nm v) loc hp) :
    ov2 C A g fr E (subscriptTail value slice) (.ref l) (.int i 0) loc hp Q := by
  intro a b ha hb; obtain ⟨t, rfl⟩ := nm_int hb; have := nm_ref ha; subst this
  intro s R S
  have e := R.keep _ _ hl
  have hk : seqIndex? i vs.size = some i.toNat := by
    unfold seqIndex?
    have := (Array.getElem?_eq_some_iff.mp hv).1
    simp only
    split <;> first | omega | skip
    all_goals (simp; omega)
  exact tail_any (T := "tuple") ⟨_, e, rfl⟩ F.slot_tuple_getitem.lookup (P.getItem_tuple (n := n) e (by omega) hi hk hv ⟨S, loc, hp, R, h⟩) (hs _ _)
end
section
variable {C : Cx} {A : Around} {g : Heap} {fr : Fm} {E : Value → Shared → Prop} {loc : LOC} {hp : HP}
theorem onCall1k {Q : Value → LOC → HP → Prop} {f x : Value} {k : Str} {z : Value} (h : ∀ v w, nm v = x → nm w = z → awv C A g fr E (call f [v] [(k, w)]) loc hp Q) : onCall C A g fr E f [x] [(k, z)] loc hp Q := by
  intro vs kw hv hk
  match vs, kw, hv, hk with
  | [a], [(k', w)], hv, hk =>
    injection hv with h1 hv
    injection hk with h3 hk
    injection h3 with h4 h5
    subst h4
    exact h a w h1 h5
theorem ints_snoc {n : Int} {t : Tok} : ∀ {vs : List Value} {ns : List Int}, IntsAre vs ns → IntsAre (vs ++ [.int n t]) (ns ++ [n]) := fun h => ksk_snoc h
theorem ints_get : ∀ {vs : List Value} {ns : List Int}, IntsAre vs ns → ∀ i, i < ns.length → ∃ t, vs.getD i .none = .int (ns.getD i 0) t
  | _, _, .nil, i, h => by cases h
  | _, _, .cons n t r, 0, _ => ⟨t, rfl⟩
  | _, _, .cons n t r, i + 1, h => by
    obtain ⟨u, hu⟩ := ints_get r i (by simpa using h)
    exact ⟨u, by simpa using hu⟩
theorem call_sorted_key {l f c' : Addr} {name q : Str} {params : Arguments} {body : Expr} {scope : Scope} {pm ctv : Value} {b1 : Str} {ts : List Addr} {kz : List Int} {xs : Nat → List Value} {Q : Value → LOC → HP → Prop} (hl : hp l = some (.list (ts.map .ref))) (hln : ts.length = kz.length) (h2 : 2 ≤ kz.length) (h64 : kz.length < 64)
    (hT : ∀ (k : Nat) T, ts[k]? = some T → hp T = some (.tuple (xs k))) (hx : ∀ (k : Nat), k < kz.length → (xs k)[0]? = some (iv (kz.getD k 0)))
    (hf : hp f = some (.obj (kla_obj name q params body scope [] pm c' ctv))) (hc : hp c' = some (codeA q)) (hlim : C.H₀.NoLimit) (hroom : A.depth < recursionLimit)
    (hco : scope.isCoroutine = false) (hgen : scope.isGenerator = false) (hkind : scope.kind = .function)
    (hbind : ∀ v, bindArgs (kla_fn name q params body scope [] pm (.ref c') ctv) ⟨[v], []⟩ = pure [(b1, v)])
    (hkb : (scope.names.lookup b1 == some .local || scope.names.lookup b1 == some .cell) = true) (hfr : scope.names.all (fun x => x.2 != .free) = true)
    (hbody : ∀ A' g' fr' E' (T : Addr) (vs : Array Value) (n : Nat) (k : Int) (t : Tok), A'.depth = A.depth + 1 → FrOf fr' scope allOwn → g'.get? T = some { cls := .type "tuple", data := .seq vs n } → vs[0]? = some (.int k t) → awv C A' g' fr' E' (eval body fr'.env) (bindLoc [(b1, .ref T)] fun _ => none) (fun _ => none) fun v _ _ => v = iv k)
    (h : ∀ D (p : List Nat), p.Perm (List.range kz.length) → p.Pairwise (RK fun i => kz.getD i 0) → hp D = none → Q (.ref D) loc (hset hp D (.list (p.map fun i => .ref (ts.getD i 0))))) :
    onCall C A g fr E (.builtin "sorted") [.ref l] [("key", .ref f)] loc hp Q := onCall1k fun v w hv hw => by
  have := nm_ref hv; subst this
  have := nm_ref hw; subst this
  intro s R S
  obtain ⟨vs, n, e, q'⟩ := R.list hl
  have hvs : vs.toList = ts.map .ref := by
    have : ∀ (vl : List Value) (ts : List Addr), vl.map nm = ts.map .ref → vl = ts.map .ref := by
      intro vl
      induction vl with
      | nil => intro ts q; cases ts with
        | nil => rfl
        | cons => cases q
      | cons v vl ih => intro ts q; cases ts with
        | nil => cases q
        | cons t ts =>
          rw [List.map_cons, List.map_cons] at q
          injection q with q1 q2
          rw [nm_ref q1, List.map_cons, ih ts q2]
    exact this _ _ q'
  obtain ⟨m, hn⟩ := R.ns
  have hlen : vs.toList.length = kz.length := by rw [hvs, List.length_map, hln]
  have R0 : Rep C.H₀ g fr loc (fun _ => none) s.heap := R.forget (fun _ _ e => e) fun _ _ e => nomatch e
  obtain ⟨_, _, _, of, hof, hif⟩ := R.at_ _ _ hf
  cases hif
  obtain ⟨_, fL, _, oc, hoc, cvs, ct, hcd, hcv⟩ := R.at_ _ _ hc
  have fL' := (R.at_ _ _ hf).2.1
  refine kat_sortedK (vs := vs.toList) (b := false) (f := .ref f) (news := allBut s.heap fr.env.locals) (h₀ := hEmpty) (L := fr.env.locals) (m := m) ⟨hn, fun b o e => (by rw [hEmpty_get] at e; cases e), Nat.zero_le _⟩ (fun p hp => ⟨(mem_allBut.mp hp).2, (mem_allBut.mp hp).1, hEmpty_get _⟩) ⟨_, e, rfl, n, rfl⟩ (by omega) (by omega)
    (ksk_s1 _ _) (fun _ => ksk_l1 _ _) (fun _ => ksk_t1 _ _) fun D kS e1 h' F' N' hDk hlt => ?_
  have hDL : D ≠ fr.env.locals := (N' _ (.tail _ (.head _))).2.1
  have hkSL : kS ≠ fr.env.locals := (N' _ (.head _)).2.1
  have hD : s.heap.get? D = none := by
    cases w : s.heap.get? D with
    | none => rfl
    | some o => exact absurd (hlt (D, o) (mem_allBut.mpr ⟨hDL, w⟩)) (Nat.lt_irrefl _)
  have hhead : ∀ p ∈ (D, seqObj "list" #[] e1) :: allBut s.heap fr.env.locals, p.1 ≠ kS := fun p hp => by
    rcases List.mem_cons.mp hp with rfl | hp
    · exact Nat.ne_of_lt hDk
    · exact Nat.ne_of_lt (Nat.lt_trans (hlt p hp) hDk)
  have key : ∀ (r : List Value) (k : Nat) (ks : List Value) (e : Nat) (s₁ : Shared), r = vs.toList.drop k → k ≤ kz.length → IntsAre ks (kz.take k) → Sok C s₁ → Fr hEmpty fr.env.locals s₁.heap m → News hEmpty fr.env.locals s₁.heap ((kS, seqObj "list" (List.toArray ks) e) :: (D, seqObj "list" #[] e1) :: allBut s.heap fr.env.locals) →
      KatKeys C.prog C.w A.in1.in1 hEmpty fr.env.locals m kS (.ref f) (fun ks e s' => wpAny (model C.prog C.w) A.in1.in1 (keyKind' (List.toArray ks)) (fun κ s'' => (kas_sort vs.toList.length).kasWp (kas_ask C.prog C.w A.in1.in1 κ (katRev false ks)) (fun p s3 => KatFin hEmpty fr.env.locals m kS D ks e e1 (katRev false (p.toList.map fun i => (katRev false vs.toList).getD i Value.none)) (fun s4 => (fun v s' => Sok C s' ∧ ∃ loc' hp', Rep C.H₀ g fr loc' hp' s'.heap ∧ Q (nm v) loc' hp') (.ref D) s4) s3) s'') (fun _ _ => False) s') r ks e s₁ := by
    intro r
    induction r with
    | nil =>
      intro k ks e s₁ hr hk hI S₁ F₁ N₁
      have hkk : k = kz.length := by
        have := congrArg List.length hr
        rw [List.length_drop, hlen] at this
        simp at this; omega
      subst hkk
      rw [List.take_length] at hI
      refine KatKeys.nil ?_
      have hkl := hI.length
      rw [ksk_kind (kz := kz) (by simpa using hI) (by simp; omega)]
      refine wpAny_pure ?_
      rw [hlen]
      refine okT_wp (I := fun s' => s' = s₁) (lt := ltK fun i => kz.getD i 0) (n := kz.length) (fun i j Cc s₂ hi hj hs₂ hC => ?_) (fun p s₂ hs₂ hp₂ => ?_) _ _ rfl (kas_stable (by omega))
      · subst hs₂
        obtain ⟨t, ht⟩ := ints_get hI i hi
        obtain ⟨u, hu⟩ := ints_get hI j hj
        unfold kas_ask
        rw [show katRev false ks = ks from rfl, ht, hu]
        exact kat_lt_int (hC _ rfl)
      · subst hs₂
        obtain ⟨p1, p2, p3⟩ := hp₂
        refine KatFin.intro F₁ N₁ (UpdF.head hhead) fun h₂ c F₂ N₂ => KasFin.intro F₂ N₂ (UpdF.tail (Nat.ne_of_gt hDk) (UpdF.head fun r hr => Nat.ne_of_lt (hlt r hr))) fun h₃ c₃ F₃ N₃ => ?_
        have R₃ := rep_news (h' := h₃) R hn F₃.ns fun b o hb e => (N₃ (b, o) (.tail _ (.tail _ (mem_allBut.mpr ⟨hb, e⟩)))).1
        obtain ⟨z1, z2⟩ := rep_add (ao := .list (p.toList.map fun i => .ref (ts.getD i 0))) R R₃ hD (N₃ _ (.tail _ (.head _))).1 ⟨_, _, rfl, by
          rw [show katRev false (p.toList.map fun i => (katRev false vs.toList).getD i Value.none) = p.toList.map fun i => vs.toList.getD i Value.none from rfl, List.toList_toArray, List.map_map]
          refine List.map_congr_left fun i hi => ?_
          have hi' : i < ts.length := by have := List.mem_range.mp (p2.mem_iff.mp hi); omega
          show nm (vs.toList.getD i .none) = _
          rw [hvs, List.getD_eq_getElem?_getD, List.getElem?_map, List.getD_eq_getElem?_getD, List.getElem?_eq_getElem hi']; rfl⟩
        exact ⟨S₁, loc, _, z2, h D p.toList p2 p3 z1⟩
    | cons v r ih =>
      intro k ks e s₁ hr hk hI S₁ F₁ N₁
      have hkt : k < ts.length := by
        have := congrArg List.length hr
        rw [List.length_drop, hlen] at this
        simp at this; omega
      have hv : v = .ref ts[k] ∧ r = vs.toList.drop (k + 1) := by
        have hk' : k < vs.toList.length := by rw [hlen]; omega
        rw [List.drop_eq_getElem_cons hk'] at hr
        injection hr with a b
        refine ⟨?_, b⟩
        rw [a]
        have : vs.toList[k]? = some (.ref ts[k]) := by rw [hvs, List.getElem?_map, List.getElem?_eq_getElem hkt]; rfl
        rw [List.getElem?_eq_getElem hk'] at this
        injection this
      obtain ⟨rfl, hr'⟩ := hv
      have hk₁ : ∀ b o, b ≠ fr.env.locals → s.heap.get? b = some o → s₁.heap.get? b = some o := fun b o hb e => (N₁ (b, o) (.tail _ (.tail _ (mem_allBut.mpr ⟨hb, e⟩)))).1
      have R₁ := rep_news R0 hn F₁.ns hk₁
      have hTk := hT k ts[k] (List.getElem?_eq_getElem hkt)
      obtain ⟨tv, n', eT, qT⟩ := R.tuple hTk
      obtain ⟨v0, hv0, hnm⟩ := nm_get qT (hx k (by omega))
      obtain ⟨t0, rfl⟩ := nm_int hnm
      have hTL := (R.at_ _ _ hTk).2.1
      refine KatKeys.cons (wpAny_mono (lam_call (A := A.in1.in1) (P := fun v => v = iv (kz.getD k 0)) R₁ S₁ (hk₁ _ _ fL' hof) (hk₁ _ _ fL hoc) hcd hcv hlim hroom hco hgen hkind (hbind _) (by simpa using hkb) hfr (fun A' g' fr' E' a1 a2 a3 a4 => hbody A' g' fr' E' ts[k] tv n' _ t0 a1 a3 (a4 _ _ (hk₁ _ _ hTL eT)) hv0)) (fun kv s₂ hq => ?_) fun _ _ e => e)
      obtain ⟨S₂, hk₂, hkv⟩ := hq
      obtain ⟨t, rfl⟩ := nm_int hkv
      have F₂ : Fr hEmpty fr.env.locals s₂.heap m := F₁.kept hk₂
      have N₂ : News hEmpty fr.env.locals s₂.heap _ := fun p hp => ⟨hk₂ _ _ (N₁ p hp).1, (N₁ p hp).2⟩
      refine KatBack.intro F₂ N₂ (UpdF.head hhead) fun h₃ c F₃ N₃ => ?_
      refine ih (k + 1) _ c { s₂ with heap := h₃ } hr' (by omega) ?_ S₂ F₃ N₃
      have e4 : kz.take (k + 1) = kz.take k ++ [kz.getD k 0] := by
        rw [List.take_add_one, List.getElem?_eq_getElem (by omega), List.getD_eq_getElem?_getD, List.getElem?_eq_getElem (by omega)]; rfl
      rw [e4]
      exact ints_snoc hI
  exact key vs.toList 0 [] 0 { s with heap := h' } rfl (Nat.zero_le _) .nil S F' N'
end
end Mine
end
section
namespace Mine
section
variable {C : Cx} {A : Around} {g : Heap} {fr : Fm} {E : Value → Shared → Prop} {loc : LOC} {hp : HP}
theorem aw_SliceStep {value : Expr} {step₀ : Expr} {lower upper : Option Expr} {p₁ pos : Pos} {Q : Value → LOC → HP → Prop} (ht : ∀ o r, letTemporaryGo value o r = pure ())
    (h : awv C A g fr E (eval value fr.env) loc hp fun x l p => awPart C A g fr E lower l p fun lo l p => awPart C A g fr E upper l p fun hi l p => awPart C A g fr E (some step₀) l p fun st l p => ∃ (a : Addr) (ns : List Int), x = .ref a ∧ p a = some (.list (ns.map iv)) ∧ ns.length ≤ 100000 ∧ st ≠ some 0 ∧
      ∀ (c : Addr), p c = none → Q (.ref c) l (hset p c (.list ((pickNums ns lo hi st).map iv)))) :
    awv C A g fr E (eval (.Subscript value (.Slice lower upper (some step₀) p₁) pos) fr.env) loc hp Q := fun s R S => by
  refine wpAny_Subscript_Slice_step (T := "list") list_getitem_lookup (wpAny_mono (h s R S) (fun x s₁ ⟨S₁, l₁, p₁, R₁, h₁⟩ => wpAny_Slice (wpAny_mono (aw_part h₁ s₁ R₁ S₁) (fun vl s₂ ⟨S₂, l₂, p₂, R₂, lo, hlo, h₂⟩ =>
    wpAny_mono (aw_part h₂ s₂ R₂ S₂) (fun vu s₃ ⟨S₃, l₃, p₃, R₃, hi, hhi, h₃⟩ => wpAny_mono (aw_part h₃ s₃ R₃ S₃) (fun vs₀ s₄ ⟨S₄, l₄, p₄, R₄, st, hst, a, ns, e, ha, hsz, hne, hQ⟩ => ?_) fun _ _ e => e) fun _ _ e => e) fun _ _ e => e)) fun _ _ e => e) ht
  have := nm_ref e; subst this
  obtain ⟨vs, n, e, q⟩ := R₄.list ha
  have hz := nm_size q
  rw [List.length_map] at hz
  have hl : s₄.heap.IsList a vs := ⟨_, e, rfl, n, rfl⟩
  have hI : IntsAre vs.toList ns := by
    have : ∀ (vl : List Value) (ns : List Int), vl.map nm = ns.map iv → IntsAre vl ns := by
      intro vl
      induction vl with
      | nil => intro ns q; cases ns with
        | nil => exact .nil
        | cons => cases q
      | cons v vl ih => intro ns q; cases ns with
        | nil => cases q
        | cons i ns =>
          rw [List.map_cons, List.map_cons] at q
          injection q with q1 q2
          obtain ⟨t, rfl⟩ := nm_int q1
          exact .cons i t (ih ns q2)
    exact this _ _ q
  have hP := hI.pick lo hi st
  have hnm : ∀ {vl : List Value} {ns : List Int}, IntsAre vl ns → vl.map nm = ns.map iv := fun hi => by
    induction hi with
    | nil => rfl
    | cons i t _ ih => rw [List.map_cons, List.map_cons, ih]; rfl
  refine ⟨(hl.push _).typeIs, wpAny_getItem_list_slice (hl.push _) (Heap.IsSliceOf.new ..) hlo hhi hst hne ?_ (by rw [sizeLine_eq]; omega)⟩
  rw [Heap.size_push]
  refine ⟨S₄, l₄, hset p₄ (s₄.heap.objs.size + 1) (.list ((pickNums ns lo hi st).map iv)), ?_, hQ _ ?_⟩
  · have R₅ := R₄.alloc (ao := .sat fun _ => True) (o := { cls := .type "slice", data := .fields #[vl, vu, vs₀] }) rfl trivial
    have R₆ := R₅.alloc (ao := .list ((pickNums ns lo hi st).map iv)) (o := { cls := .type "list", data := .seq (slicePick vs lo hi st) }) rfl ⟨_, _, rfl, hnm hP⟩
    rw [Heap.size_push] at R₆
    refine R₆.forget (fun _ _ e => e) fun b o eb => ?_
    unfold hset at eb ⊢
    by_cases hb : b = s₄.heap.objs.size + 1
    · rwa [if_pos hb] at eb ⊢
    · rw [if_neg hb] at eb ⊢
      rw [if_neg (by rintro rfl; rw [R₄.none_at] at eb; cases eb)]
      exact eb
  · cases q : p₄ (s₄.heap.objs.size + 1) with
    | none => rfl
    | some o => exact absurd (R₄.lt_of_hp q) (Nat.not_lt.mpr (Nat.le_succ _))
theorem aw_SliceG {value : Expr} {lower upper : Option Expr} {p₁ pos : Pos} {Q : Value → LOC → HP → Prop} (ht : ∀ o r, letTemporaryGo value o r = pure ())
    (h : awv C A g fr E (eval value fr.env) loc hp fun x l p => awPart C A g fr E lower l p fun lo l p => awPart C A g fr E upper l p fun hi l p => ∃ (a : Addr) (vs : Array Value) (n : Nat) (xs : List Value), x = .ref a ∧ g.get? a = some { cls := .type "list", data := .seq vs n } ∧ vs.toList.map nm = xs ∧ xs.length ≤ 100000 ∧
      ∀ c, p c = none → Q (.ref c) l (hset p c (.list (sliceL xs lo hi)))) :
    awv C A g fr E (eval (.Subscript value (.Slice lower upper none p₁) pos) fr.env) loc hp Q := fun s R S => by
  refine wpAny_Subscript_list_slice (wpAny_mono (h s R S) (fun x s₁ ⟨S₁, l₁, p₁, R₁, h₁⟩ => wpAny_mono (aw_part h₁ s₁ R₁ S₁) (fun vl s₂ ⟨S₂, l₂, p₂, R₂, lo, hlo, h₂⟩ =>
    wpAny_mono (aw_part h₂ s₂ R₂ S₂) (fun vu s₃ ⟨S₃, l₃, p₃, R₃, hi, hhi, a, vs, n, xs, e, ha, q, hsz, hQ⟩ => ?_) fun _ _ e => e) fun _ _ e => e) fun _ _ e => e) ht
  have := nm_ref e; subst this
  have e := R₃.keep _ _ ha
  have hz := nm_size q
  refine ⟨a, vs, lo, hi, rfl, ⟨_, e, rfl, n, rfl⟩, by rw [sizeLine_eq]; omega, hlo, hhi, S₃, l₃, hset p₃ (s₃.heap.objs.size + 1) (.list (sliceL xs lo hi)), ?_, hQ _ ?_⟩
  · have R₄ := R₃.alloc (ao := .sat fun _ => True) (o := { cls := .type "slice", data := .fields #[vl, vu, .none] }) rfl trivial
    have R₅ := R₄.alloc (ao := .list (sliceL xs lo hi)) (o := { cls := .type "list", data := .seq (slicePick vs lo hi none) }) rfl ⟨_, _, rfl, by
      rw [slicePick_plain, hz, List.map_take, List.map_drop, q]; rfl⟩
    rw [Heap.size_push] at R₅
    refine R₅.forget (fun _ _ e => e) fun b o eb => ?_
    unfold hset at eb ⊢
    by_cases hb : b = s₃.heap.objs.size + 1
    · rwa [if_pos hb] at eb ⊢
    · rw [if_neg hb] at eb ⊢
      rw [if_neg (by rintro rfl; rw [R₃.none_at] at eb; cases eb)]
      exact eb
  · cases q : p₃ (s₃.heap.objs.size + 1) with
    | none => rfl
    | some o => exact absurd (R₃.lt_of_hp q) (Nat.not_lt.mpr (Nat.le_succ _))
theorem op_pow64 {Q : Value → LOC → HP → Prop} (h : Q (iv 262144) loc hp) : ov2 C A g fr E (binaryOp .Pow) (.int 64 0) (.int 3 0) loc hp Q := by
  intro x y hx hy
  obtain ⟨t, rfl⟩ := nm_int hx
  obtain ⟨u, rfl⟩ := nm_int hy
  exact fun s R S => pow_int (by decide) (by decide) ⟨S, loc, hp, R, h⟩
end
end Mine
end
end
section
local macro_rules | `(tactic| walk_at "loc") => `(tactic| (try simp only [setAll]) <;> (repeat' (first | exact lset_eq | (refine' compLoc_of (by rfl) ?_) | (refine' lset_ne (by decide) ?_) | (show (_ : Option Value) = some _; assumption))))
local macro_rules | `(tactic| walk_at "sto") => `(tactic| (first | exact FrOf.stoL (by assumption) (by rfl) | exact FrOf.stoC (by assumption) (by rfl) (by rfl)))
local macro_rules | `(tactic| walk_at "hp") => `(tactic| (repeat' (first | assumption | exact hset_eq _ _ _ | (refine' hset_of (by assumption) ?_))))
local macro_rules | `(tactic| walk_at "kl") => `(tactic| (first
  | with_reducible refine aw_execs_nil ?_
  | with_reducible refine aw_execs_cons ?_
  | with_reducible refine aw_If ?_
  | with_reducible refine aw_Return ?_
  | ((with_reducible refine aw_AssignComp (by assumption) ?kx ?k1 ?k2 ?k3 ?_); (case kx => walk_at "sto"); (case k1 => rfl); (case k2 => (intro _; rfl)); (case k3 => rfl))
  | ((with_reducible refine aw_AssignName ?ks ?kx ?_); (case ks => with_unfolding_all rfl); (case kx => walk_at "sto"))
  | ((with_reducible refine' aw_AugAssignName ?kk ?kl ?kc ?kx ?_); (case kk => exact FrOf.k (by assumption)); (case kc => decide); (case kx => walk_at "sto"); (case kl => walk_at "loc"))
  | ((with_reducible refine' aw_Name ?kk ?kl ?_ ?k1 ?k2); (case kk => exact FrOf.k (by assumption)); (case k1 => decide); (case k2 => decide); (case kl => walk_at "loc"))
  | ((with_reducible refine' aw_Glob ?kk ?kg ?kb ?kx ?kG ?_ ?k1 ?kn); (case kk => exact FrOf.k (by assumption)); (case kg => exact FrOf.glob (by assumption)); (case kb => exact FrOf.bi (by assumption)); (case k1 => decide); (case kG => assumption); (case kn => rfl); (case kx => exact FrOf.kindOf (by assumption) (by rfl)))
  | ((with_reducible refine aw_ListComp' (by assumption) ?k1 ?k2 ?k3 ?_); (case k1 => rfl); (case k2 => (intro _; rfl)); (case k3 => rfl))
  | ((with_reducible refine awf_For' (by assumption) ?k2 ?k3 ?_); (case k2 => (intro _; rfl)); (case k3 => rfl))
  | ((with_reducible refine aw_List ?k1 ?_); (case k1 => rfl))
  | ((with_reducible refine aw_Tuple ?k1 ?_); (case k1 => rfl))
  | ((with_reducible refine aw_ExprF (by assumption) ?k2 ?_); (case k2 => with_unfolding_all rfl))
  | ((with_reducible refine aw_CallMeth ?k1 ?k2 ?k3 ?k4 ?_); (case k1 => with_unfolding_all rfl); (case k2 => rfl); (case k3 => decide); (case k4 => rfl))
  | ((with_reducible refine' sub_tuple ?k1 ?k2 ?k3 ?k4 ?k5 ?_); (case k1 => (intro _ _; with_unfolding_all rfl)); (case k2 => (walk_at "hp"; done)); (case k3 => decide); (case k4 => decide); (case k5 => rfl))
  | with_reducible refine aw_int ?_
  | with_reducible refine aw_none ?_
  | with_reducible refine aw_bool ?_
  | with_reducible refine aw_str ?_
  | with_reducible refine aw_BinOp ?_
  | with_reducible refine aw_UnaryOp ?_
  | with_reducible refine op_neg ?_
  | with_reducible refine op_and ?_
  | with_reducible refine op_ixor ?_
  | with_reducible refine op_ior ?_
  | with_reducible refine op_add ?_
  | with_reducible refine op_sub ?_
  | with_reducible refine op_iadd ?_
  | ((with_reducible refine op_div ?k1 ?k2 ?_); (case k1 => decide); (case k2 => decide))
  | ((with_reducible refine op_mod ?k1 ?_); (case k1 => decide))
  | ((with_reducible refine aw_isTrue_cmp1 ?k1 ?_); (case k1 => with_unfolding_all rfl))
  | ((with_reducible refine aw_Compare1 ?k1 ?_); (case k1 => with_unfolding_all rfl))
  | with_reducible refine cop_lt ⟨_, rfl, ?_⟩
  | with_reducible refine cop_le ⟨_, rfl, ?_⟩
  | with_reducible refine cop_isNone ⟨_, rfl, ?_⟩
  | with_reducible refine cop_eqb ⟨_, rfl, ?_⟩
  | with_reducible refine cop_neb ⟨_, rfl, ?_⟩
  | with_reducible refine cop_lt ?_
  | with_reducible refine cop_le ?_
  | with_reducible refine cop_isNone ?_
  | with_reducible refine cop_eqb ?_
  | with_reducible refine cop_neb ?_
  | with_reducible refine aw_isTrue_and2 ?_
  | with_reducible refine aw_isTrue_or2 ?_
  | with_reducible refine aw_isTrue_not ?_
  | with_reducible refine aw_IfExp ?_
  | ((with_reducible refine aw_isTrue_cmp2 ?k1 ?k2 ?_ ?k3); (case k1 => with_unfolding_all rfl); (case k2 => with_unfolding_all rfl); (case k3 => rfl))
  | ((with_reducible refine aw_AssignPairN (by assumption) (by assumption) ?ks ?kw ?kn ?kx ?ky ?_); (case ks => rfl); (case kw => with_unfolding_all rfl); (case kn => decide); (case kx => walk_at "sto"); (case ky => walk_at "sto"))
  | ((with_reducible refine aw_AssignPairS (by assumption) (by assumption) ?ks ?kw ?kn ?kx ?ky ?_); (case ks => rfl); (case kw => with_unfolding_all rfl); (case kn => decide); (case kx => walk_at "sto"); (case ky => walk_at "sto"))
  | ((with_reducible refine aw_isTrue_val ?k1 ?_); (case k1 => with_unfolding_all rfl))
  | with_reducible refine t_int ?_
  | with_reducible refine aw_Break ?_
  | with_reducible refine aw_Pass ?_
  | ((with_reducible refine aw_Slice ?k1 ?_); (case k1 => (intro _ _; rfl)))
  | ((with_reducible refine aw_SliceStep ?k1 ?_); (case k1 => (intro _ _; rfl)))
  | with_reducible refine op_pow64 ?_
  | with_reducible refine cop_gt ⟨_, rfl, ?_⟩
  | with_reducible refine aw_Subscript ?_
  | ((with_reducible refine aw_CallName ?k1 ?k2 ?_); (case k1 => rfl); (case k2 => rfl))
  | ((with_reducible show ite _ _ _); (first | (refine (if_neg (by decide)).mpr ?_) | (refine (if_pos (by decide)).mpr ?_)))
  | with_reducible refine ce_builtin ?_
  | with_reducible refine ce_type ?_
  | with_reducible refine ce_fn (by assumption) ?_
  | (with_reducible show awArgs _ _ _ _ _ _ _ _ _; unfold awArgs)
  | (with_reducible show awKws _ _ _ _ _ _ _ _ _; unfold awKws)
  | (with_reducible show awT _ _ _ _ _ _ _ _ _; dsimp only [awT])
  | (with_reducible show awPart _ _ _ _ _ _ _ _ _; dsimp only [awPart])
  | (with_reducible show ∃ i, Value.int _ 0 = Value.int i 0 ∧ _; refine ⟨_, rfl, ?_⟩)
  | dsimp only))
section
namespace Mine
structure LawAt (A : Around) (fr : Fm) : Prop where
  F : FrOf fr (dScope (topStmt 21)) allOwn
  room : A.depth + 20 < recursionLimit
  hh : A.handled = none
  frames : A.frames = some [fr.env]
  lf : fr.env.frame = some fr.env.locals
  units : A.units + 100 < cLine
  code : fr.env.code = .ref 194
  qual : fr.env.qual ++ "<lambda>" = "law.<locals>.<lambda>"
theorem sliceL_upto {xs : List Value} {k : Nat} : sliceL xs none (some (k : Int)) = xs.take k := by
  unfold sliceL clipAt
  simp only [Option.elim, List.drop_zero, Nat.sub_zero]
  rw [if_neg (by omega)]
  have e : (max 0 (min (k : Int) (xs.length : Int))).toNat = min k xs.length := by omega
  rw [e]
  rcases Nat.le_total k xs.length with q | q
  · rw [Nat.min_eq_left q]
  · rw [Nat.min_eq_right q, List.take_of_length_le (Nat.le_refl _), List.take_of_length_le q]
def fixedL : List Int := [160, 42, 37, 18, 83, 2607, 30, 104, 24, 28753]
theorem law_1 {C : Cx} (W : WOk C) {A : Around} {g : Heap} {fr : Fm} {E : Value → Shared → Prop} {hp : HP} {Q : Flow → LOC → HP → Prop} {sa : Addr} {xs : List Int} (LA : LawAt A fr) {vs : Array Value} {n : Nat} (ha : g.get? sa = some { cls := .type "list", data := .seq vs n }) (hvs : vs.toList.map nm = xs.map iv) (hsz : xs.length ≤ 63)
    (h : ∀ loc' p Dc Dn (cells ns : List Int), loc' "cells" = some (.ref Dc) → p Dc = some (.list (cells.map iv)) → loc' "numbers" = some (.ref Dn) → p Dn = some (.list (ns.map iv)) → cells.length = 10 → ns.length = 10 → (∀ z ∈ ns, 0 ≤ z ∧ z < 262144) → Sub hp p → awf C A g fr E (execs ((dBody (topStmt 21)).drop 4) fr.env) loc' p Q) :
    awf C A g fr E (execs (dBody (topStmt 21)) fr.env) (bindLoc [("script", .ref sa)] fun _ => none) hp Q := by
  obtain ⟨F, hroom, hh, hfrm, hlf, hun, hcode, hqual⟩ := LA
  have henum := W.enumerate
  have hsum := W.sum
  unfold bindLoc bindLoc
  refine aw_execs_cons ?_
  walk_at "kl"
  refine aw_SliceG (fun _ _ => rfl) ?_
  repeat' walk_at "kl"
  refine ⟨sa, vs, n, _, rfl, ha, hvs, by rw [List.length_map]; omega, fun c hc => ?_⟩
  have hc1 : hset hp c (.list (sliceL (xs.map iv) none (some ((60 : Nat) : Int)))) c = some (.list ((xs.take 60).map iv)) := by rw [hset_eq, sliceL_upto, List.map_take]
  refine comp_map (xs.take 60) (fun x => [iv x]) (fun x => iv (x % 1000000)) (it_ints hh hc1 ⟨rfl, by rw [List.length_take]; omega, ?elt, ?done⟩)
  case elt =>
    intro x hx g₃ fr₃ E₃ hF₃
    dsimp only [tgtNames, setAll]
    repeat' walk_at "kl"
    exact ⟨rfl, Sub.rfl, rfl⟩
  case done =>
    intro T hT
    obtain ⟨told, htold⟩ : ∃ told : List Int, told = (xs.take 60).map (· % 1000000) := ⟨_, rfl⟩
    have hT1 : hset (hset hp c (.list (sliceL (xs.map iv) none (some ((60 : Nat) : Int))))) T (.list ((xs.take 60).map fun x => iv (x % 1000000))) T = some (.list (told.map iv)) := by rw [hset_eq, htold, List.map_map]; rfl
    have hs1 : Sub hp (hset (hset hp c (.list (sliceL (xs.map iv) none (some ((60 : Nat) : Int))))) T (.list ((xs.take 60).map fun x => iv (x % 1000000)))) := (Sub.set hc).trans (Sub.set hT)
    have htl : told.length ≤ 60 := by rw [htold, List.length_map, List.length_take]; omega
    have htb : ∀ z ∈ told, 0 ≤ z ∧ z < 1000000 := fun z hz => by
      rw [htold] at hz
      obtain ⟨y, _, rfl⟩ := List.mem_map.mp hz
      omega
    show awf _ _ _ _ _ _ _ (hset (hset hp c (.list (sliceL (xs.map iv) none (some ((60 : Nat) : Int))))) T _) _
    generalize hset (hset hp c (.list (sliceL (xs.map iv) none (some ((60 : Nat) : Int))))) T (.list ((xs.take 60).map fun x => iv (x % 1000000))) = p₁ at hT1 hs1 ⊢
    repeat' walk_at "kl"
    refine ⟨by simp, fun D hD => ?_⟩
    have hD1 : hset p₁ D (.list [iv 160, iv 42, iv 37, iv 18, iv 83, iv 2607, iv 30, iv 104, iv 24, iv 28753]) D = some (.list (fixedL.map iv)) := hset_eq ..
    repeat' walk_at "kl"
    refine onCall_mono (it_enum hh hD1 ?en) fun v l p hz => comp_map fixedL.zipIdx (fun z => [iv z.2, iv z.1]) (fun z => iv (z.1 + (pickNums told (some (z.2 : Int)) none (some 10)).sum)) hz
    case en =>
      refine ⟨by rw [List.zipIdx_map, List.map_map]; rfl, by decide, ?elt2, ?done2⟩
      case elt2 =>
        intro z hz g₃ fr₃ E₃ hF₃
        obtain ⟨cell, k⟩ := z
        dsimp only [tgtNames, setAll]
        repeat' walk_at "kl"
        refine ⟨T, told, rfl, hset_of hD hT1, by omega, by decide, fun c₂ hc₂ => ?_⟩
        repeat' walk_at "kl"
        refine call_sum hh (hset_eq ..) ?_
        repeat' walk_at "kl"
        exact ⟨rfl, Sub.set hc₂, rfl⟩
      case done2 =>
        intro D₂ hD₂
        obtain ⟨cells, hcells⟩ : ∃ cells : List Int, cells = fixedL.zipIdx.map fun z => z.1 + (pickNums told (some (z.2 : Int)) none (some 10)).sum := ⟨_, rfl⟩
        have hC1 : hset (hset p₁ D (.list [iv 160, iv 42, iv 37, iv 18, iv 83, iv 2607, iv 30, iv 104, iv 24, iv 28753])) D₂ (.list (fixedL.zipIdx.map fun z => iv (z.1 + (pickNums told (some (z.2 : Int)) none (some 10)).sum))) D₂ = some (.list (cells.map iv)) := by rw [hset_eq, hcells, List.map_map]; rfl
        have hs2 : Sub p₁ (hset (hset p₁ D (.list [iv 160, iv 42, iv 37, iv 18, iv 83, iv 2607, iv 30, iv 104, iv 24, iv 28753])) D₂ (.list (fixedL.zipIdx.map fun z => iv (z.1 + (pickNums told (some (z.2 : Int)) none (some 10)).sum)))) := (Sub.set hD).trans (Sub.set hD₂)
        have hcl : cells.length = 10 := by rw [hcells, List.length_map]; rfl
        show awf _ _ _ _ _ _ _ (hset (hset p₁ D _) D₂ _) _
        generalize hset (hset p₁ D (.list [iv 160, iv 42, iv 37, iv 18, iv 83, iv 2607, iv 30, iv 104, iv 24, iv 28753])) D₂ (.list (fixedL.zipIdx.map fun z => iv (z.1 + (pickNums told (some (z.2 : Int)) none (some 10)).sum))) = p₂ at hC1 hs2 ⊢
        clear hcells
        repeat' walk_at "kl"
        refine comp_map cells (fun x => [iv x]) (fun x => iv (x % 262144)) (it_ints hh hC1 ⟨rfl, by omega, ?elt3, ?done3⟩)
        case elt3 =>
          intro x hx g₃ fr₃ E₃ hF₃
          dsimp only [tgtNames, setAll]
          repeat' walk_at "kl"
          exact ⟨rfl, Sub.rfl, rfl⟩
        case done3 =>
          intro D₃ hD₃
          obtain ⟨ns, hns⟩ : ∃ ns : List Int, ns = cells.map (· % 262144) := ⟨_, rfl⟩
          have hN1 : hset p₂ D₃ (.list (cells.map fun x => iv (x % 262144))) D₃ = some (.list (ns.map iv)) := by rw [hset_eq, hns, List.map_map]; rfl
          have hs3 : Sub p₂ (hset p₂ D₃ (.list (cells.map fun x => iv (x % 262144)))) := Sub.set hD₃
          generalize hset p₂ D₃ (.list (cells.map fun x => iv (x % 262144))) = p₃ at hN1 hs3 ⊢
          have hnl : ns.length = 10 := by rw [hns, List.length_map, hcl]
          have hnb : ∀ z ∈ ns, 0 ≤ z ∧ z < 262144 := fun z hz => by
            rw [hns] at hz
            obtain ⟨y, _, rfl⟩ := List.mem_map.mp hz
            omega
          have hC3 := hs3 _ _ hC1
          refine (?_ : awf C A g fr E (execs ((dBody (topStmt 21)).drop 4) fr.env) _ _ _)
          refine h _ p₃ D₂ D₃ cells ns ?_ hC3 ?_ hN1 hcl hnl hnb (hs1.trans (hs2.trans hs3))
          · walk_at "loc"
          · walk_at "loc"
end Mine
end
section
namespace Mine
def spanOf (x : Int) : Nat × Nat := ((x % 16).toNat, (x % 16 + 1 + x / 16 % 8).toNat)
theorem spanOf_ok (x : Int) : (spanOf x).1 < (spanOf x).2 ∧ (spanOf x).1 ≤ 15 ∧ (spanOf x).2 ≤ 23 := by unfold spanOf; dsimp only; omega
def cntOn (ps : List (Nat × Nat)) (a : Nat) : Nat := ps.countP fun v => decide (v.1 ≤ a ∧ a < v.2)
theorem cntOn_fm {ps : List (Nat × Nat)} {a : Nat} : (ps.filterMap fun v => if ((v.1 : Int) ≤ a ∧ (a : Int) < v.2) then some (iv 1) else none).length = cntOn ps a := by
  unfold cntOn
  induction ps with
  | nil => rfl
  | cons v r ih =>
    rw [List.filterMap_cons, List.countP_cons]
    by_cases q : (v.1 : Int) ≤ a ∧ (a : Int) < v.2
    · rw [if_pos q, show decide (v.1 ≤ a ∧ a < v.2) = true from decide_eq_true (by omega), if_pos rfl]
      dsimp only
      rw [List.length_cons, ih]
    · rw [if_neg q, show decide (v.1 ≤ a ∧ a < v.2) = false from decide_eq_false (by omega), if_neg (by decide)]
      dsimp only
      rw [ih]; rfl
theorem sameV_ints {p : HP} {xs : List Int} : ∀ (i : Nat) v w, (xs.map iv)[i]? = some v → (xs.map iv)[i]? = some w → SameV p v w := fun i v w a b => by
  rw [a] at b; injection b with b; subst b
  rw [List.getElem?_map] at a
  obtain ⟨x, _, rfl⟩ := Option.map_eq_some_iff.mp a
  exact .inl ⟨.inl ⟨x, rfl⟩, rfl⟩
theorem marks_slice {base : Nat} (hb : base < 30) : sliceL ((List.range 32).map fun k => Value.str (word k) 0) (some (base : Int)) (some ((base : Int) + 3)) = [base, base + 1, base + 2].map fun k => Value.str (word k) 0 := by
  unfold sliceL
  simp only [Option.elim, List.length_map, List.length_range]
  have e1 : clipAt 32 (base : Int) = base := by unfold clipAt; rw [if_neg (by omega)]; omega
  have e2 : clipAt 32 ((base : Int) + 3) = base + 3 := by unfold clipAt; rw [if_neg (by omega)]; omega
  rw [e1, e2, ← List.map_drop, ← List.map_take]
  congr 1
  have : ∀ b < 30, ((List.range 32).drop b).take (b + 3 - b) = [b, b + 1, b + 2] := by decide +kernel
  exact this base hb
theorem law_2 {C : Cx} (W : WOk C) (hstop : Glb C "StopIteration" (.type "StopIteration")) {A : Around} {g : Heap} {fr : Fm} {E : Value → Shared → Prop} {loc : LOC} {hp : HP} {Q : Flow → LOC → HP → Prop} {Dc Dn : Addr} {cells ns : List Int} (LA : LawAt A fr)
    (l1 : loc "cells" = some (.ref Dc)) (l2 : loc "numbers" = some (.ref Dn)) (hc : hp Dc = some (.list (cells.map iv))) (hn : hp Dn = some (.list (ns.map iv))) (hcl : cells.length = 10) (hnl : ns.length = 10) (hnb : ∀ z ∈ ns, 0 ≤ z ∧ z < 262144)
    (h : ∀ loc' p (S₁ : Addr) (sts : List Addr) (ps : List (Nat × Nat)) (full base : Nat) (head : Int) (Dw Dm : Addr), loc' "spans" = some (.ref S₁) → loc' "fullest" = some (iv full) → loc' "base" = some (iv base) → loc' "head" = some (iv head) → loc' "names" = some (.ref Dw) → loc' "marks" = some (.ref Dm) →
      Pairs p S₁ sts ps → ps.length = 10 → (∀ v ∈ ps, v.1 < v.2 ∧ v.1 ≤ 15 ∧ v.2 ≤ 23) → (∃ v ∈ ps, cntOn ps v.1 = full) → (∀ v ∈ ps, cntOn ps v.1 ≤ full) → base < 30 → 1 ≤ head ∧ head ≤ 3 → p Dw = some (.list ((List.range 32).map fun k => .str (word k) 0)) → p Dm = some (.list ([base, base + 1, base + 2].map fun k => .str (word k) 0)) → Sub hp p →
      awf C A g fr E (execs ((dBody (topStmt 21)).drop 11) fr.env) loc' p Q) :
    awf C A g fr E (execs ((dBody (topStmt 21)).drop 4) fr.env) loc hp Q := by
  obtain ⟨F, hroom, hh, hfrm, hlf, hun, hcode, hqual⟩ := LA
  have hmax := W.max
  have hlen := W.len
  have hread := W.gRead
  obtain ⟨pmR, FR⟩ := W.fRead
  refine aw_execs_cons ?_
  repeat' walk_at "kl"
  refine law_read_walk W hstop (by omega) hh hfrm hlf F.k hn hnl hnb fun D p₁ hs1 hD => ?_
  have hn1 := hs1 _ _ hn
  have hc1 := hs1 _ _ hc
  repeat' walk_at "kl"
  refine cop_ne_lists hD hn1 rfl sameV_ints (by omega) ⟨_, rfl, ?_⟩
  rw [if_neg Bool.false_ne_true]
  repeat' walk_at "kl"
  refine comp_new ns (fun x => [iv x]) (fun x => .tuple [iv (x % 16), iv (x % 16 + 1 + x / 16 % 8)]) (it_ints hh hD ⟨rfl, by omega, fun p' hs => hs _ _ hD, ?elt, ?done⟩)
  case elt =>
    intro x hx g₃ fr₃ E₃ p₃ hF₃ hs₃
    dsimp only [tgtNames, setAll]
    repeat' walk_at "kl"
    exact ⟨by simp, fun T hT => ⟨rfl, T, rfl, hT, Sub.set hT, hset_eq ..⟩⟩
  case done =>
    intro S₁ sts p₂ hl₂ hnd₂ ht₂ hn₂ hs₂ hS₂
    obtain ⟨ps, hps⟩ : ∃ ps, ps = ns.map spanOf := ⟨_, rfl⟩
    have hP : Pairs (hset p₂ S₁ (.list (sts.map .ref))) S₁ sts ps := ⟨hset_eq .., by rw [hl₂, hps, List.length_map], fun k T v a b => by
      rw [hps, List.getElem?_map] at b
      obtain ⟨x, hx, rfl⟩ := Option.map_eq_some_iff.mp b
      rw [hset_of hS₂ (ht₂ k T x a hx)]
      unfold spanOf
      rw [show (((x % 16).toNat : Nat) : Int) = x % 16 by omega, show (((x % 16 + 1 + x / 16 % 8).toNat : Nat) : Int) = x % 16 + 1 + x / 16 % 8 by omega]⟩
    have hs2 : Sub p₁ (hset p₂ S₁ (.list (sts.map .ref))) := hs₂.trans (Sub.set hS₂)
    generalize hset p₂ S₁ (.list (sts.map .ref)) = p₃ at hP hs2 ⊢
    have hpl : ps.length = 10 := by rw [hps, List.length_map, hnl]
    have hpo : ∀ v ∈ ps, v.1 < v.2 ∧ v.1 ≤ 15 ∧ v.2 ≤ 23 := fun v hv => by
      rw [hps] at hv
      obtain ⟨x, _, rfl⟩ := List.mem_map.mp hv
      exact spanOf_ok x
    have hC3 := hs2 _ _ hc1
    repeat' walk_at "kl"
    refine comp_map ps (fun v => [iv v.1, iv v.2]) (fun v => iv (cntOn ps v.1)) (it_Pairs hh hP fun need hneed => ⟨rfl, by omega, ?elt2, ?done2⟩)
    case elt2 =>
      intro x hx g₃ fr₃ E₃ hF₃
      dsimp only [tgtNames, setAll]
      repeat' walk_at "kl"
      refine comp_pure ps (fun v => [iv v.1, iv v.2]) (fun v => if ((v.1 : Int) ≤ x.1 ∧ (x.1 : Int) < v.2) then some (iv 1) else none) (it_Pairs hh hP fun need' hneed' => ⟨rfl, by omega, ?elt3, ?done3⟩)
      case elt3 =>
        intro y hy g₄ fr₄ E₄ hF₄
        dsimp only [tgtNames, setAll]
        repeat' walk_at "kl"
        by_cases h1 : (y.1 : Int) ≤ x.1
        · rw [if_pos (by simpa using h1)]
          repeat' walk_at "kl"
          refine ⟨rfl, Sub.rfl, ?_⟩
          by_cases h2 : (x.1 : Int) < y.2
          · rw [if_pos (by simpa using h2)]
            intro g₅ E₅
            repeat' walk_at "kl"
            exact ⟨rfl, Sub.rfl, if_pos ⟨h1, h2⟩⟩
          · rw [if_neg (by simpa using h2)]
            exact if_neg fun h => h2 h.2
        · rw [if_neg (by simpa using h1)]
          refine ⟨rfl, Sub.rfl, ?_⟩
          rw [if_neg (by decide)]
          exact if_neg fun h => h1 h.1
      case done3 =>
        intro D₃ hD₃
        repeat' walk_at "kl"
        have hcle : cntOn ps x.1 ≤ 10 := by rw [← hpl]; exact List.countP_le_length
        refine call_len_list' (hset_eq _ _ _) (by rw [cntOn_fm, sizeLine_eq]; omega) ⟨rfl, Sub.set hD₃, ?_⟩
        rw [cntOn_fm]
    case done2 =>
      intro D₂ hD₂
      repeat' walk_at "kl"
      refine call_max (ns := ps.map fun v => (cntOn ps v.1 : Int)) hh (by rw [hset_eq, List.map_map]; rfl) ?_ fun M hM hMx => ?_
      · intro e
        have := List.map_eq_nil_iff.mp e
        rw [this] at hpl; cases hpl
      obtain ⟨v₀, hv₀, rfl⟩ := List.mem_map.mp hM
      have hs3 : Sub p₃ (hset p₃ D₂ (.list (ps.map fun v => iv (cntOn ps v.1)))) := Sub.set hD₂
      generalize hset p₃ D₂ (.list (ps.map fun v => iv (cntOn ps v.1))) = p₄ at hs3 ⊢
      have hC4 := hs3 _ _ hC3
      have hP4 := hP.mono hs3
      repeat' walk_at "kl"
      refine sub_int (by intro _ _; with_unfolding_all rfl) hC4 (by decide) (by omega) (by omega) ?_
      repeat' walk_at "kl"
      refine sub_int (by intro _ _; with_unfolding_all rfl) hC4 (by decide) (by omega) (by omega) ?_
      repeat' walk_at "kl"
      refine ⟨by simp, fun T hT => ⟨T, _, _, rfl, hset_eq .., ?_⟩⟩
      have hs4 := Sub.set (o := .tuple [iv (cells.getD (9 : Int).toNat 0 / 4096 % 30), iv (1 + cells.getD (9 : Int).toNat 0 / 122880 % 3)]) hT
      show awf _ _ _ _ _ _ _ (hset p₄ T (.tuple [iv (cells.getD (9 : Int).toNat 0 / 4096 % 30), iv (1 + cells.getD (9 : Int).toNat 0 / 122880 % 3)])) _
      generalize hset p₄ T (.tuple [iv (cells.getD (9 : Int).toNat 0 / 4096 % 30), iv (1 + cells.getD (9 : Int).toNat 0 / 122880 % 3)]) = p₅ at hs4 ⊢
      obtain ⟨base, hbase, hb30⟩ : ∃ base : Nat, cells.getD (9 : Int).toNat 0 / 4096 % 30 = base ∧ base < 30 := ⟨(cells.getD (9 : Int).toNat 0 / 4096 % 30).toNat, by omega, by omega⟩
      obtain ⟨head, hhead, hh3⟩ : ∃ head : Int, 1 + cells.getD (9 : Int).toNat 0 / 122880 % 3 = head ∧ 1 ≤ head ∧ head ≤ 3 := ⟨_, rfl, by omega, by omega⟩
      rw [hbase, hhead]
      have hP5 := hP4.mono hs4
      have hnam := W.gNames
      obtain ⟨pmN, FN⟩ := W.fNames
      repeat' walk_at "kl"
      refine law_names_ok W (by omega) hh fun Dw p₆ hs6 hDw hDwp => ?_
      have hP6 := hP5.mono hs6
      repeat' walk_at "kl"
      refine ⟨Dw, _, rfl, hDwp, by simp, fun Dm hDm => ?_⟩
      rw [marks_slice hb30]
      refine h _ _ S₁ sts ps (cntOn ps v₀.1) base head Dw Dm ?_ ?_ ?_ ?_ ?_ ?_ (hP6.mono (Sub.set hDm)) hpl hpo ⟨v₀, hv₀, rfl⟩ (fun v hv => by have := hMx _ (List.mem_map.mpr ⟨v, hv, rfl⟩); omega) hb30 hh3 (hset_of hDm hDwp) (hset_eq ..)
        (hs1.trans (hs2.trans (hs3.trans (hs4.trans (hs6.trans (Sub.set hDm))))))
      all_goals walk_at "loc"
end Mine
end
section
namespace Mine
section
variable {C : Cx} {A : Around} {g : Heap} {fr : Fm} {E : Value → Shared → Prop} {loc : LOC} {hp : HP} {sc : Scope} {scope : Scope}
theorem comp_newP {β : Type} {target elt : Expr} {names : List Str} {x : Value} {Q : Value → LOC → HP → Prop} (xs : List β) (m : β → List Value) (P : HP → Addr → Prop) (hmono : ∀ p p' T, P p T → Sub p p' → P p' T) (hne : ∀ p T, P p T → p T ≠ none)
    (h : onIt C A target names x loc hp fun vss need l p => vss = xs.map m ∧ xs.length ≤ 100000 ∧ (∀ p', Sub p p' → need p') ∧
      (∀ x ∈ xs, ∀ g' fr' E' p', FrOf fr' (relabelS scope sc) (ownS scope) → Sub p p' → awv C A g' fr' E' (eval elt fr'.env) (setAll names (m x) (compLoc scope l)) p' fun y l'' p'' => l'' = setAll names (m x) (compLoc scope l) ∧ ∃ T, y = .ref T ∧ p' T = none ∧ Sub p' p'' ∧ P p'' T) ∧
      ∀ D (ts : List Addr) p', ts.length = xs.length → ts.Nodup → (∀ T ∈ ts, P p' T) → (∀ T ∈ ts, p T = none) → Sub p p' → p' D = none → Q (.ref D) l (hset p' D (.list (ts.map .ref)))) :
    CompTo C A fr sc scope target elt [] names x loc hp Q := by
  obtain ⟨vss, need, r₁, p₀, a, hnd, c, d, rfl, h1, h0, h2, h3⟩ := h
  refine ⟨_, need, r₁, p₀, a, hnd, c, d, by rwa [List.length_map], fun i ys p => Sub p₀ p ∧ i ≤ xs.length ∧ ∃ ts : List Addr, ys = ts.map .ref ∧ ts.length = i ∧ ts.Nodup ∧ (∀ T ∈ ts, p₀ T = none) ∧ ∀ T ∈ ts, P p T,
    ⟨Sub.rfl, Nat.zero_le _, [], rfl, rfl, List.nodup_nil, (fun T h => by cases h), fun T h => by cases h⟩, fun i ys p e => h0 p e.1, ?_, ?_⟩
  · rintro i vs ys p g' fr' E' hv ⟨hs, hi, ts, rfl, hl, hnod, hp0, hts⟩ hF g'' E''
    rw [List.getElem?_map] at hv
    obtain ⟨x, hx, rfl⟩ := Option.map_eq_some_iff.mp hv
    rw [if_pos rfl]
    refine aw_mono (h2 x (List.mem_of_getElem? hx) g'' fr' E'' p hF hs) fun y l'' p'' ⟨e1, T, e2, e3, e4, e5⟩ => ⟨e1, hs.trans e4, (List.getElem?_eq_some_iff.mp hx).1, ts ++ [T], ?_, by simp [hl], ?_, ?_, ?_⟩
    · rw [e2]; simp
    · refine List.nodup_append.mpr ⟨hnod, by simp, fun u hu v hv' => ?_⟩
      rcases List.mem_cons.mp hv' with rfl | h
      · rintro rfl; exact hne _ _ (hts u hu) e3
      · cases h
    · intro U hU
      rcases List.mem_append.mp hU with h | h
      · exact hp0 U h
      · rcases List.mem_cons.mp h with rfl | h
        · exact hs.none e3
        · cases h
    · intro U hU
      rcases List.mem_append.mp hU with h | h
      · exact hmono _ _ _ (hts U h) e4
      · rcases List.mem_cons.mp h with rfl | h
        · exact e5
        · cases h
  · rintro D ys p ⟨hs, hi, ts, rfl, hl, hnod, hp0, hts⟩ hD
    rw [List.length_map] at hl
    exact h3 D ts p hl hnod hts hp0 hs hD
theorem rows_empty {p : HP} {D : Addr} {ts : List Addr} {n : Nat} (hl : ts.length = n) (hnd : ts.Nodup) (hD : p D = some (.list (ts.map .ref))) (ht : ∀ T ∈ ts, p T = some (.list [])) : Rows p D ts (List.replicate n []) :=
  ⟨hD, by simp [hl], hnd, fun k T r a b => by
    rw [List.getElem?_replicate] at b
    split at b
    · cases b; exact ht T (List.mem_of_getElem? a)
    · cases b⟩
theorem empties (hh : A.handled = none) {n : Nat} {x : Str} {px pl : Pos} {Q : Value → LOC → HP → Prop} (hn : n ≤ 1000) (h : ∀ D ts p', Rows p' D ts (List.replicate n []) → Sub hp p' → (∀ T ∈ ts, hp T = none) → hp D = none → Q (.ref D) loc p') :
    onCall C A g fr E (.type "range") [iv n] [] loc hp fun y l p => CompTo C A fr sc scope (.Name x px) (.List [] pl) [] [x] y l p Q :=
  call_range1 fun r hr => comp_new (rangeL 0 n) (fun v => [iv v]) (fun _ => .list []) (it_range hh hr (by decide) (by omega) ⟨rfl, by simp [rangeL]; omega, fun _ _ => trivial, fun y hy g' fr' E' p' hF hs => aw_List rfl (by
      show awArgs _ _ _ _ _ _ _ _ _
      unfold awArgs
      exact ⟨by simp, fun T hT => ⟨rfl, T, rfl, hT, Sub.set hT, hset_eq ..⟩⟩),
    fun D ts p' hl hnd hts h0 hs hD => h D ts _ (rows_empty (by rw [hl]; simp [rangeL]) hnd (hset_eq ..) fun T hT => by
      obtain ⟨k, hk⟩ := List.mem_iff_getElem?.mp hT
      have hk' : k < (rangeL 0 n).length := by rw [← hl]; exact (List.getElem?_eq_some_iff.mp hk).1
      exact hset_of hD (hts k T _ hk (List.getElem?_eq_getElem hk'))) (hs.trans (Sub.set hD)) h0 (hs.none hD)⟩)
theorem aw_assignQuad (hh : A.handled = none) {T : Addr} {a b c d : Value} {x y z u : Str} {px py pz pu pos : Pos} {k} {Q : Unit → LOC → HP → Prop} (hT : hp T = some (.tuple [a, b, c, d])) (hx : Sto fr x) (hy : Sto fr y) (hz : Sto fr z) (hu : Sto fr u) (h : Q () (lset (lset (lset (lset loc x a) y b) z c) u d) hp) :
    aw C A g fr E (assign (.Tuple [.Name x px, .Name y py, .Name z pz, .Name u pu] k pos) fr.env (.ref T)) loc hp Q := fun s R S => by
  obtain ⟨vs, n, e, q⟩ := R.tuple hT
  have h1 : vs.toList.length = 4 := by simpa using congrArg List.length q
  match hv : vs.toList, h1 with
  | [v1, v2, v3, v4], _ =>
    rw [hv] at q
    injection q with q1 q
    injection q with q2 q
    injection q with q3 q
    injection q with q4 _
    subst q1; subst q2; subst q3; subst q4
    refine wpAny_assign_Tuple hh (items := vs) ⟨_, e, rfl, n, rfl⟩ (by rw [← Array.length_toList, hv]; rfl) rfl fun h' hx' => ?_
    have R' := R.keeps (h' := h') fun b o e => hx' b o (Nat.ne_of_lt (Heap.lt_size e)) e
    rw [hv]
    show wpAny _ A (do holding [v2, v3, v4] (assign (.Name x px) fr.env v1); do holding [v3, v4] (assign (.Name y py) fr.env v2); do holding [v4] (assign (.Name z pz) fr.env v3); do holding [] (assign (.Name u pu) fr.env v4); pure ()) _ _ _
    have := aw_bind (C := C) (A := A) (g := g) (fr := fr) (E := E) (loc := loc) (hp := hp) (Q := Q) (aw_holding (vs := [v2, v3, v4]) (m := assign (.Name x px) fr.env v1)
      (Q := fun _ l p => aw C A g fr E (do holding [v3, v4] (assign (.Name y py) fr.env v2); do holding [v4] (assign (.Name z pz) fr.env v3); do holding [] (assign (.Name u pu) fr.env v4); pure ()) l p Q)
      (aw_assignName hx (aw_bind (aw_holding (aw_assignName hy (aw_bind (aw_holding (aw_assignName hz (aw_bind (aw_holding (aw_assignName hu (aw_pure h))))))))))))
    exact this _ R' S
theorem aw_AssignQuad (hh : A.handled = none) {ow : Str → Bool} (F : FrOf fr sc ow) {x y z u : Str} {px py pz pu tp pos : Pos} {k} {value : Expr} {Q : Flow → LOC → HP → Prop}
    (hs : swapsWithSole [.Tuple [.Name x px, .Name y py, .Name z pz, .Name u pu] k tp] value pos.line fr.env = pure false)
    (hw : swappedStores [.Tuple [.Name x px, .Name y py, .Name z pz, .Name u pu] k tp] value (mkEnv sc) = pure none) (hx : Sto fr x) (hy : Sto fr y) (hz : Sto fr z) (hu : Sto fr u)
    (h : awv C A g fr E (eval value fr.env) loc hp fun v l p => ∃ T a b c d, v = .ref T ∧ p T = some (.tuple [a, b, c, d]) ∧ Q .next (lset (lset (lset (lset l x a) y b) z c) u d) p) :
    awf C A g fr E (exec (.Assign [.Tuple [.Name x px, .Name y py, .Name z pz, .Name u pu] k tp] value pos) fr.env) loc hp Q := by
  refine aw_congr (PySem.exec_Assign_arm ..) (aw_bind (aw_standAt ?_))
  rw [hs]
  refine aw_bind (aw_pure ?_)
  rw [if_neg (by decide)]
  refine aw_bind (aw_mono h fun v l p ⟨T, a, b, c, d, e, hT, hQ⟩ => ?_)
  rw [swapped_eq F, hw]
  refine aw_bind (aw_pure ?_)
  have := nm_ref e; subst this
  show aw C A g fr E (do assignAll (.ref T) [assign (.Tuple [.Name x px, .Name y py, .Name z pz, .Name u pu] k tp) fr.env]; pure Flow.next) l p _
  exact aw_bind (show aw C A g fr E (assign (.Tuple [.Name x px, .Name y py, .Name z pz, .Name u pu] k tp) fr.env (.ref T)) l p _ from aw_assignQuad hh hT hx hy hz hu (aw_pure (a := Flow.next) hQ))
end
theorem kp_cls {C : Cx} (A3 : AccW3 C) {A : Around} {g : Heap} {fr : Fm} {E : Value → Shared → Prop} {loc : LOC} {hp : HP} : Kp C A g fr E (.ref 151) loc hp := fun s R S => by
  obtain ⟨K, X, _, A2⟩ := A3.K
  obtain ⟨oc, od, cd, sl, e, _⟩ := A2.obj
  have hk : ∀ b o, C.H₀.get? b = some o → s.heap.get? b = some o := fun b o e => R.keep _ _ (R.base _ _ e)
  have ho := hk _ _ (X _ _ e)
  unfold keeperOf
  refine wpAny_bind (wpAny_load ho ?_)
  dsimp only
  refine wpAny_bind ((looks_specialIn (X.keeps hk) A2.call).here ?_)
  exact wpAny_pure ⟨S, loc, hp, R, rfl, rfl⟩
/-! ### who is who: a colour for each place that is changed -/
def roleE (role : Addr → Nat) (S : List Addr) (c : Nat) : Addr → Nat := fun b => if b ∈ S then c else role b
theorem roleE_in {role : Addr → Nat} {S : List Addr} {c : Nat} {b : Addr} (h : b ∈ S) : roleE role S c b = c := if_pos h
theorem roleE_out {role : Addr → Nat} {S : List Addr} {c : Nat} {b : Addr} (h : b ∉ S) : roleE role S c b = role b := if_neg h
theorem not_fresh {p : HP} {S : List Addr} {b : Addr} (hS : ∀ T ∈ S, p T = none) (h : p b ≠ none) : b ∉ S := fun q => h (hS b q)
structure Lay (role : Addr → Nat) (Fix : HP) (lv ln fi la : Addr) (bts ets tts rts xts : List Addr) : Prop where
  lv : role lv = 1
  ln : role ln = 2
  fi : role fi = 3
  la : role la = 4
  bts : ∀ T ∈ bts, role T = 5
  ets : ∀ T ∈ ets, role T = 6
  tts : ∀ T ∈ tts, role T = 7
  rts : ∀ T ∈ rts, role T = 8
  xts : ∀ T ∈ xts, role T = 9
  fix : ∀ b o, Fix b = some o → role b = 0
  t192 : role 192 = 10
structure Fixed (Fix : HP) (bg en pl st th : Addr) (bts ets xts rts tts : List Addr) (full : Nat) : Prop where
  bg : Fix bg = some (.list (bts.map .ref))
  en : Fix en = some (.list (ets.map .ref))
  pl : Fix pl = some (.list (xts.map .ref))
  st : Fix st = some (.list (rts.map .ref))
  th : Fix th = some (.list (tts.map .ref))
  lb : bts.length = full
  le : ets.length = full
  lx : xts.length = 3 * full - 2
  lr : rts.length = 3 * full - 2
  lt : tts.length = 24
  nx : xts.Nodup
theorem Sub.ne {p q : HP} (h : Sub p q) {b : Addr} (e : p b ≠ Option.none) : q b ≠ Option.none := fun w => e (h.none w)
theorem not_old {p : HP} {S : List Addr} {b : Addr} (hS : ∀ T ∈ S, p T ≠ none) (h : p b = none) : b ∉ S := fun q => hS b q h
theorem lay_make {p0 p1 p2 p3 p4 p5 p6 p7 p8 p9 : HP} {bts ets xts rts tts : List Addr} {lv ln fi la : Addr} (s1 : Sub p0 p1) (s2 : Sub p1 p2) (s3 : Sub p2 p3) (s4 : Sub p3 p4) (s5 : Sub p4 p5) (s6 : Sub p5 p6) (s7 : Sub p6 p7) (s8 : Sub p7 p8)
    (f1 : ∀ T ∈ bts, p0 T = none) (f2 : ∀ T ∈ ets, p1 T = none) (f3 : ∀ T ∈ xts, p2 T = none) (f4 : ∀ T ∈ rts, p3 T = none) (f5 : ∀ T ∈ tts, p4 T = none) (f6 : p5 lv = none) (f7 : p6 ln = none) (f8 : p7 fi = none) (f9 : p8 la = none)
    (d1 : ∀ T ∈ bts, p1 T ≠ none) (d2 : ∀ T ∈ ets, p2 T ≠ none) (d3 : ∀ T ∈ xts, p3 T ≠ none) (d4 : ∀ T ∈ rts, p4 T ≠ none) (d5 : ∀ T ∈ tts, p5 T ≠ none) (d6 : p6 lv ≠ none) (d7 : p7 ln ≠ none) (d8 : p8 fi ≠ none) (h192 : p0 192 ≠ none) :
    ∃ role Fix, Lay role Fix lv ln fi la bts ets tts rts xts ∧ Sub Fix p9 ∧ (∀ b, b ∉ bts → b ∉ ets → b ∉ xts → b ∉ rts → b ∉ tts → b ∉ [lv] → b ∉ [ln] → b ∉ [fi] → b ∉ [la] → b ≠ 192 → Fix b = p9 b) := by
  have g6 : ∀ T ∈ [lv], p5 T = none := fun T h => by cases List.mem_singleton.mp h; exact f6
  have g7 : ∀ T ∈ [ln], p6 T = none := fun T h => by cases List.mem_singleton.mp h; exact f7
  have g8 : ∀ T ∈ [fi], p7 T = none := fun T h => by cases List.mem_singleton.mp h; exact f8
  have g9 : ∀ T ∈ [la], p8 T = none := fun T h => by cases List.mem_singleton.mp h; exact f9
  obtain ⟨role, hrole⟩ : ∃ role, role = roleE (roleE (roleE (roleE (roleE (roleE (roleE (roleE (roleE (fun b => if b = 192 then 10 else 0) bts 5) ets 6) xts 9) rts 8) tts 7) [lv] 1) [ln] 2) [fi] 3) [la] 4 := ⟨_, rfl⟩
  have c8 : ∀ b, p8 b ≠ none → b ∉ [la] := fun b h => not_fresh g9 h
  have c7 : ∀ b, p7 b ≠ none → b ∉ [la] ∧ b ∉ [fi] := fun b h => ⟨c8 b (s8.ne h), not_fresh g8 h⟩
  have c6 : ∀ b, p6 b ≠ none → b ∉ [la] ∧ b ∉ [fi] ∧ b ∉ [ln] := fun b h => ⟨(c7 b (s7.ne h)).1, (c7 b (s7.ne h)).2, not_fresh g7 h⟩
  have c5 : ∀ b, p5 b ≠ none → role b = roleE (roleE (roleE (roleE (roleE (fun b => if b = 192 then 10 else 0) bts 5) ets 6) xts 9) rts 8) tts 7 b := fun b h => by
    obtain ⟨z1, z2, z3⟩ := c6 b (s6.ne h)
    rw [hrole, roleE_out z1, roleE_out z2, roleE_out z3, roleE_out (not_fresh g6 h)]
  have c4 : ∀ b, p4 b ≠ none → role b = roleE (roleE (roleE (roleE (fun b => if b = 192 then 10 else 0) bts 5) ets 6) xts 9) rts 8 b := fun b h => by rw [c5 b (s5.ne h), roleE_out (not_fresh f5 h)]
  have c3 : ∀ b, p3 b ≠ none → role b = roleE (roleE (roleE (fun b => if b = 192 then 10 else 0) bts 5) ets 6) xts 9 b := fun b h => by rw [c4 b (s4.ne h), roleE_out (not_fresh f4 h)]
  have c2 : ∀ b, p2 b ≠ none → role b = roleE (roleE (fun b => if b = 192 then 10 else 0) bts 5) ets 6 b := fun b h => by rw [c3 b (s3.ne h), roleE_out (not_fresh f3 h)]
  have c1 : ∀ b, p1 b ≠ none → role b = roleE (fun b => if b = 192 then 10 else 0) bts 5 b := fun b h => by rw [c2 b (s2.ne h), roleE_out (not_fresh f2 h)]
  have c0 : ∀ b, p0 b ≠ none → role b = if b = 192 then 10 else 0 := fun b h => by rw [c1 b (s1.ne h), roleE_out (not_fresh f1 h)]
  refine ⟨role, fun b => if role b = 0 then p9 b else none, ⟨?_, ?_, ?_, ?_, fun T hT => ?_, fun T hT => ?_, fun T hT => ?_, fun T hT => ?_, fun T hT => ?_, fun b o e => ?_, ?_⟩, fun b o e => ?_, fun b b1 b2 b3 b4 b5 b6 b7 b8 b9 b0 => ?_⟩
  · obtain ⟨z1, z2, z3⟩ := c6 lv d6
    rw [hrole, roleE_out z1, roleE_out z2, roleE_out z3, roleE_in (.head _)]
  · obtain ⟨z1, z2⟩ := c7 ln d7
    rw [hrole, roleE_out z1, roleE_out z2, roleE_in (.head _)]
  · rw [hrole, roleE_out (c8 fi d8), roleE_in (.head _)]
  · rw [hrole, roleE_in (.head _)]
  · rw [c1 T (d1 T hT), roleE_in hT]
  · rw [c2 T (d2 T hT), roleE_in hT]
  · rw [c5 T (d5 T hT), roleE_in hT]
  · rw [c4 T (d4 T hT), roleE_in hT]
  · rw [c3 T (d3 T hT), roleE_in hT]
  · by_cases w : role b = 0
    · exact w
    · rw [if_neg w] at e; cases e
  · rw [c0 192 h192]; rfl
  · dsimp only at e
    by_cases w : role b = 0
    · rwa [if_pos w] at e
    · rw [if_neg w] at e; cases e
  · have : role b = 0 := by
      rw [hrole, roleE_out b9, roleE_out b8, roleE_out b7, roleE_out b6, roleE_out b5, roleE_out b4, roleE_out b3, roleE_out b2, roleE_out b1, if_neg b0]
    exact if_pos this
theorem law_3 {C : Cx} (W : WOk C) (A3 : AccW3 C) {A : Around} {g : Heap} {fr : Fm} {E : Value → Shared → Prop} {loc : LOC} {hp : HP} {Q : Flow → LOC → HP → Prop} {full : Nat} {head : Int} (LA : LawAt A fr)
    (l1 : loc "fullest" = some (iv full)) (l2 : loc "head" = some (iv head)) (hf : 1 ≤ full ∧ full ≤ 10) {o192 : AO} (h192 : hp 192 = some o192)
    (h : ∀ loc' p role Fix bg en pl st th lv ln fi la bts ets xts rts tts, Lay role Fix lv ln fi la bts ets tts rts xts → Sub Fix p → (∀ b o, b ≠ 192 → hp b = some o → Fix b = some o) → p 192 = some o192 → Fixed Fix bg en pl st th bts ets xts rts tts full →
      Rows p bg bts (List.replicate full []) → Rows p en ets (List.replicate full []) → (∀ T ∈ xts, Acc p T head []) → Rows p st rts (List.replicate (3 * full - 2) []) → Rows p th tts (List.replicate 24 []) → p lv = some (.list []) → p ln = some (.list []) → p fi = some (.list []) → p la = some (.list []) →
      (∀ y v, loc y = some v → y ∉ (["begins", "ends", "piles", "starts", "there", "levels", "lines", "firsts", "lasts"] : List Str) → loc' y = some v) →
      loc' "begins" = some (.ref bg) → loc' "ends" = some (.ref en) → loc' "piles" = some (.ref pl) → loc' "starts" = some (.ref st) → loc' "there" = some (.ref th) → loc' "levels" = some (.ref lv) → loc' "lines" = some (.ref ln) → loc' "firsts" = some (.ref fi) → loc' "lasts" = some (.ref la) →
      awf C A g fr E (execs ((dBody (topStmt 21)).drop 15) fr.env) loc' p Q) :
    awf C A g fr E (execs ((dBody (topStmt 21)).drop 11) fr.env) loc hp Q := by
  obtain ⟨F, hroom, hh, hfrm, hlf, hun, hcode, hqual⟩ := LA
  have hrange := W.range
  have hacc := W.gAcc
  refine aw_execs_cons ?_
  repeat' walk_at "kl"
  refine empties hh (by omega) fun bg bts p₁ hR1 hs1 hn1 hb1 => ?_
  repeat' walk_at "kl"
  refine empties hh (by omega) fun en ets p₂ hR2 hs2 hn2 hb2 => ?_
  repeat' walk_at "kl"
  refine ⟨by simp, fun T hT => ⟨T, _, _, rfl, hset_eq .., ?_⟩⟩
  repeat' walk_at "kl"
  refine op_mul (.of_left (by decide)) ?_
  repeat' walk_at "kl"
  refine call_range1 fun r hr => comp_newP (rangeL 0 (3 * full - 2)) (fun v => [iv v]) (fun p T => Acc p T head []) (fun p p' T h hs => h.mono hs) (fun p T ⟨d, e, _⟩ q => by rw [q] at e; cases e) (it_range hh hr (by decide) (by omega) ⟨rfl, by simp [rangeL]; omega, fun _ _ => trivial, ?elt, ?done⟩)
  case elt =>
    intro y hy g₃ fr₃ E₃ p₃ hF₃ hs₃
    dsimp only [tgtNames, setAll]
    repeat' walk_at "kl"
    intro f' ef
    have := nm_ref ef; subst this
    refine ⟨kp_cls A3, call_acc W A3 (by omega) fun x p₄ hx hA hs => ?_⟩
    exact ⟨rfl, x, rfl, hx, hs, hA⟩
  case done =>
    intro pl xts p₃ hlx hndx hax hnx hs3 hpl
    repeat' walk_at "kl"
    refine op_mul (.of_left (by decide)) ?_
    repeat' walk_at "kl"
    rw [show (3 : Int) * full - 2 = ((3 * full - 2 : Nat) : Int) by omega]
    refine empties hh (by omega) fun st rts p₄ hR4 hs4 hn4 hb4 => ?_
    repeat' walk_at "kl"
    refine ⟨by simp, fun T2 hT2 => ⟨T2, _, _, rfl, hset_eq .., ?_⟩⟩
    repeat' walk_at "kl"
    refine empties (n := 24) hh (by decide) fun th tts p₅ hR5 hs5 hn5 hb5 => ?_
    repeat' walk_at "kl"
    refine aw_AssignQuad hh F (by with_unfolding_all rfl) (by with_unfolding_all rfl) ?sx ?sy ?sz ?su ?_
    case sx => walk_at "sto"
    case sy => walk_at "sto"
    case sz => walk_at "sto"
    case su => walk_at "sto"
    repeat' walk_at "kl"
    refine ⟨by simp, fun lv hlv => ?_⟩
    repeat' walk_at "kl"
    refine ⟨by simp, fun ln hln => ?_⟩
    repeat' walk_at "kl"
    refine ⟨by simp, fun fi hfi => ?_⟩
    repeat' walk_at "kl"
    refine ⟨by simp, fun la hla => ?_⟩
    repeat' walk_at "kl"
    refine ⟨by simp, fun T3 hT3 => ⟨T3, _, _, _, _, rfl, hset_eq .., ?_⟩⟩
    have hrow : ∀ {p : HP} {a : Addr} {ts : List Addr} {n : Nat}, Rows p a ts (List.replicate n []) → (∀ T ∈ ts, p T ≠ none) ∧ a ∉ ts ∧ p a = some (.list (ts.map .ref)) ∧ ts.length = n := fun h => by
      refine ⟨fun T hT => ?_, fun hT => ?_, h.1, by rw [h.2.1, List.length_replicate]⟩
      · obtain ⟨k, hk⟩ := List.mem_iff_getElem?.mp hT
        have hk' := (List.getElem?_eq_some_iff.mp hk).1
        have := h.2.2.2 k T _ hk (List.getElem?_eq_getElem (by rw [← h.2.1]; exact hk'))
        rw [this]; simp
      · obtain ⟨k, hk⟩ := List.mem_iff_getElem?.mp hT
        exact h.ne hk rfl
    obtain ⟨r1a, r1b, r1c, r1d⟩ := hrow hR1
    obtain ⟨r2a, r2b, r2c, r2d⟩ := hrow hR2
    obtain ⟨r4a, r4b, r4c, r4d⟩ := hrow hR4
    obtain ⟨r5a, r5b, r5c, r5d⟩ := hrow hR5
    clear hrow
    have hax' : ∀ U ∈ xts, hset p₃ pl (.list (xts.map .ref)) U ≠ none := fun U hU => by
      obtain ⟨d, e, _⟩ := hax U hU
      rw [hset_of hpl e]; simp
    have sT := Sub.set (o := .tuple [.ref bg, .ref en]) hT
    have spl := Sub.set (o := .list (xts.map .ref)) hpl
    have sT2 := Sub.set (o := .tuple [.ref pl, .ref st]) hT2
    have slv := Sub.set (o := .list []) hlv
    have sln := Sub.set (o := .list []) hln
    have sfi := Sub.set (o := .list []) hfi
    have sla := Sub.set (o := .list []) hla
    have sT3 := Sub.set (o := .tuple [.ref lv, .ref ln, .ref fi, .ref la]) hT3
    have nlv := hset_eq p₅ lv (.list [])
    have nln := hset_eq (hset p₅ lv (.list [])) ln (.list [])
    have nfi := hset_eq (hset (hset p₅ lv (.list [])) ln (.list [])) fi (.list [])
    have nla := hset_eq (hset (hset (hset p₅ lv (.list [])) ln (.list [])) fi (.list [])) la (.list [])
    show awf _ _ _ _ _ _ _ (hset (hset (hset (hset (hset p₅ lv (.list [])) ln (.list [])) fi (.list [])) la (.list [])) T3 (.tuple [.ref lv, .ref ln, .ref fi, .ref la])) _
    generalize hset (hset (hset (hset (hset p₅ lv (.list [])) ln (.list [])) fi (.list [])) la (.list [])) T3 (.tuple [.ref lv, .ref ln, .ref fi, .ref la]) = p₁₀ at sT3 ⊢
    generalize hset (hset (hset (hset p₅ lv (.list [])) ln (.list [])) fi (.list [])) la (.list []) = p₉ at *
    generalize hset (hset (hset p₅ lv (.list [])) ln (.list [])) fi (.list []) = p₈ at *
    generalize hset (hset p₅ lv (.list [])) ln (.list []) = p₇ at *
    generalize hset p₅ lv (.list []) = p₆ at *
    have epl := hset_eq p₃ pl (.list (xts.map .ref))
    have hax2 : ∀ U ∈ xts, Acc (hset p₃ pl (.list (xts.map .ref))) U head [] := fun U hU => (hax U hU).mono spl
    have npl : ∀ U ∈ xts, U ≠ pl := fun U hU w => by
      obtain ⟨d, e, _⟩ := hax U hU
      rw [w, hpl] at e; cases e
    generalize hset p₂ T (.tuple [.ref bg, .ref en]) = q2 at *
    generalize hset p₃ pl (.list (xts.map .ref)) = q3 at *
    generalize hset p₄ T2 (.tuple [.ref pl, .ref st]) = q4 at *
    have s12 := hs2.trans sT
    have s23 : Sub q2 q3 := hs3.trans spl
    have s34 := hs4.trans sT2
    obtain ⟨role, Fix, LY, sF, hFix⟩ := lay_make (p9 := p₁₀) hs1 s12 s23 s34 hs5 slv sln sfi hn1 hn2 hnx hn4 hn5 hlv hln hfi hla r1a (fun U hU => sT.ne (r2a U hU)) hax' (fun U hU => sT2.ne (r4a U hU)) r5a (by rw [nlv]; simp) (by rw [nln]; simp) (by rw [nfi]; simp) (by rw [h192]; simp)
    have t6 : ∀ {b : Addr}, p₅ b ≠ none → b ∉ [lv] ∧ b ∉ [ln] ∧ b ∉ [fi] ∧ b ∉ [la] := fun {b} hb => by
      simp only [List.mem_singleton]
      exact ⟨fun w => hb (w ▸ hlv), fun w => slv.ne hb (w ▸ hln), fun w => sln.ne (slv.ne hb) (w ▸ hfi), fun w => sfi.ne (sln.ne (slv.ne hb)) (w ▸ hla)⟩
    have e192 : ∀ {b : Addr}, hp b = none → b ≠ 192 := fun {b} hb w => by rw [w, h192] at hb; cases hb
    have sub910 : Sub p₅ p₁₀ := slv.trans (sln.trans (sfi.trans (sla.trans sT3)))
    have s15 : Sub p₁ p₅ := s12.trans (s23.trans (s34.trans hs5))
    have s25 : Sub q2 p₅ := s23.trans (s34.trans hs5)
    have s35 : Sub q3 p₅ := s34.trans hs5
    have s45 : Sub q4 p₅ := hs5
    -- the five lists
    have kbg : Fix bg = some (.list (bts.map .ref)) := by
      have a0 : p₁ bg ≠ none := by rw [r1c]; simp
      obtain ⟨z1, z2, z3, z4⟩ := t6 (s15.ne a0)
      rw [hFix bg r1b (not_fresh hn2 a0) (not_fresh hnx (s12.ne a0)) (not_fresh hn4 (s23.ne (s12.ne a0))) (not_fresh hn5 (s34.ne (s23.ne (s12.ne a0)))) z1 z2 z3 z4 (e192 hb1)]
      exact sub910 _ _ (s15 _ _ r1c)
    have ken : Fix en = some (.list (ets.map .ref)) := by
      have a0 : q2 en ≠ none := sT.ne (by rw [r2c]; simp)
      obtain ⟨z1, z2, z3, z4⟩ := t6 (s25.ne a0)
      rw [hFix en (not_old r1a hb2) r2b (not_fresh hnx a0) (not_fresh hn4 (s23.ne a0)) (not_fresh hn5 (s34.ne (s23.ne a0))) z1 z2 z3 z4 (e192 (hs1.none hb2))]
      exact sub910 _ _ (s25 _ _ (sT _ _ r2c))
    have kpl : Fix pl = some (.list (xts.map .ref)) := by
      have a0 : q3 pl ≠ none := by rw [epl]; simp
      obtain ⟨z1, z2, z3, z4⟩ := t6 (s35.ne a0)
      have n2 := hs3.none hpl
      rw [hFix pl (not_old (fun U hU => s12.ne (r1a U hU)) n2) (not_old (fun U hU => sT.ne (r2a U hU)) n2) (fun w => npl _ w rfl) (not_fresh hn4 a0) (not_fresh hn5 (s34.ne a0)) z1 z2 z3 z4 (e192 (hs1.none (s12.none n2)))]
      exact sub910 _ _ (s35 _ _ epl)
    have kst : Fix st = some (.list (rts.map .ref)) := by
      have a0 : q4 st ≠ none := sT2.ne (by rw [r4c]; simp)
      obtain ⟨z1, z2, z3, z4⟩ := t6 (s45.ne a0)
      have n2 := s23.none hb4
      rw [hFix st (not_old (fun U hU => s12.ne (r1a U hU)) n2) (not_old (fun U hU => sT.ne (r2a U hU)) n2) (not_old hax' hb4) r4b (not_fresh hn5 a0) z1 z2 z3 z4 (e192 (hs1.none (s12.none n2)))]
      exact sub910 _ _ (s45 _ _ (sT2 _ _ r4c))
    have kth : Fix th = some (.list (tts.map .ref)) := by
      have a0 : p₅ th ≠ none := by rw [r5c]; simp
      obtain ⟨z1, z2, z3, z4⟩ := t6 a0
      have n3 := s34.none hb5
      have n2 := s23.none n3
      rw [hFix th (not_old (fun U hU => s12.ne (r1a U hU)) n2) (not_old (fun U hU => sT.ne (r2a U hU)) n2) (not_old hax' n3) (not_old (fun U hU => sT2.ne (r4a U hU)) hb5) r5b z1 z2 z3 z4 (e192 (hs1.none (s12.none n2)))]
      exact sub910 _ _ r5c
    have khp : ∀ b o, b ≠ 192 → hp b = some o → Fix b = some o := fun b o hb e => by
      have a0 : hp b ≠ none := by rw [e]; simp
      have a1 := hs1.ne a0
      obtain ⟨z1, z2, z3, z4⟩ := t6 (s15.ne a1)
      rw [hFix b (not_fresh hn1 a0) (not_fresh hn2 a1) (not_fresh hnx (s12.ne a1)) (not_fresh hn4 (s23.ne (s12.ne a1))) (not_fresh hn5 (s34.ne (s23.ne (s12.ne a1)))) z1 z2 z3 z4 hb]
      exact sub910 _ _ (s15 _ _ (hs1 _ _ e))
    refine h _ p₁₀ role Fix bg en pl st th lv ln fi la bts ets xts rts tts LY sF khp (sub910 _ _ (s15 _ _ (hs1 _ _ h192))) ⟨kbg, ken, kpl, kst, kth, r1d, r2d, by rw [hlx]; simp [rangeL]; omega, r4d, r5d, hndx⟩ (hR1.mono (s15.trans sub910)) (hR2.mono (sT.trans (s25.trans sub910))) (fun U hU => (hax2 U hU).mono (s35.trans sub910)) (hR4.mono (sT2.trans (s45.trans sub910))) (hR5.mono sub910)
      (sT3 _ _ (sla _ _ (sfi _ _ (sln _ _ nlv)))) (sT3 _ _ (sla _ _ (sfi _ _ nln))) (sT3 _ _ (sla _ _ nfi)) (sT3 _ _ nla) (fun y v e hy => ?_) ?_ ?_ ?_ ?_ ?_ ?_ ?_ ?_ ?_
    · simp only [List.mem_cons, not_or] at hy
      obtain ⟨y1, y2, y3, y4, y5, y6, y7, y8, y9, _⟩ := hy
      exact lset_ne y9 (lset_ne y8 (lset_ne y7 (lset_ne y6 (lset_ne y5 (lset_ne y4 (lset_ne y3 (lset_ne y2 (lset_ne y1 e))))))))
    all_goals walk_at "loc"
end Mine
end
section
namespace Mine
/-! ### the plain law, first part: levels, private places, three flags -/
def cntP (lo hi L : Nat → Nat) (n a k : Nat) : Nat := (List.range n).countP fun j => decide (lo j ≤ a ∧ a < hi j ∧ L j ≤ k)
def covP (lo hi : Nat → Nat) (n a : Nat) : Nat := (List.range n).countP fun j => decide (lo j ≤ a ∧ a < hi j)
theorem cntP_succ {lo hi L : Nat → Nat} {n a k : Nat} : cntP lo hi L (n + 1) a k = cntP lo hi L n a k + if lo n ≤ a ∧ a < hi n ∧ L n ≤ k then 1 else 0 := by
  unfold cntP
  rw [List.range_succ, List.countP_append]
  congr 1
  simp [List.countP_cons]
theorem covP_succ {lo hi : Nat → Nat} {n a : Nat} : covP lo hi (n + 1) a = covP lo hi n a + if lo n ≤ a ∧ a < hi n then 1 else 0 := by
  unfold covP
  rw [List.range_succ, List.countP_append]
  congr 1
  simp [List.countP_cons]
theorem cntP_congr {lo hi L L' : Nat → Nat} {n a k : Nat} (h : ∀ j, j < n → L j = L' j) : cntP lo hi L n a k = cntP lo hi L' n a k := by
  unfold cntP
  exact List.countP_congr fun j hj => by rw [h j (List.mem_range.mp hj)]
theorem cntP_mono {lo hi L : Nat → Nat} {n m a k : Nat} (h : n ≤ m) : cntP lo hi L n a k ≤ cntP lo hi L m a k := by
  induction m with
  | zero => rw [Nat.le_zero.mp h]; exact Nat.le_refl _
  | succ m ih =>
    rcases Nat.lt_or_ge n (m + 1) with q | q
    · rw [cntP_succ]; have := ih (by omega); omega
    · rw [show n = m + 1 by omega]; exact Nat.le_refl _
theorem covP_mono {lo hi : Nat → Nat} {n m a : Nat} (h : n ≤ m) : covP lo hi n a ≤ covP lo hi m a := by
  induction m with
  | zero => rw [Nat.le_zero.mp h]; exact Nat.le_refl _
  | succ m ih =>
    rcases Nat.lt_or_ge n (m + 1) with q | q
    · rw [covP_succ]; have := ih (by omega); omega
    · rw [show n = m + 1 by omega]; exact Nat.le_refl _
theorem cntP_cov {lo hi L : Nat → Nat} {n a k : Nat} : cntP lo hi L n a k ≤ covP lo hi n a := by
  induction n with
  | zero => exact Nat.le_refl _
  | succ n ih =>
    rw [cntP_succ, covP_succ]
    by_cases q : lo n ≤ a ∧ a < hi n ∧ L n ≤ k
    · rw [if_pos q, if_pos ⟨q.1, q.2.1⟩]; omega
    · rw [if_neg q]; omega
theorem cntP_level {lo hi L : Nat → Nat} {n a k j : Nat} (hj : j < n) (h1 : lo j ≤ a) (h2 : a < hi j) (hL : L j = k + 1) : cntP lo hi L n a k + 1 ≤ cntP lo hi L n a (k + 1) := by
  induction n with
  | zero => omega
  | succ n ih =>
    have hm : ∀ m, cntP lo hi L m a k ≤ cntP lo hi L m a (k + 1) := fun m => by
      unfold cntP
      refine List.countP_mono_left fun j _ h => ?_
      simp only [decide_eq_true_eq] at h ⊢
      omega
    rw [cntP_succ, cntP_succ]
    by_cases q : j = n
    · subst q
      rw [if_neg (by omega), if_pos (by omega)]
      have := hm j
      omega
    · have := ih (by omega)
      by_cases q1 : lo n ≤ a ∧ a < hi n ∧ L n ≤ k
      · rw [if_pos q1, if_pos (by omega)]; omega
      · rw [if_neg q1]; omega
structure LevOk (lo hi L : Nat → Nat) (n : Nat) : Prop where
  fit : ∀ i, i < n → ∀ a, lo i ≤ a → a < hi i → cntP lo hi L i a (L i) ≤ L i
  low : ∀ i, i < n → ∀ k, k < L i → ∃ a, lo i ≤ a ∧ a < hi i ∧ k < cntP lo hi L i a k
theorem LevOk.congr {lo hi L L' : Nat → Nat} {n : Nat} (h : LevOk lo hi L n) (e : ∀ j, j < n → L j = L' j) : LevOk lo hi L' n where
  fit := fun i hi' a h1 h2 => by
    have := h.fit i hi' a h1 h2
    rw [cntP_congr fun j hj => e j (by omega), e i hi'] at this
    exact this
  low := fun i hi' k hk => by
    obtain ⟨a, h1, h2, h3⟩ := h.low i hi' k (by rw [e i hi']; exact hk)
    rw [cntP_congr fun j hj => e j (by omega)] at h3
    exact ⟨a, h1, h2, h3⟩
theorem LevOk.priv {lo hi L : Nat → Nat} {n : Nat} (h : LevOk lo hi L n) {i : Nat} (hin : i < n) (hL : 1 ≤ L i) : ∃ a, lo i ≤ a ∧ a < hi i ∧ ∀ j, j < n → j ≠ i → L j = L i → ¬ (lo j ≤ a ∧ a < hi j) := by
  obtain ⟨k, hk⟩ : ∃ k, L i = k + 1 := ⟨L i - 1, by omega⟩
  obtain ⟨a, h1, h2, h3⟩ := h.low i hin k (by omega)
  refine ⟨a, h1, h2, fun j hj hne hjL ⟨q1, q2⟩ => ?_⟩
  rcases Nat.lt_or_ge j i with q | q
  · have e1 := cntP_level (lo := lo) (hi := hi) (L := L) (n := i) (a := a) (k := k) q q1 q2 (by omega)
    have e2 := h.fit i hin a h1 h2
    rw [hk] at e2
    omega
  · have e0 : cntP lo hi L i a (k + 1) ≥ cntP lo hi L i a k := by
      unfold cntP
      refine List.countP_mono_left fun j _ h => ?_
      simp only [decide_eq_true_eq] at h ⊢
      omega
    have e1 : cntP lo hi L (i + 1) a (k + 1) = cntP lo hi L i a (k + 1) + 1 := by rw [cntP_succ, if_pos (by omega)]
    have e2 : cntP lo hi L (i + 1) a (k + 1) ≤ cntP lo hi L j a (k + 1) := cntP_mono (by omega)
    have e3 := h.fit j hj a q1 q2
    rw [hjL, hk] at e3
    omega
theorem LevOk.zero {lo hi L : Nat → Nat} {n : Nat} (h : LevOk lo hi L n) {i j : Nat} (hij : i < j) (hj : j < n) (hi0 : L i = 0) (hj0 : L j = 0) {a : Nat} (h1 : lo i ≤ a) (h2 : a < hi i) : ¬ (lo j ≤ a ∧ a < hi j) := fun ⟨q1, q2⟩ => by
  have e := h.fit j hj a q1 q2
  have e1 : cntP lo hi L (i + 1) a (L j) = cntP lo hi L i a (L j) + 1 := by rw [cntP_succ, if_pos (by omega)]
  have e2 : cntP lo hi L (i + 1) a (L j) ≤ cntP lo hi L j a (L j) := cntP_mono (by omega)
  omega
theorem LevOk.three {lo hi L : Nat → Nat} {n : Nat} (h : LevOk lo hi L n) {i x y z : Nat} (hin : i < n) (hx : x < n) (hy : y < n) (hz : z < n) (hL : 1 ≤ L i) (ex : L x = L i) (ey : L y = L i) (ez : L z = L i)
    (nx : x ≠ i) (ny : y ≠ i) (nz : z ≠ i) (nxy : x ≠ y) (nxz : x ≠ z) (nyz : y ≠ z) (mx : lo x < hi i ∧ lo i < hi x) (my : lo y < hi i ∧ lo i < hi y) (mz : lo z < hi i ∧ lo i < hi z) : False := by
  obtain ⟨a, a1, a2, a3⟩ := h.priv hx (by omega)
  obtain ⟨b, b1, b2, b3⟩ := h.priv hy (by omega)
  obtain ⟨c, c1, c2, c3⟩ := h.priv hz (by omega)
  have p1 := a3 i hin (Ne.symm nx) (by omega)
  have p2 := a3 y hy (Ne.symm nxy) (by omega)
  have p3 := a3 z hz (Ne.symm nxz) (by omega)
  have q1 := b3 i hin (Ne.symm ny) (by omega)
  have q2 := b3 x hx nxy (by omega)
  have q3 := b3 z hz (Ne.symm nyz) (by omega)
  have r1 := c3 i hin (Ne.symm nz) (by omega)
  have r2 := c3 x hx nxz (by omega)
  have r3 := c3 y hy nyz (by omega)
  clear a3 b3 c3
  omega
theorem LevOk.next {lo hi L : Nat → Nat} {n : Nat} (h : LevOk lo hi L n) (fit : ∀ a, lo n ≤ a → a < hi n → cntP lo hi L n a (L n) ≤ L n) (low : ∀ k, k < L n → ∃ a, lo n ≤ a ∧ a < hi n ∧ k < cntP lo hi L n a k) : LevOk lo hi L (n + 1) where
  fit := fun i hi' => by
    rcases Nat.lt_or_ge i n with q | q
    · exact h.fit i q
    · rw [show i = n by omega]; exact fit
  low := fun i hi' => by
    rcases Nat.lt_or_ge i n with q | q
    · exact h.low i q
    · rw [show i = n by omega]; exact low
theorem fits_below {lo hi L : Nat → Nat} {n N F : Nat} (hn : n < N) (hF : ∀ a, covP lo hi N a ≤ F) (hF0 : 1 ≤ F) (a : Nat) (h1 : lo n ≤ a) (h2 : a < hi n) : cntP lo hi L n a (F - 1) ≤ F - 1 := by
  have e1 : covP lo hi (n + 1) a = covP lo hi n a + 1 := by rw [covP_succ, if_pos ⟨h1, h2⟩]
  have e2 : covP lo hi (n + 1) a ≤ covP lo hi N a := covP_mono hn
  have e3 := hF a
  have e4 : cntP lo hi L n a (F - 1) ≤ covP lo hi n a := cntP_cov
  omega
end Mine
end
section
namespace Mine
/-! ### the plain law, second part: what the rows hold -/
def loN (ps : List (Nat × Nat)) (i : Nat) : Nat := (ps.getD i (0, 0)).1
def hiN (ps : List (Nat × Nat)) (i : Nat) : Nat := (ps.getD i (0, 0)).2
def LN (Ls : List Nat) (j : Nat) : Nat := Ls.getD j 0
theorem LN_old {Ls : List Nat} {k j : Nat} (h : j < Ls.length) : LN (Ls ++ [k]) j = LN Ls j := by
  unfold LN; rw [List.getD_eq_getElem?_getD, List.getElem?_append_left h, List.getD_eq_getElem?_getD]
theorem LN_new {Ls : List Nat} {k : Nat} : LN (Ls ++ [k]) Ls.length = k := by
  unfold LN; rw [List.getD_eq_getElem?_getD, List.getElem?_append_right (Nat.le_refl _)]; simp
structure BegOk (ps : List (Nat × Nat)) (Ls : List Nat) (full : Nat) (bss ess : List (List Int)) : Prop where
  lb : bss.length = full
  le : ess.length = full
  sb : ∀ r ∈ bss, r.Pairwise (· ≤ ·)
  se : ∀ r ∈ ess, r.Pairwise (· ≤ ·)
  cb : ∀ k, k < full → ∀ q : Int → Bool, (bss.getD k []).countP q = (List.range Ls.length).countP fun j => decide (LN Ls j = k) && q (loN ps j)
  ce : ∀ k, k < full → ∀ q : Int → Bool, (ess.getD k []).countP q = (List.range Ls.length).countP fun j => decide (LN Ls j = k) && q (hiN ps j)
theorem BegOk.zero {ps : List (Nat × Nat)} {full : Nat} : BegOk ps [] full (List.replicate full []) (List.replicate full []) where
  lb := by simp
  le := by simp
  sb := fun r hr => by rw [List.eq_of_mem_replicate hr]; exact .nil
  se := fun r hr => by rw [List.eq_of_mem_replicate hr]; exact .nil
  cb := fun k hk q => by rw [List.getD_eq_getElem?_getD, List.getElem?_replicate, if_pos hk]; rfl
  ce := fun k hk q => by rw [List.getD_eq_getElem?_getD, List.getElem?_replicate, if_pos hk]; rfl
theorem BegOk.len {ps : List (Nat × Nat)} {Ls : List Nat} {full : Nat} {bss ess : List (List Int)} (h : BegOk ps Ls full bss ess) : (∀ r ∈ bss, r.length ≤ Ls.length) ∧ ∀ r ∈ ess, r.length ≤ Ls.length := by
  refine ⟨fun r hr => ?_, fun r hr => ?_⟩
  · obtain ⟨k, hk⟩ := List.mem_iff_getElem?.mp hr
    have hk' := (List.getElem?_eq_some_iff.mp hk).1
    have := h.cb k (by rw [← h.lb]; exact hk') fun _ => true
    rw [List.getD_eq_getElem?_getD, hk] at this
    simp only [Option.getD_some] at this
    rw [show r.length = r.countP fun _ => true by simp, this]
    refine Nat.le_trans List.countP_le_length (by simp)
  · obtain ⟨k, hk⟩ := List.mem_iff_getElem?.mp hr
    have hk' := (List.getElem?_eq_some_iff.mp hk).1
    have := h.ce k (by rw [← h.le]; exact hk') fun _ => true
    rw [List.getD_eq_getElem?_getD, hk] at this
    simp only [Option.getD_some] at this
    rw [show r.length = r.countP fun _ => true by simp, this]
    refine Nat.le_trans List.countP_le_length (by simp)
theorem count_on {lo hi L : Nat → Nat} (hlt : ∀ j, lo j ≤ hi j) (a k : Nat) : ∀ n, (((List.range n).countP fun j => decide (L j = k) && decide ((lo j : Int) < (a : Int) + 1) : Nat) : Int) - ((List.range n).countP fun j => decide (L j = k) && decide ((hi j : Int) ≤ (a : Int)) : Nat) = ((List.range n).countP fun j => decide (L j = k ∧ lo j ≤ a ∧ a < hi j) : Nat)
  | 0 => rfl
  | n + 1 => by
    have ih := count_on (L := L) hlt a k n
    have h := hlt n
    rw [List.range_succ, List.countP_append, List.countP_append, List.countP_append]
    simp only [List.countP_cons, List.countP_nil]
    by_cases h1 : L n = k
    · by_cases h2 : lo n ≤ a
      · by_cases h3 : a < hi n
        · rw [if_pos (by simp [h1]; omega), if_neg (by simp [h1]; omega), if_pos (by simp [h1]; omega)]; omega
        · rw [if_pos (by simp [h1]; omega), if_pos (by simp [h1]; omega), if_neg (by simp; omega)]; omega
      · rw [if_neg (by simp [h1]; omega), if_neg (by simp [h1]; omega), if_neg (by simp; omega)]; omega
    · rw [if_neg (by simp [h1]), if_neg (by simp [h1]), if_neg (by simp [h1])]; omega
theorem cntP_split {lo hi L : Nat → Nat} {a k : Nat} : ∀ n, cntP lo hi L n a (k + 1) = cntP lo hi L n a k + (List.range n).countP fun j => decide (L j = k + 1 ∧ lo j ≤ a ∧ a < hi j)
  | 0 => rfl
  | n + 1 => by
    rw [cntP_succ, cntP_succ, cntP_split n, List.range_succ, List.countP_append]
    simp only [List.countP_cons, List.countP_nil]
    by_cases h1 : lo n ≤ a ∧ a < hi n
    · by_cases h2 : L n ≤ k
      · rw [if_pos (by omega), if_pos (by omega), if_neg (by simp; omega)]; omega
      · by_cases h3 : L n = k + 1
        · rw [if_pos (by omega), if_neg (by omega), if_pos (by simp; omega)]; omega
        · rw [if_neg (by omega), if_neg (by omega), if_neg (by simp; omega)]; omega
    · rw [if_neg (by omega), if_neg (by omega), if_neg (by simp; omega)]; omega
theorem cntP_zero {lo hi L : Nat → Nat} {a n : Nat} : cntP lo hi L n a 0 = (List.range n).countP fun j => decide (L j = 0 ∧ lo j ≤ a ∧ a < hi j) := by
  unfold cntP
  refine List.countP_congr fun j _ => ?_
  simp only [decide_eq_true_eq]
  omega
theorem BegOk.cov {ps : List (Nat × Nat)} {Ls : List Nat} {full : Nat} {bss ess : List (List Int)} (h : BegOk ps Ls full bss ess) (hlt : ∀ j, loN ps j ≤ hiN ps j) (a : Nat) : ∀ k, k < full → cov bss ess (k + 1) a = (cntP (loN ps) (hiN ps) (LN Ls) Ls.length a k : Nat)
  | 0, hk => by
    show (0 : Int) + ((bisL (bss.getD 0 []) (a + 1) : Int) - bisR (ess.getD 0 []) a) = _
    unfold bisL bisR
    rw [h.cb 0 hk, h.ce 0 hk, cntP_zero, count_on hlt a 0]; omega
  | k + 1, hk => by
    have ih := h.cov hlt a k (by omega)
    show Mine.cov bss ess (k + 1) a + ((bisL (bss.getD (k + 1) []) (a + 1) : Int) - bisR (ess.getD (k + 1) []) a) = _
    rw [ih]
    unfold bisL bisR
    rw [h.cb (k + 1) hk, h.ce (k + 1) hk, cntP_split, count_on hlt a (k + 1)]; omega
def FitN (ps : List (Nat × Nat)) (Ls : List Nat) (k : Nat) : Prop := ∀ a, loN ps Ls.length ≤ a → a < hiN ps Ls.length → cntP (loN ps) (hiN ps) (LN Ls) Ls.length a k ≤ k
theorem BegOk.fits {ps : List (Nat × Nat)} {Ls : List Nat} {full : Nat} {bss ess : List (List Int)} (h : BegOk ps Ls full bss ess) (hlt : ∀ j, loN ps j ≤ hiN ps j) {k : Nat} (hk : k < full) : FitsL bss ess (loN ps Ls.length) (hiN ps Ls.length) k ↔ FitN ps Ls k := by
  unfold FitsL FitN
  constructor
  · intro q a h1 h2
    have := q a h1 h2
    rw [h.cov hlt a k hk] at this; omega
  · intro q a h1 h2
    rw [h.cov hlt a k hk]
    have := q a h1 h2; omega
theorem insI_count {xs : List Int} {k : Nat} {x : Int} {q : Int → Bool} : (insI xs k x).countP q = xs.countP q + if q x then 1 else 0 := by
  unfold insI
  rw [List.countP_append, List.countP_cons]
  have : xs.countP q = (xs.take k).countP q + (xs.drop k).countP q := by rw [← List.countP_append, List.take_append_drop]
  omega
theorem sorted_split {xs : List Int} (hs : xs.Pairwise (· ≤ ·)) {p : Int → Bool} (hp : ∀ a b, a ≤ b → p b = true → p a = true) : (∀ y ∈ xs.take (xs.countP p), p y = true) ∧ ∀ y ∈ xs.drop (xs.countP p), p y = false := by
  induction xs with
  | nil => exact ⟨fun y h => by simp at h, fun y h => by simp at h⟩
  | cons x xs ih =>
    obtain ⟨h1, h2⟩ := List.pairwise_cons.mp hs
    obtain ⟨i1, i2⟩ := ih h2
    rw [List.countP_cons]
    by_cases q : p x = true
    · rw [if_pos q, List.take_succ_cons, List.drop_succ_cons]
      exact ⟨fun y hy => by
        rcases List.mem_cons.mp hy with rfl | hy
        · exact q
        · exact i1 y hy, i2⟩
    · have hz : xs.countP p = 0 := by
        rw [List.countP_eq_zero]
        exact fun y hy w => q (hp x y (h1 y hy) w)
      rw [if_neg q, hz]
      refine ⟨fun y hy => by simp at hy, fun y hy => ?_⟩
      simp only [Nat.add_zero, List.drop_zero] at hy
      rcases List.mem_cons.mp hy with rfl | hy
      · simpa using q
      · have := List.countP_eq_zero.mp hz y hy
        simpa using this
theorem insI_sorted {xs : List Int} (hs : xs.Pairwise (· ≤ ·)) {x : Int} {p : Int → Bool} (hp : ∀ a b, a ≤ b → p b = true → p a = true) (h1 : ∀ y, p y = true → y ≤ x) (h2 : ∀ y, p y = false → x ≤ y) : (insI xs (xs.countP p) x).Pairwise (· ≤ ·) := by
  obtain ⟨a, b⟩ := sorted_split hs hp
  unfold insI
  have hs' : (xs.take (xs.countP p) ++ xs.drop (xs.countP p)).Pairwise (· ≤ ·) := by rw [List.take_append_drop]; exact hs
  obtain ⟨s1, s2, s3⟩ := List.pairwise_append.mp hs'
  refine List.pairwise_append.mpr ⟨s1, List.pairwise_cons.mpr ⟨fun y hy => h2 y (b y hy), s2⟩, fun u hu v hv => ?_⟩
  rcases List.mem_cons.mp hv with rfl | hv
  · exact h1 u (a u hu)
  · exact s3 u hu v hv
theorem count_range_snoc {Ls : List Nat} {k k' : Nat} {g : Nat → Nat} {q : Int → Bool} : ((List.range (Ls ++ [k]).length).countP fun j => decide (LN (Ls ++ [k]) j = k') && q (g j)) = ((List.range Ls.length).countP fun j => decide (LN Ls j = k') && q (g j)) + if k = k' then (if q (g Ls.length) then 1 else 0) else 0 := by
  rw [List.length_append, List.length_singleton, List.range_succ, List.countP_append]
  congr 1
  · exact List.countP_congr fun j hj => by rw [LN_old (List.mem_range.mp hj)]
  · simp only [List.countP_cons, List.countP_nil]
    rw [LN_new]
    by_cases h1 : k = k'
    · rw [if_pos h1]; simp [h1]
    · rw [if_neg h1]; simp [h1]
theorem getD_set_list {rows : List (List Int)} {k j : Nat} {r : List Int} (hj : j < rows.length) : (rows.set k r).getD j [] = if k = j then r else rows.getD j [] := by
  rw [List.getD_eq_getElem?_getD, List.getElem?_set]
  by_cases h : k = j
  · subst h; rw [if_pos rfl, if_pos hj, if_pos rfl]; rfl
  · rw [if_neg h, if_neg h, List.getD_eq_getElem?_getD]
theorem BegOk.step {ps : List (Nat × Nat)} {Ls : List Nat} {full : Nat} {bss ess : List (List Int)} (h : BegOk ps Ls full bss ess) {k : Nat} (hk : k < full) :
    BegOk ps (Ls ++ [k]) full (bss.set k (insI (bss.getD k []) (bisL (bss.getD k []) (loN ps Ls.length)) (loN ps Ls.length))) (ess.set k (insI (ess.getD k []) (bisR (ess.getD k []) (hiN ps Ls.length)) (hiN ps Ls.length))) where
  lb := by rw [List.length_set]; exact h.lb
  le := by rw [List.length_set]; exact h.le
  sb := fun r hr => by
    rcases List.mem_or_eq_of_mem_set hr with hr | rfl
    · exact h.sb r hr
    · exact insI_sorted (h.sb _ (getD_mem' (by rw [h.lb]; exact hk))) (fun a b h1 h2 => by simp at h2 ⊢; omega) (fun y hy => by simp at hy; omega) fun y hy => by simp at hy; omega
  se := fun r hr => by
    rcases List.mem_or_eq_of_mem_set hr with hr | rfl
    · exact h.se r hr
    · exact insI_sorted (h.se _ (getD_mem' (by rw [h.le]; exact hk))) (fun a b h1 h2 => by simp at h2 ⊢; omega) (fun y hy => by simp at hy; omega) fun y hy => by simp at hy; omega
  cb := fun j hj q => by
    rw [getD_set_list (by rw [h.lb]; exact hj), count_range_snoc, ← h.cb j hj q]
    by_cases w : k = j
    · subst w; rw [if_pos rfl, if_pos rfl, insI_count]
    · rw [if_neg w, if_neg w]; rfl
  ce := fun j hj q => by
    rw [getD_set_list (by rw [h.le]; exact hj), count_range_snoc, ← h.ce j hj q]
    by_cases w : k = j
    · subst w; rw [if_pos rfl, if_pos rfl, insI_count]
    · rw [if_neg w, if_neg w]; rfl
structure ThereOk (ps : List (Nat × Nat)) (Ls : List Nat) (rows : List (List Int)) : Prop where
  len : rows.length = 24
  cnt : ∀ a, a < 24 → ∀ k : Nat, cntLe (rows.getD a []) k = cntP (loN ps) (hiN ps) (LN Ls) Ls.length a k
  size : ∀ a, a < 24 → (rows.getD a []).length = covP (loN ps) (hiN ps) Ls.length a
theorem ThereOk.zero {ps : List (Nat × Nat)} : ThereOk ps [] (List.replicate 24 []) where
  len := by simp
  cnt := fun a ha k => by rw [List.getD_eq_getElem?_getD, List.getElem?_replicate, if_pos ha]; rfl
  size := fun a ha => by rw [List.getD_eq_getElem?_getD, List.getElem?_replicate, if_pos ha]; rfl
theorem ThereOk.fits {ps : List (Nat × Nat)} {Ls : List Nat} {rows : List (List Int)} (h : ThereOk ps Ls rows) (hhi : hiN ps Ls.length ≤ 24) {k : Nat} : Fits rows (loN ps Ls.length) (hiN ps Ls.length) k ↔ FitN ps Ls k := by
  unfold Fits FitN
  constructor
  · intro q a h1 h2
    have := q a h1 h2
    rwa [h.cnt a (by omega)] at this
  · intro q a h1 h2
    rw [h.cnt a (by omega)]
    exact q a h1 h2
theorem ThereOk.sizes {ps : List (Nat × Nat)} {Ls : List Nat} {rows : List (List Int)} (h : ThereOk ps Ls rows) : ∀ r ∈ rows, r.length ≤ Ls.length := fun r hr => by
  obtain ⟨a, ha⟩ := List.mem_iff_getElem?.mp hr
  have ha' := (List.getElem?_eq_some_iff.mp ha).1
  have := h.size a (by rw [← h.len]; exact ha')
  rw [List.getD_eq_getElem?_getD, ha] at this
  simp only [Option.getD_some] at this
  rw [this]
  unfold covP
  exact Nat.le_trans List.countP_le_length (by simp)
theorem ThereOk.step {ps : List (Nat × Nat)} {Ls : List Nat} {rows : List (List Int)} (h : ThereOk ps Ls rows) (k : Nat) : ThereOk ps (Ls ++ [k]) (addRows rows (loN ps Ls.length) (hiN ps Ls.length) k) := by
  have hg : ∀ a, a < 24 → (addRows rows (loN ps Ls.length) (hiN ps Ls.length) k).getD a [] = if loN ps Ls.length ≤ a ∧ a < hiN ps Ls.length then rows.getD a [] ++ [(k : Int)] else rows.getD a [] := fun a ha => by
    unfold addRows
    rw [List.getD_eq_getElem?_getD, List.getElem?_mapIdx, List.getD_eq_getElem?_getD, List.getElem?_eq_getElem (by rw [h.len]; exact ha)]
    rfl
  have hc : ∀ a j, cntP (loN ps) (hiN ps) (LN (Ls ++ [k])) (Ls ++ [k]).length a j = cntP (loN ps) (hiN ps) (LN Ls) Ls.length a j + if loN ps Ls.length ≤ a ∧ a < hiN ps Ls.length ∧ k ≤ j then 1 else 0 := fun a j => by
    rw [List.length_append, List.length_singleton, cntP_succ, LN_new, cntP_congr fun j hj => LN_old hj]
  refine ⟨by rw [addRows_len]; exact h.len, fun a ha j => ?_, fun a ha => ?_⟩
  · rw [hg a ha, hc]
    by_cases w : loN ps Ls.length ≤ a ∧ a < hiN ps Ls.length
    · rw [if_pos w]
      unfold cntLe
      rw [List.countP_append]
      have := h.cnt a ha j
      unfold cntLe at this
      rw [this]
      congr 1
      simp only [List.countP_cons, List.countP_nil]
      by_cases z : k ≤ j
      · rw [if_pos (by simp; omega), if_pos (by omega)]
      · rw [if_neg (by simp; omega), if_neg (by omega)]
    · rw [if_neg w, if_neg (by omega)]; exact h.cnt a ha j
  · rw [hg a ha, List.length_append, List.length_singleton, covP_succ]
    by_cases w : loN ps Ls.length ≤ a ∧ a < hiN ps Ls.length
    · rw [if_pos w, if_pos w, List.length_append, h.size a ha]; rfl
    · rw [if_neg w, if_neg w]; exact h.size a ha
end Mine
end
section
namespace Mine
/-! ### what is joined is split again -/
open PySem.StrLaws
def joinL : List (List Nat) → List Nat
  | [] => []
  | [w] => w
  | w :: v :: r => w ++ ([44, 32] ++ joinL (v :: r))
theorem sep_list : (", " : Str).cps.toList = [44, 32] := by decide +kernel
theorem sep_len : (", " : Str).length = 2 := by decide +kernel
theorem at_sep {x : Str} {k : Nat} : At x ", " x.length k ↔ (x.cps.toList.drop k).take 2 = [44, 32] := by
  unfold At
  rw [subAt_eq, sep_len, sep_list]
  constructor
  · rintro ⟨_, h⟩; exact eq_of_beq h
  · intro h
    refine ⟨?_, by rw [h]; rfl⟩
    have := congrArg List.length h
    rw [List.length_take, List.length_drop, Array.length_toList] at this
    have e : x.length = x.cps.size := rfl
    simp at this
    omega
theorem parts_joinL {x : Str} : ∀ (W : List (List Nat)) (cuts : List Nat) (a f : Nat), W ≠ [] → (∀ w ∈ W, 44 ∉ w) → a ≤ x.length → x.cps.toList.drop a = joinL W → ChainG x ", " x.length a cuts f → (∀ k, f ≤ k → ¬ At x ", " x.length k) → (partsFrom x 2 a cuts).map (fun p => p.cps.toList) = W
  | [], _, _, _, h, _, _, _, _, _ => absurd rfl h
  | [w], cuts, a, f, _, hw, ha, hd, hc, hf => by
    have no : ∀ k, a ≤ k → ¬ At x ", " x.length k := fun k hk hA => by
      rw [at_sep] at hA
      have e : x.cps.toList.drop k = w.drop (k - a) := by
        have : x.cps.toList.drop k = (x.cps.toList.drop a).drop (k - a) := by rw [List.drop_drop]; congr 1; omega
        rw [this, hd]; rfl
      rw [e] at hA
      have : 44 ∈ w := List.mem_of_mem_drop (List.mem_of_mem_take (by rw [hA]; exact .head _))
      exact hw w (.head _) this
    cases cuts with
    | nil =>
      show [(Builtin.Str.strSub x a x.length).cps.toList] = _
      rw [strSub_toList, hd]
      show [w.take (x.length - a)] = [w]
      have : w.length = x.length - a := by
        have := congrArg List.length hd
        rw [List.length_drop, Array.length_toList] at this
        exact this.symm
      rw [List.take_of_length_le (by omega)]
    | cons c r => exact absurd hc.2.1 (no c hc.1)
  | w :: v :: r, cuts, a, f, _, hw, ha, hd, hc, hf => by
    have hd' : x.cps.toList.drop a = w ++ ([44, 32] ++ joinL (v :: r)) := hd
    have hlen : x.length - a = w.length + (2 + (joinL (v :: r)).length) := by
      have := congrArg List.length hd'
      rw [List.length_drop, Array.length_toList, List.length_append, List.length_append] at this
      exact this
    have yes : At x ", " x.length (a + w.length) := by
      rw [at_sep, ← List.drop_drop, hd', List.drop_left]; rfl
    have no : ∀ k, a ≤ k → k < a + w.length → ¬ At x ", " x.length k := fun k hk hk2 hA => by
      rw [at_sep] at hA
      have e : x.cps.toList.drop k = w.drop (k - a) ++ ([44, 32] ++ joinL (v :: r)) := by
        have : x.cps.toList.drop k = (x.cps.toList.drop a).drop (k - a) := by rw [List.drop_drop]; congr 1; omega
        rw [this, hd', List.drop_append_of_le_length (by omega)]
      rw [e] at hA
      obtain ⟨z, zs, hz⟩ : ∃ z zs, w.drop (k - a) = z :: zs := by
        cases q : w.drop (k - a) with
        | nil => have := congrArg List.length q; rw [List.length_drop] at this; simp at this; omega
        | cons z zs => exact ⟨z, zs, rfl⟩
      rw [hz] at hA
      injection hA with h1 _
      exact hw w (.head _) (List.mem_of_mem_drop (by rw [hz, h1]; exact .head _))
    cases cuts with
    | nil =>
      have e : f = a := hc
      exact absurd yes (hf _ (by omega))
    | cons c s =>
      obtain ⟨c1, c2, c3, c4⟩ := hc
      have e : c = a + w.length := by
        rcases Nat.lt_trichotomy c (a + w.length) with q | q | q
        · exact absurd c2 (no c c1 q)
        · exact q
        · exact absurd yes (c3 _ (by omega) q)
      subst e
      show (Builtin.Str.strSub x a (a + w.length)).cps.toList :: (partsFrom x 2 (a + w.length + 2) s).map (fun p => p.cps.toList) = _
      rw [parts_joinL (v :: r) s (a + w.length + 2) f (by simp) (fun u hu => hw u (.tail _ hu)) (by omega) (by
        rw [← List.drop_drop, ← List.drop_drop, hd', List.drop_left]; rfl) (by rw [sep_len] at c4; exact c4) hf]
      rw [strSub_toList, hd', show a + w.length - a = w.length by omega, List.take_left]
theorem glued_list (y : Str) : ∀ (W : List Str) (acc : Array Nat), (W.foldl (fun acc p => acc ++ y.cps ++ p.cps) acc).toList = acc.toList ++ (W.flatMap fun p => y.cps.toList ++ p.cps.toList)
  | [], acc => by simp
  | w :: W, acc => by rw [List.foldl_cons, glued_list y W]; simp
theorem joinL_flat : ∀ (W : List Str) (w : Str), joinL ((w :: W).map fun p => p.cps.toList) = w.cps.toList ++ W.flatMap fun p => [44, 32] ++ p.cps.toList
  | [], w => by simp [joinL]
  | v :: W, w => by
    show w.cps.toList ++ ([44, 32] ++ joinL ((v :: W).map fun p => p.cps.toList)) = _
    rw [joinL_flat W v, List.flatMap_cons]; simp
theorem join_list {W : List Str} (h : W ≠ []) : (Txt.join ", " W).cps.toList = joinL (W.map fun p => p.cps.toList) := by
  match W, h with
  | w :: W, _ =>
    rw [joinL_flat]
    unfold Txt.join Builtin.Str.glued
    show (List.foldl (fun acc p => acc ++ (", " : Str).cps ++ p.cps) w.cps W).toList = _
    rw [glued_list, sep_list]
theorem split_join {W : List Str} (h : W ≠ []) (hw : ∀ w ∈ W, 44 ∉ w.cps.toList) : Txt.split (Txt.join ", " W) ", " = W := by
  have hj := join_list h
  obtain ⟨x, hx⟩ : ∃ x, x = Txt.join ", " W := ⟨_, rfl⟩
  rw [← hx] at hj ⊢
  obtain ⟨f, hG, hn⟩ := occ_tight x ", " (by rw [sep_len]; decide)
  have key : ∀ cuts f, ChainG x ", " x.length 0 cuts f → (∀ k, f ≤ k → ¬ At x ", " x.length k) → partsFrom x 2 0 cuts = W := fun cuts f hc hf => by
    have := parts_joinL (W.map fun p => p.cps.toList) cuts 0 f (by simpa using h) (fun w hw' => by
      obtain ⟨p, hp, rfl⟩ := List.mem_map.mp hw'
      exact hw p hp) (Nat.zero_le _) (by simpa using hj) hc hf
    exact List.map_inj_right (fun p q e => by
      apply Str.ext'
      exact Array.toList_inj.mp e) |>.mp this
  have one : [x] = partsFrom x 2 0 [] := by
    show [x] = [Builtin.Str.strSub x 0 x.length]
    have e : x = Builtin.Str.strSub x 0 x.length := by
      apply Str.ext'
      apply Array.toList_inj.mp
      rw [strSub_toList]
      rw [List.drop_zero, Nat.sub_zero]
      exact (take_all x).symm
    rw [← e]
  have short : (∀ k, ¬ At x ", " x.length k) → [x] = W := fun hs => by
    rw [one]
    exact key [] 0 rfl fun k _ => hs k
  unfold Txt.split
  split
  · rename_i hc
    refine short fun k hA => ?_
    rw [Bool.or_eq_true, decide_eq_true_eq, decide_eq_true_eq] at hc
    rcases hc with h | h
    · have := hA.1; omega
    · have e1 : Builtin.Str.strKind (", " : Str) = 1 := by decide +kernel
      rw [e1] at h
      unfold Builtin.Str.strKind at h
      split at h
      · omega
      · split at h <;> omega
  · split
    · rename_i hc
      have e : Builtin.Str.occurrences x ", " 0 x.length (x.length + 1) = [] := by simpa using hc
      rw [e] at hG
      have e2 : f = 0 := hG
      exact short fun k => hn k (by omega)
    · rw [partsBetween_eq, sep_len]
      exact key _ f hG hn
end Mine
end
section
namespace Mine
/-! ### the plain law, third part: levels, flags, lines -/
theorem word_comma : ∀ k < 32, 44 ∉ (word k).cps.toList := by decide +kernel
theorem x0_comma : 44 ∉ (baseText "0x" 16 0).cps.toList := by decide +kernel
theorem word_ne : ∀ i < 32, ∀ j < i, word i ≠ word j := by decide +kernel
theorem word_x0 : ∀ i < 32, word i ≠ baseText "0x" 16 0 := by decide +kernel
theorem word_inj {i j : Nat} (hi : i < 32) (hj : j < 32) (h : word i = word j) : i = j := by
  rcases Nat.lt_trichotomy i j with q | q | q
  · exact absurd h.symm (word_ne j hj i q)
  · exact q
  · exact absurd h (word_ne i hi j q)
def flsB (b0 b1 b2 : Bool) : List Nat := (if b0 then [0] else []) ++ (if b1 then [1] else []) ++ (if b2 then [2] else [])
def xB (base : Nat) (b0 b1 b2 : Bool) : Nat := ((flsB b0 b1 b2).map fun f => 2 ^ (base + f)).sum
theorem bits_dec : ∀ base < 30, ∀ b0 b1 b2 : Bool, xB base b0 b1 b2 < 2 ^ 32 ∧ bitsTo (xB base b0 b1 b2) 32 = (flsB b0 b1 b2).map (base + ·) := by decide +kernel
def wordsB (base : Nat) (b0 b1 b2 : Bool) : List Str := if flsB b0 b1 b2 = [] then [baseText "0x" 16 0] else (flsB b0 b1 b2).map fun f => word (base + f)
theorem fls_lt : ∀ b0 b1 b2 : Bool, ∀ f ∈ flsB b0 b1 b2, f < 3 := by decide
theorem wordsOf_B {base : Nat} (hb : base < 30) (b0 b1 b2 : Bool) : wordsOf (xB base b0 b1 b2) = wordsB base b0 b1 b2 := by
  obtain ⟨_, e⟩ := bits_dec base hb b0 b1 b2
  unfold wordsOf wordsB
  by_cases h : flsB b0 b1 b2 = []
  · rw [if_pos h, if_pos (by unfold xB; rw [h]; rfl)]
  · rw [if_neg h, if_neg (fun w => ?_), e, List.map_map]; rfl
    rw [w] at e
    have : bitsTo 0 32 = [] := by decide
    rw [this] at e
    exact h (by simpa using e.symm)
theorem split_B {base : Nat} (hb : base < 30) (b0 b1 b2 : Bool) : Txt.split (Txt.join ", " (wordsOf (xB base b0 b1 b2))) ", " = wordsB base b0 b1 b2 := by
  rw [wordsOf_B hb]
  refine split_join ?_ fun w hw => ?_
  · unfold wordsB; split
    · simp
    · simpa using ‹¬ flsB b0 b1 b2 = []›
  · unfold wordsB at hw
    split at hw
    · rw [List.mem_singleton.mp hw]; exact x0_comma
    · obtain ⟨f, hf, rfl⟩ := List.mem_map.mp hw
      exact word_comma _ (by have := fls_lt _ _ _ f hf; omega)
theorem free_B {base : Nat} (hb : base < 30) (b0 b1 b2 : Bool) {f : Nat} (hf : f < 3) : word (base + f) ∈ wordsB base b0 b1 b2 ↔ f ∈ flsB b0 b1 b2 := by
  unfold wordsB
  split
  · rename_i h
    rw [h, List.mem_singleton]
    exact ⟨fun w => absurd w (word_x0 _ (by omega)), fun w => by cases w⟩
  · rw [List.mem_map]
    constructor
    · rintro ⟨f', h1, h2⟩
      have := word_inj (by have := fls_lt _ _ _ f' h1; omega) (by omega) h2
      rwa [show f = f' by omega]
    · intro h; exact ⟨f, h, rfl⟩
structure Good (ps : List (Nat × Nat)) (Ls fs : List Nat) (full : Nat) : Prop where
  fl : fs.length = Ls.length
  lev : LevOk (loN ps) (hiN ps) (LN Ls) Ls.length
  lt : ∀ j, j < Ls.length → LN Ls j < full
  f3 : ∀ j, j < Ls.length → LN fs j < 3
  apart : ∀ i, i < Ls.length → ∀ j, j < Ls.length → i ≠ j → LN Ls i = LN Ls j → LN fs i = LN fs j → 1 ≤ LN Ls i → ¬ (loN ps i < hiN ps j ∧ loN ps j < hiN ps i)
theorem Good.zero {ps : List (Nat × Nat)} {full : Nat} : Good ps [] [] full where
  fl := rfl
  lev := ⟨fun i h => (by cases h), fun i h => (by cases h)⟩
  lt := fun j h => by cases h
  f3 := fun j h => by cases h
  apart := fun i h => by cases h
theorem lev_step {ps : List (Nat × Nat)} {Ls fs : List Nat} {full k : Nat} (G : Good ps Ls fs full) (hk : FitN ps Ls k) (hlow : ∀ j, j < k → ¬ FitN ps Ls j) : LevOk (loN ps) (hiN ps) (LN (Ls ++ [k])) (Ls ++ [k]).length := by
  rw [List.length_append, List.length_singleton]
  refine (G.lev.congr fun j hj => (LN_old hj).symm).next (fun a h1 h2 => ?_) fun j hj => ?_
  · rw [LN_new, cntP_congr fun j hj => LN_old hj]; exact hk a h1 h2
  · rw [LN_new] at hj
    have := hlow j hj
    unfold FitN at this
    rw [Classical.not_forall] at this
    obtain ⟨a, ha⟩ := this
    rw [Classical.not_imp] at ha
    obtain ⟨h1, ha⟩ := ha
    rw [Classical.not_imp] at ha
    obtain ⟨h2, ha⟩ := ha
    have e := cntP_congr (lo := loN ps) (hi := hiN ps) (n := Ls.length) (a := a) (k := j) (L := LN (Ls ++ [k])) (L' := LN Ls) fun i hi => LN_old hi
    exact ⟨a, h1, h2, by rw [e]; omega⟩
theorem Good.step {ps : List (Nat × Nat)} {Ls fs : List Nat} {full k f : Nat} (G : Good ps Ls fs full) (hk : FitN ps Ls k) (hlow : ∀ j, j < k → ¬ FitN ps Ls j) (hkf : k < full) (hf : f < 3)
    (hap : 1 ≤ k → ∀ j, j < Ls.length → LN Ls j = k → loN ps j < hiN ps Ls.length ∧ loN ps Ls.length < hiN ps j → LN fs j ≠ f) : Good ps (Ls ++ [k]) (fs ++ [f]) full where
  fl := by simp [G.fl]
  lev := lev_step G hk hlow
  lt := fun j hj => by
    rw [List.length_append, List.length_singleton] at hj
    rcases Nat.lt_or_ge j Ls.length with q | q
    · rw [LN_old q]; exact G.lt j q
    · rw [show j = Ls.length by omega, LN_new]; exact hkf
  f3 := fun j hj => by
    rw [List.length_append, List.length_singleton] at hj
    rcases Nat.lt_or_ge j Ls.length with q | q
    · rw [LN_old (by rw [G.fl]; exact q)]; exact G.f3 j q
    · rw [show j = fs.length by rw [G.fl]; omega, LN_new]; exact hf
  apart := fun i hi j hj hij e1 e2 h1 => by
    rw [List.length_append, List.length_singleton] at hi hj
    have hnew : ∀ j, j < Ls.length → k = LN Ls j → LN fs j = f → 1 ≤ k → ¬ (loN ps j < hiN ps Ls.length ∧ loN ps Ls.length < hiN ps j) := fun j hj e1 e2 h1 hm => hap h1 j hj e1.symm hm e2
    have en : LN (fs ++ [f]) Ls.length = f := by rw [← G.fl, LN_new]
    rcases Nat.lt_or_ge i Ls.length with q | q
    · rcases Nat.lt_or_ge j Ls.length with r | r
      · rw [LN_old q, LN_old r] at e1
        rw [LN_old (by rw [G.fl]; exact q), LN_old (by rw [G.fl]; exact r)] at e2
        rw [LN_old q] at h1
        exact G.apart i q j r hij e1 e2 h1
      · have ej : j = Ls.length := by omega
        subst ej
        rw [LN_old q, LN_new] at e1
        rw [LN_old (by rw [G.fl]; exact q), en] at e2
        rw [LN_old q, e1] at h1
        exact fun ⟨m1, m2⟩ => hnew i q e1.symm e2 h1 ⟨m1, m2⟩
    · have ei : i = Ls.length := by omega
      subst ei
      have r : j < Ls.length := by omega
      rw [LN_old r, LN_new] at e1
      rw [LN_old (j := j) (by rw [G.fl]; exact r), en] at e2
      rw [LN_new] at h1
      exact fun ⟨m1, m2⟩ => hnew j r e1 e2.symm h1 ⟨m2, m1⟩
def lineN (Ls fs : List Nat) (j : Nat) : Nat := if LN Ls j = 0 then 0 else 3 * LN Ls j - 2 + LN fs j
theorem lineN_lt {ps : List (Nat × Nat)} {Ls fs : List Nat} {full j : Nat} (G : Good ps Ls fs full) (hj : j < Ls.length) : lineN Ls fs j < 3 * full - 2 := by
  have := G.lt j hj
  have := G.f3 j hj
  unfold lineN; split <;> omega
theorem line_apart {ps : List (Nat × Nat)} {Ls fs : List Nat} {full i j : Nat} (G : Good ps Ls fs full) (hlt : ∀ j, j < Ls.length → loN ps j < hiN ps j) (hi : i < Ls.length) (hj : j < Ls.length) (hij : i ≠ j) (e : lineN Ls fs i = lineN Ls fs j) : ¬ (loN ps i < hiN ps j ∧ loN ps j < hiN ps i) := by
  have a1 := G.f3 i hi
  have a2 := G.f3 j hj
  have l1 := hlt i hi
  have l2 := hlt j hj
  unfold lineN at e
  by_cases h0 : LN Ls i = 0
  · have h0' : LN Ls j = 0 := by
      rw [if_pos h0] at e
      by_cases w : LN Ls j = 0
      · exact w
      · rw [if_neg w] at e; omega
    rintro ⟨m1, m2⟩
    rcases Nat.lt_or_ge i j with q | q
    · have z := fun a => G.lev.zero (a := a) q hj h0 h0'
      have := z (max (loN ps i) (loN ps j)) (by omega) (by omega)
      omega
    · have z := fun a => G.lev.zero (a := a) (show j < i by omega) hi h0' h0
      have := z (max (loN ps i) (loN ps j)) (by omega) (by omega)
      omega
  · have h0' : LN Ls j ≠ 0 := fun w => by rw [if_neg h0, if_pos w] at e; omega
    rw [if_neg h0, if_neg h0'] at e
    exact G.apart i hi j hj hij (by omega) (by omega) (by omega)
theorem flag_free {ps : List (Nat × Nat)} {Ls fs : List Nat} {full k : Nat} (G : Good ps Ls fs full) (hk : FitN ps Ls k) (hlow : ∀ j, j < k → ¬ FitN ps Ls j) (h1 : 1 ≤ k) : ¬ ∀ f, f < 3 → ∃ j, j < Ls.length ∧ LN Ls j = k ∧ (loN ps j < hiN ps Ls.length ∧ loN ps Ls.length < hiN ps j) ∧ LN fs j = f := fun h => by
  obtain ⟨x, x1, x2, x3, x4⟩ := h 0 (by decide)
  obtain ⟨y, y1, y2, y3, y4⟩ := h 1 (by decide)
  obtain ⟨z, z1, z2, z3, z4⟩ := h 2 (by decide)
  have L := lev_step G hk hlow
  have hl : (Ls ++ [k]).length = Ls.length + 1 := by simp
  exact L.three (i := Ls.length) (x := x) (y := y) (z := z) (by omega) (by omega) (by omega) (by omega) (by rw [LN_new]; exact h1) (by rw [LN_old x1, LN_new]; exact x2) (by rw [LN_old y1, LN_new]; exact y2) (by rw [LN_old z1, LN_new]; exact z2)
    (by omega) (by omega) (by omega) (by rintro rfl; omega) (by rintro rfl; omega) (by rintro rfl; omega) x3 y3 z3
theorem zero_free {ps : List (Nat × Nat)} {Ls fs : List Nat} {full : Nat} (G : Good ps Ls fs full) (hlt : ∀ j, j ≤ Ls.length → loN ps j < hiN ps j) (hk : FitN ps Ls 0) {j : Nat} (hj : j < Ls.length) (hL : LN Ls j = 0) : ¬ (loN ps j < hiN ps Ls.length ∧ loN ps Ls.length < hiN ps j) := by
  have L := lev_step G hk fun j h => by cases h
  have hl : (Ls ++ [0]).length = Ls.length + 1 := by simp
  have l1 := hlt j (by omega)
  have l2 := hlt Ls.length (Nat.le_refl _)
  rintro ⟨m1, m2⟩
  have z := fun a => L.zero (a := a) hj (by omega) (by rw [LN_old hj]; exact hL) LN_new
  have := z (max (loN ps j) (loN ps Ls.length)) (by omega) (by omega)
  omega
/-! the fullest place -/
theorem range_getD {α : Type} (d : α) (l : List α) : (List.range l.length).map (fun j => l.getD j d) = l := by
  apply List.ext_getElem?
  intro i
  rw [List.getElem?_map]
  rcases Nat.lt_or_ge i l.length with h | h
  · rw [List.getElem?_range h, List.getElem?_eq_getElem h]
    simp [List.getD_eq_getElem?_getD, List.getElem?_eq_getElem h]
  · rw [List.getElem?_eq_none (by simpa using h), List.getElem?_eq_none h]; rfl
theorem covP_cntOn {ps : List (Nat × Nat)} {a : Nat} : covP (loN ps) (hiN ps) ps.length a = cntOn ps a := by
  unfold covP cntOn
  conv => rhs; rw [← range_getD (0, 0) ps]
  rw [List.countP_map]; rfl
theorem cntOn_le {ps : List (Nat × Nat)} {full : Nat} (h : ∀ v ∈ ps, cntOn ps v.1 ≤ full) : ∀ a, cntOn ps a ≤ full
  | 0 => by
    by_cases q : ∃ v ∈ ps, v.1 = 0
    · obtain ⟨v, hv, e⟩ := q; rw [← e]; exact h v hv
    · have : cntOn ps 0 = 0 := by
        unfold cntOn
        rw [List.countP_eq_zero]
        intro v hv w
        simp only [decide_eq_true_eq] at w
        exact q ⟨v, hv, by omega⟩
      omega
  | a + 1 => by
    by_cases q : ∃ v ∈ ps, v.1 = a + 1
    · obtain ⟨v, hv, e⟩ := q; rw [← e]; exact h v hv
    · refine Nat.le_trans ?_ (cntOn_le h a)
      unfold cntOn
      refine List.countP_mono_left fun v hv w => ?_
      simp only [decide_eq_true_eq] at w ⊢
      have : v.1 ≠ a + 1 := fun e => q ⟨v, hv, e⟩
      omega
theorem fit_last {ps : List (Nat × Nat)} {Ls : List Nat} {full : Nat} (hn : Ls.length < ps.length) (hf : ∀ v ∈ ps, cntOn ps v.1 ≤ full) (h1 : 1 ≤ full) : FitN ps Ls (full - 1) := fun a ha hb =>
  fits_below hn (fun a => by rw [covP_cntOn]; exact cntOn_le hf a) h1 a ha hb
theorem first_fit {P : Nat → Prop} {n : Nat} (h : P n) : ∃ k, k ≤ n ∧ P k ∧ ∀ j, j < k → ¬ P j := by
  induction n using Nat.strongRecOn with
  | ind n ih =>
    by_cases q : ∃ j, j < n ∧ P j
    · obtain ⟨j, hj, hP⟩ := q
      obtain ⟨k, hk, h1, h2⟩ := ih j hj hP
      exact ⟨k, by omega, h1, h2⟩
    · exact ⟨n, Nat.le_refl _, h, fun j hj hP => q ⟨j, hj, hP⟩⟩
end Mine
end
section
namespace Mine
def forBody : List Stmt := match (dBody (topStmt 21)).getD 15 (.Pass default) with
  | .For _ _ b _ _ => b
  | _ => []
theorem Rows.notin {p : HP} {a : Addr} {ts : List Addr} {rows : List (List Int)} (h : Rows p a ts rows) {b : Addr} {o : AO} (hb : p b = some o) (ho : ∀ xs, o ≠ .list xs) : b ∉ ts := fun hT => by
  obtain ⟨k, hk⟩ := List.mem_iff_getElem?.mp hT
  have hk' := (List.getElem?_eq_some_iff.mp hk).1
  have := h.2.2.2 k b _ hk (List.getElem?_eq_getElem (by rw [← h.2.1]; exact hk'))
  rw [this] at hb; injection hb with hb
  exact ho _ hb.symm
theorem Rows.frame {p p' : HP} {a : Addr} {ts : List Addr} {rows : List (List Int)} (h : Rows p a ts rows) (ha : p' a = p a) (ht : ∀ T ∈ ts, ∀ o, p T = some o → p' T = some o) : Rows p' a ts rows :=
  ⟨ha.trans h.1, h.2.1, h.2.2.1, fun k T r e1 e2 => ht T (List.mem_of_getElem? e1) _ (h.2.2.2 k T r e1 e2)⟩
abbrev intsN (l : List Nat) : List Int := l.map fun x : Nat => (x : Int)
theorem intsN_getD {l : List Nat} {j : Nat} : (intsN l).getD j 0 = ((l.getD j 0 : Nat) : Int) := by
  rw [List.getD_eq_getElem?_getD, List.getElem?_map, List.getD_eq_getElem?_getD]
  cases l[j]? <;> rfl
theorem turn_1 {C : Cx} (W : WOk C) {A : Around} {g : Heap} {fr : Fm} {E : Value → Shared → Prop} {loc : LOC} {hp : HP} {Q : Flow → LOC → HP → Prop} (LA : LawAt A fr)
    {role : Addr → Nat} {Fix : HP} {lv ln fi la : Addr} {bts ets tts rts xts : List Addr} (LY : Lay role Fix lv ln fi la bts ets tts rts xts) {bg en pl st th T : Addr} {ps : List (Nat × Nat)} {Ls : List Nat} {full : Nat} {bss ess rows : List (List Int)}
    (l1 : loc "i" = some (iv Ls.length)) (l2 : loc "span" = some (.ref T)) (l3 : loc "begins" = some (.ref bg)) (l4 : loc "ends" = some (.ref en)) (l5 : loc "there" = some (.ref th)) (l6 : loc "levels" = some (.ref lv))
    (hsp : hp T = some (.tuple [iv (loN ps Ls.length), iv (hiN ps Ls.length)])) (hb : Rows hp bg bts bss) (he : Rows hp en ets ess) (hth : Rows hp th tts rows) (hlv : hp lv = some (.list ((intsN Ls).map iv)))
    (rbg : role bg = 0) (ren : role en = 0) (rth : role th = 0) (B : BegOk ps Ls full bss ess) (TH : ThereOk ps Ls rows) (hlt : ∀ j, loN ps j ≤ hiN ps j) (hlt' : loN ps Ls.length < hiN ps Ls.length) (hhi : hiN ps Ls.length ≤ 23) (hn : Ls.length < 10) (hf : 1 ≤ full ∧ full ≤ 10) (hfit : FitN ps Ls (full - 1))
    (h : ∀ k p', k < full → FitN ps Ls k → (∀ j, j < k → ¬ FitN ps Ls j) → Rows p' bg bts (bss.set k (insI (bss.getD k []) (bisL (bss.getD k []) (loN ps Ls.length)) (loN ps Ls.length))) → Rows p' en ets (ess.set k (insI (ess.getD k []) (bisR (ess.getD k []) (hiN ps Ls.length)) (hiN ps Ls.length))) → Rows p' th tts (addRows rows (loN ps Ls.length) (hiN ps Ls.length) k) →
      p' lv = some (.list ((intsN (Ls ++ [k])).map iv)) → (∀ b o, role b ≠ 1 → role b ≠ 5 → role b ≠ 6 → role b ≠ 7 → hp b = some o → p' b = some o) → (∀ b o, (∀ xs, o ≠ .list xs) → hp b = some o → p' b = some o) → awf C A g fr E (execs (forBody.drop 2) fr.env) loc p' Q) :
    awf C A g fr E (execs forBody fr.env) loc hp Q := by
  obtain ⟨F, hroom, hh, hfrm, hlf, hun, hcode, hqual⟩ := LA
  have hgL := W.gLevel
  obtain ⟨pmL, FL⟩ := W.fLevel
  have hgD := W.gDue
  obtain ⟨pmD, FD⟩ := W.fDue
  refine aw_execs_cons ?_
  repeat' walk_at "kl"
  refine ⟨_, meth_list PySem.F.slot_list_append PySem.F.type_list_append hlv, ?_⟩
  repeat' walk_at "kl"
  obtain ⟨bl1, bl2⟩ := B.len
  have hbe : ∀ U ∈ bts, U ∉ ets := fun U h1 h2 => by have e1 := LY.bts U h1; have e2 := LY.ets U h2; omega
  refine law_level_ok W (by omega) hh hsp hb he hlt' (by omega) (by rw [B.lb, B.le]) (by rw [B.lb]; omega) (fun r hr => ⟨by have := bl1 r hr; omega, B.sb r hr⟩) (fun r hr => ⟨by have := bl2 r hr; omega, B.se r hr⟩) hbe (fun p' hno _ => ?_) fun k p₁ hk hfk hlow hb' he' hfr => ?_
  · rw [B.lb] at hno
    exact absurd ((B.fits hlt (by omega)).mpr hfit) (hno (full - 1) (by omega))
  rw [B.lb] at hk
  have hFk := (B.fits hlt hk).mp hfk
  have hlow' : ∀ j, j < k → ¬ FitN ps Ls j := fun j hj w => hlow j hj ((B.fits hlt (by omega)).mpr w)
  have n5 : ∀ b, role b ≠ 5 → b ∉ bts := fun b hb h => hb (LY.bts b h)
  have n6 : ∀ b, role b ≠ 6 → b ∉ ets := fun b hb h => hb (LY.ets b h)
  have hlv1 := hfr lv _ (n5 _ (by rw [LY.lv]; decide)) (n6 _ (by rw [LY.lv]; decide)) hlv
  repeat' walk_at "kl"
  refine ⟨kp_builtin, m_append hlv1 (by simp; omega) ⟨rfl, ?_⟩⟩
  have hlv2 : hset p₁ lv (.list ((intsN Ls).map iv ++ [iv k])) lv = some (.list ((intsN (Ls ++ [k])).map iv)) := by rw [hset_eq]; simp [intsN]
  have hk2 : ∀ b o, b ≠ lv → p₁ b = some o → hset p₁ lv (.list ((intsN Ls).map iv ++ [iv k])) b = some o := fun b o hb e => by rw [hset_ne _ _ hb]; exact e
  generalize hset p₁ lv (.list ((intsN Ls).map iv ++ [iv k])) = p₂ at hlv2 hk2 ⊢
  have nlv : ∀ b, role b ≠ 1 → b ≠ lv := fun b hb h => hb (by rw [h]; exact LY.lv)
  have tT : T ∉ bts ∧ T ∉ ets ∧ T ≠ lv := ⟨hb.notin hsp fun xs => by simp, he.notin hsp fun xs => by simp, by rintro rfl; rw [hlv] at hsp; cases hsp⟩
  have hsp2 := hk2 T _ tT.2.2 (hfr T _ tT.1 tT.2.1 hsp)
  have hth1 : p₂ th = hp th := (hk2 th _ (nlv _ (by rw [rth]; decide)) (hfr th _ (n5 _ (by rw [rth]; decide)) (n6 _ (by rw [rth]; decide)) hth.1)).trans hth.1.symm
  have hth2 : Rows p₂ th tts rows := hth.frame hth1 fun U hU o e => by
    have r := LY.tts U hU
    exact hk2 U _ (nlv _ (by rw [r]; decide)) (hfr U _ (n5 _ (by rw [r]; decide)) (n6 _ (by rw [r]; decide)) e)
  repeat' walk_at "kl"
  refine sub_int (by intro _ _; with_unfolding_all rfl) hlv2 (by omega) (by simp [intsN]; omega) (by simp [intsN]; omega) ?_
  rw [Int.toNat_natCast, intsN_getD, show (Ls ++ [k]).getD Ls.length 0 = k from LN_new]
  repeat' walk_at "kl"
  refine law_due_ok W (by omega) hh hsp2 hth2 hlt' (by rw [TH.len]; omega) (by rw [TH.len]; decide) (fun r hr => by have := TH.sizes r hr; omega) (fun p' hno _ => ?_) fun k' p₃ hk' hfk' hlow'' hth3 hfr3 => ?_
  · exact absurd ((TH.fits (by omega)).mpr hFk) (hno k (by omega))
  have ek : k' = k := by
    have hF' := (TH.fits (by omega)).mp hfk'
    rcases Nat.lt_trichotomy k' k with q | q | q
    · exact absurd hF' (hlow' k' q)
    · exact q
    · exact absurd ((TH.fits (by omega)).mpr hFk) (hlow'' k q)
  subst ek
  have n7 : ∀ b, role b ≠ 7 → b ∉ tts := fun b hb h => hb (LY.tts b h)
  repeat' walk_at "kl"
  rw [if_neg (by simp)]
  have all1 : ∀ b o, role b ≠ 1 → role b ≠ 5 → role b ≠ 6 → role b ≠ 7 → hp b = some o → p₃ b = some o := fun b o h1 h5 h6 h7 e => hfr3 b o (n7 b h7) (hk2 b o (nlv b h1) (hfr b o (n5 b h5) (n6 b h6) e))
  have all2 : ∀ b o, (∀ xs, o ≠ .list xs) → hp b = some o → p₃ b = some o := fun b o ho e => by
    have e1 := hfr b o (hb.notin e ho) (he.notin e ho) e
    have e2 := hk2 b o (by rintro rfl; rw [hlv] at e; injection e with e; exact ho _ e.symm) e1
    exact hfr3 b o (hth2.notin e2 ho) e2
  have mv : ∀ {a : Addr} {ts : List Addr} {rs : List (List Int)}, Rows p₁ a ts rs → role a = 0 → (∀ U ∈ ts, role U ≠ 1 ∧ role U ≠ 7) → Rows p₃ a ts rs := fun {a ts rs} hR ra hU => by
    refine hR.frame ?_ fun U h o e => hfr3 U o (n7 U (hU U h).2) (hk2 U o (nlv U (hU U h).1) e)
    rw [hR.1]
    exact hfr3 a _ (n7 a (by rw [ra]; decide)) (hk2 a _ (nlv a (by rw [ra]; decide)) hR.1)
  refine aw_execs_nil ?_
  exact h k' p₃ hk hFk hlow' (mv hb' rbg fun U hU => by rw [LY.bts U hU]; decide) (mv he' ren fun U hU => by rw [LY.ets U hU]; decide) hth3 (hfr3 lv _ (n7 _ (by rw [LY.lv]; decide)) hlv2) all1 all2
end Mine
end
section
namespace Mine
section
variable {C : Cx} {A : Around} {g : Heap} {fr : Fm} {E : Value → Shared → Prop} {loc : LOC} {hp : HP}
theorem aw_Or {x y : Expr} {pos : Pos} {Q : Value → LOC → HP → Prop} (h : awv C A g fr E (eval x fr.env) loc hp fun v l p => on1 C A g fr E truthy v l p fun b l p => if b then Q v l p else awv C A g fr E (eval y fr.env) l p Q) :
    awv C A g fr E (eval (.BoolOp .Or [x, y] pos) fr.env) loc hp Q := by
  refine aw_congr (show eval (.BoolOp .Or [x, y] pos) fr.env = boolOp pos .Or [eval x fr.env, eval y fr.env] from rfl) ?_
  unfold boolOp
  refine aw_bind (aw_mono h fun v l p hv => aw_bind (aw_standAt (aw_bind (aw_holding (aw_mono (hv v rfl) fun b l p hb => ?_)))))
  cases b with
  | true => exact aw_pure hb
  | false => unfold boolOp; exact hb
theorem t_list {a : Addr} {xs : List Value} {Q : Bool → LOC → HP → Prop} (ha : hp a = some (.list xs)) (hsz : xs.length ≤ 100000) (h : Q (decide (xs ≠ [])) loc hp) : on1 C A g fr E truthy (.ref a) loc hp Q := by
  intro v hv
  have := nm_ref hv; subst this
  intro s R S
  obtain ⟨vs, n, e, q⟩ := R.list ha
  have hz := nm_size q
  refine wpAny_truthy_list ⟨_, e, rfl, n, rfl⟩ (by omega) ⟨S, loc, hp, R, ?_⟩
  have : (!vs.isEmpty) = decide (xs ≠ []) := by
    rw [Array.isEmpty]
    cases xs with
    | nil => simp at hz; simp [hz]
    | cons x xs => simp at hz; simp [hz]
  rw [this]; exact h
end
theorem metL_mem {ps : List (Nat × Nat)} {Ls : List Nat} {k : Nat} {v : Int} : v ∈ metL ps (intsN (Ls ++ [k])) Ls.length ↔ ∃ j : Nat, v = j ∧ j < Ls.length ∧ LN Ls j = k ∧ (loN ps j < hiN ps Ls.length ∧ loN ps Ls.length < hiN ps j) := by
  unfold metL nearL
  rw [List.mem_filter, List.mem_filter, mem_rangeL]
  simp only [decide_eq_true_eq]
  rw [intsN_getD, intsN_getD, show (Ls ++ [k]).getD Ls.length 0 = k from LN_new]
  have hl : (intsN (Ls ++ [k])).length = Ls.length + 1 := by simp [intsN]
  rw [hl]
  constructor
  · rintro ⟨⟨⟨h1, h2⟩, h3, h4⟩, h5, h6⟩
    have e : ((v.toNat : Nat) : Int) = v := by omega
    have hj : v.toNat < Ls.length := by omega
    refine ⟨v.toNat, e.symm, hj, ?_, h5, h6⟩
    have : (Ls ++ [k]).getD v.toNat 0 = LN Ls v.toNat := LN_old hj
    rw [this] at h4; omega
  · rintro ⟨j, rfl, hj, hL, h5, h6⟩
    rw [Int.toNat_natCast]
    have : (Ls ++ [k]).getD j 0 = LN Ls j := LN_old hj
    rw [this, hL]
    exact ⟨⟨⟨by omega, by omega⟩, by omega, rfl⟩, h5, h6⟩
def takenL (ps : List (Nat × Nat)) (Ls fs : List Nat) (k : Nat) : List Int := (metL ps (intsN (Ls ++ [k])) Ls.length).map fun v => ((intsN ((List.range Ls.length).map (lineN Ls fs))).getD v.toNat 0 - 1) % 3
theorem lines_get {Ls fs : List Nat} {j : Nat} (hj : j < Ls.length) : (intsN ((List.range Ls.length).map (lineN Ls fs))).getD j 0 = (lineN Ls fs j : Nat) := by
  rw [intsN_getD, List.getD_eq_getElem?_getD, List.getElem?_map, List.getElem?_range hj]; rfl
theorem taken_mem {ps : List (Nat × Nat)} {Ls fs : List Nat} {full k f : Nat} (G : Good ps Ls fs full) (h1 : 1 ≤ k) : (f : Int) ∈ takenL ps Ls fs k ↔ ∃ j, j < Ls.length ∧ LN Ls j = k ∧ (loN ps j < hiN ps Ls.length ∧ loN ps Ls.length < hiN ps j) ∧ LN fs j = f := by
  unfold takenL
  rw [List.mem_map]
  have key : ∀ j, j < Ls.length → LN Ls j = k → (((intsN ((List.range Ls.length).map (lineN Ls fs))).getD j 0 - 1) % 3 : Int) = (LN fs j : Nat) := fun j hj hL => by
    rw [lines_get hj]
    have := G.f3 j hj
    unfold lineN
    rw [if_neg (by omega), hL]
    omega
  constructor
  · rintro ⟨v, hv, e⟩
    obtain ⟨j, rfl, hj, hL, hm⟩ := metL_mem.mp hv
    rw [Int.toNat_natCast, key j hj hL] at e
    exact ⟨j, hj, hL, hm, by omega⟩
  · rintro ⟨j, hj, hL, hm, e⟩
    exact ⟨j, metL_mem.mpr ⟨j, rfl, hj, hL, hm⟩, by rw [Int.toNat_natCast, key j hj hL, e]⟩
theorem fls_mem {b0 b1 b2 : Bool} {f : Nat} : f ∈ flsB b0 b1 b2 ↔ (f = 0 ∧ b0 = true) ∨ (f = 1 ∧ b1 = true) ∨ (f = 2 ∧ b2 = true) := by
  unfold flsB
  cases b0 <;> cases b1 <;> cases b2 <;> simp
theorem fm_fls {tk : List Int} {g : Int → Value} : (rangeL 0 3).filterMap (fun x => if x ∈ tk then some (g x) else none) = (flsB (decide ((0 : Int) ∈ tk)) (decide ((1 : Int) ∈ tk)) (decide ((2 : Int) ∈ tk))).map fun f : Nat => g (f : Int) := by
  have e : rangeL 0 3 = [0, 1, 2] := by decide
  rw [e]
  unfold flsB
  by_cases h0 : (0 : Int) ∈ tk <;> by_cases h1 : (1 : Int) ∈ tk <;> by_cases h2 : (2 : Int) ∈ tk <;> simp [h0, h1, h2]
theorem sum_cast {l : List Nat} {g : Nat → Nat} : (l.map fun f => ((g f : Nat) : Int)).sum = ((l.map g).sum : Nat) := by
  induction l with
  | nil => rfl
  | cons x l ih => rw [List.map_cons, List.map_cons, List.sum_cons, List.sum_cons, ih]; omega
theorem join_len {W : List Str} (h : W ≠ []) (hw : ∀ w ∈ W, w.length ≤ 100) : (Txt.join ", " W).length ≤ 102 * W.length := by
  have e := congrArg List.length (join_list h)
  rw [Array.length_toList] at e
  have e' : (Txt.join ", " W).length = (joinL (W.map fun p => p.cps.toList)).length := e
  rw [e']
  clear e e'
  match W, h, hw with
  | w :: W, _, hw =>
    rw [joinL_flat, List.length_append, Array.length_toList]
    have h1 : w.cps.size ≤ 100 := hw w (.head _)
    have h2 : ∀ V : List Str, (∀ v ∈ V, v.length ≤ 100) → (V.flatMap fun p => [44, 32] ++ p.cps.toList).length ≤ 102 * V.length := fun V hV => by
      induction V with
      | nil => simp
      | cons v V ih =>
        rw [List.flatMap_cons, List.length_append, List.length_cons]
        have h3 : v.cps.size ≤ 100 := hV v (.head _)
        have h4 := ih fun u hu => hV u (.tail _ hu)
        have h5 : ([44, 32] ++ v.cps.toList : List Nat).length = v.cps.size + 2 := by simp
        omega
    have h3 := h2 W fun v hv => hw v (.tail _ hv)
    rw [List.length_cons]
    omega
theorem wordsB_len {base : Nat} (hb : base < 30) {b0 b1 b2 : Bool} : (Txt.join ", " (wordsB base b0 b1 b2)).length ≤ 1000 := by
  have h1 : wordsB base b0 b1 b2 ≠ [] := by
    unfold wordsB; split
    · simp
    · simpa using ‹¬ flsB b0 b1 b2 = []›
  have h2 : (wordsB base b0 b1 b2).length ≤ 3 := by
    have : ∀ b0 b1 b2 : Bool, (flsB b0 b1 b2).length ≤ 3 := by decide
    unfold wordsB; split
    · simp
    · rw [List.length_map]; exact this _ _ _
  have := join_len h1 fun w hw => by
    unfold wordsB at hw
    split at hw
    · rw [List.mem_singleton.mp hw]; exact baseText_small (by decide)
    · obtain ⟨f, hf, rfl⟩ := List.mem_map.mp hw
      exact word_len (by have := fls_lt _ _ _ f hf; omega)
  omega
theorem sameV_flat {p : HP} {xs : List Value} (hf : ∀ x ∈ xs, FlatV x) : ∀ (i : Nat) v w, xs[i]? = some v → xs[i]? = some w → SameV p v w := fun i v w a b => by
  rw [a] at b; injection b with b; subst b
  exact .inl ⟨hf v (List.mem_of_getElem? a), rfl⟩
theorem marks_get {base : Nat} {x : Int} (h0 : 0 ≤ x) (h3 : x < 3) : ([base, base + 1, base + 2].map fun k => Value.str (word k) 0)[x.toNat]? = some (.str (word (base + x.toNat)) 0) := by
  have : x = 0 ∨ x = 1 ∨ x = 2 := by omega
  rcases this with rfl | rfl | rfl <;> rfl
theorem x0_text : baseText "0x" 16 0 = "0x0" := by decide +kernel
theorem lines_snoc {Ls fs : List Nat} {k f : Nat} (hfl : fs.length = Ls.length) : (List.range (Ls ++ [k]).length).map (lineN (Ls ++ [k]) (fs ++ [f])) = (List.range Ls.length).map (lineN Ls fs) ++ [if k = 0 then 0 else 3 * k - 2 + f] := by
  rw [List.length_append, List.length_singleton, List.range_succ, List.map_append]
  congr 1
  · refine List.map_congr_left fun j hj => ?_
    have hj' := List.mem_range.mp hj
    unfold lineN
    rw [LN_old hj', LN_old (by omega)]
  · show [lineN (Ls ++ [k]) (fs ++ [f]) Ls.length] = _
    unfold lineN
    rw [LN_new, show LN (fs ++ [f]) Ls.length = f by rw [← hfl, LN_new]]
theorem intsN_snoc {l : List Nat} {x : Nat} : intsN (l ++ [x]) = intsN l ++ [(x : Int)] := by simp [intsN]
theorem turn_2b {C : Cx} (W : WOk C) {A : Around} {g : Heap} {fr : Fm} {E : Value → Shared → Prop} {loc : LOC} {hp : HP} {Q : Flow → LOC → HP → Prop} (LA : LawAt A fr)
    {Dm Dw lv ln : Addr} {ps : List (Nat × Nat)} {Ls fs : List Nat} {full base k : Nat} {tk : List Int} {b0 b1 b2 : Bool}
    (l1 : loc "i" = some (iv Ls.length)) (l3 : loc "levels" = some (.ref lv)) (l4 : loc "lines" = some (.ref ln)) (l6 : loc "marks" = some (.ref Dm)) (l7 : loc "words" = some (.ref Dw))
    (hlv : hp lv = some (.list ((intsN (Ls ++ [k])).map iv))) (hln : hp ln = some (.list ((intsN ((List.range Ls.length).map (lineN Ls fs))).map iv))) (hm : hp Dm = some (.list ([base, base + 1, base + 2].map fun k => .str (word k) 0))) (hW : hp Dw = some (.list ((wordsB base b0 b1 b2).map fun z => .str z 0)))
    (htk : tk = takenL ps Ls fs k) (hb0 : b0 = decide ((0 : Int) ∈ tk)) (hb1 : b1 = decide ((1 : Int) ∈ tk)) (hb2 : b2 = decide ((2 : Int) ∈ tk))
    (G : Good ps Ls fs full) (hk : k < full) (hfk : FitN ps Ls k) (hlow : ∀ j, j < k → ¬ FitN ps Ls j) (hb : base < 30) (hn : Ls.length < 10) (hfl : full ≤ 10)
    (h : ∀ loc' f p', f < 3 → (1 ≤ k → ∀ j, j < Ls.length → LN Ls j = k → loN ps j < hiN ps Ls.length ∧ loN ps Ls.length < hiN ps j → LN fs j ≠ f) → p' ln = some (.list ((intsN ((List.range (Ls ++ [k]).length).map (lineN (Ls ++ [k]) (fs ++ [f])))).map iv)) → (∀ b o, b ≠ ln → hp b = some o → p' b = some o) →
      (∀ y v, y ∉ (["taken", "words", "free"] : List Str) → loc y = some v → loc' y = some v) → awf C A g fr E (execs (forBody.drop 7) fr.env) loc' p' Q) :
    awf C A g fr E (execs (forBody.drop 5) fr.env) loc hp Q := by
  obtain ⟨F, hroom, hh, hfrm, hlf, hun, hcode, hqual⟩ := LA
  have hrange := W.range
  refine aw_execs_cons ?_
  repeat' walk_at "kl"
  refine call_range1 fun r hr => comp_pure (rangeL 0 3) (fun v => [.int v 0]) (fun x => if word (base + x.toNat) ∉ wordsB base b0 b1 b2 then some (iv x) else none) (it_range hh hr (by decide) (by decide) ⟨rfl, by decide, ?elt, ?done⟩)
  case elt =>
    intro x hx g₃ fr₃ E₃ hF₃
    obtain ⟨hx1, hx2⟩ := mem_rangeL.mp hx
    dsimp only [tgtNames, setAll]
    repeat' walk_at "kl"
    refine sub_list (by intro _ _; with_unfolding_all rfl) hm hx1 (by omega) (marks_get hx1 hx2) ?_
    repeat' walk_at "kl"
    refine cop_notin_strs hW ⟨_, rfl, rfl, Sub.rfl, ?_⟩
    by_cases q : word (base + x.toNat) ∉ wordsB base b0 b1 b2
    · rw [if_pos (by simpa using q)]
      intro g₄ E₄
      repeat' walk_at "kl"
      exact ⟨rfl, Sub.rfl, if_pos q⟩
    · rw [if_neg (by simpa using q)]
      exact if_neg q
  case done =>
    intro Df hDf
    rw [filterMap_if (fun x : Int => word (base + x.toNat) ∉ wordsB base b0 b1 b2) iv]
    obtain ⟨fr0, hfr0⟩ : ∃ l : List Int, l = (rangeL 0 3).filter fun x => decide (word (base + x.toNat) ∉ wordsB base b0 b1 b2) := ⟨_, rfl⟩
    rw [← hfr0]
    have hs1 := Sub.set (o := .list (fr0.map iv)) hDf
    have hF1 := hset_eq hp Df (.list (fr0.map iv))
    generalize hset hp Df (.list (fr0.map iv)) = p₁ at hs1 hF1 ⊢
    have hln1 := hs1 _ _ hln
    have hlv1 := hs1 _ _ hlv
    have fmem : ∀ x ∈ fr0, 0 ≤ x ∧ x < 3 ∧ x ∉ tk := fun x hx => by
      rw [hfr0, List.mem_filter] at hx
      obtain ⟨h1, h2⟩ := mem_rangeL.mp hx.1
      refine ⟨h1, h2, fun w => ?_⟩
      have h3 : word (base + x.toNat) ∉ wordsB base b0 b1 b2 := by simpa using hx.2
      rw [free_B hb _ _ _ (by omega), fls_mem] at h3
      have : x = 0 ∨ x = 1 ∨ x = 2 := by omega
      rcases this with rfl | rfl | rfl
      · exact h3 (.inl ⟨rfl, by rw [hb0]; simpa using w⟩)
      · exact h3 (.inr (.inl ⟨rfl, by rw [hb1]; simpa using w⟩))
      · exact h3 (.inr (.inr ⟨rfl, by rw [hb2]; simpa using w⟩))
    have fne : 1 ≤ k → ∃ x r, fr0 = x :: r := fun h1 => by
      cases q : fr0 with
      | cons x r => exact ⟨x, r, rfl⟩
      | nil =>
        refine absurd (fun f hf => ?_) (flag_free G hfk hlow h1)
        rw [← taken_mem G h1, ← htk]
        refine Classical.byContradiction fun w => ?_
        have : (f : Int) ∈ fr0 := by
          rw [hfr0, List.mem_filter]
          refine ⟨mem_rangeL.mpr ⟨by omega, by omega⟩, ?_⟩
          rw [decide_eq_true_eq, Int.toNat_natCast, free_B hb _ _ _ hf, fls_mem, hb0, hb1, hb2]
          have : f = 0 ∨ f = 1 ∨ f = 2 := by omega
          rcases this with rfl | rfl | rfl <;> simpa using w
        rw [q] at this; cases this
    repeat' walk_at "kl"
    refine ⟨_, meth_list PySem.F.slot_list_append PySem.F.type_list_append hln1, ?_⟩
    repeat' walk_at "kl"
    have gk : (intsN (Ls ++ [k])).getD (Int.toNat (Ls.length : Int)) 0 = (k : Int) := by rw [Int.toNat_natCast, intsN_getD, show (Ls ++ [k]).getD Ls.length 0 = k from LN_new]
    have len1 : ((Ls.length : Nat) : Int) < ((intsN (Ls ++ [k])).length : Nat) := by simp [intsN]; omega
    have len2 : (intsN (Ls ++ [k])).length ≤ 100000 := by simp [intsN]; omega
    refine sub_int (by intro _ _; with_unfolding_all rfl) hlv1 (by omega) len1 len2 ?_
    rw [gk]
    repeat' walk_at "kl"
    have fin : ∀ f : Nat, f < 3 → (1 ≤ k → ∀ j, j < Ls.length → LN Ls j = k → loN ps j < hiN ps Ls.length ∧ loN ps Ls.length < hiN ps j → LN fs j ≠ f) → onCall C A g fr E (.builtin "list.append") [.ref ln, iv (if k = 0 then 0 else 3 * k - 2 + f : Nat)] [] (lset loc "free" (.ref Df)) p₁ fun v l p => v = .none ∧ awf C A g fr E (execs (forBody.drop 7) fr.env) l p Q := fun f hf hap => by
      refine m_append hln1 (by simp [intsN]; omega) ⟨rfl, ?_⟩
      refine h _ f _ hf hap ?_ (fun b o hb e => by rw [hset_ne _ _ hb]; exact hs1 _ _ e) fun y v hy e => lset_ne (fun w => hy (by rw [w]; decide)) e
      rw [hset_eq, lines_snoc G.fl, intsN_snoc, List.map_append]; rfl
    by_cases hk0 : 0 < (k : Int)
    · rw [if_pos (by simpa using hk0)]
      repeat' walk_at "kl"
      refine sub_int (by intro _ _; with_unfolding_all rfl) hlv1 (by omega) len1 len2 ?_
      rw [gk]
      repeat' walk_at "kl"
      refine op_mul (.of_left (by decide)) ?_
      repeat' walk_at "kl"
      obtain ⟨x, r, hx⟩ := fne (by omega)
      obtain ⟨f1, f2, f3⟩ := fmem x (by rw [hx]; exact .head _)
      refine sub_list (by intro _ _; with_unfolding_all rfl) hF1 (by decide) (by decide) (x := iv x) (by rw [hx]; rfl) ?_
      repeat' walk_at "kl"
      have e : (3 : Int) * k - 2 + x = ((if k = 0 then 0 else 3 * k - 2 + x.toNat : Nat) : Int) := by rw [if_neg (by omega)]; omega
      refine ⟨kp_builtin, ?_⟩
      rw [e]
      refine fin x.toNat (by omega) fun h1 j hj hL hm w => ?_
      refine f3 ?_
      rw [htk, show x = ((x.toNat : Nat) : Int) by omega, taken_mem G h1]
      exact ⟨j, hj, hL, hm, w⟩
    · rw [if_neg (by simpa using hk0)]
      repeat' walk_at "kl"
      have e : ((if k = 0 then 0 else 3 * k - 2 + 0 : Nat) : Int) = 0 := by rw [if_pos (by omega)]; rfl
      have z := fin 0 (by decide) fun h1 => by omega
      rw [e] at z
      exact ⟨kp_builtin, z⟩
theorem turn_2 {C : Cx} (W : WOk C) {A : Around} {g : Heap} {fr : Fm} {E : Value → Shared → Prop} {loc : LOC} {hp : HP} {Q : Flow → LOC → HP → Prop} (LA : LawAt A fr)
    {S₁ Dm lv ln : Addr} {sts : List Addr} {ps : List (Nat × Nat)} {Ls fs : List Nat} {full base k : Nat}
    (l1 : loc "i" = some (iv Ls.length)) (l2 : loc "spans" = some (.ref S₁)) (l3 : loc "levels" = some (.ref lv)) (l4 : loc "lines" = some (.ref ln)) (l5 : loc "base" = some (iv base)) (l6 : loc "marks" = some (.ref Dm))
    (hP : Pairs hp S₁ sts ps) (hlv : hp lv = some (.list ((intsN (Ls ++ [k])).map iv))) (hln : hp ln = some (.list ((intsN ((List.range Ls.length).map (lineN Ls fs))).map iv))) (hm : hp Dm = some (.list ([base, base + 1, base + 2].map fun k => .str (word k) 0)))
    (G : Good ps Ls fs full) (hk : k < full) (hfk : FitN ps Ls k) (hlow : ∀ j, j < k → ¬ FitN ps Ls j) (hlt : ∀ j, j ≤ Ls.length → loN ps j < hiN ps j) (hb : base < 30) (hn : Ls.length < 10) (hpl : ps.length = 10) (hfl : full ≤ 10)
    (h : ∀ loc' f p', f < 3 → (1 ≤ k → ∀ j, j < Ls.length → LN Ls j = k → loN ps j < hiN ps Ls.length ∧ loN ps Ls.length < hiN ps j → LN fs j ≠ f) → p' ln = some (.list ((intsN ((List.range (Ls ++ [k]).length).map (lineN (Ls ++ [k]) (fs ++ [f])))).map iv)) → (∀ b o, b ≠ ln → hp b = some o → p' b = some o) →
      (∀ y v, y ∉ (["taken", "words", "free"] : List Str) → loc y = some v → loc' y = some v) → awf C A g fr E (execs (forBody.drop 7) fr.env) loc' p' Q) :
    awf C A g fr E (execs (forBody.drop 2) fr.env) loc hp Q := by
  obtain ⟨F, hroom, hh, hfrm, hlf, hun, hcode, hqual⟩ := LA
  have hgM := W.gMet
  obtain ⟨pmM, FM⟩ := W.fMet
  have hgP := W.gPretty
  obtain ⟨pmP, FP⟩ := W.fPretty
  have hrange := W.range
  have hsum := W.sum
  refine aw_execs_cons ?_
  repeat' walk_at "kl"
  refine law_met_ok W (by omega) hh hP hlv (by simp [intsN]) (by simp [intsN]; omega) (by omega) fun D p₁ hs1 hD => ?_
  have hln1 := hs1 _ _ hln
  have hlv1 := hs1 _ _ hlv
  have hm1 := hs1 _ _ hm
  repeat' walk_at "kl"
  obtain ⟨tk, htk⟩ : ∃ tk, tk = takenL ps Ls fs k := ⟨_, rfl⟩
  refine comp_map (metL ps (intsN (Ls ++ [k])) Ls.length) (fun v => [iv v]) (fun v => iv (((intsN ((List.range Ls.length).map (lineN Ls fs))).getD v.toNat 0 - 1) % 3)) (it_ints hh hD ⟨rfl, ?len1, ?elt1, ?done1⟩)
  case len1 =>
    refine Nat.le_trans (List.length_filter_le _ _) (Nat.le_trans (List.length_filter_le _ _) ?_)
    simp [rangeL, intsN]; omega
  case elt1 =>
    intro v hv g₃ fr₃ E₃ hF₃
    obtain ⟨j, rfl, hj, _, _⟩ := metL_mem.mp hv
    dsimp only [tgtNames, setAll]
    repeat' walk_at "kl"
    refine sub_int (by intro _ _; with_unfolding_all rfl) hln1 (by omega) (by simp [intsN]; omega) (by simp [intsN]; omega) ?_
    repeat' walk_at "kl"
    exact ⟨rfl, Sub.rfl, rfl⟩
  case done1 =>
    intro Dk hDk
    have hk1 : hset p₁ Dk (.list ((metL ps (intsN (Ls ++ [k])) Ls.length).map fun v => iv (((intsN ((List.range Ls.length).map (lineN Ls fs))).getD v.toNat 0 - 1) % 3))) Dk = some (.list (tk.map iv)) := by rw [hset_eq, htk]; unfold takenL; rw [List.map_map]; rfl
    have hs2 := Sub.set (o := .list ((metL ps (intsN (Ls ++ [k])) Ls.length).map fun v => iv (((intsN ((List.range Ls.length).map (lineN Ls fs))).getD v.toNat 0 - 1) % 3))) hDk
    generalize hset p₁ Dk (.list ((metL ps (intsN (Ls ++ [k])) Ls.length).map fun v => iv (((intsN ((List.range Ls.length).map (lineN Ls fs))).getD v.toNat 0 - 1) % 3))) = p₂ at hk1 hs2 ⊢
    have hln2 := hs2 _ _ hln1
    have hlv2 := hs2 _ _ hlv1
    have hm2 := hs2 _ _ hm1
    obtain ⟨b0, hb0⟩ : ∃ b, b = decide ((0 : Int) ∈ tk) := ⟨_, rfl⟩
    obtain ⟨b1, hb1⟩ : ∃ b, b = decide ((1 : Int) ∈ tk) := ⟨_, rfl⟩
    obtain ⟨b2, hb2⟩ : ∃ b, b = decide ((2 : Int) ∈ tk) := ⟨_, rfl⟩
    repeat' walk_at "kl"
    refine call_range1 fun r hr => comp_pure (rangeL 0 3) (fun v => [.int v 0]) (fun x => if x ∈ tk then some (iv (1 * 2 ^ ((base : Int) + x).toNat)) else none) (it_range hh hr (by decide) (by decide) ⟨rfl, by decide, ?elt2, ?done2⟩)
    case elt2 =>
      intro x hx g₃ fr₃ E₃ hF₃
      obtain ⟨hx1, hx2⟩ := mem_rangeL.mp hx
      dsimp only [tgtNames, setAll]
      repeat' walk_at "kl"
      refine cop_in_ints hk1 ⟨_, rfl, rfl, Sub.rfl, ?_⟩
      by_cases hm : x ∈ tk
      · rw [if_pos (by simpa using hm)]
        intro g₄ E₄
        repeat' walk_at "kl"
        refine op_shl (by omega) (by omega) (by decide) ?_
        exact ⟨rfl, Sub.rfl, if_pos hm⟩
      · rw [if_neg (by simpa using hm)]
        exact if_neg hm
    case done2 =>
      intro D2 hD2
      rw [fm_fls, ← hb0, ← hb1, ← hb2]
      repeat' walk_at "kl"
      have hsm : ((flsB b0 b1 b2).map fun f : Nat => (1 * 2 ^ ((base : Int) + (f : Int)).toNat : Int)).sum = (xB base b0 b1 b2 : Nat) := by
        have e : ((flsB b0 b1 b2).map fun f : Nat => (1 * 2 ^ ((base : Int) + (f : Int)).toNat : Int)) = (flsB b0 b1 b2).map fun f : Nat => ((2 ^ (base + f) : Nat) : Int) := List.map_congr_left fun f _ => by
          rw [show ((base : Int) + (f : Int)).toNat = base + f by omega]; push_cast; omega
        rw [e, sum_cast]; rfl
      refine call_sum (ns := (flsB b0 b1 b2).map fun f : Nat => (1 * 2 ^ ((base : Int) + (f : Int)).toNat : Int)) hh (by rw [hset_eq, List.map_map]; rfl) ?_
      rw [hsm]
      repeat' walk_at "kl"
      refine pretty_ok W (by omega) hh (bits_dec base hb b0 b1 b2).1 fun p₃ hs3 => ?_
      have hs3' : Sub p₂ p₃ := (Sub.set hD2).trans hs3
      refine ⟨_, meth_str PySem.F.slot_str_split PySem.F.type_str_split, ?_⟩
      repeat' walk_at "kl"
      refine ⟨kp_builtin, m_split (by decide +kernel) (by rw [wordsOf_B hb]; have := wordsB_len hb (b0 := b0) (b1 := b1) (b2 := b2); omega) fun Dw hDw => ?_⟩
      rw [split_B hb]
      have hs4 : Sub p₂ (hset p₃ Dw (.list ((wordsB base b0 b1 b2).map fun z => .str z 0))) := hs3'.trans (Sub.set hDw)
      have hW := hset_eq p₃ Dw (.list ((wordsB base b0 b1 b2).map fun z => .str z 0))
      generalize hset p₃ Dw (.list ((wordsB base b0 b1 b2).map fun z => .str z 0)) = p₄ at hs4 hW ⊢
      have hln4 := hs4 _ _ hln2
      have hlv4 := hs4 _ _ hlv2
      have hm4 := hs4 _ _ hm2
      have hk4 := hs4 _ _ hk1
      repeat' walk_at "kl"
      refine aw_Or ?_
      repeat' walk_at "kl"
      refine call_range1 fun r hr => comp_pure (rangeL 0 3) (fun v => [.int v 0]) (fun x => if x ∈ tk then some (.str (word (base + x.toNat)) 0) else none) (it_range hh hr (by decide) (by decide) ⟨rfl, by decide, ?elt3, ?done3⟩)
      case elt3 =>
        intro x hx g₃ fr₃ E₃ hF₃
        obtain ⟨hx1, hx2⟩ := mem_rangeL.mp hx
        dsimp only [tgtNames, setAll]
        repeat' walk_at "kl"
        refine cop_in_ints hk4 ⟨_, rfl, rfl, Sub.rfl, ?_⟩
        by_cases hm : x ∈ tk
        · rw [if_pos (by simpa using hm)]
          intro g₄ E₄
          repeat' walk_at "kl"
          refine sub_list (by intro _ _; with_unfolding_all rfl) hm4 hx1 (by omega) (marks_get hx1 hx2) ?_
          exact ⟨rfl, Sub.rfl, if_pos hm⟩
        · rw [if_neg (by simpa using hm)]
          exact if_neg hm
      case done3 =>
        intro D5 hD5
        rw [fm_fls (g := fun x => .str (word (base + x.toNat)) 0), ← hb0, ← hb1, ← hb2]
        refine t_list (hset_eq ..) (by rw [List.length_map]; have : ∀ b0 b1 b2 : Bool, (flsB b0 b1 b2).length ≤ 3 := by decide
                                       have := this b0 b1 b2; omega) ?_
        have fin : ∀ (p : HP) (D : Addr), Sub p₄ p → p D = some (.list ((wordsB base b0 b1 b2).map fun z => .str z 0)) → ov2 C A g fr E (compareOp .NotEq) (.ref Dw) (.ref D) (lset (lset loc "taken" (.ref Dk)) "words" (.ref Dw)) p fun v l p => v = .bool false ∧ l = lset (lset loc "taken" (.ref Dk)) "words" (.ref Dw) ∧ Sub p₄ p := fun p D hs e =>
          cop_ne_lists (hs _ _ hW) e rfl (sameV_flat fun x hx => by
            obtain ⟨z, _, rfl⟩ := List.mem_map.mp hx
            exact .inr ⟨z, rfl⟩) (by omega) ⟨rfl, rfl, hs⟩
        have tail : ∀ p, Sub p₄ p → awf C A g fr E (execs (forBody.drop 5) fr.env) (lset (lset loc "taken" (.ref Dk)) "words" (.ref Dw)) p Q := fun p hs =>
          turn_2b W ⟨F, hroom, hh, hfrm, hlf, hun, hcode, hqual⟩ (by walk_at "loc") (by walk_at "loc") (by walk_at "loc") (by walk_at "loc") (by walk_at "loc") (hs _ _ hlv4) (hs _ _ hln4) (hs _ _ hm4) (hs _ _ hW) htk hb0 hb1 hb2 G hk hfk hlow hb hn hfl
            fun loc' f p' h1 h2 h3 h4 h5 => h loc' f p' h1 h2 h3 (fun b o hb e => h4 b o hb (hs _ _ (hs4 _ _ (hs2 _ _ (hs1 _ _ e))))) fun y v hy e => h5 y v hy (lset_ne (fun w => hy (by rw [w]; decide)) (lset_ne (fun w => hy (by rw [w]; decide)) e))
        by_cases he : flsB b0 b1 b2 = []
        · rw [if_neg (by simp [he])]
          repeat' walk_at "kl"
          refine ⟨by simp, fun D6 hD6 => ?_⟩
          have e6 : hset (hset p₄ D5 (.list ((flsB b0 b1 b2).map fun f : Nat => .str (word (base + ((f : Int)).toNat)) 0))) D6 (.list [.str "0x0" 0]) D6 = some (.list ((wordsB base b0 b1 b2).map fun z => .str z 0)) := by
            rw [hset_eq]; unfold wordsB; rw [if_pos he, x0_text]; rfl
          refine fun x y hx hy => awv_mono (fin _ D6 ((Sub.set hD5).trans (Sub.set hD6)) e6 x y hx hy) fun v l p ⟨e1, e2, e3⟩ => ⟨_, e1, ?_⟩
          subst e2
          rw [if_neg Bool.false_ne_true]
          exact aw_execs_nil (tail p e3)
        · rw [if_pos (by simpa using he)]
          have e6 : hset p₄ D5 (.list ((flsB b0 b1 b2).map fun f : Nat => .str (word (base + ((f : Int)).toNat)) 0)) D5 = some (.list ((wordsB base b0 b1 b2).map fun z => .str z 0)) := by
            rw [hset_eq]; unfold wordsB; rw [if_neg he, List.map_map]; rfl
          refine fun x y hx hy => awv_mono (fin _ D5 (Sub.set hD5) e6 x y hx hy) fun v l p ⟨e1, e2, e3⟩ => ⟨_, e1, ?_⟩
          subst e2
          rw [if_neg Bool.false_ne_true]
          exact aw_execs_nil (tail p e3)
end Mine
end
section
namespace Mine
/-! ### the plain law, fourth part: a line's pieces -/
theorem reps_list {n : Int} {c : Nat} : (reps n c).cps.toList = List.replicate n.toNat c := by unfold reps; rfl
theorem join_empty_list : ∀ W : List Str, (Txt.join Str.empty W).cps.toList = W.flatMap fun p => p.cps.toList
  | [] => rfl
  | w :: W => by
    unfold Txt.join Builtin.Str.glued
    show (List.foldl (fun acc p => acc ++ Str.empty.cps ++ p.cps) w.cps W).toList = _
    rw [glued_list, List.flatMap_cons]
    congr 1
theorem pileText_list (ps : List (Str × Str)) : (pileText ps).cps.toList = ps.flatMap fun v => v.1.cps.toList ++ v.2.cps.toList := by
  unfold pileText
  rw [join_empty_list, List.flatMap_map]
  congr 1
  funext v
  unfold pieceText
  rw [join_empty_list]; simp
theorem total_nil : total [] = 0 := rfl
theorem total_cons (v : Str × Str) (ps : List (Str × Str)) : total (v :: ps) = ((v.1.length : Int) + v.2.length) + total ps := by
  suffices h : ∀ (n : Nat) (ps : List (Str × Str)), ps.length = n → total (v :: ps) = ((v.1.length : Int) + v.2.length) + total ps from h _ ps rfl
  intro n
  induction n with
  | zero => intro ps h; rw [List.length_eq_zero_iff.mp h]; have := total_snoc (ps := []) (v := v); rw [List.nil_append] at this; rw [this]; omega
  | succ n ih =>
    intro ps h
    obtain ⟨qs, w, rfl⟩ : ∃ qs w, ps = qs ++ [w] := ⟨ps.dropLast, ps.getLast (by rintro rfl; simp at h), (List.dropLast_concat_getLast _).symm⟩
    have e : v :: (qs ++ [w]) = (v :: qs) ++ [w] := rfl
    rw [e, total_snoc, total_snoc, ih qs (by simpa using h)]
    omega
def pieceL (ps : List (Nat × Nat)) : Nat → List Nat → List (Str × Str)
  | _, [] => []
  | e, i :: ms => (reps ((loN ps i : Int) - e) 32, reps ((hiN ps i : Int) - loN ps i) (97 + i)) :: pieceL ps (hiN ps i) ms
def endOf (ps : List (Nat × Nat)) : Nat → List Nat → Nat
  | e, [] => e
  | _, i :: ms => endOf ps (hiN ps i) ms
def Chain (ps : List (Nat × Nat)) : Nat → List Nat → Prop
  | _, [] => True
  | e, i :: ms => e ≤ loN ps i ∧ loN ps i < hiN ps i ∧ Chain ps (hiN ps i) ms
section
variable {ps : List (Nat × Nat)}
theorem pieceL_len : ∀ (ms : List Nat) (e : Nat), (pieceL ps e ms).length = ms.length
  | [], _ => rfl
  | i :: ms, e => by rw [pieceL, List.length_cons, pieceL_len ms, List.length_cons]
theorem endOf_ge : ∀ (ms : List Nat) (e : Nat), Chain ps e ms → e ≤ endOf ps e ms
  | [], _, _ => Nat.le_refl _
  | i :: ms, e, ⟨h1, h2, h3⟩ => by have := endOf_ge ms _ h3; rw [endOf]; omega
theorem total_piece : ∀ (ms : List Nat) (e : Nat), Chain ps e ms → total (pieceL ps e ms) = (endOf ps e ms : Int) - e
  | [], e, _ => by rw [pieceL, total_nil, endOf]; omega
  | i :: ms, e, ⟨h1, h2, h3⟩ => by
    rw [pieceL, total_cons, total_piece ms _ h3, reps_len, reps_len, endOf]
    omega
theorem endOf_append : ∀ (A : List Nat) (e : Nat) (B : List Nat), endOf ps e (A ++ B) = endOf ps (endOf ps e A) B
  | [], _, _ => rfl
  | i :: A, e, B => by rw [List.cons_append, endOf, endOf, endOf_append A]
theorem pieceL_append : ∀ (A : List Nat) (e : Nat) (B : List Nat), pieceL ps e (A ++ B) = pieceL ps e A ++ pieceL ps (endOf ps e A) B
  | [], _, _ => rfl
  | i :: A, e, B => by rw [List.cons_append, pieceL, pieceL, pieceL_append A, endOf]; rfl
theorem chain_append : ∀ (A : List Nat) (e : Nat) (B : List Nat), Chain ps e (A ++ B) ↔ Chain ps e A ∧ Chain ps (endOf ps e A) B
  | [], _, _ => by simp [Chain, endOf]
  | i :: A, e, B => by rw [List.cons_append, Chain, Chain, chain_append A, endOf, and_assoc, and_assoc]
def itemOf (ps : List (Nat × Nat)) (i : Nat) : Int × Str := ((loN ps i : Int), reps ((hiN ps i : Int) - loN ps i) (97 + i))
theorem zip_items : ∀ (B : List Nat) (e : Nat), ((B.map fun i => (loN ps i : Int)).zip (pieceL ps e B)).map (fun z => (z.1, z.2.2)) = B.map (itemOf ps)
  | [], _ => rfl
  | i :: B, e => by rw [pieceL, List.map_cons, List.zip_cons_cons, List.map_cons, List.map_cons, zip_items B]; rfl
theorem push_all {head : Int} : ∀ (M A : List Nat), Chain ps 0 (A ++ M) → (M.map (itemOf ps)).foldl (pushOne head) (pieceL ps 0 A) = pieceL ps 0 (A ++ M)
  | [], A, _ => by simp
  | i :: M, A, h => by
    rw [List.map_cons, List.foldl_cons]
    have hA := ((chain_append A 0 (i :: M)).mp h).1
    have e : pushOne head (pieceL ps 0 A) (itemOf ps i) = pieceL ps 0 (A ++ [i]) := by
      unfold pushOne itemOf
      rw [pieceL_append, total_piece A 0 hA]
      congr 1
      show [_] = [_]
      congr 2
      congr 1
      dsimp only
      omega
    rw [e, push_all M (A ++ [i]) (by simpa using h)]
    simp
theorem placed_ok {head : Int} {A B : List Nat} {i : Nat} (hb : bisR ((A ++ B).map fun j => (loN ps j : Int)) (loN ps i) = A.length) (hc : Chain ps 0 (A ++ i :: B)) :
    placed head ((A ++ B).map fun j => (loN ps j : Int)) (pieceL ps 0 (A ++ B)) (loN ps i) (reps ((hiN ps i : Int) - loN ps i) (97 + i)) = pieceL ps 0 (A ++ i :: B) := by
  unfold placed newItems
  rw [hb, pieceL_append, List.take_left' (pieceL_len A 0), List.drop_left' (pieceL_len A 0), List.map_append, List.drop_left' (by simp), zip_items]
  exact push_all (i :: B) A hc
theorem insI_ok {A B : List Nat} {i : Nat} (hb : bisR ((A ++ B).map fun j => (loN ps j : Int)) (loN ps i) = A.length) :
    insI ((A ++ B).map fun j => (loN ps j : Int)) (bisR ((A ++ B).map fun j => (loN ps j : Int)) (loN ps i)) (loN ps i) = (A ++ i :: B).map fun j => (loN ps j : Int) := by
  rw [hb]
  unfold insI
  rw [List.map_append, List.take_left' (by simp), List.drop_left' (by simp), List.map_append, List.map_cons]
structure OnLine (ps : List (Nat × Nat)) (Ls fs : List Nat) (l : Nat) (ms : List Nat) : Prop where
  perm : ms.Perm ((List.range Ls.length).filter fun j => decide (lineN Ls fs j = l))
  pw : ms.Pairwise fun a b => hiN ps a ≤ loN ps b
theorem OnLine.mem {Ls fs : List Nat} {l : Nat} {ms : List Nat} (h : OnLine ps Ls fs l ms) {j : Nat} : j ∈ ms ↔ j < Ls.length ∧ lineN Ls fs j = l := by
  rw [h.perm.mem_iff, List.mem_filter, List.mem_range, decide_eq_true_eq]
theorem chain_of : ∀ (ms : List Nat) (e : Nat), (∀ i ∈ ms, e ≤ loN ps i ∧ loN ps i < hiN ps i) → (ms.Pairwise fun a b => hiN ps a ≤ loN ps b) → Chain ps e ms
  | [], _, _, _ => trivial
  | i :: ms, e, h1, h2 => by
    obtain ⟨a, b⟩ := List.pairwise_cons.mp h2
    obtain ⟨c, d⟩ := h1 i (.head _)
    exact ⟨c, d, chain_of ms _ (fun j hj => ⟨a j hj, (h1 j (.tail _ hj)).2⟩) b⟩
theorem line_split {Ls fs : List Nat} {l i : Nat} {ms : List Nat} (h : OnLine ps Ls fs l ms) (hlt : ∀ j ∈ ms, loN ps j < hiN ps j) (hi : loN ps i < hiN ps i) (hap : ∀ j ∈ ms, ¬ (loN ps j < hiN ps i ∧ loN ps i < hiN ps j)) :
    ∃ A B, ms = A ++ B ∧ bisR (ms.map fun j => (loN ps j : Int)) (loN ps i) = A.length ∧ (A ++ i :: B).Pairwise fun a b => hiN ps a ≤ loN ps b := by
  have hs : (ms.map fun j => (loN ps j : Int)).Pairwise (· ≤ ·) := by
    rw [List.pairwise_map]
    exact h.pw.imp_of_mem fun {a b} ha hb hab => by have := hlt a ha; omega
  obtain ⟨s1, s2⟩ := sorted_split hs (p := fun y => decide (y ≤ (loN ps i : Int))) (fun a b h1 h2 => by simp at h2 ⊢; omega)
  obtain ⟨k, hk⟩ : ∃ k, k = bisR (ms.map fun j => (loN ps j : Int)) (loN ps i) := ⟨_, rfl⟩
  have hkl : k ≤ ms.length := by rw [hk]; unfold bisR; exact Nat.le_trans List.countP_le_length (by simp)
  refine ⟨ms.take k, ms.drop k, (List.take_append_drop k ms).symm, by rw [← hk, List.length_take]; omega, ?_⟩
  have a1 : ∀ j ∈ ms.take k, loN ps j ≤ loN ps i := fun j hj => by
    have : (loN ps j : Int) ∈ (ms.map fun j => (loN ps j : Int)).take k := by rw [← List.map_take]; exact List.mem_map.mpr ⟨j, hj, rfl⟩
    rw [hk] at this
    have := s1 _ this
    simp at this; omega
  have a2 : ∀ j ∈ ms.drop k, loN ps i < loN ps j := fun j hj => by
    have : (loN ps j : Int) ∈ (ms.map fun j => (loN ps j : Int)).drop k := by rw [← List.map_drop]; exact List.mem_map.mpr ⟨j, hj, rfl⟩
    rw [hk] at this
    have := s2 _ this
    simp at this; omega
  have hpw : (ms.take k ++ ms.drop k).Pairwise fun a b => hiN ps a ≤ loN ps b := by rw [List.take_append_drop]; exact h.pw
  obtain ⟨w1, w2, w3⟩ := List.pairwise_append.mp hpw
  refine List.pairwise_append.mpr ⟨w1, List.pairwise_cons.mpr ⟨fun b hb => ?_, w2⟩, fun a ha b hb => ?_⟩
  · have m := List.mem_of_mem_drop hb
    have := hap b m
    have := hlt b m
    have := a2 b hb
    omega
  · rcases List.mem_cons.mp hb with rfl | hb
    · have m := List.mem_of_mem_take ha
      have := hap a m
      have := hlt a m
      have := a1 a ha
      omega
    · exact w3 a ha b hb
theorem text_of {s : Nat → Nat} : ∀ (ms : List Nat) (e : Nat), Chain ps e ms → (∀ j ∈ ms, ∀ a, loN ps j ≤ a → a < hiN ps j → s a = 97 + j) → (∀ a, e ≤ a → a < endOf ps e ms → (∀ j ∈ ms, ¬ (loN ps j ≤ a ∧ a < hiN ps j)) → s a = 32) →
    ((pieceL ps e ms).flatMap fun v => v.1.cps.toList ++ v.2.cps.toList) = (List.range' e (endOf ps e ms - e)).map s
  | [], e, _, _, _ => by simp [pieceL, endOf]
  | i :: ms, e, ⟨h1, h2, h3⟩, hs, hb => by
    have hge := endOf_ge ms _ h3
    have hlow : ∀ (ms : List Nat) (e : Nat), Chain ps e ms → ∀ j ∈ ms, e ≤ loN ps j := fun ms => by
      induction ms with
      | nil => intro e _ j hj; cases hj
      | cons u ms ih =>
        intro e ⟨c1, c2, c3⟩ j hj
        rcases List.mem_cons.mp hj with rfl | hj
        · exact c1
        · have := ih _ c3 j hj; omega
    rw [pieceL, List.flatMap_cons, text_of ms _ h3 (fun j hj => hs j (.tail _ hj)) (fun a ha ha2 hn => hb a (by omega) ha2 fun j hj => by
      rcases List.mem_cons.mp hj with rfl | hj
      · omega
      · exact hn j hj)]
    dsimp only
    rw [reps_list, reps_list, endOf]
    have e1 : endOf ps (hiN ps i) ms - e = (loN ps i - e) + ((hiN ps i - loN ps i) + (endOf ps (hiN ps i) ms - hiN ps i)) := by omega
    have ec : endOf ps e (i :: ms) = endOf ps (hiN ps i) ms := rfl
    rw [e1, ← List.range'_append, List.map_append, ← List.range'_append, List.map_append, ← List.append_assoc]
    congr 1
    · congr 1
      · refine List.ext_getElem (by simp) fun q q1 q2 => ?_
        rw [List.getElem_replicate, List.getElem_map, List.getElem_range']
        simp at q1
        refine (hb _ (by omega) (by rw [ec]; omega) fun j hj => ?_).symm
        rcases List.mem_cons.mp hj with rfl | hj
        · omega
        · have := hlow ms _ h3 j hj; omega
      · refine List.ext_getElem (by simp) fun q q1 q2 => ?_
        rw [List.getElem_replicate, List.getElem_map, List.getElem_range']
        simp at q1
        exact (hs i (.head _) _ (by omega) (by omega)).symm
    · congr 2 <;> omega
theorem endOf_max : ∀ (ms : List Nat) (e : Nat), Chain ps e ms → ms ≠ [] → (∃ j ∈ ms, endOf ps e ms = hiN ps j) ∧ ∀ j ∈ ms, hiN ps j ≤ endOf ps e ms
  | [], _, _, h => absurd rfl h
  | [i], e, _, _ => ⟨⟨i, .head _, rfl⟩, fun j hj => by cases List.mem_singleton.mp hj; exact Nat.le_refl _⟩
  | i :: j :: ms, e, ⟨h1, h2, h3⟩, _ => by
    obtain ⟨⟨q, hq, eq⟩, hm⟩ := endOf_max (j :: ms) (hiN ps i) h3 (by simp)
    refine ⟨⟨q, .tail _ hq, eq⟩, fun u hu => ?_⟩
    rcases List.mem_cons.mp hu with rfl | hu
    · exact endOf_ge (j :: ms) _ h3
    · exact hm u hu
end
end Mine
end
section
namespace Mine
section
variable {ps : List (Nat × Nat)}
theorem mineL_eq {Ls fs : List Nat} (l : Nat) : mineL (intsN ((List.range Ls.length).map (lineN Ls fs))) l = ((List.range Ls.length).filter fun j => decide (lineN Ls fs j = l)).map fun j : Nat => (j : Int) := by
  unfold mineL
  have hl : (intsN ((List.range Ls.length).map (lineN Ls fs))).length = Ls.length := by simp [intsN]
  have e : rangeL 0 (Ls.length : Int) = (List.range Ls.length).map fun j : Nat => (j : Int) := by
    unfold rangeL
    rw [Int.sub_zero, Int.toNat_natCast]
    exact List.map_congr_left fun j _ => by omega
  rw [hl, e, List.filter_map]
  congr 1
  refine List.filter_congr fun j hj => ?_
  show decide ((intsN _).getD ((j : Int)).toNat 0 = (l : Int)) = _
  rw [Int.toNat_natCast, lines_get (List.mem_range.mp hj)]
  exact decide_eq_decide.mpr (by omega)
theorem sign_here {ms : List Nat} {is : List Int} (hm : ∀ v, v ∈ is ↔ ∃ j ∈ ms, v = (j : Int)) (hd : ∀ i ∈ ms, ∀ j ∈ ms, i ≠ j → ¬ (loN ps i < hiN ps j ∧ loN ps j < hiN ps i)) {j a : Nat} (hj : j ∈ ms) (h1 : loN ps j ≤ a) (h2 : a < hiN ps j) : signAt ps is a = 97 + j := by
  unfold signAt
  cases q : is.find? fun v => decide (lo_ ps v ≤ a ∧ a < hi_ ps v) with
  | none =>
    have := List.find?_eq_none.mp q j ((hm _).mpr ⟨j, hj, rfl⟩)
    simp only [decide_eq_true_eq] at this
    exact absurd ⟨h1, h2⟩ this
  | some v =>
    have hv := List.find?_some q
    obtain ⟨i, hi, rfl⟩ := (hm v).mp (List.mem_of_find?_eq_some q)
    simp only [decide_eq_true_eq] at hv
    have hv1 : loN ps i ≤ a := hv.1
    have hv2 : a < hiN ps i := hv.2
    have : i = j := Classical.byContradiction fun w => hd i hi j hj w ⟨by omega, by omega⟩
    subst this
    show 97 + (i : Int).toNat = _
    rw [Int.toNat_natCast]
theorem sign_none {ms : List Nat} {is : List Int} (hm : ∀ v, v ∈ is ↔ ∃ j ∈ ms, v = (j : Int)) {a : Nat} (h : ∀ j ∈ ms, ¬ (loN ps j ≤ a ∧ a < hiN ps j)) : signAt ps is a = 32 := by
  unfold signAt
  cases q : is.find? fun v => decide (lo_ ps v ≤ a ∧ a < hi_ ps v) with
  | none => rfl
  | some v =>
    have hv := List.find?_some q
    obtain ⟨i, hi, rfl⟩ := (hm v).mp (List.mem_of_find?_eq_some q)
    simp only [decide_eq_true_eq] at hv
    exact absurd ⟨hv.1, hv.2⟩ (h i hi)
theorem OnLine.dis {Ls fs : List Nat} {l : Nat} {ms : List Nat} (h : OnLine ps Ls fs l ms) (hlt : ∀ j ∈ ms, loN ps j < hiN ps j) : ∀ i ∈ ms, ∀ j ∈ ms, i ≠ j → ¬ (loN ps i < hiN ps j ∧ loN ps j < hiN ps i) := by
  have hs : ms.Pairwise fun i j => ¬ (loN ps i < hiN ps j ∧ loN ps j < hiN ps i) := h.pw.imp fun {a b} hab => by omega
  intro i hi j hj hij
  obtain ⟨x, hx⟩ := List.mem_iff_getElem?.mp hi
  obtain ⟨y, hy⟩ := List.mem_iff_getElem?.mp hj
  obtain ⟨x1, rfl⟩ := List.getElem?_eq_some_iff.mp hx
  obtain ⟨y1, rfl⟩ := List.getElem?_eq_some_iff.mp hy
  rcases Nat.lt_trichotomy x y with q | q | q
  · exact List.pairwise_iff_getElem.mp hs x y x1 y1 q
  · subst q; exact absurd rfl hij
  · have := List.pairwise_iff_getElem.mp hs y x y1 x1 q
    exact fun ⟨a, b⟩ => this ⟨b, a⟩
theorem OnLine.chain {Ls fs : List Nat} {l : Nat} {ms : List Nat} (h : OnLine ps Ls fs l ms) (hlt : ∀ j ∈ ms, loN ps j < hiN ps j) : Chain ps 0 ms := chain_of ms 0 (fun j hj => ⟨Nat.zero_le _, hlt j hj⟩) h.pw
theorem OnLine.text {Ls fs : List Nat} {l : Nat} {ms : List Nat} (h : OnLine ps Ls fs l ms) (hlt : ∀ j ∈ ms, loN ps j < hiN ps j) : pileText (pieceL ps 0 ms) = textTo ps (mineL (intsN ((List.range Ls.length).map (lineN Ls fs))) l) (endOf ps 0 ms) := by
  have hm : ∀ v, v ∈ mineL (intsN ((List.range Ls.length).map (lineN Ls fs))) l ↔ ∃ j ∈ ms, v = (j : Int) := fun v => by
    rw [mineL_eq, List.mem_map]
    constructor
    · rintro ⟨j, hj, rfl⟩; exact ⟨j, h.perm.mem_iff.mpr hj, rfl⟩
    · rintro ⟨j, hj, rfl⟩; exact ⟨j, h.perm.mem_iff.mp hj, rfl⟩
  apply Str.ext'
  apply Array.toList_inj.mp
  rw [pileText_list, text_of (s := signAt ps (mineL (intsN ((List.range Ls.length).map (lineN Ls fs))) l)) ms 0 (h.chain hlt) (fun j hj a h1 h2 => sign_here hm (h.dis hlt) hj h1 h2) (fun a _ _ hn => sign_none hm hn)]
  show (List.range' 0 (endOf ps 0 ms - 0)).map _ = (List.range (endOf ps 0 ms)).map _
  rw [Nat.sub_zero, ← List.range_eq_range']
theorem lineN_old {Ls fs : List Nat} {k f j : Nat} (hfl : fs.length = Ls.length) (hj : j < Ls.length) : lineN (Ls ++ [k]) (fs ++ [f]) j = lineN Ls fs j := by
  unfold lineN; rw [LN_old hj, LN_old (by omega)]
theorem filter_step {Ls fs : List Nat} {k f l : Nat} (hfl : fs.length = Ls.length) : ((List.range (Ls ++ [k]).length).filter fun j => decide (lineN (Ls ++ [k]) (fs ++ [f]) j = l)) = ((List.range Ls.length).filter fun j => decide (lineN Ls fs j = l)) ++ if lineN (Ls ++ [k]) (fs ++ [f]) Ls.length = l then [Ls.length] else [] := by
  rw [List.length_append, List.length_singleton, List.range_succ, List.filter_append]
  congr 1
  · exact List.filter_congr fun j hj => by rw [lineN_old hfl (List.mem_range.mp hj)]
  · rw [List.filter_cons]
    by_cases q : lineN (Ls ++ [k]) (fs ++ [f]) Ls.length = l
    · rw [if_pos (by simpa using q), if_pos q]; rfl
    · rw [if_neg (by simpa using q), if_neg q]; rfl
theorem OnLine.step {Ls fs : List Nat} {k f : Nat} {A B : List Nat} (hfl : fs.length = Ls.length) (h : OnLine ps Ls fs (lineN (Ls ++ [k]) (fs ++ [f]) Ls.length) (A ++ B)) (hp : (A ++ Ls.length :: B).Pairwise fun a b => hiN ps a ≤ loN ps b) : OnLine ps (Ls ++ [k]) (fs ++ [f]) (lineN (Ls ++ [k]) (fs ++ [f]) Ls.length) (A ++ Ls.length :: B) where
  perm := by
    rw [filter_step hfl, if_pos rfl]
    exact (List.perm_middle.trans (h.perm.cons _)).trans (List.perm_append_singleton _ _).symm
  pw := hp
theorem OnLine.other {Ls fs : List Nat} {k f l : Nat} {ms : List Nat} (hfl : fs.length = Ls.length) (h : OnLine ps Ls fs l ms) (hl : lineN (Ls ++ [k]) (fs ++ [f]) Ls.length ≠ l) : OnLine ps (Ls ++ [k]) (fs ++ [f]) l ms where
  perm := by rw [filter_step hfl, if_neg hl, List.append_nil]; exact h.perm
  pw := h.pw
theorem piece_small (hl : ∀ j, loN ps j ≤ 15) (hh : ∀ j, hiN ps j ≤ 23) : ∀ (ms : List Nat) (e : Nat), ∀ v ∈ pieceL ps e ms, v.1.length ≤ 100 ∧ v.2.length ≤ 100
  | [], e, v, h => by cases h
  | i :: ms, e, v, h => by
    rcases List.mem_cons.mp h with rfl | h
    · rw [reps_len, reps_len]
      have h1 := hh i
      have h2 := hl i
      omega
    · exact piece_small hl hh ms _ v h
end
end Mine
end
section
namespace Mine
structure PilesOk (ps : List (Nat × Nat)) (Ls fs : List Nat) (nl : Nat) (head : Int) (p : HP) (xts : List Addr) (stss : List (List Int)) (tt : Nat → List Addr) (mss : Nat → List Nat) : Prop where
  pile : ∀ l, l < nl → Pile p (xts.getD l 0) head (tt l) (pieceL ps 0 (mss l))
  on : ∀ l, l < nl → OnLine ps Ls fs l (mss l)
  st : ∀ l, l < nl → stss.getD l [] = (mss l).map fun j => (loN ps j : Int)
theorem Pairs.frame {p p' : HP} {a : Addr} {ts : List Addr} {ps : List (Nat × Nat)} (h : Pairs p a ts ps) (ha : p' a = p a) (ht : ∀ T xs, p T = some (.tuple xs) → p' T = some (.tuple xs)) : Pairs p' a ts ps :=
  ⟨ha.trans h.1, h.2.1, fun k T v e1 e2 => ht T _ (h.2.2 k T v e1 e2)⟩
theorem turn_3 {C : Cx} (W : WOk C) (AW : AccW C) (A2 : AccW2 C) (A3 : AccW3 C) {A : Around} {g : Heap} {fr : Fm} {E : Value → Shared → Prop} {loc : LOC} {hp : HP} {Q : Flow → LOC → HP → Prop} (LA : LawAt A fr)
    {role : Addr → Nat} {Fix : HP} {lv ln fi la : Addr} {bts ets tts rts xts : List Addr} (LY : Lay role Fix lv ln fi la bts ets tts rts xts) {S₁ pl st T : Addr} {sts : List Addr} {ps : List (Nat × Nat)} {Ls fs : List Nat} {full k f : Nat} {head : Int} {stss : List (List Int)} {tt : Nat → List Addr} {mss : Nat → List Nat}
    (l1 : loc "i" = some (iv Ls.length)) (l2 : loc "span" = some (.ref T)) (l3 : loc "piles" = some (.ref pl)) (l4 : loc "lines" = some (.ref ln)) (l5 : loc "starts" = some (.ref st)) (l6 : loc "spans" = some (.ref S₁)) (l7 : loc "head" = some (iv head))
    (hP : Pairs hp S₁ sts ps) (hln : hp ln = some (.list ((intsN ((List.range (Ls ++ [k]).length).map (lineN (Ls ++ [k]) (fs ++ [f])))).map iv))) (hsp : hp T = some (.tuple [iv (loN ps Ls.length), iv (hiN ps Ls.length)]))
    (hpl : hp pl = some (.list (xts.map .ref))) (hst : Rows hp st rts stss) (rpl : role pl = 0) (rst : role st = 0) (rS : role S₁ = 0) (hxl : xts.length = 3 * full - 2) (hsl : stss.length = 3 * full - 2) (hxn : xts.Nodup)
    (PO : PilesOk ps Ls fs (3 * full - 2) head hp xts stss tt mss) (h113 : hp 113 = some tabA) (h120 : hp 120 = some tabA)
    (G : Good ps (Ls ++ [k]) (fs ++ [f]) full) (hfl : fs.length = Ls.length) (hlo : ∀ j, loN ps j ≤ 15) (hhi : ∀ j, hiN ps j ≤ 23) (hlt : ∀ j, j ≤ Ls.length → loN ps j < hiN ps j) (hn : Ls.length < 10) (hpl10 : ps.length = 10) (hf : full ≤ 10) (hh3 : 1 ≤ head ∧ head ≤ 3)
    (h : ∀ loc' p' stss' tt' mss', PilesOk ps (Ls ++ [k]) (fs ++ [f]) (3 * full - 2) head p' xts stss' tt' mss' → Rows p' st rts stss' → (∀ b o, role b ≠ 8 → role b ≠ 9 → hp b = some o → p' b = some o) → (∀ b o, (∀ xs, o ≠ .list xs) → (∀ c d xs, o ≠ .acc c d xs) → hp b = some o → p' b = some o) →
      (∀ (y : Str) v, y ≠ "pile" → loc y = some v → loc' y = some v) → awf C A g fr E (execs (forBody.drop 10) fr.env) loc' p' Q) :
    awf C A g fr E (execs (forBody.drop 7) fr.env) loc hp Q := by
  obtain ⟨F, hroom, hh, hfrm, hlf, hun, hcode, hqual⟩ := LA
  have hgPl := W.gPlace
  obtain ⟨pmP, FP⟩ := W.fPlace
  have hgT := W.gText
  obtain ⟨pmT, FT⟩ := W.fText
  have hstr := W.strT
  have hlen := W.len
  have hchr := W.chr
  have hl9 : (Ls ++ [k]).length = Ls.length + 1 := by simp
  obtain ⟨l0, hl0⟩ : ∃ l, l = lineN (Ls ++ [k]) (fs ++ [f]) Ls.length := ⟨_, rfl⟩
  have hl0lt : l0 < 3 * full - 2 := by rw [hl0]; exact lineN_lt G (by omega)
  have gln : (intsN ((List.range (Ls ++ [k]).length).map (lineN (Ls ++ [k]) (fs ++ [f])))).getD (Int.toNat (Ls.length : Int)) 0 = (l0 : Int) := by
    rw [Int.toNat_natCast, hl0]; exact lines_get (by omega)
  have len1 : ((Ls.length : Nat) : Int) < ((intsN ((List.range (Ls ++ [k]).length).map (lineN (Ls ++ [k]) (fs ++ [f])))).length : Nat) := by simp [intsN]; omega
  have len2 : (intsN ((List.range (Ls ++ [k]).length).map (lineN (Ls ++ [k]) (fs ++ [f])))).length ≤ 100000 := by simp [intsN]; omega
  obtain ⟨x, hx⟩ : ∃ x, xts[l0]? = some x := ⟨_, List.getElem?_eq_getElem (by omega)⟩
  have hxx : xts.getD l0 0 = x := by rw [List.getD_eq_getElem?_getD, hx]; rfl
  refine aw_execs_cons ?_
  repeat' walk_at "kl"
  refine sub_int (by intro _ _; with_unfolding_all rfl) hln (by omega) len1 len2 ?_
  rw [gln]
  refine sub_list (by intro _ _; with_unfolding_all rfl) hpl (by omega) (by omega) (x := .ref x) (by rw [Int.toNat_natCast, List.getElem?_map, hx]; rfl) ?_
  repeat' walk_at "kl"
  refine sub_int (by intro _ _; with_unfolding_all rfl) hln (by omega) len1 len2 ?_
  rw [gln]
  refine sub_rows (by intro _ _; with_unfolding_all rfl) hst (by omega) (by omega) (by omega) fun sa hsa hsaV => ?_
  rw [Int.toNat_natCast] at hsa hsaV
  repeat' walk_at "kl"
  refine c_chr (by omega) (by omega) ?_
  rw [show ((97 : Int) + (Ls.length : Nat)).toNat = 97 + Ls.length by omega]
  repeat' walk_at "kl"
  have hon := PO.on l0 hl0lt
  have hmlt : ∀ j ∈ mss l0, loN ps j < hiN ps j := fun j hj => hlt j (by have := (hon.mem.mp hj).1; omega)
  have hap : ∀ j ∈ mss l0, ¬ (loN ps j < hiN ps Ls.length ∧ loN ps Ls.length < hiN ps j) := fun j hj => by
    obtain ⟨j1, j2⟩ := hon.mem.mp hj
    exact line_apart G (fun j hj => hlt j (by omega)) (by omega) (by omega) (by omega) (by rw [lineN_old hfl j1, j2, hl0])
  obtain ⟨P, B, hm, hbis, hpw⟩ := line_split hon hmlt (hlt Ls.length (Nat.le_refl _)) hap
  have hmlen : (mss l0).length ≤ 10 := by
    have := hon.perm.length_eq
    rw [this]
    exact Nat.le_trans (List.length_filter_le _ _) (by simp; omega)
  have hpile := PO.pile l0 hl0lt
  rw [hxx] at hpile
  have hsa' : hp sa = some (.list (((mss l0).map fun j => (loN ps j : Int)).map iv)) := by rw [hsaV, PO.st l0 hl0lt]
  have hnew : OnLine ps (Ls ++ [k]) (fs ++ [f]) l0 (P ++ Ls.length :: B) := by rw [hl0]; exact OnLine.step hfl (by rw [← hl0, ← hm]; exact hon) hpw
  have hnlt : ∀ j ∈ P ++ Ls.length :: B, loN ps j < hiN ps j := fun j hj => hlt j (by have := (hnew.mem.mp hj).1; omega)
  have hchain := hnew.chain hnlt
  refine law_place_ok W AW A2 (by omega) hh hpile hsa' hsp h113 (by rw [List.length_map, pieceL_len]) (by rw [pieceL_len]; omega) ?_ ?_ (piece_small hlo hhi _ _) (hlt _ (Nat.le_refl _)) (by have := hhi Ls.length; omega) (by omega) fun ts' p₁ hp1 hs1 hfr => ?_
  · rw [List.pairwise_map]
    exact hon.pw.imp_of_mem fun {a b} ha hb hab => by have := hmlt a ha; omega
  · intro v hv
    obtain ⟨j, _, rfl⟩ := List.mem_map.mp hv
    have := hlo j; omega
  rw [hm] at hp1 hs1 hbis
  rw [placed_ok hbis hchain] at hp1
  rw [insI_ok hbis] at hs1
  have hsax : sa ≠ x := by
    rintro rfl
    obtain ⟨d, e, _⟩ := hpile.acc
    rw [hsa'] at e; cases e
  have hrx : role x = 9 := LY.xts x (List.mem_of_getElem? hx)
  have hrs : role sa = 8 := LY.rts sa (List.mem_of_getElem? hsa)
  have fr1 : ∀ b o, role b ≠ 8 → role b ≠ 9 → hp b = some o → p₁ b = some o := fun b o h8 h9 e => hfr b o (by rintro rfl; exact h9 hrx) (by rintro rfl; exact h8 hrs) e
  have fr2 : ∀ b o, (∀ xs, o ≠ .list xs) → (∀ c d xs, o ≠ .acc c d xs) → hp b = some o → p₁ b = some o := fun b o h8 h9 e => hfr b o (by
    rintro rfl
    obtain ⟨d, e', _⟩ := hpile.acc
    rw [e'] at e; injection e with e; exact h9 _ _ _ e.symm) (by rintro rfl; rw [hsa'] at e; injection e with e; exact h8 _ e.symm) e
  have t113 := fr2 113 _ (fun xs => by unfold tabA; simp) (fun _ _ _ => by unfold tabA; simp) h113
  have t120 := fr2 120 _ (fun xs => by unfold tabA; simp) (fun _ _ _ => by unfold tabA; simp) h120
  have hlen3 : (pieceL ps 0 (P ++ Ls.length :: B)).length ≤ 50 := by
    rw [pieceL_len]
    have := congrArg List.length hm
    simp at this ⊢; omega
  have hsm := piece_small hlo hhi (P ++ Ls.length :: B) 0
  refine ⟨rfl, ?_⟩
  repeat' walk_at "kl"
  refine call_str_pile W AW A2 (by omega) (by omega) hh hp1 t120 hlen3 (fun v hv => by have := hsm v hv; omega) ?_
  repeat' walk_at "kl"
  have htot : preSum (lenSum (pieceL ps 0 (P ++ Ls.length :: B))) (pieceL ps 0 (P ++ Ls.length :: B)).length = (endOf ps 0 (P ++ Ls.length :: B) : Int) := by
    have := total_piece _ 0 hchain
    unfold total at this
    omega
  have hend : endOf ps 0 (P ++ Ls.length :: B) ≤ 23 := by
    obtain ⟨⟨j, _, e⟩, _⟩ := endOf_max _ 0 hchain (by simp)
    rw [e]; exact hhi j
  refine call_len_pile W AW A2 (by omega) hh hp1 t113 (fun v hv => by have := hsm v hv; omega) (by rw [htot]; omega) (by rw [htot]; omega) ?_
  rw [htot]
  repeat' walk_at "kl"
  obtain ⟨K, X, AK⟩ := AW.K
  obtain ⟨pmC, FC⟩ := A3.fCount
  refine ⟨_, meth_acc X AK hp1.acc AK.pcount (by decide) (fun _ _ _ _ => by rfl), ?_⟩
  repeat' walk_at "kl"
  refine ⟨kp_fn FC, partCount_ok W A3 (by omega) hp1.acc ?_⟩
  repeat' walk_at "kl"
  refine ⟨by simp, fun Ta hTa => ?_⟩
  have sTa := Sub.set (o := .tuple [.str (pileText (pieceL ps 0 (P ++ Ls.length :: B))) 0, .int (head + (endOf ps 0 (P ++ Ls.length :: B) : Nat) - head) 0, iv (ts'.map Value.ref).length]) hTa
  have eTa := hset_eq p₁ Ta (.tuple [.str (pileText (pieceL ps 0 (P ++ Ls.length :: B))) 0, .int (head + (endOf ps 0 (P ++ Ls.length :: B) : Nat) - head) 0, iv (ts'.map Value.ref).length])
  generalize hset p₁ Ta (.tuple [.str (pileText (pieceL ps 0 (P ++ Ls.length :: B))) 0, .int (head + (endOf ps 0 (P ++ Ls.length :: B) : Nat) - head) 0, iv (ts'.map Value.ref).length]) = p₂ at sTa eTa ⊢
  have hln2 := sTa _ _ (fr1 ln _ (by rw [LY.ln]; decide) (by rw [LY.ln]; decide) hln)
  have hP1 : Pairs p₁ S₁ sts ps := hP.frame ((fr1 S₁ _ (by rw [rS]; decide) (by rw [rS]; decide) hP.1).trans hP.1.symm) fun U xs e => fr2 U _ (fun _ => by simp) (fun _ _ _ => by simp) e
  have hP2 := hP1.mono sTa
  repeat' walk_at "kl"
  refine sub_int (by intro _ _; with_unfolding_all rfl) hln2 (by omega) len1 len2 ?_
  rw [gln]
  repeat' walk_at "kl"
  have hin : (l0 : Int) ∈ intsN ((List.range (Ls ++ [k]).length).map (lineN (Ls ++ [k]) (fs ++ [f]))) := by
    rw [hl0]
    exact List.mem_map.mpr ⟨_, List.mem_map.mpr ⟨Ls.length, List.mem_range.mpr (by omega), rfl⟩, rfl⟩
  refine law_text_ok W (by omega) hh hP2 hln2 hin (by simp [intsN]; omega) (by omega) (fun v hv => ?_) fun D p₃ M hs3 hM1 hM2 hD => ?_
  · obtain ⟨j, hj⟩ := List.mem_iff_getElem?.mp hv
    have := hhi j
    unfold hiN at this
    rw [List.getD_eq_getElem?_getD, hj] at this
    simp only [Option.getD_some] at this
    omega
  have hME : M = endOf ps 0 (P ++ Ls.length :: B) := by
    obtain ⟨⟨j, j1, j2⟩, jm⟩ := endOf_max _ 0 hchain (by simp)
    obtain ⟨v, v1, v2⟩ := List.mem_map.mp hM1
    rw [mineL_eq, List.mem_map] at v1
    obtain ⟨u, u1, rfl⟩ := v1
    have u2 := jm u (hnew.perm.mem_iff.mpr u1)
    have u3 := hM2 (j : Int) (by rw [mineL_eq]; exact List.mem_map.mpr ⟨j, hnew.perm.mem_iff.mp j1, rfl⟩)
    have v3 : hiN ps u = M := v2
    have u4 : hiN ps j ≤ M := u3
    omega
  have eD : p₃ D = some (.tuple [.str (pileText (pieceL ps 0 (P ++ Ls.length :: B))) 0, .int (head + (endOf ps 0 (P ++ Ls.length :: B) : Nat) - head) 0, iv (ts'.map Value.ref).length]) := by
    rw [hD, hnew.text hnlt, ← hME, show head + (M : Int) - head = M by omega]
    have e1 : (ts'.map Value.ref).length = (mineL (intsN ((List.range (Ls ++ [k]).length).map (lineN (Ls ++ [k]) (fs ++ [f])))) l0).length := by
      rw [List.length_map, hp1.len, pieceL_len, mineL_eq, List.length_map]
      exact hnew.perm.length_eq
    rw [e1]
  refine cop_ne_tuples (hs3 _ _ eTa) eD (fun v hv => ?_) (by omega) ⟨_, rfl, ?_⟩
  · rcases List.mem_cons.mp hv with rfl | hv
    · exact .inr ⟨_, rfl⟩
    rcases List.mem_cons.mp hv with rfl | hv
    · exact .inl ⟨_, rfl⟩
    cases List.mem_singleton.mp hv
    exact .inl ⟨_, rfl⟩
  rw [if_neg Bool.false_ne_true]
  refine aw_execs_nil ?_
  have sub13 : Sub p₁ p₃ := sTa.trans hs3
  obtain ⟨mss', hmss'⟩ : ∃ m : Nat → List Nat, m = fun l => if l = l0 then P ++ Ls.length :: B else mss l := ⟨_, rfl⟩
  obtain ⟨tt', htt'⟩ : ∃ m : Nat → List Addr, m = fun l => if l = l0 then ts' else tt l := ⟨_, rfl⟩
  refine h _ p₃ (stss.set l0 ((P ++ Ls.length :: B).map fun j => (loN ps j : Int))) tt' mss' ⟨fun l hl => ?_, fun l hl => ?_, fun l hl => ?_⟩ ?_ (fun b o h8 h9 e => sub13 _ _ (fr1 b o h8 h9 e)) (fun b o h8 h9 e => sub13 _ _ (fr2 b o h8 h9 e)) fun y v hy e => lset_ne hy e
  · rw [htt', hmss']
    dsimp only
    by_cases w : l = l0
    · subst w
      rw [if_pos rfl, if_pos rfl, hxx]
      exact ⟨hp1.acc.mono sub13, hp1.len, fun k T v a b => sub13 _ _ (hp1.at_ k T v a b)⟩
    · rw [if_neg w, if_neg w]
      have hq := PO.pile l hl
      obtain ⟨x', hx'⟩ : ∃ x', xts[l]? = some x' := ⟨_, List.getElem?_eq_getElem (by omega)⟩
      have hxx' : xts.getD l 0 = x' := by rw [List.getD_eq_getElem?_getD, hx']; rfl
      rw [hxx'] at hq ⊢
      have hne : x' ≠ x := by
        rintro rfl
        exact w ((List.getElem?_inj (i := l) (j := l0) (by omega) hxn).mp (hx'.trans hx.symm))
      have hrx' : role x' = 9 := LY.xts x' (List.mem_of_getElem? hx')
      obtain ⟨d, e1, e2⟩ := hq.acc
      refine ⟨⟨d, sub13 _ _ (hfr x' _ hne (by rintro rfl; rw [hrs] at hrx'; cases hrx') e1), sub13 _ _ (fr2 d _ (fun _ => by unfold accD; simp) (fun _ _ _ => by unfold accD; simp) e2)⟩, hq.len, fun k T v a b => sub13 _ _ (fr2 T _ (fun _ => by simp) (fun _ _ _ => by simp) (hq.at_ k T v a b))⟩
  · rw [hmss']
    dsimp only
    by_cases w : l = l0
    · subst w; rw [if_pos rfl]; exact hnew
    · rw [if_neg w]; exact OnLine.other hfl (PO.on l hl) (by rw [← hl0]; exact Ne.symm w)
  · rw [hmss', getD_set_list (by omega)]
    dsimp only
    by_cases w : l = l0
    · subst w; rw [if_pos rfl, if_pos rfl]
    · rw [if_neg w, if_neg (Ne.symm w)]; exact PO.st l hl
  · have hR1 : Rows p₁ st rts (stss.set l0 ((P ++ Ls.length :: B).map fun j => (loN ps j : Int))) := by
      have u := hst.upd hsa ((P ++ Ls.length :: B).map fun j => (loN ps j : Int))
      refine ⟨fr1 st _ (by rw [rst]; decide) (by rw [rst]; decide) hst.1, u.2.1, u.2.2.1, fun j U r e1 e2 => ?_⟩
      have z := u.2.2.2 j U r e1 e2
      by_cases w : U = sa
      · subst w
        rw [hset_eq] at z
        rw [hs1]; exact z
      · rw [hset_ne _ _ w] at z
        have hrU : role U = 8 := LY.rts U (List.mem_of_getElem? e1)
        exact hfr U _ (by rintro rfl; rw [hrx] at hrU; cases hrU) w z
    exact hR1.mono sub13
end Mine
end
section
namespace Mine
abbrev lamParams (p0 : Pos) : Arguments := { posonlyargs := [], args := [{ arg := "pair", annotation := none, pos := p0 }], vararg := none, kwonlyargs := [], kw_defaults := [], kwarg := none, defaults := [] }
abbrev lamBody (p1 p2 p3 : Pos) : Expr := .Subscript (.Name "pair" p1) (.Constant (.int 0) 0 p2) p3
abbrev lamScope : Scope := { kind := .function, names := [("pair", .local)], isGenerator := false, isCoroutine := false }
theorem lam_key {C : Cx} (W : WOk C) {p : HP} {f c' T : Addr} {q : Str} {p0 p1 p2 p3 : Pos} {pm ctv : Value} {x : Int} {y : Value} (hf : p f = some (.obj (kla_obj "<lambda>" q (lamParams p0) (lamBody p1 p2 p3) lamScope [] pm c' ctv))) (hc : p c' = some (codeA q)) (hT : p T = some (.tuple [iv x, y])) : KeyAt C p f (.ref T) x := by
  intro A g fr E loc Q hroom hQ
  refine onCall1 fun v hv => ?_
  refine aw_callLam hf hc W.lim hroom rfl rfl rfl (binds := [("pair", v)]) (by rfl) (by rfl) (by rfl) fun A' g' fr' E' a1 a2 F => ?_
  unfold bindLoc bindLoc
  rw [hv]
  repeat' walk_at "kl"
  exact hQ
def KRow (key : Nat → Nat) (p : HP) (a : Addr) (zs : List (Addr × Nat)) : Prop := p a = some (.list (zs.map fun z => .ref z.1)) ∧ ∀ z ∈ zs, p z.1 = some (.tuple [iv (key z.2), iv z.2])
theorem KRow.keys {C : Cx} (W : WOk C) {key : Nat → Nat} {p : HP} {a : Addr} {zs : List (Addr × Nat)} (h : KRow key p a zs) {f c' : Addr} {q : Str} {p0 p1 p2 p3 : Pos} {pm ctv : Value} (hf : p f = some (.obj (kla_obj "<lambda>" q (lamParams p0) (lamBody p1 p2 p3) lamScope [] pm c' ctv))) (hc : p c' = some (codeA q)) : KeyFn C p f (zs.map fun z => .ref z.1) (zs.map fun z => (key z.2 : Int)) where
  obj := ⟨_, _, hf, rfl⟩
  len := by simp
  at_ := fun i T x e1 e2 => by
    rw [List.getElem?_map] at e1 e2
    obtain ⟨z, hz, rfl⟩ := Option.map_eq_some_iff.mp e1
    rw [hz] at e2; injection e2 with e2; subst e2
    exact lam_key W hf hc (h.2 z (List.mem_of_getElem? hz))
theorem insL_refs {zs : List (Addr × Nat)} {k : Nat} {z : Addr × Nat} : insL (zs.map fun z => Value.ref z.1) k (.ref z.1) = (zs.take k ++ z :: zs.drop k).map fun z => Value.ref z.1 := by
  unfold insL; rw [List.map_append, List.map_cons, List.map_take, List.map_drop]
def RF (ps : List (Nat × Nat)) (a b : Nat) : Prop := loN ps a < loN ps b ∨ (loN ps a = loN ps b ∧ b < a)
def RL (ps : List (Nat × Nat)) (a b : Nat) : Prop := hiN ps a < hiN ps b ∨ (hiN ps a = hiN ps b ∧ a < b)
structure RowsOk (ps : List (Nat × Nat)) (n : Nat) (p : HP) (fi la : Addr) (zf zl : List (Addr × Nat)) : Prop where
  f : KRow (loN ps) p fi zf
  l : KRow (hiN ps) p la zl
  fp : (zf.map Prod.snd).Perm (List.range n)
  lp : (zl.map Prod.snd).Perm (List.range n)
  fs : (zf.map Prod.snd).Pairwise (RF ps)
  ls : (zl.map Prod.snd).Pairwise (RL ps)
theorem ins_perm {zs : List (Addr × Nat)} {n k : Nat} {T : Addr} (h : (zs.map Prod.snd).Perm (List.range n)) : ((zs.take k ++ (T, n) :: zs.drop k).map Prod.snd).Perm (List.range (n + 1)) := by
  have e : (zs.take k ++ (T, n) :: zs.drop k).Perm ((T, n) :: zs) := by
    refine List.perm_middle.trans ?_
    rw [List.take_append_drop]
  refine (e.map Prod.snd).trans ?_
  rw [List.range_succ, List.map_cons]
  exact (h.cons n).trans (List.perm_append_singleton _ _).symm
theorem ins_sorted {zs : List (Addr × Nat)} {n : Nat} {T : Addr} {R : Nat → Nat → Prop} {key : Nat → Nat} {p : Int → Bool} (hs : (zs.map Prod.snd).Pairwise R) (hk : (zs.map fun z => (key z.2 : Int)).Pairwise (· ≤ ·)) (hp : ∀ a b, a ≤ b → p b = true → p a = true)
    (h1 : ∀ i ∈ zs.map Prod.snd, p (key i) = true → R i n) (h2 : ∀ i ∈ zs.map Prod.snd, p (key i) = false → R n i) : ((zs.take ((zs.map fun z => (key z.2 : Int)).countP p) ++ (T, n) :: zs.drop ((zs.map fun z => (key z.2 : Int)).countP p)).map Prod.snd).Pairwise R := by
  obtain ⟨a, b⟩ := sorted_split hk hp
  generalize (zs.map fun z => (key z.2 : Int)).countP p = k at a b
  have hs' : ((zs.map Prod.snd).take k ++ (zs.map Prod.snd).drop k).Pairwise R := by rw [List.take_append_drop]; exact hs
  obtain ⟨s1, s2, s3⟩ := List.pairwise_append.mp hs'
  rw [List.map_append, List.map_cons, List.map_take, List.map_drop]
  have m1 : ∀ i ∈ (zs.map Prod.snd).take k, R i n := fun i hi => by
    refine h1 i (List.mem_of_mem_take hi) (a _ ?_)
    rw [← List.map_take] at hi ⊢
    obtain ⟨z, hz, rfl⟩ := List.mem_map.mp hi
    exact List.mem_map.mpr ⟨z, hz, rfl⟩
  have m2 : ∀ i ∈ (zs.map Prod.snd).drop k, R n i := fun i hi => by
    refine h2 i (List.mem_of_mem_drop hi) (b _ ?_)
    rw [← List.map_drop] at hi ⊢
    obtain ⟨z, hz, rfl⟩ := List.mem_map.mp hi
    exact List.mem_map.mpr ⟨z, hz, rfl⟩
  refine List.pairwise_append.mpr ⟨s1, List.pairwise_cons.mpr ⟨m2, s2⟩, fun u hu v hv => ?_⟩
  rcases List.mem_cons.mp hv with rfl | hv
  · exact m1 u hu
  · exact s3 u hu v hv
theorem KRow.ins {key : Nat → Nat} {p p' : HP} {a T : Addr} {zs : List (Addr × Nat)} {n k : Nat} (h : KRow key p a zs) (hT : p T = some (.tuple [iv (key n), iv n])) (ha : p' a = some (.list (insL (zs.map fun z => Value.ref z.1) k (.ref T)))) (hk : ∀ b xs, p b = some (.tuple xs) → p' b = some (.tuple xs)) : KRow key p' a (zs.take k ++ (T, n) :: zs.drop k) := by
  refine ⟨by rw [ha]; exact congrArg (fun l => some (AO.list l)) (insL_refs (z := (T, n))), fun z hz => ?_⟩
  rcases List.mem_append.mp hz with hz | hz
  · exact hk _ _ (h.2 z (List.mem_of_mem_take hz))
  · rcases List.mem_cons.mp hz with rfl | hz
    · exact hk _ _ hT
    · exact hk _ _ (h.2 z (List.mem_of_mem_drop hz))
theorem KRow.frame {key : Nat → Nat} {p p' : HP} {a : Addr} {zs : List (Addr × Nat)} (h : KRow key p a zs) (ha : p' a = p a) (hk : ∀ b xs, p b = some (.tuple xs) → p' b = some (.tuple xs)) : KRow key p' a zs := ⟨ha.trans h.1, fun z hz => hk _ _ (h.2 z hz)⟩
theorem turn_4 {C : Cx} (W : WOk C) (CH : CodeHd C.H₀ 194 192) (BI : BiOk2 C) {A : Around} {g : Heap} {fr : Fm} {E : Value → Shared → Prop} {loc : LOC} {hp : HP} {Q : Flow → LOC → HP → Prop} (LA : LawAt A fr)
    {role : Addr → Nat} {Fix : HP} {lv ln fi la T : Addr} {bts ets tts rts xts : List Addr} (LY : Lay role Fix lv ln fi la bts ets tts rts xts) {ps : List (Nat × Nat)} {n : Nat} {zf zl : List (Addr × Nat)}
    (l1 : loc "i" = some (iv n)) (l2 : loc "span" = some (.ref T)) (l3 : loc "firsts" = some (.ref fi)) (l4 : loc "lasts" = some (.ref la))
    (hsp : hp T = some (.tuple [iv (loN ps n), iv (hiN ps n)])) (RO : RowsOk ps n hp fi la zf zl) (hn : n < 10)
    (L : LamTab hp 192 "law.<locals>.<lambda>")
    (h : ∀ p' zf' zl', RowsOk ps (n + 1) p' fi la zf' zl' → LamTab p' 192 "law.<locals>.<lambda>" → (∀ b o, role b ≠ 3 → role b ≠ 4 → role b ≠ 10 → hp b = some o → p' b = some o) → (∀ b o, b ≠ 192 → (∀ xs, o ≠ .list xs) → hp b = some o → p' b = some o) → Q .next loc p') :
    awf C A g fr E (execs (forBody.drop 10) fr.env) loc hp Q := by
  obtain ⟨F, hroom, hh, hfrm, hlf, hun, hcode, hqual⟩ := LA
  have hgR := W.gIR
  obtain ⟨pmR, FR⟩ := W.fIR
  have hgL := W.gIL
  obtain ⟨pmL, FL⟩ := W.fIL
  have r192 := LY.t192
  have rfi := LY.fi
  have rla := LY.la
  have nfi : fi ≠ 192 := by rintro rfl; omega
  have nla : la ≠ 192 := by rintro rfl; omega
  have nfl : la ≠ fi := by rintro rfl; omega
  have o192 : ∃ o, hp 192 = some (.obj o) := by obtain ⟨ps, e, _⟩ := L.is; exact ⟨_, e⟩
  have lzf : zf.length = n := by have := RO.fp.length_eq; simpa using this
  have lzl : zl.length = n := by have := RO.lp.length_eq; simpa using this
  have memf : ∀ i ∈ zf.map Prod.snd, i < n := fun i hi => List.mem_range.mp (RO.fp.mem_iff.mp hi)
  have meml : ∀ i ∈ zl.map Prod.snd, i < n := fun i hi => List.mem_range.mp (RO.lp.mem_iff.mp hi)
  have sf : (zf.map fun z => (loN ps z.2 : Int)).Pairwise (· ≤ ·) := by
    have := RO.fs
    rw [List.pairwise_map] at this ⊢
    exact this.imp fun {a b} h => by unfold RF at h; omega
  have sl : (zl.map fun z => (hiN ps z.2 : Int)).Pairwise (· ≤ ·) := by
    have := RO.ls
    rw [List.pairwise_map] at this ⊢
    exact this.imp fun {a b} h => by unfold RL at h; omega
  refine aw_execs_cons ?_
  repeat' walk_at "kl"
  refine ⟨by simp, fun T1 hT1 => ?_⟩
  have sT1 := Sub.set (o := .tuple [iv (loN ps n), iv n]) hT1
  have eT1 := hset_eq hp T1 (.tuple [iv (loN ps n), iv n])
  repeat' walk_at "kl"
  refine aw_Lambda hcode CH BI F (L.keeps sT1) (by rfl) hqual (by decide) fun f c' pm ctv p₁ hf0 L1 hf1 hc1 hk1 => ?_
  have n192 : ∀ b o, (∀ x, o ≠ .obj x) → hset hp T1 (.tuple [iv (loN ps n), iv n]) b = some o → p₁ b = some o := fun b o ho e => hk1 b o (by
    rintro rfl
    obtain ⟨x, hx⟩ := o192
    rw [sT1 _ _ hx] at e; injection e with e; exact ho _ e.symm) e
  have eT2 := n192 _ _ (fun _ => by simp) eT1
  have tup1 : ∀ b xs, hp b = some (.tuple xs) → p₁ b = some (.tuple xs) := fun b xs e => n192 _ _ (fun _ => by simp) (sT1 _ _ e)
  have KF : KRow (loN ps) p₁ fi zf := RO.f.frame ((n192 _ _ (fun _ => by simp) (sT1 _ _ RO.f.1)).trans RO.f.1.symm) tup1
  have KL : KRow (hiN ps) p₁ la zl := RO.l.frame ((n192 _ _ (fun _ => by simp) (sT1 _ _ RO.l.1)).trans RO.l.1.symm) tup1
  repeat' walk_at "kl"
  refine insort_left_key W (by omega) KF.1 (KF.keys W hf1 hc1) (lam_key W hf1 hc1 eT2) rfl (by simp; omega) sf ?_
  refine ⟨rfl, ?_⟩
  obtain ⟨k1, hk1e⟩ : ∃ k, k = bisL (zf.map fun z => (loN ps z.2 : Int)) (loN ps n) := ⟨_, rfl⟩
  rw [← hk1e]
  have e2 := hset_eq p₁ fi (.list (insL (zf.map fun z => .ref z.1) k1 (.ref T1)))
  have o2 : ∀ b o, b ≠ fi → p₁ b = some o → hset p₁ fi (.list (insL (zf.map fun z => .ref z.1) k1 (.ref T1))) b = some o := fun b o hb e => by rw [hset_ne _ _ hb]; exact e
  generalize hset p₁ fi (.list (insL (zf.map fun z => .ref z.1) k1 (.ref T1))) = p₂ at e2 o2 ⊢
  have t12 : ∀ b xs, p₁ b = some (.tuple xs) → p₂ b = some (.tuple xs) := fun b xs e => o2 b _ (by rintro rfl; rw [KF.1] at e; cases e) e
  have KF2 := KF.ins (p' := p₂) (k := k1) eT2 e2 t12
  have KL2 : KRow (hiN ps) p₂ la zl := KL.frame ((o2 _ _ nfl KL.1).trans KL.1.symm) t12
  have hsp2 := t12 _ _ (tup1 _ _ hsp)
  have L2 : LamTab p₂ 192 "law.<locals>.<lambda>" := by
    obtain ⟨ps', a, b, c⟩ := L1.is
    refine ⟨ps', o2 _ _ (Ne.symm nfi) a, b, fun pos => (c pos).imp id fun ⟨c, e1, e2'⟩ => ⟨c, e1, o2 _ _ (by rintro rfl; rw [KF.1] at e2'; cases e2') e2'⟩⟩
  repeat' walk_at "kl"
  refine ⟨by simp, fun T3 hT3 => ?_⟩
  have sT3 := Sub.set (o := .tuple [iv (hiN ps n), iv n]) hT3
  have eT3 := hset_eq p₂ T3 (.tuple [iv (hiN ps n), iv n])
  have o192' : ∃ o, p₂ 192 = some (.obj o) := by obtain ⟨ps, e, _⟩ := L2.is; exact ⟨_, e⟩
  repeat' walk_at "kl"
  refine aw_Lambda hcode CH BI F (L2.keeps sT3) (by rfl) hqual (by decide) fun f3 c3 pm3 ctv3 p₃ hf3 L3 hfo3 hc3 hk3 => ?_
  have n192' : ∀ b o, (∀ x, o ≠ .obj x) → hset p₂ T3 (.tuple [iv (hiN ps n), iv n]) b = some o → p₃ b = some o := fun b o ho e => hk3 b o (by
    rintro rfl
    obtain ⟨x, hx⟩ := o192'
    rw [sT3 _ _ hx] at e; injection e with e; exact ho _ e.symm) e
  have eT4 := n192' _ _ (fun _ => by simp) eT3
  have tup3 : ∀ b xs, p₂ b = some (.tuple xs) → p₃ b = some (.tuple xs) := fun b xs e => n192' _ _ (fun _ => by simp) (sT3 _ _ e)
  have KF3 := KF2.frame ((n192' _ _ (fun _ => by simp) (sT3 _ _ KF2.1)).trans KF2.1.symm) tup3
  have KL3 := KL2.frame ((n192' _ _ (fun _ => by simp) (sT3 _ _ KL2.1)).trans KL2.1.symm) tup3
  repeat' walk_at "kl"
  refine insort_right_key W (by omega) KL3.1 (KL3.keys W hfo3 hc3) (lam_key W hfo3 hc3 eT4) rfl (by simp; omega) sl ?_
  refine ⟨rfl, aw_execs_nil ?_⟩
  obtain ⟨k2, hk2e⟩ : ∃ k, k = bisR (zl.map fun z => (hiN ps z.2 : Int)) (hiN ps n) := ⟨_, rfl⟩
  rw [← hk2e]
  have e4 := hset_eq p₃ la (.list (insL (zl.map fun z => .ref z.1) k2 (.ref T3)))
  have o4 : ∀ b o, b ≠ la → p₃ b = some o → hset p₃ la (.list (insL (zl.map fun z => .ref z.1) k2 (.ref T3))) b = some o := fun b o hb e => by rw [hset_ne _ _ hb]; exact e
  generalize hset p₃ la (.list (insL (zl.map fun z => .ref z.1) k2 (.ref T3))) = p₄ at e4 o4 ⊢
  have t34 : ∀ b xs, p₃ b = some (.tuple xs) → p₄ b = some (.tuple xs) := fun b xs e => o4 b _ (by rintro rfl; rw [KL3.1] at e; cases e) e
  have KL4 := KL3.ins (p' := p₄) (k := k2) eT4 e4 t34
  have KF4 := KF3.frame ((o4 _ _ (Ne.symm nfl) KF3.1).trans KF3.1.symm) t34
  have L4 : LamTab p₄ 192 "law.<locals>.<lambda>" := by
    obtain ⟨ps', a, b, c⟩ := L3.is
    refine ⟨ps', o4 _ _ (Ne.symm nla) a, b, fun pos => (c pos).imp id fun ⟨c, e1, e2'⟩ => ⟨c, e1, o4 _ _ (by rintro rfl; rw [KL3.1] at e2'; cases e2') e2'⟩⟩
  refine h p₄ _ _ ⟨KF4, KL4, ins_perm RO.fp, ins_perm RO.lp, ?_, ?_⟩ L4 (fun b o h3 h4 h10 e => ?_) fun b o hb ho e => ?_
  · rw [hk1e]
    exact ins_sorted RO.fs sf (p := fun y => decide (y < (loN ps n : Int))) (fun a b h1 h2 => by simp at h2 ⊢; omega) (fun i hi w => by have := memf i hi; simp at w; unfold RF; omega) fun i hi w => by have := memf i hi; simp at w; unfold RF; omega
  · rw [hk2e]
    exact ins_sorted RO.ls sl (p := fun y => decide (y ≤ (hiN ps n : Int))) (fun a b h1 h2 => by simp at h2 ⊢; omega) (fun i hi w => by have := meml i hi; simp at w; unfold RL; omega) fun i hi w => by have := meml i hi; simp at w; unfold RL; omega
  · have b192 : b ≠ 192 := by rintro rfl; exact h10 r192
    exact o4 b o (by rintro rfl; exact h4 rla) (hk3 b o b192 (sT3 _ _ (o2 b o (by rintro rfl; exact h3 rfi) (hk1 b o b192 (sT1 _ _ e)))))
  · have e1 := hk1 b o hb (sT1 _ _ e)
    have e2' := o2 b o (by rintro rfl; rw [KF.1] at e1; injection e1 with e1; exact ho _ e1.symm) e1
    have e3 := hk3 b o hb (sT3 _ _ e2')
    exact o4 b o (by rintro rfl; rw [KL3.1] at e3; injection e3 with e3; exact ho _ e3.symm) e3
end Mine
end
section
namespace Mine
theorem PilesOk.frame {ps : List (Nat × Nat)} {Ls fs : List Nat} {nl : Nat} {head : Int} {p p' : HP} {xts : List Addr} {stss : List (List Int)} {tt : Nat → List Addr} {mss : Nat → List Nat} (h : PilesOk ps Ls fs nl head p xts stss tt mss) (hl : nl ≤ xts.length)
    (hx : ∀ T ∈ xts, ∀ o, p T = some o → p' T = some o) (hd : ∀ b i, p b = some (accD i) → p' b = some (accD i)) (ht : ∀ b xs, p b = some (.tuple xs) → p' b = some (.tuple xs)) : PilesOk ps Ls fs nl head p' xts stss tt mss where
  pile := fun l hl' => by
    obtain ⟨⟨d, e1, e2⟩, e3, e4⟩ := h.pile l hl'
    have hm : xts.getD l 0 ∈ xts := by rw [List.getD_eq_getElem?_getD, List.getElem?_eq_getElem (by omega)]; exact List.getElem_mem _
    exact ⟨⟨d, hx _ hm _ e1, hd _ _ e2⟩, e3, fun k T v a b => ht _ _ (e4 k T v a b)⟩
  on := h.on
  st := h.st
theorem LamTab.frame {p p' : HP} {q : Str} (L : LamTab p 192 q) (h1 : ∀ o, p 192 = some (.obj o) → p' 192 = some (.obj o)) (h2 : ∀ c, p c = some (codeA q) → p' c = some (codeA q)) : LamTab p' 192 q := by
  obtain ⟨ps, a, b, c⟩ := L.is
  exact ⟨ps, h1 _ a, b, fun pos => (c pos).imp id fun ⟨c, e1, e2⟩ => ⟨c, e1, h2 _ e2⟩⟩
theorem PilesOk.zero {ps : List (Nat × Nat)} {nl : Nat} {head : Int} {p : HP} {xts : List Addr} (hl : nl ≤ xts.length) (h : ∀ T ∈ xts, Acc p T head []) : PilesOk ps [] [] nl head p xts (List.replicate nl []) (fun _ => []) (fun _ => []) where
  pile := fun l hl' => by
    have hm : xts.getD l 0 ∈ xts := by rw [List.getD_eq_getElem?_getD, List.getElem?_eq_getElem (by omega)]; exact List.getElem_mem _
    exact ⟨h _ hm, rfl, fun k T v a b => by cases a⟩
  on := fun l _ => ⟨.nil, .nil⟩
  st := fun l hl' => by rw [List.getD_eq_getElem?_getD, List.getElem?_replicate, if_pos hl']; rfl
structure LInv (ps : List (Nat × Nat)) (full : Nat) (head : Int) (role : Addr → Nat) (Fix : HP) (bg en st th lv ln fi la : Addr) (bts ets rts tts xts : List Addr) (l₀ : LOC) (n : Nat) (l : LOC) (p : HP) (Ls fs : List Nat) (bss ess rows stss : List (List Int)) (tt : Nat → List Addr) (mss : Nat → List Nat) (zf zl : List (Addr × Nat)) : Prop where
  len : Ls.length = n
  good : Good ps Ls fs full
  beg : BegOk ps Ls full bss ess
  the : ThereOk ps Ls rows
  rb : Rows p bg bts bss
  re : Rows p en ets ess
  rt : Rows p th tts rows
  rs : Rows p st rts stss
  ls : stss.length = 3 * full - 2
  lv : p lv = some (.list ((intsN Ls).map iv))
  ln : p ln = some (.list ((intsN ((List.range Ls.length).map (lineN Ls fs))).map iv))
  po : PilesOk ps Ls fs (3 * full - 2) head p xts stss tt mss
  ro : RowsOk ps Ls.length p fi la zf zl
  lam : LamTab p 192 "law.<locals>.<lambda>"
  fix : Sub Fix p
  nam : ∀ (y : Str) v, l₀ y = some v → y ∉ (["i", "span", "taken", "words", "free", "pile"] : List Str) → l y = some v
theorem enum_get {sts : List Addr} {n : Nat} {vs : List Value} (h : ((sts.map Value.ref).zipIdx.map fun x => [Value.int x.2 0, x.1])[n]? = some vs) : ∃ T, sts[n]? = some T ∧ vs = [iv n, .ref T] := by
  rw [List.getElem?_map, List.getElem?_zipIdx, List.getElem?_map] at h
  cases q : sts[n]? with
  | none => rw [q] at h; cases h
  | some T =>
    rw [q] at h
    simp only [Option.map_some, Nat.zero_add] at h
    injection h with h
    exact ⟨T, rfl, h.symm⟩
theorem law_loop {C : Cx} (W : WOk C) (AW : AccW C) (A2 : AccW2 C) (A3 : AccW3 C) (CH : CodeHd C.H₀ 194 192) (BI : BiOk2 C) {A : Around} {g : Heap} {fr : Fm} {E : Value → Shared → Prop} {loc : LOC} {hp : HP} {Q : Flow → LOC → HP → Prop} (LA : LawAt A fr)
    {role : Addr → Nat} {Fix : HP} {bg en pl st th lv ln fi la S₁ Dm : Addr} {bts ets xts rts tts sts : List Addr} {ps : List (Nat × Nat)} {full base : Nat} {head : Int} (LY : Lay role Fix lv ln fi la bts ets tts rts xts) (sF : Sub Fix hp) (FX : Fixed Fix bg en pl st th bts ets xts rts tts full)
    (hP : Pairs Fix S₁ sts ps) (hm : Fix Dm = some (.list ([base, base + 1, base + 2].map fun k => .str (word k) 0))) (h113 : Fix 113 = some tabA) (h120 : Fix 120 = some tabA)
    (r1 : Rows hp bg bts (List.replicate full [])) (r2 : Rows hp en ets (List.replicate full [])) (r3 : ∀ T ∈ xts, Acc hp T head []) (r4 : Rows hp st rts (List.replicate (3 * full - 2) [])) (r5 : Rows hp th tts (List.replicate 24 []))
    (e1 : hp lv = some (.list [])) (e2 : hp ln = some (.list [])) (e3 : hp fi = some (.list [])) (e4 : hp la = some (.list [])) (L : LamTab hp 192 "law.<locals>.<lambda>")
    (n1 : loc "spans" = some (.ref S₁)) (n2 : loc "begins" = some (.ref bg)) (n3 : loc "ends" = some (.ref en)) (n4 : loc "there" = some (.ref th)) (n5 : loc "levels" = some (.ref lv)) (n6 : loc "lines" = some (.ref ln)) (n7 : loc "piles" = some (.ref pl)) (n8 : loc "starts" = some (.ref st)) (n9 : loc "firsts" = some (.ref fi)) (n10 : loc "lasts" = some (.ref la)) (n11 : loc "base" = some (iv base)) (n12 : loc "marks" = some (.ref Dm)) (n13 : loc "head" = some (iv head))
    (hpl : ps.length = 10) (hpo : ∀ v ∈ ps, v.1 < v.2 ∧ v.1 ≤ 15 ∧ v.2 ≤ 23) (hfm : ∀ v ∈ ps, cntOn ps v.1 ≤ full) (hf : 1 ≤ full ∧ full ≤ 10) (hb : base < 30) (hh3 : 1 ≤ head ∧ head ≤ 3)
    (h : ∀ l p Ls fs bss ess rows stss tt mss zf zl, LInv ps full head role Fix bg en st th lv ln fi la bts ets rts tts xts loc 10 l p Ls fs bss ess rows stss tt mss zf zl → awf C A g fr E (execs ((dBody (topStmt 21)).drop 16) fr.env) l p Q) :
    awf C A g fr E (execs ((dBody (topStmt 21)).drop 15) fr.env) loc hp Q := by
  have LA' := LA
  obtain ⟨F, hroom, hh, hfrm, hlf, hun, hcode, hqual⟩ := LA
  have henum := W.enumerate
  have hstl : sts.length = 10 := by rw [hP.2.1, hpl]
  have hlo : ∀ j, loN ps j ≤ 15 := fun j => by
    unfold loN
    rw [List.getD_eq_getElem?_getD]
    cases q : ps[j]? with
    | none => decide
    | some v => exact (hpo v (List.mem_of_getElem? q)).2.1
  have hhi : ∀ j, hiN ps j ≤ 23 := fun j => by
    unfold hiN
    rw [List.getD_eq_getElem?_getD]
    cases q : ps[j]? with
    | none => decide
    | some v => exact (hpo v (List.mem_of_getElem? q)).2.2
  have hle : ∀ j, loN ps j ≤ hiN ps j := fun j => by
    unfold loN hiN
    rw [List.getD_eq_getElem?_getD]
    cases q : ps[j]? with
    | none => decide
    | some v => exact Nat.le_of_lt (hpo v (List.mem_of_getElem? q)).1
  have hlt : ∀ j, j < 10 → loN ps j < hiN ps j := fun j hj => by
    unfold loN hiN
    rw [List.getD_eq_getElem?_getD, List.getElem?_eq_getElem (by omega)]
    exact (hpo _ (List.getElem_mem _)).1
  refine aw_execs_cons ?_
  repeat' walk_at "kl"
  refine it_enum hh (sF _ _ hP.1) ⟨fun n l p => ∃ Ls fs bss ess rows stss tt mss zf zl, LInv ps full head role Fix bg en st th lv ln fi la bts ets rts tts xts loc n l p Ls fs bss ess rows stss tt mss zf zl, ?init, ?need, ?turn, ?fin⟩
  case init =>
    refine ⟨[], [], _, _, _, _, _, _, [], [], rfl, .zero, .zero, .zero, r1, r2, r5, r4, by simp, e1, e2, PilesOk.zero (by rw [FX.lx]; exact Nat.le_refl _) r3, ⟨⟨e3, fun z hz => by cases hz⟩, ⟨e4, fun z hz => by cases hz⟩, .nil, .nil, .nil, .nil⟩, L, sF, fun y v e _ => e⟩
  case need =>
    rintro n l p ⟨Ls, fs, bss, ess, rows, stss, tt, mss, zf, zl, I⟩
    exact I.fix _ _ hP.1
  case turn =>
    rintro n vs l p g₃ E₃ hvs ⟨Ls, fs, bss, ess, rows, stss, tt, mss, zf, zl, I⟩
    obtain ⟨T, hT, rfl⟩ := enum_get hvs
    have hn : n < 10 := by have := (List.getElem?_eq_some_iff.mp hT).1; omega
    have hlen := I.len
    subst hlen
    have hT' : Fix T = some (.tuple [iv (loN ps Ls.length), iv (hiN ps Ls.length)]) := by
      have hk : Ls.length < ps.length := by omega
      have := hP.2.2 Ls.length T _ hT (List.getElem?_eq_getElem hk)
      unfold loN hiN
      rw [List.getD_eq_getElem?_getD, List.getElem?_eq_getElem hk]; exact this
    have rbg := LY.fix _ _ FX.bg
    have ren := LY.fix _ _ FX.en
    have rth := LY.fix _ _ FX.th
    have rpl := LY.fix _ _ FX.pl
    have rst := LY.fix _ _ FX.st
    have rS := LY.fix _ _ hP.1
    have r192 := LY.t192
    have xin : ∀ U ∈ xts, role U ≠ 0 ∧ role U ≠ 1 ∧ role U ≠ 2 ∧ role U ≠ 3 ∧ role U ≠ 4 ∧ role U ≠ 5 ∧ role U ≠ 6 ∧ role U ≠ 7 ∧ role U ≠ 8 ∧ role U ≠ 10 := fun U hU => by rw [LY.xts U hU]; decide
    have hxl : 3 * full - 2 ≤ xts.length := by rw [FX.lx]; exact Nat.le_refl _
    have nmA : ∀ (y : Str) v, loc y = some v → y ∉ (["i", "span", "taken", "words", "free", "pile"] : List Str) → (lset (lset l "i" (iv Ls.length)) "span" (.ref T)) y = some v := fun y v e hy => lset_ne (fun w => hy (by rw [w]; decide)) (lset_ne (fun w => hy (by rw [w]; decide)) (I.nam y v e hy))
    have nI : (lset (lset l "i" (iv Ls.length)) "span" (.ref T)) "i" = some (iv Ls.length) := by walk_at "loc"
    have nS : (lset (lset l "i" (iv Ls.length)) "span" (.ref T)) "span" = some (.ref T) := by walk_at "loc"
    show awf C A g₃ fr E₃ (execs forBody fr.env) (lset (lset l "i" (iv Ls.length)) "span" (.ref T)) p _
    generalize lset (lset l "i" (iv Ls.length)) "span" (.ref T) = la0 at nmA nI nS ⊢
    refine turn_1 W LA' LY (pl := pl) (st := st) (ps := ps) (Ls := Ls) (full := full) nI nS (nmA _ _ n2 (by decide)) (nmA _ _ n3 (by decide)) (nmA _ _ n4 (by decide)) (nmA _ _ n5 (by decide)) (I.fix _ _ hT') I.rb I.re I.rt I.lv rbg ren rth I.beg I.the hle (hlt _ hn) (hhi _) hn hf (fit_last (by omega) hfm hf.1)
      fun k p₁ hk hFk hlow hb1 he1 ht1 hlv1 kA kB => ?_
    have F1 : Sub Fix p₁ := fun b o e => by have r := LY.fix b o e; exact kA b o (by omega) (by omega) (by omega) (by omega) (I.fix b o e)
    have hln1 := kA ln _ (by rw [LY.ln]; decide) (by rw [LY.ln]; decide) (by rw [LY.ln]; decide) (by rw [LY.ln]; decide) I.ln
    have hP1 := hP.mono F1
    refine turn_2 W LA' nI (nmA _ _ n1 (by decide)) (nmA _ _ n5 (by decide)) (nmA _ _ n6 (by decide)) (nmA _ _ n11 (by decide)) (nmA _ _ n12 (by decide)) hP1 hlv1 hln1 (F1 _ _ hm) I.good hk hFk hlow (fun j hj => hlt j (by omega)) hb hn hpl hf.2
      fun lb f p₂ hf3 hap hln2 kC nmB => ?_
    have F2 : Sub Fix p₂ := fun b o e => kC b o (by rintro rfl; have := LY.fix _ _ e; rw [LY.ln] at this; cases this) (F1 b o e)
    have G := I.good.step hFk hlow hk hf3 hap
    have kAll : ∀ b o, role b ≠ 1 → role b ≠ 2 → role b ≠ 5 → role b ≠ 6 → role b ≠ 7 → p b = some o → p₂ b = some o := fun b o h1 h2 h5 h6 h7 e => kC b o (by rintro rfl; exact h2 LY.ln) (kA b o h1 h5 h6 h7 e)
    have kNon : ∀ b o, (∀ xs, o ≠ .list xs) → p b = some o → p₂ b = some o := fun b o ho e => by
      have e1 := kB b o ho e
      exact kC b o (by rintro rfl; rw [hln1] at e1; injection e1 with e1; exact ho _ e1.symm) e1
    have PO2 : PilesOk ps Ls fs (3 * full - 2) head p₂ xts stss tt mss := I.po.frame hxl (fun U hU o e => by obtain ⟨x0, x1, x2, x3, x4, x5, x6, x7, x8, x10⟩ := xin U hU; exact kAll U o x1 x2 x5 x6 x7 e) (fun b i e => kNon b _ (fun _ => by unfold accD; simp) e) fun b xs e => kNon b _ (fun _ => by simp) e
    have rs2 : Rows p₂ st rts stss := I.rs.frame ((kAll st _ (by omega) (by omega) (by omega) (by omega) (by omega) I.rs.1).trans I.rs.1.symm) fun U hU o e => by have r := LY.rts U hU; exact kAll U o (by omega) (by omega) (by omega) (by omega) (by omega) e
    have nB : ∀ (y : Str) v, y ∉ (["taken", "words", "free"] : List Str) → la0 y = some v → lb y = some v := nmB
    refine turn_3 W AW A2 A3 LA' LY (nB _ _ (by decide) nI) (nB _ _ (by decide) nS) (nB _ _ (by decide) (nmA _ _ n7 (by decide))) (nB _ _ (by decide) (nmA _ _ n6 (by decide))) (nB _ _ (by decide) (nmA _ _ n8 (by decide))) (nB _ _ (by decide) (nmA _ _ n1 (by decide))) (nB _ _ (by decide) (nmA _ _ n13 (by decide)))
      (hP.mono F2) hln2 (F2 _ _ hT') (F2 _ _ FX.pl) rs2 rpl rst rS FX.lx I.ls FX.nx PO2 (F2 _ _ h113) (F2 _ _ h120) G I.good.fl hlo hhi (fun j hj => hlt j (by omega)) hn hpl hf.2 hh3
      fun lc p₃ stss' tt' mss' PO3 rs3 kD kE nmC => ?_
    have F3 : Sub Fix p₃ := fun b o e => by have r := LY.fix b o e; exact kD b o (by omega) (by omega) (F2 b o e)
    have kAll3 : ∀ b o, role b ≠ 1 → role b ≠ 2 → role b ≠ 5 → role b ≠ 6 → role b ≠ 7 → role b ≠ 8 → role b ≠ 9 → p b = some o → p₃ b = some o := fun b o h1 h2 h5 h6 h7 h8 h9 e => kD b o h8 h9 (kAll b o h1 h2 h5 h6 h7 e)
    have kNon3 : ∀ b o, (∀ xs, o ≠ .list xs) → (∀ c d xs, o ≠ .acc c d xs) → p b = some o → p₃ b = some o := fun b o ho ha e => kE b o ho ha (kNon b o ho e)
    have tup3 : ∀ b xs, p b = some (.tuple xs) → p₃ b = some (.tuple xs) := fun b xs e => kNon3 b _ (fun _ => by simp) (fun _ _ _ => by simp) e
    have RO3 : RowsOk ps Ls.length p₃ fi la zf zl := ⟨I.ro.f.frame ((kAll3 fi _ (by rw [LY.fi]; decide) (by rw [LY.fi]; decide) (by rw [LY.fi]; decide) (by rw [LY.fi]; decide) (by rw [LY.fi]; decide) (by rw [LY.fi]; decide) (by rw [LY.fi]; decide) I.ro.f.1).trans I.ro.f.1.symm) tup3,
      I.ro.l.frame ((kAll3 la _ (by rw [LY.la]; decide) (by rw [LY.la]; decide) (by rw [LY.la]; decide) (by rw [LY.la]; decide) (by rw [LY.la]; decide) (by rw [LY.la]; decide) (by rw [LY.la]; decide) I.ro.l.1).trans I.ro.l.1.symm) tup3, I.ro.fp, I.ro.lp, I.ro.fs, I.ro.ls⟩
    have L3 : LamTab p₃ 192 "law.<locals>.<lambda>" := I.lam.frame (fun o e => kNon3 _ _ (fun _ => by simp) (fun _ _ _ => by simp) e) fun c e => kNon3 _ _ (fun _ => by unfold codeA; simp) (fun _ _ _ => by unfold codeA; simp) e
    refine turn_4 W CH BI LA' LY (ps := ps) (n := Ls.length) (nmC _ _ (by decide) (nB _ _ (by decide) nI)) (nmC _ _ (by decide) (nB _ _ (by decide) nS)) (nmC _ _ (by decide) (nB _ _ (by decide) (nmA _ _ n9 (by decide)))) (nmC _ _ (by decide) (nB _ _ (by decide) (nmA _ _ n10 (by decide)))) (F3 _ _ hT') RO3 hn L3
      fun p₄ zf' zl' RO4 L4 kF kG => ?_
    have F4 : Sub Fix p₄ := fun b o e => by have r := LY.fix b o e; exact kF b o (by omega) (by omega) (by omega) (F3 b o e)
    have hl1 : (Ls ++ [k]).length = Ls.length + 1 := by simp
    have tup4 : ∀ b xs, p₃ b = some (.tuple xs) → p₄ b = some (.tuple xs) := fun b xs e => kG b _ (by
      rintro rfl
      obtain ⟨ps', e', _⟩ := L3.is
      rw [e] at e'; cases e') (fun _ => by simp) e
    have PO4 := PO3.frame (p' := p₄) hxl (fun U hU o e => by obtain ⟨x0, x1, x2, x3, x4, x5, x6, x7, x8, x10⟩ := xin U hU; exact kF U o x3 x4 x10 e) (fun b i e => kG b _ (by
      rintro rfl
      obtain ⟨ps', e', _⟩ := L3.is
      rw [e] at e'; unfold accD at e'; cases e') (fun _ => by unfold accD; simp) e) tup4
    have mv : ∀ {a : Addr} {ts : List Addr} {rs : List (List Int)} {c : Nat}, Rows p₁ a ts rs → role a = 0 → (∀ U ∈ ts, role U = c) → c ≠ 2 → c ≠ 3 → c ≠ 4 → c ≠ 8 → c ≠ 9 → c ≠ 10 → Rows p₄ a ts rs := fun {a ts rs c} hR ra hU c2 c3 c4 c8 c9 c10 => by
      have go : ∀ b o, role b ≠ 2 → role b ≠ 3 → role b ≠ 4 → role b ≠ 8 → role b ≠ 9 → role b ≠ 10 → p₁ b = some o → p₄ b = some o := fun b o h2 h3 h4 h8 h9 h10 e => kF b o h3 h4 h10 (kD b o h8 h9 (kC b o (by rintro rfl; exact h2 LY.ln) e))
      refine hR.frame ((go a _ (by omega) (by omega) (by omega) (by omega) (by omega) (by omega) hR.1).trans hR.1.symm) fun U hU' o e => ?_
      have r := hU U hU'
      exact go U o (by omega) (by omega) (by omega) (by omega) (by omega) (by omega) e
    refine ⟨Ls ++ [k], fs ++ [f], _, _, _, stss', tt', mss', zf', zl', hl1, G, I.beg.step hk, I.the.step k, mv hb1 rbg LY.bts (by decide) (by decide) (by decide) (by decide) (by decide) (by decide), mv he1 ren LY.ets (by decide) (by decide) (by decide) (by decide) (by decide) (by decide), mv ht1 rth LY.tts (by decide) (by decide) (by decide) (by decide) (by decide) (by decide), ?_, ?_, ?_, ?_, PO4, by rw [hl1]; exact RO4, L4, F4, fun y v e hy => ?_⟩
    · refine rs3.frame ((kF st _ (by omega) (by omega) (by omega) rs3.1).trans rs3.1.symm) fun U hU o e => ?_
      have r := LY.rts U hU
      exact kF U o (by omega) (by omega) (by omega) e
    · have h1 := rs3.2.1
      have h2 := FX.lr
      omega
    · exact kF lv _ (by rw [LY.lv]; decide) (by rw [LY.lv]; decide) (by rw [LY.lv]; decide) (kD lv _ (by rw [LY.lv]; decide) (by rw [LY.lv]; decide) (kC lv _ (by intro w; have := LY.lv; rw [w, LY.ln] at this; cases this) hlv1))
    · exact kF ln _ (by rw [LY.ln]; decide) (by rw [LY.ln]; decide) (by rw [LY.ln]; decide) (kD ln _ (by rw [LY.ln]; decide) (by rw [LY.ln]; decide) hln2)
    · exact nmC y v (fun w => hy (by rw [w]; decide)) (nB y v (fun w => hy (by
        simp only [List.mem_cons, List.not_mem_nil, or_false] at w ⊢
        rcases w with w | w | w <;> simp [w])) (nmA y v e hy))
  case fin =>
    rintro l p g₃ E₃ ⟨Ls, fs, bss, ess, rows, stss, tt, mss, zf, zl, I⟩
    have e : ((sts.map Value.ref).zipIdx.map fun x => [Value.int x.2 0, x.1]).length = 10 := by simp [hstl]
    rw [e] at I
    refine aw_execs_nil ?_
    exact h l p Ls fs bss ess rows stss tt mss zf zl I
end Mine
end
section
namespace Mine
section
variable {α : Type} {C : Cx} {A : Around} {g : Heap} {fr : Fm} {E : Value → Shared → Prop} {loc : LOC} {hp : HP}
/-! ### range(9, -1, -1) -/
def downL : List Int := [9, 8, 7, 6, 5, 4, 3, 2, 1, 0]
theorem downL_get {i : Nat} {v : Int} (h : downL[i]? = some v) : i < 10 ∧ v = 9 - (i : Int) := by
  have hi : i < 10 := (List.getElem?_eq_some_iff.mp h).1
  have : ∀ i : Nat, i < 10 → downL[i]? = some (9 - (i : Int)) := by decide
  rw [this i hi] at h
  injection h with h
  exact ⟨hi, h.symm⟩
theorem src_down (hh : A.handled = none) {I : Addr} {x : Str} {px : Pos} : Src C A (.Name x px) [x] (.ref I) (downL.map fun v => [.int v 0]) (fun _ => True) fun i r => r = hset hemp I (rangeIt (9 - (i : Nat)) (10 - (i : Nat)) (-1)) where
  adv := by
    rintro i vs r p g fr E l Q hv rfl hnd hap hok hQ s R S
    rw [List.getElem?_map] at hv
    obtain ⟨v, hv2, rfl⟩ := Option.map_eq_some_iff.mp hv
    obtain ⟨hi, rfl⟩ := downL_get hv2
    have hI : hjoin p (hset hemp I (rangeIt (9 - (i : Nat)) (10 - (i : Nat)) (-1))) I = some _ := hjoin_r hap (hset_eq ..)
    have pI : p I = none := hap I (by rw [hset_eq]; exact fun e => nomatch e)
    refine wpAny_pyNext_range_item (R.obj hI) (by omega) fun h' hit' hs' => ⟨S, l, hjoin p (hset hemp I (rangeIt (9 - ((i + 1 : Nat) : Int)) (10 - ((i + 1 : Nat) : Int)) (-1))), ?_, _, rfl, ?_⟩
    · have := R.chg hI hs'.extBut hit' (ao' := .obj _) rfl
      rw [hset_hjoin pI, hset_hset] at this
      have e1 : (9 : Int) - ((i + 1 : Nat) : Int) = 9 - (i : Int) + -1 := by omega
      have e2 : (10 : Int) - ((i + 1 : Nat) : Int) = 10 - (i : Int) - 1 := by omega
      rw [e1, e2]; exact this
    · exact aw_of_eq (a := ()) rfl (aw_assignName (hok x (.head _)) (hQ _ rfl (apart_hset (apart_hemp _) pI)))
  stp := by
    rintro r p g fr E l Q rfl hnd hap hQ s R S
    have hI := hjoin_r hap (hset_eq hemp I (rangeIt (9 - ((downL.map fun v => [(.int v 0 : Value)]).length : Nat)) (10 - ((downL.map fun v => [(.int v 0 : Value)]).length : Nat)) (-1)))
    have pI : p I = none := hap I (by rw [hset_eq]; exact fun e => nomatch e)
    refine wpAny_pyNext_range_end hh (R.obj hI) (by rw [List.length_map]; decide) fun h' hx => ⟨S, l, hjoin p hemp, ?_, rfl, hQ _ (apart_hemp _)⟩
    rw [hjoin_hemp]
    exact R.drop1 hI hx fun b o e => ⟨(by rintro rfl; rw [pI] at e; cases e), hjoin_l e⟩
  self := by
    rintro i r p g fr E l Q rfl hnd hap hQ s R S
    exact wpAny_pyIter_rangeiter (R.obj (hjoin_r hap (hset_eq ..))) ⟨S, l, _, R, hQ⟩
  up := fun _ _ _ _ => trivial
theorem call_down {Q : Value → LOC → HP → Prop} (h : ∀ r, hp r = none → Q (.ref r) loc (hset hp r (rangeO 9 (-1) (-1)))) : onCall C A g fr E (.type "range") [.int 9 0, .int (-1) 0, .int (-1) 0] [] loc hp Q := onCall3 fun v u w hv hu hw => by
  obtain ⟨t, rfl⟩ := nm_int hv
  obtain ⟨t', rfl⟩ := nm_int hu
  obtain ⟨t'', rfl⟩ := nm_int hw
  exact fun s R S => call_range_3 (by decide) ⟨S, loc, _, R.alloc (ao := rangeO 9 (-1) (-1)) rfl ⟨_, _, _, rfl⟩, h _ R.none_at⟩ (.inl (by decide +kernel))
theorem it_down (hh : A.handled = none) {r : Addr} {x : Str} {px : Pos} {K : List (List Value) → (HP → Prop) → LOC → HP → Prop} (hr : hp r = none)
    (h : K (downL.map fun v => [.int v 0]) (fun _ => True) loc hp) : onIt C A (.Name x px) [x] (.ref r) loc (hset hp r (rangeO 9 (-1) (-1))) K := by
  refine ⟨_, _, hset hemp r (rangeO 9 (-1) (-1)), hp, by rw [← hset_hjoin hr, hjoin_hemp], trivial, apart_hset (apart_hemp _) hr, fun g fr E l p x' Q hx hnd hap hQ s R S => ?_, h⟩
  rw [nm_ref hx]
  have hpr : p r = none := hap r (by rw [hset_eq]; exact fun e => nomatch e)
  obtain ⟨_, _, _, o, ho, t, u, v, rfl⟩ := R.at_ r _ (hjoin_r hap (hset_eq ..))
  refine wpAny_pyIter_range ho (by decide +kernel) ⟨S, l, hjoin p (hset hemp s.heap.objs.size (rangeIt (9 - (0 : Nat)) (10 - (0 : Nat)) (-1))), ?_, hQ _ _ _ (src_down hh) rfl (apart_hset (apart_hemp _) ?_)⟩
  · have := R.alloc (ao := rangeIt (9 - (0 : Nat)) (10 - (0 : Nat)) (-1)) (o := { cls := .type "range_iterator", data := .fields #[rawInt 9, rawInt (Builtin.Range.rangeSize 9 (-1) (-1)), rawInt (-1)] }) rfl (by
      show Obj.mk _ _ _ _ = Obj.mk _ _ _ _
      have : Builtin.Range.rangeSize 9 (-1) (-1) = 10 := by decide +kernel
      rw [this]; rfl)
    refine this.forget (fun _ _ e => e) fun b ao e => ?_
    rw [← hset_hjoin ?_, hjoin_hemp] at e
    · unfold hset at e ⊢
      by_cases hb : b = s.heap.objs.size
      · rwa [if_pos hb] at e ⊢
      · rw [if_neg hb] at e ⊢; exact hjoin_l e
    · cases q : p s.heap.objs.size with
      | none => rfl
      | some o => exact absurd (R.lt_of_hp (hjoin_l q)) (Nat.lt_irrefl _)
  · cases q : p s.heap.objs.size with
    | none => rfl
    | some o => exact absurd (R.lt_of_hp (hjoin_l q)) (Nat.lt_irrefl _)
end
/-! ### two rows in one order are one -/
theorem eq_of_sorted {R : Nat → Nat → Prop} (ha : ∀ a b, R a b → R b a → False) : ∀ {l₁ l₂ : List Nat}, l₁.Perm l₂ → l₁.Pairwise R → l₂.Pairwise R → l₁ = l₂
  | [], l₂, h, _, _ => by rw [List.Perm.nil_eq h]
  | x :: l₁, [], h, _, _ => by have := h.length_eq; simp at this
  | x :: l₁, y :: l₂, h, h1, h2 => by
    obtain ⟨a1, b1⟩ := List.pairwise_cons.mp h1
    obtain ⟨a2, b2⟩ := List.pairwise_cons.mp h2
    have e : x = y := by
      refine Classical.byContradiction fun w => ?_
      have hx : x ∈ y :: l₂ := h.mem_iff.mp (.head _)
      have hy : y ∈ x :: l₁ := h.mem_iff.mpr (.head _)
      have hx' : x ∈ l₂ := by
        rcases List.mem_cons.mp hx with q | q
        · exact absurd q w
        · exact q
      have hy' : y ∈ l₁ := by
        rcases List.mem_cons.mp hy with q | q
        · exact absurd q.symm w
        · exact q
      exact ha x y (a1 y hy') (a2 x hx')
    subst e
    rw [eq_of_sorted ha (List.Perm.cons_inv h) b1 b2]
end Mine
end
section
namespace Mine
theorem law_end_1 {C : Cx} (W : WOk C) (CH : CodeHd C.H₀ 194 192) (BI : BiOk2 C) {A : Around} {g : Heap} {fr : Fm} {E : Value → Shared → Prop} {loc : LOC} {hp : HP} {Q : Flow → LOC → HP → Prop} (LA : LawAt A fr)
    {S₁ fi : Addr} {sts : List Addr} {ps : List (Nat × Nat)} {zf : List (Addr × Nat)} (l1 : loc "spans" = some (.ref S₁)) (l2 : loc "firsts" = some (.ref fi))
    (hP : Pairs hp S₁ sts ps) (KF : KRow (loN ps) hp fi zf) (fp : (zf.map Prod.snd).Perm (List.range 10)) (fs : (zf.map Prod.snd).Pairwise (RF ps)) (L : LamTab hp 192 "law.<locals>.<lambda>") (hpl : ps.length = 10)
    (h : ∀ p', (∀ b o, b ≠ 192 → hp b = some o → p' b = some o) → LamTab p' 192 "law.<locals>.<lambda>" → awf C A g fr E (execs ((dBody (topStmt 21)).drop 17) fr.env) loc p' Q) :
    awf C A g fr E (execs ((dBody (topStmt 21)).drop 16) fr.env) loc hp Q := by
  obtain ⟨F, hroom, hh, hfrm, hlf, hun, hcode, hqual⟩ := LA
  have hrange := W.range
  have hsorted := W.sorted
  have o192 : ∃ o, hp 192 = some (.obj o) := by obtain ⟨ps, e, _⟩ := L.is; exact ⟨_, e⟩
  refine aw_execs_cons ?_
  repeat' walk_at "kl"
  refine call_down fun r hr => comp_new downL (fun v => [iv v]) (fun v => .tuple [iv (loN ps v.toNat), iv v]) (it_down hh hr ⟨rfl, by decide, fun _ _ => trivial, ?elt, ?done⟩)
  case elt =>
    intro v hv g₃ fr₃ E₃ p₃ hF₃ hs₃
    obtain ⟨i, hi⟩ := List.mem_iff_getElem?.mp hv
    obtain ⟨hi', rfl⟩ := downL_get hi
    have hP₃ := hP.mono hs₃
    dsimp only [tgtNames, setAll]
    repeat' walk_at "kl"
    refine sub_Pairs (by intro _ _; with_unfolding_all rfl) hP₃ (by omega) (by omega) (by omega) fun T hT hpT => ?_
    repeat' walk_at "kl"
    refine ⟨by simp, fun U hU => ⟨rfl, U, rfl, hU, Sub.set hU, ?_⟩⟩
    rw [hset_eq]; rfl
  case done =>
    intro D ts p₁ hlts hnd hts _ hs₁ hD
    have sD := Sub.set (o := .list (ts.map .ref)) hD
    have eD := hset_eq p₁ D (.list (ts.map .ref))
    repeat' walk_at "kl"
    refine aw_Lambda hcode CH BI F (L.keeps (hs₁.trans sD)) (by rfl) hqual (by decide) fun f c' pm ctv p₂ hf0 L1 hf1 hc1 hk1 => ?_
    have n192 : ∀ b o, (∀ x, o ≠ .obj x) → hset p₁ D (.list (ts.map .ref)) b = some o → p₂ b = some o := fun b o ho e => hk1 b o (by
      rintro rfl
      obtain ⟨x, hx⟩ := o192
      rw [sD _ _ (hs₁ _ _ hx)] at e; injection e with e; exact ho _ e.symm) e
    have eD2 := n192 _ _ (fun _ => by simp) eD
    have htl : ts.length = 10 := hlts
    have hT2 : ∀ (k : Nat) T, ts[k]? = some T → p₂ T = some (.tuple [iv (loN ps (9 - (k : Int)).toNat), iv (9 - (k : Int))]) := fun k T hT => by
      have hk : k < 10 := by rw [← htl]; exact (List.getElem?_eq_some_iff.mp hT).1
      obtain ⟨v, hv⟩ : ∃ v, downL[k]? = some v := ⟨_, List.getElem?_eq_getElem (show k < downL.length from hk)⟩
      obtain ⟨_, rfl⟩ := downL_get hv
      exact n192 _ _ (fun _ => by simp) (sD _ _ (hts k T _ hT hv))
    repeat' walk_at "kl"
    have kzg : ∀ k, k < 10 → (downL.map fun v => (loN ps v.toNat : Int)).getD k 0 = (loN ps (9 - k) : Int) := fun k hk => by
      obtain ⟨v, hv⟩ : ∃ v, downL[k]? = some v := ⟨_, List.getElem?_eq_getElem (show k < downL.length from hk)⟩
      obtain ⟨_, rfl⟩ := downL_get hv
      rw [List.getD_eq_getElem?_getD, List.getElem?_map, hv]
      show (loN ps (9 - (k : Int)).toNat : Int) = _
      rw [show (9 - (k : Int)).toNat = 9 - k by omega]
    refine call_sorted_key (kz := downL.map fun v => (loN ps v.toNat : Int)) (xs := fun k => [iv (loN ps (9 - (k : Int)).toNat), iv (9 - (k : Int))]) (b1 := "pair") (ts := ts) eD2 (by rw [List.length_map]; exact htl) (by rw [List.length_map]; decide) (by rw [List.length_map]; decide) hT2 (fun k hk => ?_) hf1 hc1 W.lim (by omega) rfl rfl rfl (fun v => by rfl) (by rfl) (by rfl)
      (fun A' g' fr' E' T vs n k t a1 F hT hv => ?_) fun D2 q hq hqs hD2 => ?_
    · have hk' : k < 10 := hk
      rw [kzg k hk', show (9 - (k : Int)).toNat = 9 - k by omega]; rfl
    · unfold bindLoc bindLoc
      repeat' walk_at "kl"
      exact sub_tuple_g (by intro _ _; with_unfolding_all rfl) hT (by decide) (by decide) hv rfl
    have hq10 : ∀ j ∈ q, j < 10 := fun j hj => List.mem_range.mp (hq.mem_iff.mp hj)
    have heq : zf.map Prod.snd = q.map fun j => 9 - j := by
      refine eq_of_sorted (R := RF ps) (fun a b h1 h2 => by unfold RF at h1 h2; omega) ?_ fs ?_
      · refine fp.trans (List.Perm.trans ?_ (hq.map _).symm)
        have : (List.range (downL.map fun v => (loN ps v.toNat : Int)).length).map (fun j => 9 - j) = (List.range 10).reverse := by rw [List.length_map]; decide
        rw [this]
        exact (List.reverse_perm _).symm
      · rw [List.pairwise_map]
        refine hqs.imp_of_mem fun {a b} ha hb hab => ?_
        have h1 := hq10 a ha
        have h2 := hq10 b hb
        unfold RK at hab
        dsimp only at hab
        rw [kzg a h1, kzg b h2] at hab
        unfold RF; omega
    have hz : ∀ (i : Nat) z, zf[i]? = some z → ∃ j, q[i]? = some j ∧ z.2 = 9 - j ∧ j < 10 := fun i z hi => by
      have := congrArg (fun l => l[i]?) heq
      simp only [List.getElem?_map, hi, Option.map_some] at this
      obtain ⟨j, hj, e⟩ := Option.map_eq_some_iff.mp this.symm
      exact ⟨j, hj, e.symm, hq10 j (List.mem_of_getElem? hj)⟩
    have hsub : ∀ b o, b ≠ 192 → hp b = some o → hset p₂ D2 (.list (q.map fun i => .ref (ts.getD i 0))) b = some o := fun b o hb e => hset_of hD2 (hk1 b o hb (sD _ _ (hs₁ _ _ e)))
    have ne192 : ∀ b o, (∀ x, o ≠ .obj x) → hp b = some o → b ≠ 192 := fun b o ho e => by
      rintro rfl
      obtain ⟨x, hx⟩ := o192
      rw [hx] at e; injection e with e; exact ho _ e.symm
    refine cop_ne_lists (hsub fi _ (ne192 _ _ (fun _ => by simp) KF.1) KF.1) (hset_eq ..) (by have := congrArg List.length heq; simpa using this) (fun i v w a b => ?_) (by omega) ⟨_, rfl, ?_⟩
    · rw [List.getElem?_map] at a b
      obtain ⟨z, hz1, rfl⟩ := Option.map_eq_some_iff.mp a
      obtain ⟨j, hj, hz2, hj10⟩ := hz i z hz1
      rw [hj] at b
      injection b with b
      subst b
      have tz := KF.2 z (List.mem_of_getElem? hz1)
      obtain ⟨U, hU⟩ : ∃ U, ts[j]? = some U := ⟨_, List.getElem?_eq_getElem (by omega)⟩
      have tU := hT2 j U hU
      refine .inr ⟨z.1, ts.getD j 0, _, rfl, rfl, hsub _ _ (ne192 _ _ (fun _ => by simp) tz) tz, ?_, fun x hx => ?_⟩
      · rw [List.getD_eq_getElem?_getD, hU]
        show hset p₂ D2 _ U = _
        rw [hset_of hD2 tU, hz2, show (9 - (j : Int)).toNat = 9 - j by omega, show (9 - (j : Int)) = ((9 - j : Nat) : Int) by omega]
      · rcases List.mem_cons.mp hx with rfl | hx
        · exact .inl ⟨_, rfl⟩
        · cases List.mem_singleton.mp hx; exact .inl ⟨_, rfl⟩
    · rw [if_neg Bool.false_ne_true]
      refine aw_execs_nil ?_
      exact h _ hsub (L1.keeps fun b o e => hset_of hD2 e)
end Mine
end
section
namespace Mine
theorem count_zs {key : Nat → Nat} {zs : List (Addr × Nat)} {n : Nat} (h : (zs.map Prod.snd).Perm (List.range n)) (q : Int → Bool) : (zs.map fun z => (key z.2 : Int)).countP q = (List.range n).countP fun j => q (key j) := by
  have e : (zs.map fun z => (key z.2 : Int)) = (zs.map Prod.snd).map fun j => (key j : Int) := by rw [List.map_map]; rfl
  rw [e, List.countP_map, h.countP_eq]; rfl
theorem cov_bis {ps : List (Nat × Nat)} {zf zl : List (Addr × Nat)} {n : Nat} (hf : (zf.map Prod.snd).Perm (List.range n)) (hl : (zl.map Prod.snd).Perm (List.range n)) (hle : ∀ j, loN ps j ≤ hiN ps j) (a : Nat) :
    ((bisL (zf.map fun z => (loN ps z.2 : Int)) ((a : Int) + 1) : Int) - bisR (zl.map fun z => (hiN ps z.2 : Int)) a) = (covP (loN ps) (hiN ps) n a : Nat) := by
  unfold bisL bisR
  rw [count_zs hf, count_zs hl]
  have := count_on (L := fun _ => 0) hle a 0 n
  simp only [decide_true, Bool.true_and, true_and] at this
  exact this
theorem law_end_2 {C : Cx} (W : WOk C) {A : Around} {g : Heap} {fr : Fm} {E : Value → Shared → Prop} {loc : LOC} {hp : HP} {Q : Flow → LOC → HP → Prop} (LA : LawAt A fr)
    {fi la : Addr} {ps : List (Nat × Nat)} {zf zl : List (Addr × Nat)} (l1 : loc "firsts" = some (.ref fi)) (l2 : loc "lasts" = some (.ref la))
    (KF : KRow (loN ps) hp fi zf) (KL : KRow (hiN ps) hp la zl) (fp : (zf.map Prod.snd).Perm (List.range 10)) (lp : (zl.map Prod.snd).Perm (List.range 10)) (fs : (zf.map Prod.snd).Pairwise (RF ps)) (ls : (zl.map Prod.snd).Pairwise (RL ps)) (hle : ∀ j, loN ps j ≤ hiN ps j)
    (h : ∀ loc' p' Dc, Sub hp p' → p' Dc = some (.list (((List.range 24).map fun a => (covP (loN ps) (hiN ps) 10 a : Int)).map iv)) → loc' "counts" = some (.ref Dc) → (∀ (y : Str) v, y ∉ (["first", "last", "counts"] : List Str) → loc y = some v → loc' y = some v) → awf C A g fr E (execs ((dBody (topStmt 21)).drop 19) fr.env) loc' p' Q) :
    awf C A g fr E (execs ((dBody (topStmt 21)).drop 17) fr.env) loc hp Q := by
  obtain ⟨F, hroom, hh, hfrm, hlf, hun, hcode, hqual⟩ := LA
  have hrange := W.range
  have hgR := W.gR
  obtain ⟨pmR, FR⟩ := W.fR
  have hgL := W.gL
  obtain ⟨pmL, FL⟩ := W.fL
  have lzf : zf.length = 10 := by have := fp.length_eq; simpa using this
  have lzl : zl.length = 10 := by have := lp.length_eq; simpa using this
  have sf : (zf.map fun z => (loN ps z.2 : Int)).Pairwise (· ≤ ·) := by
    have := fs
    rw [List.pairwise_map] at this ⊢
    exact this.imp fun {a b} h => by unfold RF at h; omega
  have sl : (zl.map fun z => (hiN ps z.2 : Int)).Pairwise (· ≤ ·) := by
    have := ls
    rw [List.pairwise_map] at this ⊢
    exact this.imp fun {a b} h => by unfold RL at h; omega
  have kf1 : hp fi = some (.list ((zf.map Prod.fst).map .ref)) := by rw [KF.1, List.map_map]; rfl
  have kl1 : hp la = some (.list ((zl.map Prod.fst).map .ref)) := by rw [KL.1, List.map_map]; rfl
  have kT : ∀ {key : Nat → Nat} {a : Addr} {zs : List (Addr × Nat)} {p : HP}, KRow key p a zs → ∀ (i : Nat) (T : Addr) (v : Addr × Nat), (zs.map Prod.fst)[i]? = some T → zs[i]? = some v → p T = some (.tuple [iv (key v.2), iv v.2]) := fun {key a zs p} K i T v e1 e2 => by
    rw [List.getElem?_map, e2] at e1
    injection e1 with e1
    rw [← e1]; exact K.2 v (List.mem_of_getElem? e2)
  refine aw_execs_cons ?_
  repeat' walk_at "kl"
  refine comp_map zf (fun z => [iv (loN ps z.2), iv z.2]) (fun z => iv (loN ps z.2)) (it_pairsV hh kf1 (by simp) (kT KF) fun need hneed => ⟨rfl, by omega, ?elt, ?done⟩)
  case elt =>
    intro z hz g₃ fr₃ E₃ hF₃
    dsimp only [tgtNames, setAll]
    repeat' walk_at "kl"
    exact ⟨rfl, Sub.rfl, rfl⟩
  case done =>
    intro D1 hD1
    have s1 := Sub.set (o := .list (zf.map fun z => iv (loN ps z.2))) hD1
    have e1 : hset hp D1 (.list (zf.map fun z => iv (loN ps z.2))) D1 = some (.list ((zf.map fun z => (loN ps z.2 : Int)).map iv)) := by rw [hset_eq, List.map_map]; rfl
    have KL1 := KL.frame (p' := hset hp D1 (.list (zf.map fun z => iv (loN ps z.2)))) ((s1 _ _ KL.1).trans KL.1.symm) fun b xs e => s1 _ _ e
    have kl2 := s1 _ _ kl1
    generalize hset hp D1 (.list (zf.map fun z => iv (loN ps z.2))) = p₁ at s1 e1 KL1 kl2 ⊢
    repeat' walk_at "kl"
    refine comp_map zl (fun z => [iv (hiN ps z.2), iv z.2]) (fun z => iv (hiN ps z.2)) (it_pairsV hh kl2 (by simp) (kT KL1) fun need hneed => ⟨rfl, by omega, ?elt2, ?done2⟩)
    case elt2 =>
      intro z hz g₃ fr₃ E₃ hF₃
      dsimp only [tgtNames, setAll]
      repeat' walk_at "kl"
      exact ⟨rfl, Sub.rfl, rfl⟩
    case done2 =>
      intro D2 hD2
      have s2 := Sub.set (o := .list (zl.map fun z => iv (hiN ps z.2))) hD2
      have e2 : hset p₁ D2 (.list (zl.map fun z => iv (hiN ps z.2))) D2 = some (.list ((zl.map fun z => (hiN ps z.2 : Int)).map iv)) := by rw [hset_eq, List.map_map]; rfl
      generalize hset p₁ D2 (.list (zl.map fun z => iv (hiN ps z.2))) = p₂ at s2 e2 ⊢
      have e1' := s2 _ _ e1
      repeat' walk_at "kl"
      refine ⟨by simp, fun T hT => ⟨T, _, _, rfl, hset_eq .., ?_⟩⟩
      have sT := Sub.set (o := .tuple [.ref D1, .ref D2]) hT
      show awf _ _ _ _ _ _ _ (hset p₂ T (.tuple [.ref D1, .ref D2])) _
      generalize hset p₂ T (.tuple [.ref D1, .ref D2]) = p₃ at sT ⊢
      have e3 := sT _ _ e1'
      have e4 := sT _ _ e2
      repeat' walk_at "kl"
      refine call_range1 fun r hr => comp_map (rangeL 0 24) (fun v => [iv v]) (fun v => iv (covP (loN ps) (hiN ps) 10 v.toNat)) (it_range hh hr (by decide) (by decide) ⟨rfl, by decide, ?elt3, ?done3⟩)
      case elt3 =>
        intro v hv g₃ fr₃ E₃ hF₃
        obtain ⟨v1, v2⟩ := mem_rangeL.mp hv
        dsimp only [tgtNames, setAll]
        repeat' walk_at "kl"
        refine bisect_left_ok W (by omega) e3 (by rw [List.length_map]; omega) sf ?_
        repeat' walk_at "kl"
        refine bisect_right_ok W (by omega) e4 (by rw [List.length_map]; omega) sl ?_
        repeat' walk_at "kl"
        have := cov_bis fp lp hle v.toNat
        rw [show ((v.toNat : Nat) : Int) = v by omega] at this
        exact ⟨rfl, Sub.rfl, by rw [this]⟩
      case done3 =>
        intro D3 hD3
        have e5 : (rangeL 0 24).map (fun v => iv (covP (loN ps) (hiN ps) 10 v.toNat)) = ((List.range 24).map fun a => (covP (loN ps) (hiN ps) 10 a : Int)).map iv := by
          have : rangeL 0 24 = (List.range 24).map fun a : Nat => (a : Int) := by decide
          rw [this, List.map_map, List.map_map]
          exact List.map_congr_left fun a _ => by show iv (covP _ _ 10 ((a : Int)).toNat) = _; rw [Int.toNat_natCast]; rfl
        refine h _ _ D3 (s1.trans (s2.trans (sT.trans (Sub.set hD3)))) (by rw [hset_eq, e5]) (by walk_at "loc") fun y v hy e => ?_
        simp only [List.mem_cons, not_or] at hy
        obtain ⟨y1, y2, y3, _⟩ := hy
        exact lset_ne y3 (lset_ne y2 (lset_ne y1 e))
end Mine
end
section
namespace Mine
theorem law_end_3 {C : Cx} (W : WOk C) {A : Around} {g : Heap} {fr : Fm} {E : Value → Shared → Prop} {loc : LOC} {hp : HP} {Q : Flow → LOC → HP → Prop} (LA : LawAt A fr)
    {la S₁ Dc th : Addr} {sts tts : List Addr} {ps : List (Nat × Nat)} {zl : List (Addr × Nat)} {rows : List (List Int)} {Ls : List Nat} (l1 : loc "lasts" = some (.ref la)) (l2 : loc "spans" = some (.ref S₁)) (l3 : loc "counts" = some (.ref Dc)) (l4 : loc "there" = some (.ref th))
    (hP : Pairs hp S₁ sts ps) (KL : KRow (hiN ps) hp la zl) (lp : (zl.map Prod.snd).Perm (List.range 10)) (ls : (zl.map Prod.snd).Pairwise (RL ps)) (hpl : ps.length = 10)
    (hDc : hp Dc = some (.list (((List.range 24).map fun a => (covP (loN ps) (hiN ps) 10 a : Int)).map iv))) (rt : Rows hp th tts rows) (TH : ThereOk ps Ls rows) (hL : Ls.length = 10)
    (h : ∀ p', Sub hp p' → awf C A g fr E (execs ((dBody (topStmt 21)).drop 20) fr.env) loc p' Q) :
    awf C A g fr E (execs ((dBody (topStmt 21)).drop 19) fr.env) loc hp Q := by
  obtain ⟨F, hroom, hh, hfrm, hlf, hun, hcode, hqual⟩ := LA
  have henum := W.enumerate
  have hsorted := W.sorted
  have hlen := W.len
  have hstl : sts.length = 10 := by rw [hP.2.1, hpl]
  refine aw_execs_cons ?_
  repeat' walk_at "kl"
  refine onCall_mono (it_enum hh hP.1 ?en) fun v l p hz => comp_new sts.zipIdx (fun z => [iv z.2, .ref z.1]) (fun z => .tuple [iv (hiN ps z.2), iv z.2]) hz
  case en =>
    refine ⟨by rw [List.zipIdx_map, List.map_map]; rfl, by simp; omega, fun p' hs => hs _ _ hP.1, ?elt, ?done⟩
    case elt =>
      intro z hz g₃ fr₃ E₃ p₃ hF₃ hs₃
      obtain ⟨T, k⟩ := z
      obtain ⟨j, hj⟩ := List.mem_iff_getElem?.mp hz
      rw [List.getElem?_zipIdx] at hj
      obtain ⟨T', hT', e⟩ := Option.map_eq_some_iff.mp hj
      injection e with e1 e2
      subst e1
      have e3 : j = k := by omega
      subst e3
      have hk : j < ps.length := by rw [hpl, ← hstl]; exact (List.getElem?_eq_some_iff.mp hT').1
      have hT := hs₃ _ _ (hP.2.2 j T' _ hT' (List.getElem?_eq_getElem hk))
      have eh : (ps[j]).2 = hiN ps j := by unfold hiN; rw [List.getD_eq_getElem?_getD, List.getElem?_eq_getElem hk]; rfl
      rw [eh] at hT
      dsimp only [tgtNames, setAll]
      repeat' walk_at "kl"
      exact ⟨by simp, fun U hU => ⟨rfl, U, rfl, hU, Sub.set hU, by rw [hset_eq]⟩⟩
    case done =>
      intro D ts p₁ hlts hnd hts _ hs₁ hD
      have sD := hs₁.trans (Sub.set (o := .list (ts.map .ref)) hD)
      have eD := hset_eq p₁ D (.list (ts.map .ref))
      have htl : ts.length = 10 := by rw [hlts]; simp [hstl]
      obtain ⟨pq, hpq⟩ : ∃ l : List (Int × Int), l = (List.range 10).map fun k : Nat => ((hiN ps k : Int), (k : Int)) := ⟨_, rfl⟩
      have hpql : pq.length = 10 := by rw [hpq]; simp
      have pqg : ∀ k, k < 10 → pq[k]? = some ((hiN ps k : Int), (k : Int)) := fun k hk => by rw [hpq, List.getElem?_map, List.getElem?_range hk]; rfl
      have hT2 : ∀ (k : Nat) T x, ts[k]? = some T → pq[k]? = some x → hset p₁ D (.list (ts.map .ref)) T = some (.tuple [iv x.1, iv x.2]) := fun k T x a b => by
        have hk : k < 10 := by rw [← htl]; exact (List.getElem?_eq_some_iff.mp a).1
        rw [pqg k hk] at b
        injection b with b; subst b
        refine hset_of hD (hts k T (sts[k], k) a ?_)
        rw [List.getElem?_zipIdx, List.getElem?_eq_getElem (by omega)]; simp
      generalize hset p₁ D (.list (ts.map .ref)) = p₂ at sD eD hT2 ⊢
      repeat' walk_at "kl"
      refine call_sorted_pairs (ps := pq) eD (by omega) (by omega) (by omega) hT2 (fun x hx => ?_) fun D2 q hq hqs hD2 => ?_
      · rw [hpq] at hx
        obtain ⟨k, hk, rfl⟩ := List.mem_map.mp hx
        have := List.mem_range.mp hk
        dsimp only; omega
      rw [hpql] at hq
      have hq10 : ∀ j ∈ q, j < 10 := fun j hj => List.mem_range.mp (hq.mem_iff.mp hj)
      have heq : zl.map Prod.snd = q := by
        refine eq_of_sorted (R := RL ps) (fun a b h1 h2 => by unfold RL at h1 h2; omega) (lp.trans hq.symm) ls ?_
        refine hqs.imp_of_mem fun {a b} ha hb hab => ?_
        have h1 := hq10 a ha
        have h2 := hq10 b hb
        unfold RK at hab
        dsimp only at hab
        rw [List.getD_eq_getElem?_getD, List.getD_eq_getElem?_getD, pqg a h1, pqg b h2] at hab
        simp only [Option.getD_some] at hab
        unfold RL; omega
      have s2 := sD.trans (Sub.set (o := .list (q.map fun i => .ref (ts.getD i 0))) hD2)
      have e2 := hset_eq p₂ D2 (.list (q.map fun i => .ref (ts.getD i 0)))
      have hT3 : ∀ (k : Nat) T x, ts[k]? = some T → pq[k]? = some x → hset p₂ D2 (.list (q.map fun i => .ref (ts.getD i 0))) T = some (.tuple [iv x.1, iv x.2]) := fun k T x a b => hset_of hD2 (hT2 k T x a b)
      generalize hset p₂ D2 (.list (q.map fun i => .ref (ts.getD i 0))) = p₃ at s2 e2 hT3 ⊢
      refine cop_ne_lists (s2 _ _ KL.1) e2 (by have := congrArg List.length heq; simpa using this) (fun i v w a b => ?_) (by omega) ⟨_, rfl, ?_⟩
      · rw [List.getElem?_map] at a b
        obtain ⟨z, hz1, rfl⟩ := Option.map_eq_some_iff.mp a
        have hj : q[i]? = some z.2 := by rw [← heq, List.getElem?_map, hz1]; rfl
        rw [hj] at b
        injection b with b
        subst b
        have hj10 := hq10 z.2 (List.mem_of_getElem? hj)
        obtain ⟨U, hU⟩ : ∃ U, ts[z.2]? = some U := ⟨_, List.getElem?_eq_getElem (by omega)⟩
        refine .inr ⟨z.1, ts.getD z.2 0, _, rfl, rfl, s2 _ _ (KL.2 z (List.mem_of_getElem? hz1)), ?_, fun x hx => ?_⟩
        · rw [List.getD_eq_getElem?_getD, hU]
          exact hT3 z.2 U _ hU (pqg z.2 hj10)
        · rcases List.mem_cons.mp hx with rfl | hx
          · exact .inl ⟨_, rfl⟩
          · cases List.mem_singleton.mp hx; exact .inl ⟨_, rfl⟩
      rw [if_neg Bool.false_ne_true]
      have rt3 := rt.mono s2
      have hDc3 := s2 _ _ hDc
      repeat' walk_at "kl"
      have htt : tts.length = 24 := by rw [rt3.2.1, TH.len]
      have hz3 : (tts.zip rows).map Prod.fst = tts := List.map_fst_zip (by rw [rt3.2.1]; exact Nat.le_refl _)
      refine comp_map (tts.zip rows) (fun z => [.ref z.1]) (fun z => iv z.2.length) (it_list hh rt3.1 ⟨?evs, ?len3, ?elt3, ?done3⟩)
      case evs =>
        conv => lhs; rw [← hz3]
        rw [List.map_map, List.map_map]; rfl
      case len3 => simp; omega
      case elt3 =>
        intro z hz g₃ fr₃ E₃ hF₃
        obtain ⟨T, r⟩ := z
        obtain ⟨k, hk⟩ := List.mem_iff_getElem?.mp hz
        obtain ⟨hk1, hk2⟩ := List.getElem?_zip_eq_some.mp hk
        have hT := rt3.2.2.2 k T r hk1 hk2
        have hr := TH.sizes r (List.mem_of_getElem? hk2)
        dsimp only [tgtNames, setAll]
        repeat' walk_at "kl"
        refine call_len_list' hT (by rw [List.length_map, sizeLine_eq]; omega) ⟨rfl, Sub.rfl, ?_⟩
        rw [List.length_map]
      case done3 =>
        intro D3 hD3
        have e3 : (tts.zip rows).map (fun z => iv z.2.length) = ((List.range 24).map fun a => (covP (loN ps) (hiN ps) 10 a : Int)).map iv := by
          have z2 : (tts.zip rows).map Prod.snd = rows := List.map_snd_zip (by rw [rt3.2.1]; exact Nat.le_refl _)
          have a1 : (tts.zip rows).map (fun z => iv z.2.length) = rows.map fun r => iv r.length := by
            conv => rhs; rw [← z2]
            rw [List.map_map]; rfl
          rw [a1, List.map_map]
          conv => lhs; rw [← range_getD [] rows]
          rw [List.map_map, TH.len]
          refine List.map_congr_left fun a ha => ?_
          show iv ((rows.getD a []).length : Int) = iv (covP (loN ps) (hiN ps) 10 a : Int)
          rw [TH.size a (List.mem_range.mp ha), hL]
        refine cop_ne_lists (hset_of hD3 hDc3) (by rw [hset_eq, e3]) rfl sameV_ints (by omega) ⟨_, rfl, ?_⟩
        rw [if_neg Bool.false_ne_true]
        refine aw_execs_nil ?_
        exact h _ (s2.trans (Sub.set hD3))
end Mine
end
section
namespace Mine
theorem eq_of_mem : ∀ {l₁ l₂ : List Nat}, l₁.Pairwise (· < ·) → l₂.Pairwise (· < ·) → (∀ x, x ∈ l₁ ↔ x ∈ l₂) → l₁ = l₂
  | [], [], _, _, _ => rfl
  | [], y :: l₂, _, _, h => by have := (h y).mpr (.head _); cases this
  | x :: l₁, [], _, _, h => by have := (h x).mp (.head _); cases this
  | x :: l₁, y :: l₂, h1, h2, h => by
    obtain ⟨a1, b1⟩ := List.pairwise_cons.mp h1
    obtain ⟨a2, b2⟩ := List.pairwise_cons.mp h2
    have e : x = y := by
      rcases List.mem_cons.mp ((h x).mp (.head _)) with q | q
      · exact q
      · rcases List.mem_cons.mp ((h y).mpr (.head _)) with r | r
        · exact r.symm
        · have := a1 y r; have := a2 x q; omega
    subst e
    rw [eq_of_mem b1 b2 fun z => ?_]
    constructor
    · intro hz
      rcases List.mem_cons.mp ((h z).mp (.tail _ hz)) with q | q
      · have := a1 z hz; omega
      · exact q
    · intro hz
      rcases List.mem_cons.mp ((h z).mpr (.tail _ hz)) with q | q
      · have := a2 z hz; omega
      · exact q
theorem bits_sum : ∀ (n : Nat) (N : List Nat), N.length = n → N.Pairwise (· < ·) → ∀ b, (∀ x ∈ N, x < b) → (N.map fun f => 2 ^ f).sum < 2 ^ b ∧ ∀ k, (N.map fun f => 2 ^ f).sum.testBit k = decide (k ∈ N)
  | 0, N, hn, _, b, _ => by
    rw [List.length_eq_zero_iff.mp hn]
    exact ⟨Nat.two_pow_pos b, fun k => by simp⟩
  | n + 1, N, hn, hp, b, hb => by
    obtain ⟨r, m, rfl⟩ : ∃ r m, N = r ++ [m] := ⟨N.dropLast, N.getLast (by rintro rfl; simp at hn), (List.dropLast_concat_getLast _).symm⟩
    obtain ⟨p1, _, p3⟩ := List.pairwise_append.mp hp
    have hr : ∀ x ∈ r, x < m := fun x hx => p3 x hx m (.head _)
    obtain ⟨s1, s2⟩ := bits_sum n r (by simpa using hn) p1 m hr
    have hm : m < b := hb m (by simp)
    have e : ((r ++ [m]).map fun f => 2 ^ f).sum = 2 ^ m + (r.map fun f => 2 ^ f).sum := by
      rw [List.map_append, List.sum_append]; simp; omega
    have hlt : 2 ^ m + (r.map fun f => 2 ^ f).sum < 2 ^ (m + 1) := by rw [Nat.pow_succ]; omega
    rw [e]
    refine ⟨Nat.lt_of_lt_of_le hlt (Nat.pow_le_pow_right (by decide) hm), fun k => ?_⟩
    rcases Nat.lt_trichotomy k m with q | q | q
    · rw [Nat.testBit_two_pow_add_gt q, s2 k]
      refine decide_eq_decide.mpr ?_
      rw [List.mem_append, List.mem_singleton]
      exact ⟨.inl, fun h => h.resolve_right (by omega)⟩
    · subst q
      rw [Nat.testBit_two_pow_add_eq, Nat.testBit_lt_two_pow s1]
      simp
    · rw [Nat.testBit_lt_two_pow (Nat.lt_of_lt_of_le hlt (Nat.pow_le_pow_right (by decide) q))]
      refine (decide_eq_false fun h => ?_).symm
      rcases List.mem_append.mp h with h | h
      · have := hr k h; omega
      · rw [List.mem_singleton] at h; omega
theorem bitsTo_sum {N : List Nat} (hp : N.Pairwise (· < ·)) (hb : ∀ x ∈ N, x < 32) : bitsTo (N.map fun f => 2 ^ f).sum 32 = N := by
  obtain ⟨s1, s2⟩ := bits_sum _ N rfl hp 32 hb
  refine eq_of_mem ?_ hp fun x => ?_
  · unfold bitsTo
    exact List.Pairwise.filter _ (List.pairwise_lt_range)
  · unfold bitsTo
    rw [List.mem_filter, List.mem_range, s2, decide_eq_true_eq]
    exact ⟨fun h => h.2, fun h => ⟨hb x h, h⟩⟩
theorem wordsOf_sum {N : List Nat} (hp : N.Pairwise (· < ·)) (hb : ∀ x ∈ N, x < 32) (hne : N ≠ []) : wordsOf (N.map fun f => 2 ^ f).sum = N.map word := by
  unfold wordsOf
  have e := bitsTo_sum hp hb
  rw [if_neg (fun w => ?_), e]
  rw [w] at e
  have : bitsTo 0 32 = [] := by decide
  rw [this] at e
  exact hne e.symm
theorem zip_fm {α : Type} {sts : List α} {g : Nat → Option Value} : sts.zipIdx.filterMap (fun z => g z.2) = (List.range sts.length).filterMap g := by
  have e : sts.zipIdx.map Prod.snd = List.range sts.length := by rw [List.zipIdx_map_snd, List.range_eq_range']
  rw [← e, List.filterMap_map]; rfl
theorem law_end_4 {C : Cx} (W : WOk C) {A : Around} {g : Heap} {fr : Fm} {E : Value → Shared → Prop} {loc : LOC} {hp : HP} {Q : Flow → LOC → HP → Prop} (LA : LawAt A fr)
    {S₁ Dc Dw ln : Addr} {sts : List Addr} {ps : List (Nat × Nat)} {Ls fs : List Nat} {full : Nat} (l1 : loc "lines" = some (.ref ln)) (l2 : loc "spans" = some (.ref S₁)) (l3 : loc "counts" = some (.ref Dc)) (l4 : loc "fullest" = some (iv full)) (l5 : loc "names" = some (.ref Dw))
    (hP : Pairs hp S₁ sts ps) (hpl : ps.length = 10) (hL : Ls.length = 10) (hln : hp ln = some (.list ((intsN ((List.range Ls.length).map (lineN Ls fs))).map iv)))
    (hDc : hp Dc = some (.list (((List.range 24).map fun a => (covP (loN ps) (hiN ps) 10 a : Int)).map iv))) (hDw : hp Dw = some (.list ((List.range 32).map fun k => .str (word k) 0)))
    (G : Good ps Ls fs full) (hlt : ∀ j, j < 10 → loN ps j < hiN ps j) (hlo : ∀ j, loN ps j ≤ 15) (hf : 1 ≤ full ∧ full ≤ 10) (hfull : ∃ v ∈ ps, cntOn ps v.1 = full)
    (h : ∀ loc' p', Sub hp p' → Q (.ret (.bool true)) loc' p') :
    awf C A g fr E (execs ((dBody (topStmt 21)).drop 20) fr.env) loc hp Q := by
  obtain ⟨F, hroom, hh, hfrm, hlf, hun, hcode, hqual⟩ := LA
  have henum := W.enumerate
  have hsorted := W.sorted
  have hsum := W.sum
  have hgP := W.gPretty
  obtain ⟨pmP, FP⟩ := W.fPretty
  have hstl : sts.length = 10 := by rw [hP.2.1, hpl]
  obtain ⟨cs, hcs⟩ : ∃ cs : List Int, cs = (List.range 24).map fun a => (covP (loN ps) (hiN ps) 10 a : Int) := ⟨_, rfl⟩
  rw [← hcs] at hDc
  have csl : cs.length = 24 := by rw [hcs]; simp
  have csg : ∀ a, a < 24 → cs[a]? = some (covP (loN ps) (hiN ps) 10 a : Int) := fun a ha => by rw [hcs, List.getElem?_map, List.getElem?_range ha]; rfl
  have hin : (full : Int) ∈ cs := by
    obtain ⟨v, hv, e⟩ := hfull
    obtain ⟨j, hj⟩ := List.mem_iff_getElem?.mp hv
    have : v.1 = loN ps j := by unfold loN; rw [List.getD_eq_getElem?_getD, hj]; rfl
    have h15 := hlo j
    have := csg v.1 (by omega)
    rw [← hpl, covP_cntOn, e] at this
    exact List.mem_of_getElem? this
  obtain ⟨c, hc⟩ : ∃ c, c = cs.idxOf (full : Int) := ⟨_, rfl⟩
  have hc24 : c < 24 := by rw [hc, ← csl]; exact List.idxOf_lt_length_iff.mpr hin
  have hcov : covP (loN ps) (hiN ps) 10 c = full := by
    have e1 := csg c hc24
    have e2 : cs[c]? = some (full : Int) := by
      rw [hc, List.getElem?_eq_getElem (List.idxOf_lt_length_iff.mpr hin), List.getElem_idxOf]
    rw [e2] at e1; injection e1 with e1; omega
  refine aw_execs_cons ?_
  repeat' walk_at "kl"
  refine onCall_mono (it_enum hh hP.1 ?en) fun v l p hz => comp_pure sts.zipIdx (fun z => [iv z.2, .ref z.1]) (fun z => if (loN ps z.2 : Int) ≤ c ∧ (c : Int) < hiN ps z.2 then some (iv (lineN Ls fs z.2)) else none) hz
  case en =>
    refine ⟨by rw [List.zipIdx_map, List.map_map]; rfl, by simp; omega, ?elt, ?done⟩
    case elt =>
      intro z hz g₃ fr₃ E₃ hF₃
      obtain ⟨T, k⟩ := z
      obtain ⟨j, hj⟩ := List.mem_iff_getElem?.mp hz
      rw [List.getElem?_zipIdx] at hj
      obtain ⟨T', hT', e⟩ := Option.map_eq_some_iff.mp hj
      injection e with e1 e2
      subst e1
      have e3 : j = k := by omega
      subst e3
      have hk : j < ps.length := by rw [hpl, ← hstl]; exact (List.getElem?_eq_some_iff.mp hT').1
      have hT := hP.2.2 j T' _ hT' (List.getElem?_eq_getElem hk)
      have eh : (ps[j]).2 = hiN ps j := by unfold hiN; rw [List.getD_eq_getElem?_getD, List.getElem?_eq_getElem hk]; rfl
      have el : (ps[j]).1 = loN ps j := by unfold loN; rw [List.getD_eq_getElem?_getD, List.getElem?_eq_getElem hk]; rfl
      rw [eh, el] at hT
      dsimp only [tgtNames, setAll]
      repeat' walk_at "kl"
      refine ⟨_, meth_list PySem.F.slot_list_index PySem.F.type_list_index hDc, ?_⟩
      repeat' walk_at "kl"
      refine ⟨kp_builtin, m_index hDc (by omega) hin ?_⟩
      rw [← hc]
      repeat' walk_at "kl"
      by_cases h1 : (loN ps j : Int) ≤ c
      · rw [if_pos (by simpa using h1)]
        repeat' walk_at "kl"
        refine ⟨rfl, Sub.rfl, ?_⟩
        by_cases h2 : (c : Int) < hiN ps j
        · rw [if_pos (by simpa using h2)]
          intro g₅ E₅
          repeat' walk_at "kl"
          refine sub_int (by intro _ _; with_unfolding_all rfl) hln (by omega) (by simp [intsN]; omega) (by simp [intsN]; omega) ?_
          rw [Int.toNat_natCast, lines_get (by omega)]
          exact ⟨rfl, Sub.rfl, if_pos ⟨h1, h2⟩⟩
        · rw [if_neg (by simpa using h2)]
          exact if_neg fun h => h2 h.2
      · rw [if_neg (by simpa using h1)]
        refine ⟨rfl, Sub.rfl, ?_⟩
        rw [if_neg (by decide)]
        exact if_neg fun h => h1 h.1
    case done =>
      intro D hD
      repeat' walk_at "kl"
      rw [zip_fm (g := fun k => if (loN ps k : Int) ≤ c ∧ (c : Int) < hiN ps k then some (iv (lineN Ls fs k)) else none), filterMap_if (fun k : Nat => (loN ps k : Int) ≤ c ∧ (c : Int) < hiN ps k) (fun k => iv (lineN Ls fs k)), hstl]
      obtain ⟨H, hH⟩ : ∃ H : List Nat, H = ((List.range 10).filter fun k => decide ((loN ps k : Int) ≤ c ∧ (c : Int) < hiN ps k)).map (lineN Ls fs) := ⟨_, rfl⟩
      have sD := Sub.set (o := .list (((List.range 10).filter fun k => decide ((loN ps k : Int) ≤ c ∧ (c : Int) < hiN ps k)).map fun k => iv (lineN Ls fs k))) hD
      have eD : hset hp D (.list (((List.range 10).filter fun k => decide ((loN ps k : Int) ≤ c ∧ (c : Int) < hiN ps k)).map fun k => iv (lineN Ls fs k))) D = some (.list ((intsN H).map iv)) := by
        rw [hset_eq, hH, intsN, List.map_map, List.map_map]; rfl
      generalize hset hp D (.list (((List.range 10).filter fun k => decide ((loN ps k : Int) ≤ c ∧ (c : Int) < hiN ps k)).map fun k => iv (lineN Ls fs k))) = p₁ at sD eD ⊢
      have hHlen : H.length ≤ 10 := by rw [hH, List.length_map]; exact Nat.le_trans (List.length_filter_le _ _) (by simp)
      have hHlt : ∀ x ∈ H, x < 32 := fun x hx => by
        rw [hH] at hx
        obtain ⟨k, hk, rfl⟩ := List.mem_map.mp hx
        have hk' := List.mem_range.mp (List.mem_filter.mp hk).1
        have := lineN_lt G (j := k) (by omega)
        omega
      have hHnd : H.Nodup := by
        rw [hH]
        refine List.pairwise_map.mpr (List.Pairwise.imp_of_mem (fun {a b} ha hb hab => ?_) (List.Pairwise.filter _ (List.nodup_range (n := 10))))
        intro e
        obtain ⟨a1, a2⟩ := List.mem_filter.mp ha
        obtain ⟨b1, b2⟩ := List.mem_filter.mp hb
        have a1' := List.mem_range.mp a1
        have b1' := List.mem_range.mp b1
        simp only [decide_eq_true_eq] at a2 b2
        exact line_apart G (fun j hj => hlt j (by omega)) (by omega) (by omega) hab e ⟨by omega, by omega⟩
      have hHne : H ≠ [] := by
        intro w
        have : ((List.range 10).filter fun k => decide ((loN ps k : Int) ≤ c ∧ (c : Int) < hiN ps k)).length = full := by
          rw [← List.countP_eq_length_filter, ← hcov]
          unfold covP
          exact List.countP_congr fun k _ => by simp only [decide_eq_true_eq]; omega
        have e2 := congrArg List.length w
        rw [hH, List.length_map, this] at e2
        simp at e2; omega
      repeat' walk_at "kl"
      refine call_sorted_ints eD (by simp [intsN]; omega) fun D2 ns' hpm hso hD2 => ?_
      obtain ⟨N, hN, hNm, hNs⟩ : ∃ N : List Nat, ns' = intsN N ∧ (∀ x, x ∈ N ↔ x ∈ H) ∧ N.Pairwise (· < ·) := by
        refine ⟨ns'.map Int.toNat, ?_, fun x => ?_, ?_⟩
        · rw [intsN, List.map_map]
          conv => lhs; rw [← List.map_id ns']
          refine List.map_congr_left fun x hx => ?_
          obtain ⟨y, _, rfl⟩ := List.mem_map.mp (hpm.mem_iff.mp hx)
          rfl
        · rw [List.mem_map]
          constructor
          · rintro ⟨y, hy, rfl⟩
            obtain ⟨z, hz, rfl⟩ := List.mem_map.mp (hpm.mem_iff.mp hy)
            exact hz
          · intro hx
            exact ⟨x, hpm.mem_iff.mpr (List.mem_map.mpr ⟨x, hx, rfl⟩), rfl⟩
        · have hnd : ns'.Nodup := hpm.nodup_iff.mpr (List.pairwise_map.mpr (hHnd.imp fun {a b} hab w => hab (by omega)))
          rw [List.pairwise_map]
          have := hso.and hnd
          refine this.imp_of_mem fun {a b} ha hb hab => ?_
          obtain ⟨y, _, rfl⟩ := List.mem_map.mp (hpm.mem_iff.mp ha)
          obtain ⟨z, _, rfl⟩ := List.mem_map.mp (hpm.mem_iff.mp hb)
          have h1 := hab.1
          have h2 := hab.2
          simp only [Int.toNat_natCast]
          omega
      subst hN
      have hNlt : ∀ x ∈ N, x < 32 := fun x hx => hHlt x ((hNm x).mp hx)
      have hNne : N ≠ [] := fun w => hHne (by
        cases q : H with
        | nil => rfl
        | cons x r => have := (hNm x).mpr (by rw [q]; exact .head _); rw [w] at this; cases this)
      have hNlen : N.length ≤ 10 := by
        have := hpm.length_eq
        simp [intsN] at this; omega
      have s2 := sD.trans (Sub.set (o := .list ((intsN N).map iv)) hD2)
      have e2 := hset_eq p₁ D2 (.list ((intsN N).map iv))
      generalize hset p₁ D2 (.list ((intsN N).map iv)) = p₂ at s2 e2 ⊢
      have hDw2 := s2 _ _ hDw
      repeat' walk_at "kl"
      refine comp_map (intsN N) (fun v => [iv v]) (fun v => iv (1 * 2 ^ v.toNat)) (it_ints hh e2 ⟨rfl, by simp [intsN]; omega, ?elt2, ?done2⟩)
      case elt2 =>
        intro v hv g₃ fr₃ E₃ hF₃
        obtain ⟨x, hx, rfl⟩ := List.mem_map.mp hv
        have := hNlt x hx
        dsimp only [tgtNames, setAll]
        repeat' walk_at "kl"
        refine op_shl (by omega) (by omega) (by decide) ?_
        exact ⟨rfl, Sub.rfl, rfl⟩
      case done2 =>
        intro D3 hD3
        have s3 := s2.trans (Sub.set (o := .list ((intsN N).map fun v => iv (1 * 2 ^ v.toNat))) hD3)
        have e3 : hset p₂ D3 (.list ((intsN N).map fun v => iv (1 * 2 ^ v.toNat))) D3 = some (.list ((N.map fun f => ((2 ^ f : Nat) : Int)).map iv)) := by
          rw [hset_eq, intsN, List.map_map, List.map_map]
          refine congrArg (fun l => some (AO.list l)) (List.map_congr_left fun f _ => ?_)
          show iv (1 * 2 ^ ((f : Int)).toNat) = iv ((2 ^ f : Nat) : Int)
          rw [Int.toNat_natCast]; push_cast; rw [Int.one_mul]
        have e4 := Sub.set (o := .list ((intsN N).map fun v => iv (1 * 2 ^ v.toNat))) hD3 _ _ e2
        generalize hset p₂ D3 (.list ((intsN N).map fun v => iv (1 * 2 ^ v.toNat))) = p₃ at s3 e3 e4 ⊢
        repeat' walk_at "kl"
        refine call_sum hh e3 ?_
        rw [sum_cast]
        repeat' walk_at "kl"
        refine pretty_ok W (by omega) hh (bits_sum _ N rfl hNs 32 hNlt).1 fun p₄ hs4 => ?_
        rw [wordsOf_sum hNs hNlt hNne]
        have e5 := hs4 _ _ e4
        have hDw4 := hs4 _ _ (s3 _ _ hDw)
        repeat' walk_at "kl"
        refine ⟨_, meth_str PySem.F.slot_str_join PySem.F.type_str_join, ?_⟩
        repeat' walk_at "kl"
        refine comp_map (intsN N) (fun v => [iv v]) (fun v => .str (word v.toNat) 0) (it_ints hh e5 ⟨rfl, by simp [intsN]; omega, ?elt3, ?done3⟩)
        case elt3 =>
          intro v hv g₃ fr₃ E₃ hF₃
          obtain ⟨x, hx, rfl⟩ := List.mem_map.mp hv
          have := hNlt x hx
          dsimp only [tgtNames, setAll]
          repeat' walk_at "kl"
          refine sub_list (by intro _ _; with_unfolding_all rfl) hDw4 (by omega) (by omega) (x := .str (word x) 0) (by rw [Int.toNat_natCast, List.getElem?_map, List.getElem?_range (by omega)]; rfl) ?_
          exact ⟨rfl, Sub.rfl, by rw [Int.toNat_natCast]⟩
        case done3 =>
          intro D5 hD5
          have e6 : hset p₄ D5 (.list ((intsN N).map fun v => .str (word v.toNat) 0)) D5 = some (.list ((N.map word).map fun y => .str y 0)) := by
            rw [hset_eq, intsN, List.map_map, List.map_map]
            refine congrArg (fun l => some (AO.list l)) (List.map_congr_left fun f _ => ?_)
            show Value.str (word ((f : Int)).toNat) 0 = _
            rw [Int.toNat_natCast]; rfl
          repeat' walk_at "kl"
          refine ⟨kp_builtin, m_join e6 (by decide +kernel) (by rw [List.length_map]; omega) (fun y hy => ?_) ?_⟩
          · obtain ⟨x, hx, rfl⟩ := List.mem_map.mp hy
            have := word_len (hNlt x hx); omega
          refine cop_eq_strs ?_
          rw [beq_self_eq_true]
          exact h _ _ (s3.trans (hs4.trans (Sub.set hD5)))
end Mine
end
section
namespace Mine
theorem law_all {C : Cx} (W : WOk C) (AW : AccW C) (A2 : AccW2 C) (A3 : AccW3 C) (CH : CodeHd C.H₀ 194 192) (BI : BiOk2 C) (hstop : Glb C "StopIteration" (.type "StopIteration")) {A : Around} {g : Heap} {fr : Fm} {E : Value → Shared → Prop} {hp : HP} {Q : Flow → LOC → HP → Prop} {sa : Addr} {xs : List Int} (LA : LawAt A fr)
    {vs : Array Value} {n : Nat} (ha : g.get? sa = some { cls := .type "list", data := .seq vs n }) (hvs : vs.toList.map nm = xs.map iv) (hsz : xs.length ≤ 63) (h113 : hp 113 = some tabA) (h120 : hp 120 = some tabA) (L : LamTab hp 192 "law.<locals>.<lambda>")
    (h : ∀ loc' p', p' 113 = some tabA → p' 120 = some tabA → (∃ ps, p' 192 = some (.obj (tabObj ps))) → Q (.ret (.bool true)) loc' p') :
    awf C A g fr E (execs (dBody (topStmt 21)) fr.env) (bindLoc [("script", .ref sa)] fun _ => none) hp Q := by
  refine law_1 W LA ha hvs hsz fun loc1 p1 Dc Dn cells ns a1 a2 a3 a4 a5 a6 a7 s1 => ?_
  refine law_2 W hstop LA a1 a3 a2 a4 a5 a6 a7 fun loc2 p2 S₁ sts ps full base head Dw Dm b1 b2 b3 b4 b5 b6 hP hpl hpo hfx hfm hb hh3 hDw hDm s2 => ?_
  have s12 := s1.trans s2
  obtain ⟨tab, ht, _⟩ := L.is
  have hf : 1 ≤ full ∧ full ≤ 10 := by
    obtain ⟨v, hv, e⟩ := hfx
    rw [← e]
    refine ⟨List.countP_pos_iff.mpr ⟨v, hv, ?_⟩, by rw [← hpl]; exact List.countP_le_length⟩
    have := hpo v hv
    simp; omega
  refine law_3 W A3 LA b2 b4 hf (s12 _ _ ht) fun loc3 p3 role Fix bg en pl st th lv ln fi la bts ets xts rts tts LY sF kF k192 FX r1 r2 r3 r4 r5 e1 e2 e3 e4 nm c1 c2 c3 c4 c5 c6 c7 c8 c9 => ?_
  have n192 : ∀ {b : Addr} {o : AO}, p2 b = some o → (∀ x, o ≠ .obj x) → b ≠ 192 := fun {b o} e ho => by
    rintro rfl
    rw [s12 _ _ ht] at e; injection e with e; exact ho _ e.symm
  have kf : ∀ {b : Addr} {o : AO}, p2 b = some o → (∀ x, o ≠ .obj x) → Fix b = some o := fun {b o} e ho => kF b o (n192 e ho) e
  have hPF : Pairs Fix S₁ sts ps := ⟨kf hP.1 (fun _ => by simp), hP.2.1, fun k T v x y => kf (hP.2.2 k T v x y) (fun _ => by simp)⟩
  have hDmF := kf hDm (fun _ => by simp)
  have hDwF := kf hDw (fun _ => by simp)
  have f113 : Fix 113 = some tabA := kf (s12 _ _ h113) (fun _ => by unfold tabA; simp)
  have f120 : Fix 120 = some tabA := kf (s12 _ _ h120) (fun _ => by unfold tabA; simp)
  have L3 : LamTab p3 192 "law.<locals>.<lambda>" := by
    obtain ⟨t2, x1, x2, x3⟩ := L.is
    have : tab = t2 := by
      rw [ht] at x1; injection x1 with x1; injection x1 with x1
      unfold tabObj at x1
      injection x1 with _ _ x1 _
      injection x1
    subst this
    exact ⟨tab, k192, x2, fun pos => (x3 pos).imp id fun ⟨c, y1, y2⟩ => ⟨c, y1, sF _ _ (kf (s12 _ _ y2) (fun _ => by unfold codeA; simp))⟩⟩
  have m1 := nm _ _ b1 (by decide)
  have m2 := nm _ _ b2 (by decide)
  have m3 := nm _ _ b3 (by decide)
  have m4 := nm _ _ b4 (by decide)
  have m5 := nm _ _ b5 (by decide)
  have m6 := nm _ _ b6 (by decide)
  refine law_loop W AW A2 A3 CH BI LA LY sF FX hPF hDmF f113 f120 r1 r2 r3 r4 r5 e1 e2 e3 e4 L3 m1 c1 c2 c5 c6 c7 c3 c4 c8 c9 m3 m6 m4 hpl hpo hfm hf hb hh3 fun l p Ls fs bss ess rows stss tt mss zf zl I => ?_
  have hlo : ∀ j, loN ps j ≤ 15 := fun j => by
    unfold loN
    rw [List.getD_eq_getElem?_getD]
    cases q : ps[j]? with
    | none => decide
    | some v => exact (hpo v (List.mem_of_getElem? q)).2.1
  have hle : ∀ j, loN ps j ≤ hiN ps j := fun j => by
    unfold loN hiN
    rw [List.getD_eq_getElem?_getD]
    cases q : ps[j]? with
    | none => decide
    | some v => exact Nat.le_of_lt (hpo v (List.mem_of_getElem? q)).1
  have hlt : ∀ j, j < 10 → loN ps j < hiN ps j := fun j hj => by
    unfold loN hiN
    rw [List.getD_eq_getElem?_getD, List.getElem?_eq_getElem (by omega)]
    exact (hpo _ (List.getElem_mem _)).1
  have n : ∀ (y : Str) v, loc3 y = some v → y ∉ (["i", "span", "taken", "words", "free", "pile"] : List Str) → l y = some v := I.nam
  have hL := I.len
  have RO := I.ro
  rw [hL] at RO
  have hPp := hPF.mono I.fix
  refine law_end_1 W CH BI LA (n _ _ m1 (by decide)) (n _ _ c8 (by decide)) hPp RO.f RO.fp RO.fs I.lam hpl fun p4 k4 L4 => ?_
  have q192 : ∀ {b : Addr} {o : AO}, p b = some o → (∀ x, o ≠ .obj x) → p4 b = some o := fun {b o} e ho => k4 b o (by
    rintro rfl
    obtain ⟨t2, x1, _⟩ := I.lam.is
    rw [x1] at e; injection e with e; exact ho _ e.symm) e
  have tup4 : ∀ b xs, p b = some (.tuple xs) → p4 b = some (.tuple xs) := fun b xs e => q192 e (fun _ => by simp)
  have KF4 := RO.f.frame ((q192 RO.f.1 (fun _ => by simp)).trans RO.f.1.symm) tup4
  have KL4 := RO.l.frame ((q192 RO.l.1 (fun _ => by simp)).trans RO.l.1.symm) tup4
  refine law_end_2 W LA (n _ _ c8 (by decide)) (n _ _ c9 (by decide)) KF4 KL4 RO.fp RO.lp RO.fs RO.ls hle fun l5 p5 Dk s5 hDk o1 o2 => ?_
  have n5 : ∀ (y : Str) v, loc3 y = some v → y ∉ (["i", "span", "taken", "words", "free", "pile"] : List Str) → y ∉ (["first", "last", "counts"] : List Str) → l5 y = some v := fun y v e h1 h2 => o2 y v h2 (n y v e h1)
  have fix5 : ∀ {b : Addr} {o : AO}, Fix b = some o → (∀ x, o ≠ .obj x) → p5 b = some o := fun {b o} e ho => s5 _ _ (q192 (I.fix _ _ e) ho)
  have hP5 : Pairs p5 S₁ sts ps := ⟨fix5 hPF.1 (fun _ => by simp), hPF.2.1, fun k T v x y => fix5 (hPF.2.2 k T v x y) (fun _ => by simp)⟩
  have KL5 := KL4.frame ((s5 _ _ KL4.1).trans KL4.1.symm) fun b xs e => s5 _ _ e
  have rt5 : Rows p5 th tts rows := ⟨s5 _ _ (q192 I.rt.1 (fun _ => by simp)), I.rt.2.1, I.rt.2.2.1, fun k T r x y => s5 _ _ (q192 (I.rt.2.2.2 k T r x y) (fun _ => by simp))⟩
  refine law_end_3 W LA (n5 _ _ c9 (by decide) (by decide)) (n5 _ _ m1 (by decide) (by decide)) o1 (n5 _ _ c5 (by decide) (by decide)) hP5 KL5 RO.lp RO.ls hpl hDk rt5 I.the hL fun p6 s6 => ?_
  refine law_end_4 W LA (Ls := Ls) (fs := fs) (n5 _ _ c7 (by decide) (by decide)) (n5 _ _ m1 (by decide) (by decide)) o1 (n5 _ _ m2 (by decide) (by decide)) (n5 _ _ m5 (by decide) (by decide)) (hP5.mono s6) hpl hL (s6 _ _ (s5 _ _ (q192 I.ln (fun _ => by simp)))) (s6 _ _ hDk) (s6 _ _ (fix5 hDwF (fun _ => by simp))) I.good hlt hlo hf hfx fun loc' p' s7 => h loc' p' (s7 _ _ (s6 _ _ (fix5 f113 (fun _ => by unfold tabA; simp)))) (s7 _ _ (s6 _ _ (fix5 f120 (fun _ => by unfold tabA; simp)))) (by
    obtain ⟨tq, z, _⟩ := L4.is
    exact ⟨tq, s7 _ _ (s6 _ _ (s5 _ _ z))⟩)
end Mine
end
section
namespace Mine
/-! ### from what lies on the heap at entry to what the walk asks -/
def nsOf (K : Frag) (a : Addr) (x : Str) : Option Value := match K.lookup a with
  | some o => (match o.data with | .dict es _ => nsFind es x | _ => none)
  | none => none
def isNsK (K : Frag) (a : Addr) : Bool := match K.lookup a with
  | some o => (match o.data with | .dict es _ => es.toList.all (fun e => match e.key with | .str _ _ => true | _ => false) | _ => false)
  | none => false
theorem ns_of_K {K : Frag} {h : Heap} (X : K.In h) {a : Addr} (e : isNsK K a = true) : h.Ns a (nsOf K a) := by
  unfold isNsK at e
  cases q : K.lookup a with
  | none => rw [q] at e; cases e
  | some o =>
    rw [q] at e
    have ho := X a o q
    have i1 : h.isNs a = true := by
      unfold Heap.isNs; rw [ho]
      dsimp only at e ⊢
      cases hd : o.data with
      | dict es ep => rw [hd] at e; dsimp only at e ⊢; rw [← Array.all_toList]; exact e
      | _ => rw [hd] at e; cases e
    have i2 : h.nsMap a = nsOf K a := by
      funext x
      unfold Heap.nsMap nsOf
      rw [ho, q]; rfl
    rw [← i2]
    exact .of_isNs i1
def KFn (K : Frag) (f code : Addr) (st : Stmt) (name : Str) (dfl kw : Value) (clo : List (Str × Addr)) (ct : Value) : Prop :=
  ∃ o pm oc vs t, K.lookup f = some o ∧ o.data = .func (mkFd st name dfl kw (.ref code) pm clo ct) ∧ K.lookup code = some oc ∧ oc.data = .fields vs ∧ vs[1]? = some (.str name t)
theorem fn_of_K {C : Cx} {K : Frag} (X : K.In C.H₀) {f code : Addr} {st : Stmt} {name : Str} {dfl kw : Value} {clo : List (Str × Addr)} {ct : Value} (h : KFn K f code st name dfl kw clo ct) (h1 : (dScope st).isCoroutine = false) (h2 : (dScope st).isGenerator = false) (h3 : (dScope st).kind = .function) : ∃ pm, FnAt C f (mkFd st name dfl kw (.ref code) pm clo ct) := by
  obtain ⟨o, pm, oc, vs, t, e1, e2, e3, e4, e5⟩ := h
  exact ⟨pm, ⟨o, X _ _ e1, e2⟩, h1, h2, h3, code, oc, vs, t, rfl, X _ _ e3, e4, e5⟩
theorem glb_g {C : Cx} {K : Frag} (X : K.In C.H₀) (n3 : isNsK K 3 = true) {x : Str} {v : Value} (h : nsOf K 3 x = some v) : Glb C x v := ⟨.inl ⟨_, ns_of_K X n3, h⟩⟩
theorem glb_b {C : Cx} {K : Frag} (X : K.In C.H₀) (n3 : isNsK K 3 = true) (n0 : isNsK K 0 = true) {x : Str} {v : Value} (h : nsOf K 3 x = none) (h' : nsOf K 0 x = some v) : Glb C x v := ⟨.inr ⟨_, _, ns_of_K X n3, h, ns_of_K X n0, h'⟩⟩
def KDfl (K : Frag) (a b : Addr) : Prop := (∃ t n, K.lookup a = some ⟨.type "tuple", none, .seq #[.int 0 t, .none] n, #[]⟩) ∧ ∃ h t n, K.lookup b = some ⟨.type "dict", none, .dict #[⟨h, .str "key" t, .none⟩] n, #[]⟩
theorem dfl_of_K {C : Cx} {K : Frag} (X : K.In C.H₀) {a b : Addr} (h : KDfl K a b) : Dfl C a b := by
  obtain ⟨⟨t, n, e⟩, h, t', n', e'⟩ := h
  exact ⟨⟨t, n, X _ _ e⟩, ⟨h, t', n', X _ _ e'⟩⟩
def flagsOkB (es : Array DictEntry) : Bool :=
  es.toList.all (fun e => match e.key with | .int k _ => e.hash == hashInt k | _ => false) &&
  (List.range 32).all fun i => match (es.toList.find? fun e => Value.isInt (2 ^ i) e.key).map DictEntry.val with
    | some (Value.str s _) => decide (i < 10) && s == baseWords.getD i Str.empty
    | none => !decide (i < 10)
    | _ => false
def KFlags (K : Frag) : Prop := ∃ o es ep, K.lookup 58 = some o ∧ o.ExactDict ∧ o.data = .dict es ep ∧ flagsOkB es = true
structure KF (K : Frag) : Prop where
  fl : KFlags K
  n3 : isNsK K 3 = true
  n0 : isNsK K 0 = true
  nS : isNsK K cStatics = true
  lim : nsOf K cStatics "sys.recursionlimit" = none
  g1 : nsOf K 3 "bisect_right" = some (.ref 39)
  g2 : nsOf K 3 "bisect_left" = some (.ref 57)
  g3 : nsOf K 3 "insort_right" = some (.ref 30)
  g4 : nsOf K 3 "insort_left" = some (.ref 48)
  g5 : nsOf K 3 "_law_read" = some (.ref 160)
  g6 : nsOf K 3 "_law_names" = some (.ref 165)
  g7 : nsOf K 3 "_law_level" = some (.ref 170)
  g8 : nsOf K 3 "_law_place" = some (.ref 175)
  g9 : nsOf K 3 "_law_due" = some (.ref 180)
  g10 : nsOf K 3 "_law_met" = some (.ref 185)
  g11 : nsOf K 3 "_law_text" = some (.ref 190)
  g12 : nsOf K 3 "_parse_varint" = some (.ref 72)
  g13 : nsOf K 3 "pretty_flags" = some (.ref 65)
  g14 : nsOf K 3 "COMPILER_FLAG_NAMES" = some (.ref 58)
  g15 : nsOf K 3 "_Accumulator" = some (.ref 151)
  g16 : ∃ t, nsOf K 3 "EMPTYSTRING" = some (.str Str.empty t)
  g17 : nsOf K 3 "__builtins__" = some (.ref 4)
  b1 : nsOf K 3 "len" = none ∧ nsOf K 0 "len" = some (.builtin "len")
  b2 : nsOf K 3 "max" = none ∧ nsOf K 0 "max" = some (.builtin "max")
  b3 : nsOf K 3 "range" = none ∧ nsOf K 0 "range" = some (.type "range")
  b4 : nsOf K 3 "zip" = none ∧ nsOf K 0 "zip" = some (.type "zip")
  b5 : nsOf K 3 "chr" = none ∧ nsOf K 0 "chr" = some (.builtin "chr")
  b6 : nsOf K 3 "hex" = none ∧ nsOf K 0 "hex" = some (.builtin "hex")
  b7 : nsOf K 3 "sum" = none ∧ nsOf K 0 "sum" = some (.builtin "sum")
  b8 : nsOf K 3 "enumerate" = none ∧ nsOf K 0 "enumerate" = some (.type "enumerate")
  b9 : nsOf K 3 "iter" = none ∧ nsOf K 0 "iter" = some (.builtin "iter")
  b10 : nsOf K 3 "next" = none ∧ nsOf K 0 "next" = some (.builtin "next")
  b11 : nsOf K 3 "sorted" = none ∧ nsOf K 0 "sorted" = some (.builtin "sorted")
  b12 : nsOf K 3 "str" = none ∧ nsOf K 0 "str" = some (.type "str")
  b13 : nsOf K 3 "super" = none ∧ nsOf K 0 "super" = some (.type "super")
  b14 : nsOf K 3 "StopIteration" = none ∧ nsOf K 0 "StopIteration" = some (.type "StopIteration")
  o4 : ∃ o, K.lookup 4 = some o ∧ o.cls = .type "module" ∧ o.dict = some builtinsNs ∧ o.data = .plain
  f1 : KFn K 57 56 (topStmt 5) "bisect_left" (.ref 49) (.ref 50) [] .none
  f2 : KFn K 39 38 (topStmt 3) "bisect_right" (.ref 31) (.ref 32) [] .none
  f3 : KFn K 30 29 (topStmt 2) "insort_right" (.ref 22) (.ref 23) [] .none
  f4 : KFn K 48 47 (topStmt 4) "insort_left" (.ref 40) (.ref 41) [] .none
  f5 : KFn K 160 159 (topStmt 14) "_law_read" .none .none [] .none
  f6 : KFn K 165 164 (topStmt 15) "_law_names" .none .none [] .none
  f7 : KFn K 170 169 (topStmt 16) "_law_level" .none .none [] .none
  f8 : KFn K 175 174 (topStmt 17) "_law_place" .none .none [] .none
  f9 : KFn K 180 179 (topStmt 18) "_law_due" .none .none [] .none
  f10 : KFn K 185 184 (topStmt 19) "_law_met" .none .none [] .none
  f11 : KFn K 190 189 (topStmt 20) "_law_text" .none .none [] .none
  f12 : KFn K 72 71 (topStmt 9) "_parse_varint" .none .none [] .none
  f13 : KFn K 65 64 (topStmt 8) "pretty_flags" .none .none [] .none
  f14 : KFn K 195 194 (topStmt 21) "law" .none .none [] .none
  a1 : KFn K 96 95 (accStmt 1) "_Accumulator.push" .none .none [] .none
  a2 : KFn K 104 103 (accStmt 2) "_Accumulator.pop_from" (.ref 97) .none [] .none
  a3 : KFn K 118 117 (accStmt 4) "_Accumulator.__len__" .none .none [] .none
  a4 : KFn K 125 124 (accStmt 5) "_Accumulator.__str__" .none .none [] .none
  a5 : KFn K 148 147 (accStmt 8) "_Accumulator.part_count" .none .none [("__class__", 76)] (.ref 141)
  a6 : KFn K 89 88 (accStmt 0) "_Accumulator.__init__" (.ref 81) .none [("__class__", 76)] (.ref 82)
  d1 : KDfl K 49 50
  d2 : KDfl K 31 32
  d3 : KDfl K 22 23
  d4 : KDfl K 40 41
  t1 : ∃ t n, K.lookup 97 = some ⟨.type "tuple", none, .seq #[.int 0 t] n, #[]⟩
  t2 : ∃ t n, K.lookup 81 = some ⟨.type "tuple", none, .seq #[.int 0 t] n, #[]⟩
  cell : ∃ o, K.lookup 76 = some o ∧ o.data = .cell (some (.ref 151))
  c1 : codeHdIn K 117 113 = true
  c2 : codeHdIn K 124 120 = true
  c3 : codeHdIn K 194 192 = true
  k1 : ∃ o vs tf, K.lookup 147 = some o ∧ o.data = .fields vs ∧ vs[2]? = some (.str "/claim/cut.py" tf)
  k2 : ∃ o vs tf, K.lookup 88 = some o ∧ o.data = .fields vs ∧ vs[2]? = some (.str "/claim/cut.py" tf)
  acc : AccK K
  acc2 : AccK2 K
/-! ### the heap at entry, its three tables left out -/
def noTab (K : Frag) : Frag := K.filter fun p => !(p.1 == 113 || p.1 == 120 || p.1 == 192)
def hp0 : HP := fun b => if b = 113 then some tabA else if b = 120 then some tabA else if b = 192 then some (.obj (tabObj #[])) else none
theorem noTab_lookup : ∀ {K : Frag} {a : Addr} {o : Obj}, (noTab K).lookup a = some o → K.lookup a = some o ∧ hp0 a = none
  | [], a, o, e => by cases e
  | (b, ob) :: K, a, o, e => by
    unfold noTab at e
    rw [List.filter_cons] at e
    split at e
    · rename_i hb
      rw [List.lookup_cons] at e ⊢
      split at e
      · rename_i hab
        have hab' : a = b := by simpa using hab
        subst hab'
        refine ⟨e, ?_⟩
        unfold hp0
        simp only [Bool.not_eq_true', Bool.or_eq_false_iff, beq_eq_false_iff_ne, ne_eq] at hb
        rw [if_neg hb.1.1, if_neg hb.1.2, if_neg hb.2]
      · exact noTab_lookup e
    · rename_i hb
      obtain ⟨x, y⟩ := noTab_lookup e
      refine ⟨?_, y⟩
      rw [List.lookup_cons]
      split
      · rename_i hab
        have hab' : a = b := by simpa using hab
        subst hab'
        exfalso
        apply hb
        unfold hp0 at y
        simp only [Bool.not_eq_true', Bool.or_eq_false_iff, beq_eq_false_iff_ne, ne_eq]
        refine ⟨⟨fun h => ?_, fun h => ?_⟩, fun h => ?_⟩ <;> · subst h; simp at y
      · exact x
theorem noTab_in {K : Frag} {h : Heap} (X : K.In h) : (noTab K).In (veil h hp0) := fun a o e => by
  obtain ⟨x, y⟩ := noTab_lookup e
  rw [veil_get y]
  exact X a o x
theorem codeH_of_K {C : Cx} {K : Frag} (X : K.In C.H₀) {c P : Addr} (e : codeHdIn K c P = true) : CodeH C c P := by
  obtain ⟨o, vs, file, tf, flags, tg, inF, text, tt, h0, h1, h2, h3, h4, h5, h6, h7, h8, h9⟩ := codeHd_of_K X e
  exact ⟨⟨o, vs, file, tf, flags, tg, inF, text, tt, h0, h1, h2, h4, h5, h6, h7, h8, h9⟩⟩
theorem flags_of_K {C : Cx} {K : Frag} (X : K.In C.H₀) (h : KFlags K) : ∃ f : Int → Option Value, C.H₀.MapOf (intKind C.prog C.w) 58 f ∧ ∀ i : Nat, i < 32 → (f (2 ^ i)).map nm = if i < 10 then some (.str (baseWords.getD i Str.empty) 0) else none := by
  obtain ⟨o, es, ep, e1, e2, e3, e4⟩ := h
  unfold flagsOkB at e4
  rw [Bool.and_eq_true, List.all_eq_true, List.all_eq_true] at e4
  obtain ⟨e4, e5⟩ := e4
  refine ⟨fun k => findBy (intKind C.prog C.w).is es k, ⟨o, es, ep, X _ _ e1, e2, e3, fun e he => ?_, fun k => rfl⟩, fun i hi => ?_⟩
  · have q := e4 e (Array.mem_toList_iff.mpr he)
    cases hk : e.key with
    | int k t =>
      rw [hk] at q
      exact ⟨k, by show Value.isInt k (.int k t) = true; simp [Value.isInt], (beq_iff_eq.mp q : e.hash = hashInt k)⟩
    | _ => rw [hk] at q; cases q
  · have q := e5 i (List.mem_range.mpr hi)
    show ((es.find? fun e => Value.isInt (2 ^ i) e.key).map DictEntry.val).map nm = _
    rw [← Array.find?_toList]
    generalize (es.toList.find? fun e => Value.isInt (2 ^ i) e.key).map DictEntry.val = r at q ⊢
    cases r with
    | none => simp only [Bool.not_eq_true', decide_eq_false_iff_not] at q; rw [if_neg q]; rfl
    | some v =>
      cases v with
      | str s t =>
        simp only [Bool.and_eq_true, decide_eq_true_eq, beq_iff_eq] at q
        rw [if_pos q.1, ← q.2]; rfl
      | _ => cases q
theorem wok_of_K {C : Cx} {K : Frag} (X : K.In C.H₀) (F : KF K) : WOk C where
  lim := ⟨_, ns_of_K X F.nS, F.lim⟩
  len := glb_b X F.n3 F.n0 F.b1.1 F.b1.2
  max := glb_b X F.n3 F.n0 F.b2.1 F.b2.2
  range := glb_b X F.n3 F.n0 F.b3.1 F.b3.2
  fL := fn_of_K X F.f1 rfl rfl rfl
  dL := dfl_of_K X F.d1
  fIR := fn_of_K X F.f3 rfl rfl rfl
  dIR := dfl_of_K X F.d3
  fIL := fn_of_K X F.f4 rfl rfl rfl
  dIL := dfl_of_K X F.d4
  gR := glb_g X F.n3 F.g1
  gL := glb_g X F.n3 F.g2
  zip := glb_b X F.n3 F.n0 F.b4.1 F.b4.2
  gIR := glb_g X F.n3 F.g3
  gIL := glb_g X F.n3 F.g4
  fLevel := fn_of_K X F.f7 rfl rfl rfl
  chr := glb_b X F.n3 F.n0 F.b5.1 F.b5.2
  hex := glb_b X F.n3 F.n0 F.b6.1 F.b6.2
  sum := glb_b X F.n3 F.n0 F.b7.1 F.b7.2
  enumerate := glb_b X F.n3 F.n0 F.b8.1 F.b8.2
  iter := glb_b X F.n3 F.n0 F.b9.1 F.b9.2
  next := glb_b X F.n3 F.n0 F.b10.1 F.b10.2
  sorted := glb_b X F.n3 F.n0 F.b11.1 F.b11.2
  strT := glb_b X F.n3 F.n0 F.b12.1 F.b12.2
  fMet := fn_of_K X F.f10 rfl rfl rfl
  fText := fn_of_K X F.f11 rfl rfl rfl
  fNames := fn_of_K X F.f6 rfl rfl rfl
  fPlace := fn_of_K X F.f8 rfl rfl rfl
  fRead := fn_of_K X F.f5 rfl rfl rfl
  fVarint := fn_of_K X F.f12 rfl rfl rfl
  fPretty := fn_of_K X F.f13 rfl rfl rfl
  gRead := glb_g X F.n3 F.g5
  gNames := glb_g X F.n3 F.g6
  gLevel := glb_g X F.n3 F.g7
  gPlace := glb_g X F.n3 F.g8
  gDue := glb_g X F.n3 F.g9
  gMet := glb_g X F.n3 F.g10
  gText := glb_g X F.n3 F.g11
  gVarint := glb_g X F.n3 F.g12
  gPretty := glb_g X F.n3 F.g13
  gFlags := glb_g X F.n3 F.g14
  gAcc := glb_g X F.n3 F.g15
  flagsM := flags_of_K X F.fl
  fDue := fn_of_K X F.f9 rfl rfl rfl
  fR := fn_of_K X F.f2 rfl rfl rfl
  dR := dfl_of_K X F.d2
theorem acc_of_K {C : Cx} {K : Frag} (X : K.In C.H₀) (F : KF K) : AccW C where
  K := ⟨K, X, F.acc⟩
  fPush := fn_of_K X F.a1 rfl rfl rfl
  fPop := fn_of_K X F.a2 rfl rfl rfl
  dPop := let ⟨t, n, e⟩ := F.t1; ⟨t, n, X _ _ e⟩
  fLen := fn_of_K X F.a3 rfl rfl rfl
  fStr := fn_of_K X F.a4 rfl rfl rfl
theorem acc2_of_K {C : Cx} {K : Frag} (X : K.In C.H₀) (F : KF K) : AccW2 C where
  bi := let ⟨o, e, a, b, c⟩ := F.o4; ⟨⟨_, o, ns_of_K X F.n3, F.g17, X _ _ e, a, b, c⟩⟩
  cLen := codeH_of_K X F.c1
  cStr := codeH_of_K X F.c2
  gEmpty := let ⟨t, e⟩ := F.g16; ⟨t, glb_g X F.n3 e⟩
theorem codeOf_K {C : Cx} {K : Frag} (X : K.In C.H₀) {c : Addr} (hfile : ((C.prog.main.file : Str) == "/claim/cut.py") = true) (h : ∃ o vs tf, K.lookup c = some o ∧ o.data = .fields vs ∧ vs[2]? = some (.str "/claim/cut.py" tf)) : CodeOf C c :=
  let ⟨o, vs, tf, e, a, b⟩ := h; ⟨o, vs, _, tf, X _ _ e, a, b, hfile⟩
theorem acc3_of_K {C : Cx} {K : Frag} (X : K.In C.H₀) (F : KF K) (hfile : ((C.prog.main.file : Str) == "/claim/cut.py") = true) (htop : (C.prog.main.scope.names.lookup ("super" : Str)).isSome = false) : AccW3 C where
  K := ⟨K, X, F.acc, F.acc2⟩
  fCount := fn_of_K X F.a5 rfl rfl rfl
  fInit := fn_of_K X F.a6 rfl rfl rfl
  dInit := let ⟨t, n, e⟩ := F.t2; ⟨t, n, X _ _ e⟩
  cell := let ⟨o, e, a⟩ := F.cell; ⟨o, X _ _ e, a⟩
  gSuper := glb_b X F.n3 F.n0 F.b13.1 F.b13.2
  gAcc := glb_g X F.n3 F.g15
  cCount := codeOf_K X hfile F.k1
  cInit := codeOf_K X hfile F.k2
  top := htop
theorem bi2_of_K {C : Cx} {K : Frag} (X : K.In C.H₀) (F : KF K) : BiOk2 C :=
  let ⟨o, e, a, b, c⟩ := F.o4; ⟨⟨_, ns_of_K X F.n3, ⟨4, o, F.g17, by decide, by decide, by decide, X _ _ e, a, b, c⟩⟩⟩
theorem rep_start {C : Cx} {hp : HP} {s s' : Shared} {fd : FuncData} {f : Addr} {binds : List (Str × Value)} (hb : C.H₀ = veil s.heap hp) (hat : ∀ b ao, hp b = some ao → ∃ o, s.heap.get? b = some o ∧ ao.is o)
    (hkind : ∀ x ∈ binds, fd.scope.names.lookup x.1 = some .local ∨ fd.scope.names.lookup x.1 = some .cell)
    (x : InCallC s (callEnvC fd s.heap.objs.size f).locals (bindL (callEnvC fd s.heap.objs.size f).kindOf binds fun _ => none) (callEnvC fd s.heap.objs.size f).cells
      (bindC (callEnvC fd s.heap.objs.size f).kindOf binds fun _ => none) s') :
    Rep C.H₀ (veil s.heap hp) (fnFm fd s.heap.objs.size f) (bindLoc binds fun _ => none) hp s'.heap := by
  have fresh : ∀ b, s.heap.objs.size ≤ b → (veil s.heap hp).get? b = none := fun b hb => by
    cases q : (veil s.heap hp).get? b with
    | none => rfl
    | some o => exact absurd (Heap.lt_size (of_veil q).1) (Nat.not_lt.mpr hb)
  have habove : ∀ y c, (callEnvC fd s.heap.objs.size f).cells.lookup y = some c → s.heap.objs.size < c := fun y c l => x.above y c (mem_of_lookup l)
  refine ⟨fun b o e => x.toInCall.keep b o (of_veil e).1, fun b o e => hb ▸ e, fun y v e => ?_, ⟨_, x.toInCall.ns⟩, fresh _ (Nat.le_refl _), fun y c _ l => fresh _ (Nat.le_of_lt (habove y c l)), fun y c l => ?_, fun y z c l l' => ?_, fun b ao e => ?_⟩
  · have := bindLoc_ok (kindOf := (callEnvC fd s.heap.objs.size f).kindOf) binds (fun _ => none) (fun _ => none) (fun _ => none) hkind (fun _ _ e => by cases e) y v e
    rcases this with ⟨a, v', b, c⟩ | ⟨a, v', b, c⟩
    · exact .inl ⟨a, _, v', x.toInCall.ns, b, c⟩
    · have hs := cellsFrom_some (x := y) fd.scope.names (s.heap.objs.size + 1) [] (.inl a)
      obtain ⟨cc, hc⟩ := Option.isSome_iff_exists.mp hs
      have hc' : (callEnvC fd s.heap.objs.size f).cells.lookup y = some cc := hc
      have z := x.cell y cc hc'
      rw [b] at z
      exact .inr ⟨.inl a, cc, v', hc', z, c⟩
  · exact ⟨Nat.ne_of_gt (habove y c l), _, x.cell y c l⟩
  · exact name_of_addr x.apart (mem_of_lookup l) (mem_of_lookup l')
  · obtain ⟨o, ho, hi⟩ := hat b ao e
    have hb := Heap.lt_size ho
    exact ⟨veil_none e, Nat.ne_of_lt hb, fun y c l => Nat.ne_of_lt (Nat.lt_trans hb (habove y c l)), o, x.toInCall.keep b o ho, hi⟩
theorem law_head {prog : Program} {w : World} {K : Frag} {s : Shared} {a : Addr} {xs : List Int} {vs : Array Value} {n : Nat} {E : Value → Shared → Prop} (X : K.In s.heap) (F : KF (noTab K)) (hfile : ((prog.main.file : Str) == "/claim/cut.py") = true)
    (htop : (prog.main.scope.names.lookup ("super" : Str)).isSome = false) (t1 : s.heap.get? 113 = some (tabObj #[])) (t2 : s.heap.get? 120 = some (tabObj #[])) (t3 : s.heap.get? 192 = some (tabObj #[])) (hg : AllBare s.gens)
    (ha : s.heap.get? a = some { cls := .type "list", data := .seq vs n }) (hvs : vs.toList.map nm = xs.map iv) (hsz : xs.length ≤ 63) :
    wpAny (model prog w) callerA (call (.ref 195) [.ref a]) (fun v s' => v = .bool true ∧ OldK s.heap s'.heap ∧ s'.os = s.os ∧ AllBare s'.gens) E s := by
  let C : Cx := ⟨prog, w, veil s.heap hp0, s.os⟩
  have X' : (noTab K).In C.H₀ := noTab_in X
  have hk : ∀ b o, C.H₀.get? b = some o → s.heap.get? b = some o := fun b o e => (of_veil e).1
  have n0 : ∀ b ao, hp0 b = some ao → ∃ o, s.heap.get? b = some o ∧ o = tabObj #[] ∧ ao.is o := fun b ao e => by
    unfold hp0 at e
    have tA : tabA.is (tabObj #[]) := ⟨#[], rfl, trivial⟩
    split at e
    · rename_i hb; cases e; exact ⟨_, hb ▸ t1, rfl, tA⟩
    · split at e
      · rename_i hb; cases e; exact ⟨_, hb ▸ t2, rfl, tA⟩
      · split at e
        · rename_i hb; cases e; exact ⟨_, hb ▸ t3, rfl, rfl⟩
        · cases e
  have hna : hp0 a = none := by
    cases q : hp0 a with
    | none => rfl
    | some ao =>
      obtain ⟨o, e, r, _⟩ := n0 a ao q
      rw [ha] at e; cases e; cases r
  obtain ⟨pm, FA⟩ := fn_of_K (C := C) X' F.f14 rfl rfl rfl
  obtain ⟨o, ho, hd⟩ := FA.at_
  have W := wok_of_K (C := C) X' F
  have hkind : ∀ x ∈ [(("script" : Str), Value.ref a)], (dScope (topStmt 21)).names.lookup x.1 = some .local ∨ (dScope (topStmt 21)).names.lookup x.1 = some .cell := fun x hx => by
    cases hx with
    | head => first | exact .inl rfl | exact .inr rfl
    | tail _ h => cases h
  refine wpAny_call (codeAny_call_function (by decide) (hk _ _ ho) hd FA.co FA.gen rfl (FA.code.keeps hk) ((kp_binds frag0 fun S => by rfl : BindsTo s _ ⟨[.ref a], []⟩ [("script", .ref a)]) _ _ _ _ ?_))
  refine wpAny_newFunctionEnv_cells FA.kind (fun x hx => (hkind x hx).imp id fun e => ⟨e, cellsFrom_some _ _ _ (.inl e)⟩) fun env he s' x => ?_
  subst he
  refine ⟨(W.lim.keeps hk).keeps x.toInCall.keep, codeAny_func ?_⟩
  have R' := rep_start (C := C) (fd := mkFd (topStmt 21) "law" .none .none (.ref 194) pm [] .none) rfl (fun b ao e => let ⟨o, e1, _, e3⟩ := n0 b ao e; ⟨o, e1, e3⟩) hkind x
  have LA : LawAt (callerA.deeper (callEnvC (mkFd (topStmt 21) "law" .none .none (.ref 194) pm [] .none) s.heap.objs.size 195)) (fnFm (mkFd (topStmt 21) "law" .none .none (.ref 194) pm [] .none) s.heap.objs.size 195) := by
    refine ⟨frOf_fn (mkFd (topStmt 21) "law" .none .none (.ref 194) pm [] .none) _ _ rfl rfl rfl ?_, (by decide : 1 + claimMargin + 1 + 20 < recursionLimit), rfl, rfl, rfl, (by decide : 4 + 3 + 100 < cLine), rfl, ?_⟩
    · show (dScope (topStmt 21)).names.all (fun x => x.2 != .free) = true
      decide +kernel
    · show (("law" : Str) ++ (".<locals>." : Str)) ++ ("<lambda>" : Str) = ("law.<locals>.<lambda>" : Str)
      decide +kernel
  refine wpAny_mono (law_all (C := C) W (acc_of_K X' F) (acc2_of_K X' F) (acc3_of_K X' F hfile htop) (codeHd_of_K X' F.c3) (bi2_of_K X' F) (glb_b X' F.n3 F.n0 F.b14.1 F.b14.2) LA (g := veil s.heap hp0) (sa := a) (vs := vs) (n := n) (xs := xs) ((veil_get hna).trans ha) hvs hsz rfl rfl
    ⟨#[], rfl, trivial, fun pos => .inl rfl⟩ (Q := fun fl _ p => fl = .ret (.bool true) ∧ p 113 = some tabA ∧ p 120 = some tabA ∧ ∃ ps, p 192 = some (.obj (tabObj ps))) (fun _ _ u1 u2 u3 => ⟨rfl, u1, u2, u3⟩) s' R' (sok_called (C := C) ⟨rfl, hg⟩ x)) (fun fl s'' hq => ?_) fun _ _ e => e
  obtain ⟨⟨S1, S2⟩, l', p', R'', hfl, u1, u2, ps3, u3⟩ := hq
  have hfl : fl = .ret (.bool true) := by
    cases fl with
    | ret v => injection hfl with e; rw [nm_bool e]
    | _ => cases hfl
  subst hfl
  refine ⟨rfl, ?_, S1, S2⟩
  have at1 : ∃ ps, s''.heap.get? 113 = some (tabObj ps) := by obtain ⟨_, _, _, o, e, ps, rfl, _⟩ := R''.at_ _ _ u1; exact ⟨ps, e⟩
  have at2 : ∃ ps, s''.heap.get? 120 = some (tabObj ps) := by obtain ⟨_, _, _, o, e, ps, rfl, _⟩ := R''.at_ _ _ u2; exact ⟨ps, e⟩
  have at3 : ∃ ps, s''.heap.get? 192 = some (tabObj ps) := by obtain ⟨_, _, _, o, e, rfl⟩ := R''.at_ _ _ u3; exact ⟨ps3, e⟩
  have tabs : ∀ b ao, hp0 b = some ao → ∃ ps, s''.heap.get? b = some (tabObj ps) := fun b ao e => by
    unfold hp0 at e
    split at e
    · rename_i hb; exact hb ▸ at1
    · split at e
      · rename_i hb; exact hb ▸ at2
      · split at e
        · rename_i hb; exact hb ▸ at3
        · cases e
  have isT : ∀ b ao, hp0 b = some ao → isCodeTable s.heap b := fun b ao e => by
    have tt : ∀ {c P : Addr}, codeHdIn (noTab K) c P = true → isCodeTable s.heap P := fun {c P} e => by
      obtain ⟨o, vs, _, _, _, _, _, _, _, h0, h1, h2, h3, _⟩ := codeHd_of_K X' e
      exact ⟨c, o, vs, hk _ _ h0, h1, h2, h3⟩
    unfold hp0 at e
    split at e
    · rename_i hb; exact hb ▸ tt F.c1
    · split at e
      · rename_i hb; exact hb ▸ tt F.c2
      · split at e
        · rename_i hb; exact hb ▸ tt F.c3
        · cases e
  refine ⟨fun b o e => ?_, fun b o e => ?_⟩
  · cases q : hp0 b with
    | none => exact .inl (R''.keep b o ((veil_get q).trans e))
    | some ao =>
      obtain ⟨o', e1, e2, _⟩ := n0 b ao q
      rw [e] at e1; injection e1 with e1; subst e1; subst e2
      obtain ⟨ps, e3⟩ := tabs b ao q
      exact .inr (.inl ⟨isT b ao q, rfl, #[], ps, rfl, by rw [e3]; simp [tabObj]⟩)
  · cases q : hp0 b with
    | none => exact ⟨o, R''.keep b o ((veil_get q).trans e)⟩
    | some ao => obtain ⟨ps, e3⟩ := tabs b ao q; exact ⟨_, e3⟩
theorem law_good {c : ClaimW} {cl : Str → Option Addr} {mean : ExcName → Option Value} {args : List WData} {s₁ s' : Shared} {v : Value} (h : v = .bool true ∧ OldK s₁.heap s'.heap ∧ s'.os = s₁.os ∧ AllBare s'.gens) (hr : ∀ cls, c.raises args cls = false)
    (hp : c.post args (.bool true) args = true) : GoodWG c cl mean args s₁ (.ok (.ret v)) s' := by
  obtain ⟨rfl, O, e, b⟩ := h
  exact ⟨.inl ⟨_, _, [], rfl, hr, ReadsW.bool true, hp, fun _ => ⟨List.nodup_nil, fun _ hm => (nomatch hm)⟩⟩, O, e, b⟩
theorem ints_nm : ∀ {vs : List Value} {ns : List Int}, IntsAre vs ns → vs.toArray.toList.map nm = ns.map iv
  | _, _, .nil => rfl
  | _, _, .cons n t h => by
    have ih := ints_nm h
    simp only [List.map_cons] at ih ⊢
    rw [ih]
    rfl
theorem law_row {K : Params → Frag} {prog : Program} {w : World} {s : Shared} {a : Addr} {xs : List Int} {vs : List Value} {c : ClaimW} {cl : Str → Option Addr} {mean : ExcName → Option Value} {args : List WData} {E : Value → Shared → Prop} (X : (K w.params).In s.heap) (F : ∀ P, KF (noTab (K P)))
    (hT : ∀ P, (K P).lookup 113 = some (tabObj #[]) ∧ (K P).lookup 120 = some (tabObj #[]) ∧ (K P).lookup 192 = some (tabObj #[])) (hfile : ((prog.main.file : Str) == "/claim/cut.py") = true) (htop : (prog.main.scope.names.lookup ("super" : Str)).isSome = false)
    (hg : s.gens = #[]) (ha : s.heap.get? a = some { cls := .type "list", data := .seq vs.toArray }) (hvs : IntsAre vs xs) (hsz : ¬ (63 : Int) < xs.length) (hr : ∀ cls, c.raises args cls = false) (hp : c.post args (.bool true) args = true) :
    wpAny (model prog w) callerA (call (.ref 195) [.ref a]) (fun v s' => GoodWG c cl mean args s (.ok (.ret v)) s') E s :=
  wpAny_mono (law_head X (F _) hfile htop (X _ _ (hT _).1) (X _ _ (hT _).2.1) (X _ _ (hT _).2.2) (by rw [hg]; exact AllBare.empty) ha (ints_nm hvs) (by omega)) (fun _ _ h => law_good h hr hp) fun _ _ e => e
end Mine
end
end
end
open PySem PySem.W PyProof.Rows PySem.W.X
set_option maxRecDepth 100000 in
set_option maxHeartbeats 8000000 in
theorem PySem.Challenge.cw_kl0459_01_holds : PySem.Challenge.rw_kl0459_01.Holds := by
  w_on; o_law; z_head; (case hw => w_witness2)
  k_fill
  intro w s₀ s₁ mg mb G y fa o pm cd doc dV kV ho hd hcd hD hmg hg args vals as L hpre hlay hrd hwl hlo
  z_open y L KX ZH ZN ZT
  refine Ground.open G ?_
  intro T B D TE TW
  wrow_args hpre hlay hrd hwl hlo
  x_fa T KX hmg
  rename IntsAre _ _ => hI
  rename Heap.IsList _ _ _ => hL
  have ha := script_obj L hL
  refine Mine.law_row KX ?F ?T ?file ?top hg ha hI (by assumption) (fun _ => rfl) ?post
  case T => exact fun _ => ⟨rfl, rfl, rfl⟩
  case file => rfl
  case top => rfl
  case post => wrow_post
  case F =>
  intro P
  exact
    { fl := ⟨_, _, _, rfl, ⟨rfl, rfl, rfl⟩, rfl, by kernel_rfl⟩
      n3 := by kernel_rfl
      n0 := by kernel_rfl
      nS := by kernel_rfl
      lim := by kernel_rfl
      g1 := by kernel_rfl
      g2 := by kernel_rfl
      g3 := by kernel_rfl
      g4 := by kernel_rfl
      g5 := by kernel_rfl
      g6 := by kernel_rfl
      g7 := by kernel_rfl
      g8 := by kernel_rfl
      g9 := by kernel_rfl
      g10 := by kernel_rfl
      g11 := by kernel_rfl
      g12 := by kernel_rfl
      g13 := by kernel_rfl
      g14 := by kernel_rfl
      g15 := by kernel_rfl
      g16 := ⟨_, rfl⟩
      g17 := by kernel_rfl
      b1 := ⟨by kernel_rfl, by kernel_rfl⟩
      b2 := ⟨by kernel_rfl, by kernel_rfl⟩
      b3 := ⟨by kernel_rfl, by kernel_rfl⟩
      b4 := ⟨by kernel_rfl, by kernel_rfl⟩
      b5 := ⟨by kernel_rfl, by kernel_rfl⟩
      b6 := ⟨by kernel_rfl, by kernel_rfl⟩
      b7 := ⟨by kernel_rfl, by kernel_rfl⟩
      b8 := ⟨by kernel_rfl, by kernel_rfl⟩
      b9 := ⟨by kernel_rfl, by kernel_rfl⟩
      b10 := ⟨by kernel_rfl, by kernel_rfl⟩
      b11 := ⟨by kernel_rfl, by kernel_rfl⟩
      b12 := ⟨by kernel_rfl, by kernel_rfl⟩
      b13 := ⟨by kernel_rfl, by kernel_rfl⟩
      b14 := ⟨by kernel_rfl, by kernel_rfl⟩
      o4 := ⟨_, rfl, rfl, rfl, rfl⟩
      f1 := ⟨_, _, _, _, _, rfl, rfl, rfl, rfl, rfl⟩
      f2 := ⟨_, _, _, _, _, rfl, rfl, rfl, rfl, rfl⟩
      f3 := ⟨_, _, _, _, _, rfl, rfl, rfl, rfl, rfl⟩
      f4 := ⟨_, _, _, _, _, rfl, rfl, rfl, rfl, rfl⟩
      f5 := ⟨_, _, _, _, _, rfl, rfl, rfl, rfl, rfl⟩
      f6 := ⟨_, _, _, _, _, rfl, rfl, rfl, rfl, rfl⟩
      f7 := ⟨_, _, _, _, _, rfl, rfl, rfl, rfl, rfl⟩
      f8 := ⟨_, _, _, _, _, rfl, rfl, rfl, rfl, rfl⟩
      f9 := ⟨_, _, _, _, _, rfl, rfl, rfl, rfl, rfl⟩
      f10 := ⟨_, _, _, _, _, rfl, rfl, rfl, rfl, rfl⟩
      f11 := ⟨_, _, _, _, _, rfl, rfl, rfl, rfl, rfl⟩
      f12 := ⟨_, _, _, _, _, rfl, rfl, rfl, rfl, rfl⟩
      f13 := ⟨_, _, _, _, _, rfl, rfl, rfl, rfl, rfl⟩
      f14 := ⟨_, _, _, _, _, rfl, rfl, rfl, rfl, rfl⟩
      a1 := ⟨_, _, _, _, _, rfl, rfl, rfl, rfl, rfl⟩
      a2 := ⟨_, _, _, _, _, rfl, rfl, rfl, rfl, rfl⟩
      a3 := ⟨_, _, _, _, _, rfl, rfl, rfl, rfl, rfl⟩
      a4 := ⟨_, _, _, _, _, rfl, rfl, rfl, rfl, rfl⟩
      a5 := ⟨_, _, _, _, _, rfl, rfl, rfl, rfl, rfl⟩
      a6 := ⟨_, _, _, _, _, rfl, rfl, rfl, rfl, rfl⟩
      d1 := ⟨⟨_, _, rfl⟩, ⟨_, _, _, rfl⟩⟩
      d2 := ⟨⟨_, _, rfl⟩, ⟨_, _, _, rfl⟩⟩
      d3 := ⟨⟨_, _, rfl⟩, ⟨_, _, _, rfl⟩⟩
      d4 := ⟨⟨_, _, rfl⟩, ⟨_, _, _, rfl⟩⟩
      t1 := ⟨_, _, rfl⟩
      t2 := ⟨_, _, rfl⟩
      cell := ⟨_, rfl, rfl⟩
      c1 := by kernel_rfl
      c2 := by kernel_rfl
      c3 := by kernel_rfl
      k1 := ⟨_, _, _, rfl, rfl, rfl⟩
      k2 := ⟨_, _, _, rfl, rfl, rfl⟩
      acc :=
        { ga := by kernel_rfl
          gattr := by kernel_rfl
          push := by kernel_rfl
          popf := by kernel_rfl
          len := by kernel_rfl
          str := by kernel_rfl
          pcount := by kernel_rfl
          init := by kernel_rfl
          append := by kernel_rfl
          getitem := by kernel_rfl
          setitem := by kernel_rfl
          iter := by kernel_rfl
          tf := fun f hf => by
            simp only [List.mem_cons, List.not_mem_nil, or_false] at hf
            rcases hf with rfl | rfl | rfl | rfl | rfl | rfl <;> kernel_rfl
          sub := by kernel_rfl
          deque := by kernel_rfl
          size := by intros; kernel_rfl }
      acc2 :=
        { obj := ⟨_, _, _, _, rfl, rfl, rfl, rfl, rfl⟩
          has := by kernel_rfl
          noSize := by kernel_rfl
          sa := by kernel_rfl
          opq := by kernel_rfl
          call := by kernel_rfl
          typ := by kernel_rfl } }
