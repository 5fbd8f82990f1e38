import PyProof.Rows.All
import Wide.All
import OpenK.AllK
import Open.Tops
import Wide.FinOn
import PySem.Challenge.RW_dm0164_01
open PySem PySem.W PyProof.Rows PySem.Calls
set_option Elab.async false
set_option linter.unusedVariables false
namespace Mine

inductive V where
  | any
  | none
  | bool (b : Bool)
  | int (i : Int)
  | str (x : Str)
  | tup (vs : List V)
  | lst (vs : List V)
  | ref (a : Addr)
  | bi (id : String)
  | ty (n : String)
  | dct (ks : List Int) (vs : List V)

abbrev Fz := Addr → Option Obj
def Ext (z z' : Fz) : Prop := ∀ a o, z a = some o → z' a = some o
theorem Ext.refl (z : Fz) : Ext z z := fun _ _ h => h
theorem Ext.trans {z₁ z₂ z₃ : Fz} (h : Ext z₁ z₂) (k : Ext z₂ z₃) : Ext z₁ z₃ := fun a o e => k a o (h a o e)

mutual
inductive Den (z : Fz) : Value → V → Prop where
  | none : Den z .none .none
  | bool (b : Bool) : Den z (.bool b) (.bool b)
  | int (i : Int) (t : Tok) : Den z (.int i t) (.int i)
  | str (x : Str) (t : Tok) : Den z (.str x t) (.str x)
  | ref (a : Addr) : Den z (.ref a) (.ref a)
  | bi (id : String) : Den z (.builtin id) (.bi id)
  | ty (n : String) : Den z (.type n) (.ty n)
  | tup {a : Addr} {o : Obj} {items : Array Value} {n : Nat} {vs : List V} : z a = some o → o.cls = .type "tuple" → o.data = .seq items n → DenL z items.toList vs → Den z (.ref a) (.tup vs)
  | lst {a : Addr} {o : Obj} {items : Array Value} {n : Nat} {vs : List V} : z a = some o → o.cls = .type "list" → o.data = .seq items n → DenL z items.toList vs → Den z (.ref a) (.lst vs)
  | dct {a : Addr} {o : Obj} {f : Int → Option Value} {ks : List Int} {us : List Value} {vs : List V} : z a = some o → (∀ h : Heap, h.get? a = some o → h.IntMap a f) → ks.map f = us.map some → DenL z us vs → Den z (.ref a) (.dct ks vs)
inductive DenL (z : Fz) : List Value → List V → Prop where
  | nil : DenL z [] []
  | cons {v : Value} {x : V} {vs : List Value} {xs : List V} : Den z v x → DenL z vs xs → DenL z (v :: vs) (x :: xs)
end

mutual
theorem Den.mono {z z' : Fz} (hz : Ext z z') : ∀ {v : Value} {x : V}, Den z v x → Den z' v x
  | _, _, .none => .none
  | _, _, .bool b => .bool b
  | _, _, .int i t => .int i t
  | _, _, .str x t => .str x t
  | _, _, .ref a => .ref a
  | _, _, .bi id => .bi id
  | _, _, .ty n => .ty n
  | _, _, .tup h1 h2 h3 d => .tup (hz _ _ h1) h2 h3 (DenL.mono hz d)
  | _, _, .lst h1 h2 h3 d => .lst (hz _ _ h1) h2 h3 (DenL.mono hz d)
  | _, _, .dct h1 h2 h3 d => .dct (hz _ _ h1) h2 h3 (DenL.mono hz d)
theorem DenL.mono {z z' : Fz} (hz : Ext z z') : ∀ {v : List Value} {x : List V}, DenL z v x → DenL z' v x
  | _, _, .nil => .nil
  | _, _, .cons d r => .cons (Den.mono hz d) (DenL.mono hz r)
end
theorem DenL.length {z : Fz} : ∀ {v : List Value} {x : List V}, DenL z v x → v.length = x.length
  | _, _, .nil => rfl
  | _, _, .cons _ r => by simp [DenL.length r]
theorem DenL.append {z : Fz} : ∀ {v v' : List Value} {x x' : List V}, DenL z v x → DenL z v' x' → DenL z (v ++ v') (x ++ x')
  | _, _, _, _, .nil, h => h
  | _, _, _, _, .cons d r, h => .cons d (DenL.append r h)
theorem DenL.get {z : Fz} : ∀ {v : List Value} {x : List V} {i : Nat} {y : V}, DenL z v x → x[i]? = some y → ∃ u, v[i]? = some u ∧ Den z u y
  | _, _, 0, _, .cons d _, h => by cases h; exact ⟨_, rfl, d⟩
  | _, _, i + 1, _, .cons _ r, h => by simpa using DenL.get r (i := i) (by simpa using h)
theorem DenL.take {z : Fz} : ∀ {v : List Value} {x : List V} (n : Nat), DenL z v x → DenL z (v.take n) (x.take n)
  | _, _, 0, _ => by simpa using .nil
  | _, _, _ + 1, .nil => by simpa using .nil
  | _, _, n + 1, .cons d r => .cons d (DenL.take n r)
inductive DenE (z : Fz) : List DictEntry → List (Str × V) → Prop where
  | nil : DenE z [] []
  | cons {hs : Int} {x : Str} {t : Tok} {u : Value} {v : V} {es : List DictEntry} {m : List (Str × V)} : Den z u v → DenE z es m → DenE z (⟨hs, .str x t, u⟩ :: es) ((x, v) :: m)
theorem DenE.mono {z z' : Fz} (hz : Ext z z') : ∀ {es : List DictEntry} {m : List (Str × V)}, DenE z es m → DenE z' es m
  | _, _, .nil => .nil
  | _, _, .cons d r => .cons (d.mono hz) (r.mono hz)
inductive Res where
  | ns (m : List (Str × V))
  | att (m : List (Str × V))
  | list (vs : List V)
  | cell (v : V)
  | obj (o : Obj)
abbrev Led := List (Addr × Res)

def ResAt (z : Fz) (h : Heap) (a : Addr) : Res → Prop
  | .ns m => (m.map (·.1)).Nodup ∧ ∃ f, h.Ns a f ∧ ∀ p ∈ m, p.2 = .any ∨ ∃ v, f p.1 = some v ∧ Den z v p.2
  | .att m => (m.map (·.1)).Nodup ∧ ∃ es n, h.get? a = some (dictOf es n) ∧ DenE z es m
  | .list vs => ∃ items n, h.get? a = some { cls := .type "list", data := .seq items n } ∧ DenL z items.toList vs
  | .cell v => ∃ u, h.IsCell a u ∧ (v = .any ∨ ∃ w, u = some w ∧ Den z w v)
  | .obj o => h.get? a = some o

theorem ResAt.there {z : Fz} {h : Heap} {a : Addr} {r : Res} (x : ResAt z h a r) : ∃ o, h.get? a = some o := by
  cases r with
  | ns m => obtain ⟨_, f, ⟨o, _, _, ho, _⟩, _⟩ := x; exact ⟨o, ho⟩
  | att m => obtain ⟨_, es, n, ho, _⟩ := x; exact ⟨_, ho⟩
  | list vs => obtain ⟨_, _, ho, _⟩ := x; exact ⟨_, ho⟩
  | cell v => obtain ⟨_, ⟨o, ho, _⟩, _⟩ := x; exact ⟨o, ho⟩
  | obj o => exact ⟨o, x⟩
theorem ResAt.keeps {z z' : Fz} {h h' : Heap} {a : Addr} {r : Res} (hz : Ext z z') (hk : ∀ o, h.get? a = some o → h'.get? a = some o) (x : ResAt z h a r) : ResAt z' h' a r := by
  cases r with
  | ns m =>
    obtain ⟨hn, f, ⟨o, es, ep, ho, r⟩, hp⟩ := x
    exact ⟨hn, f, ⟨o, es, ep, hk _ ho, r⟩, fun p h => (hp p h).imp id fun ⟨v, a, b⟩ => ⟨v, a, b.mono hz⟩⟩
  | att m =>
    obtain ⟨hn, es, n, ho, d⟩ := x
    exact ⟨hn, es, n, hk _ ho, d.mono hz⟩
  | list vs => obtain ⟨it, n, ho, d⟩ := x; exact ⟨it, n, hk _ ho, d.mono hz⟩
  | cell v => obtain ⟨u, ⟨o, ho, r⟩, d⟩ := x; exact ⟨u, ⟨o, hk _ ho, r⟩, d.imp id fun ⟨w, a, b⟩ => ⟨w, a, b.mono hz⟩⟩
  | obj o => exact hk _ x

structure Cx where
  prog : Program
  w : World
  B : Heap
  os : OsState
abbrev Cx.M (C : Cx) : Model := model C.prog C.w

structure Rel (C : Cx) (z : Fz) (R : Led) (s : Shared) : Prop where
  base : ∀ a o, C.B.get? a = some o → z a = some o
  kept : ∀ a o, z a = some o → s.heap.get? a = some o
  res : ∀ p ∈ R, ResAt z s.heap p.1 p.2 ∧ z p.1 = none
  nodup : (R.map (·.1)).Nodup
  gens : s.gens = #[]
  os : s.os = C.os

section
variable {C : Cx} {z z' : Fz} {R R' : Led} {s : Shared}
theorem Rel.toks (H : Rel C z R s) (t : Nat) : Rel C z R { s with toks := t } := ⟨H.base, H.kept, H.res, H.nodup, H.gens, H.os⟩
theorem Rel.keepB (H : Rel C z R s) : ∀ b o, C.B.get? b = some o → s.heap.get? b = some o := fun b o h => H.kept _ _ (H.base _ _ h)
theorem Rel.fresh (H : Rel C z R s) : z s.heap.objs.size = none := by
  cases h : z s.heap.objs.size with
  | none => rfl
  | some o => exact absurd (Heap.lt_size (H.kept _ _ h)) (Nat.lt_irrefl _)
theorem Rel.notIn (H : Rel C z R s) : s.heap.objs.size ∉ R.map (·.1) := fun h => by
  obtain ⟨p, hp, e⟩ := List.mem_map.mp h
  obtain ⟨o, ho⟩ := (H.res p hp).1.there
  rw [e] at ho
  exact absurd (Heap.lt_size ho) (Nat.lt_irrefl _)

theorem Rel.grown (H : Rel C z R s) {h' : Heap} {t : Nat} {a : Addr} (ha : z a = none) (hb : a ∉ R.map (·.1)) (hk : Heap.ExtBut a s.heap h') : Rel C z R { s with heap := h', toks := t } := by
  refine ⟨H.base, fun b o e => hk b o (fun q => ?_) (H.kept b o e), fun p hp => ⟨(H.res p hp).1.keeps (Ext.refl _) fun o e => hk _ o (fun q => hb (q ▸ List.mem_map_of_mem hp)) e, (H.res p hp).2⟩, H.nodup, H.gens, H.os⟩
  subst q; rw [ha] at e; cases e

def zput (z : Fz) (a : Addr) (o : Obj) : Fz := fun b => if b = a then some o else z b
theorem zput_ext {a : Addr} {o : Obj} (h : z a = none) : Ext z (zput z a o) := fun b p e => by
  unfold zput
  by_cases q : b = a
  · subst q; rw [h] at e; cases e
  · rw [if_neg q]; exact e
theorem zput_self {a : Addr} {o : Obj} : zput z a o a = some o := if_pos rfl

theorem Rel.push (H : Rel C z R s) (o : Obj) (hfree : o.isFreed = false := by rfl) : Rel C (zput z s.heap.objs.size o) R { s with heap := s.heap.push o } := by
  have hx := zput_ext (o := o) H.fresh
  refine ⟨fun a p e => hx _ _ (H.base _ _ e), fun a p e => ?_, fun p hp => ⟨(H.res p hp).1.keeps hx fun _ e => Heap.get?_push_of_some _ e, ?_⟩, H.nodup, H.gens, H.os⟩
  · unfold zput at e
    by_cases q : a = s.heap.objs.size
    · rw [if_pos q] at e; cases e; subst q; exact Heap.get?_push_size _ hfree
    · rw [if_neg q] at e; exact Heap.get?_push_of_some _ (H.kept _ _ e)
  · unfold zput
    have hne : p.1 ≠ s.heap.objs.size := fun q => H.notIn (q ▸ List.mem_map_of_mem hp)
    rw [if_neg hne]
    exact (H.res p hp).2

theorem Rel.pushR (H : Rel C z R s) {o : Obj} {r : Res} (hr : ResAt z (s.heap.push o) s.heap.objs.size r) : Rel C z ((s.heap.objs.size, r) :: R) { s with heap := s.heap.push o } := by
  refine ⟨H.base, fun a p e => Heap.get?_push_of_some _ (H.kept _ _ e), fun p hp => ?_, ?_, H.gens, H.os⟩
  · rcases List.mem_cons.mp hp with rfl | hp
    · exact ⟨hr, H.fresh⟩
    · exact ⟨(H.res p hp).1.keeps (Ext.refl _) fun _ e => Heap.get?_push_of_some _ e, (H.res p hp).2⟩
  · exact List.nodup_cons.mpr ⟨H.notIn, H.nodup⟩
theorem Rel.more (H : Rel C z R s) {h' : Heap} {t : Nat} {r : Res} {a : Addr} (hr : ResAt z h' a r) (ha : z a = none) (hb : a ∉ R.map (·.1)) (hk : Heap.ExtBut a s.heap h') : Rel C z ((a, r) :: R) { s with heap := h', toks := t } := by
  have H' := H.grown (t := t) ha hb hk
  refine ⟨H'.base, H'.kept, fun p hp => ?_, List.nodup_cons.mpr ⟨hb, H.nodup⟩, H.gens, H.os⟩
  rcases List.mem_cons.mp hp with rfl | hp
  · exact ⟨hr, ha⟩
  · exact H'.res p hp

theorem Rel.sub (H : Rel C z R s) (hs : R'.Sublist R) : Rel C z R' s :=
  ⟨H.base, H.kept, fun p hp => H.res p (hs.subset hp), (hs.map _).nodup H.nodup, H.gens, H.os⟩
theorem Rel.tail {p : Addr × Res} (H : Rel C z (p :: R) s) : Rel C z R s := H.sub (List.sublist_cons_self _ _)
end

inductive Upd : Led → Addr → Res → Res → Led → Prop where
  | here {a : Addr} {r r' : Res} {R : Led} : Upd ((a, r) :: R) a r r' ((a, r') :: R)
  | there {a : Addr} {r r' : Res} {p : Addr × Res} {R R' : Led} : Upd R a r r' R' → Upd (p :: R) a r r' (p :: R')
theorem Upd.keys {R R' : Led} {a : Addr} {r r' : Res} (u : Upd R a r r' R') : R'.map (·.1) = R.map (·.1) := by
  induction u with
  | here => rfl
  | there _ ih => simp [ih]
theorem Upd.old {R R' : Led} {a : Addr} {r r' : Res} (u : Upd R a r r' R') : (a, r) ∈ R := by
  induction u with
  | here => exact .head _
  | there _ ih => exact .tail _ ih
theorem Upd.mem {R R' : Led} {a : Addr} {r r' : Res} (u : Upd R a r r' R') (hn : (R.map (·.1)).Nodup) : ∀ p ∈ R', p = (a, r') ∨ (p.1 ≠ a ∧ p ∈ R) := by
  induction u with
  | here =>
    intro p hp
    rcases List.mem_cons.mp hp with rfl | hp
    · exact .inl rfl
    · refine .inr ⟨fun e => ?_, .tail _ hp⟩
      have q := List.mem_map_of_mem (f := (·.1)) hp
      rw [e] at q
      exact (List.nodup_cons.mp hn).1 q
  | there u ih =>
    intro p hp
    rcases List.mem_cons.mp hp with rfl | hp
    · refine .inr ⟨fun e => ?_, .head _⟩
      have q := List.mem_map_of_mem (f := (·.1)) u.old
      exact (List.nodup_cons.mp hn).1 (by dsimp only; rw [e]; exact q)
    · exact (ih (List.nodup_cons.mp hn).2 p hp).imp id fun ⟨a, b⟩ => ⟨a, .tail _ b⟩
theorem Rel.upd {C : Cx} {z : Fz} {R R' : Led} {s : Shared} {a : Addr} {r r' : Res} (H : Rel C z R s) (u : Upd R a r r' R') {h' : Heap} {t : Nat} (hk : Heap.SameBut a s.heap h') (hr : ResAt z h' a r') : Rel C z R' { s with heap := h', toks := t } := by
  have ha := (H.res _ u.old).2
  refine ⟨H.base, fun b o e => (hk.2 b (fun q => ?_)).trans (H.kept b o e), fun p hp => ?_, u.keys ▸ H.nodup, H.gens, H.os⟩
  · subst q; rw [ha] at e; cases e
  · rcases u.mem H.nodup p hp with rfl | ⟨h1, h2⟩
    · exact ⟨hr, ha⟩
    · exact ⟨(H.res p h2).1.keeps (Ext.refl _) fun o e => (hk.2 _ h1).trans e, (H.res p h2).2⟩

inductive Put : List (Str × V) → Str → V → List (Str × V) → Prop where
  | here {x : Str} {u v : V} {m : List (Str × V)} : Put ((x, u) :: m) x v ((x, v) :: m)
  | there {x : Str} {v : V} {p : Str × V} {m m' : List (Str × V)} : Put m x v m' → Put (p :: m) x v (p :: m')
theorem Put.keys {m m' : List (Str × V)} {x : Str} {v : V} (u : Put m x v m') : m'.map (·.1) = m.map (·.1) := by
  induction u with
  | here => rfl
  | there _ ih => simp [ih]
theorem Put.isKey {m m' : List (Str × V)} {x : Str} {v : V} (u : Put m x v m') : x ∈ m.map (·.1) := by
  induction u with
  | here => exact .head _
  | there _ ih => exact .tail _ ih
theorem Put.mem {m m' : List (Str × V)} {x : Str} {v : V} (u : Put m x v m') (hn : (m.map (·.1)).Nodup) : ∀ p ∈ m', p = (x, v) ∨ (p.1 ≠ x ∧ p ∈ m) := by
  induction u with
  | here =>
    intro p hp
    rcases List.mem_cons.mp hp with rfl | hp
    · exact .inl rfl
    · refine .inr ⟨fun e => ?_, .tail _ hp⟩
      have q := List.mem_map_of_mem (f := (·.1)) hp
      rw [e] at q
      exact (List.nodup_cons.mp hn).1 q
  | there u ih =>
    intro p hp
    rcases List.mem_cons.mp hp with rfl | hp
    · refine .inr ⟨fun e => ?_, .head _⟩
      exact (List.nodup_cons.mp hn).1 (by dsimp only; rw [e]; exact u.isKey)
    · exact (ih (List.nodup_cons.mp hn).2 p hp).imp id fun ⟨a, b⟩ => ⟨a, .tail _ b⟩
theorem ResAt.put {z : Fz} {h h' : Heap} {a : Addr} {m m' : List (Str × V)} {x : Str} {v : V} {u : Value} {f : Str → Option Value} (hn : (m.map (·.1)).Nodup) (hf : ∀ p ∈ m, p.2 = .any ∨ ∃ v, f p.1 = some v ∧ Den z v p.2)
    (p : Put m x v m') (hN : h'.Ns a (fun y => if y = x then some u else f y)) (d : Den z u v) : ResAt z h' a (.ns m') := by
  refine ⟨p.keys ▸ hn, _, hN, fun q hq => ?_⟩
  rcases p.mem hn q hq with rfl | ⟨h1, h2⟩
  · exact .inr ⟨u, by simp, d⟩
  · exact (hf q h2).imp id fun ⟨v, e, d⟩ => ⟨v, by simp [h1, e], d⟩
inductive WkN : List (Str × V) → List (Str × V) → Prop where
  | nil : WkN [] []
  | same {p : Str × V} {m m' : List (Str × V)} : WkN m m' → WkN (p :: m) (p :: m')
  | any {x : Str} {v : V} {m m' : List (Str × V)} : WkN m m' → WkN ((x, v) :: m) ((x, .any) :: m')
inductive Wk : Led → Led → Prop where
  | nil : Wk [] []
  | rest {R : Led} : Wk R R
  | same {p : Addr × Res} {R R' : Led} : Wk R R' → Wk (p :: R) (p :: R')
  | ns {a : Addr} {m m' : List (Str × V)} {R R' : Led} : WkN m m' → Wk R R' → Wk ((a, .ns m) :: R) ((a, .ns m') :: R')
  | drop {p : Addr × Res} {R R' : Led} : Wk R R' → Wk (p :: R) R'
  | perm {R R₁ R' : Led} : R.Perm R₁ → Wk R₁ R' → Wk R R'
theorem WkN.keys {m m' : List (Str × V)} (k : WkN m m') : m'.map (·.1) = m.map (·.1) := by
  induction k with
  | nil => rfl
  | same _ ih => simp [ih]
  | any _ ih => simp [ih]
theorem WkN.mem {m m' : List (Str × V)} (k : WkN m m') : ∀ p ∈ m', p.2 = .any ∨ p ∈ m := by
  induction k with
  | nil => exact fun p hp => nomatch hp
  | same _ ih =>
    intro p hp
    rcases List.mem_cons.mp hp with rfl | hp
    · exact .inr (.head _)
    · exact (ih p hp).imp id fun h => .tail _ h
  | any _ ih =>
    intro p hp
    rcases List.mem_cons.mp hp with rfl | hp
    · exact .inl rfl
    · exact (ih p hp).imp id fun h => .tail _ h
theorem Wk.keys {R R' : Led} (k : Wk R R') : (R.map (·.1)).Nodup → (R'.map (·.1)).Nodup ∧ ∀ a ∈ R'.map (·.1), a ∈ R.map (·.1) := by
  induction k with
  | nil => exact fun h => ⟨h, fun _ x => x⟩
  | rest => exact fun h => ⟨h, fun _ x => x⟩
  | same _ ih =>
    intro h
    obtain ⟨a, b⟩ := ih (List.nodup_cons.mp h).2
    exact ⟨List.nodup_cons.mpr ⟨fun q => (List.nodup_cons.mp h).1 (b _ q), a⟩, fun x hx => (List.mem_cons.mp hx).elim (fun e => e ▸ .head _) fun q => .tail _ (b x q)⟩
  | ns _ _ ih =>
    intro h
    obtain ⟨a, b⟩ := ih (List.nodup_cons.mp h).2
    exact ⟨List.nodup_cons.mpr ⟨fun q => (List.nodup_cons.mp h).1 (b _ q), a⟩, fun x hx => (List.mem_cons.mp hx).elim (fun e => e ▸ .head _) fun q => .tail _ (b x q)⟩
  | drop _ ih =>
    intro h
    obtain ⟨a, b⟩ := ih (List.nodup_cons.mp h).2
    exact ⟨a, fun x hx => .tail _ (b x hx)⟩
  | perm p _ ih =>
    intro h
    obtain ⟨a, b⟩ := ih ((p.map _).nodup_iff.mp h)
    exact ⟨a, fun x hx => (p.map _).mem_iff.mpr (b x hx)⟩
theorem Wk.res {z : Fz} {h : Heap} {R R' : Led} (k : Wk R R') : (∀ p ∈ R, ResAt z h p.1 p.2 ∧ z p.1 = none) → ∀ p ∈ R', ResAt z h p.1 p.2 ∧ z p.1 = none := by
  induction k with
  | nil => exact id
  | rest => exact id
  | same _ ih => exact fun H p hp => (List.mem_cons.mp hp).elim (fun e => e ▸ H _ (.head _)) fun hp => ih (fun q hq => H q (.tail _ hq)) p hp
  | @ns a m m' _ _ k _ ih =>
    refine fun H p hp => (List.mem_cons.mp hp).elim (fun e => ?_) fun hp => ih (fun q hq => H q (.tail _ hq)) p hp
    subst e
    obtain ⟨⟨hn, f, hN, hf⟩, hz⟩ := H _ (.head _)
    exact ⟨⟨k.keys ▸ hn, f, hN, fun p hp => (k.mem p hp).elim .inl fun h => hf p h⟩, hz⟩
  | drop _ ih => exact fun H p hp => ih (fun q hq => H q (.tail _ hq)) p hp
  | perm e _ ih => exact fun H p hp => ih (fun q hq => H q (e.mem_iff.mpr hq)) p hp
theorem Rel.wk {C : Cx} {z : Fz} {R R' : Led} {s : Shared} (H : Rel C z R s) (k : Wk R R') : Rel C z R' s :=
  ⟨H.base, H.kept, k.res H.res, (k.keys H.nodup).1, H.gens, H.os⟩

def VPost (C : Cx) (z : Fz) (Φ : V → Led → Prop) : Value → Shared → Prop :=
  fun u s' => ∃ z' R' v, Ext z z' ∧ Rel C z' R' s' ∧ Den z' u v ∧ Φ v R'
abbrev NoE : Value → Shared → Prop := fun _ _ => False
def Ev (C : Cx) (A : Around) (env : Env) (e : Expr) (R : Led) (Φ : V → Led → Prop) : Prop :=
  ∀ z s, Rel C z R s → 0 < s.toks → wpAny C.M A (eval e env) (VPost C z Φ) NoE s
def BPost (C : Cx) (z : Fz) (Φ : Bool → Led → Prop) : Bool → Shared → Prop :=
  fun b s' => ∃ z' R', Ext z z' ∧ Rel C z' R' s' ∧ Φ b R'
def Ts (C : Cx) (A : Around) (env : Env) (e : Expr) (R : Led) (Φ : Bool → Led → Prop) : Prop :=
  ∀ z s, Rel C z R s → 0 < s.toks → wpAny C.M A (isTrue e env (eval e env)) (BPost C z Φ) NoE s
inductive Fl where
  | next | brk | cont
  | ret (v : V)
inductive DenF (z : Fz) : Flow → Fl → Prop where
  | next : DenF z .next .next
  | brk : DenF z .brk .brk
  | cont : DenF z .cont .cont
  | ret {u : Value} {v : V} : Den z u v → DenF z (.ret u) (.ret v)
def FPost (C : Cx) (z : Fz) (Ψ : Fl → Led → Prop) : Flow → Shared → Prop :=
  fun f s' => ∃ z' R' g, Ext z z' ∧ Rel C z' R' s' ∧ DenF z' f g ∧ Ψ g R'
def Ex (C : Cx) (A : Around) (env : Env) (b : List Stmt) (R : Led) (Ψ : Fl → Led → Prop) : Prop :=
  ∀ z s, Rel C z R s → 0 < s.toks → wpAny C.M A (execs b env) (FPost C z Ψ) NoE s
def Ex1 (C : Cx) (A : Around) (env : Env) (b : Stmt) (R : Led) (Ψ : Fl → Led → Prop) : Prop :=
  ∀ z s, Rel C z R s → 0 < s.toks → wpAny C.M A (exec b env) (FPost C z Ψ) NoE s
def UPost (C : Cx) (z : Fz) (Φ : Led → Prop) : Unit → Shared → Prop :=
  fun _ s' => ∃ z' R', Ext z z' ∧ Rel C z' R' s' ∧ Φ R'
def As (C : Cx) (A : Around) (env : Env) (t : Expr) (v : V) (R : Led) (Φ : Led → Prop) : Prop :=
  ∀ z s u, Rel C z R s → 0 < s.toks → Den z u v → wpAny C.M A (assign t env u) (UPost C z Φ) NoE s
def Cl (C : Cx) (A : Around) (f : V) (vs : List V) (R : Led) (Φ : V → Led → Prop) : Prop :=
  ∀ z s u us, Rel C z R s → 0 < s.toks → Den z u f → DenL z us vs → wpAny C.M A (call u us) (VPost C z Φ) NoE s

section
variable {C : Cx} {A : Around} {env : Env} {z z' : Fz} {R : Led} {s : Shared}
theorem VPost.mk {Φ : V → Led → Prop} {u : Value} {v : V} (H : Rel C z R s) (d : Den z u v) (h : Φ v R) : VPost C z Φ u s := ⟨z, R, v, Ext.refl _, H, d, h⟩
theorem VPost.ext {Φ : V → Led → Prop} {u : Value} (e : Ext z z') (h : VPost C z' Φ u s) : VPost C z Φ u s :=
  let ⟨z2, R', v, e2, r⟩ := h; ⟨z2, R', v, e.trans e2, r⟩
theorem BPost.ext {Φ : Bool → Led → Prop} {u : Bool} (e : Ext z z') (h : BPost C z' Φ u s) : BPost C z Φ u s :=
  let ⟨z2, R', e2, r⟩ := h; ⟨z2, R', e.trans e2, r⟩
theorem FPost.ext {Φ : Fl → Led → Prop} {u : Flow} (e : Ext z z') (h : FPost C z' Φ u s) : FPost C z Φ u s :=
  let ⟨z2, R', v, e2, r⟩ := h; ⟨z2, R', v, e.trans e2, r⟩
theorem UPost.ext {Φ : Led → Prop} {u : Unit} (e : Ext z z') (h : UPost C z' Φ u s) : UPost C z Φ u s :=
  let ⟨z2, R', e2, r⟩ := h; ⟨z2, R', e.trans e2, r⟩
theorem wpNo {α : Type} {M : Model} {t : Sem α} {Q Q' : α → Shared → Prop} {E : Value → Shared → Prop} (t0 : 0 < s.toks) (h : wpAny M A t Q NoE s) (hQ : ∀ a s', 0 < s'.toks → Q a s' → Q' a s') : wpAny M A t Q' E s :=
  wpAny_mono (wpAny_toks_of (n := 1) t0 h) (fun a s' x => hQ a s' x.1 x.2) fun _ _ x => x.2.elim
theorem Ev.then {e : Expr} {Φ : V → Led → Prop} {Q : Value → Shared → Prop} (h : Ev C A env e R Φ) (H : Rel C z R s) (t : 0 < s.toks)
    (k : ∀ z' R' v u s', Ext z z' → Rel C z' R' s' → 0 < s'.toks → Den z' u v → Φ v R' → Q u s') : wpAny C.M A (eval e env) Q NoE s :=
  wpNo t (h z s H t) fun u s' t' ⟨z', R', v, e, H', d, p⟩ => k z' R' v u s' e H' t' d p
theorem Ts.then {e : Expr} {Φ : Bool → Led → Prop} {Q : Bool → Shared → Prop} (h : Ts C A env e R Φ) (H : Rel C z R s) (t : 0 < s.toks)
    (k : ∀ z' R' b s', Ext z z' → Rel C z' R' s' → 0 < s'.toks → Φ b R' → Q b s') : wpAny C.M A (isTrue e env (eval e env)) Q NoE s :=
  wpNo t (h z s H t) fun b s' t' ⟨z', R', e, H', p⟩ => k z' R' b s' e H' t' p
theorem Ex1.then {b : Stmt} {Ψ : Fl → Led → Prop} {Q : Flow → Shared → Prop} (h : Ex1 C A env b R Ψ) (H : Rel C z R s) (t : 0 < s.toks)
    (k : ∀ z' R' g f s', Ext z z' → Rel C z' R' s' → 0 < s'.toks → DenF z' f g → Ψ g R' → Q f s') : wpAny C.M A (exec b env) Q NoE s :=
  wpNo t (h z s H t) fun u s' t' ⟨z', R', v, e, H', d, p⟩ => k z' R' v u s' e H' t' d p
theorem Ex.then {b : List Stmt} {Ψ : Fl → Led → Prop} {Q : Flow → Shared → Prop} (h : Ex C A env b R Ψ) (H : Rel C z R s) (t : 0 < s.toks)
    (k : ∀ z' R' g f s', Ext z z' → Rel C z' R' s' → 0 < s'.toks → DenF z' f g → Ψ g R' → Q f s') : wpAny C.M A (execs b env) Q NoE s :=
  wpNo t (h z s H t) fun u s' t' ⟨z', R', v, e, H', d, p⟩ => k z' R' v u s' e H' t' d p
theorem As.then {e : Expr} {v : V} {u : Value} {Φ : Led → Prop} {Q : Unit → Shared → Prop} (h : As C A env e v R Φ) (H : Rel C z R s) (t : 0 < s.toks) (d : Den z u v)
    (k : ∀ z' R' s', Ext z z' → Rel C z' R' s' → 0 < s'.toks → Φ R' → Q () s') : wpAny C.M A (assign e env u) Q NoE s :=
  wpNo t (h z s u H t d) fun _ s' t' ⟨z', R', e, H', p⟩ => k z' R' s' e H' t' p
theorem Cl.then {f : V} {vs : List V} {u : Value} {us : List Value} {Φ : V → Led → Prop} {Q : Value → Shared → Prop} (h : Cl C A f vs R Φ) (H : Rel C z R s) (t : 0 < s.toks) (d : Den z u f) (ds : DenL z us vs)
    (k : ∀ z' R' v u s', Ext z z' → Rel C z' R' s' → 0 < s'.toks → Den z' u v → Φ v R' → Q u s') : wpAny C.M A (call u us) Q NoE s :=
  wpNo t (h z s u us H t d ds) fun u s' t' ⟨z', R', v, e, H', d, p⟩ => k z' R' v u s' e H' t' d p
theorem Ev.mono {e : Expr} {Φ Φ' : V → Led → Prop} (h : Ev C A env e R Φ) (k : ∀ v R', Φ v R' → Φ' v R') : Ev C A env e R Φ' :=
  fun z s H t => h.then H t fun z' R' v u s' e H' _ d p => ⟨z', R', v, e, H', d, k _ _ p⟩
theorem Ex.mono {b : List Stmt} {Φ Φ' : Fl → Led → Prop} (h : Ex C A env b R Φ) (k : ∀ v R', Φ v R' → Φ' v R') : Ex C A env b R Φ' :=
  fun z s H t => h.then H t fun z' R' v u s' e H' _ d p => ⟨z', R', v, e, H', d, k _ _ p⟩
theorem Ex.wk {b : List Stmt} {R' : Led} {Ψ : Fl → Led → Prop} (k : Wk R R') (h : Ex C A env b R' Ψ) : Ex C A env b R Ψ := fun z s H t => h z s (H.wk k) t
end

end Mine

open PySem PySem.W PyProof.Rows PySem.Calls
set_option Elab.async false
set_option linter.unusedVariables false
namespace Mine

structure GX (C : Cx) (mg mb : Str → Option Value) : Prop where
  g : C.B.Ns mainGlobals mg
  b : C.B.Ns builtinsNs mb
  nolimit : C.B.NoLimit
  boot : ∀ x : Str, x ≠ "__name__" → mb x = bootBuiltins x

def V.isAny : V → Bool
  | .any => true
  | _ => false

section
variable {C : Cx} {A : Around} {env : Env} {R : Led} {mg mb : Str → Option Value} {Φ : V → Led → Prop} {k : Nat} {pos : Pos}

theorem Ev.int {i : Int} (h : Φ (.int i) R) : Ev C A env (.Constant (.int i) k pos) R Φ :=
  fun z s H t => wpAny_Constant_int (.mk (H.toks _) (.int _ _) h)
theorem Ev.str {x : Str} (h : Φ (.str x) R) : Ev C A env (.Constant (.str x) k pos) R Φ :=
  fun z s H t => wpAny_Constant_str (.mk (H.toks _) (.str _ _) h)
theorem Rel.ns {z : Fz} {s : Shared} {L : Addr} {m : List (Str × V)} {x : Str} {v : V} (H : Rel C z R s) (hL : (L, .ns m) ∈ R) (hx : (x, v) ∈ m) (hv : v.isAny = false) : ∃ f u, s.heap.Ns L f ∧ f x = some u ∧ Den z u v := by
  obtain ⟨⟨_, f, hN, hf⟩, _⟩ := H.res _ hL
  rcases hf _ hx with e | ⟨u, e, d⟩
  · dsimp only at e; subst e; cases hv
  · exact ⟨f, u, hN, e, d⟩
theorem Rel.list {z : Fz} {s : Shared} {L : Addr} {vs : List V} (H : Rel C z R s) (hL : (L, .list vs) ∈ R) : ∃ items, s.heap.IsList L items ∧ DenL z items.toList vs := by
  obtain ⟨⟨it, n, h1, d⟩, _⟩ := H.res _ hL
  exact ⟨it, ⟨_, h1, rfl, n, rfl⟩, d⟩

theorem Ev.loc {L : Addr} {m : List (Str × V)} {x : Str} {v : V} (hL : (L, .ns m) ∈ R) (hx : (x, v) ∈ m) (h : Φ v R) (hv : v.isAny = false := by rfl) (hk : env.scope.kind = .function := by rfl)
    (hl : env.kindOf x = some .local := by rfl) (he : env.locals = L := by rfl) (hd : (x == ("__debug__" : Str)) = false := by decide) : Ev C A env (.Name x pos) R Φ := fun z s H t => by
  obtain ⟨f, u, hN, hu, d⟩ := H.ns hL hx hv
  exact wpAny_Name (wpAny_loadName_local hk hl (he ▸ hN) hu (.mk H d h)) hd
theorem Rel.cell {z : Fz} {s : Shared} {c : Addr} {v : V} (H : Rel C z R s) (hL : (c, .cell v) ∈ R) (hv : v.isAny = false) : ∃ u, s.heap.IsCell c (some u) ∧ Den z u v := by
  obtain ⟨⟨u, hc, e⟩, _⟩ := H.res _ hL
  rcases e with e | ⟨w, rfl, d⟩
  · subst e; cases hv
  · exact ⟨w, hc, d⟩
theorem Ev.cellv {c : Addr} {x : Str} {v : V} (hL : (c, .cell v) ∈ R) (h : Φ v R) (hv : v.isAny = false := by rfl) (hk : env.scope.kind = .function := by rfl)
    (hl : env.kindOf x = some .cell := by rfl) (he : env.cells.lookup x = some c := by rfl) (hd : (x == ("__debug__" : Str)) = false := by decide) : Ev C A env (.Name x pos) R Φ := fun z s H t => by
  obtain ⟨u, hu, d⟩ := H.cell hL hv
  exact wpAny_Name (wpAny_loadName_cell hk hl he hu (.mk H d h)) hd
theorem Ev.glob {x : Str} {u : Value} {v : V} (G : GX C mg mb) (hx : mg x = some u) (d : ∀ z, Den z u v) (h : Φ v R) (hk : env.scope.kind = .function := by rfl)
    (hl : env.kindOf x = some .globalImplicit := by rfl) (he : env.globals = mainGlobals := by rfl) (hd : (x == ("__debug__" : Str)) = false := by decide) : Ev C A env (.Name x pos) R Φ := fun z s H t =>
  Calls.Name_function_global hk hl (Calls.loadGlobal_global (he ▸ G.g.keeps H.keepB) hx (.mk H (d z) h)) hd
theorem Ev.blt {x : Str} {u : Value} {v : V} (G : GX C mg mb) (hx : mg x = .none) (hb : bootBuiltins x = some u) (d : ∀ z, Den z u v) (h : Φ v R) (hn : x ≠ "__name__" := by decide) (hk : env.scope.kind = .function := by rfl)
    (hl : env.kindOf x = some .globalImplicit := by rfl) (he : env.globals = mainGlobals := by rfl) (he2 : env.builtins = builtinsNs := by rfl) (hd : (x == ("__debug__" : Str)) = false := by decide) : Ev C A env (.Name x pos) R Φ := fun z s H t =>
  Calls.Name_function_global hk hl (Calls.loadGlobal_builtin (he ▸ G.g.keeps H.keepB) hx (he2 ▸ G.b.keeps H.keepB) ((G.boot x hn).trans hb) (.mk H (d z) h)) hd

def Op2 (C : Cx) (A : Around) (op : Operator) (a b : V) (R : Led) (Φ : V → Led → Prop) : Prop :=
  ∀ z s u v, Rel C z R s → 0 < s.toks → Den z u a → Den z v b → wpAny C.M A (binaryOp op u v) (VPost C z Φ) NoE s
theorem Ev.bin {l r : Expr} {op : Operator} (h : Ev C A env l R fun a R₁ => Ev C A env r R₁ fun b R₂ => Op2 C A op a b R₂ Φ) : Ev C A env (.BinOp l op r pos) R Φ := fun z s H t =>
  wpAny_BinOp (h.then H t fun z₁ R₁ a u s₁ e₁ H₁ t₁ d₁ h₁ => h₁.then H₁ t₁ fun z₂ R₂ b v s₂ e₂ H₂ t₂ d₂ h₂ =>
    wpNo t₂ (h₂ z₂ s₂ u v H₂ t₂ (d₁.mono e₂) d₂) fun _ _ _ p => p.ext (e₁.trans e₂))
def Cmp (C : Cx) (A : Around) (op : CmpOp) (a b : V) (R : Led) (Φ : Bool → Led → Prop) : Prop :=
  ∀ z s u v, Rel C z R s → 0 < s.toks → Den z u a → Den z v b → wpAny C.M A (compareOp op u v) (fun r s' => ∃ b, r = .bool b ∧ BPost C z Φ b s') NoE s
theorem Ev.cmp {l r : Expr} {op : CmpOp} (h : Ev C A env l R fun a R₁ => Ev C A env r R₁ fun b R₂ => Cmp C A op a b R₂ fun c R₃ => Φ (.bool c) R₃)
    (hm : behindInMarks op r = false := by with_unfolding_all rfl) : Ev C A env (.Compare l [op] [r] pos) R Φ := fun z s H t =>
  wpAny_Compare1 (h.then H t fun z₁ R₁ a u s₁ e₁ H₁ t₁ d₁ h₁ => h₁.then H₁ t₁ fun z₂ R₂ b v s₂ e₂ H₂ t₂ d₂ h₂ =>
    wpNo t₂ (h₂ z₂ s₂ u v H₂ t₂ (d₁.mono e₂) d₂) fun _ _ _ ⟨b, e, z₃, R₃, e₃, H₃, p⟩ => e ▸ ⟨z₃, R₃, _, (e₁.trans e₂).trans e₃, H₃, .bool b, p⟩) hm
theorem Ts.cmp {l r : Expr} {op : CmpOp} {Φ : Bool → Led → Prop} (h : Ev C A env l R fun a R₁ => Ev C A env r R₁ fun b R₂ => Cmp C A op a b R₂ Φ)
    (hm : behindInMarks op r = false := by with_unfolding_all rfl) : Ts C A env (.Compare l [op] [r] pos) R Φ := fun z s H t =>
  wpAny_isTrue_Compare1 (h.then H t fun z₁ R₁ a u s₁ e₁ H₁ t₁ d₁ h₁ => h₁.then H₁ t₁ fun z₂ R₂ b v s₂ e₂ H₂ t₂ d₂ h₂ =>
    wpNo t₂ (h₂ z₂ s₂ u v H₂ t₂ (d₁.mono e₂) d₂) fun _ _ _ ⟨b, e, p⟩ => e ▸ wpAny_truthy_bool (p.ext (e₁.trans e₂))) hm
def Tr (C : Cx) (A : Around) (a : V) (R : Led) (Φ : Bool → Led → Prop) : Prop :=
  ∀ z s u, Rel C z R s → 0 < s.toks → Den z u a → wpAny C.M A (truthy u) (BPost C z Φ) NoE s
theorem Ts.val {e : Expr} {Φ : Bool → Led → Prop} (h : Ev C A env e R fun a R₁ => Tr C A a R₁ Φ)
    (he : isTrue e env (eval e env) = (do let v ← eval e env; standAt e.pos; holding [v] (truthy v)) := by rfl) : Ts C A env e R Φ := fun z s H t =>
  wpAny_isTrue_value (h.then H t fun z₁ R₁ a u s₁ e₁ H₁ t₁ d₁ h₁ => wpNo t₁ (h₁ z₁ s₁ u H₁ t₁ d₁) fun _ _ _ p => p.ext e₁) he
theorem Tr.bool {b : Bool} {Φ : Bool → Led → Prop} (h : Φ b R) : Tr C A (.bool b) R Φ := fun z s u H t d => by
  cases d; exact wpAny_truthy_bool ⟨z, R, Ext.refl _, H, h⟩
theorem Ts.not {x : Expr} {Φ : Bool → Led → Prop} (h : Ts C A env x R fun b R₁ => Φ (!b) R₁) : Ts C A env (.UnaryOp .Not x pos) R Φ := fun z s H t =>
  isTrue_not (h.then H t fun z₁ R₁ b s₁ e₁ H₁ t₁ h₁ => ⟨z₁, R₁, e₁, H₁, h₁⟩)
theorem Ts.and_nil {Φ : Bool → Led → Prop} (h : Φ true R) : Ts C A env (.BoolOp .And [] pos) R Φ := fun z s H t => isTrue_and_nil ⟨z, R, Ext.refl _, H, h⟩
theorem Ts.or_nil {Φ : Bool → Led → Prop} (h : Φ false R) : Ts C A env (.BoolOp .Or [] pos) R Φ := fun z s H t => isTrue_or_nil ⟨z, R, Ext.refl _, H, h⟩
theorem Ts.and {x : Expr} {rest : List Expr} {Φ : Bool → Led → Prop} (h : Ts C A env x R fun b R₁ => if b = true then Ts C A env (.BoolOp .And rest pos) R₁ Φ else Φ false R₁) :
    Ts C A env (.BoolOp .And (x :: rest) pos) R Φ := fun z s H t =>
  isTrue_and (h.then H t fun z₁ R₁ b s₁ e₁ H₁ t₁ h₁ => by
    cases b with
    | false => exact ⟨z₁, R₁, e₁, H₁, h₁⟩
    | true => exact wpNo t₁ (show wpAny _ _ (isTrue (.BoolOp .And rest pos) env _) _ _ _ from h₁ z₁ s₁ H₁ t₁) fun _ _ _ p => p.ext e₁)
theorem Ts.or {x : Expr} {rest : List Expr} {Φ : Bool → Led → Prop} (h : Ts C A env x R fun b R₁ => if b = true then Φ true R₁ else Ts C A env (.BoolOp .Or rest pos) R₁ Φ) :
    Ts C A env (.BoolOp .Or (x :: rest) pos) R Φ := fun z s H t =>
  isTrue_or (h.then H t fun z₁ R₁ b s₁ e₁ H₁ t₁ h₁ => by
    cases b with
    | true => exact ⟨z₁, R₁, e₁, H₁, h₁⟩
    | false => exact wpNo t₁ (show wpAny _ _ (isTrue (.BoolOp .Or rest pos) env _) _ _ _ from h₁ z₁ s₁ H₁ t₁) fun _ _ _ p => p.ext e₁)
end
end Mine

open PySem PySem.W PyProof.Rows PySem.Calls
set_option Elab.async false
set_option linter.unusedVariables false
namespace Mine
section
variable {C : Cx} {A : Around} {env : Env} {R : Led} {mg mb : Str → Option Value} {Φ : V → Led → Prop} {Ψ : Fl → Led → Prop} {k : Nat} {pos : Pos}

theorem Ex.nil (h : Ψ .next R) : Ex C A env [] R Ψ := fun z s H t => wpAny_execs_nil ⟨z, R, _, Ext.refl _, H, .next, h⟩
def Seq (C : Cx) (A : Around) (env : Env) (rest : List Stmt) (Ψ : Fl → Led → Prop) : Fl → Led → Prop
  | .next, R => Ex C A env rest R Ψ
  | .brk, R => Ψ .brk R
  | .cont, R => Ψ .cont R
  | .ret v, R => Ψ (.ret v) R
theorem Ex.cons {st : Stmt} {rest : List Stmt} (h : Ex1 C A env st R (Seq C A env rest Ψ)) : Ex C A env (st :: rest) R Ψ := fun z s H t =>
  wpAny_execs_cons (h.then H t fun z' R' g f s' e H' t' d p => by
    cases d with
    | next => exact wpNo t' (p z' s' H' t') fun _ _ _ q => q.ext e
    | brk => exact ⟨z', R', _, e, H', .brk, p⟩
    | cont => exact ⟨z', R', _, e, H', .cont, p⟩
    | ret d => exact ⟨z', R', _, e, H', .ret d, p⟩)

def Sto (C : Cx) (A : Around) (env : Env) (x : Str) (v : V) (R : Led) (Φ : Led → Prop) : Prop :=
  ∀ z s u, Rel C z R s → 0 < s.toks → Den z u v → wpAny C.M A (storeName env x u) (UPost C z Φ) NoE s
theorem Sto.loc {L : Addr} {m m' : List (Str × V)} {x : Str} {v : V} {R' : Led} {Φ : Led → Prop} (hm : (L, .ns m) ∈ R) (p : Put m x v m') (u : Upd R L (.ns m) (.ns m') R') (h : Φ R')
    (hl : env.kindOf x = some .local := by rfl) (he : env.locals = L := by rfl) (hp : (env.scope.kind == .class || (env.scope.kind == .module && env.locals != env.globals)) = false := by rfl) : Sto C A env x v R Φ := fun z s w H t d => by
  obtain ⟨⟨hn, f, hN, hf⟩, _⟩ := H.res _ u.old
  refine wpAny_storeName_local hl (he ▸ hN) (fun h' hN' hs => ⟨z, R', Ext.refl _, H.upd u (he ▸ hs) (.put (h := s.heap) hn hf p (he ▸ hN') d), h⟩) hp
theorem Sto.cell {c : Addr} {x : Str} {v v₀ : V} {R' : Led} {Φ : Led → Prop} (u : Upd R c (.cell v₀) (.cell v) R') (h : Φ R')
    (hk : env.scope.kind = .function := by rfl) (hl : env.kindOf x = some .cell := by rfl) (he : env.cells.lookup x = some c := by rfl) : Sto C A env x v R Φ := fun z s w H t d => by
  obtain ⟨⟨o, hc, _⟩, _⟩ := H.res _ u.old
  exact wpAny_storeName_cell hk hl he hc fun h' hc' hs => ⟨z, R', Ext.refl _, H.upd u hs ⟨_, hc', .inr ⟨w, rfl, d⟩⟩, h⟩
theorem As.name {x : Str} {v : V} {Φ : Led → Prop} (h : Sto C A env x v R Φ) : As C A env (.Name x pos) v R Φ := fun z s u H t d => wpAny_assign_Name (h z s u H t d)
theorem Ex1.assign {x : Str} {pos' : Pos} {value : Expr} (h : Ev C A env value R fun v R₁ => Sto C A env x v R₁ fun R₂ => Ψ .next R₂)
    (hs : swapsWith value (some (.Name x pos')) pos.line env = pure false := by rfl) : Ex1 C A env (.Assign [.Name x pos'] value pos) R Ψ := fun z s H t =>
  wpAny_Assign_Name (h.then H t fun z₁ R₁ v u s₁ e₁ H₁ t₁ d₁ h₁ => wpNo t₁ (h₁ z₁ s₁ u H₁ t₁ d₁) fun _ s₂ _ ⟨z₂, R₂, e₂, H₂, p⟩ => ⟨z₂, R₂, _, e₁.trans e₂, H₂, .next, p⟩) hs

def AsL (C : Cx) (A : Around) (env : Env) : List Expr → List V → Led → (Led → Prop) → Prop
  | [], [], R, Φ => Φ R
  | e :: es, v :: vs, R, Φ => As C A env e v R fun R' => AsL C A env es vs R' Φ
  | _, _, _, _ => False
def isName : Expr → Bool
  | .Name .. => true
  | _ => false
theorem isName_is {e : Expr} (h : isName e = true) : ∃ x p, e = .Name x p := by
  cases e <;> first | exact ⟨_, _, rfl⟩ | exact nomatch (show false = true from h)
theorem assignEach_names {es : List Expr} (h : es.all isName = true) : (assignEach es env).map (·.2) = es.map (fun e => assign e env) ∧ (assignEach es env).findIdx? (·.1) = none ∧ (assignEach es env).length = es.length := by
  induction es with
  | nil => exact ⟨rfl, rfl, rfl⟩
  | cons e es ih =>
    rw [List.all_cons, Bool.and_eq_true] at h
    obtain ⟨x, p, rfl⟩ := isName_is h.1
    obtain ⟨a, b, c⟩ := ih h.2
    refine ⟨?_, ?_, ?_⟩
    · show assign (.Name x p) env :: (assignEach es env).map (·.2) = _
      rw [a]; rfl
    · show List.findIdx? _ ((false, assign (.Name x p) env) :: assignEach es env) = none
      rw [List.findIdx?_cons]
      simp [b]
    · show (assignEach es env).length + 1 = _
      rw [c]; rfl
theorem AsL.sound {Φ : Led → Prop} {es : List Expr} : ∀ {vs : List V} {us : List Value} {R : Led} {z : Fz} {s : Shared}, AsL C A env es vs R Φ → Rel C z R s → 0 < s.toks → DenL z us vs →
    wpAny C.M A (assignInOrder (es.map fun e => assign e env) us) (UPost C z Φ) NoE s := by
  induction es with
  | nil =>
    intro vs us R z s h H t ds
    cases ds with
    | nil => exact wpAny_assignInOrder_none ⟨z, R, Ext.refl _, H, h⟩
    | cons => exact h.elim
  | cons e es ih =>
    intro vs us R z s h H t ds
    cases ds with
    | nil => exact h.elim
    | cons d ds =>
      show wpAny _ _ (assignInOrder ((fun x => assign e env x) :: es.map fun e => assign e env) _) _ _ _
      refine wpAny_assignInOrder_more (As.then h H t d fun z₁ R₁ s₁ e₁ H₁ t₁ h₁ => ?_)
      exact wpNo t₁ (ih h₁ H₁ t₁ (ds.mono e₁)) fun _ _ _ p => p.ext e₁
theorem Den.tupIs {z : Fz} {s : Shared} {u : Value} {vs : List V} (H : Rel C z R s) (d : Den z u (.tup vs)) : ∃ a items, u = .ref a ∧ s.heap.IsTuple a items ∧ DenL z items.toList vs := by
  cases d with
  | tup h1 h2 h3 d => exact ⟨_, _, rfl, ⟨_, H.kept _ _ h1, h2, _, h3⟩, d⟩
theorem Den.lstIs {z : Fz} {s : Shared} {u : Value} {vs : List V} (H : Rel C z R s) (d : Den z u (.lst vs)) : ∃ a items, u = .ref a ∧ s.heap.IsList a items ∧ DenL z items.toList vs := by
  cases d with
  | lst h1 h2 h3 d => exact ⟨_, _, rfl, ⟨_, H.kept _ _ h1, h2, _, h3⟩, d⟩
theorem As.tuple {es : List Expr} {vs : List V} {k : Nat} {Φ : Led → Prop} (h : AsL C A env es vs R Φ) (hh : A.handled = none) (hn : es.all isName = true := by rfl) (hl : es.length = vs.length := by rfl) : As C A env (.Tuple es k pos) (.tup vs) R Φ := fun z s u H t d => by
  obtain ⟨a, items, rfl, ht, ds⟩ := d.tupIs H
  obtain ⟨a1, a2, a3⟩ := assignEach_names (env := env) hn
  refine wpAny_assign_Tuple hh ht (by rw [a3, hl, ← ds.length, Array.length_toList]) a2 fun h' he => ?_
  rw [a1]
  exact AsL.sound h (H.grown (t := s.toks) H.fresh H.notIn he) t ds
theorem Ex1.ite {test : Expr} {body orelse : List Stmt} (h : Ts C A env test R fun b R₁ => if b = true then Ex C A env body R₁ Ψ else Ex C A env orelse R₁ Ψ) : Ex1 C A env (.If test body orelse pos) R Ψ := fun z s H t =>
  wpAny_If (h.then H t fun z₁ R₁ b s₁ e₁ H₁ t₁ h₁ => by
    cases b with
    | false => exact wpNo t₁ (show wpAny _ _ (execs orelse env) _ _ _ from h₁ z₁ s₁ H₁ t₁) fun _ _ _ p => p.ext e₁
    | true => exact wpNo t₁ (show wpAny _ _ (execs body env) _ _ _ from h₁ z₁ s₁ H₁ t₁) fun _ _ _ p => p.ext e₁)
theorem Ex1.ret {e : Expr} (h : Ev C A env e R fun v R₁ => Ψ (.ret v) R₁) : Ex1 C A env (.Return (some e) pos) R Ψ := fun z s H t =>
  wpAny_Return_some (h.then H t fun z₁ R₁ v u s₁ e₁ H₁ t₁ d₁ h₁ => ⟨z₁, R₁, _, e₁, H₁, .ret d₁, h₁⟩)
theorem Ex1.expr {e : Expr} (h : Ev C A env e R fun v R₁ => v = .none ∧ Ψ .next R₁) (hi : interactive env = false := by rfl) (hs : swapsWith e Option.none pos.line env = pure false := by rfl) : Ex1 C A env (.Expr e pos) R Ψ := fun z s H t =>
  wpAny_Expr (h.then H t fun z₁ R₁ v u s₁ e₁ H₁ t₁ d₁ h₁ => by
    obtain ⟨rfl, h₁⟩ := h₁
    cases d₁
    exact ⟨z₁, R₁, _, e₁, H₁, .next, h₁⟩) hi hs

def Turn (I : Led → Prop) (Ψ : Fl → Led → Prop) : Fl → Led → Prop
  | .next, R => I R
  | .cont, R => I R
  | .brk, R => Ψ .next R
  | .ret v, R => Ψ (.ret v) R
end
end Mine

open PySem PySem.W PyProof.Rows PySem.Calls
set_option Elab.async false
set_option linter.unusedVariables false
namespace Mine
section
variable {C : Cx} {A : Around} {env : Env} {R : Led} {mg mb : Str → Option Value} {Φ : V → Led → Prop} {Ψ : Fl → Led → Prop} {k : Nat} {pos : Pos}

def EvL (C : Cx) (A : Around) (env : Env) (es : List Expr) (R : Led) (Φ : List V → Led → Prop) : Prop :=
  ∀ pos z s, Rel C z R s → 0 < s.toks → wpAny C.M A (spliced (backTo pos (starEach es env))) (fun us s' => ∃ z' R' vs, Ext z z' ∧ Rel C z' R' s' ∧ DenL z' us vs ∧ us.length = es.length ∧ Φ vs R') NoE s
theorem EvL.nil {Φ : List V → Led → Prop} (h : Φ [] R) : EvL C A env [] R Φ := fun pos z s H t => args_nil ⟨z, R, [], Ext.refl _, H, .nil, rfl, h⟩
theorem EvL.cons {e : Expr} {es : List Expr} {Φ : List V → Led → Prop} (h : Ev C A env e R fun v R₁ => EvL C A env es R₁ fun vs R₂ => Φ (v :: vs) R₂)
    (he : starEach (e :: es) env = (false, eval e env) :: starEach es env := by rfl) : EvL C A env (e :: es) R Φ := fun pos z s H t =>
  args_cons (h.then H t fun z₁ R₁ v u s₁ e₁ H₁ t₁ d₁ h₁ => wpNo t₁ (h₁ pos z₁ s₁ H₁ t₁) fun us s₂ _ ⟨z₂, R₂, vs, e₂, H₂, d₂, hl, p⟩ =>
    ⟨z₂, R₂, v :: vs, e₁.trans e₂, H₂, .cons (d₁.mono e₂) d₂, by simp [hl], p⟩) he

theorem Rel.pushT {z : Fz} {s : Shared} {us : List Value} {vs : List V} (H : Rel C z R s) (d : DenL z us vs) : ∃ z', Ext z z' ∧ Rel C z' R { s with heap := s.heap.push { cls := .type "tuple", data := .seq us.toArray } } ∧ Den z' (.ref s.heap.objs.size) (.tup vs) :=
  ⟨_, zput_ext H.fresh, H.push _, .tup zput_self rfl rfl (by simpa using d.mono (zput_ext H.fresh))⟩
theorem Rel.pushL {z : Fz} {s : Shared} {us : List Value} {vs : List V} (H : Rel C z R s) (d : DenL z us vs) : ∃ z', Ext z z' ∧ Rel C z' R { s with heap := s.heap.push { cls := .type "list", data := .seq us.toArray } } ∧ Den z' (.ref s.heap.objs.size) (.lst vs) :=
  ⟨_, zput_ext H.fresh, H.push _, .lst zput_self rfl rfl (by simpa using d.mono (zput_ext H.fresh))⟩
theorem Rel.pushM {z : Fz} {s : Shared} {us : List Value} {vs : List V} (H : Rel C z R s) (d : DenL z us vs) : Rel C z ((s.heap.objs.size, .list vs) :: R) { s with heap := s.heap.push { cls := .type "list", data := .seq us.toArray } } :=
  H.pushR ⟨_, _, Heap.get?_push_size _ rfl, by simpa using d⟩

theorem Ev.tuple {es : List Expr} (h : EvL C A env es R fun vs R₁ => Φ (.tup vs) R₁) (hes : es.length ≤ 1000 := by decide) : Ev C A env (.Tuple es k pos) R Φ := fun z s H t =>
  Tuple_ (wpNo t (h pos z s H t) fun us s₁ t₁ ⟨z₁, R₁, vs, e₁, H₁, d₁, hl, p⟩ => by
    obtain ⟨z₂, e₂, H₂, d₂⟩ := H₁.pushT d₁
    exact wpAny_newObj_type ⟨z₂, R₁, _, e₁.trans e₂, H₂, d₂, p⟩ (by show us.toArray.size ≤ sizeLine; rw [List.size_toArray, hl, sizeLine_eq]; omega))
theorem Ev.list {es : List Expr} (h : EvL C A env es R fun vs R₁ => Φ (.lst vs) R₁) (hes : es.length ≤ 1000 := by decide) : Ev C A env (.List es pos) R Φ := fun z s H t =>
  List_ (wpNo t (h pos z s H t) fun us s₁ t₁ ⟨z₁, R₁, vs, e₁, H₁, d₁, hl, p⟩ => by
    obtain ⟨z₂, e₂, H₂, d₂⟩ := H₁.pushL d₁
    exact wpAny_newObj_type ⟨z₂, R₁, _, e₁.trans e₂, H₂, d₂, p⟩ (by show us.toArray.size ≤ sizeLine; rw [List.size_toArray, hl, sizeLine_eq]; omega))
theorem Ev.listM {es : List Expr} (h : EvL C A env es R fun vs R₁ => ∀ a, Φ (.ref a) ((a, .list vs) :: R₁)) (hes : es.length ≤ 1000 := by decide) : Ev C A env (.List es pos) R Φ := fun z s H t =>
  List_ (wpNo t (h pos z s H t) fun us s₁ t₁ ⟨z₁, R₁, vs, e₁, H₁, d₁, hl, p⟩ =>
    wpAny_newObj_type ⟨z₁, _, _, e₁, H₁.pushM d₁, .ref _, p _⟩ (by show us.toArray.size ≤ sizeLine; rw [List.size_toArray, hl, sizeLine_eq]; omega))

def Kpr (C : Cx) (R : Led) (f : V) : Prop := ∀ z s u, Rel C z R s → Den z u f → ∃ k, (k = Keeper.frame ∨ k = Keeper.machine ∨ k = Keeper.boundFrame) ∧ Looks C.M s.heap (keeperOf u) k
theorem Kpr.bi {id : String} : Kpr C R (.bi id) := fun z s u H d => by cases d; exact ⟨.machine, .inr (.inl rfl), .now⟩
theorem Kpr.ty {id : String} : Kpr C R (.ty id) := fun z s u H d => by cases d; exact ⟨.machine, .inr (.inl rfl), .now⟩
theorem Kpr.fn {a : Addr} {o : Obj} {fd : FuncData} (ho : C.B.get? a = some o) (hd : o.data = .func fd) : Kpr C R (.ref a) := fun z s u H d => by
  cases d
  exact ⟨.frame, .inl rfl, (Looks.ld (part := Option.none) (H.keepB _ _ ho)).andThen (by rw [hd]; exact .now)⟩
theorem Kpr.cls {K : Frag} {a : Addr} (X : K.In C.B) (hk : keepIn K (.ref a) = true) : Kpr C R (.ref a) := fun z s u H d => by
  cases d
  exact keeps_K hk _ (X.keeps H.keepB)
def plainArgs (es : List Expr) : Bool := es.all fun | .Starred .. => false | _ => true
theorem starEach_plain : ∀ {es : List Expr}, plainArgs es = true → (starEach es env).any (·.1) = false
  | [], _ => rfl
  | e :: es, h => by
    have h2 : plainArgs es = true := by
      unfold plainArgs at h ⊢
      simp only [List.all_cons, Bool.and_eq_true] at h
      exact h.2
    have ih := starEach_plain (es := es) h2
    cases e <;> first | (simp [plainArgs] at h; done) | (show (false || (starEach es env).any (·.1)) = false; rw [ih]; rfl)
theorem backTo_plain {es : List Expr} (h : plainArgs es = true) : (backTo pos (starEach es env)).any (·.1) = false := by
  have := starEach_plain (env := env) h
  unfold backTo
  rw [List.any_map]
  exact this
theorem starEach_cons {e : Expr} {es : List Expr} (h : plainArgs (e :: es) = true) : starEach (e :: es) env = (false, eval e env) :: starEach es env := by
  cases e <;> first | (simp [plainArgs] at h; done) | rfl
theorem evalArgs_of {f : Value} {es : List Expr} {M : Model} {E : Value → Shared → Prop} {s : Shared} {Q : Args → Shared → Prop} (hp : plainArgs es = true) (h : wpAny M A (spliced (backTo pos (starEach es env))) (fun us s' => Q ⟨us, []⟩ s') E s) :
    wpAny M A (evalArgs f true (backTo pos (starEach es env)) []) Q E s := by
  cases es with
  | nil =>
    unfold evalArgs
    show wpAny M A (spliced [] >>= _) Q E s
    refine wpAny_bind (wpAny_mono (show wpAny M A (spliced []) _ E s from h) (fun us s' q => wpAny_bind (wpAny_pure ?_)) fun _ _ x => x)
    refine wpAny_holding ?_
    exact wpAny_bind (wpAny_pure (wpAny_bind (wpAny_pure (wpAny_pure q))))
  | cons e es =>
    rw [starEach_cons hp] at h ⊢
    exact evalArgs_plain h

theorem Ev.callN {x : Str} {np : Pos} {args : List Expr} (h : Ev C A env (.Name x np) R fun f R₁ => EvL C A env args R₁ fun vs R₂ => Kpr C R₂ f ∧ Cl C A f vs R₂ Φ) (hp : plainArgs args = true := by rfl) :
    Ev C A env (.Call (.Name x np) args [] pos) R Φ := fun z s H t =>
  wpAny_Call_ofName (h.then H t fun z₁ R₁ f u s₁ e₁ H₁ t₁ d₁ h₁ => by
    refine callWith_of (P := fun h => ∃ k, (k = Keeper.frame ∨ k = Keeper.machine ∨ k = Keeper.boundFrame) ∧ Looks C.M h (keeperOf u) k) ?_ (fun _ p => p) (evalArgs_of hp (wpNo t₁ (h₁ pos z₁ s₁ H₁ t₁) fun us s₂ t₂ ⟨z₂, R₂, vs, e₂, H₂, d₂, hl, hk, p⟩ => ⟨hk _ _ _ H₂ (d₁.mono e₂), ?_⟩))
    · rw [backTo_plain hp]; rfl
    · exact p.then H₂ t₂ (d₁.mono e₂) d₂ fun z₃ R₃ v u' s₃ e₃ H₃ t₃ d₃ p₃ => ⟨z₃, R₃, v, (e₁.trans e₂).trans e₃, H₃, d₃, p₃⟩)

structure MethOf (T : String) (name : Str) (id : String) : Prop where
  pa : PlainAttrs T
  slot : Slot T name id
  ty : typeOf (.builtin id) = pure (.type "method_descriptor")
def TyIs (C : Cx) (R : Led) (T : String) (v : V) : Prop := ∀ z s u, Rel C z R s → Den z u v → s.TypeIs u T ∧ ∀ a, u = .ref a → ∃ ob, s.heap.get? a = some ob ∧ ob.dict = none
theorem TyIs.str {x : Str} : TyIs C R "str" (.str x) := fun z s u H d => by cases d; exact ⟨typeIs_str _ _ _, fun a e => nomatch e⟩
theorem TyIs.listM {a : Addr} {vs : List V} (h : (a, .list vs) ∈ R) : TyIs C R "list" (.ref a) := fun z s u H d => by
  cases d
  obtain ⟨⟨it, n, h1, _⟩, _⟩ := H.res _ h
  exact ⟨⟨_, h1, rfl⟩, fun b e => by cases e; exact ⟨_, h1, rfl⟩⟩
theorem Ev.meth {o : Expr} {name : Str} {apos : Pos} {args : List Expr} {T id : String} (m : MethOf T name id)
    (h : Ev C A env o R fun ov R₁ => TyIs C R₁ T ov ∧ EvL C A env args R₁ fun vs R₂ => Cl C A (.bi id) (ov :: vs) R₂ Φ)
    (hbase : attributeBase o name env (eval o env) = eval o env := by rfl) (hp : plainArgs args = true := by rfl)
    (hfew : ((backTo pos (starEach args env)).all (fun x => !x.1) && (backToKw pos (keywordEach [] env)).all (fun x => x.1.isSome) && decide (args.length + ([] : List Keyword).length + (if ([] : List Keyword).isEmpty then 0 else 1) < 30)) = true := by rfl)
    (hline : (apos.endLine == pos.line) = true := by rfl) : Ev C A env (.Call (.Attribute o name apos) args [] pos) R Φ := fun z s H t =>
  wpAny_Call_method hbase hfew hline m.pa m.slot m.ty (h.then H t fun z₁ R₁ ov u s₁ e₁ H₁ t₁ d₁ ⟨ht, h₁⟩ => by
    obtain ⟨a1, a2⟩ := ht _ _ _ H₁ d₁
    refine ⟨a1, a2, callWith_builtin (backTo_plain hp) (evalArgs_of hp (wpNo t₁ (h₁ pos z₁ s₁ H₁ t₁) fun us s₂ t₂ ⟨z₂, R₂, vs, e₂, H₂, d₂, hl, p⟩ => ?_))⟩
    exact p.then H₂ t₂ (.bi id) (.cons (d₁.mono e₂) d₂) fun z₃ R₃ v u' s₃ e₃ H₃ t₃ d₃ p₃ => ⟨z₃, R₃, v, (e₁.trans e₂).trans e₃, H₃, d₃, p₃⟩)
end
end Mine

open PySem PySem.W PyProof.Rows PySem.Calls
set_option Elab.async false
set_option linter.unusedVariables false
namespace Mine
section
variable {C : Cx} {A : Around} {env : Env} {R : Led} {mg mb : Str → Option Value} {Φ : V → Led → Prop} {Ψ : Fl → Led → Prop} {k : Nat} {pos : Pos}

theorem Op2.addI {a b : Int} (h : Φ (.int (a + b)) R) : Op2 C A .Add (.int a) (.int b) R Φ := fun z s u v H t d e => by
  cases d; cases e; exact add_int (.mk (H.toks _) (.int _ _) h)
theorem Op2.subI {a b : Int} (h : Φ (.int (a - b)) R) : Op2 C A .Sub (.int a) (.int b) R Φ := fun z s u v H t d e => by
  cases d; cases e; exact sub_int (.mk (H.toks _) (.int _ _) h)
theorem Op2.modI {a b : Int} (hb : b ≠ 0) (h : Φ (.int (a.fmod b)) R) : Op2 C A .Mod (.int a) (.int b) R Φ := fun z s u v H t d e => by
  cases d; cases e; exact mod_int' hb (.mk (H.toks _) (.int _ _) h)
theorem Op2.addS {x y : Str} (hl : x.length + y.length ≤ 16777216) (h : Φ (.str (x ++ y)) R) : Op2 C A .Add (.str x) (.str y) R Φ := fun z s u v H t d e => by
  cases d; cases e; exact SBL.add (fun _ _ _ => .mk (H.toks _) (.str _ _) h) (by rw [sizeLine_eq]; exact hl)
inductive LstOf (R : Led) : V → List V → Prop where
  | lst {vs : List V} : LstOf R (.lst vs) vs
  | ref {a : Addr} {vs : List V} : (a, .list vs) ∈ R → LstOf R (.ref a) vs
theorem LstOf.is {z : Fz} {s : Shared} {u : Value} {v : V} {vs : List V} (l : LstOf R v vs) (H : Rel C z R s) (d : Den z u v) : ∃ a items, u = .ref a ∧ s.heap.IsList a items ∧ DenL z items.toList vs := by
  cases l with
  | lst => exact d.lstIs H
  | ref h =>
    cases d
    obtain ⟨it, a, b⟩ := H.list h
    exact ⟨_, it, rfl, a, b⟩
theorem Op2.addL {a b : V} {vs ws : List V} (ha : LstOf R a vs) (hb : LstOf R b ws) (hl : vs.length + ws.length ≤ 16777216) (h : Φ (.lst (vs ++ ws)) R) : Op2 C A .Add a b R Φ := fun z s u v H t d e => by
  obtain ⟨l, its, rfl, h1, d1⟩ := ha.is H d
  obtain ⟨m, its2, rfl, h2, d2⟩ := hb.is H e
  obtain ⟨⟨cls, dd, data, sl⟩, ho, hc, n, hd⟩ := id h1
  obtain ⟨⟨cls2, dd2, data2, sl2⟩, ho2, hc2, n2, hd2⟩ := id h2
  simp only at hc hd hc2 hd2
  subst hc hd hc2 hd2
  have hz : its.size + its2.size ≤ sizeLine := by rw [sizeLine_eq, ← Array.length_toList, ← Array.length_toList, d1.length, d2.length]; exact hl
  refine concat_meets ⟨_, ho, rfl⟩ ⟨_, ho2, rfl⟩ noFill_list_add seq_list_add PySem.F.slot_list_add PySem.F.entry_list_add (PySem.F.args_list_add_2 _ _) (list_addW l m its its2 n n2 dd dd2 sl sl2 (by simpa using hz)) ⟨ho, ho2, ?_⟩
  obtain ⟨z', e', H', d'⟩ := H.pushL (d1.append d2)
  have q : (its.toList ++ its2.toList).toArray = its ++ its2 := by simp
  rw [q] at H'
  exact ⟨z', R, _, e', H', d', h⟩

section
variable {Φ : Bool → Led → Prop}
theorem bp {z : Fz} {s : Shared} {b : Bool} (H : Rel C z R s) (h : Φ b R) : ∃ b', Value.bool b = .bool b' ∧ BPost C z Φ b' s := ⟨b, rfl, z, R, Ext.refl _, H, h⟩
theorem Cmp.eqI {a b : Int} (h : Φ (a == b) R) : Cmp C A .Eq (.int a) (.int b) R Φ := fun z s u v H t d e => by cases d; cases e; exact eq_int (bp H h)
theorem Cmp.neI {a b : Int} (h : Φ (a != b) R) : Cmp C A .NotEq (.int a) (.int b) R Φ := fun z s u v H t d e => by cases d; cases e; exact ne_int (bp H h)
theorem Cmp.ltI {a b : Int} (h : Φ (decide (a < b)) R) : Cmp C A .Lt (.int a) (.int b) R Φ := fun z s u v H t d e => by cases d; cases e; exact lt_int (bp H h)
theorem Cmp.gtI {a b : Int} (h : Φ (decide (a > b)) R) : Cmp C A .Gt (.int a) (.int b) R Φ := fun z s u v H t d e => by cases d; cases e; exact gt_int (bp H h)
theorem Cmp.eqS {x y : Str} (h : Φ (x == y) R) : Cmp C A .Eq (.str x) (.str y) R Φ := fun z s u v H t d e => by cases d; cases e; exact eq_str (bp H h)
theorem Cmp.neS {x y : Str} (h : Φ (x != y) R) : Cmp C A .NotEq (.str x) (.str y) R Φ := fun z s u v H t d e => by cases d; cases e; exact ne_str (bp H h)
theorem Cmp.inS {x y : Str} (h : Φ (!(Builtin.Str.occurrences x y 0 x.length 1).isEmpty) R) : Cmp C A .In (.str y) (.str x) R Φ := fun z s u v H t d e => by cases d; cases e; exact in_str (bp H h)
end
theorem Ev.sub {value slice : Expr} (h : Ev C A env value R fun o R₁ => Ev C A env slice R₁ fun i R₂ => ∀ z s u v, Rel C z R₂ s → 0 < s.toks → Den z u o → Den z v i → wpAny C.M A (subscriptTail value slice u v) (VPost C z Φ) NoE s) : Ev C A env (.Subscript value slice pos) R Φ := fun z s H t =>
  Subscript_ (h.then H t fun z₁ R₁ a u s₁ e₁ H₁ t₁ d₁ h₁ => h₁.then H₁ t₁ fun z₂ R₂ b v s₂ e₂ H₂ t₂ d₂ h₂ =>
    wpNo t₂ (h₂ z₂ s₂ u v H₂ t₂ (d₁.mono e₂) d₂) fun _ _ _ p => p.ext (e₁.trans e₂))
def Itm (C : Cx) (A : Around) (o i : V) (R : Led) (Φ : V → Led → Prop) : Prop := ∀ z s u v, Rel C z R s → 0 < s.toks → Den z u o → Den z v i → (∃ T id, s.TypeIs u T ∧ typeLookup (.type T) "__getitem__" = pure (some (.builtin id))) ∧ wpAny C.M A (getItem u v) (VPost C z Φ) NoE s
theorem Ev.item {value slice : Expr} (h : Ev C A env value R fun o R₁ => Ev C A env slice R₁ fun i R₂ => Itm C A o i R₂ Φ)
    (hs : ∀ o i, subscripted slice false o i = operate [o, i] (getItem o i) := by intro _ _; with_unfolding_all rfl) : Ev C A env (.Subscript value slice pos) R Φ :=
  Ev.sub (h.mono fun o R₁ h₁ => h₁.mono fun i R₂ h₂ z s u v H t d e => by
    obtain ⟨⟨T, id, h3, h4⟩, h5⟩ := h₂ z s u v H t d e
    exact tail_any h3 h4 h5 (hs u v))
theorem Itm.lst {v : V} {vs : List V} {i : Int} {w : V} (l : LstOf R v vs) (h0 : 0 ≤ i) (h1 : vs[i.toNat]? = some w) (h : Φ w R) (hi : i < 2 ^ 63) : Itm C A v (.int i) R Φ := fun z s u v' H t d e => by
  cases e
  obtain ⟨a, its, rfl, h2, d2⟩ := l.is H d
  obtain ⟨x, h3, d3⟩ := d2.get h1
  exact ⟨⟨"list", _, h2.typeIs, slot_list_getitem.lookup⟩, wpAny_getItem_list h2 h0 hi (by simpa using h3) (.mk H d3 h)⟩
def EvO (C : Cx) (A : Around) (env : Env) : Option Expr → Led → (Option Int → Led → Prop) → Prop
  | .none, R, Φ => Φ .none R
  | some e, R, Φ => Ev C A env e R fun v R₁ => ∃ i, v = .int i ∧ Φ (some i) R₁
def OPart (u : Value) (i : Option Int) : Prop := match i with
  | .none => u = .none
  | some i => ∃ t, u = .int i t
theorem EvO.then {e : Option Expr} {Φ : Option Int → Led → Prop} {Q : Value → Shared → Prop} {z : Fz} {s : Shared} (h : EvO C A env e R Φ) (H : Rel C z R s) (t : 0 < s.toks)
    (k : ∀ z' R' v u s', Ext z z' → Rel C z' R' s' → 0 < s'.toks → OPart u v → Φ v R' → Q u s') : wpAny C.M A (evalPart e env) Q NoE s := by
  cases e with
  | none => exact evalPart_none_step (k z R .none .none s (Ext.refl _) H t rfl h)
  | some e => exact evalPart_some_step (Ev.then h H t fun z' R' v u s' e' H' t' d p => by
      obtain ⟨i, rfl, p⟩ := p
      cases d
      exact k z' R' (some i) _ s' e' H' t' ⟨_, rfl⟩ p)
def Sli (C : Cx) (A : Around) (o : V) (l u : Option Int) (R : Led) (Φ : V → Led → Prop) : Prop := ∀ z s v vl vu, Rel C z R s → 0 < s.toks → Den z v o → OPart vl l → OPart vu u →
  (∃ T id, s.TypeIs v T ∧ typeLookup (.type T) "__getitem__" = pure (some (.builtin id))) ∧ wpAny C.M A (getItem v (.ref s.heap.objs.size)) (VPost C z Φ) NoE { s with heap := s.heap.push { cls := .type "slice", data := .fields #[vl, vu, .none] } }
theorem TypeIs.push {s : Shared} {v : Value} {T : String} {o : Obj} (h : s.TypeIs v T) : ({ s with heap := s.heap.push o } : Shared).TypeIs v T := by
  cases v <;> first | exact h | (obtain ⟨o', h1, h2⟩ := h; exact ⟨o', Heap.get?_push_of_some _ h1, h2⟩)
theorem Ev.slice {value : Expr} {l u : Option Expr} {p : Pos} (h : Ev C A env value R fun o R₁ => EvO C A env l R₁ fun l' R₂ => EvO C A env u R₂ fun u' R₃ => Sli C A o l' u' R₃ Φ) :
    Ev C A env (.Subscript value (.Slice l u Option.none p) pos) R Φ := fun z s H t =>
  Subscript_ (h.then H t fun z₁ R₁ a v s₁ e₁ H₁ t₁ d₁ h₁ => wpAny_Slice (EvO.then h₁ H₁ t₁ fun z₂ R₂ l' vl s₂ e₂ H₂ t₂ p₂ h₂ => EvO.then h₂ H₂ t₂ fun z₃ R₃ u' vu s₃ e₃ H₃ t₃ p₃ h₃ =>
    evalPart_none_step (by
      obtain ⟨⟨T, id, h4, h5⟩, h6⟩ := h₃ z₃ s₃ v vl vu H₃ t₃ (d₁.mono (e₂.trans e₃)) p₂ p₃
      exact tail_any (TypeIs.push h4) h5 (wpNo (s := { s₃ with heap := _ }) t₃ h6 fun _ _ _ q => q.ext ((e₁.trans e₂).trans e₃)) (by with_unfolding_all rfl))))
end
end Mine

open PySem PySem.W PyProof.Rows PySem.Calls
set_option Elab.async false
set_option linter.unusedVariables false
namespace Mine
section
variable {C : Cx} {A : Around} {env : Env} {R : Led} {mg mb : Str → Option Value} {Φ : V → Led → Prop} {Ψ : Fl → Led → Prop} {k : Nat} {pos : Pos}

inductive Bnd : List Str → List V → List Str → List (Str × V) → Prop where
  | nil : Bnd [] [] [] []
  | rest {x : Str} {r : List Str} {m : List (Str × V)} : Bnd [] [] r m → Bnd [] [] (x :: r) ((x, .any) :: m)
  | cons {x : Str} {v : V} {ns : List Str} {vs : List V} {r : List Str} {m : List (Str × V)} : Bnd ns vs r m → Bnd (x :: ns) (v :: vs) r ((x, v) :: m)
theorem Bnd.keys {ns r : List Str} {vs : List V} {m : List (Str × V)} (b : Bnd ns vs r m) : m.map (·.1) = ns ++ r ∧ vs.length = ns.length := by
  induction b with
  | nil => exact ⟨rfl, rfl⟩
  | rest _ ih => exact ⟨by simp [ih.1], rfl⟩
  | cons _ ih => exact ⟨by simp [ih.1], by simp [ih.2]⟩
theorem Bnd.mem {z : Fz} {ns r : List Str} {vs : List V} {m : List (Str × V)} (b : Bnd ns vs r m) : ∀ {us : List Value}, DenL z us vs → ∀ p ∈ m, p.2 = .any ∨ ∃ u, (p.1, u) ∈ ns.zip us ∧ Den z u p.2 := by
  induction b with
  | nil => intro us _ p hp; cases hp
  | rest _ ih =>
    intro us d p hp
    rcases List.mem_cons.mp hp with rfl | hp
    · exact .inl rfl
    · cases d; exact ih .nil p hp
  | cons _ ih =>
    intro us d p hp
    cases d with
    | cons d1 d2 =>
      rcases List.mem_cons.mp hp with rfl | hp
      · exact .inr ⟨_, .head _, d1⟩
      · exact (ih d2 p hp).imp id fun ⟨u, a, b⟩ => ⟨u, .tail _ a, b⟩
theorem lookup_of_mem {ps : List (Str × Value)} {x : Str} {u : Value} (hn : (ps.map (·.1)).Nodup) (h : (x, u) ∈ ps) : ps.lookup x = some u := by
  induction ps with
  | nil => cases h
  | cons p r ih =>
    obtain ⟨y, w⟩ := p
    rw [List.lookup_cons]
    rcases List.mem_cons.mp h with e | h
    · cases e; simp
    · have : x ≠ y := fun e => (List.nodup_cons.mp hn).1 (by
        have q := List.mem_map_of_mem (f := (·.1)) h
        dsimp only at q ⊢
        rw [← e]; exact q)
      rw [beq_eq_false_iff_ne.mpr this]
      exact ih (List.nodup_cons.mp hn).2 h
theorem zip_keys : ∀ {ns : List Str} {us : List Value}, us.length = ns.length → (ns.zip us).map (·.1) = ns
  | [], [], _ => rfl
  | _ :: ns, _ :: us, h => by simp [zip_keys (ns := ns) (us := us) (by simpa using h)]

def fenv (fd : FuncData) (f L : Addr) : Env :=
  { scope := fd.scope, locals := L, globals := fd.globals, cells := fd.closure, qual := fd.qualname ++ ".<locals>.", func := some f, code := fd.code, frame := some L, builtins := fd.builtins }
def Fl.val : Fl → V
  | .ret v => v
  | _ => .none
def Back (Φ : V → Led → Prop) : Fl → Led → Prop := fun f R' => ∃ R'', Wk R' R'' ∧ Φ f.val R''

structure FnAt (C : Cx) (f : Addr) (fd : FuncData) (body : List Stmt) (ns : List Str) : Prop where
  at_ : ∃ o, C.B.get? f = some o ∧ o.data = .func fd
  body : fd.body = .stmts body
  code : C.B.CodeRec fd.code fd.qualname
  co : fd.scope.isCoroutine = false
  gen : fd.scope.isGenerator = false
  kind : fd.scope.kind = .function
  bind : ∀ us : List Value, us.length = ns.length → bindArgs fd ⟨us, []⟩ = pure (ns.zip us)
def CRes (C : Cx) (z : Fz) (Φ : V → Led → Prop) (r : Result) (s' : Shared) : Prop := match r with
  | .ok (.ret v) => VPost C z Φ v s'
  | .ok _ => False
  | .error e => NoE e s'
def ClC (C : Cx) (A : Around) (f : V) (vs : List V) (R : Led) (Φ : V → Led → Prop) : Prop :=
  ∀ z s u us, Rel C z R s → 0 < s.toks → Den z u f → DenL z us vs → codeAny C.M A (.call u ⟨us, []⟩) (CRes C z Φ) s
theorem ClC.cl {f : V} {vs : List V} (h : ClC C A f vs R Φ) : Cl C A f vs R Φ := fun z s u us H t d ds =>
  wpAny_call (codeAny_mono (h z s u us H t d ds) fun r s' p => by
    rcases r with e | (_ | _ | _ | v)
    · exact p
    · exact p
    · exact p
    · exact p
    · exact p)
theorem fn_raw {f : Addr} {fd : FuncData} {body : List Stmt} {ns r : List Str} {vs : List V} {m : List (Str × V)} {z : Fz} {s : Shared} {us : List Value} (G : GX C mg mb) (F : FnAt C f fd body ns) (b : Bnd ns vs r m) (hn : (ns ++ r).Nodup) (hd : A.depth < recursionLimit)
    (hc : ∀ x ∈ fd.scope.names, x.2 ≠ .cell) (hl : ∀ x ∈ ns, fd.scope.names.lookup x = some .local)
    (h : ∀ L, Ex C (A.deeper (fenv fd f L)) (fenv fd f L) body ((L, .ns m) :: R) (Back Φ)) (H : Rel C z R s) (t : 0 < s.toks + (ns.zip us).length) (ds : DenL z us vs) : codeAny C.M A (.call (.ref f) ⟨us, []⟩) (CRes C z Φ) s := by
  obtain ⟨o, ho, hdat⟩ := F.at_
  have hlen : us.length = ns.length := ds.length.trans b.keys.2
  refine codeAny_call_function hd (H.keepB _ _ ho) hdat F.co F.gen F.body (F.code.keeps H.keepB) ?_
  rw [F.bind us hlen]
  refine wpAny_pure (wpAny_newFunctionEnv hc (fun x hx => hl x.1 ?_) (fun h' hN hs => ⟨?_, ?_⟩) F.kind)
  · have := List.mem_map_of_mem (f := (·.1)) hx
    rwa [zip_keys hlen] at this
  · exact G.nolimit.keeps fun b o e => hs.extBut b o (Nat.ne_of_lt (Heap.lt_size (H.keepB _ _ e))) (Heap.get?_push_of_some _ (H.keepB _ _ e))
  · show codeAny _ _ (.func body (fenv fd f s.heap.objs.size)) _ _
    have hk : Heap.ExtBut s.heap.objs.size s.heap h' := fun b o hb e => hs.extBut b o hb (Heap.get?_push_of_some _ e)
    have hnz : ((ns.zip us).map (·.1)).Nodup := by rw [zip_keys hlen]; exact (List.nodup_append.mp hn).1
    have hr : ResAt z h' s.heap.objs.size (.ns m) := ⟨b.keys.1 ▸ hn, _, hN, fun p hp => (b.mem ds p hp).imp id fun ⟨u, a, c⟩ => ⟨u, by
      have := lookup_of_mem (ps := (ns.zip us).reverse) (x := p.1) (u := u) (by rw [List.map_reverse]; exact (List.reverse_perm _).nodup_iff.mpr hnz) (List.mem_reverse.mpr a)
      exact this, c⟩⟩
    have H' := H.more (t := s.toks + (ns.zip us).length) hr H.fresh H.notIn hk
    refine codeAny_func (wpNo t (h _ z _ H' t) fun fl s' t' ⟨z', R', g, e', H'', d', R'', wk, p⟩ => ?_)
    refine ⟨z', R'', g.val, e', H''.wk wk, ?_, p⟩
    cases d' with
    | ret d => exact d
    | next => exact .none
    | brk => exact .none
    | cont => exact .none
theorem ClC.fn {f : Addr} {fd : FuncData} {body : List Stmt} {ns r : List Str} {vs : List V} {m : List (Str × V)} (G : GX C mg mb) (F : FnAt C f fd body ns) (b : Bnd ns vs r m) (hn : (ns ++ r).Nodup) (hd : A.depth < recursionLimit)
    (hc : ∀ x ∈ fd.scope.names, x.2 ≠ .cell) (hl : ∀ x ∈ ns, fd.scope.names.lookup x = some .local)
    (h : ∀ L, Ex C (A.deeper (fenv fd f L)) (fenv fd f L) body ((L, .ns m) :: R) (Back Φ)) : ClC C A (.ref f) vs R Φ := fun z s u us H t d ds => by
  cases d
  exact fn_raw G F b hn hd hc hl h H (Nat.lt_of_lt_of_le t (Nat.le_add_right _ _)) ds

theorem letGo_name {x : Str} {p : Pos} {it v : Value} {M : Model} {s : Shared} {E : Value → Shared → Prop} {Q : Unit → Shared → Prop} (h : Q () s) : wpAny M A (letOwnedTupleGo (.Name x p) it v) Q E s := wpAny_pure h
theorem Ex1.forL {target iter : Expr} {body orelse : List Stmt} (I : List V → Led → Prop) (hh : A.handled = none)
    (h : Ev C A env iter R fun v R₁ => ∃ vs, v = .lst vs ∧ I vs R₁)
    (turn : ∀ it o v rest R, I (v :: rest) R → As C A env target v ((it, .obj o) :: R) fun R₁ => Ex C A env body R₁ (Turn (fun R₂ => ∃ R₃, Wk R₂ ((it, .obj o) :: R₃) ∧ I rest R₃) fun f R₂ => ∃ R₃, Wk R₂ R₃ ∧ Ψ f R₃))
    (fin : ∀ R, I [] R → Ex C A env orelse R Ψ)
    (hs : ∀ x, foldedSetIterable iter env x = pure x := by intro _; rfl) (ht : (∃ x p, target = .Name x p) ∨ ∃ es k p, target = .Tuple es k p := by first | exact .inl ⟨_, _, rfl⟩ | exact .inr ⟨_, _, _, rfl⟩) : Ex1 C A env (.For target iter body orelse pos) R Ψ := fun z s H t => by
  refine wpAny_For (h.then H t fun z₁ R₁ v u s₁ e₁ H₁ t₁ d₁ h₁ => ?_) hs
  obtain ⟨vs, rfl, hI⟩ := h₁
  cases d₁ with
  | @lst a ol items n _ hz hc hdat ds =>
    have hl : s₁.heap.IsList a items := ⟨ol, H₁.kept _ _ hz, hc, n, hdat⟩
    refine wpAny_pyIter_list hl ?_
    have Hp : Rel C z₁ ((s₁.heap.objs.size, .obj { cls := .type "list_iterator", data := .fields #[.ref a, .int 0 0] }) :: R₁) { s₁ with heap := s₁.heap.push { cls := .type "list_iterator", data := .fields #[.ref a, .int 0 0] } } := H₁.pushR (r := .obj _) (Heap.get?_push_size _ rfl)
    refine codeAny_forLoop_any (fun n s' => ∃ z' R' i o, n = vs.length - i ∧ i ≤ vs.length ∧ Ext z₁ z' ∧ 0 < s'.toks ∧ Rel C z' ((s₁.heap.objs.size, .obj o) :: R') s' ∧ o.cls = .type "list_iterator" ∧ o.data = .fields #[.ref a, .int (i : Nat) 0] ∧ I (vs.drop i) R') ?_ (vs.length) ⟨z₁, R₁, 0, _, rfl, Nat.zero_le _, Ext.refl _, t₁, Hp, rfl, rfl, by simpa using hI⟩
    rintro n s' ⟨z', R', i, o, hn, hi, e', t', H', oc, od, hI'⟩
    have hit : s'.heap.IsListIter s₁.heap.objs.size a i := ⟨o, (H'.res _ (.head _)).1, oc, od⟩
    have hl' : s'.heap.IsList a items := ⟨ol, H'.kept _ _ (e' _ _ hz), hc, _, hdat⟩
    have ds' := ds.mono e'
    have hsz : items.size = vs.length := by rw [← Array.length_toList]; exact ds.length
    have hne : s₁.heap.objs.size ∉ R'.map (·.1) := (List.nodup_cons.mp H'.nodup).1
    have hz0 : z' s₁.heap.objs.size = none := (H'.res _ (.head _)).2
    by_cases hlt : i < vs.length
    · obtain ⟨x, hx, dx⟩ := ds'.get (i := i) (y := vs[i]) (by simp [hlt])
      refine wpAny_pyNext_list_item hit hl' (x := x) (by simpa using hx) fun h₂ hit₂ hs₂ => ?_
      obtain ⟨o₂, ho₂, oc₂, od₂⟩ := id hit₂
      have H₂ : Rel C z' ((s₁.heap.objs.size, .obj o₂) :: R') { s' with heap := h₂ } := H'.upd (t := s'.toks) .here hs₂ ho₂
      have hdr : vs.drop i = vs[i] :: vs.drop (i + 1) := List.drop_eq_getElem_cons hlt
      rw [hdr] at hI'
      have T := turn s₁.heap.objs.size o₂ _ _ _ hI'
      have main : wpAny C.M A (PySem.assign target env x) (fun _ s₂ => wpAny C.M A (execs body env) (fun f s₃ => match f with
          | .next | .cont => ∃ m, m < n ∧ (∃ z' R' i o, m = vs.length - i ∧ i ≤ vs.length ∧ Ext z₁ z' ∧ 0 < s₃.toks ∧ Rel C z' ((s₁.heap.objs.size, .obj o) :: R') s₃ ∧ o.cls = .type "list_iterator" ∧ o.data = .fields #[.ref a, .int (i : Nat) 0] ∧ I (vs.drop i) R')
          | .brk => FPost C z Ψ .next s₃
          | .ret v => FPost C z Ψ (.ret v) s₃) NoE s₂) NoE { s' with heap := h₂ } := by
        refine T.then H₂ t' dx fun z₃ R₃ s₃ e₃ H₃ t₃ h₃ => h₃.then H₃ t₃ fun z₄ R₄ g f s₄ e₄ H₄ t₄ d₄ h₄ => ?_
        have eall : Ext z₁ z₄ := (e'.trans e₃).trans e₄
        cases d₄ with
        | next => obtain ⟨R₅, wk, hI₅⟩ := h₄; exact ⟨vs.length - (i + 1), by omega, z₄, R₅, i + 1, o₂, rfl, hlt, eall, t₄, H₄.wk wk, oc₂, od₂, hI₅⟩
        | cont => obtain ⟨R₅, wk, hI₅⟩ := h₄; exact ⟨vs.length - (i + 1), by omega, z₄, R₅, i + 1, o₂, rfl, hlt, eall, t₄, H₄.wk wk, oc₂, od₂, hI₅⟩
        | brk => obtain ⟨R₅, wk, p⟩ := h₄; exact ⟨z₄, R₅, _, e₁.trans eall, H₄.wk wk, .next, p⟩
        | ret d => obtain ⟨R₅, wk, p⟩ := h₄; exact ⟨z₄, R₅, _, e₁.trans eall, H₄.wk wk, .ret d, p⟩
      have main2 : wpAny C.M A (PySem.assign target env x) (fun _ s₂ => wpAny C.M A (execs body env) (fun f s₃ => match f with
          | .next | .cont => ∃ m, m < n ∧ (∃ z' R' i o, m = vs.length - i ∧ i ≤ vs.length ∧ Ext z₁ z' ∧ 0 < s₃.toks ∧ Rel C z' ((s₁.heap.objs.size, .obj o) :: R') s₃ ∧ o.cls = .type "list_iterator" ∧ o.data = .fields #[.ref a, .int (i : Nat) 0] ∧ I (vs.drop i) R')
          | .brk => FPost C z Ψ .next s₃
          | .ret v => FPost C z Ψ (.ret v) s₃) (notedBy C.M A env fun e s' => cameBackBy C.M A env NoE e s') s₂) (notedBy C.M A env fun e s' => cameBackBy C.M A env NoE e s') { s' with heap := h₂ } :=
        wpAny_mono main (fun _ s₂ q => wpAny_mono q (fun f s₃ r => r) fun _ _ x => x.elim) fun _ _ x => x.elim
      dsimp only
      rcases ht with ⟨y, p, rfl⟩ | ⟨es, k, p, rfl⟩
      · exact letGo_name main2
      · cases x with
        | ref T => exact wpAny_letOwnedTupleGo_listiter hit₂ main2
        | _ => exact wpAny_pure main2
    · refine wpAny_pyNext_list_end hh hit hl' (by simp; omega) fun h₂ he₂ => ?_
      have hnil : vs.drop i = [] := by simp; omega
      rw [hnil] at hI'
      have H₂ : Rel C z' R' { s' with heap := h₂ } := (H'.tail).grown (t := s'.toks) hz0 hne he₂
      exact wpNo (s := { s' with heap := h₂ }) t' (fin R' hI' z' _ H₂ t') fun f s₃ _ p => p.ext (e₁.trans e')
end
end Mine

open PySem PySem.W PyProof.Rows PySem.Calls
set_option Elab.async false
set_option linter.unusedVariables false
namespace Mine
section
variable {C : Cx} {A : Around} {env : Env} {R : Led} {mg mb : Str → Option Value} {Φ : V → Led → Prop} {Ψ : Fl → Led → Prop} {k : Nat} {pos : Pos}

inductive PutA (m : List (Str × V)) (x : Str) (v : V) : List (Str × V) → Prop where
  | old {m' : List (Str × V)} : Put m x v m' → PutA m x v m'
  | new : x ∉ m.map (·.1) → PutA m x v (m ++ [(x, v)])
end
end Mine

open PySem PySem.W PyProof.Rows PySem.Calls
set_option Elab.async false
set_option linter.unusedVariables false
namespace Mine
section
variable {C : Cx} {A : Around} {env : Env} {R : Led} {mg mb : Str → Option Value} {Φ : V → Led → Prop} {Ψ : Fl → Led → Prop} {k : Nat} {pos : Pos}

theorem Cl.lenL {v : V} {vs : List V} (l : LstOf R v vs) (hx : vs.length ≤ 16777216) (h : Φ (.int vs.length) R) : Cl C A (.bi "len") [v] R Φ := fun z s u us H t d ds => by
  cases d
  cases ds with | cons d1 d2 =>
    cases d2
    obtain ⟨a, its, rfl, h1, d1⟩ := l.is H d1
    have hz : its.size = vs.length := by rw [← Array.length_toList]; exact d1.length
    exact len_list h1 (by omega) (.mk (H.toks _) (by rw [hz]; exact .int _ _) h)
theorem Cl.append {a : Addr} {vs : List V} {v : V} {R' : Led} (u : Upd R a (.list vs) (.list (vs ++ [v])) R') (hx : vs.length ≤ 16777216) (h : Φ .none R') : Cl C A (.bi "list.append") [.ref a, v] R Φ := fun z s f us H t d ds => by
  cases d
  cases ds with | cons d1 d2 =>
    cases d1
    cases d2 with | cons d3 d4 =>
      cases d4
      rename_i x
      obtain ⟨⟨its, n, h1, dl⟩, hz⟩ := H.res _ u.old
      have hsz : its.size = vs.length := by rw [← Array.length_toList]; exact dl.length
      refine wpAny_list_append_plain (l := a) ⟨n, h1⟩ (fun h' ⟨n', hg⟩ hs => ?_) (by rw [hsz, sizeLine_eq]; exact hx)
      exact ⟨z, R', _, Ext.refl _, H.upd (t := s.toks) u hs ⟨_, n', hg, by simpa using dl.append (.cons d3 .nil)⟩, .none, h⟩
theorem DenL.strs {z : Fz} : ∀ {us : List Value} {xs : List Str}, DenL z us (xs.map V.str) → ∃ l : List (Str × Tok), us = strValues l ∧ l.map (·.1) = xs
  | _, [], h => by cases h; exact ⟨[], rfl, rfl⟩
  | _, x :: xs, h => by
    cases h with | cons d r =>
      cases d
      rename_i t
      obtain ⟨l, rfl, e⟩ := r.strs
      exact ⟨(x, t) :: l, rfl, by simp [e]⟩
theorem Cl.join {x : Str} {v : V} {xs : List Str} (l : LstOf R v (xs.map V.str)) (hj : (xs.map (·.length)).sum + xs.length * x.length ≤ 16777216) (h : Φ (.str (Txt.join x xs)) R) : Cl C A (.bi "str.join") [.str x, v] R Φ := fun z s u us H t d ds => by
  cases d
  cases ds with | cons d1 d2 =>
    cases d1; cases d2 with | cons d3 d4 =>
      cases d4
      obtain ⟨a, its, rfl, h1, d1⟩ := l.is H d3
      obtain ⟨l', e1, e2⟩ := d1.strs
      have h1' : s.heap.IsList a (strValues l').toArray := by rw [← e1]; simpa using h1
      refine SC.join h1' e2 ?_ fun _ _ => .mk (H.toks _) (.str _ _) h
      unfold JoinOk Builtin.Str.tooLong
      rw [StrLaws.joinTotal]
      simp only [Bool.not_eq_true', decide_eq_false_iff_not]
      try rw [sizeLine_eq]
      omega
end
end Mine

open PySem PySem.W PyProof.Rows PySem.Calls
set_option Elab.async false
set_option linter.unusedVariables false
namespace Mine
section
variable {C : Cx} {A : Around} {s : Shared} {E : Value → Shared → Prop} {a : Addr} {its : Array Value} {n : Nat}
end
section
variable {C : Cx} {A : Around} {env : Env} {R : Led} {Φ : V → Led → Prop} {pos : Pos}
end
end Mine

open PySem PySem.W PyProof.Rows PySem.Calls
set_option Elab.async false
set_option linter.unusedVariables false
namespace Mine
mutual
def V.data : V → Option PyData
  | .none => some .none
  | .bool b => some (.bool b)
  | .int i => some (.int i)
  | .str x => some (.str x)
  | .tup vs => (V.datas vs).map .tuple
  | .lst vs => (V.datas vs).map .list
  | .any => Option.none
  | .ref _ => Option.none
  | .bi _ => Option.none
  | .ty _ => Option.none
  | .dct _ _ => Option.none
def V.datas : List V → Option (List PyData)
  | [] => some []
  | v :: vs => (V.data v).bind fun d => (V.datas vs).map (d :: ·)
end
section
variable {C : Cx} {A : Around} {env : Env} {R : Led} {Φ : V → Led → Prop} {pos : Pos}
mutual
theorem Den.reads {z : Fz} {h : Heap} (hk : ∀ a o, z a = some o → h.get? a = some o) : ∀ {u : Value} {v : V} {d : PyData}, Den z u v → v.data = some d → ∃ as, Reads h u d as
  | _, _, _, .none, e => by simp only [V.data] at e; cases e; exact ⟨_, .none⟩
  | _, _, _, .bool b, e => by simp only [V.data] at e; cases e; exact ⟨_, .bool b⟩
  | _, _, _, .int i t, e => by simp only [V.data] at e; cases e; exact ⟨_, .int i t⟩
  | _, _, _, .str x t, e => by simp only [V.data] at e; cases e; exact ⟨_, .str x t⟩
  | _, _, _, .ref a, e => by simp [V.data] at e
  | _, _, _, .bi id, e => by simp [V.data] at e
  | _, _, _, .ty n, e => by simp [V.data] at e
  | _, _, _, .dct .., e => by simp [V.data] at e
  | _, _, _, .tup h1 h2 h3 ds, e => by
    simp only [V.data] at e
    obtain ⟨xs, e1, rfl⟩ := Option.map_eq_some_iff.mp e
    obtain ⟨as, r⟩ := DenL.reads hk ds e1
    exact ⟨_, reads_tuple_at (hk _ _ h1) h2 h3 r⟩
  | _, _, _, .lst h1 h2 h3 ds, e => by
    simp only [V.data] at e
    obtain ⟨xs, e1, rfl⟩ := Option.map_eq_some_iff.mp e
    obtain ⟨as, r⟩ := DenL.reads hk ds e1
    exact ⟨_, reads_list_at (hk _ _ h1) h2 h3 r⟩
theorem DenL.reads {z : Fz} {h : Heap} (hk : ∀ a o, z a = some o → h.get? a = some o) : ∀ {u : List Value} {v : List V} {d : List PyData}, DenL z u v → V.datas v = some d → ∃ as, ReadsAll h u d as
  | _, _, _, .nil, e => by simp only [V.datas] at e; cases e; exact ⟨_, .nil⟩
  | _, _, _, .cons d ds, e => by
    simp only [V.datas] at e
    obtain ⟨x, e1, e⟩ := Option.bind_eq_some_iff.mp e
    obtain ⟨xs, e2, rfl⟩ := Option.map_eq_some_iff.mp e
    obtain ⟨as, r⟩ := Den.reads hk d e1
    obtain ⟨bs, q⟩ := DenL.reads hk ds e2
    exact ⟨_, .cons r q⟩
end
theorem Cmp.neD {a b : V} {x y : PyData} {Φ : Bool → Led → Prop} (ha : a.data = some x) (hb : b.data = some y) (h1 : SeqAt.shaped x = true) (h2 : SeqAt.shaped y = true) (hu : A.units + 64 < cLine) (h : Φ (!x.eqv y) R) : Cmp C A .NotEq a b R Φ := fun z s u v H t d e => by
  obtain ⟨as, r⟩ := d.reads H.kept ha
  obtain ⟨bs, q⟩ := e.reads H.kept hb
  exact ne_dataH r q h1 h2 hu (bp H h)
theorem DenL.ints {z : Fz} : ∀ {us : List Value} {xs : List Int}, DenL z us (xs.map V.int) → IntsAre us xs
  | _, [], h => by cases h; exact .nil
  | _, x :: xs, h => by
    cases h with | cons d r => cases d; exact .cons _ _ r.ints
theorem Cmp.eqLI {a b : V} {xs ys : List Int} {Φ : Bool → Led → Prop} (ha : LstOf R a (xs.map V.int)) (hb : LstOf R b (ys.map V.int)) (hu : A.units + 64 < cLine) (h : Φ (decide (xs = ys)) R) : Cmp C A .Eq a b R Φ := fun z s u v H t d e => by
  obtain ⟨l, its, rfl, h1, d1⟩ := ha.is H d
  obtain ⟨m, its2, rfl, h2, d2⟩ := hb.is H e
  exact ke_eq_ints (xs := its.toList) (ys := its2.toList) (by simpa using h1) (by simpa using h2) d1.ints d2.ints hu (bp H h)
theorem Cmp.neLI {a b : V} {xs ys : List Int} {Φ : Bool → Led → Prop} (ha : LstOf R a (xs.map V.int)) (hb : LstOf R b (ys.map V.int)) (hu : A.units + 64 < cLine) (h : Φ (!decide (xs = ys)) R) : Cmp C A .NotEq a b R Φ := fun z s u v H t d e => by
  obtain ⟨l, its, rfl, h1, d1⟩ := ha.is H d
  obtain ⟨m, its2, rfl, h2, d2⟩ := hb.is H e
  exact ke_ne_ints (xs := its.toList) (ys := its2.toList) (by simpa using h1) (by simpa using h2) d1.ints d2.ints hu (bp H h)
inductive FrzN (a : Addr) (vs : List V) : List (Str × V) → List (Str × V) → Prop where
  | nil : FrzN a vs [] []
  | same {p : Str × V} {m m' : List (Str × V)} : FrzN a vs m m' → FrzN a vs (p :: m) (p :: m')
  | hit {x : Str} {m m' : List (Str × V)} : FrzN a vs m m' → FrzN a vs ((x, .ref a) :: m) ((x, .lst vs) :: m')
inductive Frz (a : Addr) (vs : List V) : Bool → Led → Led → Prop where
  | rest {R : Led} : Frz a vs false R R
  | same {b : Bool} {p : Addr × Res} {R R' : Led} : Frz a vs b R R' → Frz a vs b (p :: R) (p :: R')
  | gone {R R' : Led} : Frz a vs false R R' → Frz a vs true ((a, .list vs) :: R) R'
  | ns {b : Bool} {L : Addr} {m m' : List (Str × V)} {R R' : Led} : FrzN a vs m m' → Frz a vs b R R' → Frz a vs b ((L, .ns m) :: R) ((L, .ns m') :: R')
  | att {b : Bool} {L : Addr} {m m' : List (Str × V)} {R R' : Led} : FrzN a vs m m' → Frz a vs b R R' → Frz a vs b ((L, .att m) :: R) ((L, .att m') :: R')
theorem FrzN.keys {a : Addr} {vs : List V} {m m' : List (Str × V)} (f : FrzN a vs m m') : m'.map (·.1) = m.map (·.1) := by
  induction f with
  | nil => rfl
  | same _ ih => simp [ih]
  | hit _ ih => simp [ih]
theorem FrzN.mem {a : Addr} {vs : List V} {m m' : List (Str × V)} (f : FrzN a vs m m') : ∀ p ∈ m', p ∈ m ∨ (p.2 = .lst vs ∧ (p.1, .ref a) ∈ m) := by
  induction f with
  | nil => exact fun p hp => nomatch hp
  | same _ ih => exact fun p hp => (List.mem_cons.mp hp).elim (fun e => e ▸ .inl (.head _)) fun hp => (ih p hp).imp (fun h => .tail _ h) fun ⟨a, b⟩ => ⟨a, .tail _ b⟩
  | hit _ ih => exact fun p hp => (List.mem_cons.mp hp).elim (fun e => e ▸ .inr ⟨rfl, .head _⟩) fun hp => (ih p hp).imp (fun h => .tail _ h) fun ⟨a, b⟩ => ⟨a, .tail _ b⟩
theorem FrzN.denE {z : Fz} {a : Addr} {vs : List V} {m m' : List (Str × V)} (f : FrzN a vs m m') (hd : Den z (.ref a) (.lst vs)) : ∀ {es : List DictEntry}, DenE z es m → DenE z es m' := by
  induction f with
  | nil => exact fun h => h
  | same _ ih => intro es h; cases h with | cons d r => exact .cons d (ih r)
  | hit _ ih => intro es h; cases h with | cons d r => cases d; exact .cons hd (ih r)
theorem Frz.keys {a : Addr} {vs : List V} {b : Bool} {R R' : Led} (f : Frz a vs b R R') : (R.map (·.1)).Nodup → (R'.map (·.1)).Nodup ∧ (∀ x ∈ R'.map (·.1), x ∈ R.map (·.1)) ∧ (b = true → (a, .list vs) ∈ R ∧ a ∉ R'.map (·.1)) := by
  induction f with
  | rest => exact fun h => ⟨h, fun _ x => x, fun e => nomatch e⟩
  | same _ ih =>
    intro h
    obtain ⟨h1, h2⟩ := List.nodup_cons.mp h
    obtain ⟨x, y, w⟩ := ih h2
    refine ⟨List.nodup_cons.mpr ⟨fun q => h1 (y _ q), x⟩, fun k hk => (List.mem_cons.mp hk).elim (fun e => e ▸ .head _) fun q => .tail _ (y k q), fun e => ?_⟩
    obtain ⟨w1, w2⟩ := w e
    exact ⟨.tail _ w1, fun q => (List.mem_cons.mp q).elim (fun e => h1 (by dsimp only at e ⊢; rw [← e]; exact List.mem_map_of_mem (f := (·.1)) w1)) w2⟩
  | gone _ ih =>
    intro h
    obtain ⟨h1, h2⟩ := List.nodup_cons.mp h
    obtain ⟨x, y, w⟩ := ih h2
    exact ⟨x, fun k hk => .tail _ (y k hk), fun _ => ⟨.head _, fun q => h1 (y _ q)⟩⟩
  | ns _ _ ih =>
    intro h
    obtain ⟨h1, h2⟩ := List.nodup_cons.mp h
    obtain ⟨x, y, w⟩ := ih h2
    refine ⟨List.nodup_cons.mpr ⟨fun q => h1 (y _ q), x⟩, fun k hk => (List.mem_cons.mp hk).elim (fun e => e ▸ .head _) fun q => .tail _ (y k q), fun e => ?_⟩
    obtain ⟨w1, w2⟩ := w e
    exact ⟨.tail _ w1, fun q => (List.mem_cons.mp q).elim (fun e => h1 (by dsimp only; dsimp only at e; rw [← e]; exact List.mem_map_of_mem (f := (·.1)) w1)) w2⟩
  | att _ _ ih =>
    intro h
    obtain ⟨h1, h2⟩ := List.nodup_cons.mp h
    obtain ⟨x, y, w⟩ := ih h2
    refine ⟨List.nodup_cons.mpr ⟨fun q => h1 (y _ q), x⟩, fun k hk => (List.mem_cons.mp hk).elim (fun e => e ▸ .head _) fun q => .tail _ (y k q), fun e => ?_⟩
    obtain ⟨w1, w2⟩ := w e
    exact ⟨.tail _ w1, fun q => (List.mem_cons.mp q).elim (fun e => h1 (by dsimp only; dsimp only at e; rw [← e]; exact List.mem_map_of_mem (f := (·.1)) w1)) w2⟩
theorem Frz.res {z z' : Fz} {h : Heap} {a : Addr} {vs : List V} {b : Bool} {R R' : Led} (f : Frz a vs b R R') (hz : Ext z z') (hd : Den z' (.ref a) (.lst vs)) : (∀ p ∈ R, ResAt z h p.1 p.2) → ∀ p ∈ R', ResAt z' h p.1 p.2 := by
  induction f with
  | rest => exact fun H p hp => (H p hp).keeps hz fun _ e => e
  | same _ ih => exact fun H p hp => (List.mem_cons.mp hp).elim (fun e => e ▸ (H _ (.head _)).keeps hz fun _ e => e) fun hp => ih (fun q hq => H q (.tail _ hq)) p hp
  | gone _ ih => exact fun H p hp => ih (fun q hq => H q (.tail _ hq)) p hp
  | ns f _ ih =>
    refine fun H p hp => (List.mem_cons.mp hp).elim (fun e => ?_) fun hp => ih (fun q hq => H q (.tail _ hq)) p hp
    subst e
    obtain ⟨hn, g, hN, hg⟩ := H _ (.head _)
    refine ⟨f.keys ▸ hn, g, hN, fun p hp => ?_⟩
    rcases f.mem p hp with q | ⟨q1, q2⟩
    · exact (hg p q).imp id fun ⟨v, e, d⟩ => ⟨v, e, d.mono hz⟩
    · rcases hg _ q2 with e | ⟨v, e, d⟩
      · cases e
      · cases d; exact .inr ⟨_, e, q1 ▸ hd⟩
  | att f _ ih =>
    refine fun H p hp => (List.mem_cons.mp hp).elim (fun e => ?_) fun hp => ih (fun q hq => H q (.tail _ hq)) p hp
    subst e
    obtain ⟨hn, es, n, ho, d⟩ := H _ (.head _)
    exact ⟨f.keys ▸ hn, es, n, ho, f.denE hd (d.mono hz)⟩
theorem Rel.frz {z : Fz} {s : Shared} {a : Addr} {vs : List V} {R R' : Led} (H : Rel C z R s) (f : Frz a vs true R R') : ∃ z', Ext z z' ∧ Rel C z' R' s := by
  obtain ⟨k1, k2, k3⟩ := f.keys H.nodup
  obtain ⟨m1, m2⟩ := k3 rfl
  obtain ⟨⟨its, n, ho, d⟩, hz⟩ := H.res _ m1
  have hx := zput_ext (o := ({ cls := .type "list", data := .seq its n } : Obj)) hz
  refine ⟨zput z a { cls := .type "list", data := .seq its n }, hx, fun b o e => hx _ _ (H.base _ _ e), fun b o e => ?_, fun p hp => ⟨f.res hx (.lst zput_self rfl rfl (d.mono hx)) (fun q hq => (H.res q hq).1) p hp, ?_⟩, k1, H.gens, H.os⟩
  · unfold zput at e
    by_cases q : b = a
    · rw [if_pos q] at e; cases e; subst q; exact ho
    · rw [if_neg q] at e; exact H.kept _ _ e
  · unfold zput
    have hne : p.1 ≠ a := fun e => m2 (e ▸ List.mem_map_of_mem hp)
    rw [if_neg hne]
    have := k2 p.1 (List.mem_map_of_mem hp)
    obtain ⟨q, hq, e⟩ := List.mem_map.mp this
    rw [← e]; exact (H.res q hq).2
theorem Ex.frz {b : List Stmt} {a : Addr} {vs : List V} {R' : Led} {Ψ : Fl → Led → Prop} (f : Frz a vs true R R') (h : Ex C A env b R' Ψ) : Ex C A env b R Ψ := fun z s H t =>
  let ⟨z', e, H'⟩ := H.frz f; wpNo t (h z' s H' t) fun _ _ _ p => p.ext e
end
end Mine

open PySem PySem.W PyProof.Rows PySem.Calls
set_option Elab.async false
set_option linter.unusedVariables false
namespace Mine
theorem check_meth {M : Model} {A : Around} {E : Value → Shared → Prop} {s : Shared} {i owner n : String} {self : Value} {rest : List Value} {kw : List (Str × Value)} {Q : Unit → Shared → Prop}
    (hk : builtinKind i = some .method) (hs : splitId i = some (owner, n)) (hi : Looks M s.heap (isInstance self (.type owner)) true) (ha : argsOk i ⟨self :: rest, kw⟩) (q : Q () s) :
    wpAny M A (checkBuiltinCall i ⟨self :: rest, kw⟩) Q E s := by
  simp only [checkBuiltinCall, hk, hs]
  refine wpAny_bind (hi.here ?_)
  simp only [Bool.not_true, Bool.false_eq_true, if_false]
  cases hsig : Manifest.signature? i with
  | none => exact wpAny_pure q
  | some sig =>
    simp only [argsOk, hsig] at ha
    have h2 : Bind.checkArgs i sig ⟨self :: rest, kw⟩ = pure () := ha
    exact wpAny_of_eq h2 q
def tabVal (es : Array DictEntry) (c : Int) : Option Value := (es.findIdx? fun e => Value.isInt c e.key).bind fun i => (es[i]?).map (·.val)
structure TabAt (C : Cx) (K : Frag) (tb cls dx fm : Addr) (es : Array DictEntry) (fd : FuncData) (body : List Stmt) : Prop where
  X : K.In C.B
  at_ : ∃ ep sl, C.B.get? tb = some ⟨.ref cls, some dx, .dict es ep, sl⟩
  dict : ∃ od, C.B.get? dx = some od
  keys : IntKeys es
  sub : mroIn K cls (.type "dict") = some true
  seq : noSeq K cls = true
  gi : findIn K (.ref cls) "__getitem__" = some (some (.builtin "dict.__getitem__"))
  mi : findIn K (.ref cls) "__missing__" = some (some (.ref fm))
  fn : typeIn K (.ref fm) = some (.type "function")
  tb : (tb == sysModules) = false
theorem gi_kind : builtinKind "dict.__getitem__" = some .method := by decide +kernel
theorem gi_split : splitId "dict.__getitem__" = some ("dict", "__getitem__") := by decide +kernel
theorem gi_plain : plainId "dict.__getitem__" = true := by decide +kernel
section
variable {C : Cx} {A : Around} {K : Frag} {tb cls dx fm : Addr} {es : Array DictEntry} {R : Led} {Φ : V → Led → Prop} {fd : FuncData} {body : List Stmt}
theorem fold_ones : ∀ (l : List Nat) (acc : Array Nat), (l.map fun d => (⟨#[d]⟩ : Str)).foldl (fun acc p => acc ++ p.cps) acc = acc ++ l.toArray
  | [], acc => by simp
  | d :: l, acc => by rw [List.map_cons, List.foldl_cons, fold_ones l]; simp [Array.append_assoc]
theorem lookup_known {c : Nat} {a : Option Nat} : ∀ {known : List (Nat × Option Nat)}, known.lookup c = some a → (c, a) ∈ known
  | (d, b) :: r, h => by
    rw [List.lookup_cons] at h
    by_cases q : c = d
    · subst q; simp at h; subst h; exact .head _
    · rw [beq_eq_false_iff_ne.mpr q] at h; exact .tail _ (lookup_known h)
end

section
variable {C : Cx} {A : Around} {env : Env} {R : Led} {Φ : V → Led → Prop} {pos : Pos}
end
end Mine

namespace Mine
inductive Mode where
  | code (j : Bool)
  | com
  | bs
  | str (q w f : Nat)
  | sbs (q w f : Nat)
  | opn (k q f : Nat)
  | cls (k : Nat)
structure St where
  lvl : Nat
  lno : Nat
  good : List Nat
def tr (c : Nat) : Nat :=
  if c = 40 ∨ c = 91 ∨ c = 123 then 40 else if c = 41 ∨ c = 93 ∨ c = 125 then 41
  else if c = 34 ∨ c = 39 ∨ c = 92 ∨ c = 10 ∨ c = 35 then c else 120
def Alpha (c : Nat) : Prop := c = 120 ∨ c = 10 ∨ c = 40 ∨ c = 41 ∨ c = 34 ∨ c = 39 ∨ c = 35 ∨ c = 92
theorem tr_alpha (c : Nat) : Alpha (tr c) := by
  unfold tr
  by_cases h1 : c = 40 ∨ c = 91 ∨ c = 123
  · rw [if_pos h1]; exact .inr (.inr (.inl rfl))
  rw [if_neg h1]
  by_cases h2 : c = 41 ∨ c = 93 ∨ c = 125
  · rw [if_pos h2]; exact .inr (.inr (.inr (.inl rfl)))
  rw [if_neg h2]
  by_cases h3 : c = 34 ∨ c = 39 ∨ c = 92 ∨ c = 10 ∨ c = 35
  · rw [if_pos h3]; rcases h3 with rfl | rfl | rfl | rfl | rfl <;> simp [Alpha]
  rw [if_neg h3]; exact .inl rfl
theorem Alpha.lt {c : Nat} (h : Alpha c) : c < 128 := by rcases h with rfl | rfl | rfl | rfl | rfl | rfl | rfl | rfl <;> decide
theorem tr_lt (c : Nat) : tr c < 128 := (tr_alpha c).lt

end Mine

open PySem PySem.W PyProof.Rows PySem.Calls
namespace Mine
def stAt : Nat → List Stmt → Stmt
  | 0, s :: _ => s
  | n + 1, _ :: r => stAt n r
  | _, [] => .Pass ⟨0, 0, 0, 0⟩
def clsB : Stmt → List Stmt
  | .ClassDef _ _ _ b _ _ _ _ _ _ _ => b
  | _ => []
def fnB : Stmt → List Stmt
  | .FunctionDef _ _ b _ _ _ _ _ _ _ => b
  | _ => []
def fdOf (qual : Str) (pm cd : Value) : Stmt → FuncData
  | .FunctionDef name args body _ _ _ scope _ _ _ => { name := name, qualname := qual, params := args, body := .stmts body, scope := scope, globals := 3, closure := [], defaults := .none, kwdefaults := .none, pyModule := pm, code := cd }
  | _ => default
theorem memH {α : Type} {a : α} {l : List α} : a ∈ a :: l := .head _
theorem memT {α : Type} {a b : α} {l : List α} (h : a ∈ l) : a ∈ b :: l := .tail _ h
theorem ite_t {b : Bool} [Decidable (b = true)] {P Q : Prop} (hb : b = true) (h : P) : if b = true then P else Q := by rw [if_pos hb]; exact h
theorem ite_f {b : Bool} [Decidable (b = true)] {P Q : Prop} (hb : b = false) (h : Q) : if b = true then P else Q := by rw [if_neg (by rw [hb]; exact Bool.false_ne_true)]; exact h
theorem ite_b {b : Bool} {P Q : Prop} (h1 : b = true → P) (h2 : b = false → Q) : if b = true then P else Q := by
  cases b with
  | true => exact h1 rfl
  | false => exact h2 rfl

section
variable {C : Cx} {A : Around} {env : Env} {R R' : Led}
end
def S (l : List Nat) : Str := ⟨l.toArray⟩
@[simp] theorem S_cps (l : List Nat) : (S l).cps.toList = l := by simp [S]
theorem S_of (x : Str) : S x.cps.toList = x := by obtain ⟨c⟩ := x; simp [S]
@[simp] theorem S_len (l : List Nat) : (S l).length = l.length := by simp [S, Str.length]
theorem S_app (a b : List Nat) : S a ++ S b = S (a ++ b) := by
  show (⟨(S a).cps ++ (S b).cps⟩ : Str) = _
  simp [S]
end Mine

open PySem PySem.W PyProof.Rows PySem.Calls
set_option Elab.async false
set_option linter.unusedVariables false
namespace Mine
inductive Sim : List Nat → List Nat → Prop where
  | nil : Sim [] []
  | cons (c : Nat) {t t' : List Nat} : Sim t t' → Sim (c :: t) (c :: t')
  | x {t t' : List Nat} : Sim (120 :: t) t' → Sim (120 :: 120 :: t) t'
  | nl {t t' : List Nat} : t ≠ [] → Sim (10 :: t) t' → Sim (10 :: 120 :: t) t'
def glue (y : List Nat) : List (List Nat) → List Nat
  | [] => []
  | [p] => p
  | p :: r => p ++ y ++ glue y r
theorem join_glue (y : List Nat) : ∀ ps : List Str, (Str.join (S y) ps).cps.toList = glue y (ps.map (·.cps.toList))
  | [] => rfl
  | [p] => rfl
  | p :: q :: r => by
    show (p ++ S y ++ Str.join (S y) (q :: r)).cps.toList = p.cps.toList ++ y ++ glue y (q.cps.toList :: r.map (·.cps.toList))
    rw [Str.cps_append, Array.toList_append, join_glue y (q :: r), Str.cps_append, Array.toList_append, S_cps]
    rfl
end Mine

open PySem PySem.W PyProof.Rows PySem.Calls
set_option Elab.async false
set_option linter.unusedVariables false
set_option maxRecDepth 100000
namespace Mine
local macro_rules | `(tactic| walk_at "mem") => `(tactic| first | with_reducible exact memH | (with_reducible refine memT ?_; walk_at "mem"))
local macro_rules | `(tactic| walk_at "put") => `(tactic| first | with_reducible exact Put.here | (apply Put.there; walk_at "put"))
local macro_rules | `(tactic| walk_at "upd") => `(tactic| first | with_reducible exact Upd.here | (apply Upd.there; walk_at "upd"))
local macro_rules | `(tactic| walk_at "nm") => `(tactic| (refine Ev.loc (by walk_at "mem") (by walk_at "mem") ?_))
local macro_rules | `(tactic| walk_at "sto") => `(tactic| (refine Sto.loc (by walk_at "mem") (by walk_at "put") (by walk_at "upd") ?_))
def sMiss : Stmt := stAt 0 (clsB (stAt 1 PySem.Challenge.pw_dm0164_01.main.body))
def scB : Stmt → Scope
  | .FunctionDef _ _ _ _ _ _ scope _ _ _ => scope
  | _ => default
abbrev okNames (ns : List Str) (st : Stmt) : Prop := (∀ x ∈ (scB st).names, x.2 ≠ .cell) ∧ ∀ x ∈ ns, (scB st).names.lookup x = some .local
theorem fd_scope (q : Str) (pm cd : Value) (st : Stmt) : (fdOf q pm cd st).scope = scB st := by cases st <;> rfl
section
variable {C : Cx} {A : Around} {env : Env} {R : Led} {mg mb : Str → Option Value} {K : Frag} {Φ : V → Led → Prop} {pm cd : Value} {tb : Addr} {pos : Pos}
theorem Ev.neg {x : Expr} (h : Ev C A env x R fun v R₁ => ∃ i, v = .int i ∧ Φ (.int (-i)) R₁) : Ev C A env (.UnaryOp .USub x pos) R Φ := fun z s H t =>
  wpAny_UnaryOp (h.then H t fun z₁ R₁ v u s₁ e₁ H₁ t₁ d₁ ⟨i, e, p⟩ => by
    subst e; cases d₁
    exact neg_int ⟨z₁, R₁, _, e₁, H₁.toks _, .int _ _, p⟩)
theorem LstOf.at {g : Addr} {vs : List V} (h : (g, .list vs) ∈ R) : LstOf R (.ref g) vs := .ref h
theorem FnAt.call {st : Stmt} {q : Str} {f : Addr} {ns r : List Str} {vs : List V} {m : List (Str × V)} (G : GX C mg mb) (F : FnAt C f (fdOf q pm cd st) (fnB st) ns) (b : Bnd ns vs r m) (hn : (ns ++ r).Nodup) (hd : A.depth < recursionLimit) (hk : okNames ns st)
    (h : ∀ L, Ex C (A.deeper (fenv (fdOf q pm cd st) f L)) (fenv (fdOf q pm cd st) f L) (fnB st) ((L, .ns m) :: R) (Back Φ)) : ClC C A (.ref f) vs R Φ :=
  ClC.fn G F b hn hd (by rw [fd_scope]; exact hk.1) (by rw [fd_scope]; exact hk.2) h
theorem missing_ok {fm : Addr} {i : Int} (G : GX C mg mb) (F : FnAt C fm (fdOf "ParseMap.__missing__" pm cd sMiss) (fnB sMiss) ["self", "key"]) (hd : A.depth < recursionLimit) :
    Cl C A (.ref fm) [.ref tb, .int i] R (fun v R' => v = .int 120 ∧ R' = R) :=
  ClC.cl (F.call (r := []) G (.cons (.cons .nil)) (by decide) hd (by decide) fun L => Ex.cons (Ex1.ret (Ev.int ⟨_, .drop .rest, rfl, rfl⟩)))
end
end Mine

open PySem PySem.W PyProof.Rows PySem.Calls
set_option Elab.async false
set_option linter.unusedVariables false
set_option maxRecDepth 100000
namespace Mine
theorem den_ints {z : Fz} {us : List Value} {xs : List Int} (h : IntsAre us xs) : DenL z us (xs.map V.int) := by
  induction h with
  | nil => exact .nil
  | cons n t _ ih => exact .cons (.int n t) ih
theorem good_true {c : ClaimW} {cl : Str → Option Addr} {mean : ExcName → Option Value} {args : List WData} {s₁ s' : Shared} (hn : ∀ cls, c.raises args cls = false) (hp : c.post args (.bool true) args = true)
    (hk : ∀ b o, s₁.heap.get? b = some o → s'.heap.get? b = some o) (hos : s'.os = s₁.os) (hg : s'.gens = #[]) : GoodW c cl mean args s₁ (.ok (.ret (.bool true))) s' :=
  ⟨.inl ⟨_, _, [], rfl, hn, .bool true, hp, unshared_nil⟩, hk, hos, hg⟩
theorem gx_of {p : Program} {loose : List Str} {mean : ExcName → Option Value} {mg mb : Str → Option Value} {h : Heap} (T : Top p loose mean mg mb h) {prog : Program} {w : World} {os : OsState} : GX ⟨prog, w, h, os⟩ mg mb := ⟨T.g, T.b, T.nolimit, T.builtins⟩
def dictIn (K : Frag) (a : Addr) : Option (Array DictEntry) := (K.lookup a).bind fun o => match o.data with
  | .dict es _ => some es
  | _ => none
def fnIn (K : Frag) (a : Addr) : Option FuncData := (K.lookup a).bind fun o => match o.data with
  | .func fd => some fd
  | _ => none
theorem dict_in {K : Frag} {a : Addr} {es : Array DictEntry} {h : Heap} (X : K.In h) (e : dictIn K a = some es) : ∃ o ep, h.get? a = some o ∧ o.data = .dict es ep := by
  unfold dictIn at e
  cases ho : K.lookup a with
  | none => rw [ho] at e; cases e
  | some o =>
    rw [ho] at e
    change (match o.data with | .dict es _ => some es | _ => none) = some es at e
    split at e
    · rename_i es' ep hd; cases e; exact ⟨o, ep, X _ _ ho, hd⟩
    · cases e
theorem glob_at {C : Cx} {mg mb : Str → Option Value} {K : Frag} {es : Array DictEntry} (G : GX C mg mb) (X : K.In C.B) (hd : dictIn K mainGlobals = some es) (x : Str) : mg x = nsFind es x := by
  obtain ⟨o', es', ep', h1, h2, _, h3⟩ := G.g
  obtain ⟨o, ep, h4, h5⟩ := dict_in X hd
  rw [h4] at h1
  cases h1
  rw [h5] at h2
  cases h2
  exact (h3 x).symm
theorem fn_in {C : Cx} {K : Frag} {f : Addr} {fd : FuncData} {body : List Stmt} {ns : List Str} (X : K.In C.B) (e : fnIn K f = some fd) (hb : fd.body = .stmts body) (hc : codeIn K fd.code fd.qualname = true)
    (h1 : fd.scope.isCoroutine = false) (h2 : fd.scope.isGenerator = false) (h3 : fd.scope.kind = .function) (h4 : ∀ us : List Value, us.length = ns.length → bindArgs fd ⟨us, []⟩ = pure (ns.zip us)) : FnAt C f fd body ns := by
  unfold fnIn at e
  cases ho : K.lookup f with
  | none => rw [ho] at e; cases e
  | some o =>
    rw [ho] at e
    change (match o.data with | .func fd => some fd | _ => none) = some fd at e
    split at e
    · rename_i fd' hd; cases e; exact ⟨⟨o, X _ _ ho, hd⟩, hb, codeRec_of X hc, h1, h2, h3, h4⟩
    · cases e
theorem len1 {P : List Value → Prop} (h : ∀ a, P [a]) : ∀ us : List Value, us.length = 1 → P us
  | [a], _ => h a
theorem len2 {P : List Value → Prop} (h : ∀ a b, P [a, b]) : ∀ us : List Value, us.length = 2 → P us
  | [a, b], _ => h a b
end Mine

open PySem PySem.W PyProof.Rows PySem.Calls
set_option Elab.async false
set_option linter.unusedVariables false
namespace Mine
def rowOk (i : Nat) (e : DictEntry) : Bool := match e.key, e.val with
  | .int k _, .int v _ => k == (i : Int) && v == (tr i : Int) && e.hash == hashInt k
  | _, _ => false
def tabOk : Nat → List DictEntry → Bool
  | i, [] => i == 128
  | i, e :: es => rowOk i e && tabOk (i + 1) es
theorem rowOk_is {i : Nat} {e : DictEntry} (h : rowOk i e = true) : ∃ t u, e.key = .int i t ∧ e.val = .int (tr i) u ∧ e.hash = hashInt i := by
  unfold rowOk at h
  split at h
  · rename_i k t v u hk hv
    simp only [Bool.and_eq_true, beq_iff_eq] at h
    obtain ⟨⟨rfl, rfl⟩, h⟩ := h
    exact ⟨t, u, hk, hv, h⟩
  · cases h
theorem tabOk_is : ∀ {es : List DictEntry} {i : Nat}, tabOk i es = true → i + es.length = 128 ∧ ∀ j e, es[j]? = some e → rowOk (i + j) e = true
  | [], i, h => ⟨by simpa [tabOk] using h, fun j e h => by simp at h⟩
  | e :: es, i, h => by
    unfold tabOk at h
    rw [Bool.and_eq_true] at h
    obtain ⟨a, b⟩ := tabOk_is h.2
    refine ⟨by rw [List.length_cons]; omega, fun j e' h' => ?_⟩
    cases j with
    | zero => cases h'; exact h.1
    | succ j =>
      have := b j e' (by simpa using h')
      rwa [show i + 1 + j = i + (j + 1) by omega] at this
theorem tr_big {c : Nat} (h : 128 ≤ c) : tr c = 120 := by
  unfold tr
  rw [if_neg (by omega), if_neg (by omega), if_neg (by omega)]
theorem tab_keys {es : Array DictEntry} (h : tabOk 0 es.toList = true) : PySem.IntKeys es := fun e he => by
  obtain ⟨j, hj⟩ := List.mem_iff_getElem?.mp (Array.mem_toList_iff.mpr he)
  obtain ⟨t, u, a, b, c⟩ := rowOk_is ((tabOk_is h).2 j e hj)
  exact ⟨_, t, a, c⟩
theorem tab_val {es : Array DictEntry} (h : tabOk 0 es.toList = true) (c : Int) : (tabVal es c = none ∧ ∀ n : Nat, c = n → 128 ≤ n) ∨ ∃ n u, c = (n : Nat) ∧ tabVal es c = some (.int (tr n) u) := by
  unfold tabVal
  obtain ⟨h1, h2⟩ := tabOk_is h
  have hs : es.size = 128 := by simpa using h1
  have row : ∀ i (hi : i < es.size), ∃ t u, es[i].key = .int i t ∧ es[i].val = .int (tr i) u := fun i hi => by
    obtain ⟨t, u, a, b, _⟩ := rowOk_is (h2 i es[i] (by simp [hi]))
    exact ⟨t, u, by simpa using a, by simpa using b⟩
  cases hi : es.findIdx? fun e => Value.isInt c e.key with
  | none =>
    refine .inl ⟨rfl, fun n hn => ?_⟩
    rcases Nat.lt_or_ge n 128 with q | q
    · exfalso
      obtain ⟨t, u, a, b⟩ := row n (by omega)
      have := Array.findIdx?_eq_none_iff.mp hi es[n] (Array.getElem_mem _)
      rw [a, hn] at this
      simp [Value.isInt] at this
    · exact q
  | some i =>
    obtain ⟨h3, h4, _⟩ := Array.findIdx?_eq_some_iff_getElem.mp hi
    obtain ⟨t, u, a, b⟩ := row i h3
    refine .inr ⟨i, u, ?_, ?_⟩
    · rw [a] at h4
      have := h4
      simp [Value.isInt] at this
      omega
    · show (es[i]?).map (·.val) = _
      simp [h3, b]
theorem tab_all {C : Cx} {K : Frag} {tb cls dx fm : Addr} {es : Array DictEntry} {fd : FuncData} {body : List Stmt} {pm cd : Value} (h : tabOk 0 es.toList = true) (T : TabAt C K tb cls dx fm es fd body)
    (F : FnAt C fm (fdOf "ParseMap.__missing__" pm cd sMiss) (fnB sMiss) ["self", "key"]) :
    ∃ cls dx fm es fd body, TabAt C K tb cls dx fm es fd body ∧ (∀ c v, tabVal es c = some v → ∃ i u, v = .int i u) ∧ (∀ c : Nat, (match tabVal es c with | some (.int i _) => i | _ => 120) = (tr c : Int)) ∧
    ∃ pm cd, FnAt C fm (fdOf "ParseMap.__missing__" pm cd sMiss) (fnB sMiss) ["self", "key"] := by
  refine ⟨cls, dx, fm, es, fd, body, T, fun c v e => ?_, fun c => ?_, pm, cd, F⟩
  · rcases tab_val h c with ⟨a, _⟩ | ⟨n, u, _, a⟩
    · rw [a] at e; cases e
    · rw [a] at e; cases e; exact ⟨_, _, rfl⟩
  · rcases tab_val h c with ⟨a, b⟩ | ⟨n, u, e, a⟩
    · rw [a, tr_big (b c rfl)]; rfl
    · have : n = c := by omega
      subst this
      rw [a]
def tabOf (o : Obj) : Option (Addr × Addr × Array DictEntry) := match o.cls, o.dict, o.data with
  | .ref c, some d, .dict es _ => some (c, d, es)
  | _, _, _ => none
def tabIn (K : Frag) (a : Addr) : Option (Addr × Addr × Array DictEntry) := (K.lookup a).bind tabOf
theorem tab_at {K : Frag} {a c d : Addr} {es : Array DictEntry} {h : Heap} (X : K.In h) (e : tabIn K a = some (c, d, es)) : ∃ ep sl, h.get? a = some ⟨.ref c, some d, .dict es ep, sl⟩ := by
  unfold tabIn at e
  cases ho : K.lookup a with
  | none => rw [ho] at e; cases e
  | some o =>
    rw [ho] at e
    replace e : tabOf o = some (c, d, es) := e
    unfold tabOf at e
    split at e
    · rename_i c' d' es' ep h1 h2 h3
      cases e
      refine ⟨ep, o.slots, ?_⟩
      rw [X _ _ ho]
      obtain ⟨x1, x2, x3, x4⟩ := o
      dsimp only at h1 h2 h3
      rw [h1, h2, h3]
    · cases e
theorem obj_at {K : Frag} {a : Addr} {h : Heap} (X : K.In h) (e : (K.lookup a).isSome = true) : ∃ o, h.get? a = some o := by
  cases ho : K.lookup a with
  | none => rw [ho] at e; cases e
  | some o => exact ⟨o, X _ _ ho⟩
end Mine

open PySem PySem.W PyProof.Rows PySem.Calls
set_option Elab.async false
set_option linter.unusedVariables false
set_option maxRecDepth 100000
namespace Mine
noncomputable def glD (K : Frag) : Array DictEntry := (dictIn K mainGlobals).getD #[]
def pmIn (K : Frag) (f : Addr) : Value := ((fnIn K f).map (·.pyModule)).getD .none
def cdIn (K : Frag) (f : Addr) : Value := ((fnIn K f).map (·.code)).getD .none
theorem fd_kind (q : Str) (pm cd : Value) (st : Stmt) (h : (scB st).isCoroutine = false ∧ (scB st).isGenerator = false ∧ (scB st).kind = .function) : (fdOf q pm cd st).scope.isCoroutine = false ∧ (fdOf q pm cd st).scope.isGenerator = false ∧ (fdOf q pm cd st).scope.kind = .function := by
  rw [fd_scope]; exact h
theorem fn_at {C : Cx} {K : Frag} {f : Addr} {q : Str} {st : Stmt} {ns : List Str} (X : K.In C.B) (e : fnIn K f = some (fdOf q (pmIn K f) (cdIn K f) st)) (hb : (fdOf q (pmIn K f) (cdIn K f) st).body = .stmts (fnB st)) (hc : codeIn K (fdOf q (pmIn K f) (cdIn K f) st).code (fdOf q (pmIn K f) (cdIn K f) st).qualname = true)
    (h1 : (scB st).isCoroutine = false ∧ (scB st).isGenerator = false ∧ (scB st).kind = .function) (h4 : ∀ us : List Value, us.length = ns.length → bindArgs (fdOf q (pmIn K f) (cdIn K f) st) ⟨us, []⟩ = pure (ns.zip us)) : ∃ pm cd, FnAt C f (fdOf q pm cd st) (fnB st) ns :=
  have h := fd_kind q (pmIn K f) (cdIn K f) st h1
  ⟨_, _, fn_in X e hb hc h.1 h.2.1 h.2.2 h4⟩
end Mine

open PySem PySem.W PyProof.Rows PySem.Calls
set_option Elab.async false
set_option linter.unusedVariables false
set_option maxRecDepth 100000
namespace Mine
section
variable {C : Cx} {A : Around} {env : Env} {R : Led} {mg mb : Str → Option Value} {K : Frag} {Φ : V → Led → Prop} {pm cd : Value} {c fI fC fS tb : Addr} {pos : Pos}
theorem Op2.addT {x y : Str} {a b : List Nat} (hx : x = S a) (hy : y = S b) (hl : a.length + b.length ≤ 16777216) (h : Φ (.str (S (a ++ b))) R) : Op2 C A .Add (.str x) (.str y) R Φ := by
  subst hx hy
  exact Op2.addS (by rw [S_len, S_len]; omega) (by rw [S_app]; exact h)
theorem Sto.isV {x : Str} {v v' : V} {Φ : Led → Prop} (e : v = v') (h : Sto C A env x v' R Φ) : Sto C A env x v R Φ := e ▸ h
theorem FnAt.kpr {f : Addr} {fd : FuncData} {body : List Stmt} {ns : List Str} (F : FnAt C f fd body ns) : Kpr C R (.ref f) := by
  obtain ⟨o, h1, h2⟩ := F.at_
  exact Kpr.fn h1 h2
end
theorem fmod_nat (x : Int) (m : Nat) (hm : 0 < m) : ∃ w : Nat, w < m ∧ x.fmod m = w := by
  have h0 : (m : Int) ≠ 0 := by omega
  have h1 := Int.emod_nonneg x h0
  have h2 := Int.emod_lt_of_pos x (b := (m : Int)) (by omega)
  rw [Int.fmod_eq_emod_of_nonneg x (b := (m : Int)) (by omega)]
  exact ⟨(x % m).toNat, by omega, by omega⟩
end Mine

open PySem PySem.W PyProof.Rows PySem.Calls
set_option Elab.async false
set_option linter.unusedVariables false
set_option maxRecDepth 100000
namespace Mine
section
variable {C : Cx} {A : Around} {env : Env} {R : Led} {mg mb : Str → Option Value} {Φ : V → Led → Prop} {k : Nat} {pos : Pos} {z : Fz} {s : Shared}
theorem Rel.keep (H : Rel C z R s) {h' : Heap} {t : Nat} (hk : ∀ c o, s.heap.get? c = some o → h'.get? c = some o) : Rel C z R { s with heap := h', toks := t } :=
  ⟨H.base, fun b o e => hk b o (H.kept b o e), fun p hp => ⟨(H.res p hp).1.keeps (Ext.refl _) fun o e => hk _ o e, (H.res p hp).2⟩, H.nodup, H.gens, H.os⟩
theorem Cl.minI {a b : Int} (hh : A.handled = none) (h : Φ (.int (min a b)) R) : Cl C A (.bi "min") [.int a, .int b] R Φ := fun z s u us H t d ds => by
  cases d
  cases ds with | cons d1 d2 => cases d1; cases d2 with | cons d3 d4 =>
    cases d3; cases d4
    refine min_two_ints hh fun h' tk hk => .mk (H.keep hk) ?_ h
    by_cases q : b < a
    · rw [if_pos q, Int.min_def, if_neg (by omega)]; exact .int _ _
    · rw [if_neg q, Int.min_def, if_pos (by omega)]; exact .int _ _
end
end Mine
namespace Mine
section
variable {C : Cx} {A : Around} {env : Env} {R : Led} {Φ : V → Led → Prop} {pos : Pos}
end
end Mine

open PySem PySem.W PyProof.Rows PySem.Calls
set_option Elab.async false
set_option linter.unusedVariables false
set_option maxRecDepth 100000
namespace Mine
section
variable {C : Cx} {A : Around} {env : Env} {R : Led} {mg mb : Str → Option Value} {Φ : V → Led → Prop} {Ψ : Fl → Led → Prop} {pos : Pos}
end
end Mine

open PySem PySem.W PyProof.Rows PySem.Calls
set_option Elab.async false
set_option linter.unusedVariables false
set_option maxRecDepth 100000
namespace Mine
theorem glue_nil : ∀ ps : List (List Nat), glue [] ps = ps.flatten
  | [] => rfl
  | [p] => by show p = p ++ []; rw [List.append_nil]
  | p :: q :: r => by
    show p ++ [] ++ glue [] (q :: r) = p ++ (q :: r).flatten
    rw [glue_nil (q :: r), List.append_nil]
theorem join_S (ds : List (List Nat)) : Txt.join ("" : Str) (ds.map S) = S ds.flatten := by
  rw [← S_of (Txt.join "" (ds.map S))]
  refine congrArg S ?_
  show (Builtin.Str.glued "" (ds.map S)).cps.toList = _
  rw [StrLaws.glued_eq_join, show ("" : Str) = S [] from rfl, join_glue, glue_nil, List.map_map]
  refine congrArg List.flatten ?_
  conv => rhs; rw [← List.map_id ds]
  exact List.map_congr_left fun x _ => S_cps x
section
variable {C : Cx} {A : Around} {env : Env} {R : Led} {Φ : V → Led → Prop} {pos : Pos}
theorem Sli.lstT {v : V} {vs : List V} (l : LstOf R v vs) (n : Nat) (hx : vs.length ≤ 16777216) (h : Φ (.lst (vs.take n)) R) : Sli C A v none (some (n : Int)) R Φ := fun z s w vl vu H t d pl pu => by
  obtain ⟨a, items, rfl, h1, d1⟩ := l.is H d
  obtain rfl : vl = .none := pl
  obtain ⟨tk, rfl⟩ := pu
  refine ⟨⟨"list", _, h1.typeIs, slot_list_getitem.lookup⟩, ?_⟩
  have hsz : items.size = vs.length := by rw [← Array.length_toList]; exact d1.length
  have H' : Rel C z R { s with heap := s.heap.push { cls := .type "slice", data := .fields #[.none, .int n tk, .none] } } := H.grown (t := s.toks) H.fresh H.notIn fun b o _ e => Heap.get?_push_of_some _ e
  have hl' : ({ s with heap := s.heap.push { cls := .type "slice", data := .fields #[.none, .int n tk, .none] } } : Shared).heap.IsList a items := by
    obtain ⟨o, ho, q⟩ := h1
    exact ⟨o, Heap.get?_push_of_some _ ho, q⟩
  refine wpAny_getItem_list_slice hl' (Heap.IsSliceOf.new _ _ _ _) .none (.int _ _) .none (by decide) ?_ (by rw [hsz, sizeLine_eq]; exact hx)
  rw [slicePick_upto']
  have d2 : DenL z (items.toList.take n) (vs.take n) := d1.take n
  obtain ⟨z', e', H'', d''⟩ := H'.pushL d2
  exact ⟨z', R, _, e', H'', d'', h⟩
end
end Mine

open PySem PySem.W PyProof.Rows PySem.Calls
set_option Elab.async false
set_option linter.unusedVariables false
set_option maxRecDepth 100000
namespace Mine
section
variable {C : Cx} {A : Around} {env : Env} {R : Led} {mg mb : Str → Option Value} {Φ : V → Led → Prop} {pos : Pos}
end
end Mine

open PySem PySem.W PyProof.Rows PySem.Calls
set_option Elab.async false
set_option linter.unusedVariables false
set_option maxRecDepth 100000
namespace Mine
theorem bindL_keep {kf : Str → Option NameKind} {x : Str} {u : Value} : ∀ {bs : List (Str × Value)} {m : Str → Option Value}, (∀ p ∈ bs, p.1 ≠ x) → m x = some u → bindL kf bs m x = some u
  | [], m, _, h => h
  | (n, v) :: bs, m, hn, h => by
    unfold bindL
    refine bindL_keep (fun p hp => hn p (.tail _ hp)) ?_
    have hne : x ≠ n := fun e => hn (n, v) (.head _) e.symm
    split
    · show (if x = n then some v else m x) = some u
      rw [if_neg hne]; exact h
    · exact h
theorem bindL_mem {kf : Str → Option NameKind} {x : Str} {u : Value} : ∀ {bs : List (Str × Value)} {m : Str → Option Value}, (∀ p ∈ bs, kf p.1 = some .local) → (bs.map (·.1)).Nodup → (x, u) ∈ bs → bindL kf bs m x = some u
  | (n, v) :: bs, m, hl, hn, h => by
    unfold bindL
    rw [if_pos (hl (n, v) (.head _))]
    obtain ⟨h1, h2⟩ := List.nodup_cons.mp hn
    rcases List.mem_cons.mp h with e | h
    · cases e
      exact bindL_keep (fun p hp e => h1 (e ▸ List.mem_map_of_mem (f := (·.1)) hp)) (if_pos rfl)
    · exact bindL_mem (fun p hp => hl p (.tail _ hp)) h2 h
theorem lookup_cell {cs : List (Str × Addr)} {n : Str} {c : Addr} : (cs.map (·.1)).Nodup → (n, c) ∈ cs → cs.lookup n = some c := by
  induction cs with
  | nil => intro _ h; cases h
  | cons p cs ih =>
    intro hn h
    obtain ⟨h1, h2⟩ := List.nodup_cons.mp hn
    rcases List.mem_cons.mp h with e | h
    · subst e; rw [List.lookup_cons, beq_self_eq_true]
    · have hne : n ≠ p.1 := fun e => h1 (by show p.1 ∈ _; rw [← e]; exact List.mem_map_of_mem (f := Prod.fst) h)
      rw [List.lookup_cons, beq_eq_false_iff_ne.mpr hne]; exact ih h2 h
section
variable {C : Cx} {A : Around} {R : Led} {mg mb : Str → Option Value} {Φ : V → Led → Prop}
theorem newEnvC {M : Model} {E : Value → Shared → Prop} {s : Shared} {scope : Scope} {globals : Addr} {n : Str} {v : Value} {qual : Str} {func : Option Addr} {code : Value} {builtins : Addr} {Q : Env → Shared → Prop}
    (hk : scope.kind = .function) (hl : scope.names.lookup n = some .local)
    (hQ : ∀ env, env = newEnv scope s.heap.objs.size globals (cellsFrom (s.heap.objs.size + 1) scope.names []) qual func code none builtins →
      ∀ s', InCallC s env.locals (bindL env.kindOf [(n, v)] fun _ => none) env.cells (bindC env.kindOf [(n, v)] fun _ => none) s' → 0 < s'.toks → Q env s') :
    wpAny M A (newFunctionEnv scope globals [] [(n, v)] qual func code none builtins) Q E s := by
  have key : ∀ (env : Env) (s₁ : Shared), env = newEnv scope s.heap.objs.size globals (cellsFrom (s.heap.objs.size + 1) scope.names []) qual func code none builtins →
      InCallC s env.locals (fun _ => none) env.cells (fun _ => none) s₁ → wpAny M A (do storeName env n v; pure env) Q E s₁ := by
    rintro env s₁ rfl x
    have hl' : (newEnv scope s.heap.objs.size globals (cellsFrom (s.heap.objs.size + 1) scope.names []) qual func code none builtins).kindOf n = some .local := hl
    refine wpAny_bind ?_
    refine wpAny_storeName_local hl' x.toInCall.ns (fun h' hn' hs' => wpAny_pure (hQ _ rfl _ ?_ (Nat.succ_pos _))) (by show (scope.kind == .class || (scope.kind == .module && _)) = false; rw [hk]; rfl)
    refine ⟨⟨?_, ?_, fun b o e => ?_, x.toInCall.fresh⟩, fun k c hc => ?_, x.apart, x.above⟩
    · obtain ⟨h₁, tk, rfl⟩ := x.toInCall.same
      exact ⟨h', _, rfl⟩
    · unfold bindL bindL; rw [if_pos hl']; exact hn'
    · exact hs'.extBut b o (Nat.ne_of_lt (Nat.lt_of_lt_of_le (Heap.lt_size e) x.toInCall.fresh)) (x.toInCall.keep b o e)
    · unfold bindC bindC; rw [if_pos hl']; exact (x.cell k c hc).sameBut hs' (Nat.ne_of_gt (x.above k c (mem_of_lookup hc)))
  have e : newFunctionEnv scope globals [] [(n, v)] qual func code none builtins = (do let env ← newFunctionEnv scope globals [] [] qual func code none builtins; storeName env n v; pure env) := by
    simp [newFunctionEnv]
  rw [e]
  refine wpAny_bind (wpAny_newFunctionEnv_cells hk (fun x hx => nomatch hx) fun env he s' x => key env s' he x)
abbrev cellR (cs : List (Str × Addr)) : Led := cs.map fun p => (p.2, Res.cell .any)
theorem fn_rawC {f : Addr} {fd : FuncData} {body : List Stmt} {n₁ : Str} {r : List Str} {vs : List V} {m : List (Str × V)} {z : Fz} {s : Shared} {us : List Value} (G : GX C mg mb) (F : FnAt C f fd body [n₁]) (b : Bnd [n₁] vs r m) (hn : ([n₁] ++ r).Nodup) (hd : A.depth < recursionLimit)
    (hclo : fd.closure = []) (hcs : ∀ L, ((cellsFrom (L + 1) fd.scope.names []).map (·.1)).Nodup) (hl : ∀ x ∈ [n₁], fd.scope.names.lookup x = some .local)
    (h : ∀ L, Ex C (A.deeper (callEnvC fd L f)) (callEnvC fd L f) body ((L, .ns m) :: (cellR (cellsFrom (L + 1) fd.scope.names []) ++ R)) (Back Φ)) (H : Rel C z R s) (ds : DenL z us vs) : codeAny C.M A (.call (.ref f) ⟨us, []⟩) (CRes C z Φ) s := by
  obtain ⟨o, ho, hdat⟩ := F.at_
  have hlen : us.length = [n₁].length := ds.length.trans b.keys.2
  obtain ⟨u₁, rfl⟩ : ∃ u, us = [u] := List.length_eq_one_iff.mp hlen
  have hzk : ([n₁].zip [u₁]).map (·.1) = [n₁] := zip_keys hlen
  have hloc : ∀ p ∈ [n₁].zip [u₁], fd.scope.names.lookup p.1 = some .local := fun p hp => hl p.1 (by rw [← hzk]; exact List.mem_map_of_mem (f := (·.1)) hp)
  have hnz : (([n₁].zip [u₁]).map (·.1)).Nodup := by rw [hzk]; exact (List.nodup_append.mp hn).1
  refine codeAny_call_function hd (H.keepB _ _ ho) hdat F.co F.gen F.body (F.code.keeps H.keepB) ?_
  rw [F.bind [u₁] hlen, hclo]
  refine wpAny_pure (newEnvC F.kind (hl n₁ (.head _)) fun env he s₁ x t₁ => ?_)
  subst he
  change InCallC s (callEnvC fd s.heap.objs.size f).locals (bindL (callEnvC fd s.heap.objs.size f).kindOf ([n₁].zip [u₁]) fun _ => none) (callEnvC fd s.heap.objs.size f).cells (bindC (callEnvC fd s.heap.objs.size f).kindOf ([n₁].zip [u₁]) fun _ => none) s₁ at x
  refine ⟨G.nolimit.keeps fun b o e => x.toInCall.keep b o (H.keepB _ _ e), codeAny_func ?_⟩
  obtain ⟨h₁, tk, hsame⟩ := x.toInCall.same
  have zf : ∀ a, s.heap.objs.size ≤ a → z a = none := fun a ha => by
    cases e : z a with
    | none => rfl
    | some o => exact absurd (Heap.lt_size (H.kept _ _ e)) (Nat.not_lt.mpr ha)
  have rl : ∀ p ∈ R, p.1 < s.heap.objs.size := fun p hp => by
    obtain ⟨o, e⟩ := (H.res p hp).1.there
    exact Heap.lt_size e
  have hns : ResAt z s₁.heap s.heap.objs.size (.ns m) := ⟨b.keys.1 ▸ hn, _, x.toInCall.ns, fun p hp => (b.mem ds p hp).imp id fun ⟨u, a, c⟩ => ⟨u, bindL_mem (fun q hq => hloc q hq) hnz a, c⟩⟩
  have Hs : Rel C z ((s.heap.objs.size, .ns m) :: (cellR (cellsFrom (s.heap.objs.size + 1) fd.scope.names []) ++ R)) s₁ := by
    refine ⟨H.base, fun a o e => x.toInCall.keep a o (H.kept a o e), fun p hp => ?_, ?_, by rw [hsame]; exact H.gens, by rw [hsame]; exact H.os⟩
    · rcases List.mem_cons.mp hp with rfl | hp
      · exact ⟨hns, zf _ (Nat.le_refl _)⟩
      · rcases List.mem_append.mp hp with hp | hp
        · obtain ⟨q, hq, rfl⟩ := List.mem_map.mp hp
          have ha : s.heap.objs.size < q.2 := x.above q.1 q.2 hq
          exact ⟨⟨_, x.cell q.1 q.2 (lookup_cell (hcs _) hq), .inl rfl⟩, zf _ (Nat.le_of_lt ha)⟩
        · exact ⟨(H.res p hp).1.keeps (Ext.refl _) fun o e => x.toInCall.keep _ o e, (H.res p hp).2⟩
    · rw [List.map_cons, List.map_append, List.nodup_cons, List.nodup_append]
      have hmm : (cellR (cellsFrom (s.heap.objs.size + 1) fd.scope.names [])).map (·.1) = (cellsFrom (s.heap.objs.size + 1) fd.scope.names []).map (·.2) := by rw [List.map_map]; rfl
      have hab : ∀ a ∈ (cellsFrom (s.heap.objs.size + 1) fd.scope.names []).map (·.2), s.heap.objs.size < a := fun a ha => by
        obtain ⟨q, hq, rfl⟩ := List.mem_map.mp ha
        exact x.above q.1 q.2 hq
      have hrr : ∀ a ∈ R.map (·.1), a < s.heap.objs.size := fun a ha => by
        obtain ⟨q, hq, rfl⟩ := List.mem_map.mp ha
        exact rl q hq
      rw [hmm]
      refine ⟨fun hm => ?_, List.pairwise_map.mpr x.apart, H.nodup, fun a ha c hc e => ?_⟩
      · rcases List.mem_append.mp hm with hm | hm
        · exact Nat.lt_irrefl _ (hab _ hm)
        · exact Nat.lt_irrefl _ (hrr _ hm)
      · subst e; exact Nat.lt_irrefl _ (Nat.lt_trans (hab _ ha) (hrr _ hc))
  refine wpNo t₁ (h _ z _ Hs t₁) fun fl s' t' ⟨z', R', g, e', H'', d', R'', wk, p⟩ => ?_
  refine ⟨z', R'', g.val, e', H''.wk wk, ?_, p⟩
  cases d' with
  | ret d => exact d
  | next => exact .none
  | brk => exact .none
  | cont => exact .none
end
end Mine

open PySem PySem.W PyProof.Rows PySem.Calls
set_option Elab.async false
set_option linter.unusedVariables false
set_option maxRecDepth 100000
namespace Mine
section
variable {C : Cx} {A : Around} {env : Env} {R : Led} {mg mb : Str → Option Value} {Φ : V → Led → Prop} {pos : Pos}
theorem Cl.isiBool {n : Int} (h : Φ (.bool false) R) : Cl C A (.bi "isinstance") [.int n, .ty "bool"] R Φ := fun z s u us H t d ds => by
  cases d
  cases ds with | cons d1 d2 => cases d1; cases d2 with | cons d3 d4 => cases d3; cases d4; exact IsiPair.int_bool (.mk (H.toks _) (.bool _) h)
end
theorem entryC {prog : Program} {w : World} {s₁ : Shared} {mg mb : Str → Option Value} {f a : Addr} {fd : FuncData} {body : List Stmt} {r : List Str} {m : List (Str × V)} {items : List Value} {xs : List Int} {P : Result → Shared → Prop} {A : Around}
    (G : GX ⟨prog, w, s₁.heap, s₁.os⟩ mg mb) (F : FnAt ⟨prog, w, s₁.heap, s₁.os⟩ f fd body ["script"]) (hg : s₁.gens = #[]) (hL : s₁.heap.IsList a items.toArray) (hI : IntsAre items xs)
    (b : Bnd ["script"] [.lst (xs.map V.int)] r m) (hn : ((["script"] : List Str) ++ r).Nodup) (hd : A.depth < recursionLimit)
    (hclo : fd.closure = []) (hcs : ∀ L, ((cellsFrom (L + 1) fd.scope.names []).map (·.1)).Nodup) (hl : ∀ x ∈ (["script"] : List Str), fd.scope.names.lookup x = some .local)
    (h : ∀ L, Ex ⟨prog, w, s₁.heap, s₁.os⟩ (A.deeper (callEnvC fd L f)) (callEnvC fd L f) body ((L, .ns m) :: (cellR (cellsFrom (L + 1) fd.scope.names []) ++ [])) (fun g R => g.val = .bool true))
    (hP : ∀ s', (∀ b o, s₁.heap.get? b = some o → s'.heap.get? b = some o) → s'.os = s₁.os → s'.gens = #[] → P (.ok (.ret (.bool true))) s') :
    codeAny (model prog w) A (.call (.ref f) ⟨[.ref a], []⟩) P s₁ := by
  have H : Rel ⟨prog, w, s₁.heap, s₁.os⟩ s₁.heap.get? [] s₁ := ⟨fun _ _ e => e, fun _ _ e => e, (fun _ h => nomatch h), List.nodup_nil, hg, rfl⟩
  obtain ⟨o, ho, hcl, n, hdat⟩ := hL
  have d : Den s₁.heap.get? (.ref a) (.lst (xs.map V.int)) := .lst ho hcl hdat (by simpa using den_ints hI)
  refine codeAny_mono (fn_rawC (Φ := fun v _ => v = .bool true) G F b hn hd hclo hcs hl (fun L => (h L).mono fun g R e => ⟨R, .rest, e⟩) H (.cons d .nil)) fun res s' q => ?_
  rcases res with e | (_ | _ | _ | v)
  · exact q.elim
  · exact q.elim
  · exact q.elim
  · exact q.elim
  · obtain ⟨z', R', v', e', H', d', rfl⟩ := q
    cases d'
    exact hP s' H'.keepB H'.os H'.gens
theorem entryD {prog : Program} {w : World} {s₁ : Shared} {mg mb : Str → Option Value} {f a : Addr} {fd fd' : FuncData} {body body' : List Stmt} {r : List Str} {m : List (Str × V)} {items : List Value} {xs : List Int} {P : Result → Shared → Prop} {A : Around} {RC : Addr → Led}
    (G : GX ⟨prog, w, s₁.heap, s₁.os⟩ mg mb) (hE : ∀ L, callEnvC fd L f = callEnvC fd' L f) (hS : fd.scope = fd'.scope) (hB : body = body') (hR : ∀ L, cellR (cellsFrom (L + 1) fd'.scope.names []) = RC L) (F : FnAt ⟨prog, w, s₁.heap, s₁.os⟩ f fd body ["script"]) (hg : s₁.gens = #[]) (hL : s₁.heap.IsList a items.toArray) (hI : IntsAre items xs)
    (b : Bnd ["script"] [.lst (xs.map V.int)] r m) (hn : ((["script"] : List Str) ++ r).Nodup) (hd : A.depth < recursionLimit)
    (hclo : fd.closure = []) (hcs : ∀ L, ((cellsFrom (L + 1) fd'.scope.names []).map (·.1)).Nodup) (hl : ∀ x ∈ (["script"] : List Str), fd'.scope.names.lookup x = some .local)
    (h : ∀ L, Ex ⟨prog, w, s₁.heap, s₁.os⟩ (A.deeper (callEnvC fd' L f)) (callEnvC fd' L f) body' ((L, .ns m) :: RC L) (fun g R => g.val = .bool true))
    (hP : ∀ s', (∀ b o, s₁.heap.get? b = some o → s'.heap.get? b = some o) → s'.os = s₁.os → s'.gens = #[] → P (.ok (.ret (.bool true))) s') :
    codeAny (model prog w) A (.call (.ref f) ⟨[.ref a], []⟩) P s₁ := by
  subst hB
  refine entryC G F hg hL hI b hn hd hclo (by rw [hS]; exact hcs) (by rw [hS]; exact hl) (fun L => ?_) hP
  rw [hE, hS, hR, List.append_nil]
  exact h L
end Mine

open PySem PySem.W PyProof.Rows PySem.Calls
set_option Elab.async false
set_option linter.unusedVariables false
set_option maxRecDepth 100000
namespace Mine
section
variable {C : Cx} {A : Around} {env : Env} {R : Led} {Φ : V → Led → Prop} {pos : Pos}
end
end Mine

open PySem PySem.W PyProof.Rows PySem.Calls
set_option Elab.async false
set_option linter.unusedVariables false
set_option maxRecDepth 100000
namespace Mine
structure Walk (C : Cx) (A : Around) (z₁ : Fz) (it : Addr) (vs : List V) (St : Nat → Obj → Prop) : Prop where
  item : ∀ {z : Fz} {R : Led} {s : Shared} {i : Nat} {o : Obj} {Q : Option Value → Shared → Prop} {E : Value → Shared → Prop} {v : V}, Ext z₁ z → Rel C z R s → (it, .obj o) ∈ R → St i o → vs[i]? = some v → 0 < s.toks →
    (∀ h' tk u o', 0 < tk → Heap.SameBut it s.heap h' → h'.get? it = some o' → St (i + 1) o' → Den z u v → Q (some u) { s with heap := h', toks := tk }) → wpAny C.M A (pyNext (.ref it)) Q E s
  done : ∀ {z : Fz} {R : Led} {s : Shared} {o : Obj} {Q : Option Value → Shared → Prop} {E : Value → Shared → Prop}, Ext z₁ z → Rel C z R s → (it, .obj o) ∈ R → St vs.length o →
    (∀ h', Heap.ExtBut it s.heap h' → Q none { s with heap := h' }) → wpAny C.M A (pyNext (.ref it)) Q E s
  self : ∀ {z : Fz} {R : Led} {s : Shared} {i : Nat} {o : Obj} {Q : Value → Shared → Prop} {E : Value → Shared → Prop}, Rel C z R s → (it, .obj o) ∈ R → St i o → Q (.ref it) s → wpAny C.M A (pyIter (.ref it)) Q E s
def Itb (C : Cx) (A : Around) (v : V) (vs : List V) (R : Led) : Prop := ∀ {z : Fz} {s : Shared} {u : Value} {Q : Value → Shared → Prop} {E : Value → Shared → Prop}, Rel C z R s → Den z u v →
  (∀ o St, o.isFreed = false → Walk C A z s.heap.objs.size vs St → St 0 o → Q (.ref s.heap.objs.size) { s with heap := s.heap.push o }) → wpAny C.M A (pyIter u) Q E s
section
variable {C : Cx} {A : Around} {env : Env} {R : Led} {mg mb : Str → Option Value} {Φ : V → Led → Prop} {Ψ : Fl → Led → Prop} {pos : Pos}
theorem Itb.lst {vs : List V} (hh : A.handled = none) : Itb C A (.lst vs) vs R := fun {z s u Q E} H d h => by
  cases d with
  | @lst a ol items n _ hz hc hdat ds =>
    have hl : s.heap.IsList a items := ⟨ol, H.kept _ _ hz, hc, n, hdat⟩
    have hsz : items.size = vs.length := by rw [← Array.length_toList]; exact ds.length
    refine wpAny_pyIter_list hl (h _ (fun i o => o.cls = .type "list_iterator" ∧ o.data = .fields #[.ref a, .int (i : Nat) 0]) rfl ⟨?_, ?_, ?_⟩ ⟨rfl, rfl⟩)
    · intro z' R' s' i o Q E v e H' ho st hv t hQ
      have hit : s'.heap.IsListIter s.heap.objs.size a i := ⟨o, (H'.res _ ho).1, st.1, st.2⟩
      have hl' : s'.heap.IsList a items := ⟨ol, H'.kept _ _ (e _ _ hz), hc, _, hdat⟩
      obtain ⟨x, hx, dx⟩ := (ds.mono e).get hv
      refine wpAny_pyNext_list_item hit hl' (x := x) (by simpa using hx) fun h₂ hit₂ hs₂ => ?_
      obtain ⟨o₂, ho₂, oc₂, od₂⟩ := id hit₂
      exact hQ h₂ s'.toks x o₂ t hs₂ ho₂ ⟨oc₂, od₂⟩ dx
    · intro z' R' s' o Q E e H' ho st hQ
      have hit : s'.heap.IsListIter s.heap.objs.size a vs.length := ⟨o, (H'.res _ ho).1, st.1, st.2⟩
      have hl' : s'.heap.IsList a items := ⟨ol, H'.kept _ _ (e _ _ hz), hc, _, hdat⟩
      exact wpAny_pyNext_list_end hh hit hl' (by simp; omega) hQ
    · intro z' R' s' i o Q E H' ho st hQ
      exact wpAny_pyIter_listiter (i := i) (l := a) ⟨o, (H'.res _ ho).1, st.1, st.2⟩ hQ
theorem Itb.str {l : List Nat} (hh : A.handled = none) : Itb C A (.str (S l)) (l.map fun c => .str (S [c])) R := fun {z s u Q E} H d h => by
  cases d with
  | str _ t =>
    have sg : ∀ (i c : Nat), l[i]? = some c → (S l).cps[i]? = some c := fun i c e => by show l.toArray[i]? = some c; rw [List.getElem?_toArray]; exact e
    have sn : (S l).cps[l.length]? = none := by show l.toArray[l.length]? = none; rw [List.getElem?_toArray]; simp
    have gv : ∀ {i : Nat} {v : V}, (l.map fun c => V.str (S [c]))[i]? = some v → ∃ c, l[i]? = some c ∧ v = .str (S [c]) := fun {i v} e => by
      rw [List.getElem?_map] at e
      obtain ⟨c, h1, h2⟩ := Option.map_eq_some_iff.mp e
      exact ⟨c, h1, h2.symm⟩
    cases ha : (S l).cps.all (· < 128) with
    | false =>
      refine wpAny_pyIter_wide ha (h _ (fun i o => o.cls = .type "str_iterator" ∧ o.data = .fields #[.str (S l) t, .int (i : Nat) 0]) rfl ⟨?_, ?_, ?_⟩ ⟨rfl, rfl⟩)
      · intro z' R' s' i o Q E v e H' ho st hv tk hQ
        obtain ⟨c, hc, rfl⟩ := gv hv
        refine wpAny_pyNext_wide_item (i := i) (x := S l) (t := t) ⟨o, (H'.res _ ho).1, st.1, st.2⟩ (sg i c hc) fun h' hit' hs' => ?_
        obtain ⟨o₂, ho₂, oc₂, od₂⟩ := id hit'
        exact hQ h' (s'.toks + 1) _ o₂ (Nat.succ_pos _) hs' ho₂ ⟨oc₂, od₂⟩ (.str _ _)
      · intro z' R' s' o Q E e H' ho st hQ
        rw [List.length_map] at st
        exact wpAny_pyNext_wide_end hh (i := l.length) (x := S l) (t := t) ⟨o, (H'.res _ ho).1, st.1, st.2⟩ sn hQ
      · intro z' R' s' i o Q E H' ho st hQ
        exact wpAny_pyIter_striter_wide (i := i) (x := S l) (t := t) ⟨o, (H'.res _ ho).1, st.1, st.2⟩ hQ
    | true =>
      refine wpAny_pyIter_ascii ha (h _ (fun i o => o.cls = .type "str_ascii_iterator" ∧ o.data = .fields #[.str (S l) t, .int (i : Nat) 0]) rfl ⟨?_, ?_, ?_⟩ ⟨rfl, rfl⟩)
      · intro z' R' s' i o Q E v e H' ho st hv tk hQ
        obtain ⟨c, hc, rfl⟩ := gv hv
        refine wpAny_pyNext_ascii_item (i := i) (x := S l) (t := t) ⟨o, (H'.res _ ho).1, st.1, st.2⟩ (sg i c hc) fun h' hit' hs' => ?_
        obtain ⟨o₂, ho₂, oc₂, od₂⟩ := id hit'
        exact hQ h' (s'.toks + 1) _ o₂ (Nat.succ_pos _) hs' ho₂ ⟨oc₂, od₂⟩ (.str _ _)
      · intro z' R' s' o Q E e H' ho st hQ
        rw [List.length_map] at st
        exact wpAny_pyNext_ascii_end hh (i := l.length) (x := S l) (t := t) ⟨o, (H'.res _ ho).1, st.1, st.2⟩ sn hQ
      · intro z' R' s' i o Q E H' ho st hQ
        exact wpAny_pyIter_striter_ascii (i := i) (x := S l) (t := t) ⟨o, (H'.res _ ho).1, st.1, st.2⟩ hQ
def TsL (C : Cx) (A : Around) (env : Env) : List Expr → Led → (Bool → Led → Prop) → Prop
  | [], R, Φ => Φ true R
  | [c], R, Φ => Ts C A env c R Φ
  | _, _, _ => False
theorem TsL.nil {Φ : Bool → Led → Prop} (h : Φ true R) : TsL C A env [] R Φ := h
theorem TsL.one {c : Expr} {Φ : Bool → Led → Prop} (h : Ts C A env c R Φ) : TsL C A env [c] R Φ := h
theorem TsL.sound {ifs : List Expr} {Φ : Bool → Led → Prop} {z : Fz} {s : Shared} {Q : Bool → Shared → Prop} (h : TsL C A env ifs R Φ) (H : Rel C z R s) (t : 0 < s.toks)
    (k : ∀ z' R' b s', Ext z z' → Rel C z' R' s' → 0 < s'.toks → Φ b R' → Q b s') :
    wpAny C.M A (forIn ifs true fun c r => if r = true then do let ok ← isTrue c env (eval c env); pure (ForInStep.yield ok) else pure (ForInStep.yield r)) Q NoE s := by
  match ifs, h with
  | [], h => exact wpAny_tests_nil (k z R true s (Ext.refl _) H t h)
  | [c], h => exact wpAny_tests_one (Ts.then h H t k)
  | _ :: _ :: _, h => exact h.elim
theorem Ev.compWk {elt iter : Expr} {x : Str} {px p : Pos} {ifs : List Expr} {scope : Scope} {cl : List (Str × Addr)} (I : List V → List V → Led → Prop)
    (h : Ev C A env iter R fun v R₁ => ∃ vs R₂, Itb C A v vs R₁ ∧ vs.length ≤ 100000 ∧ Wk R₁ R₂ ∧ I vs [] R₂)
    (turn : ∀ c it o D v rest ws R, I (v :: rest) ws R → TsL C A (compEnvC scope cl c env) ifs ((c, .ns [(x, v)]) :: (it, .obj o) :: (D, .list ws) :: R) fun ok R₁ =>
      if ok = true then Ev C A (compEnvC scope cl c env) elt R₁ fun w R' => ∃ R'', Wk R' ((c, .ns [(x, .any)]) :: (it, .obj o) :: (D, .list ws) :: R'') ∧ I rest (ws ++ [w]) R''
      else ∃ R'', Wk R₁ ((c, .ns [(x, .any)]) :: (it, .obj o) :: (D, .list ws) :: R'') ∧ I rest ws R'')
    (fin : ∀ D ws R, I [] ws R → Φ (.ref D) ((D, .list ws) :: R))
    (hclos : closureFor scope env = pure cl) (hcell : ∀ y ∈ scope.names, y.2 ≠ .cell) (hkind : scope.kind = .function) (hnames : ∀ y ∈ scope.names, y.2 = .local → scope.names.lookup y.1 = some .local) (hx : scope.names.lookup x = some .local)
    (hs : ∀ x, foldedSetIterable iter env x = pure x := by intro _; rfl) : Ev C A env (.ListComp elt [⟨.Name x px, iter, ifs, 0⟩] scope p) R Φ := fun z s H t => by
  rw [eval_ListComp]
  refine wpAny_comprehension_free (g := ⟨.Name x px, iter, ifs, 0⟩) (gs := []) (use := Option.none) rfl hs hclos hkind hnames (h.then H t fun z₁ R₁ v u s₁ e₁ H₁ t₁ d₁ h₁ => ?_)
  obtain ⟨vs, R₀, hit, hn, hwk, hI⟩ := h₁
  refine hit H₁ d₁ fun o₀ St hfr W hst => ?_
  have Hp : Rel C z₁ ((s₁.heap.objs.size, .obj o₀) :: R₀) { s₁ with heap := s₁.heap.push o₀ } := (H₁.wk hwk).pushR (r := .obj _) (Heap.get?_push_size _ hfr)
  generalize hs2 : ({ s₁ with heap := s₁.heap.push o₀ } : Shared) = s₂ at Hp
  have t₂ : 0 < s₂.toks := by rw [← hs2]; exact t₁
  generalize s₁.heap.objs.size = it at Hp W ⊢
  have Hq := Hp.pushM (us := []) (vs := []) .nil
  refine wpAny_newObj_type (wpAny_newFunctionEnv hcell (by intro y hy; simp at hy) (fun h₂ hns hsb => ?_) hkind)
  dsimp only at hns hsb ⊢
  generalize s₂.heap.objs.size = D at Hq hns hsb ⊢
  generalize hs3 : ({ s₂ with heap := s₂.heap.push { cls := .type "list", data := .seq ([] : List Value).toArray } } : Shared) = s₃ at Hq
  have t₃ : 0 < s₃.toks := by rw [← hs3]; exact t₂
  have eh : s₂.heap.push { cls := .type "list", data := .seq ([] : List Value).toArray } = s₃.heap := by rw [← hs3]
  have eall : ∀ (h' : Heap) (k : Nat), ({ s₂ with heap := h', toks := k } : Shared) = { s₃ with heap := h', toks := k } := fun h' k => by rw [← hs3]
  rw [eh] at hns hsb ⊢
  rw [eall]
  have Hr : Rel C z₁ ((s₃.heap.objs.size, .ns [(x, .any)]) :: (D, .list []) :: (it, .obj o₀) :: R₀) { s₃ with heap := h₂, toks := s₂.toks + ([] : List (Str × Value)).length } :=
    Hq.more (r := .ns [(x, .any)]) ⟨by simp, _, hns, fun q hq => .inl (by rw [List.mem_singleton.mp hq])⟩ Hq.fresh Hq.notIn fun b o hb e => hsb.extBut b o hb (Heap.get?_push_of_some _ e)
  have Hr' := Hr.wk (.same (.perm (List.Perm.swap _ _ _) .rest))
  generalize s₃.heap.objs.size = c at Hr' ⊢
  have t₄ : 0 < ({ s₃ with heap := h₂, toks := s₂.toks + ([] : List (Str × Value)).length } : Shared).toks := by show 0 < s₂.toks + 0; omega
  generalize ({ s₃ with heap := h₂, toks := s₂.toks + ([] : List (Str × Value)).length } : Shared) = s₄ at Hr' t₄ ⊢
  have loop : ∀ s₅ : Shared, s₅ = s₄ → codeAny C.M A (.compLoop (.ListComp elt [⟨.Name x px, iter, ifs, 0⟩] scope p) 0 (.ref it) (.ref D) (compEnvC scope cl c env)) (compPost C.M A NoE Option.none (VPost C z Φ) (.ref D) c) s₅ := by
    rintro s₅ rfl
    refine codeAny_compLoop_tests (fun m s' => ∃ z' R' i o ws, m = vs.length - i ∧ i ≤ vs.length ∧ Ext z₁ z' ∧ 0 < s'.toks ∧ Rel C z' ((c, .ns [(x, .any)]) :: (it, .obj o) :: (D, .list ws) :: R') s' ∧ St i o ∧ I (vs.drop i) ws R' ∧ ws.length ≤ i) ?_ vs.length ⟨z₁, R₀, 0, _, [], rfl, Nat.zero_le _, Ext.refl _, t₄, Hr', hst, by simpa using hI, Nat.le_refl _⟩
    rintro m s' ⟨z', R', i, o, ws, hm, hi, e', t', H', st, hI', hws⟩
    by_cases hlt : i < vs.length
    · refine W.item (i := i) (v := vs[i]) e' H' (.tail _ (.head _)) st (by simp [hlt]) t' fun h₂ tk xv o₂ htk hs₂ ho₂ st₂ dx => ?_
      have H₂ : Rel C z' ((c, .ns [(x, .any)]) :: (it, .obj o₂) :: (D, .list ws) :: R') { s' with heap := h₂, toks := tk } := H'.upd (t := tk) (.there .here) hs₂ ho₂
      have hdr : vs.drop i = vs[i] :: vs.drop (i + 1) := List.drop_eq_getElem_cons hlt
      rw [hdr] at hI'
      have T : As C A (compEnvC scope cl c env) (.Name x px) vs[i] ((c, .ns [(x, .any)]) :: (it, .obj o₂) :: (D, .list ws) :: R') (fun R₀ => R₀ = (c, .ns [(x, vs[i])]) :: (it, .obj o₂) :: (D, .list ws) :: R') :=
        As.name (Sto.loc memH Put.here Upd.here rfl (lookup_relabel_local hx) rfl (by simp [compEnvC, relabel, hkind]))
      have main : wpAny C.M A (PySem.assign (.Name x px) (compEnvC scope cl c env) xv) (fun _ s₂ =>
          wpAny C.M A (forIn ifs true fun c' r => if r = true then do let ok ← isTrue c' (compEnvC scope cl c env) (eval c' (compEnvC scope cl c env)); pure (ForInStep.yield ok) else pure (ForInStep.yield r)) (fun ok s₃ =>
            if ok = true then wpAny C.M A (eval elt (compEnvC scope cl c env)) (fun y s₃ => wpAny C.M A (call (.builtin "list.append") [.ref D, y])
              (fun _ s₄ => ∃ m', m' < m ∧ ∃ z' R' i o ws, m' = vs.length - i ∧ i ≤ vs.length ∧ Ext z₁ z' ∧ 0 < s₄.toks ∧ Rel C z' ((c, .ns [(x, .any)]) :: (it, .obj o) :: (D, .list ws) :: R') s₄ ∧ St i o ∧ I (vs.drop i) ws R' ∧ ws.length ≤ i) NoE s₃) NoE s₃
            else ∃ m', m' < m ∧ ∃ z' R' i o ws, m' = vs.length - i ∧ i ≤ vs.length ∧ Ext z₁ z' ∧ 0 < s₃.toks ∧ Rel C z' ((c, .ns [(x, .any)]) :: (it, .obj o) :: (D, .list ws) :: R') s₃ ∧ St i o ∧ I (vs.drop i) ws R' ∧ ws.length ≤ i) NoE s₂) NoE { s' with heap := h₂, toks := tk } := by
        refine T.then H₂ htk dx fun z₃ R₃ s₃ e₃ H₃ t₃ h₃ => ?_
        subst h₃
        refine (turn c it o₂ D vs[i] (vs.drop (i + 1)) ws R' hI').sound H₃ t₃ fun z₅ R₅ ok s₅ e₅ H₅ t₅ h₅ => ?_
        cases ok with
        | true =>
          simp only [if_true] at h₅ ⊢
          refine h₅.then H₅ t₅ fun z₄ R₄ w u s₄ e₄ H₄ t₄ d₄ h₄ => ?_
          obtain ⟨R₆, wk, hI₅⟩ := h₄
          refine wpNo t₄ ((Cl.append (C := C) (A := A) (a := D) (vs := ws) (v := w) (Φ := fun _ R' => R' = (c, .ns [(x, .any)]) :: (it, .obj o₂) :: (D, .list (ws ++ [w])) :: R₆) (.there (.there .here)) (by omega) rfl) z₄ s₄ _ _ (H₄.wk wk) t₄ (.bi _) (.cons (.ref D) (.cons d₄ .nil))) fun y s₅ t₅ q => ?_
          obtain ⟨z₅', R₇, v₅, e₅', H₅', d₅, rfl⟩ := q
          exact ⟨vs.length - (i + 1), by omega, z₅', R₆, i + 1, o₂, ws ++ [w], rfl, hlt, (((e'.trans e₃).trans e₅).trans e₄).trans e₅', t₅, H₅', st₂, hI₅, by rw [List.length_append]; show ws.length + 1 ≤ _; omega⟩
        | false =>
          simp only [Bool.false_eq_true, if_false] at h₅ ⊢
          obtain ⟨R₆, wk, hI₅⟩ := h₅
          exact ⟨vs.length - (i + 1), by omega, z₅, R₆, i + 1, o₂, ws, rfl, hlt, (e'.trans e₃).trans e₅, t₅, H₅.wk wk, st₂, hI₅, by omega⟩
      dsimp only
      refine wpAny_mono main (fun _ s₂ q => wpAny_mono q (fun ok s₃ q => ?_) fun _ _ x => x.elim) fun _ _ x => x.elim
      cases ok with
      | true =>
        simp only [if_true] at q ⊢
        exact wpAny_mono q (fun _ s₃ q => wpAny_mono q (fun _ _ r => r) fun _ _ x => x.elim) fun _ _ x => x.elim
      | false => exact q
    · obtain rfl : i = vs.length := by omega
      refine W.done e' H' (.tail _ (.head _)) st fun h₂ he₂ => ?_
      have hnil : vs.drop vs.length = [] := by simp
      rw [hnil] at hI'
      have Hs := H'.wk (.perm (List.Perm.swap _ _ _) .rest)
      have hne : it ∉ (((c, Res.ns [(x, V.any)]) :: (D, Res.list ws) :: R') : Led).map (·.1) := (List.nodup_cons.mp Hs.nodup).1
      have hz0 : z' it = Option.none := (Hs.res _ (.head _)).2
      have H₂ : Rel C z' ((c, .ns [(x, .any)]) :: (D, .list ws) :: R') { s' with heap := h₂ } := (Hs.tail).grown (t := s'.toks) hz0 hne he₂
      obtain ⟨⟨_, g, hN, _⟩, hz1⟩ := H₂.res _ (.head _)
      have hne1 : c ∉ (((D, Res.list ws) :: R') : Led).map (·.1) := (List.nodup_cons.mp H₂.nodup).1
      exact ⟨g, hN, fun h₃ hs₃ => ⟨z', (D, .list ws) :: R', .ref D, e₁.trans e', (H₂.tail).grown (t := s'.toks) hz1 hne1 hs₃.extBut, .ref D, fin D ws R' hI'⟩⟩
  exact codeAny_compStart_list (loop _ rfl) (W.self Hr' (.tail _ (.head _)) hst (loop _ rfl))
theorem Ev.compW {elt iter : Expr} {x : Str} {px p : Pos} {ifs : List Expr} {scope : Scope} {cl : List (Str × Addr)} (I : List V → List V → Led → Prop)
    (h : Ev C A env iter R fun v R₁ => ∃ vs, Itb C A v vs R₁ ∧ vs.length ≤ 100000 ∧ I vs [] R₁)
    (turn : ∀ c it o D v rest ws R, I (v :: rest) ws R → TsL C A (compEnvC scope cl c env) ifs ((c, .ns [(x, v)]) :: (it, .obj o) :: (D, .list ws) :: R) fun ok R₁ =>
      if ok = true then Ev C A (compEnvC scope cl c env) elt R₁ fun w R' => ∃ R'', Wk R' ((c, .ns [(x, .any)]) :: (it, .obj o) :: (D, .list ws) :: R'') ∧ I rest (ws ++ [w]) R''
      else ∃ R'', Wk R₁ ((c, .ns [(x, .any)]) :: (it, .obj o) :: (D, .list ws) :: R'') ∧ I rest ws R'')
    (fin : ∀ D ws R, I [] ws R → Φ (.ref D) ((D, .list ws) :: R))
    (hclos : closureFor scope env = pure cl) (hcell : ∀ y ∈ scope.names, y.2 ≠ .cell) (hkind : scope.kind = .function) (hnames : ∀ y ∈ scope.names, y.2 = .local → scope.names.lookup y.1 = some .local) (hx : scope.names.lookup x = some .local)
    (hs : ∀ x, foldedSetIterable iter env x = pure x := by intro _; rfl) : Ev C A env (.ListComp elt [⟨.Name x px, iter, ifs, 0⟩] scope p) R Φ :=
  Ev.compWk (cl := cl) I (h.mono fun v R₁ ⟨vs, a, b, c⟩ => ⟨vs, R₁, a, b, .rest, c⟩) turn fin hclos hcell hkind hnames hx hs
end
end Mine

open PySem PySem.W PyProof.Rows PySem.Calls
set_option Elab.async false
set_option linter.unusedVariables false
set_option maxRecDepth 100000
namespace Mine
section
variable {C : Cx} {A : Around} {env : Env} {R : Led} {Φ : V → Led → Prop} {pos : Pos}
theorem Cmp.inL {a b : V} {ws : List V} {x : PyData} {ds : List PyData} {Φ : Bool → Led → Prop} (hb : LstOf R b ws) (hd : V.datas ws = some ds) (ha : a.data = some x) (h1 : PyData.canLayAll0 ds = true) (h2 : x.canLay0 = true) (h3 : x.depth ≤ 60) (hu : A.units + 64 < cLine)
    (h : Φ (ds.any fun y => PyData.eqv y x) R) : Cmp C A .In a b R Φ := fun z s u v H t d e => by
  obtain ⟨as, r⟩ := d.reads H.kept ha
  obtain ⟨l, its, rfl, hl, dl⟩ := hb.is H e
  obtain ⟨bs, rs⟩ := dl.reads H.kept hd
  obtain ⟨o, ho, hc, n, hdat⟩ := hl
  refine SeqAt.in_list_reads (reads_list_at ho hc hdat rs) r h1 h2 ?_ (bp H h)
  have : min (PyData.depthAll ds) x.depth ≤ x.depth := Nat.min_le_right _ _
  omega
end
end Mine

open PySem PySem.W PyProof.Rows PySem.Calls
set_option Elab.async false
set_option linter.unusedVariables false
set_option maxRecDepth 100000
namespace Mine
inductive Cpr {α : Type} (all : List α) (φ : α → V) (F : List α → List V) (R0 : Led) (vs ws : List V) (R : Led) : Prop where
  | mk (done todo : List α) : all = done ++ todo → vs = todo.map φ → ws = F done → R = R0 → Cpr all φ F R0 vs ws R
section
variable {C : Cx} {A : Around} {env : Env} {R : Led} {Φ : V → Led → Prop} {pos : Pos}
theorem Ev.compG {α : Type} {elt iter : Expr} {x : Str} {px p : Pos} {ifs : List Expr} {scope : Scope} {cl : List (Str × Addr)} (all : List α) (φ : α → V) (F : List α → List V)
    (h : Ev C A env iter R fun v R₁ => Itb C A v (all.map φ) R₁ ∧ all.length ≤ 100000 ∧ Wk R₁ R) (hF : F [] = [])
    (turn : ∀ c it o D done a todo, all = done ++ a :: todo → TsL C A (compEnvC scope cl c env) ifs ((c, .ns [(x, φ a)]) :: (it, .obj o) :: (D, .list (F done)) :: R) fun ok R₁ =>
      if ok = true then Ev C A (compEnvC scope cl c env) elt R₁ fun w R' => R' = (c, .ns [(x, φ a)]) :: (it, .obj o) :: (D, .list (F done)) :: R ∧ F (done ++ [a]) = F done ++ [w]
      else R₁ = (c, .ns [(x, φ a)]) :: (it, .obj o) :: (D, .list (F done)) :: R ∧ F (done ++ [a]) = F done)
    (fin : ∀ D, Φ (.ref D) ((D, .list (F all)) :: R))
    (hclos : closureFor scope env = pure cl) (hcell : ∀ y ∈ scope.names, y.2 ≠ .cell) (hkind : scope.kind = .function) (hnames : ∀ y ∈ scope.names, y.2 = .local → scope.names.lookup y.1 = some .local) (hx : scope.names.lookup x = some .local)
    (hs : ∀ x, foldedSetIterable iter env x = pure x := by intro _; rfl) : Ev C A env (.ListComp elt [⟨.Name x px, iter, ifs, 0⟩] scope p) R Φ := by
  refine Ev.compWk (cl := cl) (Cpr all φ F R) (h.mono fun v R₁ ⟨h1, h2, h3⟩ => ⟨_, R, h1, by rw [List.length_map]; exact h2, h3, .mk [] all rfl rfl hF.symm rfl⟩) ?_ ?_ hclos hcell hkind hnames hx hs
  · rintro c it o D v rest ws R' ⟨done, todo, h1, hvs, rfl, rfl⟩
    cases todo with
    | nil => cases hvs
    | cons a todo =>
    obtain ⟨rfl, rfl⟩ := List.cons.inj hvs
    have key : ∀ {R₁ : Led} {b : Bool}, (if b = true then Ev C A (compEnvC scope cl c env) elt R₁ fun w R'' => R'' = (c, .ns [(x, φ a)]) :: (it, .obj o) :: (D, .list (F done)) :: R' ∧ F (done ++ [a]) = F done ++ [w]
        else R₁ = (c, .ns [(x, φ a)]) :: (it, .obj o) :: (D, .list (F done)) :: R' ∧ F (done ++ [a]) = F done) →
        if b = true then Ev C A (compEnvC scope cl c env) elt R₁ fun w R'' => ∃ R₂, Wk R'' ((c, .ns [(x, .any)]) :: (it, .obj o) :: (D, .list (F done)) :: R₂) ∧ Cpr all φ F R' (todo.map φ) (F done ++ [w]) R₂
        else ∃ R₂, Wk R₁ ((c, .ns [(x, .any)]) :: (it, .obj o) :: (D, .list (F done)) :: R₂) ∧ Cpr all φ F R' (todo.map φ) (F done) R₂ := by
      intro R₁ b q
      cases b with
      | true =>
        simp only [if_true] at q ⊢
        refine q.mono fun w R₂ ⟨e1, e2⟩ => ?_
        subst e1
        exact ⟨R', .ns (.any .nil) .rest, .mk (done ++ [a]) todo (by rw [h1, List.append_assoc]; rfl) rfl e2.symm rfl⟩
      | false =>
        simp only [Bool.false_eq_true, if_false] at q ⊢
        obtain ⟨e1, e2⟩ := q
        subst e1
        exact ⟨R', .ns (.any .nil) .rest, .mk (done ++ [a]) todo (by rw [h1, List.append_assoc]; rfl) rfl e2.symm rfl⟩
    have T := turn c it o D done a todo h1
    match ifs, T with
    | [], T => exact TsL.nil (key (b := true) T)
    | [t], T => exact fun z s H tk => wpNo tk (show wpAny _ _ (isTrue t _ (eval t _)) _ _ _ from T z s H tk) fun b s' _ ⟨z', R₂, e, H', p⟩ => ⟨z', R₂, e, H', key p⟩
    | _ :: _ :: _, T => exact T.elim
  · rintro D ws R' ⟨done, todo, h1, hvs, rfl, rfl⟩
    cases todo with
    | cons a todo => cases hvs
    | nil =>
    rw [List.append_nil] at h1
    subst h1
    exact fin D
theorem Ev.compF {α : Type} {elt iter : Expr} {x : Str} {px p : Pos} {ifs : List Expr} {scope : Scope} {cl : List (Str × Addr)} (all : List α) (φ : α → V) (F : List α → List V)
    (h : Ev C A env iter R fun v R₁ => Itb C A v (all.map φ) R₁ ∧ all.length ≤ 100000 ∧ R₁ = R) (hF : F [] = [])
    (turn : ∀ c it o D done a todo, all = done ++ a :: todo → TsL C A (compEnvC scope cl c env) ifs ((c, .ns [(x, φ a)]) :: (it, .obj o) :: (D, .list (F done)) :: R) fun ok R₁ =>
      if ok = true then Ev C A (compEnvC scope cl c env) elt R₁ fun w R' => R' = (c, .ns [(x, φ a)]) :: (it, .obj o) :: (D, .list (F done)) :: R ∧ F (done ++ [a]) = F done ++ [w]
      else R₁ = (c, .ns [(x, φ a)]) :: (it, .obj o) :: (D, .list (F done)) :: R ∧ F (done ++ [a]) = F done)
    (fin : ∀ D, Φ (.ref D) ((D, .list (F all)) :: R))
    (hclos : closureFor scope env = pure cl) (hcell : ∀ y ∈ scope.names, y.2 ≠ .cell) (hkind : scope.kind = .function) (hnames : ∀ y ∈ scope.names, y.2 = .local → scope.names.lookup y.1 = some .local) (hx : scope.names.lookup x = some .local)
    (hs : ∀ x, foldedSetIterable iter env x = pure x := by intro _; rfl) : Ev C A env (.ListComp elt [⟨.Name x px, iter, ifs, 0⟩] scope p) R Φ :=
  Ev.compG (cl := cl) all φ F (h.mono fun v R₁ ⟨h1, h2, h3⟩ => ⟨h1, h2, by rw [h3]; exact .rest⟩) hF turn fin hclos hcell hkind hnames hx hs
end
end Mine

open PySem PySem.W PyProof.Rows PySem.Calls
set_option Elab.async false
set_option linter.unusedVariables false
set_option maxRecDepth 100000
namespace Mine
section
variable {C : Cx} {A : Around} {env : Env} {R : Led} {mg mb : Str → Option Value} {Φ : V → Led → Prop} {Ψ : Fl → Led → Prop} {pos : Pos}
end
end Mine

open PySem PySem.W PyProof.Rows PySem.Calls
set_option Elab.async false
set_option linter.unusedVariables false
set_option maxRecDepth 100000
namespace Mine
structure TabR (C : Cx) (K : Frag) (tb cls dx fm : Addr) (es : Array DictEntry) (R : Led) : Prop where
  X : K.In C.B
  at_ : ∃ ep sl, ∀ z s, Rel C z R s → s.heap.get? tb = some ⟨.ref cls, some dx, .dict es ep, sl⟩
  dict : ∃ od, ∀ z s, Rel C z R s → s.heap.get? dx = some od
  keys : IntKeys es
  sub : mroIn K cls (.type "dict") = some true
  seq : noSeq K cls = true
  gi : findIn K (.ref cls) "__getitem__" = some (some (.builtin "dict.__getitem__"))
  mi : findIn K (.ref cls) "__missing__" = some (some (.ref fm))
  fn : typeIn K (.ref fm) = some (.type "function")
  tb : (tb == sysModules) = false
section
variable {C : Cx} {A : Around} {K : Frag} {tb cls dx fm : Addr} {es : Array DictEntry} {R : Led} {Φ : V → Led → Prop}
theorem TabR.get {z : Fz} {s : Shared} {c : Int} {t : Tok} {Q : Value → Shared → Prop} (T : TabR C K tb cls dx fm es R) (H : Rel C z R s) (ht : 0 < s.toks)
    (hm : tabVal es c = none → Cl C A.in1 (.ref fm) [.ref tb, .int c] R fun v R' => v = .int 120 ∧ R' = R)
    (hv : ∀ v, tabVal es c = some v → ∃ i u, v = .int i u)
    (h : ∀ z' s' i u, Ext z z' → Rel C z' R s' → 0 < s'.toks → (i = match tabVal es c with | some (.int i _) => i | _ => 120) → Q (.int i u) s') : wpAny C.M A (getItem (.ref tb) (.int c t)) Q NoE s := by
  obtain ⟨ep, sl, ho⟩ := T.at_
  obtain ⟨od, hdx⟩ := T.dict
  have X := T.X.keeps H.keepB
  have ho' := ho z s H
  have I : InstAt s.heap tb ⟨.ref cls, some dx, .dict es ep, sl⟩ cls (some od) := ⟨ho', rfl, rfl, hdx z s H⟩
  unfold getItem sequenceKey
  refine wpAny_holding (wpAny_bind (wpAny_bind (I.type.here ?_)))
  refine wpAny_bind ((anyM_none X T.seq).here ?_)
  rw [if_pos (show (!false) = true from rfl)]
  refine wpAny_pure (wpAny_bind ?_)
  unfold callSpecial?
  refine wpAny_bind (wpAny_bind (I.type.here ((looks_findIn X T.gi).here ?_)))
  refine wpAny_holding ?_
  rw [slot_dict_getitem.bind]
  refine wpAny_bind (wpAny_pure (wpAny_bind ?_))
  have sub : Looks C.M s.heap (isInstance (.ref tb) (.type "dict")) true := I.type.andThen (looks_mroIn X T.sub)
  show wpAny C.M A (call (.builtin "dict.__getitem__") [.ref tb, .int c t]) _ _ s
  refine wpAny_call (codeAny_call_builtin gi_plain entry_dict_getitem (@check_meth C.M _ _ s "dict.__getitem__" "dict" "__getitem__" (.ref tb) [.int c t] [] _ gi_kind gi_split sub (args_dict_getitem (.ref tb) (.int c t)) ?_))
  show wpAny _ _ (dictGet tb (.int c t) >>= _) _ _ s
  unfold dictGet
  refine wpAny_bind (wpAny_holding (wpAny_bind (wpAny_pyHash_int (wpAny_bind (wpAny_dictFind_int (s := { s with toks := s.toks + 1 }) ho' rfl T.keys ?_)))))
  cases hi : es.findIdx? fun e => Value.isInt c e.key with
  | some i =>
    dsimp only
    refine wpAny_bind (wpAny_dictEntries (s := { s with toks := s.toks + 1 }) ho' rfl (wpAny_pure ?_))
    have hlt : i < es.size := (Array.findIdx?_eq_some_iff_getElem.mp hi).1
    have htv : tabVal es c = some es[i].val := by unfold tabVal; rw [hi]; simp [hlt]
    obtain ⟨j, u, e⟩ := hv _ htv
    simp only [hlt, getElem?_pos, Option.map_some]
    rw [e]
    refine wpAny_pure ?_
    refine wpAny_pure (wpAny_pure ?_)
    exact h z _ j u (Ext.refl _) (H.toks _) (Nat.succ_pos _) (by rw [htv, e])
  | none =>
    dsimp only
    have htv : tabVal es c = none := by unfold tabVal; rw [hi]; rfl
    refine wpAny_pure ?_
    show wpAny _ _ (Builtin.Dict.missed tb (.int c t) >>= _) _ _ _
    refine wpAny_bind (wpAny_missed_other T.tb ?_)
    have H' := H.toks (s.toks + 1)
    have I' : InstAt ({ s with toks := s.toks + 1 } : Shared).heap tb ⟨.ref cls, some dx, .dict es ep, sl⟩ cls (some od) := I
    refine wpAny_bind (I'.type.here ?_)
    rw [if_pos (by simp)]
    refine wpAny_bind (special_fn (s := { s with toks := s.toks + 1 }) X I T.mi T.fn ?_)
    refine (hm htv).then H' (Nat.succ_pos _) (.ref fm) (.cons (.ref tb) (.cons (.int c t) .nil)) fun z₁ R₁ v u s₁ e₁ H₁ t₁ d₁ ⟨e, er⟩ => ?_
    subst e er
    cases d₁
    refine wpAny_bind (wpAny_rule (wpAny_pure ?_))
    refine wpAny_pure (wpAny_pure ?_)
    exact h z₁ _ 120 _ e₁ H₁ t₁ (by rw [htv])
theorem TabR.look {z : Fz} {s : Shared} {c : Nat} {tr : Nat → Nat} {Q : Builtin.Str.Mapped → Shared → Prop} (T : TabR C K tb cls dx fm es R) (H : Rel C z R s) (ht : 0 < s.toks)
    (hm : ∀ c, tabVal es c = none → Cl C A.in1 (.ref fm) [.ref tb, .int c] R fun v R' => v = .int 120 ∧ R' = R)
    (hv : ∀ c v, tabVal es c = some v → ∃ i u, v = .int i u)
    (htr : ∀ c : Nat, (match tabVal es c with | some (.int i _) => i | _ => 120) = (tr c : Int)) (hlt : ∀ c, tr c < 128)
    (h : ∀ z' s', Ext z z' → Rel C z' R s' → 0 < s'.toks → Q (.char (tr c)) s') : wpAny C.M A (Builtin.Str.tableLookup (.ref tb) c) Q NoE s := by
  unfold Builtin.Str.tableLookup
  refine wpAny_bind (wpAny_attempt (wpAny_mono (wpAny_bind (wpAny_mkInt (TabR.get (Q := fun u s' => ∃ z', Ext z z' ∧ Rel C z' R s' ∧ 0 < s'.toks ∧ ∃ k, u = .int (tr c) k) T (H.toks _) (Nat.succ_pos _) (hm _) (hv _) fun z' s' i u e H' t' hi => ?_))) (fun u s' ⟨z', e, H', t', k, hu⟩ => ?_) fun _ _ x => x.elim))
  · rw [htr c] at hi; subst hi; exact ⟨z', e, H', t', u, rfl⟩
  · subst hu
    dsimp only
    refine wpAny_bind (wpAny_pure ?_)
    have h3 : (decide ((tr c : Int) < 0) || decide ((tr c : Int) > 1114111)) = false := by
      have := hlt c
      simp only [Bool.or_eq_false_iff, decide_eq_false_iff_not]; constructor <;> omega
    dsimp only
    rw [if_neg (by rw [h3]; exact Bool.false_ne_true)]
    exact wpAny_pure (h z' s' e H' t')
theorem Cl.translateR {x : Str} {tr : Nat → Nat} (T : TabR C K tb cls dx fm es R)
    (hm : ∀ c, tabVal es c = none → Cl C A.in1.in1 (.ref fm) [.ref tb, .int c] R fun v R' => v = .int 120 ∧ R' = R)
    (hv : ∀ c v, tabVal es c = some v → ∃ i u, v = .int i u)
    (htr : ∀ c : Nat, (match tabVal es c with | some (.int i _) => i | _ => 120) = (tr c : Int)) (hlt : ∀ c, tr c < 128) (hx : x.length ≤ 16777216)
    (h : Φ (.str ⟨(x.cps.toList.map tr).toArray⟩) R) : Cl C A (.bi "str.translate") [.str x, .ref tb] R Φ := fun z s u us H t d ds => by
  cases d
  cases ds with | cons d1 d2 =>
  cases d1
  cases d2 with | cons d3 d4 =>
  cases d3; cases d4
  rename_i tk
  refine wpAny_call_entry PySem.F.slot_str_translate (typeIs_str _ _ _) PySem.F.entry_str_translate ?_ (PySem.F.args_str_translate_2 _ _)
  unfold Builtin.«str.translate»
  refine wpAny_bind (wpAny_of_eq (a := (.str x tk, x, .ref tb)) (by first | rfl | kernel_rfl) ?_)
  dsimp only
  by_cases h0 : x.length = 0
  · rw [if_pos (by simp [h0])]
    refine wpAny_bind (wpAny_rule (wpAny_bind (wpAny_pure (wpAny_pure ⟨_, rfl, ?_⟩))))
    have hc : x = ⟨(x.cps.toList.map tr).toArray⟩ := by
      have : x.cps = #[] := Array.eq_empty_of_size_eq_zero h0
      obtain ⟨c⟩ := x
      dsimp only at this ⊢
      subst this; rfl
    rw [← hc] at h
    exact .mk H (.str _ _) h
  · rw [if_neg (by simp [h0])]
    refine wpAny_bind (wpAny_mono (wpAny_forIn_array' _ (fun rest b s' => ∃ done z', x.cps.toList = done ++ rest ∧ Ext z z' ∧ Rel C z' R s' ∧ 0 < s'.toks ∧ b.1 = ((done.map tr).map fun d => (⟨#[d]⟩ : Str)).reverse ∧ b.2.1 = done.length ∧ (∀ p ∈ b.2.2.2.1, p.2 = some (tr p.1)) ∧ b.2.2.2.2 = false) (fun b s' => ∃ z', Ext z z' ∧ Rel C z' R s' ∧ 0 < s'.toks ∧ b.1 = ((x.cps.toList.map tr).map fun d => (⟨#[d]⟩ : Str)).reverse ∧ b.2.1 = x.length) ?_ ?_ x.cps _ ⟨[], z, rfl, Ext.refl _, H, t, rfl, rfl, fun _ hp => (nomatch hp), rfl⟩) (fun b s' ⟨z', e, H', t', e1, e2⟩ => ?_) fun _ _ x => x)
    · rintro c rest ⟨pieces, total, fast, known, afterDrop⟩ s' ⟨done, z', hdone, e', H', t', h1, h2, h3, h4⟩
      dsimp only at h1 h2 h3 h4 ⊢
      subst h4
      have hlen : total ≤ x.length := by
        rw [h2]; have := congrArg List.length hdone
        simp at this
        show done.length ≤ x.cps.size
        omega
      have htl : Builtin.Str.tooLong total = false := by
        unfold Builtin.Str.tooLong
        simp only [decide_eq_false_iff_not]
        try rw [sizeLine_eq]
        omega
      rw [htl, if_neg Bool.false_ne_true]
      have next : ∀ (fast' : Bool) (known' : List (Nat × Option Nat)) z'' s'', Ext z z'' → Rel C z'' R s'' → 0 < s''.toks → (∀ p ∈ known', p.2 = some (tr p.1)) →
          ∃ done z', x.cps.toList = done ++ rest ∧ Ext z z' ∧ Rel C z' R s'' ∧ 0 < s''.toks ∧ (({ cps := #[tr c] } :: pieces, total + 1, fast', known', false) : List Str × Nat × Bool × List (Nat × Option Nat) × Bool).1 = ((done.map tr).map fun d => (⟨#[d]⟩ : Str)).reverse ∧ total + 1 = done.length ∧ (∀ p ∈ known', p.2 = some (tr p.1)) ∧ false = false := by
        intro fast' known' z'' s'' e'' H'' t'' hk
        exact ⟨done ++ [c], z'', by simp [hdone], e'', H'', t'', by simp [h1], by simp [h2], hk, rfl⟩
      by_cases hf : fast = true
      · rw [if_pos hf]
        cases hl : known.lookup c with
        | some a =>
          have ha := h3 _ (lookup_known hl)
          dsimp only at ha
          subst ha
          dsimp only
          exact wpAny_bind (wpAny_pure (wpAny_pure (next _ _ z' s' e' H' t' h3)))
        | none =>
          dsimp only
          refine wpAny_bind (TabR.look (tr := tr) T H' t' hm hv htr hlt fun z'' s'' e'' H'' t'' => ?_)
          dsimp only
          rw [if_pos (hlt c)]
          dsimp only
          refine wpAny_bind (wpAny_pure (wpAny_pure (next _ _ z'' s'' (e'.trans e'') H'' t'' fun p hp => ?_)))
          rcases List.mem_cons.mp hp with rfl | hp
          · rfl
          · exact h3 p hp
      · rw [if_neg hf, if_neg Bool.false_ne_true]
        refine wpAny_bind (TabR.look (tr := tr) T H' t' hm hv htr hlt fun z'' s'' e'' H'' t'' => ?_)
        exact wpAny_pure (next _ _ z'' s'' (e'.trans e'') H'' t'' h3)
    · rintro ⟨pieces, total, fast, known, afterDrop⟩ s' ⟨done, z', hdone, e', H', t', h1, h2, h3, h4⟩
      rw [List.append_nil] at hdone
      exact ⟨z', e', H', t', by rw [h1, hdone], by rw [h2, ← hdone]; simp [Str.length]⟩
    · obtain ⟨pieces, total, fast, known, afterDrop⟩ := b
      dsimp only at e1 e2 ⊢
      subst e1 e2
      have htl : Builtin.Str.tooLong x.length = false := by
        unfold Builtin.Str.tooLong
        simp only [decide_eq_false_iff_not]
        try rw [sizeLine_eq]
        omega
      rw [htl, if_neg Bool.false_ne_true, List.reverse_reverse, fold_ones]
      simp only [Array.empty_append]
      refine wpAny_bind (wpAny_mkStr (wpAny_pure ⟨_, rfl, ?_⟩) ?_)
      · exact ⟨z', R, _, e, H'.toks _, .str _ _, h⟩
      · rw [sizeLine_eq]; show ((x.cps.toList.map tr).toArray).size ≤ _; simp; exact hx
end

end Mine

open PySem PySem.W PyProof.Rows PySem.Calls
set_option Elab.async false
set_option linter.unusedVariables false
set_option maxRecDepth 100000
set_option maxHeartbeats 4000000
namespace Mine
theorem keys_miss : typeLookup (.type "list") "keys" = pure none := am_miss_of_fast (by kernel_rfl)
theorem keys_none {prog : Program} {w : World} {A : Around} {E : Value → Shared → Prop} {s : Shared} {a : Addr} {o : Obj} {xs : Array Value} {k : Nat} {Q : Option Value → Shared → Prop}
    (hx : s.heap.get? a = some o) (hc : o.cls = .type "list") (hdat : o.data = .seq xs k) (hd : o.dict = none) (hA : A.handled = none)
    (h : ∀ h' tk, (∀ b ob, s.heap.get? b = some ob → h'.get? b = some ob) → Q none { s with heap := h', toks := tk }) :
    wpAny (model prog w) A (getAttr? (.ref a) "keys") Q E s := by
  obtain ⟨c, dct, dat, sl⟩ := o
  simp only at hc hdat hd
  subst hc hdat hd
  obtain ⟨hp, g, d, tk, os⟩ := s
  have hT : ∀ tk', (⟨hp, g, d, tk', os⟩ : Shared).TypeIs (.ref a) "list" := fun _ => ⟨_, hx, rfl⟩
  have f1 := sub_AttributeError
  have f3 := PySem.F.slot_list_getattribute.lookup
  have f4 := PySem.F.slot_list_getattribute.bind (.ref a)
  have f5 := am_list_getattr_none
  unfold getAttr? getAttrBy? getAttrBy
  repeat (any_goals (first | assumption | exact hT _ | ((with_reducible show wpAny _ _ (call (Value.builtin "list.__getattribute__") _ _) _ _ _); refine call_meets PySem.F.slot_list_getattribute (hT _) am_entry_list_getattribute (PySem.F.args_list_getattribute_2 _ _) (meets_getattribute_miss_list a xs k sl "keys" _ keys_miss (by decide) (by size_fits)) ⟨hx, hA, fun h' tk' e hx' => ?_⟩) | wp_step))
  obtain ⟨t', u', he⟩ := hx'.there
  show wpAny _ _ (getattributeRaised _ _ _ _ _ _ _) _ _ _
  unfold getattributeRaised
  repeat (any_goals (first | assumption | wp_step))
  exact h _ _ hx'.keeps
theorem tabVal_findBy (es : Array DictEntry) (c : Int) : tabVal es c = findBy Value.isInt es c := by
  rw [findBy_of_findIdx?]
  unfold tabVal
  cases es.findIdx? fun e => Value.isInt c e.key <;> rfl
theorem tabVal_some {es : Array DictEntry} {c : Int} : (tabVal es c).isSome = (es.findIdx? fun e => Value.isInt c e.key).isSome := by
  unfold tabVal
  cases h : es.findIdx? fun e => Value.isInt c e.key with
  | none => rfl
  | some i =>
    have := (Array.findIdx?_eq_some_iff_getElem.mp h).1
    simp [this]
theorem setE {prog : Program} {w : World} {A : Around} {E : Value → Shared → Prop} {s : Shared} {d : Addr} {o : Obj} {es : Array DictEntry} {ep : Nat} {k : Int} {t : Tok} {v : Value} {Q : Unit → Shared → Prop} (ho : s.heap.get? d = some o) (hd : o.data = .dict es ep) (hk : IntKeys es) (hz : es.size ≤ 1000)
    (hQ : ∀ h' es' ep', Heap.SameBut d s.heap h' → h'.get? d = some { o with data := .dict es' ep' } → IntKeys es' → (es'.size = es.size + if (tabVal es k).isSome then 0 else 1) → (∀ c, tabVal es' c = if c = k then some v else tabVal es c) → Q () { s with heap := h', toks := s.toks + 1 }) :
    wpAny (model prog w) A (dictSet d (.int k t) v) Q E s := by
  obtain ⟨oc, od, dat, sl⟩ := o
  simp only at hd
  subst hd
  unfold dictSet
  refine wpAny_holding ?_
  refine wpAny_bind (wpAny_pyHash_int ?_)
  unfold dictSetHashed
  refine wpAny_holding ?_
  refine wpAny_bind (wpAny_dictFind_int (s := { s with toks := s.toks + 1 }) ho rfl hk ?_)
  have hs := tabVal_some (es := es) (c := k)
  cases hi : es.findIdx? fun e => Value.isInt k e.key with
  | some i =>
    rw [hi] at hs
    refine wpAny_bind (wpAny_rule (wpAny_bind (wpAny_updateDict (s := { s with toks := s.toks + 1 }) ho rfl (wpAny_point (hQ _ _ ep (Heap.SameBut.update ..) (Heap.get?_update_self _ ho rfl) (hk.modify _ _) ?_ fun c => ?_)))))
    · rw [hs]; simp
    · rw [tabVal_findBy, findBy_modify Value.isInt Value.isInt_inj es k c v i hi, ← tabVal_findBy]
  | none =>
    rw [hi] at hs
    refine wpAny_bind (wpAny_rule (wpAny_updateDictKeys (hz := by rw [sizeLine_eq]; omega) (s := { s with toks := s.toks + 1 }) ho rfl (hQ _ _ (ep + 1) (Heap.SameBut.update ..) (Heap.get?_update_self _ ho rfl) (hk.push _ _ _) ?_ fun c => ?_)))
    · rw [hs]; simp
    · rw [tabVal_findBy, findBy_push Value.isInt es k c _ _ v (fun y => by
        simp only [Value.isInt]
        by_cases h : y = k
        · subst h; simp
        · have : ¬ k = y := fun e => h e.symm
          simp [h, this]) hi, ← tabVal_findBy]
def mapOf (ps : List (Int × Int)) (c : Int) : Option Int := ps.foldl (fun r p => if p.1 = c then some p.2 else r) none
def ddK (ps : List (Int × Int)) : List Int := (ps.map (·.1)).foldl step_dedup []
structure IsTab (es : Array DictEntry) (ps : List (Int × Int)) : Prop where
  keys : IntKeys es
  val : ∀ c, (∃ u j, tabVal es c = some (.int j u) ∧ mapOf ps c = some j) ∨ (tabVal es c = none ∧ mapOf ps c = none)
  any : ∀ c, (ddK ps).any (· == c) = (tabVal es c).isSome
  size : es.size = (ddK ps).length
theorem mapOf_snoc (ps : List (Int × Int)) (p : Int × Int) (c : Int) : mapOf (ps ++ [p]) c = if p.1 = c then some p.2 else mapOf ps c := by
  unfold mapOf
  rw [List.foldl_append]; rfl
theorem ddK_snoc (ps : List (Int × Int)) (p : Int × Int) : ddK (ps ++ [p]) = step_dedup (ddK ps) p.1 := by
  unfold ddK
  rw [List.map_append, List.foldl_append]; rfl
theorem IsTab.nil : IsTab #[] [] := ⟨fun e he => by simp at he, fun c => .inr ⟨by simp [tabVal], rfl⟩, fun c => by simp [ddK, tabVal], rfl⟩
theorem ddK_len (ps : List (Int × Int)) : (ddK ps).length ≤ ps.length := by
  have key : ∀ (l : List Int) (σ : List Int), (l.foldl step_dedup σ).length ≤ σ.length + l.length := by
    intro l
    induction l with
    | nil => intro σ; exact Nat.le_refl _
    | cons v l ih =>
      intro σ
      have := ih (step_dedup σ v)
      rw [step_length] at this
      rw [List.foldl_cons, List.length_cons]
      split at this <;> omega
  have := key (ps.map (·.1)) []
  unfold ddK
  simpa using this
theorem IsTab.snoc {es es' : Array DictEntry} {ps : List (Int × Int)} {k j : Int} {u : Tok} (T : IsTab es ps) (h1 : IntKeys es') (h2 : es'.size = es.size + if (tabVal es k).isSome then 0 else 1) (h3 : ∀ c, tabVal es' c = if c = k then some (.int j u) else tabVal es c) : IsTab es' (ps ++ [(k, j)]) := by
  refine ⟨h1, fun c => ?_, fun c => ?_, ?_⟩
  · rw [h3, mapOf_snoc]
    by_cases q : c = k
    · subst q
      exact .inl ⟨u, j, by rw [if_pos rfl], by rw [if_pos rfl]⟩
    · rw [if_neg q, if_neg (fun e => q e.symm)]
      exact T.val c
  · rw [ddK_snoc, step_any, T.any, h3]
    by_cases q : c = k
    · subst q; simp
    · simp [q]
  · rw [ddK_snoc, step_length, h2, T.any, T.size]
    split <;> simp_all
abbrev pairV (p : Int × Int) : V := .tup [.int p.1, .int p.2]
theorem upd_entry : entryFor table "dict.update.loop" = some Builtin.«dict.update.loop» := entryFor_of_tree (by kernel_rfl)
theorem upd_plain : plainId "dict.update.loop" = true := by decide +kernel
theorem loopD {C : Cx} {A : Around} {z₁ : Fz} {it tb cls dx : Addr} {sl : Array (Option Value)} {all : List (Int × Int)} {St : Nat → Obj → Prop} {R : Led} (W : Walk C A.in1 z₁ it (all.map pairV) St) (hall : all.length ≤ 100) :
    ∀ (todo done : List (Int × Int)), all = done ++ todo → ∀ {z : Fz} {s : Shared} {io : Obj} {es : Array DictEntry} {ep : Nat} {n : Int} {t : Tok}, Ext z₁ z → Rel C z ((it, .obj io) :: (tb, .obj ⟨.ref cls, some dx, .dict es ep, sl⟩) :: R) s → 0 < s.toks → St done.length io → IsTab es done →
    codeAny C.M A (.builtin "dict.update.loop" ⟨[.ref tb, .ref it, .int n t, .none], []⟩) (fun r s' => r = .ok (.ret .none) ∧ 0 < s'.toks ∧ ∃ z' es' ep', Ext z z' ∧ Rel C z' ((tb, .obj ⟨.ref cls, some dx, .dict es' ep', sl⟩) :: R) s' ∧ IsTab es' all) s
  | [], done, hd, z, s, io, es, ep, n, t, e, H, tk, st, T => by
    rw [List.append_nil] at hd
    subst hd
    refine codeAny_builtin upd_entry ?_
    rw [Around.under_plainId upd_plain]
    show wpAny _ _ (pyNext (.ref it) >>= _) _ _ _
    refine wpAny_bind (W.done e H (.head _) (by rw [List.length_map]; exact st) fun h' hx => ?_)
    have hne : it ∉ (((tb, Res.obj ⟨.ref cls, some dx, .dict es ep, sl⟩) :: R) : Led).map (·.1) := (List.nodup_cons.mp H.nodup).1
    have hz0 : z it = none := (H.res _ (.head _)).2
    have H' := (H.tail).grown (t := s.toks) hz0 hne hx
    refine wpAny_pure ?_
    exact ⟨rfl, tk, z, es, ep, Ext.refl _, H', T⟩
  | p :: todo, done, hd, z, s, io, es, ep, n, t, e, H, tk, st, T => by
    refine codeAny_builtin upd_entry ?_
    rw [Around.under_plainId upd_plain]
    show wpAny _ _ (pyNext (.ref it) >>= _) _ _ _
    have hv : (all.map pairV)[done.length]? = some (pairV p) := by rw [hd, List.map_append, List.getElem?_append_right (by simp)]; simp
    refine wpAny_bind (W.item e H (.head _) st hv tk fun h' tk' u o' htk hs ho' st' d => ?_)
    have H1 : Rel C z ((it, .obj o') :: (tb, .obj ⟨.ref cls, some dx, .dict es ep, sl⟩) :: R) { s with heap := h', toks := tk' } := H.upd (t := tk') .here hs ho'
    obtain ⟨a, its, rfl, ht, ds⟩ := d.tupIs H1
    have hit : its.toList.length = 2 := ds.length
    obtain ⟨x1, x2, hxs⟩ : ∃ x1 x2, its.toList = [x1, x2] := by
      match h : its.toList, hit with
      | [x1, x2], _ => exact ⟨x1, x2, rfl⟩
    rw [hxs] at ds
    cases ds with | cons d1 d2 => cases d2 with | cons d3 d4 =>
    cases d1; cases d3; cases d4
    rename_i t1 t2
    obtain ⟨ot, hot, hct, nt, hdt⟩ := ht
    dsimp only
    refine wpAny_bind (wpAny_holding ?_)
    refine wpAny_bind (wpAny_tryCatch ?_)
    unfold Builtin.Dict.pairItems
    refine wpAny_bind (wpAny_typeOf_ref (s := { s with heap := h', toks := tk' }) hot ?_)
    rw [hct, if_pos (by decide)]
    refine wpAny_bind (wpAny_seqItems (s := { s with heap := h', toks := tk' }) hot hdt (wpAny_pure ?_))
    rw [show ((some its).getD #[]).toList = [.int p.1 t1, .int p.2 t2] from hxs]
    dsimp only
    refine wpAny_holding ?_
    have htb := (H1.res _ (.tail _ (.head _))).1
    have hsz : es.size ≤ 1000 := by
      have h1 := T.size
      have h2 := ddK_len done
      have h3 := congrArg List.length hd
      rw [List.length_append] at h3
      omega
    refine setE (s := { s with heap := h', toks := tk' }) htb rfl T.keys hsz fun h₂ es' ep' hs₂ ho₂ k1 k2 k3 => ?_
    refine wpAny_pure ⟨plainId_quiet upd_plain _, ?_⟩
    have H2 : Rel C z ((it, .obj o') :: (tb, .obj ⟨.ref cls, some dx, .dict es' ep', sl⟩) :: R) { s with heap := h₂, toks := tk' + 1 } := H1.upd (t := tk' + 1) (.there .here) hs₂ ho₂
    have := loopD W hall todo (done ++ [p]) (by rw [hd, List.append_assoc]; rfl) (n := n + 1) (t := 0) e H2 (Nat.succ_pos _) (by rw [List.length_append]; exact st') (T.snoc k1 k2 k3)
    exact this
end Mine

open PySem PySem.W PyProof.Rows PySem.Calls
set_option Elab.async false
set_option linter.unusedVariables false
set_option maxRecDepth 100000
set_option maxHeartbeats 4000000
namespace Mine
theorem di_kind : builtinKind "dict.__init__" = some .slot := by decide +kernel
theorem di_split : splitId "dict.__init__" = some ("dict", "__init__") := by decide +kernel
theorem di_plain : plainId "dict.__init__" = true := by decide +kernel
theorem initD {C : Cx} {A : Around} {z : Fz} {tb cls dx : Addr} {K : Frag} {ps : List (Int × Int)} {R : Led} {s : Shared} {l : Addr} {its : Array Value} {nl : Nat} {sl : Array (Option Value)} {ep : Nat} (X : K.In C.B) (hsub : mroIn K cls (.type "dict") = some true) (hord : mroIn K cls (.type "collections.OrderedDict") = some false) (hh : A.handled = none) (hps : ps.length ≤ 100)
    (H : Rel C z ((tb, .obj ⟨.ref cls, some dx, .dict #[] ep, sl⟩) :: R) s) (t : 0 < s.toks) (hz : z l = some { cls := .type "list", data := .seq its nl }) (ds : DenL z its.toList (ps.map pairV)) :
    codeAny C.M A (.call (.builtin "dict.__init__") ⟨[.ref tb, .ref l], []⟩) (fun r s' => r = .ok (.ret .none) ∧ 0 < s'.toks ∧ ∃ z' es' ep', Ext z z' ∧ Rel C z' ((tb, .obj ⟨.ref cls, some dx, .dict es' ep', sl⟩) :: R) s' ∧ IsTab es' ps) s := by
  have htb : s.heap.get? tb = some ⟨.ref cls, some dx, .dict #[] ep, sl⟩ := (H.res _ (.head _)).1
  have X' := X.keeps H.keepB
  have ty : Looks C.M s.heap (typeOf (.ref tb)) (.ref cls) := (Looks.ld htb).andThen .now
  have sub : Looks C.M s.heap (isInstance (.ref tb) (.type "dict")) true := ty.andThen (looks_mroIn X' hsub)
  have ord : Looks C.M s.heap (isInstance (.ref tb) (.type "collections.OrderedDict")) false := ty.andThen (looks_mroIn X' hord)
  refine codeAny_call_builtin di_plain PySem.F.entry_dict_init (check_slot di_kind di_split sub (PySem.F.args_dict_init_2 _ _) ?_)
  unfold Builtin.«dict.__init__» Builtin.Dict.selfAndRest Builtin.Dict.notOrdered
  rw [if_pos (by decide)]
  refine wpAny_bind (wpAny_bind (wpAny_bind (ty.here ?_)))
  rw [if_pos (by simp)]
  refine wpAny_bind (ord.here ?_)
  rw [if_neg Bool.false_ne_true]
  refine wpAny_pure (wpAny_bind (wpAny_pure (wpAny_pure ?_)))
  show wpAny _ _ (Builtin.Dict.updateFrom "dict.__init__" tb (.ref l) [] .none) _ _ s
  unfold Builtin.Dict.updateFrom
  have hol := H.kept _ _ hz
  refine wpAny_bind (wpAny_typeOf_ref hol ?_)
  rw [if_pos (show (Value.type "list" != Value.type "dict") = true by decide)]
  refine wpAny_bind (wpAny_mono (wpAny_toks_of (n := 1) t (keys_none (Q := fun v s' => v = none ∧ ∃ h' tk, s' = { s with heap := h', toks := tk } ∧ ∀ b ob, s.heap.get? b = some ob → h'.get? b = some ob) hol rfl rfl rfl hh fun h' tk hk => ⟨rfl, h', tk, rfl, hk⟩)) (fun v s' ⟨tk0, hv, h', tk, hs', hk⟩ => ?_) fun _ _ x => x.2)
  subst hv hs'
  have H1 : Rel C z ((tb, .obj ⟨.ref cls, some dx, .dict #[] ep, sl⟩) :: R) { s with heap := h', toks := tk } := H.keep hk
  dsimp only [Option.isNone]
  rw [if_pos rfl]
  refine wpAny_bind (wpAny_rule (wpAny_bind ?_))
  have hit : Itb C A.in1 (.lst (ps.map pairV)) (ps.map pairV) ((tb, .obj ⟨.ref cls, some dx, .dict #[] ep, sl⟩) :: R) := @Itb.lst C A.in1 _ _ hh
  refine hit H1 (.lst hz rfl rfl ds) fun o St hf W st => ?_
  refine wpAny_pure ⟨plainId_quiet upd_plain _, ?_⟩
  have H2 := H1.pushR (r := .obj o) (Heap.get?_push_size _ hf)
  exact loopD W hps ps [] rfl (Ext.refl _) H2 tk0 st .nil
def makesDIn (K : Frag) (C : Addr) : Bool := match K.lookup C with
  | some ⟨_, _, .cls cd, sl⟩ => !cd.abstract && !cd.hasDel && (sl.toList[4]?).join == some (.builtin "dict.__new__") && (cd.mro == [.ref C, .type "dict", .type "object"]) &&
      specialIn K (.ref C) "__call__" == some (some (.builtin "type.__call__")) && instIn K (.ref C) (.type "type") == some true
  | _ => false
structure MakesD (M : Model) (h : Heap) (C : Addr) : Prop where
  obj : ∃ oc od cd sl, h.get? C = some ⟨oc, od, .cls cd, sl⟩ ∧ cd.abstract = false ∧ cd.hasDel = false ∧ cd.mro = [.ref C, .type "dict", .type "object"]
  mro : Looks M h (mroOf (.ref C)) [.ref C, .type "dict", .type "object"]
  made : Looks M h (Bind.madeBy (.ref C)) (some "dict.__new__")
  base : Looks M h (Bind.staticBase (.ref C)) (.ref C)
  self : Looks M h (isSubtype (.ref C) (.ref C)) true
  top : Looks M h (isSubtype (.ref C) (.type "dict")) true
  call : Looks M h (specialOf (.ref C) "__call__") (some (.builtin "type.__call__"))
  typ : Looks M h (isInstance (.ref C) (.type "type")) true
theorem makesD_of {K : Frag} {M : Model} {h : Heap} (X : K.In h) {C : Addr} (e : makesDIn K C = true) : MakesD M h C := by
  unfold makesDIn at e
  split at e
  · rename_i oc od cd sl ho
    simp only [Bool.and_eq_true, Bool.not_eq_true', beq_iff_eq] at e
    obtain ⟨⟨⟨⟨⟨e1, e2⟩, e3⟩, e4⟩, e7⟩, e8⟩ := e
    have hc : clsIn K C = some cd := by unfold clsIn; rw [ho]
    have hm : Looks M h (mroOf (.ref C)) cd.mro := (looks_clsIn X hc).andThen .now
    have hm' : Looks M h (mroOf (.ref C)) [.ref C, .type "dict", .type "object"] := by rw [← e4]; exact hm
    have made : Looks M h (Bind.madeBy (.ref C)) (some "dict.__new__") := by
      intro A Q E s k q
      unfold Bind.madeBy
      refine wpAny_bind (hm A _ E s k ?_)
      rw [e4, List.forIn_cons]
      refine wpAny_bind (wpAny_bind (wpAny_bind (wpAny_bind (wpAny_loadPart (k _ _ (X _ _ ho)) (wpAny_pure ?_)))))
      dsimp only
      rw [← Array.getElem?_toList, e3]
      exact wpAny_pure (wpAny_pure (wpAny_pure q))
    refine ⟨⟨oc, od, cd, sl, X _ _ ho, e1, e2, e4⟩, hm', made, ?_, looks_mroIn X ?_, looks_mroIn X ?_, looks_specialIn X e7, looks_instIn X e8⟩
    · intro A Q E s k q
      unfold Bind.staticBase
      refine wpAny_bind (hm A _ E s k ?_)
      rw [e4, List.forIn_cons]
      exact wpAny_bind (wpAny_bind (wpAny_bind (made A _ E s k (wpAny_pure (wpAny_pure (wpAny_pure q))))))
    · unfold mroIn; rw [hc, Option.bind_some, e4]; simp
    · unfold mroIn; rw [hc, Option.bind_some, e4]; simp
  · cases e
theorem dn_kind : builtinKind "dict.__new__" = some .builtinFn := by decide +kernel
theorem dn_split : splitId "dict.__new__" = some ("dict", "__new__") := by decide +kernel
theorem dn_row : Manifest.signature? "dict.__new__" = some ⟨.any, "dict", "dict", .cls, [⟨"args", .varPos, false⟩, ⟨"kwargs", .varKw, false⟩]⟩ := by kernel_rfl
theorem dn_plain : plainId "dict.__new__" = true := by decide +kernel
theorem dn_entry : entryFor table "dict.__new__" = some Builtin.«dict.__new__» := entryFor_of_tree (by kernel_rfl)
abbrev tabObj (C dx : Addr) (es : Array DictEntry) (ep : Nat) : Obj := ⟨.ref C, some dx, .dict es ep, #[]⟩
section
variable {prog : Program} {w : World} {A : Around} {K : Frag} {C : Addr} {R : Result → Shared → Prop} {h : Heap} {g : Array GenState} {d : Drawn} {t : Nat} {os : OsState}
theorem new_D {rest : List Value} (Y : MakesD (model prog w) h C)
    (hq : R (.ok (.ret (.ref (h.objs.size + 1)))) ⟨(h.push emptyDict).push (tabObj C h.objs.size #[] 0), g, d, t, os⟩) :
    codeAny (model prog w) A (.call (.builtin "dict.__new__") ⟨.ref C :: rest, []⟩) R ⟨h, g, d, t, os⟩ := by
  obtain ⟨⟨oc, od, cd, sl, hC, e1, e2, e4⟩, mro, made, base, self, top, call, typ⟩ := Y
  refine codeAny_call_builtin dn_plain dn_entry ?_
  simp only [checkBuiltinCall, dn_kind, dn_split, dn_row]
  have here : Looks (model prog w) h (Bind.madeHere "dict.__new__" (.ref C)) () := base.andThen (made.andThen (Looks.of_pure (by simp only [Option.map_some, bne_self_eq_false, Bool.false_eq_true, if_false])))
  have args : Bind.checkArgs "dict.__new__" ⟨.any, "dict", "dict", .cls, [⟨"args", .varPos, false⟩, ⟨"kwargs", .varKw, false⟩]⟩ ⟨.ref C :: rest, []⟩ = pure () := by kernel_rfl
  rw [args]
  repeat (first | simp only [bne_self_eq_false, Bool.false_eq_true, if_false] | lk)
  refine wpAny_load (Heap.get?_push_of_some _ (Heap.get?_push_of_some _ hC)) ?_
  refine wpAny_pure ?_
  rw [e2]
  refine wpAny_pure (wpAny_pure ?_)
  show R _ _
  rw [Heap.size_push]
  exact hq
theorem make_D {rest : List Value} {init : Value} (Y : MakesD (model prog w) h C) (hi : Looks (model prog w) h (typeLookup (.ref C) "__init__") (some init))
    (hb : ∀ self, Looks (model prog w) h (bindSpecial init self) (init, [self]))
    (hq : codeAny (model prog w) (A.under (.builtin "type.__call__" ⟨.ref C :: rest, []⟩)) (.call init ⟨.ref (h.objs.size + 1) :: rest, []⟩) (InitBack (h.objs.size + 1) R) ⟨(h.push emptyDict).push (tabObj C h.objs.size #[] 0), g, d, t, os⟩) :
    codeAny (model prog w) A (.call (.ref C) ⟨rest, []⟩) R ⟨h, g, d, t, os⟩ := by
  have Y' := Y
  obtain ⟨⟨oc, od, cd, sl, hC, e1, e2, e4⟩, mro, made, base, self, top, call, typ⟩ := Y
  refine codeAny_of_tree ?_
  show wpAny _ _ (callAny (.ref C) _) _ _ _
  refine nd_load hC ?_
  show wpAny _ _ (callAny.viaDunder (.ref C) _) _ _ _
  unfold callAny.viaDunder
  refine wpAny_bind (call.at ?_)
  dsimp only
  rw [tc_bind]
  refine wpAny_bind (wpAny_pure (wpAny_bind (wpAny_pure ?_)))
  refine wpAny_pure (a := Fin.again (.call (.builtin "type.__call__") ⟨.ref C :: rest, []⟩)) (And.intro rfl ?_)
  refine codeAny_call_builtin_at (Code.quiet_builtin _ (by decide +kernel)) entry_typeCall (check_slot tc_kind tc_split typ (tc_args _ _ _) ?_)
  unfold Builtin.«type.__call__»
  have e5 : ([Value.ref C, Value.type "dict", Value.type "object"] : List Value).isEmpty = false := rfl
  repeat (first | simp only [e5, Bool.false_eq_true, if_false] | with_reducible refine wpAny_call ?_ | lk)
  refine new_D Y' ?_
  have k : ∀ b o, h.get? b = some o → ((h.push emptyDict).push (tabObj C h.objs.size #[] 0)).get? b = some o := fun b o e => Heap.get?_push_of_some _ (Heap.get?_push_of_some _ e)
  have hx : ((h.push emptyDict).push (tabObj C h.objs.size #[] 0)).get? (h.objs.size + 1) = some (tabObj C h.objs.size #[] 0) := by heap_get
  have t1 : Looks (model prog w) ((h.push emptyDict).push (tabObj C h.objs.size #[] 0)) (typeOf (.ref (h.objs.size + 1))) (.ref C) := (Looks.ld hx).andThen .now
  have s1 := self.keeps k
  have i1 := hi.keeps k
  have b1 := (hb (.ref (h.objs.size + 1))).keeps k
  unfold isInstance callSpecial? specialOf
  repeat (first | with_reducible refine wpAny_call ?_ | lk)
  refine codeAny_mono hq fun r s' z => ?_
  rcases r with e | (v | _ | _ | _) <;> first | exact z | exact z.elim | skip
  obtain ⟨rfl, z⟩ := z
  exact wpAny_pure (wpAny_pure z)
end
structure KitP (C : Cx) (mg mb : Str → Option Value) (K : Frag) (c fm : Addr) : Prop where
  G : GX C mg mb
  X : K.In C.B
  nm : mg "ParseMap" = some (.ref c)
  keep : keepIn K (.ref c) = true
  makes : makesDIn K c = true
  ini : findIn K (.ref c) "__init__" = some (some (.builtin "dict.__init__"))
  sub : mroIn K c (.type "dict") = some true
  ord : mroIn K c (.type "collections.OrderedDict") = some false
  seq : noSeq K c = true
  gi : findIn K (.ref c) "__getitem__" = some (some (.builtin "dict.__getitem__"))
  mi : findIn K (.ref c) "__missing__" = some (some (.ref fm))
  fn : typeIn K (.ref fm) = some (.type "function")
  miss : ∃ pm cd, FnAt C fm (fdOf "ParseMap.__missing__" pm cd sMiss) (fnB sMiss) ["self", "key"]
  sm : ∃ o, C.B.get? sysModules = some o
  ln : findIn K (.ref c) "__len__" = some (some (.builtin "dict.__len__"))
  cn : findIn K (.ref c) "__contains__" = some (some (.builtin "dict.__contains__"))
section
variable {C : Cx} {A : Around} {R : Led} {mg mb : Str → Option Value} {K : Frag} {Φ : V → Led → Prop} {c fm cc g : Addr} {ps : List (Int × Int)}
theorem KitP.made (Z : KitP C mg mb K c fm) (hh : A.handled = none) (hps : ps.length ≤ 100)
    (h : ∀ tb dx es ep, IsTab es ps → (tb == sysModules) = false → Φ (.ref tb) ((tb, .obj (tabObj c dx es ep)) :: (dx, .obj emptyDict) :: (cc, .cell (.lst (ps.map pairV))) :: R)) :
    Cl C A (.ref c) [.ref g] ((g, .list (ps.map pairV)) :: (cc, .cell (.ref g)) :: R) Φ := fun z s u us H t d ds => by
  cases d
  cases ds with | cons d1 d2 =>
  cases d1; cases d2
  obtain ⟨its, nl, hg, dl⟩ := (H.res _ (.head _)).1
  have hz : z g = none := (H.res _ (.head _)).2
  have hx := zput_ext (o := ({ cls := .type "list", data := .seq its nl } : Obj)) hz
  have hgc : g ≠ cc := fun q => by
    have := (List.nodup_cons.mp H.nodup).1
    rw [q] at this
    exact this (.head _)
  have hzg : zput z g { cls := .type "list", data := .seq its nl } g = some { cls := .type "list", data := .seq its nl } := zput_self
  have dl' := dl.mono hx
  have H0 : Rel C (zput z g { cls := .type "list", data := .seq its nl }) ((cc, .cell (.lst (ps.map pairV))) :: R) s := by
    have nz : ∀ p ∈ ((cc, Res.cell (.ref g)) :: R : Led), p.1 ≠ g := fun p hp q => (List.nodup_cons.mp H.nodup).1 (by have := List.mem_map_of_mem (f := (·.1)) hp; rw [q] at this; exact this)
    refine ⟨fun a p e => hx _ _ (H.base _ _ e), fun a p e => ?_, fun p hp => ?_, (List.nodup_cons.mp H.nodup).2, H.gens, H.os⟩
    · unfold zput at e
      by_cases q : a = g
      · rw [if_pos q] at e; cases e; subst q; exact hg
      · rw [if_neg q] at e; exact H.kept _ _ e
    · have zp : ∀ a, a ≠ g → zput z g { cls := .type "list", data := .seq its nl } a = z a := fun a q => by unfold zput; rw [if_neg q]
      rcases List.mem_cons.mp hp with rfl | hp'
      · refine ⟨?_, (zp cc (fun q => hgc q.symm)).trans (H.res _ (.tail _ (.head _))).2⟩
        obtain ⟨w, hw, hv⟩ := (H.res _ (.tail _ (.head _))).1
        rcases hv with hv | ⟨w', rfl, hd⟩
        · cases hv
        · cases hd
          exact ⟨some (.ref g), hw, .inr ⟨_, rfl, .lst hzg rfl rfl dl'⟩⟩
      · exact ⟨(H.res p (.tail _ (.tail _ hp'))).1.keeps hx fun _ e => e, (zp p.1 (nz p (.tail _ hp'))).trans (H.res p (.tail _ (.tail _ hp'))).2⟩
  obtain ⟨hp, gg, dr, tk, os⟩ := s
  have X' := Z.X.keeps H.keepB
  refine wpAny_call (make_D (makesD_of X' Z.makes) (looks_findIn X' Z.ini) (fun self => Looks.of_pure (PySem.F.slot_dict_init.bind self)) ?_)
  have H1 : Rel C (zput z g { cls := .type "list", data := .seq its nl }) ((hp.objs.size, .obj emptyDict) :: (cc, .cell (.lst (ps.map pairV))) :: R) ⟨hp.push emptyDict, gg, dr, tk, os⟩ := H0.pushR (o := emptyDict) (r := .obj emptyDict) (Heap.get?_push_size _ rfl)
  have H2 : Rel C (zput z g { cls := .type "list", data := .seq its nl }) ((hp.objs.size + 1, .obj (tabObj c hp.objs.size #[] 0)) :: (hp.objs.size, .obj emptyDict) :: (cc, .cell (.lst (ps.map pairV))) :: R) ⟨(hp.push emptyDict).push (tabObj c hp.objs.size #[] 0), gg, dr, tk, os⟩ := by
    have := H1.pushR (o := tabObj c hp.objs.size #[] 0) (r := .obj (tabObj c hp.objs.size #[] 0)) (Heap.get?_push_size _ rfl)
    dsimp only at this
    rw [Heap.size_push] at this
    exact this
  have hh' : (A.under (.builtin "type.__call__" ⟨[.ref c, .ref g], []⟩)).handled = none := hh
  refine codeAny_mono (initD Z.X Z.sub Z.ord hh' hps H2 t hzg dl') fun r s' q => ?_
  obtain ⟨rfl, t', z', es', ep', e', H', T⟩ := q
  have hsm : (hp.objs.size + 1 == sysModules) = false := by
    obtain ⟨o, ho⟩ := Z.sm
    have := Heap.lt_size (H.keepB _ _ ho)
    rw [beq_eq_false_iff_ne]
    intro e
    rw [← e] at this
    exact absurd this (by show ¬ (hp.objs.size + 1 < hp.objs.size); omega)
  exact ⟨rfl, z', _, .ref _, hx.trans e', H', .ref _, h _ _ _ _ T hsm⟩
end
end Mine

open PySem PySem.W PyProof.Rows PySem.Calls
set_option Elab.async false
set_option linter.unusedVariables false
set_option maxRecDepth 100000
set_option maxHeartbeats 1000000
namespace Mine
section
variable {C : Cx} {A : Around} {env : Env} {R : Led} {mg mb : Str → Option Value} {K : Frag} {Φ : V → Led → Prop} {Ψ : Fl → Led → Prop} {pos : Pos} {c fm tb dx : Addr} {es : Array DictEntry}
theorem Cl.ordS {n : Nat} (h : Φ (.int n) R) : Cl C A (.bi "ord") [.str (S [n])] R Φ := fun z s u us H t d ds => by
  cases d
  cases ds with | cons d1 d2 =>
    cases d1; cases d2
    exact P.ord_of_char (.mk (H.toks _) (.int _ _) h)
theorem Cl.chrI {n : Nat} (hn : n ≤ 1114111) (h : Φ (.str (S [n])) R) : Cl C A (.bi "chr") [.int n] R Φ := fun z s u us H t d ds => by
  cases d
  cases ds with | cons d1 d2 =>
    cases d1; cases d2
    refine P.chr_of_int (by rw [Bool.or_eq_false_iff]; constructor <;> (rw [decide_eq_false_iff_not]; omega)) (.mk (H.toks _) ?_ h)
    rw [Int.toNat_natCast]; exact .str _ _
theorem Cl.absI {a : Int} (h : Φ (.int (a.natAbs : Nat)) R) : Cl C A (.bi "abs") [.int a] R Φ := fun z s u us H t d ds => by
  cases d
  cases ds with | cons d1 d2 =>
    cases d1; cases d2
    refine call_abs_int fun u tk => .mk (H.toks _) ?_ h
    by_cases q : a < 0
    · rw [if_pos q, show -a = ((a.natAbs : Nat) : Int) by omega]; exact .int _ _
    · rw [if_neg q, show a = ((a.natAbs : Nat) : Int) by omega, Int.natAbs_natCast]; exact .int _ _
theorem Cl.isiInt {n : Int} (h : Φ (.bool true) R) : Cl C A (.bi "isinstance") [.int n, .ty "int"] R Φ := fun z s u us H t d ds => by
  cases d
  cases ds with | cons d1 d2 => cases d1; cases d2 with | cons d3 d4 => cases d3; cases d4; exact IsiPair.int_int (.mk H (.bool _) h)
theorem Cmp.neB {a b : Bool} {Φ : Bool → Led → Prop} (h : Φ (a != b) R) (hu : A.units + 64 < cLine) : Cmp C A .NotEq (.bool a) (.bool b) R Φ := by
  refine Cmp.neD (x := .bool a) (y := .bool b) rfl rfl ?_ ?_ hu ?_
  · cases a <;> kernel_rfl
  · cases b <;> kernel_rfl
  · cases a <;> cases b <;> exact h
theorem TabR.of_led (Z : KitP C mg mb K c fm) {ep : Nat} (hk : IntKeys es) (h1 : (tb, .obj (tabObj c dx es ep)) ∈ R) (h2 : (dx, .obj emptyDict) ∈ R) (ht : (tb == sysModules) = false) : TabR C K tb c dx fm es R :=
  ⟨Z.X, ⟨ep, #[], fun z s H => (H.res _ h1).1⟩, ⟨_, fun z s H => (H.res _ h2).1⟩, hk, Z.sub, Z.seq, Z.gi, Z.mi, Z.fn, ht⟩
def tabI (o : Option Value) : Int := match o with
  | some (.int i _) => i
  | _ => 120
theorem Ev.itemT {value slice : Expr} (h : Ev C A env value R fun o R₁ => o = .ref tb ∧ Ev C A env slice R₁ fun i R₂ => ∃ k cls, i = .int k ∧ TabR C K tb cls dx fm es R₂ ∧ (tabVal es k = Option.none → Cl C A.in1 (.ref fm) [.ref tb, .int k] R₂ fun v R' => v = .int 120 ∧ R' = R₂) ∧ (∀ v, tabVal es k = some v → ∃ i u, v = .int i u) ∧ Φ (.int (tabI (tabVal es k))) R₂)
    (hs : ∀ o i, subscripted slice false o i = operate [o, i] (getItem o i) := by intro _ _; with_unfolding_all rfl) (hv : ∀ o r, letTemporaryGo value o r = pure () := by intro _ _; with_unfolding_all rfl) : Ev C A env (.Subscript value slice pos) R Φ := by
  refine Ev.sub (h.mono fun o R₁ ⟨ho, h₁⟩ => h₁.mono fun i R₂ ⟨k, cls, hi, T, hm, hv', hΦ⟩ z s u v H t d e => ?_)
  subst ho hi
  cases d; cases e
  rename_i tk
  obtain ⟨ep, sl, hat⟩ := T.at_
  obtain ⟨od, hdx⟩ := T.dict
  have X := T.X.keeps H.keepB
  have I : InstAt s.heap tb ⟨.ref cls, some dx, .dict es ep, sl⟩ cls (some od) := ⟨hat z s H, rfl, rfl, hdx z s H⟩
  unfold subscriptTail
  refine wpAny_bind ?_
  rw [getitemInPython_of_ne (by intro e; cases e)]
  refine wpAny_bind (wpAny_bind (I.type.here ((looks_findIn X T.gi).here ?_)))
  have fin : wpAny C.M A (subscripted slice false (.ref tb) (.int k tk)) (fun r s₃ => wpAny C.M A (letTemporaryGo value (.ref tb) r >>= fun _ => pure r) (VPost C z Φ) NoE s₃) NoE s := by
    rw [hs]
    refine wpAny_operating ?_
    refine TabR.get T H t hm hv' fun z' s' i u e' H' t' hi => ?_
    refine wpAny_bind (wpAny_of_eq (hv _ _) (wpAny_pure ⟨z', R₂, _, e', H', .int _ _, ?_⟩))
    rw [show i = tabI (tabVal es k) from hi]; exact hΦ
  first
    | exact wpAny_pure (wpAny_bind fin)
    | exact wpAny_bind (wpAny_pure (wpAny_bind fin))
    | exact wpAny_bind fin
theorem len_kind : builtinKind "dict.__len__" = some .slot := by decide +kernel
theorem len_split : splitId "dict.__len__" = some ("dict", "__len__") := by decide +kernel
theorem con_kind : builtinKind "dict.__contains__" = some .method := by decide +kernel
theorem con_split : splitId "dict.__contains__" = some ("dict", "__contains__") := by decide +kernel
theorem dlen_plain : plainId "dict.__len__" = true := by decide +kernel
theorem dcon_plain : plainId "dict.__contains__" = true := by decide +kernel
theorem Cl.lenT {cls : Addr} (T : TabR C K tb cls dx fm es R) (hl : findIn K (.ref cls) "__len__" = some (some (.builtin "dict.__len__"))) (hz : es.size ≤ 1000) (h : Φ (.int es.size) R) : Cl C A (.bi "len") [.ref tb] R Φ := fun z s u us H t d ds => by
  cases d
  cases ds with | cons d1 d2 =>
  cases d1; cases d2
  obtain ⟨ep, sl, hat⟩ := T.at_
  obtain ⟨od, hdx⟩ := T.dict
  have X := T.X.keeps H.keepB
  have hto := hat z s H
  have I : InstAt s.heap tb ⟨.ref cls, some dx, .dict es ep, sl⟩ cls (some od) := ⟨hto, rfl, rfl, hdx z s H⟩
  have sub : Looks C.M s.heap (isInstance (.ref tb) (.type "dict")) true := I.type.andThen (looks_mroIn X T.sub)
  refine Calls.call_function_entry kind_len plain_len entry_len (args_len1 _) ?_
  unfold Builtin.«len»
  refine wpAny_bind (m := oneArg "len" _) (wpAny_pure ?_)
  unfold callSpecial?
  refine wpAny_bind (wpAny_bind (wpAny_bind (I.type.here ((looks_findIn X hl).here ?_))))
  refine wpAny_holding ?_
  rw [PySem.F.slot_dict_len.bind]
  refine wpAny_bind (wpAny_pure (wpAny_bind ?_))
  show wpAny C.M _ (call (.builtin "dict.__len__") [.ref tb]) _ _ s
  refine wpAny_call (codeAny_call_builtin dlen_plain PySem.F.entry_dict_len (check_slot len_kind len_split sub (PySem.F.args_dict_len_1 _) ?_))
  show wpAny _ _ (dictSize tb >>= _) _ _ s
  unfold dictSize
  refine wpAny_bind (wpAny_bind (wpAny_dictEntries hto rfl (wpAny_pure ?_)))
  show wpAny _ _ (Builtin.Dict.pendingCount tb >>= _) _ _ s
  refine wpAny_bind (wpAny_pendingCount_other T.tb ?_)
  show wpAny _ _ (retInt _) _ _ _
  unfold retInt
  refine wpAny_bind (wpAny_mkInt (wpAny_pure ?_))
  refine wpAny_pure ?_
  dsimp only
  refine wpAny_bind (wpAny_holding (wpAny_pure ?_))
  refine wpAny_bind (wpAny_letGo ?_)
  show wpAny _ _ (if ((es.size : Nat) : Int) < 0 then _ else _) _ _ _
  rw [if_neg (by omega)]
  show wpAny _ _ (if ((es.size : Nat) : Int) ≥ 2 ^ 63 then _ else _) _ _ _
  rw [if_neg (by omega)]
  refine wpAny_bind (wpAny_mkInt (wpAny_pure ⟨_, rfl, .mk (H.toks _) ?_ h⟩))
  rw [show ((es.size : Nat) : Int) + ((0 : Nat) : Int) = ((es.size : Nat) : Int) by omega]
  exact .int _ _
theorem Cmp.inT {cls : Addr} {k : Int} {Φ : Bool → Led → Prop} (T : TabR C K tb cls dx fm es R) (hl : findIn K (.ref cls) "__contains__" = some (some (.builtin "dict.__contains__"))) (h : Φ (tabVal es k).isSome R) : Cmp C A .In (.int k) (.ref tb) R Φ := fun z s u v H t d e => by
  cases d; cases e
  rename_i tk
  obtain ⟨ep, sl, hat⟩ := T.at_
  obtain ⟨od, hdx⟩ := T.dict
  have X := T.X.keeps H.keepB
  have hto := hat z s H
  have I : InstAt s.heap tb ⟨.ref cls, some dx, .dict es ep, sl⟩ cls (some od) := ⟨hto, rfl, rfl, hdx z s H⟩
  have sub : Looks C.M s.heap (isInstance (.ref tb) (.type "dict")) true := I.type.andThen (looks_mroIn X T.sub)
  show wpAny _ _ (do return Value.bool (← contains (.ref tb) (.int k tk))) _ NoE s
  refine wpAny_bind ?_
  unfold contains
  refine wpAny_holding ?_
  refine wpAny_bind (wpAny_bind (I.type.here ((looks_findIn X hl).here ?_)))
  show wpAny _ _ (if (some (Value.builtin "dict.__contains__") == some Value.none) = true then _ else _) _ _ s
  rw [if_neg (by rw [beq_builtin_none]; exact Bool.false_ne_true)]
  unfold callSpecialUnlessNone?
  refine wpAny_bind (wpAny_bind (wpAny_bind (I.type.here ((looks_findIn X hl).here ?_))))
  refine wpAny_holding ?_
  rw [slot_dict_contains.bind]
  refine wpAny_bind (wpAny_pure ?_)
  dsimp only
  rw [if_neg (by rw [show (Value.builtin "dict.__contains__" == Value.none) = false from rfl]; exact Bool.false_ne_true)]
  refine wpAny_bind ?_
  show wpAny C.M A (call (.builtin "dict.__contains__") [.ref tb, .int k tk]) _ _ s
  refine wpAny_call (codeAny_call_builtin dcon_plain entry_dict_contains (@check_meth C.M _ _ s "dict.__contains__" "dict" "__contains__" (.ref tb) [.int k tk] [] _ con_kind con_split sub (args_dict_contains (.ref tb) (.int k tk)) ?_))
  show wpAny _ _ (dictGet tb (.int k tk) >>= _) _ _ s
  unfold dictGet
  refine wpAny_bind (wpAny_holding (wpAny_bind (wpAny_pyHash_int (wpAny_bind (wpAny_dictFind_int (s := { s with toks := s.toks + 1 }) hto rfl T.keys ?_)))))
  have hs := tabVal_some (es := es) (c := k)
  cases hi : es.findIdx? fun e => Value.isInt k e.key with
  | some i =>
    rw [hi] at hs
    rw [show (tabVal es k).isSome = true from hs] at h
    dsimp only
    have hlt : i < es.size := (Array.findIdx?_eq_some_iff_getElem.mp hi).1
    refine wpAny_bind (wpAny_dictEntries (s := { s with toks := s.toks + 1 }) hto rfl (wpAny_pure ?_))
    simp only [hlt, getElem?_pos, Option.map_some, Option.isSome_some, if_true]
    refine wpAny_pure ?_
    refine wpAny_pure ?_
    dsimp only
    exact wpAny_truthy_bool (wpAny_pure ⟨_, rfl, z, R, Ext.refl _, H.toks _, h⟩)
  | none =>
    rw [hi] at hs
    rw [show (tabVal es k).isSome = false from hs] at h
    dsimp only
    refine wpAny_pure ?_
    show wpAny _ _ (Builtin.Dict.pendingKey? tb (.int k tk) >>= _) _ _ _
    refine wpAny_bind (wpAny_pendingKey_int (wpAny_pure ?_))
    refine wpAny_pure ?_
    dsimp only
    exact wpAny_truthy_bool (wpAny_pure ⟨_, rfl, z, R, Ext.refl _, H.toks _, h⟩)
end
end Mine

open PySem PySem.W PyProof.Rows PySem.Calls
set_option Elab.async false
set_option linter.unusedVariables false
set_option maxRecDepth 100000
set_option maxHeartbeats 1000000
namespace Mine
section
variable {prog : Program} {w : World} {A : Around} {s : Shared} {P : Result → Shared → Prop}
theorem compLoopP {elt target iter : Expr} {scope : Scope} {pos : Pos} {it acc : Value} {env : Env} (I : Nat → Shared → Prop)
    (turn : ∀ n s, I n s → wpAny (model prog w) A (pyNext it) (fun r s₁ => match r with
      | Option.none => P (.ok .next) s₁
      | some v => wpAny (model prog w) A (letOwnedTupleGo target it v) (fun _ s₂ => wpAny (model prog w) A (assign target env v) (fun _ s₃ => wpAny (model prog w) A (eval elt env) (fun x s₄ =>
          wpAny (model prog w) A (call (.builtin "list.append") [acc, x]) (fun _ s₅ => ∃ m, m < n ∧ I m s₅) NoE s₄) NoE s₃) NoE s₂) NoE s₁) NoE s)
    (n : Nat) (h : I n s) : codeAny (model prog w) A (.compLoop (.ListComp elt [⟨target, iter, [], 0⟩] scope pos) 0 it acc env) P s := by
  refine codeAny_loop rfl I (fun n s hI => ?_) n h
  show wpAny _ A ((compTurn (.ListComp elt [⟨target, iter, [], 0⟩] scope pos) 0 it acc env).onRaise (fun x => do noteFrame x env; theTreesLotGoes x)) _ _ s
  refine wpAny_noted ?_
  rw [compTurn_list]
  refine wpAny_bind (wpAny_standAt (wpAny_bind (wpAny_mono (turn n s hI) (fun r s₁ h₁ => ?_) fun _ _ x => x.elim)))
  cases r with
  | none => exact wpAny_pure h₁
  | some v =>
    refine wpAny_bind (wpAny_mono h₁ (fun _ s₂ h₂ => ?_) fun _ _ x => x.elim)
    refine wpAny_bind (wpAny_mono h₂ (fun _ s₃ h₃ => wpAny_bind (wpAny_tests_nil ?_)) fun _ _ x => x.elim)
    exact wpAny_bind (wpAny_bind (wpAny_mono h₃ (fun x s₄ h₄ => wpAny_bind (wpAny_mono h₄ (fun _ s₅ h₅ => wpAny_pure (wpAny_pure ⟨rfl, h₅⟩)) fun _ _ x => x.elim)) fun _ _ x => x.elim))
end
section
variable {C : Cx} {A : Around} {env : Env} {R : Led} {mg mb : Str → Option Value} {K : Frag} {Φ : V → Led → Prop} {Ψ : Fl → Led → Prop} {pos : Pos} {g : Addr} {ps : List (Int × Int)}
theorem Ev.compP {iter : Expr} {x y : Str} {px py pt pe p : Pos} {k : Nat} {scope : Scope} {cl : List (Str × Addr)} (hg : (g, .list (ps.map pairV)) ∈ R) (hps : ps.length ≤ 100) (hh : A.handled = Option.none)
    (h : Ev C A env iter R fun v R₁ => v = .ref g ∧ R₁ = R)
    (fin : ∀ D, Φ (.ref D) ((D, .list (ps.map fun p => V.int p.1)) :: R))
    (hclos : closureFor scope env = pure cl) (hcell : ∀ y ∈ scope.names, y.2 ≠ .cell) (hkind : scope.kind = .function) (hnames : ∀ y ∈ scope.names, y.2 = .local → scope.names.lookup y.1 = some .local) (hx : scope.names.lookup x = some .local) (hy : scope.names.lookup y = some .local) (hxy : x ≠ y)
    (hdx : (x == ("__debug__" : Str)) = false)
    (hs : ∀ x, foldedSetIterable iter env x = pure x := by intro _; rfl) : Ev C A env (.ListComp (.Name x pe) [⟨.Tuple [.Name x px, .Name y py] k pt, iter, [], 0⟩] scope p) R Φ := fun z s H t => by
  rw [eval_ListComp]
  refine wpAny_comprehension_free (g := ⟨.Tuple [.Name x px, .Name y py] k pt, iter, [], 0⟩) (gs := []) (use := Option.none) rfl hs hclos hkind hnames (h.then H t fun z₁ R₁ v u s₁ e₁ H₁ t₁ d₁ h₁ => ?_)
  obtain ⟨rfl, rfl⟩ := h₁
  cases d₁
  obtain ⟨its, hl, dl⟩ := H₁.list hg
  refine wpAny_pyIter_list hl ?_
  have Hp : Rel C z₁ ((s₁.heap.objs.size, .obj { cls := .type "list_iterator", data := .fields #[.ref g, .int 0 0] }) :: R₁) { s₁ with heap := s₁.heap.push { cls := .type "list_iterator", data := .fields #[.ref g, .int 0 0] } } := H₁.pushR (r := .obj _) (Heap.get?_push_size _ rfl)
  generalize hs2 : ({ s₁ with heap := s₁.heap.push { cls := .type "list_iterator", data := .fields #[.ref g, .int 0 0] } } : Shared) = s₂ at Hp ⊢
  have t₂ : 0 < s₂.toks := by rw [← hs2]; exact t₁
  generalize s₁.heap.objs.size = it at Hp ⊢
  have Hq := Hp.pushM (us := []) (vs := []) .nil
  refine wpAny_newObj_type (wpAny_newFunctionEnv hcell (by intro y hy; simp at hy) (fun h₂ hns hsb => ?_) hkind)
  dsimp only at hns hsb ⊢
  generalize s₂.heap.objs.size = D at Hq hns hsb ⊢
  generalize hs3 : ({ s₂ with heap := s₂.heap.push { cls := .type "list", data := .seq ([] : List Value).toArray } } : Shared) = s₃ at Hq
  have t₃ : 0 < s₃.toks := by rw [← hs3]; exact t₂
  have eh : s₂.heap.push { cls := .type "list", data := .seq ([] : List Value).toArray } = s₃.heap := by rw [← hs3]
  have eall : ∀ (h' : Heap) (k : Nat), ({ s₂ with heap := h', toks := k } : Shared) = { s₃ with heap := h', toks := k } := fun h' k => by rw [← hs3]
  rw [eh] at hns hsb ⊢
  rw [eall]
  have Hr : Rel C z₁ ((s₃.heap.objs.size, .ns [(x, .any), (y, .any)]) :: (D, .list []) :: (it, .obj { cls := .type "list_iterator", data := .fields #[.ref g, .int 0 0] }) :: R₁) { s₃ with heap := h₂, toks := s₂.toks + ([] : List (Str × Value)).length } :=
    Hq.more (r := .ns [(x, .any), (y, .any)]) ⟨by simpa using hxy, _, hns, fun q hq => .inl (by simp only [List.mem_cons, List.mem_nil_iff, or_false] at hq; rcases hq with rfl | rfl <;> rfl)⟩ Hq.fresh Hq.notIn fun b o hb e => hsb.extBut b o hb (Heap.get?_push_of_some _ e)
  have Hr' := Hr.wk (.same (.perm (List.Perm.swap _ _ _) .rest))
  generalize s₃.heap.objs.size = c at Hr' ⊢
  have t₄ : 0 < ({ s₃ with heap := h₂, toks := s₂.toks + ([] : List (Str × Value)).length } : Shared).toks := by show 0 < s₂.toks + 0; omega
  generalize ({ s₃ with heap := h₂, toks := s₂.toks + ([] : List (Str × Value)).length } : Shared) = s₄ at Hr' t₄ ⊢
  have hk1 : (compEnvC scope cl c env).scope.kind = .function := by simp [compEnvC, relabel, hkind]
  have hk2 : ((compEnvC scope cl c env).scope.kind == .class || ((compEnvC scope cl c env).scope.kind == .module && (compEnvC scope cl c env).locals != (compEnvC scope cl c env).globals)) = false := by rw [hk1]; rfl
  have loop : ∀ s₅ : Shared, s₅ = s₄ → codeAny C.M A (.compLoop (.ListComp (.Name x pe) [⟨.Tuple [.Name x px, .Name y py] k pt, iter, [], 0⟩] scope p) 0 (.ref it) (.ref D) (compEnvC scope cl c env)) (compPost C.M A NoE Option.none (VPost C z Φ) (.ref D) c) s₅ := by
    rintro s₅ rfl
    refine compLoopP (fun m s' => ∃ z' i o, m = ps.length - i ∧ i ≤ ps.length ∧ Ext z₁ z' ∧ 0 < s'.toks ∧ Rel C z' ((c, .ns [(x, .any), (y, .any)]) :: (it, .obj o) :: (D, .list ((ps.take i).map fun p => V.int p.1)) :: R₁) s' ∧ o.cls = .type "list_iterator" ∧ o.data = .fields #[.ref g, .int (i : Nat) 0]) ?_ ps.length ⟨z₁, 0, _, rfl, Nat.zero_le _, Ext.refl _, t₄, Hr', rfl, rfl⟩
    rintro m s' ⟨z', i, o, hm, hi, e', t', H', oc, od⟩
    have hit : s'.heap.IsListIter it g i := ⟨o, (H'.res _ (.tail _ (.head _))).1, oc, od⟩
    obtain ⟨its', hl', dl'⟩ := H'.list (.tail _ (.tail _ (.tail _ hg)))
    have hsz : its'.size = ps.length := by rw [← Array.length_toList, dl'.length, List.length_map]
    by_cases hlt : i < ps.length
    · obtain ⟨xv, hxv, dx⟩ := dl'.get (i := i) (y := pairV ps[i]) (by simp [hlt])
      refine wpAny_pyNext_list_item hit hl' (x := xv) (by simpa using hxv) fun h₂ hit₂ hs₂ => ?_
      obtain ⟨o₂, ho₂, oc₂, od₂⟩ := id hit₂
      have H₂ : Rel C z' ((c, .ns [(x, .any), (y, .any)]) :: (it, .obj o₂) :: (D, .list ((ps.take i).map fun p => V.int p.1)) :: R₁) { s' with heap := h₂ } := H'.upd (t := s'.toks) (.there .here) hs₂ ho₂
      have T : As C A (compEnvC scope cl c env) (.Tuple [.Name x px, .Name y py] k pt) (pairV ps[i]) ((c, .ns [(x, .any), (y, .any)]) :: (it, .obj o₂) :: (D, .list ((ps.take i).map fun p => V.int p.1)) :: R₁) (fun R₀ => R₀ = (c, .ns [(x, .int ps[i].1), (y, .int ps[i].2)]) :: (it, .obj o₂) :: (D, .list ((ps.take i).map fun p => V.int p.1)) :: R₁) := by
        refine As.tuple (As.name ?_) hh
        refine Sto.loc memH Put.here Upd.here ?_ (lookup_relabel_local hx) rfl hk2
        refine As.name ?_
        exact Sto.loc memH (.there .here) Upd.here rfl (lookup_relabel_local hy) rfl hk2
      have main : wpAny C.M A (PySem.assign (.Tuple [.Name x px, .Name y py] k pt) (compEnvC scope cl c env) xv) (fun _ s₃ => wpAny C.M A (eval (.Name x pe) (compEnvC scope cl c env)) (fun y' s₄ => wpAny C.M A (call (.builtin "list.append") [.ref D, y'])
          (fun _ s₅ => ∃ m', m' < m ∧ ∃ z' i o, m' = ps.length - i ∧ i ≤ ps.length ∧ Ext z₁ z' ∧ 0 < s₅.toks ∧ Rel C z' ((c, .ns [(x, .any), (y, .any)]) :: (it, .obj o) :: (D, .list ((ps.take i).map fun p => V.int p.1)) :: R₁) s₅ ∧ o.cls = .type "list_iterator" ∧ o.data = .fields #[.ref g, .int (i : Nat) 0]) NoE s₄) NoE s₃) NoE { s' with heap := h₂ } := by
        refine T.then H₂ t' dx fun z₃ R₃ s₃ e₃ H₃ t₃ h₃ => ?_
        subst h₃
        have E1 : Ev C A (compEnvC scope cl c env) (.Name x pe) ((c, .ns [(x, .int ps[i].1), (y, .int ps[i].2)]) :: (it, .obj o₂) :: (D, .list ((ps.take i).map fun p => V.int p.1)) :: R₁) (fun v R' => v = .int ps[i].1 ∧ R' = (c, .ns [(x, .int ps[i].1), (y, .int ps[i].2)]) :: (it, .obj o₂) :: (D, .list ((ps.take i).map fun p => V.int p.1)) :: R₁) :=
          Ev.loc memH memH ⟨rfl, rfl⟩ rfl hk1 (lookup_relabel_local hx) rfl hdx
        refine E1.then H₃ t₃ fun z₄ R₄ w u s₄ e₄ H₄ t₄ d₄ h₄ => ?_
        obtain ⟨rfl, rfl⟩ := h₄
        have H₅ := H₄.wk (R' := (c, .ns [(x, .any), (y, .any)]) :: (it, .obj o₂) :: (D, .list ((ps.take i).map fun p => V.int p.1)) :: R₁) (.ns (.any (.any .nil)) .rest)
        refine wpNo t₄ ((Cl.append (C := C) (A := A) (a := D) (vs := (ps.take i).map fun p => V.int p.1) (v := .int ps[i].1) (Φ := fun _ R' => R' = (c, .ns [(x, .any), (y, .any)]) :: (it, .obj o₂) :: (D, .list (((ps.take i).map fun p => V.int p.1) ++ [.int ps[i].1])) :: R₁) (.there (.there .here)) (by rw [List.length_map, List.length_take]; omega) rfl) z₄ s₄ _ _ H₅ t₄ (.bi _) (.cons (.ref D) (.cons d₄ .nil))) fun y' s₅ t₅ q => ?_
        obtain ⟨z₅', R₇, v₅, e₅', H₅', d₅, rfl⟩ := q
        refine ⟨ps.length - (i + 1), by omega, z₅', i + 1, o₂, rfl, hlt, ((e'.trans e₃).trans e₄).trans e₅', t₅, ?_, oc₂, od₂⟩
        rw [List.take_succ_eq_append_getElem hlt, List.map_append]
        exact H₅'
      dsimp only
      have main2 := wpAny_mono main (fun _ s₂ q => q) fun _ _ x => x
      cases xv with
      | ref T' => exact wpAny_letOwnedTupleGo_listiter hit₂ main2
      | _ => exact wpAny_pure main2
    · obtain rfl : i = ps.length := by omega
      refine wpAny_pyNext_list_end hh hit hl' (by simp [hsz]) fun h₂ he₂ => ?_
      have Hs := H'.wk (.perm (List.Perm.swap _ _ _) .rest)
      have hne : it ∉ (((c, Res.ns [(x, V.any), (y, V.any)]) :: (D, Res.list ((ps.take ps.length).map fun p => V.int p.1)) :: R₁) : Led).map (·.1) := (List.nodup_cons.mp Hs.nodup).1
      have hz0 : z' it = Option.none := (Hs.res _ (.head _)).2
      have H₂ := (Hs.tail).grown (t := s'.toks) hz0 hne he₂
      obtain ⟨⟨_, g', hN, _⟩, hz1⟩ := H₂.res _ (.head _)
      have hne1 : c ∉ (((D, Res.list ((ps.take ps.length).map fun p => V.int p.1)) :: R₁) : Led).map (·.1) := (List.nodup_cons.mp H₂.nodup).1
      refine ⟨g', hN, fun h₃ hs₃ => ⟨z', (D, .list ((ps.take ps.length).map fun p => V.int p.1)) :: R₁, .ref D, e₁.trans e', (H₂.tail).grown (t := s'.toks) hz1 hne1 hs₃.extBut, .ref D, ?_⟩⟩
      rw [List.take_length]
      exact fin D
  have hit0 : s₄.heap.IsListIter it g 0 := ⟨_, (Hr'.res _ (.tail _ (.head _))).1, rfl, rfl⟩
  exact codeAny_compStart_list (loop _ rfl) (wpAny_pyIter_listiter hit0 (loop _ rfl))
end
end Mine

open PySem PySem.W PyProof.Rows PySem.Calls
set_option Elab.async false
set_option linter.unusedVariables false
set_option maxRecDepth 100000
set_option maxHeartbeats 1000000
namespace Mine
structure SetIs (o : Obj) (n : Nat) : Prop where
  ex : o.ExactSet
  is : ∃ es ep t, o.data = .set es ep t ∧ t.fits es.size = true ∧ es.size = n
def ddI (ks : List Int) : List Int := ks.foldl step_dedup []
theorem firstMet_all (ks : List Int) : firstMet (fun i => ks.getD i 0) ks.length = ddI ks := by
  unfold firstMet ddI
  congr 1
  refine List.ext_getElem? fun i => ?_
  rw [List.getElem?_map]
  by_cases h : i < ks.length
  · rw [List.getElem?_range h, List.getElem?_eq_getElem h]
    simp [List.getD, h]
  · rw [List.getElem?_eq_none (by simpa using h), List.getElem?_eq_none (by omega)]; rfl
section
variable {C : Cx} {A : Around} {env : Env} {R : Led} {mg mb : Str → Option Value} {K : Frag} {Φ : V → Led → Prop} {Ψ : Fl → Led → Prop} {pos : Pos}
theorem Cl.setL {v : V} {ks : List Int} (l : LstOf R v (ks.map V.int)) (hh : A.handled = none) (hks : ks.length ≤ 20) (h : ∀ a o, SetIs o (ddI ks).length → Φ (.ref a) ((a, .obj o) :: R)) : Cl C A (.ty "set") [v] R Φ := fun z s u us H t d ds => by
  cases d
  cases ds with | cons d1 d2 =>
  cases d2
  obtain ⟨a, its, rfl, hl, dl⟩ := l.is H d1
  have hsz : its.size = ks.length := by rw [← Array.length_toList, dl.length, List.length_map]
  refine call_set_list hh hl dl.ints (by rw [hsz]; exact Nat.lt_of_le_of_lt (Nat.succ_le_succ hks) (by decide)) fun h' tk hS hk => ?_
  rw [hsz, firstMet_all] at hS
  obtain ⟨o, es, ep, tt, ho, hex, hd, _, _, _, hf, hn⟩ := hS
  have hk' : ∀ b o, s.heap.get? b = some o → h'.get? b = some o := fun b o e => hk b o (Heap.lt_size e) e
  have H1 : Rel C z R { s with heap := h', toks := tk } := H.keep hk'
  refine ⟨z, (s.heap.objs.size, .obj o) :: R, .ref s.heap.objs.size, Ext.refl _, ⟨H1.base, H1.kept, ?_, ?_, H1.gens, H1.os⟩, .ref _, h _ o ⟨hex, es, ep, tt, hd, hf, hn⟩⟩
  · intro p hp
    rcases List.mem_cons.mp hp with rfl | hp
    · exact ⟨ho, H.fresh⟩
    · exact H1.res p hp
  · exact List.nodup_cons.mpr ⟨H.notIn, H1.nodup⟩
theorem Cl.lenSet {a : Addr} {o : Obj} {n : Nat} (ha : (a, .obj o) ∈ R) (hs : SetIs o n) (hn : n ≤ 1000) (h : Φ (.int n) R) : Cl C A (.bi "len") [.ref a] R Φ := fun z s u us H t d ds => by
  cases d
  cases ds with | cons d1 d2 =>
  cases d1; cases d2
  obtain ⟨hex, es, ep, tt, hd, hf, hn'⟩ := hs
  refine call_len_set ((H.res _ ha).1) hex hd hf (by omega) (.mk (H.toks _) ?_ h)
  rw [hn']; exact .int _ _
abbrev rngQ (b : Int) (t u v : Tok) : Obj := { cls := .type "range", data := .fields #[.int 0 t, .int b u, .int 2 v] }
theorem Cl.range3 {b : Int} (hb : b ≤ 1000 ∧ -1000 ≤ b) (h : ∀ r t u v, Φ (.ref r) ((r, .obj (rngQ b t u v)) :: R)) : Cl C A (.ty "range") [.int 0, .int b, .int 2] R Φ := fun z s u us H t d ds => by
  cases d
  cases ds with | cons d1 d2 =>
    cases d1; cases d2 with | cons d3 d4 =>
      cases d3; cases d4 with | cons d5 d6 =>
        cases d5; cases d6
        refine call_range_3 (by decide) ?_ (.inl (PyProof.noPylong_small (by omega)))
        exact ⟨z, _, _, Ext.refl _, H.pushR (r := .obj _) (Heap.get?_push_size _ rfl), .ref _, h _ _ _ _⟩
theorem Itb.rng2 {r : Addr} {n : Nat} {b : Int} {t u v : Tok} (hh : A.handled = none) (hr : (r, .obj (rngQ b t u v)) ∈ R) (hn : (0 < b ∧ (b - 1) / 2 + 1 = n) ∨ (b ≤ 0 ∧ n = 0)) (hb : b ≤ 1000 ∧ -1000 ≤ b) :
    Itb C A (.ref r) ((List.range n).map fun k : Nat => V.int ((2 * k : Nat) : Int)) R := fun {z s w Q E} H d h => by
  cases d
  have hr' : IsRange s.heap r 0 b 2 t u v := (H.res _ hr).1
  have hsz : Builtin.Range.rangeSize (0 : Int) b 2 = n := by
    unfold Builtin.Range.rangeSize
    rw [if_pos (by decide)]
    rcases hn with ⟨h1, h2⟩ | ⟨h1, h2⟩
    · rw [if_pos h1, Int.sub_zero]; exact h2
    · rw [if_neg (by omega), h2]; rfl
  refine wpAny_pyIter_range hr' (by unfold Builtin.Range.small; rw [hsz]; simp only [Builtin.Range.rangeFitsLong, Bool.and_eq_true, Bool.or_eq_true, decide_eq_true_eq, beq_iff_eq, show (2 : Int) > 0 by decide, if_true]; have hn0 : n ≤ 1000 := by { rcases hn with ⟨h1, h2⟩ | ⟨h1, h2⟩ <;> omega }; omega) ?_
  rw [hsz]
  refine h _ (fun i o => o = { cls := .type "range_iterator", data := .fields #[rawInt ((2 * i : Nat) : Int), rawInt ((n : Int) - i), rawInt 2] }) rfl ⟨?_, ?_, ?_⟩ ?_
  · intro z' R' s' i o Q E w e H' ho st hv tk hQ
    subst st
    rw [List.getElem?_map] at hv
    obtain ⟨k, hk, rfl⟩ := Option.map_eq_some_iff.mp hv
    have hi : i < n := by
      have := (List.getElem?_eq_some_iff.mp hk).1
      rwa [List.length_range] at this
    have ek : k = i := by
      rw [List.getElem?_range hi] at hk
      exact (Option.some.inj hk).symm
    subst ek
    have hit : IsRangeIter s'.heap s.heap.objs.size ((2 * k : Nat) : Int) ((n : Int) - k) 2 := (H'.res _ ho).1
    refine wpAny_pyNext_range_item hit (by omega) fun h₂ hit₂ hs₂ => ?_
    refine hQ h₂ (s'.toks + 1) _ _ (Nat.succ_pos _) hs₂ hit₂ ?_ (.int _ _)
    rw [show ((2 * k : Nat) : Int) + 2 = ((2 * (k + 1) : Nat) : Int) by omega, show (n : Int) - k - 1 = (n : Int) - ((k + 1 : Nat) : Int) by omega]
  · intro z' R' s' o Q E e H' ho st hQ
    subst st
    rw [List.length_map, List.length_range] at ho
    have hit : IsRangeIter s'.heap s.heap.objs.size ((2 * n : Nat) : Int) ((n : Int) - n) 2 := (H'.res _ ho).1
    exact wpAny_pyNext_range_end hh hit (by omega) hQ
  · intro z' R' s' i o Q E H' ho st hQ
    subst st
    exact wpAny_pyIter_rangeiter ((H'.res _ ho).1 : IsRangeIter s'.heap s.heap.objs.size ((2 * i : Nat) : Int) ((n : Int) - i) 2) hQ
  · simp
theorem Ex1.forW {x : Str} {p : Pos} {iter : Expr} {body orelse : List Stmt} (I : List V → Led → Prop)
    (h : Ev C A env iter R fun v R₁ => ∃ vs R₂, Itb C A v vs R₁ ∧ Wk R₁ R₂ ∧ I vs R₂)
    (turn : ∀ it o v rest R, I (v :: rest) R → As C A env (.Name x p) v ((it, .obj o) :: R) fun R₁ => Ex C A env body R₁ (Turn (fun R₂ => ∃ R₃, Wk R₂ ((it, .obj o) :: R₃) ∧ I rest R₃) fun f R₂ => ∃ R₃, Wk R₂ R₃ ∧ Ψ f R₃))
    (fin : ∀ R, I [] R → Ex C A env orelse R Ψ)
    (hs : ∀ x, foldedSetIterable iter env x = pure x := by intro _; rfl) : Ex1 C A env (.For (.Name x p) iter body orelse pos) R Ψ := fun z s H t => by
  refine wpAny_For (h.then H t fun z₁ R₁ v u s₁ e₁ H₁ t₁ d₁ h₁ => ?_) hs
  obtain ⟨vs, R₂, hit, hwk, hI⟩ := h₁
  refine hit H₁ d₁ fun o₀ St hfr W hst => ?_
  have Hp : Rel C z₁ ((s₁.heap.objs.size, .obj o₀) :: R₂) { s₁ with heap := s₁.heap.push o₀ } := (H₁.wk hwk).pushR (r := .obj _) (Heap.get?_push_size _ hfr)
  generalize hs2 : ({ s₁ with heap := s₁.heap.push o₀ } : Shared) = s₂ at Hp ⊢
  have t₂ : 0 < s₂.toks := by rw [← hs2]; exact t₁
  generalize s₁.heap.objs.size = it at Hp W ⊢
  refine codeAny_forLoop_any (fun m s' => ∃ z' R' i o, m = vs.length - i ∧ i ≤ vs.length ∧ Ext z₁ z' ∧ 0 < s'.toks ∧ Rel C z' ((it, .obj o) :: R') s' ∧ St i o ∧ I (vs.drop i) R') ?_ vs.length ⟨z₁, R₂, 0, o₀, rfl, Nat.zero_le _, Ext.refl _, t₂, Hp, hst, by simpa using hI⟩
  rintro m s' ⟨z', R', i, o, hm, hi, e', t', H', st, hI'⟩
  by_cases hlt : i < vs.length
  · refine W.item (i := i) (v := vs[i]) e' H' (.head _) st (by simp [hlt]) t' fun h₂ tk xv o₂ htk hs₂ ho₂ st₂ dx => ?_
    have H₂ : Rel C z' ((it, .obj o₂) :: R') { s' with heap := h₂, toks := tk } := H'.upd (t := tk) .here hs₂ ho₂
    have hdr : vs.drop i = vs[i] :: vs.drop (i + 1) := List.drop_eq_getElem_cons hlt
    rw [hdr] at hI'
    have T := turn it o₂ vs[i] (vs.drop (i + 1)) R' hI'
    have main : wpAny C.M A (PySem.assign (.Name x p) env xv) (fun _ s₂ => wpAny C.M A (execs body env) (fun f s₃ => match f with
        | .next | .cont => ∃ m', m' < m ∧ (∃ z' R' i o, m' = vs.length - i ∧ i ≤ vs.length ∧ Ext z₁ z' ∧ 0 < s₃.toks ∧ Rel C z' ((it, .obj o) :: R') s₃ ∧ St i o ∧ I (vs.drop i) R')
        | .brk => FPost C z Ψ .next s₃
        | .ret v => FPost C z Ψ (.ret v) s₃) NoE s₂) NoE { s' with heap := h₂, toks := tk } := by
      refine T.then H₂ htk dx fun z₃ R₃ s₃ e₃ H₃ t₃ h₃ => h₃.then H₃ t₃ fun z₄ R₄ g f s₄ e₄ H₄ t₄ d₄ h₄ => ?_
      have eall : Ext z₁ z₄ := (e'.trans e₃).trans e₄
      cases d₄ with
      | next => obtain ⟨R₅, wk, hI₅⟩ := h₄; exact ⟨vs.length - (i + 1), by omega, z₄, R₅, i + 1, o₂, rfl, hlt, eall, t₄, H₄.wk wk, st₂, hI₅⟩
      | cont => obtain ⟨R₅, wk, hI₅⟩ := h₄; exact ⟨vs.length - (i + 1), by omega, z₄, R₅, i + 1, o₂, rfl, hlt, eall, t₄, H₄.wk wk, st₂, hI₅⟩
      | brk => obtain ⟨R₅, wk, p⟩ := h₄; exact ⟨z₄, R₅, _, e₁.trans eall, H₄.wk wk, .next, p⟩
      | ret d => obtain ⟨R₅, wk, p⟩ := h₄; exact ⟨z₄, R₅, _, e₁.trans eall, H₄.wk wk, .ret d, p⟩
    dsimp only
    exact letGo_name (wpAny_mono main (fun _ s₂ q => wpAny_mono q (fun f s₃ r => r) fun _ _ x => x.elim) fun _ _ x => x.elim)
  · obtain rfl : i = vs.length := by omega
    refine W.done e' H' (.head _) st fun h₂ he₂ => ?_
    have hne : it ∉ R'.map (·.1) := (List.nodup_cons.mp H'.nodup).1
    have hz0 : z' it = none := (H'.res _ (.head _)).2
    have H₂ : Rel C z' R' { s' with heap := h₂ } := (H'.tail).grown (t := s'.toks) hz0 hne he₂
    have hnil : vs.drop vs.length = [] := by simp
    rw [hnil] at hI'
    exact wpNo (s := { s' with heap := h₂ }) t' (fin R' hI' z' _ H₂ t') fun f s₃ _ p => p.ext (e₁.trans e')
end
end Mine

open PySem PySem.W PyProof.Rows PySem.Calls
set_option Elab.async false
set_option linter.unusedVariables false
set_option maxRecDepth 100000
set_option maxHeartbeats 1000000
namespace Mine
section
variable {C : Cx} {A : Around} {env : Env} {R : Led} {mg mb : Str → Option Value} {Φ : V → Led → Prop} {Ψ : Fl → Led → Prop} {pos : Pos}
theorem Ex1.assignComp {elt iter : Expr} {x y : Str} {px py p : Pos} {ifs : List Expr} {scope : Scope} {cl : List (Str × Addr)} (I : List V → List V → Led → Prop)
    (h : Ev C A env iter R fun v R₁ => ∃ vs R₂, Itb C A v vs R₁ ∧ vs.length ≤ 100000 ∧ Wk R₁ R₂ ∧ I vs [] R₂)
    (turn : ∀ c it o D v rest ws R, I (v :: rest) ws R → TsL C A (compEnvC scope cl c env) ifs ((c, .ns [(x, v)]) :: (it, .obj o) :: (D, .list ws) :: R) fun ok R₁ =>
      if ok = true then Ev C A (compEnvC scope cl c env) elt R₁ fun w R' => ∃ R'', Wk R' ((c, .ns [(x, .any)]) :: (it, .obj o) :: (D, .list ws) :: R'') ∧ I rest (ws ++ [w]) R''
      else ∃ R'', Wk R₁ ((c, .ns [(x, .any)]) :: (it, .obj o) :: (D, .list ws) :: R'') ∧ I rest ws R'')
    (fin : ∀ c D ws R, I [] ws R → Sto C A env y (.ref D) ((c, .ns [(x, .any)]) :: (D, .list ws) :: R) fun R₂ => ∃ R₃, Wk R₂ ((c, .ns [(x, .any)]) :: R₃) ∧ Ψ .next R₃)
    (hclos : closureFor scope env = pure cl) (hcell : ∀ y ∈ scope.names, y.2 ≠ .cell) (hkind : scope.kind = .function) (hnames : ∀ y ∈ scope.names, y.2 = .local → scope.names.lookup y.1 = some .local) (hx : scope.names.lookup x = some .local)
    (hsw : swapsWith (.ListComp elt [⟨.Name x px, iter, ifs, 0⟩] scope p) (some (.Name y py)) pos.line env = pure true)
    (hs : ∀ x, foldedSetIterable iter env x = pure x := by intro _; rfl) : Ex1 C A env (.Assign [.Name y py] (.ListComp elt [⟨.Name x px, iter, ifs, 0⟩] scope p) pos) R Ψ := fun z s H t => by
  rw [exec_Assign_Name_used _ _ _ _ hsw]
  refine wpAny_bind (wpAny_standAt (wpAny_bind ?_))
  show wpAny _ A (do let _ ← comprehension (.ListComp elt [⟨.Name x px, iter, ifs, 0⟩] scope p) scope env _ (newList []) false (eval iter env) (some (PySem.assign (.Name y py) env))) _ _ s
  refine wpAny_bind (wpAny_mono (wpAny_comprehension_free (g := ⟨.Name x px, iter, ifs, 0⟩) (gs := []) (use := some (PySem.assign (.Name y py) env)) (Q := fun _ s' => FPost C z Ψ .next s') rfl hs hclos hkind hnames (h.then H t fun z₁ R₁ v u s₁ e₁ H₁ t₁ d₁ h₁ => ?_)) (fun _ s' hq => wpAny_pure (wpAny_pure hq)) fun _ _ e => e)
  obtain ⟨vs, R₀, hit, hn, hwk, hI⟩ := h₁
  refine hit H₁ d₁ fun o₀ St hfr W hst => ?_
  have Hp : Rel C z₁ ((s₁.heap.objs.size, .obj o₀) :: R₀) { s₁ with heap := s₁.heap.push o₀ } := (H₁.wk hwk).pushR (r := .obj _) (Heap.get?_push_size _ hfr)
  generalize hs2 : ({ s₁ with heap := s₁.heap.push o₀ } : Shared) = s₂ at Hp
  have t₂ : 0 < s₂.toks := by rw [← hs2]; exact t₁
  generalize s₁.heap.objs.size = it at Hp W ⊢
  have Hq := Hp.pushM (us := []) (vs := []) .nil
  refine wpAny_newObj_type (wpAny_newFunctionEnv hcell (by intro y hy; simp at hy) (fun h₂ hns hsb => ?_) hkind)
  dsimp only at hns hsb ⊢
  generalize s₂.heap.objs.size = D at Hq hns hsb ⊢
  generalize hs3 : ({ s₂ with heap := s₂.heap.push { cls := .type "list", data := .seq ([] : List Value).toArray } } : Shared) = s₃ at Hq
  have t₃ : 0 < s₃.toks := by rw [← hs3]; exact t₂
  have eh : s₂.heap.push { cls := .type "list", data := .seq ([] : List Value).toArray } = s₃.heap := by rw [← hs3]
  have eall : ∀ (h' : Heap) (k : Nat), ({ s₂ with heap := h', toks := k } : Shared) = { s₃ with heap := h', toks := k } := fun h' k => by rw [← hs3]
  rw [eh] at hns hsb ⊢
  rw [eall]
  have Hr : Rel C z₁ ((s₃.heap.objs.size, .ns [(x, .any)]) :: (D, .list []) :: (it, .obj o₀) :: R₀) { s₃ with heap := h₂, toks := s₂.toks + ([] : List (Str × Value)).length } :=
    Hq.more (r := .ns [(x, .any)]) ⟨by simp, _, hns, fun q hq => .inl (by rw [List.mem_singleton.mp hq])⟩ Hq.fresh Hq.notIn fun b o hb e => hsb.extBut b o hb (Heap.get?_push_of_some _ e)
  have Hr' := Hr.wk (.same (.perm (List.Perm.swap _ _ _) .rest))
  generalize s₃.heap.objs.size = c at Hr' ⊢
  have t₄ : 0 < ({ s₃ with heap := h₂, toks := s₂.toks + ([] : List (Str × Value)).length } : Shared).toks := by show 0 < s₂.toks + 0; omega
  generalize ({ s₃ with heap := h₂, toks := s₂.toks + ([] : List (Str × Value)).length } : Shared) = s₄ at Hr' t₄ ⊢
  have loop : ∀ s₅ : Shared, s₅ = s₄ → codeAny C.M A (.compLoop (.ListComp elt [⟨.Name x px, iter, ifs, 0⟩] scope p) 0 (.ref it) (.ref D) (compEnvC scope cl c env)) (compPost C.M A NoE (some (PySem.assign (.Name y py) env)) (fun _ s' => FPost C z Ψ .next s') (.ref D) c) s₅ := by
    rintro s₅ rfl
    refine codeAny_compLoop_tests (fun m s' => ∃ z' R' i o ws, m = vs.length - i ∧ i ≤ vs.length ∧ Ext z₁ z' ∧ 0 < s'.toks ∧ Rel C z' ((c, .ns [(x, .any)]) :: (it, .obj o) :: (D, .list ws) :: R') s' ∧ St i o ∧ I (vs.drop i) ws R' ∧ ws.length ≤ i) ?_ vs.length ⟨z₁, R₀, 0, _, [], rfl, Nat.zero_le _, Ext.refl _, t₄, Hr', hst, by simpa using hI, Nat.le_refl _⟩
    rintro m s' ⟨z', R', i, o, ws, hm, hi, e', t', H', st, hI', hws⟩
    by_cases hlt : i < vs.length
    · refine W.item (i := i) (v := vs[i]) e' H' (.tail _ (.head _)) st (by simp [hlt]) t' fun h₂ tk xv o₂ htk hs₂ ho₂ st₂ dx => ?_
      have H₂ : Rel C z' ((c, .ns [(x, .any)]) :: (it, .obj o₂) :: (D, .list ws) :: R') { s' with heap := h₂, toks := tk } := H'.upd (t := tk) (.there .here) hs₂ ho₂
      have hdr : vs.drop i = vs[i] :: vs.drop (i + 1) := List.drop_eq_getElem_cons hlt
      rw [hdr] at hI'
      have T : As C A (compEnvC scope cl c env) (.Name x px) vs[i] ((c, .ns [(x, .any)]) :: (it, .obj o₂) :: (D, .list ws) :: R') (fun R₀ => R₀ = (c, .ns [(x, vs[i])]) :: (it, .obj o₂) :: (D, .list ws) :: R') :=
        As.name (Sto.loc memH Put.here Upd.here rfl (lookup_relabel_local hx) rfl (by simp [compEnvC, relabel, hkind]))
      have main : wpAny C.M A (PySem.assign (.Name x px) (compEnvC scope cl c env) xv) (fun _ s₂ =>
          wpAny C.M A (forIn ifs true fun c' r => if r = true then do let ok ← isTrue c' (compEnvC scope cl c env) (eval c' (compEnvC scope cl c env)); pure (ForInStep.yield ok) else pure (ForInStep.yield r)) (fun ok s₃ =>
            if ok = true then wpAny C.M A (eval elt (compEnvC scope cl c env)) (fun y s₃ => wpAny C.M A (call (.builtin "list.append") [.ref D, y])
              (fun _ s₄ => ∃ m', m' < m ∧ ∃ z' R' i o ws, m' = vs.length - i ∧ i ≤ vs.length ∧ Ext z₁ z' ∧ 0 < s₄.toks ∧ Rel C z' ((c, .ns [(x, .any)]) :: (it, .obj o) :: (D, .list ws) :: R') s₄ ∧ St i o ∧ I (vs.drop i) ws R' ∧ ws.length ≤ i) NoE s₃) NoE s₃
            else ∃ m', m' < m ∧ ∃ z' R' i o ws, m' = vs.length - i ∧ i ≤ vs.length ∧ Ext z₁ z' ∧ 0 < s₃.toks ∧ Rel C z' ((c, .ns [(x, .any)]) :: (it, .obj o) :: (D, .list ws) :: R') s₃ ∧ St i o ∧ I (vs.drop i) ws R' ∧ ws.length ≤ i) NoE s₂) NoE { s' with heap := h₂, toks := tk } := by
        refine T.then H₂ htk dx fun z₃ R₃ s₃ e₃ H₃ t₃ h₃ => ?_
        subst h₃
        refine (turn c it o₂ D vs[i] (vs.drop (i + 1)) ws R' hI').sound H₃ t₃ fun z₅ R₅ ok s₅ e₅ H₅ t₅ h₅ => ?_
        cases ok with
        | true =>
          simp only [if_true] at h₅ ⊢
          refine h₅.then H₅ t₅ fun z₄ R₄ w u s₄ e₄ H₄ t₄ d₄ h₄ => ?_
          obtain ⟨R₆, wk, hI₅⟩ := h₄
          refine wpNo t₄ ((Cl.append (C := C) (A := A) (a := D) (vs := ws) (v := w) (Φ := fun _ R' => R' = (c, .ns [(x, .any)]) :: (it, .obj o₂) :: (D, .list (ws ++ [w])) :: R₆) (.there (.there .here)) (by omega) rfl) z₄ s₄ _ _ (H₄.wk wk) t₄ (.bi _) (.cons (.ref D) (.cons d₄ .nil))) fun y s₅ t₅ q => ?_
          obtain ⟨z₅', R₇, v₅, e₅', H₅', d₅, rfl⟩ := q
          exact ⟨vs.length - (i + 1), by omega, z₅', R₆, i + 1, o₂, ws ++ [w], rfl, hlt, (((e'.trans e₃).trans e₅).trans e₄).trans e₅', t₅, H₅', st₂, hI₅, by rw [List.length_append]; show ws.length + 1 ≤ _; omega⟩
        | false =>
          simp only [Bool.false_eq_true, if_false] at h₅ ⊢
          obtain ⟨R₆, wk, hI₅⟩ := h₅
          exact ⟨vs.length - (i + 1), by omega, z₅, R₆, i + 1, o₂, ws, rfl, hlt, (e'.trans e₃).trans e₅, t₅, H₅.wk wk, st₂, hI₅, by omega⟩
      dsimp only
      refine wpAny_mono main (fun _ s₂ q => wpAny_mono q (fun ok s₃ q => ?_) fun _ _ x => x.elim) fun _ _ x => x.elim
      cases ok with
      | true =>
        simp only [if_true] at q ⊢
        exact wpAny_mono q (fun _ s₃ q => wpAny_mono q (fun _ _ r => r) fun _ _ x => x.elim) fun _ _ x => x.elim
      | false => exact q
    · obtain rfl : i = vs.length := by omega
      refine W.done e' H' (.tail _ (.head _)) st fun h₂ he₂ => ?_
      have hnil : vs.drop vs.length = [] := by simp
      rw [hnil] at hI'
      have Hs := H'.wk (.perm (List.Perm.swap _ _ _) .rest)
      have hne : it ∉ (((c, Res.ns [(x, V.any)]) :: (D, Res.list ws) :: R') : Led).map (·.1) := (List.nodup_cons.mp Hs.nodup).1
      have hz0 : z' it = Option.none := (Hs.res _ (.head _)).2
      have H₂ : Rel C z' ((c, .ns [(x, .any)]) :: (D, .list ws) :: R') { s' with heap := h₂ } := (Hs.tail).grown (t := s'.toks) hz0 hne he₂
      show wpAny C.M A (PySem.assign (.Name y py) env (.ref D)) _ NoE _
      refine (As.name (pos := py) (fin c D ws R' hI')).then (s := { s' with heap := h₂ }) H₂ t' (.ref D) fun z₃ R₃ s₃ e₃ H₃ t₃ ⟨R₄, wk, hΨ⟩ => ?_
      have H₄ := H₃.wk wk
      obtain ⟨⟨_, g, hN, _⟩, hz1⟩ := H₄.res _ (.head _)
      have hne1 : c ∉ R₄.map (·.1) := (List.nodup_cons.mp H₄.nodup).1
      exact ⟨g, hN, fun h₃ hs₃ => ⟨z₃, R₄, _, (e₁.trans e').trans e₃, (H₄.tail).grown (t := s₃.toks) hz1 hne1 hs₃.extBut, .next, hΨ⟩⟩
  exact codeAny_compStart_list (loop _ rfl) (W.self Hr' (.tail _ (.head _)) hst (loop _ rfl))
theorem Ex1.assignCompG {α : Type} {elt iter : Expr} {x y : Str} {px py p : Pos} {ifs : List Expr} {scope : Scope} {cl : List (Str × Addr)} (all : List α) (φ : α → V) (F : List α → List V)
    (h : Ev C A env iter R fun v R₁ => Itb C A v (all.map φ) R₁ ∧ all.length ≤ 100000 ∧ Wk R₁ R) (hF : F [] = [])
    (turn : ∀ c it o D done a todo, all = done ++ a :: todo → TsL C A (compEnvC scope cl c env) ifs ((c, .ns [(x, φ a)]) :: (it, .obj o) :: (D, .list (F done)) :: R) fun ok R₁ =>
      if ok = true then Ev C A (compEnvC scope cl c env) elt R₁ fun w R' => R' = (c, .ns [(x, φ a)]) :: (it, .obj o) :: (D, .list (F done)) :: R ∧ F (done ++ [a]) = F done ++ [w]
      else R₁ = (c, .ns [(x, φ a)]) :: (it, .obj o) :: (D, .list (F done)) :: R ∧ F (done ++ [a]) = F done)
    (fin : ∀ c D, Sto C A env y (.ref D) ((c, .ns [(x, .any)]) :: (D, .list (F all)) :: R) fun R₂ => ∃ R₃, Wk R₂ ((c, .ns [(x, .any)]) :: R₃) ∧ Ψ .next R₃)
    (hclos : closureFor scope env = pure cl) (hcell : ∀ y ∈ scope.names, y.2 ≠ .cell) (hkind : scope.kind = .function) (hnames : ∀ y ∈ scope.names, y.2 = .local → scope.names.lookup y.1 = some .local) (hx : scope.names.lookup x = some .local)
    (hsw : swapsWith (.ListComp elt [⟨.Name x px, iter, ifs, 0⟩] scope p) (some (.Name y py)) pos.line env = pure true)
    (hs : ∀ x, foldedSetIterable iter env x = pure x := by intro _; rfl) : Ex1 C A env (.Assign [.Name y py] (.ListComp elt [⟨.Name x px, iter, ifs, 0⟩] scope p) pos) R Ψ := by
  refine Ex1.assignComp (cl := cl) (Cpr all φ F R) (h.mono fun v R₁ ⟨h1, h2, h3⟩ => ⟨_, R, h1, by rw [List.length_map]; exact h2, h3, .mk [] all rfl rfl hF.symm rfl⟩) ?_ ?_ hclos hcell hkind hnames hx hsw hs
  · rintro c it o D v rest ws R' ⟨done, todo, h1, hvs, rfl, rfl⟩
    cases todo with
    | nil => cases hvs
    | cons a todo =>
    obtain ⟨rfl, rfl⟩ := List.cons.inj hvs
    have key : ∀ {R₁ : Led} {b : Bool}, (if b = true then Ev C A (compEnvC scope cl c env) elt R₁ fun w R'' => R'' = (c, .ns [(x, φ a)]) :: (it, .obj o) :: (D, .list (F done)) :: R' ∧ F (done ++ [a]) = F done ++ [w]
        else R₁ = (c, .ns [(x, φ a)]) :: (it, .obj o) :: (D, .list (F done)) :: R' ∧ F (done ++ [a]) = F done) →
        if b = true then Ev C A (compEnvC scope cl c env) elt R₁ fun w R'' => ∃ R₂, Wk R'' ((c, .ns [(x, .any)]) :: (it, .obj o) :: (D, .list (F done)) :: R₂) ∧ Cpr all φ F R' (todo.map φ) (F done ++ [w]) R₂
        else ∃ R₂, Wk R₁ ((c, .ns [(x, .any)]) :: (it, .obj o) :: (D, .list (F done)) :: R₂) ∧ Cpr all φ F R' (todo.map φ) (F done) R₂ := by
      intro R₁ b q
      cases b with
      | true =>
        simp only [if_true] at q ⊢
        refine q.mono fun w R₂ ⟨e1, e2⟩ => ?_
        subst e1
        exact ⟨R', .ns (.any .nil) .rest, .mk (done ++ [a]) todo (by rw [h1, List.append_assoc]; rfl) rfl e2.symm rfl⟩
      | false =>
        simp only [Bool.false_eq_true, if_false] at q ⊢
        obtain ⟨e1, e2⟩ := q
        subst e1
        exact ⟨R', .ns (.any .nil) .rest, .mk (done ++ [a]) todo (by rw [h1, List.append_assoc]; rfl) rfl e2.symm rfl⟩
    have T := turn c it o D done a todo h1
    match ifs, T with
    | [], T => exact TsL.nil (key (b := true) T)
    | [t], T => exact fun z s H tk => wpNo tk (show wpAny _ _ (isTrue t _ (eval t _)) _ _ _ from T z s H tk) fun b s' _ ⟨z', R₂, e, H', p⟩ => ⟨z', R₂, e, H', key p⟩
    | _ :: _ :: _, T => exact T.elim
  · rintro c D ws R' ⟨done, todo, h1, hvs, rfl, rfl⟩
    cases todo with
    | cons a todo => cases hvs
    | nil =>
    rw [List.append_nil] at h1
    subst h1
    exact fin c D
end
end Mine

open PySem PySem.W PyProof.Rows PySem.Calls
set_option Elab.async false
set_option linter.unusedVariables false
set_option maxRecDepth 100000
set_option maxHeartbeats 1000000
namespace Mine
local macro_rules | `(tactic| walk_at "mem") => `(tactic| first | with_reducible exact memH | (with_reducible refine memT ?_; walk_at "mem"))
local macro_rules | `(tactic| walk_at "put") => `(tactic| first | with_reducible exact Put.here | (apply Put.there; walk_at "put"))
local macro_rules | `(tactic| walk_at "upd") => `(tactic| first | with_reducible exact Upd.here | (apply Upd.there; walk_at "upd"))
local macro_rules | `(tactic| walk_at "nm") => `(tactic| (refine Ev.loc (by walk_at "mem") (by walk_at "mem") ?_))
local macro_rules | `(tactic| walk_at "sto") => `(tactic| (refine Sto.loc (by walk_at "mem") (by walk_at "put") (by walk_at "upd") ?_))
def sVal : Stmt := stAt 7 PySem.Challenge.pw_dm0164_01.main.body
def sSig : Stmt := stAt 8 PySem.Challenge.pw_dm0164_01.main.body
def sCod : Stmt := stAt 9 PySem.Challenge.pw_dm0164_01.main.body
def sLaw : Stmt := stAt 10 PySem.Challenge.pw_dm0164_01.main.body
abbrev sV (s : List Nat) : V := .str (S s)
theorem in_one (x : List Nat) (c : Nat) : (!(Builtin.Str.occurrences (S x) (S [c]) 0 (S x).length 1).isEmpty) = decide (c ∈ x) := by
  have := StrLaws.found_one (S x) c
  rw [S_cps] at this
  exact this
def toldOf (ps : List (Int × Int)) (k : Int) : Int := (mapOf ps k).getD 120
inductive IVal (L : Addr) (ps : List (Int × Int)) (key : Int) (R0 : Led) (vs : List V) (R : Led) : Prop where
  | mk (done todo : List (Int × Int)) (u1 u2 : V) : ps = done ++ todo → vs = todo.map pairV → R = (L, .ns [("pairs", .lst (ps.map pairV)), ("key", .int key), ("told", .int (toldOf done key)), ("one", u1), ("value", u2)]) :: R0 → IVal L ps key R0 vs R
section
variable {C : Cx} {A : Around} {env : Env} {R : Led} {mg mb : Str → Option Value} {K : Frag} {Φ : V → Led → Prop} {pm cd : Value} {f : Addr} {pos : Pos} {ps : List (Int × Int)}
theorem Ev.strS {x : Str} {a : List Nat} {k : Nat} (hx : x = S a) (h : Φ (.str (S a)) R) : Ev C A env (.Constant (.str x) k pos) R Φ := Ev.str (by rw [hx]; exact h)
theorem val_call {key : Int} (G : GX C mg mb) (hh : A.handled = none) (F : FnAt C f (fdOf "_law_value" pm cd sVal) (fnB sVal) ["pairs", "key"]) (hd : A.depth < recursionLimit)
    (h : Φ (.int (toldOf ps key)) R) : Cl C A (.ref f) [.lst (ps.map pairV), .int key] R Φ := by
  refine ClC.cl (F.call (r := ["told", "one", "value"]) G (.cons (.cons (.rest (.rest (.rest .nil))))) (by decide) hd (by decide) fun L => ?_)
  have hh' : (A.deeper (fenv (fdOf "_law_value" pm cd sVal) f L)).handled = none := hh
  generalize A.deeper (fenv (fdOf "_law_value" pm cd sVal) f L) = A' at hh' ⊢
  refine Ex.cons ?_
  refine Ex1.assign ?_ ?_
  rotate_left
  · kernel_rfl
  refine Ev.int ?_
  walk_at "sto"
  refine Ex.cons ?_
  refine Ex1.forL (IVal L ps key R) hh' ?_ ?_ ?_
  · walk_at "nm"
    exact ⟨_, rfl, .mk [] ps .any .any rfl rfl rfl⟩
  · rintro it o v rest R' ⟨done, todo, u1, u2, h1, hvs, rfl⟩
    cases todo with
    | nil => cases hvs
    | cons p todo =>
    obtain ⟨rfl, rfl⟩ := List.cons.inj hvs
    refine As.tuple (As.name ?_) hh'
    walk_at "sto"
    refine As.name ?_
    walk_at "sto"
    refine Ex.cons ?_
    refine Ex1.ite ?_
    refine Ts.cmp ?_
    walk_at "nm"
    walk_at "nm"
    refine Cmp.eqI ?_
    have hs := mapOf_snoc done p key
    refine ite_b (fun q => ?_) fun q => ?_
    · have q : p.1 = key := eq_of_beq q
      refine Ex.cons ?_
      refine Ex1.assign ?_ ?_
      rotate_left
      · kernel_rfl
      walk_at "nm"
      walk_at "sto"
      refine Ex.nil (Ex.nil ⟨_, .rest, .mk (done ++ [p]) todo (.int p.1) (.int p.2) (by rw [h1, List.append_assoc]; rfl) rfl ?_⟩)
      unfold toldOf
      rw [hs, if_pos q]; rfl
    · have q : p.1 ≠ key := fun e => by rw [e, beq_self_eq_true] at q; cases q
      refine Ex.nil (Ex.nil ⟨_, .rest, .mk (done ++ [p]) todo (.int p.1) (.int p.2) (by rw [h1, List.append_assoc]; rfl) rfl ?_⟩)
      unfold toldOf
      rw [hs, if_neg q]
  · rintro R' ⟨done, todo, u1, u2, h1, hvs, rfl⟩
    cases todo with
    | cons p todo => cases hvs
    | nil =>
    rw [List.append_nil] at h1
    subst h1
    refine Ex.nil ?_
    refine Ex.cons ?_
    refine Ex1.ret ?_
    walk_at "nm"
    exact ⟨_, .drop .rest, h⟩
theorem sig_call {n : Nat} (G : GX C mg mb) (F : FnAt C f (fdOf "_law_sign" pm cd sSig) (fnB sSig) ["sign"]) (hd : A.depth < recursionLimit)
    (h : Φ (sV [tr n]) R) : Cl C A (.ref f) [sV [n]] R Φ := by
  refine ClC.cl (F.call (r := []) G (.cons .nil) (by decide) hd (by decide) fun L => ?_)
  generalize A.deeper (fenv (fdOf "_law_sign" pm cd sSig) f L) = A'
  refine Ex.cons ?_
  refine Ex1.ite ?_
  refine Ts.cmp ?_
  walk_at "nm"
  refine Ev.strS (a := [40, 91, 123]) (by decide) ?_
  refine Cmp.inS ?_
  rw [in_one]
  refine ite_b (fun q => ?_) fun q => ?_
  · have q : n = 40 ∨ n = 91 ∨ n = 123 := by simpa using q
    refine Ex.cons ?_
    refine Ex1.ret ?_
    refine Ev.strS (a := [40]) (by decide) ?_
    rw [show tr n = 40 by unfold tr; rw [if_pos q]] at h
    exact ⟨_, .drop .rest, h⟩
  have q1 : ¬ (n = 40 ∨ n = 91 ∨ n = 123) := by simpa using q
  refine Ex.nil ?_
  refine Ex.cons ?_
  refine Ex1.ite ?_
  refine Ts.cmp ?_
  walk_at "nm"
  refine Ev.strS (a := [41, 93, 125]) (by decide) ?_
  refine Cmp.inS ?_
  rw [in_one]
  refine ite_b (fun q => ?_) fun q => ?_
  · have q : n = 41 ∨ n = 93 ∨ n = 125 := by simpa using q
    refine Ex.cons ?_
    refine Ex1.ret ?_
    refine Ev.strS (a := [41]) (by decide) ?_
    rw [show tr n = 41 by unfold tr; rw [if_neg q1, if_pos q]] at h
    exact ⟨_, .drop .rest, h⟩
  have q2 : ¬ (n = 41 ∨ n = 93 ∨ n = 125) := by simpa using q
  refine Ex.nil ?_
  refine Ex.cons ?_
  refine Ex1.ite ?_
  refine Ts.cmp ?_
  walk_at "nm"
  refine Ev.strS (a := [34, 39, 92, 10, 35]) (by decide) ?_
  refine Cmp.inS ?_
  rw [in_one]
  refine ite_b (fun q => ?_) fun q => ?_
  · have q : n = 34 ∨ n = 39 ∨ n = 92 ∨ n = 10 ∨ n = 35 := by simpa using q
    refine Ex.cons ?_
    refine Ex1.ret ?_
    walk_at "nm"
    rw [show tr n = n by unfold tr; rw [if_neg q1, if_neg q2, if_pos q]] at h
    exact ⟨_, .drop .rest, h⟩
  have q3 : ¬ (n = 34 ∨ n = 39 ∨ n = 92 ∨ n = 10 ∨ n = 35) := by simpa using q
  refine Ex.nil ?_
  refine Ex.cons ?_
  refine Ex1.ret ?_
  refine Ev.strS (a := [120]) (by decide) ?_
  rw [show tr n = 120 by unfold tr; rw [if_neg q1, if_neg q2, if_neg q3]] at h
  exact ⟨_, .drop .rest, h⟩
theorem cod_call {x : Int} (G : GX C mg mb) (nA : mg "abs" = none) (F : FnAt C f (fdOf "_law_code" pm cd sCod) (fnB sCod) ["x"]) (hd : A.depth < recursionLimit)
    (h : ∀ n : Nat, n ≤ 1114111 → Φ (.int n) R) : Cl C A (.ref f) [.int x] R Φ := by
  refine ClC.cl (F.call (r := ["code"]) G (.cons (.rest .nil)) (by decide) hd (by decide) fun L => ?_)
  generalize A.deeper (fenv (fdOf "_law_code" pm cd sCod) f L) = A'
  obtain ⟨w, hw, ew⟩ := fmod_nat (x.natAbs : Int) 1114112 (by decide)
  refine Ex.cons ?_
  refine Ex1.assign ?_ ?_
  rotate_left
  · kernel_rfl
  refine Ev.bin ?_
  refine Ev.callN ?_
  refine Ev.blt G nA (u := .builtin "abs") (by kernel_rfl) (fun _ => .bi _) ?_
  refine EvL.cons ?_
  walk_at "nm"
  refine EvL.nil ⟨Kpr.bi, Cl.absI ?_⟩
  refine Ev.int ?_
  refine Op2.modI (by decide) ?_
  rw [show (x.natAbs : Int).fmod 1114112 = w from ew]
  walk_at "sto"
  refine Ex.cons ?_
  refine Ex1.ite ?_
  refine Ts.and ?_
  refine Ts.cmp ?_
  walk_at "nm"
  refine Ev.int ?_
  refine Cmp.gtI ?_
  have last : Ex C A' (fenv (fdOf "_law_code" pm cd sCod) f L) ((fnB sCod).drop 2) ((L, .ns [("x", .int x), ("code", .int w)]) :: R) (Back Φ) := by
    refine Ex.cons ?_
    refine Ex1.ret ?_
    walk_at "nm"
    exact ⟨_, .drop .rest, h w (by omega)⟩
  refine ite_b (fun q => ?_) fun q => ?_
  · refine Ts.and ?_
    refine Ts.cmp ?_
    walk_at "nm"
    refine Ev.int ?_
    refine Cmp.ltI ?_
    generalize decide ((w : Int) < 57344) = b2
    refine ite_b (fun q2 => ?_) fun q2 => ?_
    · refine Ts.and_nil ?_
      refine ite_t rfl ?_
      have q : 55295 < w := by have := of_decide_eq_true q; omega
      refine Ex.cons ?_
      refine Ex1.ret ?_
      refine Ev.bin ?_
      walk_at "nm"
      refine Ev.int ?_
      refine Op2.subI ?_
      obtain ⟨w', rfl⟩ : ∃ w', w = w' + 55296 := ⟨w - 55296, by omega⟩
      rw [show ((w' + 55296 : Nat) : Int) - 55296 = (w' : Int) by omega]
      exact ⟨_, .drop .rest, h w' (by omega)⟩
    · refine ite_f rfl (Ex.nil ?_)
      exact last
  · refine ite_f rfl (Ex.nil ?_)
    exact last
end
end Mine

open PySem PySem.W PyProof.Rows PySem.Calls
set_option Elab.async false
set_option linter.unusedVariables false
set_option maxRecDepth 100000
set_option maxHeartbeats 1000000
namespace Mine
local macro_rules | `(tactic| walk_at "mem") => `(tactic| first | with_reducible exact memH | (with_reducible refine memT ?_; walk_at "mem"))
local macro_rules | `(tactic| walk_at "put") => `(tactic| first | with_reducible exact Put.here | (apply Put.there; walk_at "put"))
local macro_rules | `(tactic| walk_at "upd") => `(tactic| first | with_reducible exact Upd.here | (apply Upd.there; walk_at "upd"))
local macro_rules | `(tactic| walk_at "nm") => `(tactic| (refine Ev.loc (by walk_at "mem") (by walk_at "mem") ?_))
local macro_rules | `(tactic| walk_at "sto") => `(tactic| (refine Sto.loc (by walk_at "mem") (by walk_at "put") (by walk_at "upd") ?_))
local macro_rules | `(tactic| walk_at "frn") => `(tactic| first | with_reducible exact FrzN.nil | (with_reducible apply FrzN.hit; walk_at "frn") | (apply FrzN.same; walk_at "frn"))
theorem sV_map (ds : List (List Nat)) : ds.map sV = (ds.map S).map V.str := by rw [List.map_map]; rfl
theorem lens (ds : List (List Nat)) : ((ds.map S).map (·.length)).sum = ds.flatten.length := by
  rw [List.length_flatten, List.map_map]
  congr 1
theorem ones_flat (l : List Nat) : (l.map fun n => [n]).flatten = l := by
  induction l with
  | nil => rfl
  | cons n l ih => rw [List.map_cons, List.flatten_cons, ih]; rfl
theorem tabVal_told {es : Array DictEntry} {ps : List (Int × Int)} (T : IsTab es ps) (k : Int) : tabI (tabVal es k) = toldOf ps k := by
  unfold toldOf
  rcases T.val k with ⟨u, j, h1, h2⟩ | ⟨h1, h2⟩
  · rw [h1, h2]; rfl
  · rw [h1, h2]; rfl
theorem tabVal_int {es : Array DictEntry} {ps : List (Int × Int)} (T : IsTab es ps) (k : Int) : ∀ v, tabVal es k = some v → ∃ i u, v = .int i u := fun v e => by
  rcases T.val k with ⟨u, j, h1, h2⟩ | ⟨h1, h2⟩
  · rw [h1] at e; cases e; exact ⟨_, _, rfl⟩
  · rw [h1] at e; cases e
def OkP (ps : List (Int × Int)) : Prop := ∀ p ∈ ps, 0 ≤ p.2 ∧ p.2 < 128
theorem told_ok {ps : List (Int × Int)} (h : OkP ps) (k : Int) : 0 ≤ toldOf ps k ∧ toldOf ps k < 128 := by
  unfold toldOf mapOf
  have key : ∀ (l : List (Int × Int)) (r : Option Int), (∀ p ∈ l, 0 ≤ p.2 ∧ p.2 < 128) → (0 ≤ r.getD 120 ∧ r.getD 120 < 128) → 0 ≤ (l.foldl (fun r p => if p.1 = k then some p.2 else r) r).getD 120 ∧ (l.foldl (fun r p => if p.1 = k then some p.2 else r) r).getD 120 < 128 := by
    intro l
    induction l with
    | nil => intro r _ h; exact h
    | cons p l ih =>
      intro r hl hr
      rw [List.foldl_cons]
      refine ih _ (fun q hq => hl q (.tail _ hq)) ?_
      split
      · exact hl p (.head _)
      · exact hr
  exact key ps none h (by decide)
def trP (ps : List (Int × Int)) (n : Nat) : Nat := (toldOf ps n).toNat
theorem trP_is {ps : List (Int × Int)} (h : OkP ps) (n : Nat) : toldOf ps n = (trP ps n : Int) ∧ trP ps n < 128 := by
  have := told_ok h n
  unfold trP
  omega
theorem dd_any : ∀ (l σ : List Int) (k : Int), (l.foldl step_dedup σ).any (· == k) = (σ.any (· == k) || l.any (· == k))
  | [], σ, k => by simp
  | v :: l, σ, k => by
    rw [List.foldl_cons, dd_any l, step_any, List.any_cons, Bool.or_assoc]
    have : decide (k = v) = (v == k) := by
      by_cases h : k = v
      · subst h; simp
      · rw [decide_eq_false h, beq_eq_false_iff_ne.mpr (fun e => h e.symm)]
    rw [this]
structure KitT (C : Cx) (mg : Str → Option Value) (K : Frag) (c fm tt : Addr) : Prop where
  nm : mg "trans" = some (.ref tt)
  tab : ∃ dx es fd body, TabAt C K tt c dx fm es fd body ∧ tabOk 0 es.toList = true
theorem TabR.of_base {C : Cx} {K : Frag} {tb cls dx fm : Addr} {es : Array DictEntry} {fd : FuncData} {body : List Stmt} {R : Led} (T : TabAt C K tb cls dx fm es fd body) : TabR C K tb cls dx fm es R := by
  obtain ⟨ep, sl, h1⟩ := T.at_
  obtain ⟨od, h2⟩ := T.dict
  exact ⟨T.X, ⟨ep, sl, fun z s H => H.keepB _ _ h1⟩, ⟨od, fun z s H => H.keepB _ _ h2⟩, T.keys, T.sub, T.seq, T.gi, T.mi, T.fn, T.tb⟩
abbrev M1 (a b c d e f : V) : List (Str × V) := [("script", a), ("k", b), ("text", c), ("asked", d), ("told", e), ("due", f)]
abbrev RC1 (L : Addr) (p k t : V) : Led := [(L + 1 + 1 + 1, .cell t), (L + 1 + 1, .cell k), (L + 1, .cell p)]
abbrev RB1 (tb dx c D L : Addr) (es : Array DictEntry) (ep : Nat) (ps : List (Int × Int)) (m : List (Str × V)) : Led :=
  (tb, .obj (tabObj c dx es ep)) :: (dx, .obj emptyDict) :: (D, .list (ps.map fun p => V.int p.1)) :: (L, .ns m) :: RC1 L (.lst (ps.map pairV)) (.ref D) (.ref tb)
section
variable {C : Cx} {A : Around} {env : Env} {R : Led} {mg mb : Str → Option Value} {K : Frag} {Φ : V → Led → Prop} {Ψ : Fl → Led → Prop} {pm cd : Value} {c fm tt tb dx D f L fV fS fC : Addr} {pos : Pos} {es : Array DictEntry} {ep : Nat} {ps : List (Int × Int)} {v1 v2 v3 : V} {as : List Int} {l : List Nat}
theorem wpAny_And3 {M : Model} {A : Around} {E : Value → Shared → Prop} {s : Shared} {env : Env} {x y w : Expr} {pos : Pos} {Q : Value → Shared → Prop}
    (h : wpAny M A (eval x env) (fun v s₁ => wpAny M A (truthy v) (fun t s₂ => if t then wpAny M A (eval y env) (fun v s₃ => wpAny M A (truthy v) (fun t s₄ => if t then wpAny M A (eval w env) Q E s₄ else Q v s₄) E s₃) E s₂ else Q v s₂) E s₁) E s) :
    wpAny M A (eval (.BoolOp .And [x, y, w] pos) env) Q E s := by
  show wpAny M A (do
    let v ← eval x env
    standAt pos
    let t ← holding [v] (truthy v)
    match BoolOp.And, t with
    | .And, false | .Or, true => pure v
    | _, _ => boolOp pos .And [eval y env, eval w env]) Q E s
  refine wpAny_bind (wpAny_mono h (fun v s₁ h₁ => wpAny_bind (wpAny_standAt (wpAny_bind (wpAny_holding (wpAny_mono h₁ (fun t s₂ h₂ => ?_) fun _ _ x => x))))) fun _ _ x => x)
  cases t with
  | false => exact wpAny_pure h₂
  | true => exact (wpAny_And2 (pos := pos) h₂ : wpAny M A (eval (.BoolOp .And [y, w] pos) env) Q E s₂)
theorem Ev.and3 {x y w : Expr} (h : Ev C A env x R fun v R₁ => v = .bool true ∧ Ev C A env y R₁ fun v R₂ => v = .bool true ∧ Ev C A env w R₂ Φ) : Ev C A env (.BoolOp .And [x, y, w] pos) R Φ := fun z s H t =>
  wpAny_And3 (h.then H t fun z₁ R₁ v u s₁ e₁ H₁ t₁ d₁ ⟨hv, h₁⟩ => by
    subst hv; cases d₁
    refine wpAny_truthy_bool ?_
    rw [if_pos rfl]
    refine h₁.then H₁ t₁ fun z₂ R₂ v u s₂ e₂ H₂ t₂ d₂ ⟨hv, h₂⟩ => ?_
    subst hv; cases d₂
    refine wpAny_truthy_bool ?_
    rw [if_pos rfl]
    exact wpNo t₂ (h₂ z₂ s₂ H₂ t₂) fun _ _ _ q => q.ext (e₁.trans e₂))
theorem law_t (Z : KitP C mg mb K c fm) (T : IsTab es ps) (hsm : (tb == sysModules) = false) (hh : A.handled = none) (hd : A.depth + 1 < recursionLimit) (has : as.length ≤ 1000)
    (hΨ : Ex C A (callEnvC (fdOf "law" pm cd sLaw) L f) ((fnB sLaw).drop 7) (RB1 tb dx c D L es ep ps (M1 v1 v2 v3 (.lst (as.map V.int)) (.lst ((as.map (toldOf ps)).map V.int)) .any)) Ψ) :
    Ex C A (callEnvC (fdOf "law" pm cd sLaw) L f) ((fnB sLaw).drop 6) (RB1 tb dx c D L es ep ps (M1 v1 v2 v3 (.lst (as.map V.int)) .any .any)) Ψ := by
  obtain ⟨pmM, cdM, FM⟩ := Z.miss
  refine Ex.cons ?_
  refine Ex1.assignCompG (cl := [("table", L + 1 + 1 + 1)]) as V.int (fun d => (d.map (toldOf ps)).map V.int) ?_ rfl ?_ ?_ ?_ ?_ ?_ ?_ ?_ ?_
  · walk_at "nm"
    exact ⟨Itb.lst hh, by omega, .rest⟩
  · intro c' it o D' done a todo h1
    refine TsL.nil ?_
    refine ite_t rfl ?_
    refine Ev.itemT (tb := tb) (K := K) (dx := dx) (fm := fm) (es := es) ?_
    refine Ev.cellv (c := L + 1 + 1 + 1) (v := .ref tb) ?_ ?_ rfl ?_ ?_ ?_
    · walk_at "mem"
    rotate_left
    · rfl
    · kernel_rfl
    · kernel_rfl
    refine ⟨rfl, ?_⟩
    refine Ev.loc (L := c') (by walk_at "mem") (by walk_at "mem") ?_
    refine ⟨a, c, rfl, TabR.of_led Z T.keys (by walk_at "mem") (by walk_at "mem") hsm, fun _ => missing_ok Z.G FM (Nat.lt_of_succ_lt hd), tabVal_int T a, ?_⟩
    rw [tabVal_told T a]
    refine ⟨rfl, ?_⟩
    rw [List.map_append, List.map_append]; rfl
  · intro c' D'
    refine Sto.loc (L := L) (by walk_at "mem") (by walk_at "put") (by walk_at "upd") ?_
    refine ⟨_, .rest, ?_⟩
    refine Ex.frz (a := D') (vs := (as.map (toldOf ps)).map V.int) (.gone (.same (.same (.same (.ns (by walk_at "frn") .rest))))) ?_
    exact hΨ
  · kernel_rfl
  · decide
  · rfl
  · decide
  · decide
  · kernel_rfl
end
end Mine

open PySem PySem.W PyProof.Rows PySem.Calls
set_option Elab.async false
set_option linter.unusedVariables false
set_option maxRecDepth 100000
set_option maxHeartbeats 1000000
namespace Mine
local macro_rules | `(tactic| walk_at "mem") => `(tactic| first | with_reducible exact memH | (with_reducible refine memT ?_; walk_at "mem"))
local macro_rules | `(tactic| walk_at "put") => `(tactic| first | with_reducible exact Put.here | (apply Put.there; walk_at "put"))
local macro_rules | `(tactic| walk_at "upd") => `(tactic| first | with_reducible exact Upd.here | (apply Upd.there; walk_at "upd"))
local macro_rules | `(tactic| walk_at "nm") => `(tactic| (refine Ev.loc (by walk_at "mem") (by walk_at "mem") ?_))
local macro_rules | `(tactic| walk_at "sto") => `(tactic| (refine Sto.loc (by walk_at "mem") (by walk_at "put") (by walk_at "upd") ?_))
theorem datas_ints : ∀ xs : List Int, V.datas (xs.map V.int) = some (xs.map PyData.int)
  | [] => rfl
  | x :: xs => by
    have := datas_ints xs
    simp only [List.map_cons, V.datas, V.data, this]; rfl
theorem canLay_ints : ∀ xs : List Int, PyData.canLayAll0 (xs.map PyData.int) = true
  | [] => rfl
  | x :: xs => by
    have := canLay_ints xs
    simp only [List.map_cons, PyData.canLayAll0, this, PyData.canLay0, Bool.and_self]
theorem any_ints (xs : List Int) (a : Int) : ((xs.map PyData.int).any fun y => PyData.eqv y (.int a)) = xs.any (· == a) := by
  rw [List.any_map]
  congr 1
structure KitN (C : Cx) (mg : Str → Option Value) (fV fS fC : Addr) : Prop where
  val : ∃ pm cd, FnAt C fV (fdOf "_law_value" pm cd sVal) (fnB sVal) ["pairs", "key"]
  sig : ∃ pm cd, FnAt C fS (fdOf "_law_sign" pm cd sSig) (fnB sSig) ["sign"]
  cod : ∃ pm cd, FnAt C fC (fdOf "_law_code" pm cd sCod) (fnB sCod) ["x"]
  nV : mg "_law_value" = some (.ref fV)
  nS : mg "_law_sign" = some (.ref fS)
  nC : mg "_law_code" = some (.ref fC)
  len : mg "len" = none
  ord : mg "ord" = none
  chr : mg "chr" = none
  isi : mg "isinstance" = none
  bool : mg "bool" = none
  int : mg "int" = none
  set : mg "set" = none
  abs : mg "abs" = none
  min : mg "min" = none
  range : mg "range" = none
section
variable {C : Cx} {A : Around} {env : Env} {R : Led} {mg mb : Str → Option Value} {K : Frag} {Φ : V → Led → Prop} {Ψ : Fl → Led → Prop} {pm cd : Value} {c fm tt tb dx D f L fV fS fC : Addr} {pos : Pos} {es : Array DictEntry} {ep : Nat} {ps : List (Int × Int)} {v1 v2 v3 : V} {as : List Int} {l : List Nat}
theorem law_7 (Z : KitP C mg mb K c fm) (N : KitN C mg fV fS fC) (hh : A.handled = none) (hd : A.depth + 1 < recursionLimit) (hu : A.units + 64 < cLine) (has : as.length ≤ 1000)
    (hΨ : Ex C A (callEnvC (fdOf "law" pm cd sLaw) L f) ((fnB sLaw).drop 9) (RB1 tb dx c D L es ep ps (M1 v1 v2 v3 (.lst (as.map V.int)) (.lst ((as.map (toldOf ps)).map V.int)) .any)) Ψ) :
    Ex C A (callEnvC (fdOf "law" pm cd sLaw) L f) ((fnB sLaw).drop 7) (RB1 tb dx c D L es ep ps (M1 v1 v2 v3 (.lst (as.map V.int)) (.lst ((as.map (toldOf ps)).map V.int)) .any)) Ψ := by
  obtain ⟨pmV, cdV, FV⟩ := N.val
  refine Ex.cons ?_
  refine Ex1.ite ?_
  refine Ts.cmp ?_
  walk_at "nm"
  refine Ev.compF (cl := [("pairs", L + 1)]) as V.int (fun d => (d.map (toldOf ps)).map V.int) ?_ rfl ?_ ?_ ?_ ?_ ?_ ?_ ?_
  · walk_at "nm"
    exact ⟨Itb.lst hh, by omega, rfl⟩
  · intro c' it o D' done a todo h1
    refine TsL.nil ?_
    refine ite_t rfl ?_
    refine Ev.callN ?_
    refine Ev.glob Z.G N.nV (fun _ => .ref _) ?_
    refine EvL.cons ?_
    refine Ev.cellv (c := L + 1) (v := .lst (ps.map pairV)) ?_ ?_ rfl ?_ ?_ ?_
    · walk_at "mem"
    rotate_left
    · rfl
    · kernel_rfl
    · kernel_rfl
    refine EvL.cons ?_
    refine Ev.loc (L := c') (by walk_at "mem") (by walk_at "mem") ?_
    refine EvL.nil ⟨FV.kpr, ?_⟩
    refine val_call Z.G hh FV (Nat.lt_of_succ_lt hd) ⟨rfl, ?_⟩
    rw [List.map_append, List.map_append]; rfl
  · intro D'
    refine Cmp.neLI (xs := as.map (toldOf ps)) (ys := as.map (toldOf ps)) .lst (LstOf.at (by walk_at "mem")) hu ?_
    rw [decide_eq_true rfl]
    refine ite_f rfl (Ex.nil ?_)
    show Ex C A _ _ _ _
    refine Ex.wk (.drop .rest) ?_
    refine Ex.cons ?_
    refine Ex1.ite ?_
    refine Ts.cmp ?_
    refine Ev.compF (cl := []) (as.map (toldOf ps)) V.int (fun _ => []) ?_ rfl ?_ ?_ ?_ ?_ ?_ ?_ ?_
    · walk_at "nm"
      exact ⟨Itb.lst hh, by rw [List.length_map]; omega, rfl⟩
    · intro c' it o D' done a todo h1
      refine TsL.one ?_
      refine Ts.or ?_
      refine Ts.val ?_
      refine Ev.callN ?_
      refine Ev.blt Z.G N.isi (u := .builtin "isinstance") (by kernel_rfl) (fun _ => .bi _) ?_
      refine EvL.cons ?_
      refine Ev.loc (L := c') (by walk_at "mem") (by walk_at "mem") ?_
      refine EvL.cons ?_
      refine Ev.blt Z.G N.bool (u := .type "bool") (by kernel_rfl) (fun _ => .ty _) ?_
      refine EvL.nil ⟨Kpr.bi, Cl.isiBool ?_⟩
      refine Tr.bool ?_
      refine ite_f rfl ?_
      refine Ts.or ?_
      refine Ts.not ?_
      refine Ts.val ?_
      refine Ev.callN ?_
      refine Ev.blt Z.G N.isi (u := .builtin "isinstance") (by kernel_rfl) (fun _ => .bi _) ?_
      refine EvL.cons ?_
      refine Ev.loc (L := c') (by walk_at "mem") (by walk_at "mem") ?_
      refine EvL.cons ?_
      refine Ev.blt Z.G N.int (u := .type "int") (by kernel_rfl) (fun _ => .ty _) ?_
      refine EvL.nil ⟨Kpr.bi, Cl.isiInt ?_⟩
      refine Tr.bool ?_
      refine ite_f rfl ?_
      refine Ts.or_nil ?_
      exact ite_f rfl ⟨rfl, rfl⟩
    · intro D'
      refine Ev.list ?_
      refine EvL.nil ?_
      refine Cmp.neLI (xs := []) (ys := []) (LstOf.at (vs := []) (.head _)) .lst hu ?_
      refine ite_f rfl (Ex.nil ?_)
      show Ex C A _ _ _ _
      refine Ex.wk (.drop .rest) ?_
      exact hΨ
    · kernel_rfl
    · decide
    · rfl
    · decide
    · decide
  · kernel_rfl
  · decide
  · rfl
  · decide
  · decide
theorem law_9 (Z : KitP C mg mb K c fm) (N : KitN C mg fV fS fC) (T : IsTab es ps) (hok : OkP ps) (hsm : (tb == sysModules) = false) (hh : A.handled = none) (hd : A.depth + 1 < recursionLimit) (hu : A.units + 64 < cLine) (hl : l.length ≤ 1000)
    (hΨ : Ex C A (callEnvC (fdOf "law" pm cd sLaw) L f) ((fnB sLaw).drop 10) (RB1 tb dx c D L es ep ps (M1 v1 v2 (sV l) v3 (.lst ((as.map (toldOf ps)).map V.int)) .any)) Ψ) :
    Ex C A (callEnvC (fdOf "law" pm cd sLaw) L f) ((fnB sLaw).drop 9) (RB1 tb dx c D L es ep ps (M1 v1 v2 (sV l) v3 (.lst ((as.map (toldOf ps)).map V.int)) .any)) Ψ := by
  obtain ⟨pmV, cdV, FV⟩ := N.val
  obtain ⟨pmM, cdM, FM⟩ := Z.miss
  refine Ex.cons ?_
  refine Ex1.ite ?_
  refine Ts.cmp ?_
  refine Ev.meth (T := "str") ⟨PySem.F.plainAttrs_str, PySem.F.slot_str_translate, PySem.F.type_str_translate⟩ ?_
  refine Ev.loc (by walk_at "mem") (by walk_at "mem") ⟨TyIs.str, ?_⟩
  refine EvL.cons ?_
  refine Ev.cellv (c := L + 1 + 1 + 1) (v := .ref tb) ?_ ?_ rfl ?_ ?_ ?_
  · walk_at "mem"
  rotate_left
  · rfl
  · kernel_rfl
  · kernel_rfl
  refine EvL.nil ?_
  refine Cl.translateR (tr := trP ps) (TabR.of_led Z T.keys (by walk_at "mem") (by walk_at "mem") hsm) (fun c _ => missing_ok Z.G FM (show A.depth < recursionLimit from Nat.lt_of_succ_lt hd)) (fun k => tabVal_int T k) (fun n => (tabVal_told T n).trans (trP_is hok n).1) (fun n => (trP_is hok n).2) (by rw [S_len]; omega) ?_
  rw [S_cps]
  refine Ev.meth (T := "str") ⟨PySem.F.plainAttrs_str, PySem.F.slot_str_join, PySem.F.type_str_join⟩ ?_
  refine Ev.str ?_
  refine ⟨TyIs.str, ?_⟩
  refine EvL.cons ?_ ?_
  rotate_left
  · kernel_rfl
  refine Ev.compF (cl := [("pairs", L + 1)]) l (fun n => V.str (S [n])) (fun d => (d.map fun n => [trP ps n]).map sV) ?_ rfl ?_ ?_ ?_ ?_ ?_ ?_ ?_
  · walk_at "nm"
    exact ⟨Itb.str hh, by omega, rfl⟩
  · intro c' it o D' done a todo h1
    refine TsL.nil ?_
    refine ite_t rfl ?_
    refine Ev.callN ?_
    refine Ev.blt Z.G N.chr (u := .builtin "chr") (by kernel_rfl) (fun _ => .bi _) ?_
    refine EvL.cons ?_
    refine Ev.callN ?_
    refine Ev.glob Z.G N.nV (fun _ => .ref _) ?_
    refine EvL.cons ?_
    refine Ev.cellv (c := L + 1) (v := .lst (ps.map pairV)) ?_ ?_ rfl ?_ ?_ ?_
    · walk_at "mem"
    rotate_left
    · rfl
    · kernel_rfl
    · kernel_rfl
    refine EvL.cons ?_
    refine Ev.callN ?_
    refine Ev.blt Z.G N.ord (u := .builtin "ord") (by kernel_rfl) (fun _ => .bi _) ?_
    refine EvL.cons ?_
    refine Ev.loc (L := c') (by walk_at "mem") (by walk_at "mem") ?_
    refine EvL.nil ⟨Kpr.bi, Cl.ordS ?_⟩
    refine EvL.nil ⟨FV.kpr, ?_⟩
    refine val_call Z.G hh FV (Nat.lt_of_succ_lt hd) ?_
    rw [(trP_is hok a).1]
    refine EvL.nil ⟨Kpr.bi, Cl.chrI (by have := (trP_is hok a).2; omega) ⟨rfl, ?_⟩⟩
    rw [List.map_append, List.map_append]; rfl
  · intro D'
    refine EvL.nil ?_
    refine Cl.join (xs := (l.map fun n => [trP ps n]).map S) ?_ ?_ ?_
    · rw [← sV_map]; exact LstOf.at (by walk_at "mem")
    · rw [lens, show (l.map fun n => [trP ps n]) = (l.map (trP ps)).map (fun n => [n]) by rw [List.map_map]; rfl, ones_flat, List.length_map]; show _ + _ * 0 ≤ _; omega
    rw [join_S, show (l.map fun n => [trP ps n]) = (l.map (trP ps)).map (fun n => [n]) by rw [List.map_map]; rfl, ones_flat]
    refine Cmp.neS ?_
    rw [show (⟨(l.map (trP ps)).toArray⟩ : Str) = S (l.map (trP ps)) from rfl, bne_self_eq_false]
    refine ite_f rfl (Ex.nil ?_)
    show Ex C A _ _ _ _
    refine Ex.wk (.drop .rest) ?_
    exact hΨ
  · kernel_rfl
  · decide
  · rfl
  · decide
  · decide
theorem keys_ints (ps : List (Int × Int)) : (ps.map fun p => V.int p.1) = (ps.map (·.1)).map V.int := by rw [List.map_map]; rfl
theorem law_10 (Z : KitP C mg mb K c fm) (N : KitN C mg fV fS fC) (T : IsTab es ps) (hps : ps.length ≤ 7) (hsm : (tb == sysModules) = false) (hh : A.handled = none) (hd : A.depth + 1 < recursionLimit) (hu : A.units + 64 < cLine) (has : as.length ≤ 1000)
    (hΨ : Ex C A (callEnvC (fdOf "law" pm cd sLaw) L f) ((fnB sLaw).drop 11) (RB1 tb dx c D L es ep ps (M1 v1 v2 v3 (.lst (as.map V.int)) (.lst ((as.map (toldOf ps)).map V.int)) .any)) Ψ) :
    Ex C A (callEnvC (fdOf "law" pm cd sLaw) L f) ((fnB sLaw).drop 10) (RB1 tb dx c D L es ep ps (M1 v1 v2 v3 (.lst (as.map V.int)) (.lst ((as.map (toldOf ps)).map V.int)) .any)) Ψ := by
  have hsz : es.size = (ddI (ps.map (·.1))).length := T.size
  have hdl := ddK_len ps
  have hle : (ddI (ps.map (·.1))).length ≤ 7 := by have : (ddI (ps.map (·.1))).length ≤ ps.length := hdl; omega
  refine Ex.cons ?_
  refine Ex1.ite ?_
  refine Ts.or ?_
  refine Ts.cmp ?_
  refine Ev.callN ?_
  refine Ev.blt Z.G N.len boot_len (fun _ => .bi _) ?_
  refine EvL.cons ?_
  refine Ev.cellv (c := L + 1 + 1 + 1) (v := .ref tb) ?_ ?_ rfl ?_ ?_ ?_
  · walk_at "mem"
  rotate_left
  · rfl
  · kernel_rfl
  · kernel_rfl
  refine EvL.nil ⟨Kpr.bi, Cl.lenT (TabR.of_led Z T.keys (by walk_at "mem") (by walk_at "mem") hsm) Z.ln (by omega) ?_⟩
  refine Ev.callN ?_
  refine Ev.blt Z.G N.len boot_len (fun _ => .bi _) ?_
  refine EvL.cons ?_
  refine Ev.callN ?_
  refine Ev.blt Z.G N.set (u := .type "set") (by kernel_rfl) (fun _ => .ty _) ?_
  refine EvL.cons ?_
  refine Ev.cellv (c := L + 1 + 1) (v := .ref D) ?_ ?_ rfl ?_ ?_ ?_
  · walk_at "mem"
  rotate_left
  · rfl
  · kernel_rfl
  · kernel_rfl
  refine EvL.nil ⟨Kpr.ty, Cl.setL (ks := ps.map (·.1)) ?_ hh (by rw [List.length_map]; omega) fun a o hs => ?_⟩
  · rw [← keys_ints]; exact LstOf.at (by walk_at "mem")
  refine EvL.nil ⟨Kpr.bi, Cl.lenSet (by walk_at "mem") hs (by omega) ?_⟩
  refine Cmp.neI ?_
  rw [hsz, bne_self_eq_false]
  refine ite_f rfl ?_
  refine Ts.or ?_
  refine Ts.cmp ?_
  refine Ev.compF (cl := [("table", L + 1 + 1 + 1), ("keys", L + 1 + 1)]) as V.int (fun _ => []) ?_ rfl ?_ ?_ ?_ ?_ ?_ ?_ ?_
  · walk_at "nm"
    exact ⟨Itb.lst hh, by omega, rfl⟩
  · intro c' it o' D' done k todo h1
    refine TsL.one ?_
    refine Ts.cmp ?_
    refine Ev.cmp ?_
    refine Ev.loc (L := c') (by walk_at "mem") (by walk_at "mem") ?_
    refine Ev.cellv (c := L + 1 + 1 + 1) (v := .ref tb) ?_ ?_ rfl ?_ ?_ ?_
    · walk_at "mem"
    rotate_left
    · rfl
    · kernel_rfl
    · kernel_rfl
    refine Cmp.inT (TabR.of_led Z T.keys (by walk_at "mem") (by walk_at "mem") hsm) Z.cn ?_
    refine Ev.cmp ?_
    refine Ev.loc (L := c') (by walk_at "mem") (by walk_at "mem") ?_
    refine Ev.cellv (c := L + 1 + 1) (v := .ref D) ?_ ?_ rfl ?_ ?_ ?_
    · walk_at "mem"
    rotate_left
    · rfl
    · kernel_rfl
    · kernel_rfl
    refine Cmp.inL (ws := (ps.map (·.1)).map V.int) (x := .int k) ?_ (datas_ints _) rfl (canLay_ints _) rfl (by show 0 ≤ 60; decide) hu ?_
    · rw [← keys_ints]; exact LstOf.at (by walk_at "mem")
    rw [any_ints]
    refine Cmp.neB ?_ hu
    have e1 : (tabVal es k).isSome = (ps.map (·.1)).any (· == k) := by
      rw [← T.any k]
      unfold ddK
      rw [dd_any]; rfl
    rw [e1, bne_self_eq_false]
    exact ite_f rfl ⟨rfl, rfl⟩
  · intro D'
    refine Ev.list ?_
    refine EvL.nil ?_
    refine Cmp.neLI (xs := []) (ys := []) (LstOf.at (vs := []) (.head _)) .lst hu ?_
    refine ite_f rfl ?_
    refine Ts.or_nil ?_
    refine ite_f rfl (Ex.nil ?_)
    show Ex C A _ _ _ _
    refine Ex.wk (.drop (.drop .rest)) ?_
    exact hΨ
  · kernel_rfl
  · decide
  · rfl
  · decide
  · decide
end
end Mine

open PySem PySem.W PyProof.Rows PySem.Calls
set_option Elab.async false
set_option linter.unusedVariables false
set_option maxRecDepth 100000
set_option maxHeartbeats 1000000
namespace Mine
local macro_rules | `(tactic| walk_at "mem") => `(tactic| first | with_reducible exact memH | (with_reducible refine memT ?_; walk_at "mem"))
local macro_rules | `(tactic| walk_at "put") => `(tactic| first | with_reducible exact Put.here | (apply Put.there; walk_at "put"))
local macro_rules | `(tactic| walk_at "upd") => `(tactic| first | with_reducible exact Upd.here | (apply Upd.there; walk_at "upd"))
local macro_rules | `(tactic| walk_at "nm") => `(tactic| (refine Ev.loc (by walk_at "mem") (by walk_at "mem") ?_))
local macro_rules | `(tactic| walk_at "sto") => `(tactic| (refine Sto.loc (by walk_at "mem") (by walk_at "put") (by walk_at "upd") ?_))
theorem trans_tab {es : Array DictEntry} (h : tabOk 0 es.toList = true) (n : Nat) : tabI (tabVal es n) = (tr n : Int) := by
  rcases tab_val h n with ⟨a, b⟩ | ⟨m, u, e, a⟩
  · rw [a, tr_big (b n rfl)]; rfl
  · have : m = n := by omega
    subst this
    rw [a]; rfl
theorem trans_int {es : Array DictEntry} (h : tabOk 0 es.toList = true) (k : Int) : ∀ v, tabVal es k = some v → ∃ i u, v = .int i u := fun v e => by
  rcases tab_val h k with ⟨a, b⟩ | ⟨m, u, e', a⟩
  · rw [a] at e; cases e
  · rw [a] at e; cases e; exact ⟨_, _, rfl⟩
section
variable {C : Cx} {A : Around} {env : Env} {R : Led} {mg mb : Str → Option Value} {K : Frag} {Φ : V → Led → Prop} {Ψ : Fl → Led → Prop} {pm cd : Value} {c fm tt tb dx D f L fV fS fC : Addr} {pos : Pos} {es : Array DictEntry} {ep : Nat} {ps : List (Int × Int)} {v1 v2 v3 v4 : V} {as : List Int} {l : List Nat}
theorem law_11 (Z : KitP C mg mb K c fm) (N : KitN C mg fV fS fC) (Y : KitT C mg K c fm tt) (hh : A.handled = none) (hd : A.depth + 1 < recursionLimit) (hu : A.units + 64 < cLine) (hl : l.length ≤ 1000) :
    Ex C A (callEnvC (fdOf "law" pm cd sLaw) L f) ((fnB sLaw).drop 11) (RB1 tb dx c D L es ep ps (M1 v1 v2 (sV l) v3 v4 .any)) (fun g R => g.val = .bool true) := by
  obtain ⟨pmS, cdS, FS⟩ := N.sig
  obtain ⟨pmM, cdM, FM⟩ := Z.miss
  obtain ⟨dxt, est, fdt, bt, TA, hok⟩ := Y.tab
  have hlt : ∀ n, tr n < 128 := tr_lt
  refine Ex.cons ?_
  refine Ex1.assign ?_ ?_
  rotate_left
  · kernel_rfl
  refine Ev.meth (T := "str") ⟨PySem.F.plainAttrs_str, PySem.F.slot_str_join, PySem.F.type_str_join⟩ ?_
  refine Ev.str ?_
  refine ⟨TyIs.str, ?_⟩
  refine EvL.cons ?_ ?_
  rotate_left
  · kernel_rfl
  refine Ev.compF (cl := []) l (fun n => V.str (S [n])) (fun d => (d.map fun n => [tr n]).map sV) ?_ rfl ?_ ?_ ?_ ?_ ?_ ?_ ?_
  · walk_at "nm"
    exact ⟨Itb.str hh, by omega, rfl⟩
  · intro c' it o D' done a todo h1
    refine TsL.nil ?_
    refine ite_t rfl ?_
    refine Ev.callN ?_
    refine Ev.glob Z.G N.nS (fun _ => .ref _) ?_
    refine EvL.cons ?_
    refine Ev.loc (L := c') (by walk_at "mem") (by walk_at "mem") ?_
    refine EvL.nil ⟨FS.kpr, ?_⟩
    refine sig_call Z.G FS (Nat.lt_of_succ_lt hd) ⟨rfl, ?_⟩
    rw [List.map_append, List.map_append]; rfl
  · intro D'
    refine EvL.nil ?_
    refine Cl.join (xs := (l.map fun n => [tr n]).map S) ?_ ?_ ?_
    · rw [← sV_map]; exact LstOf.at (by walk_at "mem")
    · rw [lens, show (l.map fun n => [tr n]) = (l.map tr).map (fun n => [n]) by rw [List.map_map]; rfl, ones_flat, List.length_map]; show _ + _ * 0 ≤ _; omega
    rw [join_S, show (l.map fun n => [tr n]) = (l.map tr).map (fun n => [n]) by rw [List.map_map]; rfl, ones_flat]
    walk_at "sto"
    refine Ex.wk (.drop .rest) ?_
    refine Ex.cons ?_
    refine Ex1.ret ?_
    refine Ev.and3 ?_
    refine Ev.cmp ?_
    refine Ev.meth (T := "str") ⟨PySem.F.plainAttrs_str, PySem.F.slot_str_translate, PySem.F.type_str_translate⟩ ?_
    refine Ev.loc (by walk_at "mem") (by walk_at "mem") ⟨TyIs.str, ?_⟩
    refine EvL.cons ?_
    refine Ev.glob Z.G Y.nm (fun _ => .ref _) ?_
    refine EvL.nil ?_
    refine Cl.translateR (tr := tr) (TabR.of_base TA) (fun c _ => missing_ok Z.G FM (show A.depth < recursionLimit from Nat.lt_of_succ_lt hd)) (fun k => trans_int hok k) (fun n => trans_tab hok n) hlt (by rw [S_len]; omega) ?_
    rw [S_cps]
    walk_at "nm"
    refine Cmp.eqS ?_
    rw [show (⟨(l.map tr).toArray⟩ : Str) = S (l.map tr) from rfl, beq_self_eq_true]
    refine ⟨rfl, ?_⟩
    refine Ev.cmp ?_
    refine Ev.compF (cl := []) l (fun n => V.str (S [n])) (fun d => (d.map fun n => (tr n : Int)).map V.int) ?_ rfl ?_ ?_ ?_ ?_ ?_ ?_ ?_
    · walk_at "nm"
      exact ⟨Itb.str hh, by omega, rfl⟩
    · intro c' it o D' done a todo h1
      refine TsL.nil ?_
      refine ite_t rfl ?_
      refine Ev.itemT (tb := tt) (K := K) (dx := dxt) (fm := fm) (es := est) ?_
      refine Ev.glob Z.G Y.nm (fun _ => .ref _) ?_
      refine ⟨rfl, ?_⟩
      refine Ev.callN ?_
      refine Ev.blt Z.G N.ord (u := .builtin "ord") (by kernel_rfl) (fun _ => .bi _) ?_
      refine EvL.cons ?_
      refine Ev.loc (L := c') (by walk_at "mem") (by walk_at "mem") ?_
      refine EvL.nil ⟨Kpr.bi, Cl.ordS ?_⟩
      refine ⟨a, c, rfl, TabR.of_base TA, fun _ => missing_ok Z.G FM (show A.depth < recursionLimit from Nat.lt_of_succ_lt hd), trans_int hok a, ?_⟩
      rw [trans_tab hok a]
      refine ⟨rfl, ?_⟩
      rw [List.map_append, List.map_append]; rfl
    · intro D1
      refine Ev.compF (cl := []) (l.map tr) (fun n => V.str (S [n])) (fun d => (d.map fun n : Nat => (n : Int)).map V.int) ?_ rfl ?_ ?_ ?_ ?_ ?_ ?_ ?_
      · walk_at "nm"
        exact ⟨Itb.str hh, by rw [List.length_map]; omega, rfl⟩
      · intro c' it o D' done a todo h1
        refine TsL.nil ?_
        refine ite_t rfl ?_
        refine Ev.callN ?_
        refine Ev.blt Z.G N.ord (u := .builtin "ord") (by kernel_rfl) (fun _ => .bi _) ?_
        refine EvL.cons ?_
        refine Ev.loc (L := c') (by walk_at "mem") (by walk_at "mem") ?_
        refine EvL.nil ⟨Kpr.bi, Cl.ordS ?_⟩
        refine ⟨rfl, ?_⟩
        rw [List.map_append, List.map_append]; rfl
      · intro D2
        refine Cmp.eqLI (xs := l.map fun n => (tr n : Int)) (ys := (l.map tr).map fun n : Nat => (n : Int)) (LstOf.at (by walk_at "mem")) (LstOf.at (by walk_at "mem")) hu ?_
        rw [decide_eq_true (show (l.map fun n => (tr n : Int)) = (l.map tr).map fun n : Nat => (n : Int) by rw [List.map_map]; rfl)]
        refine ⟨rfl, ?_⟩
        refine Ev.cmp ?_
        refine Ev.callN ?_
        refine Ev.blt Z.G N.len boot_len (fun _ => .bi _) ?_
        refine EvL.cons ?_
        refine Ev.glob Z.G Y.nm (fun _ => .ref _) ?_
        have hsz : est.size = 128 := by
          have := (tabOk_is hok).1
          rw [Array.length_toList] at this
          omega
        refine EvL.nil ⟨Kpr.bi, Cl.lenT (TabR.of_base TA) Z.ln (by omega) ?_⟩
        refine Ev.int ?_
        refine Cmp.eqI ?_
        rw [hsz]
        rfl
      · kernel_rfl
      · decide
      · rfl
      · decide
      · decide
    · kernel_rfl
    · decide
    · rfl
    · decide
    · decide
  · kernel_rfl
  · decide
  · rfl
  · decide
  · decide
end
end Mine

open PySem PySem.W PyProof.Rows PySem.Calls
set_option Elab.async false
set_option linter.unusedVariables false
set_option maxRecDepth 100000
set_option maxHeartbeats 1000000
namespace Mine
local macro_rules | `(tactic| walk_at "mem") => `(tactic| first | with_reducible exact memH | (with_reducible refine memT ?_; walk_at "mem"))
local macro_rules | `(tactic| walk_at "put") => `(tactic| first | with_reducible exact Put.here | (apply Put.there; walk_at "put"))
local macro_rules | `(tactic| walk_at "upd") => `(tactic| first | with_reducible exact Upd.here | (apply Upd.there; walk_at "upd"))
local macro_rules | `(tactic| walk_at "nm") => `(tactic| (refine Ev.loc (by walk_at "mem") (by walk_at "mem") ?_))
local macro_rules | `(tactic| walk_at "sto") => `(tactic| (refine Sto.loc (by walk_at "mem") (by walk_at "put") (by walk_at "upd") ?_))
inductive I1 (L g : Addr) (xs : List Int) (vs : List V) (R : Led) : Prop where
  | mk (ks : List Nat) (ps : List (Int × Int)) (u : V) : vs = ks.map (fun k : Nat => V.int ((2 * k : Nat) : Int)) → R = (g, .list (ps.map pairV)) :: (L, .ns (M1 (.lst (xs.map V.int)) u .any .any .any .any)) :: RC1 L (.ref g) .any .any →
    (∀ k ∈ ks, 2 * k + 1 < xs.length) → OkP ps → ps.length + ks.length ≤ 7 → I1 L g xs vs R
inductive I1t (R0 : Led) (vs ws : List V) (R : Led) : Prop where
  | mk (ys : List Int) (ns : List Nat) : vs = ys.map V.int → ws = (ns.map fun n => [n]).map sV → R = R0 → ns.length + ys.length ≤ 40 → I1t R0 vs ws R
def tail1 : List Nat := [97, 40, 91, 98, 123, 41, 93, 125, 34, 39, 92, 10, 35, 32, 9, 120]
section
variable {C : Cx} {A : Around} {env : Env} {R : Led} {mg mb : Str → Option Value} {K : Frag} {Φ : V → Led → Prop} {Ψ : Fl → Led → Prop} {pm cd : Value} {c fm tt tb dx D f L fV fS fC : Addr} {pos : Pos} {es : Array DictEntry} {ep : Nat} {ps : List (Int × Int)} {v1 v2 v3 v4 : V} {xs as : List Int} {l : List Nat}
theorem law_5 (Z : KitP C mg mb K c fm) (N : KitN C mg fV fS fC) (Y : KitT C mg K c fm tt) (T : IsTab es ps) (hok : OkP ps) (hps : ps.length ≤ 7) (hsm : (tb == sysModules) = false) (hh : A.handled = none) (hd : A.depth + 1 < recursionLimit) (hu : A.units + 64 < cLine) (hx : xs.length ≤ 63) (hl : l.length ≤ 100) :
    Ex C A (callEnvC (fdOf "law" pm cd sLaw) L f) ((fnB sLaw).drop 5) (RB1 tb dx c D L es ep ps (M1 (.lst (xs.map V.int)) v2 (sV l) .any .any .any)) (fun g R => g.val = .bool true) := by
  refine Ex.cons ?_
  refine Ex1.assign ?_ ?_
  rotate_left
  · kernel_rfl
  refine Ev.bin ?_
  refine Ev.bin ?_
  refine Ev.slice ?_
  walk_at "nm"
  refine Ev.int ?_
  refine ⟨20, rfl, ?_⟩
  refine Sli.lstT .lst 20 (by rw [List.length_map]; omega) ?_
  refine Ev.compF (cl := []) (xs.take 20) V.int (fun d => (d.map fun x => -1 - x).map V.int) ?_ rfl ?_ ?_ ?_ ?_ ?_ ?_ ?_
  · refine Ev.slice ?_
    walk_at "nm"
    refine Ev.int ?_
    refine ⟨20, rfl, ?_⟩
    refine Sli.lstT .lst 20 (by rw [List.length_map]; omega) ?_
    rw [← List.map_take]
    exact ⟨Itb.lst hh, by rw [List.length_take]; omega, rfl⟩
  · intro c' it o D' done a todo h1
    refine TsL.nil ?_
    refine ite_t rfl ?_
    refine Ev.bin ?_
    refine Ev.neg ?_
    refine Ev.int ?_
    refine ⟨1, rfl, ?_⟩
    refine Ev.loc (L := c') (by walk_at "mem") (by walk_at "mem") ?_
    refine Op2.subI ?_
    refine ⟨rfl, ?_⟩
    rw [List.map_append, List.map_append]; rfl
  · intro D1
    refine Op2.addL .lst (LstOf.at (by walk_at "mem")) (by rw [List.length_take, List.length_map, List.length_map, List.length_map, List.length_take]; omega) ?_
    refine Ev.compF (cl := []) l (fun n => V.str (S [n])) (fun d => (d.map fun n : Nat => (n : Int)).map V.int) ?_ rfl ?_ ?_ ?_ ?_ ?_ ?_ ?_
    · walk_at "nm"
      exact ⟨Itb.str hh, by omega, rfl⟩
    · intro c' it o D' done a todo h1
      refine TsL.nil ?_
      refine ite_t rfl ?_
      refine Ev.callN ?_
      refine Ev.blt Z.G N.ord (u := .builtin "ord") (by kernel_rfl) (fun _ => .bi _) ?_
      refine EvL.cons ?_
      refine Ev.loc (L := c') (by walk_at "mem") (by walk_at "mem") ?_
      refine EvL.nil ⟨Kpr.bi, Cl.ordS ?_⟩
      refine ⟨rfl, ?_⟩
      rw [List.map_append, List.map_append]; rfl
    · intro D2
      refine Op2.addL .lst (LstOf.at (by walk_at "mem")) (by simp only [List.length_append, List.length_take, List.length_map]; omega) ?_
      refine Sto.isV (v' := .lst ((xs.take 20 ++ ((xs.take 20).map fun x => -1 - x) ++ (l.map fun n : Nat => (n : Int))).map V.int)) (by simp only [List.map_append, List.map_take]) ?_
      have has : (xs.take 20 ++ ((xs.take 20).map fun x => -1 - x) ++ (l.map fun n : Nat => (n : Int))).length ≤ 1000 := by simp only [List.length_append, List.length_take, List.length_map]; omega
      generalize xs.take 20 ++ ((xs.take 20).map fun x => -1 - x) ++ (l.map fun n : Nat => (n : Int)) = as at has
      walk_at "sto"
      refine Ex.wk (.drop (.drop .rest)) ?_
      exact law_t Z T hsm hh hd has (law_7 Z N hh hd hu has (law_9 Z N T hok hsm hh hd hu (by omega) (law_10 Z N T hps hsm hh hd hu has (law_11 Z N Y hh hd hu (by omega)))))
    · kernel_rfl
    · decide
    · rfl
    · decide
    · decide
  · kernel_rfl
  · decide
  · rfl
  · decide
  · decide
theorem law_4 (Z : KitP C mg mb K c fm) (N : KitN C mg fV fS fC) (Y : KitT C mg K c fm tt) (T : IsTab es ps) (hok : OkP ps) (hps : ps.length ≤ 7) (hsm : (tb == sysModules) = false) (hh : A.handled = none) (hd : A.depth + 1 < recursionLimit) (hu : A.units + 64 < cLine) (hx : xs.length ≤ 63) :
    Ex C A (callEnvC (fdOf "law" pm cd sLaw) L f) ((fnB sLaw).drop 4) (RB1 tb dx c D L es ep ps (M1 (.lst (xs.map V.int)) v2 .any .any .any .any)) (fun g R => g.val = .bool true) := by
  obtain ⟨pmC, cdC, FC⟩ := N.cod
  refine Ex.cons ?_
  refine Ex1.assign ?_ ?_
  rotate_left
  · kernel_rfl
  refine Ev.bin ?_
  refine Ev.meth (T := "str") ⟨PySem.F.plainAttrs_str, PySem.F.slot_str_join, PySem.F.type_str_join⟩ ?_
  refine Ev.str ?_
  refine ⟨TyIs.str, ?_⟩
  refine EvL.cons ?_ ?_
  rotate_left
  · kernel_rfl
  refine Ev.compW (I1t (RB1 tb dx c D L es ep ps (M1 (.lst (xs.map V.int)) v2 .any .any .any .any))) (cl := []) ?_ ?_ ?_ ?_ ?_ ?_ ?_ ?_
  · refine Ev.slice ?_
    walk_at "nm"
    refine Ev.int ?_
    refine ⟨40, rfl, ?_⟩
    refine Sli.lstT .lst 40 (by rw [List.length_map]; omega) ?_
    refine ⟨_, Itb.lst hh, by rw [List.length_take, List.length_map]; omega, .mk (xs.take 40) [] (by rw [List.map_take]) rfl rfl (by rw [List.length_take]; show 0 + _ ≤ 40; omega)⟩
  · rintro c' it o D' v rest ws R ⟨ys, ns, hvs, rfl, rfl, hn⟩
    cases ys with
    | nil => cases hvs
    | cons y ys =>
    obtain ⟨rfl, rfl⟩ := List.cons.inj hvs
    have hn : ns.length + (ys.length + 1) ≤ 40 := hn
    refine TsL.nil ?_
    refine ite_t rfl ?_
    refine Ev.callN ?_
    refine Ev.blt Z.G N.chr (u := .builtin "chr") (by kernel_rfl) (fun _ => .bi _) ?_
    refine EvL.cons ?_
    refine Ev.callN ?_
    refine Ev.glob Z.G N.nC (fun _ => .ref _) ?_
    refine EvL.cons ?_
    refine Ev.loc (L := c') (by walk_at "mem") (by walk_at "mem") ?_
    refine EvL.nil ⟨FC.kpr, ?_⟩
    refine cod_call Z.G N.abs FC (Nat.lt_of_succ_lt hd) fun n hn' => ?_
    refine EvL.nil ⟨Kpr.bi, Cl.chrI hn' ?_⟩
    refine ⟨_, .ns (.any .nil) .rest, .mk ys (ns ++ [n]) rfl ?_ rfl ?_⟩
    · rw [List.map_append, List.map_append]; rfl
    · rw [List.length_append]; show ns.length + 1 + ys.length ≤ 40; omega
  · rintro D' ws R ⟨ys, ns, hvs, rfl, rfl, hn⟩
    have hn : ns.length ≤ 40 := by omega
    refine EvL.nil ?_
    refine Cl.join (xs := (ns.map fun n => [n]).map S) ?_ ?_ ?_
    · rw [← sV_map]; exact LstOf.at (by walk_at "mem")
    · rw [lens, ones_flat]; show _ + _ * 0 ≤ _; omega
    rw [join_S, ones_flat]
    refine Ev.strS (a := tail1) (by decide) ?_
    refine Op2.addT rfl rfl (by show _ + 16 ≤ _; omega) ?_
    walk_at "sto"
    refine Ex.wk (.drop .rest) ?_
    exact law_5 Z N Y T hok hps hsm hh hd hu hx (by rw [List.length_append]; show _ + 16 ≤ _; omega)
  · kernel_rfl
  · decide
  · rfl
  · decide
  · decide
theorem permA {a1 a2 a3 a4 a5 a6 : Addr × Res} : [a1, a2, a3, a4, a5, a6].Perm [a2, a6, a1, a3, a4, a5] := by
  classical
  refine List.perm_iff_count.mpr fun a => ?_
  simp only [List.count_cons, List.count_nil]
  omega
theorem permB {a1 a2 a3 a4 a5 a6 a7 : Addr × Res} : [a1, a2, a3, a4, a5, a6, a7].Perm [a1, a2, a4, a5, a6, a7, a3] := by
  classical
  refine List.perm_iff_count.mpr fun a => ?_
  simp only [List.count_cons, List.count_nil]
  omega
theorem law_ok (Z : KitP C mg mb K c fm) (hh : A.handled = none) (hd : A.depth + 1 < recursionLimit) (hu : A.units + 64 < cLine) (N : KitN C mg fV fS fC) (Y : KitT C mg K c fm tt) (hx : xs.length ≤ 63) :
    Ex C A (callEnvC (fdOf "law" pm cd sLaw) L f) (fnB sLaw) ((L, .ns (M1 (.lst (xs.map V.int)) .any .any .any .any .any)) :: RC1 L .any .any .any) (fun g R => g.val = .bool true) := by
  refine Ex.cons ?_
  refine Ex1.assign ?_ ?_
  rotate_left
  · kernel_rfl
  refine Ev.listM ?_
  refine EvL.cons ?_
  refine Ev.tuple ?_
  refine EvL.cons ?_
  refine Ev.int ?_
  refine EvL.cons ?_
  refine Ev.int ?_
  refine EvL.nil ?_
  refine EvL.nil fun g => ?_
  refine Sto.cell (c := L + 1) (v₀ := .any) (by walk_at "upd") ?_ ?_ ?_ ?_
  rotate_left
  · rfl
  · kernel_rfl
  · kernel_rfl
  show Ex C A _ _ _ _
  refine Ex.cons ?_
  obtain ⟨b, hb⟩ : ∃ b : Int, b = min 12 ((xs.length : Int) - 1) := ⟨_, rfl⟩
  obtain ⟨n, hn⟩ : ∃ n : Nat, (0 < b ∧ (b - 1) / 2 + 1 = n) ∨ (b ≤ 0 ∧ n = 0) := by
    by_cases q : 0 < b
    · exact ⟨((b - 1) / 2 + 1).toNat, .inl ⟨q, by omega⟩⟩
    · exact ⟨0, .inr ⟨by omega, rfl⟩⟩
  refine Ex1.forW (I1 L g xs) ?_ ?_ ?_
  · refine Ev.callN ?_
    refine Ev.blt Z.G N.range boot_range (fun _ => .ty _) ?_
    refine EvL.cons ?_
    refine Ev.int ?_
    refine EvL.cons ?_
    refine Ev.callN ?_
    refine Ev.blt Z.G N.min boot_min (fun _ => .bi _) ?_
    refine EvL.cons ?_
    refine Ev.int ?_
    refine EvL.cons ?_
    refine Ev.bin ?_
    refine Ev.callN ?_
    refine Ev.blt Z.G N.len boot_len (fun _ => .bi _) ?_
    refine EvL.cons ?_
    walk_at "nm"
    refine EvL.nil ⟨Kpr.bi, Cl.lenL .lst (by rw [List.length_map]; omega) ?_⟩
    rw [List.length_map]
    refine Ev.int ?_
    refine Op2.subI ?_
    refine EvL.nil ⟨Kpr.bi, Cl.minI hh ?_⟩
    rw [← hb]
    refine EvL.cons ?_
    refine Ev.int ?_
    refine EvL.nil ⟨Kpr.ty, ?_⟩
    refine Cl.range3 (by omega) fun r t u v => ?_
    refine ⟨_, _, Itb.rng2 (n := n) hh (by walk_at "mem") hn (by omega), .drop .rest, .mk (List.range n) [(97, 65)] .any rfl rfl ?_ ?_ ?_⟩
    · intro k hk
      have := List.mem_range.mp hk
      rcases hn with ⟨h1, h2⟩ | ⟨h1, h2⟩ <;> omega
    · intro p hp
      rw [List.mem_singleton.mp hp]
      decide
    · rw [List.length_range]
      show 1 + n ≤ 7
      rcases hn with ⟨h1, h2⟩ | ⟨h1, h2⟩ <;> omega
  · rintro it o v rest R ⟨ks, ps, u, hvs, rfl, hks, hok, hlen⟩
    cases ks with
    | nil => cases hvs
    | cons k ks =>
    obtain ⟨rfl, rfl⟩ := List.cons.inj hvs
    have hk := hks k (.head _)
    have hlen : ps.length + (ks.length + 1) ≤ 7 := hlen
    obtain ⟨y1, hy1⟩ : ∃ y, xs[2 * k]? = some y := ⟨_, List.getElem?_eq_getElem (by omega)⟩
    obtain ⟨y2, hy2⟩ : ∃ y, xs[2 * k + 1]? = some y := ⟨_, List.getElem?_eq_getElem hk⟩
    obtain ⟨w, hw, ew⟩ := fmod_nat y2 95 (by decide)
    refine As.name ?_
    walk_at "sto"
    refine Ex.cons ?_
    refine Ex1.expr ?_
    refine Ev.meth (T := "list") ⟨PySem.F.plainAttrs_list, PySem.F.slot_list_append, PySem.F.type_list_append⟩ ?_
    refine Ev.cellv (c := L + 1) (v := .ref g) ?_ ?_ rfl ?_ ?_ ?_
    · walk_at "mem"
    rotate_left
    · rfl
    · kernel_rfl
    · kernel_rfl
    refine ⟨TyIs.listM (vs := ps.map pairV) (by walk_at "mem"), ?_⟩
    refine EvL.cons ?_
    refine Ev.tuple ?_
    refine EvL.cons ?_
    refine Ev.item ?_
    walk_at "nm"
    walk_at "nm"
    refine Itm.lst (w := .int y1) .lst (by omega) (by rw [show (((2 * k : Nat) : Int)).toNat = 2 * k by omega, List.getElem?_map, hy1]; rfl) ?_ (by omega)
    refine EvL.cons ?_
    refine Ev.bin ?_
    refine Ev.int ?_
    refine Ev.bin ?_
    refine Ev.item ?_
    walk_at "nm"
    refine Ev.bin ?_
    walk_at "nm"
    refine Ev.int ?_
    refine Op2.addI ?_
    refine Itm.lst (w := .int y2) .lst (by omega) (by rw [show (((2 * k : Nat) : Int) + 1).toNat = 2 * k + 1 by omega, List.getElem?_map, hy2]; rfl) ?_ (by omega)
    refine Ev.int ?_
    refine Op2.modI (by decide) ?_
    rw [show y2.fmod 95 = w from ew]
    refine Op2.addI ?_
    refine EvL.nil ?_
    refine EvL.nil ?_
    refine Cl.append (by walk_at "upd") (by rw [List.length_map]; omega) ⟨rfl, ?_⟩
    refine Ex.nil ⟨_, .rest, .mk ks (ps ++ [(y1, 32 + (w : Int))]) (.int ((2 * k : Nat) : Int)) rfl ?_ (fun q hq => hks q (.tail _ hq)) ?_ ?_⟩
    · rw [List.map_append]; rfl
    · intro p hp
      rcases List.mem_append.mp hp with hp | hp
      · exact hok p hp
      · rw [List.mem_singleton.mp hp]
        show 0 ≤ 32 + (w : Int) ∧ 32 + (w : Int) < 128
        omega
    · rw [List.length_append]; show ps.length + 1 + ks.length ≤ 7; omega
  · rintro R ⟨ks, ps, u, hvs, rfl, hks, hok, hlen⟩
    have hps : ps.length ≤ 7 := by omega
    refine Ex.nil ?_
    show Ex C A _ _ _ _
    refine Ex.cons ?_
    refine Ex1.assign ?_ ?_
    rotate_left
    · kernel_rfl
    refine Ev.compP (g := g) (ps := ps) (cl := []) (by walk_at "mem") (by omega) hh ?_ ?_ ?_ ?_ ?_ ?_ ?_ ?_ ?_ ?_
    · refine Ev.cellv (c := L + 1) (v := .ref g) ?_ ⟨rfl, rfl⟩ rfl ?_ ?_ ?_
      · walk_at "mem"
      · rfl
      · kernel_rfl
      · kernel_rfl
    · intro D
      refine Sto.cell (c := L + 1 + 1) (v₀ := .any) (by walk_at "upd") ?_ ?_ ?_ ?_
      rotate_left
      · rfl
      · kernel_rfl
      · kernel_rfl
      show Ex C A _ _ _ _
      refine Ex.wk (.perm permA .rest) ?_
      refine Ex.cons ?_
      refine Ex1.assign ?_ ?_
      rotate_left
      · kernel_rfl
      refine Ev.callN ?_
      refine Ev.glob Z.G Z.nm (fun _ => .ref _) ?_
      refine EvL.cons ?_
      refine Ev.cellv (c := L + 1) (v := .ref g) ?_ ?_ rfl ?_ ?_ ?_
      · walk_at "mem"
      rotate_left
      · rfl
      · kernel_rfl
      · kernel_rfl
      refine EvL.nil ⟨Kpr.cls Z.X Z.keep, ?_⟩
      refine Z.made hh (by omega) fun tb dx es ep T hsm => ?_
      refine Sto.cell (c := L + 1 + 1 + 1) (v₀ := .any) (by walk_at "upd") ?_ ?_ ?_ ?_
      rotate_left
      · rfl
      · kernel_rfl
      · kernel_rfl
      show Ex C A _ _ _ _
      refine Ex.wk (.perm permB .rest) ?_
      exact law_4 Z N Y T hok hps hsm hh hd hu hx
    · kernel_rfl
    · decide
    · rfl
    · decide
    · decide
    · decide
    · decide
    · decide
end
end Mine
open PySem PySem.W PyProof.Rows PySem.Calls
set_option Elab.async false
set_option linter.unusedVariables false
set_option maxRecDepth 100000
set_option maxHeartbeats 8000000
namespace Mine
def fnA : Stmt → Arguments
  | .FunctionDef _ a _ _ _ _ _ _ _ _ => a
  | _ => default
noncomputable abbrev p9 : Program := PySem.Challenge.pw_dm0164_01
noncomputable abbrev b9 : List Stmt := behindTheImports p9
noncomputable def e9 : Env := { scope := p9.main.scope, locals := mainNs, globals := mainNs, cells := [], code := (@PySem.Value.ref 13), frame := some 14 }
noncomputable abbrev c9 : Code := .body b9 e9
noncomputable abbrev B9 : List Frame := [topFrame (@PySem.Pos.mk 0 0 0 0)]
noncomputable abbrev ann9 : Option Value := (@Option.some @PySem.Value (@PySem.Value.ref 6))
theorem h_open : ∀ w : World, (fencedOpening treeTable p9 w 13864).map (fun s => (s.heap, s.gens, s.drawn, s.toks)) = some (boot_heap w.params, Array.mk [], boot_drawn, boot_toks) := boot_open (by kernel_rfl) (by kernel_rfl) (fun s => by kernel_rfl)
theorem h_size (w : World) : ((boot_heap w.params).isNs mainGlobals && (Array.mk ([] : List GenState)).size == 0, (boot_heap w.params).objs.size, (boot_heap w.params).nsMap mainGlobals "__annotations__") = (true, 11, ann9) := by kernel_rfl
noncomputable def hp_11 (P : Params) : Obj := (@PySem.Obj.mk (@PySem.Value.type "tuple") (@Option.none @Nat) (@PySem.Data.seq (@List.toArray @PySem.Value []) 0) (@List.toArray (@Option @PySem.Value) []))
noncomputable def hp_12 (P : Params) : Obj := (@PySem.Obj.mk @PySem.Value.none (@Option.none @Nat) (@PySem.Data.fields (@List.toArray @PySem.Value [])) (@List.toArray (@Option @PySem.Value) []))
noncomputable def hp_13 (P : Params) : Obj := (@PySem.Obj.mk (@PySem.Value.type "code") (@Option.none @Nat) (@PySem.Data.fields (@List.toArray @PySem.Value [(@PySem.Value.str (@PySem.Str.ofString "<module>") 182), (@PySem.Value.str (@PySem.Str.ofString "<module>") 183), (@PySem.Value.str (@PySem.Str.ofString "/claim/cut.py") 184), (@PySem.Value.int (1 : Int) 0), (@PySem.Value.int (0 : Int) 0), (@PySem.Value.int (0 : Int) 0), (@PySem.Value.int (0 : Int) 0), (@PySem.Value.int (0 : Int) 0), (@PySem.Value.ref 11), (@PySem.Value.bool @Bool.false), (@PySem.Value.int (181 : Int) 0), (@PySem.Value.ref 12), @PySem.Value.none, @PySem.Value.none, @PySem.Value.none, @PySem.Value.none, (@PySem.Value.int (185 : Int) 0), (@PySem.Value.int (1 : Int) 0), (@PySem.Value.str (@PySem.Str.ofString "/claim/cut.py") 186)])) (@List.toArray (@Option @PySem.Value) []))
noncomputable def hp_14 (P : Params) : Obj := (@PySem.Obj.mk (@PySem.Value.type "frame") (@Option.none @Nat) @PySem.Data.plain (@List.toArray (@Option @PySem.Value) [(@Option.some @PySem.Value (@PySem.Value.ref 13)), (@Option.some @PySem.Value (@PySem.Value.ref 3)), (@Option.some @PySem.Value (@PySem.Value.ref 3)), (@Option.none @PySem.Value), (@Option.some @PySem.Value (@PySem.Value.str (@PySem.Str.ofString "__main__") 164)), (@Option.none @PySem.Value), (@Option.some @PySem.Value (@PySem.Value.ref 0))]))
noncomputable def heapP (P : Params) : Heap := Heap.mk (Array.mk [boot_o_0 P, boot_o_1 P, boot_o_2 P, boot_o_3 P, boot_o_4 P, boot_o_5 P, boot_o_6 P, boot_o_7 P, boot_o_8 P, boot_o_9 P, boot_o_10 P, hp_11 P, hp_12 P, hp_13 P, hp_14 P]) (@PySem.Life.mk [] [] [] 0 [] [] @Bool.false (@List.toArray @Nat []) [] 0 @Bool.false @Bool.false @Bool.false (0 : Int) [(2000 : Int), (10 : Int), (10 : Int)] @Bool.false 0 @Bool.true [] [] 0 @Bool.false)
theorem h_pre (w : World) (os : OsState) : topGo treeTable p9 w 11 ann9 12 (Shared.mk (boot_heap w.params) (Array.mk []) boot_drawn boot_toks os) (topStub p9) = some ((Shared.mk (heapP w.params) (Array.mk []) (@PySem.Drawn.mk 0 0 0 0) 187 os), (Thread.mk (denote treeTable c9) c9 (@PySem.Pos.mk 0 0 0 0) B9)) := by
  rw [show @topGo = _ from PySem.W.Fast.te15667345088766844465, show @denote = _ from PySem.W.Fast.te11892475500146522536, show treeTable = _ from PySem.W.Fast.te14364793385576792824]
  kernel_rfl
noncomputable def treeK (P : Params) : BT := (BT.node (boot_o_0 P) (BT.node (boot_o_1 P) (BT.node (boot_o_3 P) (BT.node (boot_o_7 P) BT.nil BT.nil) (BT.node (hp_11 P) BT.nil BT.nil)) (BT.node (boot_o_5 P) (BT.node (boot_o_9 P) BT.nil BT.nil) (BT.node (hp_13 P) BT.nil BT.nil))) (BT.node (boot_o_2 P) (BT.node (boot_o_4 P) (BT.node (boot_o_8 P) BT.nil BT.nil) (BT.node (hp_12 P) BT.nil BT.nil)) (BT.node (boot_o_6 P) (BT.node (boot_o_10 P) BT.nil BT.nil) (BT.node (hp_14 P) BT.nil BT.nil))))
theorem h_block (w : World) (os : OsState) : segRun treeTable p9 w 11 ann9 1 1 (Shared.mk (heapP w.params) (Array.mk []) (@PySem.Drawn.mk 0 0 0 0) 187 os) (blockOf b9 e9 c9 (@PySem.Pos.mk 0 0 0 0) B9) = some (Flow.next, (SharedT.mk (treeK w.params) 15 (@PySem.Life.mk [] [] [] 0 [] [] @Bool.false (@List.toArray @Nat []) [] 0 @Bool.false @Bool.false @Bool.false (0 : Int) [(2000 : Int), (10 : Int), (10 : Int)] @Bool.false 0 @Bool.true [] [] 0 @Bool.false) (Array.mk []) (@PySem.Drawn.mk 0 0 0 0) 187 os).abs, c9, (@PySem.Pos.mk 0 0 0 0)) := by
  rw [show @segRun = _ from PySem.W.Fast.te14374325043358763698, show treeTable = _ from PySem.W.Fast.te14364793385576792824]
  kernel_rfl
noncomputable def hG0_3 (P : Params) : Obj := (@PySem.Obj.mk (@PySem.Value.type "dict") (@Option.none @Nat) (@PySem.Data.dict (@List.toArray @PySem.DictEntry [(@PySem.DictEntry.mk (@PySem.PyData.keyHash P (@PySem.Str.ofString "__name__")) (@PySem.Value.str (@PySem.Str.ofString "__name__") 165) (@PySem.Value.str (@PySem.Str.ofString "cpy313.idlelib.pyparse") 187)), (@PySem.DictEntry.mk (@PySem.PyData.keyHash P (@PySem.Str.ofString "__doc__")) (@PySem.Value.str (@PySem.Str.ofString "__doc__") 166) @PySem.Value.none), (@PySem.DictEntry.mk (@PySem.PyData.keyHash P (@PySem.Str.ofString "__package__")) (@PySem.Value.str (@PySem.Str.ofString "__package__") 167) @PySem.Value.none), (@PySem.DictEntry.mk (@PySem.PyData.keyHash P (@PySem.Str.ofString "__loader__")) (@PySem.Value.str (@PySem.Str.ofString "__loader__") 168) (@PySem.Value.builtin "__main__.__loader__#opaque")), (@PySem.DictEntry.mk (@PySem.PyData.keyHash P (@PySem.Str.ofString "__spec__")) (@PySem.Value.str (@PySem.Str.ofString "__spec__") 169) @PySem.Value.none), (@PySem.DictEntry.mk (@PySem.PyData.keyHash P (@PySem.Str.ofString "__annotations__")) (@PySem.Value.str (@PySem.Str.ofString "__annotations__") 170) (@PySem.Value.ref 6)), (@PySem.DictEntry.mk (@PySem.PyData.keyHash P (@PySem.Str.ofString "__builtins__")) (@PySem.Value.str (@PySem.Str.ofString "__builtins__") 171) (@PySem.Value.ref 4)), (@PySem.DictEntry.mk (@PySem.PyData.keyHash P (@PySem.Str.ofString "__file__")) (@PySem.Value.str (@PySem.Str.ofString "__file__") 173) (@PySem.Value.str (@PySem.Str.ofString "/claim/cut.py") 172)), (@PySem.DictEntry.mk (@PySem.PyData.keyHash P (@PySem.Str.ofString "__cached__")) (@PySem.Value.str (@PySem.Str.ofString "__cached__") 174) @PySem.Value.none), (@PySem.DictEntry.mk (@PySem.PyData.keyHash P (@PySem.Str.ofString "ParseMap")) (@PySem.Value.str (@PySem.Str.ofString "ParseMap") 216) (@PySem.Value.ref 31))]) 10) (@List.toArray (@Option @PySem.Value) []))
noncomputable def hG0_12 (P : Params) : Obj := (@PySem.Obj.mk @PySem.Value.none (@Option.none @Nat) (@PySem.Data.fields (@List.toArray @PySem.Value [(@PySem.Value.int (2 : Int) 0), (@PySem.Value.int (0 : Int) 0), (@PySem.Value.ref 20)])) (@List.toArray (@Option @PySem.Value) []))
noncomputable def hG0_15 (P : Params) : Obj := (@PySem.Obj.mk (@PySem.Value.type "tuple") (@Option.none @Nat) (@PySem.Data.seq (@List.toArray @PySem.Value [(@PySem.Value.type "dict")]) 0) (@List.toArray (@Option @PySem.Value) []))
noncomputable def hG0_16 (P : Params) : Obj := (@PySem.Obj.mk (@PySem.Value.type "builtin_function_or_method") (@Option.none @Nat) (@PySem.Data.fields (@List.toArray @PySem.Value [(@PySem.Value.builtin "type.__prepare__"), (@PySem.Value.type "type")])) (@List.toArray (@Option @PySem.Value) []))
noncomputable def hG0_17 (P : Params) : Obj := (@PySem.Obj.mk (@PySem.Value.type "dict") (@Option.none @Nat) (@PySem.Data.dict (@List.toArray @PySem.DictEntry [(@PySem.DictEntry.mk (@PySem.PyData.keyHash P (@PySem.Str.ofString "__module__")) (@PySem.Value.str (@PySem.Str.ofString "__module__") 196) (@PySem.Value.str (@PySem.Str.ofString "cpy313.idlelib.pyparse") 187)), (@PySem.DictEntry.mk (@PySem.PyData.keyHash P (@PySem.Str.ofString "__qualname__")) (@PySem.Value.str (@PySem.Str.ofString "__qualname__") 198) (@PySem.Value.str (@PySem.Str.ofString "ParseMap") 197)), (@PySem.DictEntry.mk (@PySem.PyData.keyHash P (@PySem.Str.ofString "__firstlineno__")) (@PySem.Value.str (@PySem.Str.ofString "__firstlineno__") 200) (@PySem.Value.int (2 : Int) 199)), (@PySem.DictEntry.mk (@PySem.PyData.keyHash P (@PySem.Str.ofString "__missing__")) (@PySem.Value.str (@PySem.Str.ofString "__missing__") 208) (@PySem.Value.ref 28)), (@PySem.DictEntry.mk (@PySem.PyData.keyHash P (@PySem.Str.ofString "__static_attributes__")) (@PySem.Value.str (@PySem.Str.ofString "__static_attributes__") 209) (@PySem.Value.ref 29))]) 5) (@List.toArray (@Option @PySem.Value) []))
noncomputable def hG0_18 (P : Params) : Obj := (@PySem.Obj.mk (@PySem.Value.type "tuple") (@Option.none @Nat) (@PySem.Data.seq (@List.toArray @PySem.Value []) 0) (@List.toArray (@Option @PySem.Value) []))
noncomputable def hG0_19 (P : Params) : Obj := (@PySem.Obj.mk @PySem.Value.none (@Option.none @Nat) (@PySem.Data.fields (@List.toArray @PySem.Value [(@PySem.Value.int (4 : Int) 0), (@PySem.Value.int (4 : Int) 0), (@PySem.Value.ref 27)])) (@List.toArray (@Option @PySem.Value) []))
noncomputable def hG0_20 (P : Params) : Obj := (@PySem.Obj.mk (@PySem.Value.type "code") (@Option.none @Nat) (@PySem.Data.fields (@List.toArray @PySem.Value [(@PySem.Value.str (@PySem.Str.ofString "ParseMap") 191), (@PySem.Value.str (@PySem.Str.ofString "ParseMap") 192), (@PySem.Value.str (@PySem.Str.ofString "/claim/cut.py") 193), (@PySem.Value.int (2 : Int) 0), (@PySem.Value.int (0 : Int) 0), (@PySem.Value.int (0 : Int) 0), (@PySem.Value.int (0 : Int) 0), (@PySem.Value.int (0 : Int) 0), (@PySem.Value.ref 18), (@PySem.Value.bool @Bool.false), (@PySem.Value.int (181 : Int) 0), (@PySem.Value.ref 19), @PySem.Value.none, @PySem.Value.none, @PySem.Value.none, @PySem.Value.none, (@PySem.Value.int (194 : Int) 0), (@PySem.Value.int (2 : Int) 0), (@PySem.Value.str (@PySem.Str.ofString "/claim/cut.py") 195)])) (@List.toArray (@Option @PySem.Value) []))
noncomputable def hG0_21 (P : Params) : Obj := (@PySem.Obj.mk (@PySem.Value.type "frame") (@Option.none @Nat) @PySem.Data.plain (@List.toArray (@Option @PySem.Value) [(@Option.some @PySem.Value (@PySem.Value.ref 20)), (@Option.some @PySem.Value (@PySem.Value.ref 3)), (@Option.some @PySem.Value (@PySem.Value.ref 17)), (@Option.none @PySem.Value), (@Option.some @PySem.Value (@PySem.Value.str (@PySem.Str.ofString "cpy313.idlelib.pyparse") 187)), (@Option.none @PySem.Value), (@Option.some @PySem.Value (@PySem.Value.ref 0))]))
noncomputable def hG0_22 (P : Params) : Obj := (@PySem.Obj.mk (@PySem.Value.type "tuple") (@Option.none @Nat) (@PySem.Data.seq (@List.toArray @PySem.Value []) 0) (@List.toArray (@Option @PySem.Value) []))
noncomputable def hG0_23 (P : Params) : Obj := (@PySem.Obj.mk @PySem.Value.none (@Option.none @Nat) (@PySem.Data.fields (@List.toArray @PySem.Value [])) (@List.toArray (@Option @PySem.Value) []))
noncomputable def hG0_24 (P : Params) : Obj := (@PySem.Obj.mk (@PySem.Value.type "tuple") (@Option.none @Nat) (@PySem.Data.seq (@List.toArray @PySem.Value [(@PySem.Value.str (@PySem.Str.ofString "self") 204), (@PySem.Value.str (@PySem.Str.ofString "key") 205)]) 0) (@List.toArray (@Option @PySem.Value) []))
noncomputable def hG0_25 (P : Params) : Obj := (@PySem.Obj.mk (@PySem.Value.type "tuple") (@Option.none @Nat) (@PySem.Data.seq (@List.toArray @PySem.Value []) 0) (@List.toArray (@Option @PySem.Value) []))
noncomputable def hG0_26 (P : Params) : Obj := (@PySem.Obj.mk @PySem.Value.none (@Option.none @Nat) (@PySem.Data.func (@PySem.FuncData.mk (@PySem.Str.ofString "__missing__") (@PySem.Str.ofString "ParseMap.__missing__") (fnA (stAt 0 (clsB (stAt 1 b9)))) (@PySem.FuncBody.stmts (fnB (stAt 0 (clsB (stAt 1 b9))))) (scB (stAt 0 (clsB (stAt 1 b9)))) 0 [] @PySem.Value.none @PySem.Value.none @PySem.Value.none @PySem.Value.none (@Option.none @Nat) @PySem.Value.none @PySem.Value.none 0)) (@List.toArray (@Option @PySem.Value) []))
noncomputable def hG0_27 (P : Params) : Obj := (@PySem.Obj.mk (@PySem.Value.type "code") (@Option.none @Nat) (@PySem.Data.fields (@List.toArray @PySem.Value [(@PySem.Value.str (@PySem.Str.ofString "__missing__") 201), (@PySem.Value.str (@PySem.Str.ofString "ParseMap.__missing__") 202), (@PySem.Value.str (@PySem.Str.ofString "/claim/cut.py") 203), (@PySem.Value.int (4 : Int) 0), (@PySem.Value.int (2 : Int) 0), (@PySem.Value.int (0 : Int) 0), (@PySem.Value.int (0 : Int) 0), (@PySem.Value.int (3 : Int) 0), (@PySem.Value.ref 22), (@PySem.Value.bool @Bool.true), (@PySem.Value.int (181 : Int) 0), (@PySem.Value.ref 23), @PySem.Value.none, (@PySem.Value.ref 24), (@PySem.Value.ref 25), (@PySem.Value.ref 26), (@PySem.Value.int (206 : Int) 0), (@PySem.Value.int (4 : Int) 0), (@PySem.Value.str (@PySem.Str.ofString "/claim/cut.py") 207)])) (@List.toArray (@Option @PySem.Value) []))
noncomputable def hG0_28 (P : Params) : Obj := (@PySem.Obj.mk (@PySem.Value.type "function") (@Option.none @Nat) (@PySem.Data.func (@PySem.FuncData.mk (@PySem.Str.ofString "__missing__") (@PySem.Str.ofString "ParseMap.__missing__") (fnA (stAt 0 (clsB (stAt 1 b9)))) (@PySem.FuncBody.stmts (fnB (stAt 0 (clsB (stAt 1 b9))))) (scB (stAt 0 (clsB (stAt 1 b9)))) 3 [] @PySem.Value.none @PySem.Value.none @PySem.Value.none (@PySem.Value.str (@PySem.Str.ofString "cpy313.idlelib.pyparse") 187) (@Option.none @Nat) (@PySem.Value.ref 27) @PySem.Value.none 0)) (@List.toArray (@Option @PySem.Value) []))
noncomputable def hG0_29 (P : Params) : Obj := (@PySem.Obj.mk (@PySem.Value.type "tuple") (@Option.none @Nat) (@PySem.Data.seq (@List.toArray @PySem.Value []) 0) (@List.toArray (@Option @PySem.Value) []))
noncomputable def hG0_30 (P : Params) : Obj := (@PySem.Obj.mk (@PySem.Value.type "dict") (@Option.none @Nat) (@PySem.Data.dict (@List.toArray @PySem.DictEntry [(@PySem.DictEntry.mk (@PySem.PyData.keyHash P (@PySem.Str.ofString "__module__")) (@PySem.Value.str (@PySem.Str.ofString "__module__") 196) (@PySem.Value.str (@PySem.Str.ofString "cpy313.idlelib.pyparse") 187)), (@PySem.DictEntry.mk (@PySem.PyData.keyHash P (@PySem.Str.ofString "__firstlineno__")) (@PySem.Value.str (@PySem.Str.ofString "__firstlineno__") 200) (@PySem.Value.int (2 : Int) 199)), (@PySem.DictEntry.mk (@PySem.PyData.keyHash P (@PySem.Str.ofString "__missing__")) (@PySem.Value.str (@PySem.Str.ofString "__missing__") 208) (@PySem.Value.ref 28)), (@PySem.DictEntry.mk (@PySem.PyData.keyHash P (@PySem.Str.ofString "__static_attributes__")) (@PySem.Value.str (@PySem.Str.ofString "__static_attributes__") 209) (@PySem.Value.ref 29)), (@PySem.DictEntry.mk (@PySem.PyData.keyHash P (@PySem.Str.ofString "__dict__")) (@PySem.Value.str (@PySem.Str.ofString "__dict__") 211) (@PySem.Value.ref 32)), (@PySem.DictEntry.mk (@PySem.PyData.keyHash P (@PySem.Str.ofString "__weakref__")) (@PySem.Value.str (@PySem.Str.ofString "__weakref__") 213) (@PySem.Value.ref 33)), (@PySem.DictEntry.mk (@PySem.PyData.keyHash P (@PySem.Str.ofString "__doc__")) (@PySem.Value.str (@PySem.Str.ofString "__doc__") 214) @PySem.Value.none)]) 4) (@List.toArray (@Option @PySem.Value) []))
noncomputable def hG0_31 (P : Params) : Obj := (@PySem.Obj.mk (@PySem.Value.type "type") (@Option.none @Nat) (@PySem.Data.cls (@PySem.ClassData.mk (@PySem.Str.ofString "ParseMap") [(@PySem.Value.type "dict")] [(@PySem.Value.ref 31), (@PySem.Value.type "dict"), (@PySem.Value.type "object")] 30 (@PySem.Str.ofString "ParseMap") @Bool.true [] [] @Bool.false (@Option.none @Bool) @Bool.false)) (@List.toArray (@Option @PySem.Value) [(@Option.some @PySem.Value (@PySem.Value.ref 15)), (@Option.none @PySem.Value), (@Option.some @PySem.Value (@PySem.Value.str (@PySem.Str.ofString "ParseMap") 189)), (@Option.some @PySem.Value (@PySem.Value.str (@PySem.Str.ofString "ParseMap") 197)), (@Option.some @PySem.Value (@PySem.Value.builtin "dict.__new__")), (@Option.some @PySem.Value (@PySem.Value.bool @Bool.true))]))
noncomputable def hG0_32 (P : Params) : Obj := (@PySem.Obj.mk (@PySem.Value.type "getset_descriptor") (@Option.none @Nat) (@PySem.Data.fields (@List.toArray @PySem.Value [(@PySem.Value.str (@PySem.Str.ofString "__dict__") 210), (@PySem.Value.ref 31), (@PySem.Value.builtin "function.__dict__"), (@PySem.Value.builtin "function.__dict__#set")])) (@List.toArray (@Option @PySem.Value) []))
noncomputable def hG0_33 (P : Params) : Obj := (@PySem.Obj.mk (@PySem.Value.type "getset_descriptor") (@Option.none @Nat) (@PySem.Data.fields (@List.toArray @PySem.Value [(@PySem.Value.str (@PySem.Str.ofString "__weakref__") 212), (@PySem.Value.ref 31), (@PySem.Value.builtin "ExceptionGroup.__weakref__"), @PySem.Value.none])) (@List.toArray (@Option @PySem.Value) []))
noncomputable def hG0_34 (P : Params) : Obj := (@PySem.Obj.mk (@PySem.Value.type "super") (@Option.none @Nat) (@PySem.Data.fields (@List.toArray @PySem.Value [(@PySem.Value.ref 31), (@PySem.Value.ref 31), (@PySem.Value.ref 31)])) (@List.toArray (@Option @PySem.Value) []))
noncomputable def hG0_35 (P : Params) : Obj := (@PySem.Obj.mk (@PySem.Value.type "builtin_function_or_method") (@Option.none @Nat) (@PySem.Data.fields (@List.toArray @PySem.Value [(@PySem.Value.builtin "object.__init_subclass__"), (@PySem.Value.ref 31)])) (@List.toArray (@Option @PySem.Value) []))
noncomputable def treeG0 (P : Params) : BT := (BT.node (boot_o_0 P) (BT.node (boot_o_1 P) (BT.node (hG0_3 P) (BT.node (boot_o_7 P) (BT.node (hG0_15 P) (BT.node (hG0_31 P) BT.nil BT.nil) BT.nil) (BT.node (hG0_23 P) BT.nil BT.nil)) (BT.node (hp_11 P) (BT.node (hG0_19 P) (BT.node (hG0_35 P) BT.nil BT.nil) BT.nil) (BT.node (hG0_27 P) BT.nil BT.nil))) (BT.node (boot_o_5 P) (BT.node (boot_o_9 P) (BT.node (hG0_17 P) (BT.node (hG0_33 P) BT.nil BT.nil) BT.nil) (BT.node (hG0_25 P) BT.nil BT.nil)) (BT.node (hp_13 P) (BT.node (hG0_21 P) BT.nil BT.nil) (BT.node (hG0_29 P) BT.nil BT.nil)))) (BT.node (boot_o_2 P) (BT.node (boot_o_4 P) (BT.node (boot_o_8 P) (BT.node (hG0_16 P) (BT.node (hG0_32 P) BT.nil BT.nil) BT.nil) (BT.node (hG0_24 P) BT.nil BT.nil)) (BT.node (hG0_12 P) (BT.node (hG0_20 P) BT.nil BT.nil) (BT.node (hG0_28 P) BT.nil BT.nil))) (BT.node (boot_o_6 P) (BT.node (boot_o_10 P) (BT.node (hG0_18 P) (BT.node (hG0_34 P) BT.nil BT.nil) BT.nil) (BT.node (hG0_26 P) BT.nil BT.nil)) (BT.node (hp_14 P) (BT.node (hG0_22 P) BT.nil BT.nil) (BT.node (hG0_30 P) BT.nil BT.nil)))))
theorem h_G0 (w : World) (os : OsState) : segRunT treeTable p9 w 11 ann9 1 235 (SharedT.mk (treeK w.params) 15 (@PySem.Life.mk [] [] [] 0 [] [] @Bool.false (@List.toArray @Nat []) [] 0 @Bool.false @Bool.false @Bool.false (0 : Int) [(2000 : Int), (10 : Int), (10 : Int)] @Bool.false 0 @Bool.true [] [] 0 @Bool.false) (Array.mk []) (@PySem.Drawn.mk 0 0 0 0) 187 os) (piecesOf ((b9.drop 0).take 2) e9 c9 (@PySem.Pos.mk 0 0 0 0) B9) = some (Flow.next, (SharedT.mk (treeG0 w.params) 36 (@PySem.Life.mk [] [] [] 0 [] [] @Bool.false (@List.toArray @Nat []) [] 0 @Bool.false @Bool.false @Bool.false (0 : Int) [(2000 : Int), (10 : Int), (10 : Int)] @Bool.false 0 @Bool.true [] [] 0 @Bool.false) (Array.mk []) (@PySem.Drawn.mk 0 0 0 0) 217 os), c9, (@PySem.Pos.mk 2 0 5 18)) := by
  (rw [show @PySem.W.segRunT = _ from PySem.W.Fast.te10110043849684766642, show treeTable = _ from PySem.W.Fast.te14364793385576792824]; kernel_rfl)
noncomputable def kO : List Frame → Result → Sem Fin
  | .ret k _ _ _ _ _ _ :: _ => k
  | _ => fun _ => doneF Flow.next
noncomputable def stk (w : World) (os : OsState) : Result → Sem Fin := match PySem.W.Fast.tw10295753902157049106 PySem.W.Fast.tw14364793385576792824 p9 w 11 ann9 1 113 (SharedT.mk (treeG0 w.params) 36 (@PySem.Life.mk [] [] [] 0 [] [] @Bool.false (@List.toArray @Nat []) [] 0 @Bool.false @Bool.false @Bool.false (0 : Int) [(2000 : Int), (10 : Int), (10 : Int)] @Bool.false 0 @Bool.true [] [] 0 @Bool.false) (Array.mk []) (@PySem.Drawn.mk 0 0 0 0) 217 os) (piecesOf ((b9.drop 2).take 1) e9 c9 (@PySem.Pos.mk 2 0 5 18) B9) with | some (_, t) => kO t.stack | none => fun _ => doneF Flow.next
noncomputable def hG2x0_36 (P : Params) : Obj := (@PySem.Obj.mk (@PySem.Value.type "builtin_function_or_method") (@Option.none @Nat) (@PySem.Data.fields (@List.toArray @PySem.Value [(@PySem.Value.builtin "dict.fromkeys"), (@PySem.Value.ref 31)])) (@List.toArray (@Option @PySem.Value) []))
noncomputable def hG2x0_37 (P : Params) : Obj := (@PySem.Obj.mk (@PySem.Value.type "range") (@Option.none @Nat) (@PySem.Data.fields (@List.toArray @PySem.Value [(@PySem.Value.int (0 : Int) 219), (@PySem.Value.int (128 : Int) 218), (@PySem.Value.int (1 : Int) 220)])) (@List.toArray (@Option @PySem.Value) []))
noncomputable def hG2x0_38 (P : Params) : Obj := (@PySem.Obj.mk (@PySem.Value.type "dict") (@Option.none @Nat) (@PySem.Data.dict (@List.toArray @PySem.DictEntry []) 0) (@List.toArray (@Option @PySem.Value) []))
noncomputable def hG2x0_39 (P : Params) : Obj := (@PySem.Obj.mk (@PySem.Value.ref 31) (@Option.some @Nat 38) (@PySem.Data.dict (@List.toArray @PySem.DictEntry []) 0) (@List.toArray (@Option @PySem.Value) []))
noncomputable def hG2x0_40 (P : Params) : Obj := (@PySem.Obj.mk (@PySem.Value.type "range_iterator") (@Option.none @Nat) (@PySem.Data.fields (@List.toArray @PySem.Value [(@PySem.Value.int (0 : Int) 0), (@PySem.Value.int (128 : Int) 0), (@PySem.Value.int (1 : Int) 0)])) (@List.toArray (@Option @PySem.Value) []))
noncomputable def treeG2x0 (P : Params) : BT := (BT.node (boot_o_0 P) (BT.node (boot_o_1 P) (BT.node (hG0_3 P) (BT.node (boot_o_7 P) (BT.node (hG0_15 P) (BT.node (hG0_31 P) BT.nil BT.nil) BT.nil) (BT.node (hG0_23 P) (BT.node (hG2x0_39 P) BT.nil BT.nil) BT.nil)) (BT.node (hp_11 P) (BT.node (hG0_19 P) (BT.node (hG0_35 P) BT.nil BT.nil) BT.nil) (BT.node (hG0_27 P) BT.nil BT.nil))) (BT.node (boot_o_5 P) (BT.node (boot_o_9 P) (BT.node (hG0_17 P) (BT.node (hG0_33 P) BT.nil BT.nil) BT.nil) (BT.node (hG0_25 P) BT.nil BT.nil)) (BT.node (hp_13 P) (BT.node (hG0_21 P) (BT.node (hG2x0_37 P) BT.nil BT.nil) BT.nil) (BT.node (hG0_29 P) BT.nil BT.nil)))) (BT.node (boot_o_2 P) (BT.node (boot_o_4 P) (BT.node (boot_o_8 P) (BT.node (hG0_16 P) (BT.node (hG0_32 P) BT.nil BT.nil) BT.nil) (BT.node (hG0_24 P) (BT.node (hG2x0_40 P) BT.nil BT.nil) BT.nil)) (BT.node (hG0_12 P) (BT.node (hG0_20 P) (BT.node (hG2x0_36 P) BT.nil BT.nil) BT.nil) (BT.node (hG0_28 P) BT.nil BT.nil))) (BT.node (boot_o_6 P) (BT.node (boot_o_10 P) (BT.node (hG0_18 P) (BT.node (hG0_34 P) BT.nil BT.nil) BT.nil) (BT.node (hG0_26 P) BT.nil BT.nil)) (BT.node (hp_14 P) (BT.node (hG0_22 P) (BT.node (hG2x0_38 P) BT.nil BT.nil) BT.nil) (BT.node (hG0_30 P) BT.nil BT.nil)))))
noncomputable def h_G2x0_q (w : World) (os : OsState) : Prop := segGoT treeTable p9 w 11 ann9 1 113 (SharedT.mk (treeG0 w.params) 36 (@PySem.Life.mk [] [] [] 0 [] [] @Bool.false (@List.toArray @Nat []) [] 0 @Bool.false @Bool.false @Bool.false (0 : Int) [(2000 : Int), (10 : Int), (10 : Int)] @Bool.false 0 @Bool.true [] [] 0 @Bool.false) (Array.mk []) (@PySem.Drawn.mk 0 0 0 0) 217 os) (piecesOf ((b9.drop 2).take 1) e9 c9 (@PySem.Pos.mk 2 0 5 18) B9) = some ((SharedT.mk (treeG2x0 w.params) 41 (@PySem.Life.mk [] [] [] 0 [] [] @Bool.false (@List.toArray @Nat []) [] 0 @Bool.false @Bool.false @Bool.false (0 : Int) [(2000 : Int), (10 : Int), (10 : Int)] @Bool.false 0 @Bool.true [] [] 0 @Bool.false) (Array.mk []) (@PySem.Drawn.mk 0 0 0 0) 222 os), (Thread.mk (denote treeTable (Code.builtin "dict.fromkeys.loop" (Args.mk [(@PySem.Value.ref 39), (@PySem.Value.ref 40), (@PySem.Value.int (120 : Int) 221)] []))) (Code.builtin "dict.fromkeys.loop" (Args.mk [(@PySem.Value.ref 39), (@PySem.Value.ref 40), (@PySem.Value.int (120 : Int) 221)] [])) (@PySem.Pos.mk 6 8 6 42) [Frame.ret (stk w os) none false [] c9 (@PySem.Pos.mk 6 8 6 42) [(@PySem.Value.ref 36), (@PySem.Value.ref 37), (@PySem.Value.int (120 : Int) 221)], topFrame (@PySem.Pos.mk 0 0 0 0)]))
theorem h_G2x0_f (w : World) (os : OsState) : h_G2x0_q (w.withFollow "special-get-raises" false) os := by
  unfold h_G2x0_q
  (rw [show @PySem.W.segGoT = _ from PySem.W.Fast.te10295753902157049106, show @PySem.denote = _ from PySem.W.Fast.te11892475500146522536, show treeTable = _ from PySem.W.Fast.te14364793385576792824]; kernel_rfl)
theorem h_G2x0_t (w : World) (os : OsState) : h_G2x0_q (w.withFollow "special-get-raises" true) os := by
  unfold h_G2x0_q
  (rw [show @PySem.W.segGoT = _ from PySem.W.Fast.te10295753902157049106, show @PySem.denote = _ from PySem.W.Fast.te11892475500146522536, show treeTable = _ from PySem.W.Fast.te14364793385576792824]; kernel_rfl)
theorem h_G2x0 (w : World) (os : OsState) : segGoT treeTable p9 w 11 ann9 1 113 (SharedT.mk (treeG0 w.params) 36 (@PySem.Life.mk [] [] [] 0 [] [] @Bool.false (@List.toArray @Nat []) [] 0 @Bool.false @Bool.false @Bool.false (0 : Int) [(2000 : Int), (10 : Int), (10 : Int)] @Bool.false 0 @Bool.true [] [] 0 @Bool.false) (Array.mk []) (@PySem.Drawn.mk 0 0 0 0) 217 os) (piecesOf ((b9.drop 2).take 1) e9 c9 (@PySem.Pos.mk 2 0 5 18) B9) = some ((SharedT.mk (treeG2x0 w.params) 41 (@PySem.Life.mk [] [] [] 0 [] [] @Bool.false (@List.toArray @Nat []) [] 0 @Bool.false @Bool.false @Bool.false (0 : Int) [(2000 : Int), (10 : Int), (10 : Int)] @Bool.false 0 @Bool.true [] [] 0 @Bool.false) (Array.mk []) (@PySem.Drawn.mk 0 0 0 0) 222 os), (Thread.mk (denote treeTable (Code.builtin "dict.fromkeys.loop" (Args.mk [(@PySem.Value.ref 39), (@PySem.Value.ref 40), (@PySem.Value.int (120 : Int) 221)] []))) (Code.builtin "dict.fromkeys.loop" (Args.mk [(@PySem.Value.ref 39), (@PySem.Value.ref 40), (@PySem.Value.int (120 : Int) 221)] [])) (@PySem.Pos.mk 6 8 6 42) [Frame.ret (stk w os) none false [] c9 (@PySem.Pos.mk 6 8 6 42) [(@PySem.Value.ref 36), (@PySem.Value.ref 37), (@PySem.Value.int (120 : Int) 221)], topFrame (@PySem.Pos.mk 0 0 0 0)])) := byRow2 "special-get-raises" (P := fun w => ∀ os, h_G2x0_q w os) h_G2x0_f h_G2x0_t w os
noncomputable def hG2x16_39 (P : Params) : Obj := (@PySem.Obj.mk (@PySem.Value.ref 31) (@Option.some @Nat 38) (@PySem.Data.dict (@List.toArray @PySem.DictEntry [(@PySem.DictEntry.mk (0 : Int) (@PySem.Value.int (0 : Int) 222) (@PySem.Value.int (120 : Int) 221)), (@PySem.DictEntry.mk (1 : Int) (@PySem.Value.int (1 : Int) 224) (@PySem.Value.int (120 : Int) 221)), (@PySem.DictEntry.mk (2 : Int) (@PySem.Value.int (2 : Int) 226) (@PySem.Value.int (120 : Int) 221)), (@PySem.DictEntry.mk (3 : Int) (@PySem.Value.int (3 : Int) 228) (@PySem.Value.int (120 : Int) 221)), (@PySem.DictEntry.mk (4 : Int) (@PySem.Value.int (4 : Int) 230) (@PySem.Value.int (120 : Int) 221)), (@PySem.DictEntry.mk (5 : Int) (@PySem.Value.int (5 : Int) 232) (@PySem.Value.int (120 : Int) 221)), (@PySem.DictEntry.mk (6 : Int) (@PySem.Value.int (6 : Int) 234) (@PySem.Value.int (120 : Int) 221)), (@PySem.DictEntry.mk (7 : Int) (@PySem.Value.int (7 : Int) 236) (@PySem.Value.int (120 : Int) 221)), (@PySem.DictEntry.mk (8 : Int) (@PySem.Value.int (8 : Int) 238) (@PySem.Value.int (120 : Int) 221)), (@PySem.DictEntry.mk (9 : Int) (@PySem.Value.int (9 : Int) 240) (@PySem.Value.int (120 : Int) 221)), (@PySem.DictEntry.mk (10 : Int) (@PySem.Value.int (10 : Int) 242) (@PySem.Value.int (120 : Int) 221)), (@PySem.DictEntry.mk (11 : Int) (@PySem.Value.int (11 : Int) 244) (@PySem.Value.int (120 : Int) 221)), (@PySem.DictEntry.mk (12 : Int) (@PySem.Value.int (12 : Int) 246) (@PySem.Value.int (120 : Int) 221)), (@PySem.DictEntry.mk (13 : Int) (@PySem.Value.int (13 : Int) 248) (@PySem.Value.int (120 : Int) 221)), (@PySem.DictEntry.mk (14 : Int) (@PySem.Value.int (14 : Int) 250) (@PySem.Value.int (120 : Int) 221)), (@PySem.DictEntry.mk (15 : Int) (@PySem.Value.int (15 : Int) 252) (@PySem.Value.int (120 : Int) 221))]) 16) (@List.toArray (@Option @PySem.Value) []))
noncomputable def hG2x16_40 (P : Params) : Obj := (@PySem.Obj.mk (@PySem.Value.type "range_iterator") (@Option.none @Nat) (@PySem.Data.fields (@List.toArray @PySem.Value [(@PySem.Value.int (16 : Int) 0), (@PySem.Value.int (112 : Int) 0), (@PySem.Value.int (1 : Int) 0)])) (@List.toArray (@Option @PySem.Value) []))
noncomputable def treeG2x16 (P : Params) : BT := (BT.node (boot_o_0 P) (BT.node (boot_o_1 P) (BT.node (hG0_3 P) (BT.node (boot_o_7 P) (BT.node (hG0_15 P) (BT.node (hG0_31 P) BT.nil BT.nil) BT.nil) (BT.node (hG0_23 P) (BT.node (hG2x16_39 P) BT.nil BT.nil) BT.nil)) (BT.node (hp_11 P) (BT.node (hG0_19 P) (BT.node (hG0_35 P) BT.nil BT.nil) BT.nil) (BT.node (hG0_27 P) BT.nil BT.nil))) (BT.node (boot_o_5 P) (BT.node (boot_o_9 P) (BT.node (hG0_17 P) (BT.node (hG0_33 P) BT.nil BT.nil) BT.nil) (BT.node (hG0_25 P) BT.nil BT.nil)) (BT.node (hp_13 P) (BT.node (hG0_21 P) (BT.node (hG2x0_37 P) BT.nil BT.nil) BT.nil) (BT.node (hG0_29 P) BT.nil BT.nil)))) (BT.node (boot_o_2 P) (BT.node (boot_o_4 P) (BT.node (boot_o_8 P) (BT.node (hG0_16 P) (BT.node (hG0_32 P) BT.nil BT.nil) BT.nil) (BT.node (hG0_24 P) (BT.node (hG2x16_40 P) BT.nil BT.nil) BT.nil)) (BT.node (hG0_12 P) (BT.node (hG0_20 P) (BT.node (hG2x0_36 P) BT.nil BT.nil) BT.nil) (BT.node (hG0_28 P) BT.nil BT.nil))) (BT.node (boot_o_6 P) (BT.node (boot_o_10 P) (BT.node (hG0_18 P) (BT.node (hG0_34 P) BT.nil BT.nil) BT.nil) (BT.node (hG0_26 P) BT.nil BT.nil)) (BT.node (hp_14 P) (BT.node (hG0_22 P) (BT.node (hG2x0_38 P) BT.nil BT.nil) BT.nil) (BT.node (hG0_30 P) BT.nil BT.nil)))))
noncomputable def h_G2x16_q (w : World) (os : OsState) : Prop := ∀ k : Result → Sem Fin, segGoT treeTable p9 w 11 ann9 1 640 (SharedT.mk (treeG2x0 w.params) 41 (@PySem.Life.mk [] [] [] 0 [] [] @Bool.false (@List.toArray @Nat []) [] 0 @Bool.false @Bool.false @Bool.false (0 : Int) [(2000 : Int), (10 : Int), (10 : Int)] @Bool.false 0 @Bool.true [] [] 0 @Bool.false) (Array.mk []) (@PySem.Drawn.mk 0 0 0 0) 222 os) (Thread.mk (denote treeTable (Code.builtin "dict.fromkeys.loop" (Args.mk [(@PySem.Value.ref 39), (@PySem.Value.ref 40), (@PySem.Value.int (120 : Int) 221)] []))) (Code.builtin "dict.fromkeys.loop" (Args.mk [(@PySem.Value.ref 39), (@PySem.Value.ref 40), (@PySem.Value.int (120 : Int) 221)] [])) (@PySem.Pos.mk 6 8 6 42) [Frame.ret k none false [] c9 (@PySem.Pos.mk 6 8 6 42) [(@PySem.Value.ref 36), (@PySem.Value.ref 37), (@PySem.Value.int (120 : Int) 221)], topFrame (@PySem.Pos.mk 0 0 0 0)]) = some ((SharedT.mk (treeG2x16 w.params) 41 (@PySem.Life.mk [] [] [] 0 [] [] @Bool.false (@List.toArray @Nat []) [] 0 @Bool.false @Bool.false @Bool.false (0 : Int) [(2000 : Int), (10 : Int), (10 : Int)] @Bool.false 0 @Bool.true [] [] 0 @Bool.false) (Array.mk []) (@PySem.Drawn.mk 0 0 0 0) 254 os), (Thread.mk (denote treeTable (Code.builtin "dict.fromkeys.loop" (Args.mk [(@PySem.Value.ref 39), (@PySem.Value.ref 40), (@PySem.Value.int (120 : Int) 221)] []))) (Code.builtin "dict.fromkeys.loop" (Args.mk [(@PySem.Value.ref 39), (@PySem.Value.ref 40), (@PySem.Value.int (120 : Int) 221)] [])) (@PySem.Pos.mk 6 8 6 42) [Frame.ret k none false [] c9 (@PySem.Pos.mk 6 8 6 42) [(@PySem.Value.ref 36), (@PySem.Value.ref 37), (@PySem.Value.int (120 : Int) 221)], topFrame (@PySem.Pos.mk 0 0 0 0)]))
theorem h_G2x16_f (w : World) (os : OsState) : h_G2x16_q (w.withFollow "special-get-raises" false) os := by
  unfold h_G2x16_q
  intro k
  (rw [show @PySem.W.segGoT = _ from PySem.W.Fast.te10295753902157049106, show @PySem.denote = _ from PySem.W.Fast.te11892475500146522536, show treeTable = _ from PySem.W.Fast.te14364793385576792824]; kernel_rfl)
theorem h_G2x16_t (w : World) (os : OsState) : h_G2x16_q (w.withFollow "special-get-raises" true) os := by
  unfold h_G2x16_q
  intro k
  (rw [show @PySem.W.segGoT = _ from PySem.W.Fast.te10295753902157049106, show @PySem.denote = _ from PySem.W.Fast.te11892475500146522536, show treeTable = _ from PySem.W.Fast.te14364793385576792824]; kernel_rfl)
theorem h_G2x16 (w : World) (os : OsState) : ∀ k : Result → Sem Fin, segGoT treeTable p9 w 11 ann9 1 640 (SharedT.mk (treeG2x0 w.params) 41 (@PySem.Life.mk [] [] [] 0 [] [] @Bool.false (@List.toArray @Nat []) [] 0 @Bool.false @Bool.false @Bool.false (0 : Int) [(2000 : Int), (10 : Int), (10 : Int)] @Bool.false 0 @Bool.true [] [] 0 @Bool.false) (Array.mk []) (@PySem.Drawn.mk 0 0 0 0) 222 os) (Thread.mk (denote treeTable (Code.builtin "dict.fromkeys.loop" (Args.mk [(@PySem.Value.ref 39), (@PySem.Value.ref 40), (@PySem.Value.int (120 : Int) 221)] []))) (Code.builtin "dict.fromkeys.loop" (Args.mk [(@PySem.Value.ref 39), (@PySem.Value.ref 40), (@PySem.Value.int (120 : Int) 221)] [])) (@PySem.Pos.mk 6 8 6 42) [Frame.ret k none false [] c9 (@PySem.Pos.mk 6 8 6 42) [(@PySem.Value.ref 36), (@PySem.Value.ref 37), (@PySem.Value.int (120 : Int) 221)], topFrame (@PySem.Pos.mk 0 0 0 0)]) = some ((SharedT.mk (treeG2x16 w.params) 41 (@PySem.Life.mk [] [] [] 0 [] [] @Bool.false (@List.toArray @Nat []) [] 0 @Bool.false @Bool.false @Bool.false (0 : Int) [(2000 : Int), (10 : Int), (10 : Int)] @Bool.false 0 @Bool.true [] [] 0 @Bool.false) (Array.mk []) (@PySem.Drawn.mk 0 0 0 0) 254 os), (Thread.mk (denote treeTable (Code.builtin "dict.fromkeys.loop" (Args.mk [(@PySem.Value.ref 39), (@PySem.Value.ref 40), (@PySem.Value.int (120 : Int) 221)] []))) (Code.builtin "dict.fromkeys.loop" (Args.mk [(@PySem.Value.ref 39), (@PySem.Value.ref 40), (@PySem.Value.int (120 : Int) 221)] [])) (@PySem.Pos.mk 6 8 6 42) [Frame.ret k none false [] c9 (@PySem.Pos.mk 6 8 6 42) [(@PySem.Value.ref 36), (@PySem.Value.ref 37), (@PySem.Value.int (120 : Int) 221)], topFrame (@PySem.Pos.mk 0 0 0 0)])) := byRow2 "special-get-raises" (P := fun w => ∀ os, h_G2x16_q w os) h_G2x16_f h_G2x16_t w os
noncomputable def hG2x32_39 (P : Params) : Obj := (@PySem.Obj.mk (@PySem.Value.ref 31) (@Option.some @Nat 38) (@PySem.Data.dict (@List.toArray @PySem.DictEntry [(@PySem.DictEntry.mk (0 : Int) (@PySem.Value.int (0 : Int) 222) (@PySem.Value.int (120 : Int) 221)), (@PySem.DictEntry.mk (1 : Int) (@PySem.Value.int (1 : Int) 224) (@PySem.Value.int (120 : Int) 221)), (@PySem.DictEntry.mk (2 : Int) (@PySem.Value.int (2 : Int) 226) (@PySem.Value.int (120 : Int) 221)), (@PySem.DictEntry.mk (3 : Int) (@PySem.Value.int (3 : Int) 228) (@PySem.Value.int (120 : Int) 221)), (@PySem.DictEntry.mk (4 : Int) (@PySem.Value.int (4 : Int) 230) (@PySem.Value.int (120 : Int) 221)), (@PySem.DictEntry.mk (5 : Int) (@PySem.Value.int (5 : Int) 232) (@PySem.Value.int (120 : Int) 221)), (@PySem.DictEntry.mk (6 : Int) (@PySem.Value.int (6 : Int) 234) (@PySem.Value.int (120 : Int) 221)), (@PySem.DictEntry.mk (7 : Int) (@PySem.Value.int (7 : Int) 236) (@PySem.Value.int (120 : Int) 221)), (@PySem.DictEntry.mk (8 : Int) (@PySem.Value.int (8 : Int) 238) (@PySem.Value.int (120 : Int) 221)), (@PySem.DictEntry.mk (9 : Int) (@PySem.Value.int (9 : Int) 240) (@PySem.Value.int (120 : Int) 221)), (@PySem.DictEntry.mk (10 : Int) (@PySem.Value.int (10 : Int) 242) (@PySem.Value.int (120 : Int) 221)), (@PySem.DictEntry.mk (11 : Int) (@PySem.Value.int (11 : Int) 244) (@PySem.Value.int (120 : Int) 221)), (@PySem.DictEntry.mk (12 : Int) (@PySem.Value.int (12 : Int) 246) (@PySem.Value.int (120 : Int) 221)), (@PySem.DictEntry.mk (13 : Int) (@PySem.Value.int (13 : Int) 248) (@PySem.Value.int (120 : Int) 221)), (@PySem.DictEntry.mk (14 : Int) (@PySem.Value.int (14 : Int) 250) (@PySem.Value.int (120 : Int) 221)), (@PySem.DictEntry.mk (15 : Int) (@PySem.Value.int (15 : Int) 252) (@PySem.Value.int (120 : Int) 221)), (@PySem.DictEntry.mk (16 : Int) (@PySem.Value.int (16 : Int) 254) (@PySem.Value.int (120 : Int) 221)), (@PySem.DictEntry.mk (17 : Int) (@PySem.Value.int (17 : Int) 256) (@PySem.Value.int (120 : Int) 221)), (@PySem.DictEntry.mk (18 : Int) (@PySem.Value.int (18 : Int) 258) (@PySem.Value.int (120 : Int) 221)), (@PySem.DictEntry.mk (19 : Int) (@PySem.Value.int (19 : Int) 260) (@PySem.Value.int (120 : Int) 221)), (@PySem.DictEntry.mk (20 : Int) (@PySem.Value.int (20 : Int) 262) (@PySem.Value.int (120 : Int) 221)), (@PySem.DictEntry.mk (21 : Int) (@PySem.Value.int (21 : Int) 264) (@PySem.Value.int (120 : Int) 221)), (@PySem.DictEntry.mk (22 : Int) (@PySem.Value.int (22 : Int) 266) (@PySem.Value.int (120 : Int) 221)), (@PySem.DictEntry.mk (23 : Int) (@PySem.Value.int (23 : Int) 268) (@PySem.Value.int (120 : Int) 221)), (@PySem.DictEntry.mk (24 : Int) (@PySem.Value.int (24 : Int) 270) (@PySem.Value.int (120 : Int) 221)), (@PySem.DictEntry.mk (25 : Int) (@PySem.Value.int (25 : Int) 272) (@PySem.Value.int (120 : Int) 221)), (@PySem.DictEntry.mk (26 : Int) (@PySem.Value.int (26 : Int) 274) (@PySem.Value.int (120 : Int) 221)), (@PySem.DictEntry.mk (27 : Int) (@PySem.Value.int (27 : Int) 276) (@PySem.Value.int (120 : Int) 221)), (@PySem.DictEntry.mk (28 : Int) (@PySem.Value.int (28 : Int) 278) (@PySem.Value.int (120 : Int) 221)), (@PySem.DictEntry.mk (29 : Int) (@PySem.Value.int (29 : Int) 280) (@PySem.Value.int (120 : Int) 221)), (@PySem.DictEntry.mk (30 : Int) (@PySem.Value.int (30 : Int) 282) (@PySem.Value.int (120 : Int) 221)), (@PySem.DictEntry.mk (31 : Int) (@PySem.Value.int (31 : Int) 284) (@PySem.Value.int (120 : Int) 221))]) 32) (@List.toArray (@Option @PySem.Value) []))
noncomputable def hG2x32_40 (P : Params) : Obj := (@PySem.Obj.mk (@PySem.Value.type "range_iterator") (@Option.none @Nat) (@PySem.Data.fields (@List.toArray @PySem.Value [(@PySem.Value.int (32 : Int) 0), (@PySem.Value.int (96 : Int) 0), (@PySem.Value.int (1 : Int) 0)])) (@List.toArray (@Option @PySem.Value) []))
noncomputable def treeG2x32 (P : Params) : BT := (BT.node (boot_o_0 P) (BT.node (boot_o_1 P) (BT.node (hG0_3 P) (BT.node (boot_o_7 P) (BT.node (hG0_15 P) (BT.node (hG0_31 P) BT.nil BT.nil) BT.nil) (BT.node (hG0_23 P) (BT.node (hG2x32_39 P) BT.nil BT.nil) BT.nil)) (BT.node (hp_11 P) (BT.node (hG0_19 P) (BT.node (hG0_35 P) BT.nil BT.nil) BT.nil) (BT.node (hG0_27 P) BT.nil BT.nil))) (BT.node (boot_o_5 P) (BT.node (boot_o_9 P) (BT.node (hG0_17 P) (BT.node (hG0_33 P) BT.nil BT.nil) BT.nil) (BT.node (hG0_25 P) BT.nil BT.nil)) (BT.node (hp_13 P) (BT.node (hG0_21 P) (BT.node (hG2x0_37 P) BT.nil BT.nil) BT.nil) (BT.node (hG0_29 P) BT.nil BT.nil)))) (BT.node (boot_o_2 P) (BT.node (boot_o_4 P) (BT.node (boot_o_8 P) (BT.node (hG0_16 P) (BT.node (hG0_32 P) BT.nil BT.nil) BT.nil) (BT.node (hG0_24 P) (BT.node (hG2x32_40 P) BT.nil BT.nil) BT.nil)) (BT.node (hG0_12 P) (BT.node (hG0_20 P) (BT.node (hG2x0_36 P) BT.nil BT.nil) BT.nil) (BT.node (hG0_28 P) BT.nil BT.nil))) (BT.node (boot_o_6 P) (BT.node (boot_o_10 P) (BT.node (hG0_18 P) (BT.node (hG0_34 P) BT.nil BT.nil) BT.nil) (BT.node (hG0_26 P) BT.nil BT.nil)) (BT.node (hp_14 P) (BT.node (hG0_22 P) (BT.node (hG2x0_38 P) BT.nil BT.nil) BT.nil) (BT.node (hG0_30 P) BT.nil BT.nil)))))
noncomputable def h_G2x32_q (w : World) (os : OsState) : Prop := ∀ k : Result → Sem Fin, segGoT treeTable p9 w 11 ann9 1 640 (SharedT.mk (treeG2x16 w.params) 41 (@PySem.Life.mk [] [] [] 0 [] [] @Bool.false (@List.toArray @Nat []) [] 0 @Bool.false @Bool.false @Bool.false (0 : Int) [(2000 : Int), (10 : Int), (10 : Int)] @Bool.false 0 @Bool.true [] [] 0 @Bool.false) (Array.mk []) (@PySem.Drawn.mk 0 0 0 0) 254 os) (Thread.mk (denote treeTable (Code.builtin "dict.fromkeys.loop" (Args.mk [(@PySem.Value.ref 39), (@PySem.Value.ref 40), (@PySem.Value.int (120 : Int) 221)] []))) (Code.builtin "dict.fromkeys.loop" (Args.mk [(@PySem.Value.ref 39), (@PySem.Value.ref 40), (@PySem.Value.int (120 : Int) 221)] [])) (@PySem.Pos.mk 6 8 6 42) [Frame.ret k none false [] c9 (@PySem.Pos.mk 6 8 6 42) [(@PySem.Value.ref 36), (@PySem.Value.ref 37), (@PySem.Value.int (120 : Int) 221)], topFrame (@PySem.Pos.mk 0 0 0 0)]) = some ((SharedT.mk (treeG2x32 w.params) 41 (@PySem.Life.mk [] [] [] 0 [] [] @Bool.false (@List.toArray @Nat []) [] 0 @Bool.false @Bool.false @Bool.false (0 : Int) [(2000 : Int), (10 : Int), (10 : Int)] @Bool.false 0 @Bool.true [] [] 0 @Bool.false) (Array.mk []) (@PySem.Drawn.mk 0 0 0 0) 286 os), (Thread.mk (denote treeTable (Code.builtin "dict.fromkeys.loop" (Args.mk [(@PySem.Value.ref 39), (@PySem.Value.ref 40), (@PySem.Value.int (120 : Int) 221)] []))) (Code.builtin "dict.fromkeys.loop" (Args.mk [(@PySem.Value.ref 39), (@PySem.Value.ref 40), (@PySem.Value.int (120 : Int) 221)] [])) (@PySem.Pos.mk 6 8 6 42) [Frame.ret k none false [] c9 (@PySem.Pos.mk 6 8 6 42) [(@PySem.Value.ref 36), (@PySem.Value.ref 37), (@PySem.Value.int (120 : Int) 221)], topFrame (@PySem.Pos.mk 0 0 0 0)]))
theorem h_G2x32_f (w : World) (os : OsState) : h_G2x32_q (w.withFollow "special-get-raises" false) os := by
  unfold h_G2x32_q
  intro k
  (rw [show @PySem.W.segGoT = _ from PySem.W.Fast.te10295753902157049106, show @PySem.denote = _ from PySem.W.Fast.te11892475500146522536, show treeTable = _ from PySem.W.Fast.te14364793385576792824]; kernel_rfl)
theorem h_G2x32_t (w : World) (os : OsState) : h_G2x32_q (w.withFollow "special-get-raises" true) os := by
  unfold h_G2x32_q
  intro k
  (rw [show @PySem.W.segGoT = _ from PySem.W.Fast.te10295753902157049106, show @PySem.denote = _ from PySem.W.Fast.te11892475500146522536, show treeTable = _ from PySem.W.Fast.te14364793385576792824]; kernel_rfl)
theorem h_G2x32 (w : World) (os : OsState) : ∀ k : Result → Sem Fin, segGoT treeTable p9 w 11 ann9 1 640 (SharedT.mk (treeG2x16 w.params) 41 (@PySem.Life.mk [] [] [] 0 [] [] @Bool.false (@List.toArray @Nat []) [] 0 @Bool.false @Bool.false @Bool.false (0 : Int) [(2000 : Int), (10 : Int), (10 : Int)] @Bool.false 0 @Bool.true [] [] 0 @Bool.false) (Array.mk []) (@PySem.Drawn.mk 0 0 0 0) 254 os) (Thread.mk (denote treeTable (Code.builtin "dict.fromkeys.loop" (Args.mk [(@PySem.Value.ref 39), (@PySem.Value.ref 40), (@PySem.Value.int (120 : Int) 221)] []))) (Code.builtin "dict.fromkeys.loop" (Args.mk [(@PySem.Value.ref 39), (@PySem.Value.ref 40), (@PySem.Value.int (120 : Int) 221)] [])) (@PySem.Pos.mk 6 8 6 42) [Frame.ret k none false [] c9 (@PySem.Pos.mk 6 8 6 42) [(@PySem.Value.ref 36), (@PySem.Value.ref 37), (@PySem.Value.int (120 : Int) 221)], topFrame (@PySem.Pos.mk 0 0 0 0)]) = some ((SharedT.mk (treeG2x32 w.params) 41 (@PySem.Life.mk [] [] [] 0 [] [] @Bool.false (@List.toArray @Nat []) [] 0 @Bool.false @Bool.false @Bool.false (0 : Int) [(2000 : Int), (10 : Int), (10 : Int)] @Bool.false 0 @Bool.true [] [] 0 @Bool.false) (Array.mk []) (@PySem.Drawn.mk 0 0 0 0) 286 os), (Thread.mk (denote treeTable (Code.builtin "dict.fromkeys.loop" (Args.mk [(@PySem.Value.ref 39), (@PySem.Value.ref 40), (@PySem.Value.int (120 : Int) 221)] []))) (Code.builtin "dict.fromkeys.loop" (Args.mk [(@PySem.Value.ref 39), (@PySem.Value.ref 40), (@PySem.Value.int (120 : Int) 221)] [])) (@PySem.Pos.mk 6 8 6 42) [Frame.ret k none false [] c9 (@PySem.Pos.mk 6 8 6 42) [(@PySem.Value.ref 36), (@PySem.Value.ref 37), (@PySem.Value.int (120 : Int) 221)], topFrame (@PySem.Pos.mk 0 0 0 0)])) := byRow2 "special-get-raises" (P := fun w => ∀ os, h_G2x32_q w os) h_G2x32_f h_G2x32_t w os
noncomputable def hG2x48_39 (P : Params) : Obj := (@PySem.Obj.mk (@PySem.Value.ref 31) (@Option.some @Nat 38) (@PySem.Data.dict (@List.toArray @PySem.DictEntry [(@PySem.DictEntry.mk (0 : Int) (@PySem.Value.int (0 : Int) 222) (@PySem.Value.int (120 : Int) 221)), (@PySem.DictEntry.mk (1 : Int) (@PySem.Value.int (1 : Int) 224) (@PySem.Value.int (120 : Int) 221)), (@PySem.DictEntry.mk (2 : Int) (@PySem.Value.int (2 : Int) 226) (@PySem.Value.int (120 : Int) 221)), (@PySem.DictEntry.mk (3 : Int) (@PySem.Value.int (3 : Int) 228) (@PySem.Value.int (120 : Int) 221)), (@PySem.DictEntry.mk (4 : Int) (@PySem.Value.int (4 : Int) 230) (@PySem.Value.int (120 : Int) 221)), (@PySem.DictEntry.mk (5 : Int) (@PySem.Value.int (5 : Int) 232) (@PySem.Value.int (120 : Int) 221)), (@PySem.DictEntry.mk (6 : Int) (@PySem.Value.int (6 : Int) 234) (@PySem.Value.int (120 : Int) 221)), (@PySem.DictEntry.mk (7 : Int) (@PySem.Value.int (7 : Int) 236) (@PySem.Value.int (120 : Int) 221)), (@PySem.DictEntry.mk (8 : Int) (@PySem.Value.int (8 : Int) 238) (@PySem.Value.int (120 : Int) 221)), (@PySem.DictEntry.mk (9 : Int) (@PySem.Value.int (9 : Int) 240) (@PySem.Value.int (120 : Int) 221)), (@PySem.DictEntry.mk (10 : Int) (@PySem.Value.int (10 : Int) 242) (@PySem.Value.int (120 : Int) 221)), (@PySem.DictEntry.mk (11 : Int) (@PySem.Value.int (11 : Int) 244) (@PySem.Value.int (120 : Int) 221)), (@PySem.DictEntry.mk (12 : Int) (@PySem.Value.int (12 : Int) 246) (@PySem.Value.int (120 : Int) 221)), (@PySem.DictEntry.mk (13 : Int) (@PySem.Value.int (13 : Int) 248) (@PySem.Value.int (120 : Int) 221)), (@PySem.DictEntry.mk (14 : Int) (@PySem.Value.int (14 : Int) 250) (@PySem.Value.int (120 : Int) 221)), (@PySem.DictEntry.mk (15 : Int) (@PySem.Value.int (15 : Int) 252) (@PySem.Value.int (120 : Int) 221)), (@PySem.DictEntry.mk (16 : Int) (@PySem.Value.int (16 : Int) 254) (@PySem.Value.int (120 : Int) 221)), (@PySem.DictEntry.mk (17 : Int) (@PySem.Value.int (17 : Int) 256) (@PySem.Value.int (120 : Int) 221)), (@PySem.DictEntry.mk (18 : Int) (@PySem.Value.int (18 : Int) 258) (@PySem.Value.int (120 : Int) 221)), (@PySem.DictEntry.mk (19 : Int) (@PySem.Value.int (19 : Int) 260) (@PySem.Value.int (120 : Int) 221)), (@PySem.DictEntry.mk (20 : Int) (@PySem.Value.int (20 : Int) 262) (@PySem.Value.int (120 : Int) 221)), (@PySem.DictEntry.mk (21 : Int) (@PySem.Value.int (21 : Int) 264) (@PySem.Value.int (120 : Int) 221)), (@PySem.DictEntry.mk (22 : Int) (@PySem.Value.int (22 : Int) 266) (@PySem.Value.int (120 : Int) 221)), (@PySem.DictEntry.mk (23 : Int) (@PySem.Value.int (23 : Int) 268) (@PySem.Value.int (120 : Int) 221)), (@PySem.DictEntry.mk (24 : Int) (@PySem.Value.int (24 : Int) 270) (@PySem.Value.int (120 : Int) 221)), (@PySem.DictEntry.mk (25 : Int) (@PySem.Value.int (25 : Int) 272) (@PySem.Value.int (120 : Int) 221)), (@PySem.DictEntry.mk (26 : Int) (@PySem.Value.int (26 : Int) 274) (@PySem.Value.int (120 : Int) 221)), (@PySem.DictEntry.mk (27 : Int) (@PySem.Value.int (27 : Int) 276) (@PySem.Value.int (120 : Int) 221)), (@PySem.DictEntry.mk (28 : Int) (@PySem.Value.int (28 : Int) 278) (@PySem.Value.int (120 : Int) 221)), (@PySem.DictEntry.mk (29 : Int) (@PySem.Value.int (29 : Int) 280) (@PySem.Value.int (120 : Int) 221)), (@PySem.DictEntry.mk (30 : Int) (@PySem.Value.int (30 : Int) 282) (@PySem.Value.int (120 : Int) 221)), (@PySem.DictEntry.mk (31 : Int) (@PySem.Value.int (31 : Int) 284) (@PySem.Value.int (120 : Int) 221)), (@PySem.DictEntry.mk (32 : Int) (@PySem.Value.int (32 : Int) 286) (@PySem.Value.int (120 : Int) 221)), (@PySem.DictEntry.mk (33 : Int) (@PySem.Value.int (33 : Int) 288) (@PySem.Value.int (120 : Int) 221)), (@PySem.DictEntry.mk (34 : Int) (@PySem.Value.int (34 : Int) 290) (@PySem.Value.int (120 : Int) 221)), (@PySem.DictEntry.mk (35 : Int) (@PySem.Value.int (35 : Int) 292) (@PySem.Value.int (120 : Int) 221)), (@PySem.DictEntry.mk (36 : Int) (@PySem.Value.int (36 : Int) 294) (@PySem.Value.int (120 : Int) 221)), (@PySem.DictEntry.mk (37 : Int) (@PySem.Value.int (37 : Int) 296) (@PySem.Value.int (120 : Int) 221)), (@PySem.DictEntry.mk (38 : Int) (@PySem.Value.int (38 : Int) 298) (@PySem.Value.int (120 : Int) 221)), (@PySem.DictEntry.mk (39 : Int) (@PySem.Value.int (39 : Int) 300) (@PySem.Value.int (120 : Int) 221)), (@PySem.DictEntry.mk (40 : Int) (@PySem.Value.int (40 : Int) 302) (@PySem.Value.int (120 : Int) 221)), (@PySem.DictEntry.mk (41 : Int) (@PySem.Value.int (41 : Int) 304) (@PySem.Value.int (120 : Int) 221)), (@PySem.DictEntry.mk (42 : Int) (@PySem.Value.int (42 : Int) 306) (@PySem.Value.int (120 : Int) 221)), (@PySem.DictEntry.mk (43 : Int) (@PySem.Value.int (43 : Int) 308) (@PySem.Value.int (120 : Int) 221)), (@PySem.DictEntry.mk (44 : Int) (@PySem.Value.int (44 : Int) 310) (@PySem.Value.int (120 : Int) 221)), (@PySem.DictEntry.mk (45 : Int) (@PySem.Value.int (45 : Int) 312) (@PySem.Value.int (120 : Int) 221)), (@PySem.DictEntry.mk (46 : Int) (@PySem.Value.int (46 : Int) 314) (@PySem.Value.int (120 : Int) 221)), (@PySem.DictEntry.mk (47 : Int) (@PySem.Value.int (47 : Int) 316) (@PySem.Value.int (120 : Int) 221))]) 48) (@List.toArray (@Option @PySem.Value) []))
noncomputable def hG2x48_40 (P : Params) : Obj := (@PySem.Obj.mk (@PySem.Value.type "range_iterator") (@Option.none @Nat) (@PySem.Data.fields (@List.toArray @PySem.Value [(@PySem.Value.int (48 : Int) 0), (@PySem.Value.int (80 : Int) 0), (@PySem.Value.int (1 : Int) 0)])) (@List.toArray (@Option @PySem.Value) []))
noncomputable def treeG2x48 (P : Params) : BT := (BT.node (boot_o_0 P) (BT.node (boot_o_1 P) (BT.node (hG0_3 P) (BT.node (boot_o_7 P) (BT.node (hG0_15 P) (BT.node (hG0_31 P) BT.nil BT.nil) BT.nil) (BT.node (hG0_23 P) (BT.node (hG2x48_39 P) BT.nil BT.nil) BT.nil)) (BT.node (hp_11 P) (BT.node (hG0_19 P) (BT.node (hG0_35 P) BT.nil BT.nil) BT.nil) (BT.node (hG0_27 P) BT.nil BT.nil))) (BT.node (boot_o_5 P) (BT.node (boot_o_9 P) (BT.node (hG0_17 P) (BT.node (hG0_33 P) BT.nil BT.nil) BT.nil) (BT.node (hG0_25 P) BT.nil BT.nil)) (BT.node (hp_13 P) (BT.node (hG0_21 P) (BT.node (hG2x0_37 P) BT.nil BT.nil) BT.nil) (BT.node (hG0_29 P) BT.nil BT.nil)))) (BT.node (boot_o_2 P) (BT.node (boot_o_4 P) (BT.node (boot_o_8 P) (BT.node (hG0_16 P) (BT.node (hG0_32 P) BT.nil BT.nil) BT.nil) (BT.node (hG0_24 P) (BT.node (hG2x48_40 P) BT.nil BT.nil) BT.nil)) (BT.node (hG0_12 P) (BT.node (hG0_20 P) (BT.node (hG2x0_36 P) BT.nil BT.nil) BT.nil) (BT.node (hG0_28 P) BT.nil BT.nil))) (BT.node (boot_o_6 P) (BT.node (boot_o_10 P) (BT.node (hG0_18 P) (BT.node (hG0_34 P) BT.nil BT.nil) BT.nil) (BT.node (hG0_26 P) BT.nil BT.nil)) (BT.node (hp_14 P) (BT.node (hG0_22 P) (BT.node (hG2x0_38 P) BT.nil BT.nil) BT.nil) (BT.node (hG0_30 P) BT.nil BT.nil)))))
noncomputable def h_G2x48_q (w : World) (os : OsState) : Prop := ∀ k : Result → Sem Fin, segGoT treeTable p9 w 11 ann9 1 640 (SharedT.mk (treeG2x32 w.params) 41 (@PySem.Life.mk [] [] [] 0 [] [] @Bool.false (@List.toArray @Nat []) [] 0 @Bool.false @Bool.false @Bool.false (0 : Int) [(2000 : Int), (10 : Int), (10 : Int)] @Bool.false 0 @Bool.true [] [] 0 @Bool.false) (Array.mk []) (@PySem.Drawn.mk 0 0 0 0) 286 os) (Thread.mk (denote treeTable (Code.builtin "dict.fromkeys.loop" (Args.mk [(@PySem.Value.ref 39), (@PySem.Value.ref 40), (@PySem.Value.int (120 : Int) 221)] []))) (Code.builtin "dict.fromkeys.loop" (Args.mk [(@PySem.Value.ref 39), (@PySem.Value.ref 40), (@PySem.Value.int (120 : Int) 221)] [])) (@PySem.Pos.mk 6 8 6 42) [Frame.ret k none false [] c9 (@PySem.Pos.mk 6 8 6 42) [(@PySem.Value.ref 36), (@PySem.Value.ref 37), (@PySem.Value.int (120 : Int) 221)], topFrame (@PySem.Pos.mk 0 0 0 0)]) = some ((SharedT.mk (treeG2x48 w.params) 41 (@PySem.Life.mk [] [] [] 0 [] [] @Bool.false (@List.toArray @Nat []) [] 0 @Bool.false @Bool.false @Bool.false (0 : Int) [(2000 : Int), (10 : Int), (10 : Int)] @Bool.false 0 @Bool.true [] [] 0 @Bool.false) (Array.mk []) (@PySem.Drawn.mk 0 0 0 0) 318 os), (Thread.mk (denote treeTable (Code.builtin "dict.fromkeys.loop" (Args.mk [(@PySem.Value.ref 39), (@PySem.Value.ref 40), (@PySem.Value.int (120 : Int) 221)] []))) (Code.builtin "dict.fromkeys.loop" (Args.mk [(@PySem.Value.ref 39), (@PySem.Value.ref 40), (@PySem.Value.int (120 : Int) 221)] [])) (@PySem.Pos.mk 6 8 6 42) [Frame.ret k none false [] c9 (@PySem.Pos.mk 6 8 6 42) [(@PySem.Value.ref 36), (@PySem.Value.ref 37), (@PySem.Value.int (120 : Int) 221)], topFrame (@PySem.Pos.mk 0 0 0 0)]))
theorem h_G2x48_f (w : World) (os : OsState) : h_G2x48_q (w.withFollow "special-get-raises" false) os := by
  unfold h_G2x48_q
  intro k
  (rw [show @PySem.W.segGoT = _ from PySem.W.Fast.te10295753902157049106, show @PySem.denote = _ from PySem.W.Fast.te11892475500146522536, show treeTable = _ from PySem.W.Fast.te14364793385576792824]; kernel_rfl)
theorem h_G2x48_t (w : World) (os : OsState) : h_G2x48_q (w.withFollow "special-get-raises" true) os := by
  unfold h_G2x48_q
  intro k
  (rw [show @PySem.W.segGoT = _ from PySem.W.Fast.te10295753902157049106, show @PySem.denote = _ from PySem.W.Fast.te11892475500146522536, show treeTable = _ from PySem.W.Fast.te14364793385576792824]; kernel_rfl)
theorem h_G2x48 (w : World) (os : OsState) : ∀ k : Result → Sem Fin, segGoT treeTable p9 w 11 ann9 1 640 (SharedT.mk (treeG2x32 w.params) 41 (@PySem.Life.mk [] [] [] 0 [] [] @Bool.false (@List.toArray @Nat []) [] 0 @Bool.false @Bool.false @Bool.false (0 : Int) [(2000 : Int), (10 : Int), (10 : Int)] @Bool.false 0 @Bool.true [] [] 0 @Bool.false) (Array.mk []) (@PySem.Drawn.mk 0 0 0 0) 286 os) (Thread.mk (denote treeTable (Code.builtin "dict.fromkeys.loop" (Args.mk [(@PySem.Value.ref 39), (@PySem.Value.ref 40), (@PySem.Value.int (120 : Int) 221)] []))) (Code.builtin "dict.fromkeys.loop" (Args.mk [(@PySem.Value.ref 39), (@PySem.Value.ref 40), (@PySem.Value.int (120 : Int) 221)] [])) (@PySem.Pos.mk 6 8 6 42) [Frame.ret k none false [] c9 (@PySem.Pos.mk 6 8 6 42) [(@PySem.Value.ref 36), (@PySem.Value.ref 37), (@PySem.Value.int (120 : Int) 221)], topFrame (@PySem.Pos.mk 0 0 0 0)]) = some ((SharedT.mk (treeG2x48 w.params) 41 (@PySem.Life.mk [] [] [] 0 [] [] @Bool.false (@List.toArray @Nat []) [] 0 @Bool.false @Bool.false @Bool.false (0 : Int) [(2000 : Int), (10 : Int), (10 : Int)] @Bool.false 0 @Bool.true [] [] 0 @Bool.false) (Array.mk []) (@PySem.Drawn.mk 0 0 0 0) 318 os), (Thread.mk (denote treeTable (Code.builtin "dict.fromkeys.loop" (Args.mk [(@PySem.Value.ref 39), (@PySem.Value.ref 40), (@PySem.Value.int (120 : Int) 221)] []))) (Code.builtin "dict.fromkeys.loop" (Args.mk [(@PySem.Value.ref 39), (@PySem.Value.ref 40), (@PySem.Value.int (120 : Int) 221)] [])) (@PySem.Pos.mk 6 8 6 42) [Frame.ret k none false [] c9 (@PySem.Pos.mk 6 8 6 42) [(@PySem.Value.ref 36), (@PySem.Value.ref 37), (@PySem.Value.int (120 : Int) 221)], topFrame (@PySem.Pos.mk 0 0 0 0)])) := byRow2 "special-get-raises" (P := fun w => ∀ os, h_G2x48_q w os) h_G2x48_f h_G2x48_t w os
noncomputable def hG2x64_39 (P : Params) : Obj := (@PySem.Obj.mk (@PySem.Value.ref 31) (@Option.some @Nat 38) (@PySem.Data.dict (@List.toArray @PySem.DictEntry [(@PySem.DictEntry.mk (0 : Int) (@PySem.Value.int (0 : Int) 222) (@PySem.Value.int (120 : Int) 221)), (@PySem.DictEntry.mk (1 : Int) (@PySem.Value.int (1 : Int) 224) (@PySem.Value.int (120 : Int) 221)), (@PySem.DictEntry.mk (2 : Int) (@PySem.Value.int (2 : Int) 226) (@PySem.Value.int (120 : Int) 221)), (@PySem.DictEntry.mk (3 : Int) (@PySem.Value.int (3 : Int) 228) (@PySem.Value.int (120 : Int) 221)), (@PySem.DictEntry.mk (4 : Int) (@PySem.Value.int (4 : Int) 230) (@PySem.Value.int (120 : Int) 221)), (@PySem.DictEntry.mk (5 : Int) (@PySem.Value.int (5 : Int) 232) (@PySem.Value.int (120 : Int) 221)), (@PySem.DictEntry.mk (6 : Int) (@PySem.Value.int (6 : Int) 234) (@PySem.Value.int (120 : Int) 221)), (@PySem.DictEntry.mk (7 : Int) (@PySem.Value.int (7 : Int) 236) (@PySem.Value.int (120 : Int) 221)), (@PySem.DictEntry.mk (8 : Int) (@PySem.Value.int (8 : Int) 238) (@PySem.Value.int (120 : Int) 221)), (@PySem.DictEntry.mk (9 : Int) (@PySem.Value.int (9 : Int) 240) (@PySem.Value.int (120 : Int) 221)), (@PySem.DictEntry.mk (10 : Int) (@PySem.Value.int (10 : Int) 242) (@PySem.Value.int (120 : Int) 221)), (@PySem.DictEntry.mk (11 : Int) (@PySem.Value.int (11 : Int) 244) (@PySem.Value.int (120 : Int) 221)), (@PySem.DictEntry.mk (12 : Int) (@PySem.Value.int (12 : Int) 246) (@PySem.Value.int (120 : Int) 221)), (@PySem.DictEntry.mk (13 : Int) (@PySem.Value.int (13 : Int) 248) (@PySem.Value.int (120 : Int) 221)), (@PySem.DictEntry.mk (14 : Int) (@PySem.Value.int (14 : Int) 250) (@PySem.Value.int (120 : Int) 221)), (@PySem.DictEntry.mk (15 : Int) (@PySem.Value.int (15 : Int) 252) (@PySem.Value.int (120 : Int) 221)), (@PySem.DictEntry.mk (16 : Int) (@PySem.Value.int (16 : Int) 254) (@PySem.Value.int (120 : Int) 221)), (@PySem.DictEntry.mk (17 : Int) (@PySem.Value.int (17 : Int) 256) (@PySem.Value.int (120 : Int) 221)), (@PySem.DictEntry.mk (18 : Int) (@PySem.Value.int (18 : Int) 258) (@PySem.Value.int (120 : Int) 221)), (@PySem.DictEntry.mk (19 : Int) (@PySem.Value.int (19 : Int) 260) (@PySem.Value.int (120 : Int) 221)), (@PySem.DictEntry.mk (20 : Int) (@PySem.Value.int (20 : Int) 262) (@PySem.Value.int (120 : Int) 221)), (@PySem.DictEntry.mk (21 : Int) (@PySem.Value.int (21 : Int) 264) (@PySem.Value.int (120 : Int) 221)), (@PySem.DictEntry.mk (22 : Int) (@PySem.Value.int (22 : Int) 266) (@PySem.Value.int (120 : Int) 221)), (@PySem.DictEntry.mk (23 : Int) (@PySem.Value.int (23 : Int) 268) (@PySem.Value.int (120 : Int) 221)), (@PySem.DictEntry.mk (24 : Int) (@PySem.Value.int (24 : Int) 270) (@PySem.Value.int (120 : Int) 221)), (@PySem.DictEntry.mk (25 : Int) (@PySem.Value.int (25 : Int) 272) (@PySem.Value.int (120 : Int) 221)), (@PySem.DictEntry.mk (26 : Int) (@PySem.Value.int (26 : Int) 274) (@PySem.Value.int (120 : Int) 221)), (@PySem.DictEntry.mk (27 : Int) (@PySem.Value.int (27 : Int) 276) (@PySem.Value.int (120 : Int) 221)), (@PySem.DictEntry.mk (28 : Int) (@PySem.Value.int (28 : Int) 278) (@PySem.Value.int (120 : Int) 221)), (@PySem.DictEntry.mk (29 : Int) (@PySem.Value.int (29 : Int) 280) (@PySem.Value.int (120 : Int) 221)), (@PySem.DictEntry.mk (30 : Int) (@PySem.Value.int (30 : Int) 282) (@PySem.Value.int (120 : Int) 221)), (@PySem.DictEntry.mk (31 : Int) (@PySem.Value.int (31 : Int) 284) (@PySem.Value.int (120 : Int) 221)), (@PySem.DictEntry.mk (32 : Int) (@PySem.Value.int (32 : Int) 286) (@PySem.Value.int (120 : Int) 221)), (@PySem.DictEntry.mk (33 : Int) (@PySem.Value.int (33 : Int) 288) (@PySem.Value.int (120 : Int) 221)), (@PySem.DictEntry.mk (34 : Int) (@PySem.Value.int (34 : Int) 290) (@PySem.Value.int (120 : Int) 221)), (@PySem.DictEntry.mk (35 : Int) (@PySem.Value.int (35 : Int) 292) (@PySem.Value.int (120 : Int) 221)), (@PySem.DictEntry.mk (36 : Int) (@PySem.Value.int (36 : Int) 294) (@PySem.Value.int (120 : Int) 221)), (@PySem.DictEntry.mk (37 : Int) (@PySem.Value.int (37 : Int) 296) (@PySem.Value.int (120 : Int) 221)), (@PySem.DictEntry.mk (38 : Int) (@PySem.Value.int (38 : Int) 298) (@PySem.Value.int (120 : Int) 221)), (@PySem.DictEntry.mk (39 : Int) (@PySem.Value.int (39 : Int) 300) (@PySem.Value.int (120 : Int) 221)), (@PySem.DictEntry.mk (40 : Int) (@PySem.Value.int (40 : Int) 302) (@PySem.Value.int (120 : Int) 221)), (@PySem.DictEntry.mk (41 : Int) (@PySem.Value.int (41 : Int) 304) (@PySem.Value.int (120 : Int) 221)), (@PySem.DictEntry.mk (42 : Int) (@PySem.Value.int (42 : Int) 306) (@PySem.Value.int (120 : Int) 221)), (@PySem.DictEntry.mk (43 : Int) (@PySem.Value.int (43 : Int) 308) (@PySem.Value.int (120 : Int) 221)), (@PySem.DictEntry.mk (44 : Int) (@PySem.Value.int (44 : Int) 310) (@PySem.Value.int (120 : Int) 221)), (@PySem.DictEntry.mk (45 : Int) (@PySem.Value.int (45 : Int) 312) (@PySem.Value.int (120 : Int) 221)), (@PySem.DictEntry.mk (46 : Int) (@PySem.Value.int (46 : Int) 314) (@PySem.Value.int (120 : Int) 221)), (@PySem.DictEntry.mk (47 : Int) (@PySem.Value.int (47 : Int) 316) (@PySem.Value.int (120 : Int) 221)), (@PySem.DictEntry.mk (48 : Int) (@PySem.Value.int (48 : Int) 318) (@PySem.Value.int (120 : Int) 221)), (@PySem.DictEntry.mk (49 : Int) (@PySem.Value.int (49 : Int) 320) (@PySem.Value.int (120 : Int) 221)), (@PySem.DictEntry.mk (50 : Int) (@PySem.Value.int (50 : Int) 322) (@PySem.Value.int (120 : Int) 221)), (@PySem.DictEntry.mk (51 : Int) (@PySem.Value.int (51 : Int) 324) (@PySem.Value.int (120 : Int) 221)), (@PySem.DictEntry.mk (52 : Int) (@PySem.Value.int (52 : Int) 326) (@PySem.Value.int (120 : Int) 221)), (@PySem.DictEntry.mk (53 : Int) (@PySem.Value.int (53 : Int) 328) (@PySem.Value.int (120 : Int) 221)), (@PySem.DictEntry.mk (54 : Int) (@PySem.Value.int (54 : Int) 330) (@PySem.Value.int (120 : Int) 221)), (@PySem.DictEntry.mk (55 : Int) (@PySem.Value.int (55 : Int) 332) (@PySem.Value.int (120 : Int) 221)), (@PySem.DictEntry.mk (56 : Int) (@PySem.Value.int (56 : Int) 334) (@PySem.Value.int (120 : Int) 221)), (@PySem.DictEntry.mk (57 : Int) (@PySem.Value.int (57 : Int) 336) (@PySem.Value.int (120 : Int) 221)), (@PySem.DictEntry.mk (58 : Int) (@PySem.Value.int (58 : Int) 338) (@PySem.Value.int (120 : Int) 221)), (@PySem.DictEntry.mk (59 : Int) (@PySem.Value.int (59 : Int) 340) (@PySem.Value.int (120 : Int) 221)), (@PySem.DictEntry.mk (60 : Int) (@PySem.Value.int (60 : Int) 342) (@PySem.Value.int (120 : Int) 221)), (@PySem.DictEntry.mk (61 : Int) (@PySem.Value.int (61 : Int) 344) (@PySem.Value.int (120 : Int) 221)), (@PySem.DictEntry.mk (62 : Int) (@PySem.Value.int (62 : Int) 346) (@PySem.Value.int (120 : Int) 221)), (@PySem.DictEntry.mk (63 : Int) (@PySem.Value.int (63 : Int) 348) (@PySem.Value.int (120 : Int) 221))]) 64) (@List.toArray (@Option @PySem.Value) []))
noncomputable def hG2x64_40 (P : Params) : Obj := (@PySem.Obj.mk (@PySem.Value.type "range_iterator") (@Option.none @Nat) (@PySem.Data.fields (@List.toArray @PySem.Value [(@PySem.Value.int (64 : Int) 0), (@PySem.Value.int (64 : Int) 0), (@PySem.Value.int (1 : Int) 0)])) (@List.toArray (@Option @PySem.Value) []))
noncomputable def treeG2x64 (P : Params) : BT := (BT.node (boot_o_0 P) (BT.node (boot_o_1 P) (BT.node (hG0_3 P) (BT.node (boot_o_7 P) (BT.node (hG0_15 P) (BT.node (hG0_31 P) BT.nil BT.nil) BT.nil) (BT.node (hG0_23 P) (BT.node (hG2x64_39 P) BT.nil BT.nil) BT.nil)) (BT.node (hp_11 P) (BT.node (hG0_19 P) (BT.node (hG0_35 P) BT.nil BT.nil) BT.nil) (BT.node (hG0_27 P) BT.nil BT.nil))) (BT.node (boot_o_5 P) (BT.node (boot_o_9 P) (BT.node (hG0_17 P) (BT.node (hG0_33 P) BT.nil BT.nil) BT.nil) (BT.node (hG0_25 P) BT.nil BT.nil)) (BT.node (hp_13 P) (BT.node (hG0_21 P) (BT.node (hG2x0_37 P) BT.nil BT.nil) BT.nil) (BT.node (hG0_29 P) BT.nil BT.nil)))) (BT.node (boot_o_2 P) (BT.node (boot_o_4 P) (BT.node (boot_o_8 P) (BT.node (hG0_16 P) (BT.node (hG0_32 P) BT.nil BT.nil) BT.nil) (BT.node (hG0_24 P) (BT.node (hG2x64_40 P) BT.nil BT.nil) BT.nil)) (BT.node (hG0_12 P) (BT.node (hG0_20 P) (BT.node (hG2x0_36 P) BT.nil BT.nil) BT.nil) (BT.node (hG0_28 P) BT.nil BT.nil))) (BT.node (boot_o_6 P) (BT.node (boot_o_10 P) (BT.node (hG0_18 P) (BT.node (hG0_34 P) BT.nil BT.nil) BT.nil) (BT.node (hG0_26 P) BT.nil BT.nil)) (BT.node (hp_14 P) (BT.node (hG0_22 P) (BT.node (hG2x0_38 P) BT.nil BT.nil) BT.nil) (BT.node (hG0_30 P) BT.nil BT.nil)))))
noncomputable def h_G2x64_q (w : World) (os : OsState) : Prop := ∀ k : Result → Sem Fin, segGoT treeTable p9 w 11 ann9 1 640 (SharedT.mk (treeG2x48 w.params) 41 (@PySem.Life.mk [] [] [] 0 [] [] @Bool.false (@List.toArray @Nat []) [] 0 @Bool.false @Bool.false @Bool.false (0 : Int) [(2000 : Int), (10 : Int), (10 : Int)] @Bool.false 0 @Bool.true [] [] 0 @Bool.false) (Array.mk []) (@PySem.Drawn.mk 0 0 0 0) 318 os) (Thread.mk (denote treeTable (Code.builtin "dict.fromkeys.loop" (Args.mk [(@PySem.Value.ref 39), (@PySem.Value.ref 40), (@PySem.Value.int (120 : Int) 221)] []))) (Code.builtin "dict.fromkeys.loop" (Args.mk [(@PySem.Value.ref 39), (@PySem.Value.ref 40), (@PySem.Value.int (120 : Int) 221)] [])) (@PySem.Pos.mk 6 8 6 42) [Frame.ret k none false [] c9 (@PySem.Pos.mk 6 8 6 42) [(@PySem.Value.ref 36), (@PySem.Value.ref 37), (@PySem.Value.int (120 : Int) 221)], topFrame (@PySem.Pos.mk 0 0 0 0)]) = some ((SharedT.mk (treeG2x64 w.params) 41 (@PySem.Life.mk [] [] [] 0 [] [] @Bool.false (@List.toArray @Nat []) [] 0 @Bool.false @Bool.false @Bool.false (0 : Int) [(2000 : Int), (10 : Int), (10 : Int)] @Bool.false 0 @Bool.true [] [] 0 @Bool.false) (Array.mk []) (@PySem.Drawn.mk 0 0 0 0) 350 os), (Thread.mk (denote treeTable (Code.builtin "dict.fromkeys.loop" (Args.mk [(@PySem.Value.ref 39), (@PySem.Value.ref 40), (@PySem.Value.int (120 : Int) 221)] []))) (Code.builtin "dict.fromkeys.loop" (Args.mk [(@PySem.Value.ref 39), (@PySem.Value.ref 40), (@PySem.Value.int (120 : Int) 221)] [])) (@PySem.Pos.mk 6 8 6 42) [Frame.ret k none false [] c9 (@PySem.Pos.mk 6 8 6 42) [(@PySem.Value.ref 36), (@PySem.Value.ref 37), (@PySem.Value.int (120 : Int) 221)], topFrame (@PySem.Pos.mk 0 0 0 0)]))
theorem h_G2x64_f (w : World) (os : OsState) : h_G2x64_q (w.withFollow "special-get-raises" false) os := by
  unfold h_G2x64_q
  intro k
  (rw [show @PySem.W.segGoT = _ from PySem.W.Fast.te10295753902157049106, show @PySem.denote = _ from PySem.W.Fast.te11892475500146522536, show treeTable = _ from PySem.W.Fast.te14364793385576792824]; kernel_rfl)
theorem h_G2x64_t (w : World) (os : OsState) : h_G2x64_q (w.withFollow "special-get-raises" true) os := by
  unfold h_G2x64_q
  intro k
  (rw [show @PySem.W.segGoT = _ from PySem.W.Fast.te10295753902157049106, show @PySem.denote = _ from PySem.W.Fast.te11892475500146522536, show treeTable = _ from PySem.W.Fast.te14364793385576792824]; kernel_rfl)
theorem h_G2x64 (w : World) (os : OsState) : ∀ k : Result → Sem Fin, segGoT treeTable p9 w 11 ann9 1 640 (SharedT.mk (treeG2x48 w.params) 41 (@PySem.Life.mk [] [] [] 0 [] [] @Bool.false (@List.toArray @Nat []) [] 0 @Bool.false @Bool.false @Bool.false (0 : Int) [(2000 : Int), (10 : Int), (10 : Int)] @Bool.false 0 @Bool.true [] [] 0 @Bool.false) (Array.mk []) (@PySem.Drawn.mk 0 0 0 0) 318 os) (Thread.mk (denote treeTable (Code.builtin "dict.fromkeys.loop" (Args.mk [(@PySem.Value.ref 39), (@PySem.Value.ref 40), (@PySem.Value.int (120 : Int) 221)] []))) (Code.builtin "dict.fromkeys.loop" (Args.mk [(@PySem.Value.ref 39), (@PySem.Value.ref 40), (@PySem.Value.int (120 : Int) 221)] [])) (@PySem.Pos.mk 6 8 6 42) [Frame.ret k none false [] c9 (@PySem.Pos.mk 6 8 6 42) [(@PySem.Value.ref 36), (@PySem.Value.ref 37), (@PySem.Value.int (120 : Int) 221)], topFrame (@PySem.Pos.mk 0 0 0 0)]) = some ((SharedT.mk (treeG2x64 w.params) 41 (@PySem.Life.mk [] [] [] 0 [] [] @Bool.false (@List.toArray @Nat []) [] 0 @Bool.false @Bool.false @Bool.false (0 : Int) [(2000 : Int), (10 : Int), (10 : Int)] @Bool.false 0 @Bool.true [] [] 0 @Bool.false) (Array.mk []) (@PySem.Drawn.mk 0 0 0 0) 350 os), (Thread.mk (denote treeTable (Code.builtin "dict.fromkeys.loop" (Args.mk [(@PySem.Value.ref 39), (@PySem.Value.ref 40), (@PySem.Value.int (120 : Int) 221)] []))) (Code.builtin "dict.fromkeys.loop" (Args.mk [(@PySem.Value.ref 39), (@PySem.Value.ref 40), (@PySem.Value.int (120 : Int) 221)] [])) (@PySem.Pos.mk 6 8 6 42) [Frame.ret k none false [] c9 (@PySem.Pos.mk 6 8 6 42) [(@PySem.Value.ref 36), (@PySem.Value.ref 37), (@PySem.Value.int (120 : Int) 221)], topFrame (@PySem.Pos.mk 0 0 0 0)])) := byRow2 "special-get-raises" (P := fun w => ∀ os, h_G2x64_q w os) h_G2x64_f h_G2x64_t w os
noncomputable def hG2x80_39 (P : Params) : Obj := (@PySem.Obj.mk (@PySem.Value.ref 31) (@Option.some @Nat 38) (@PySem.Data.dict (@List.toArray @PySem.DictEntry [(@PySem.DictEntry.mk (0 : Int) (@PySem.Value.int (0 : Int) 222) (@PySem.Value.int (120 : Int) 221)), (@PySem.DictEntry.mk (1 : Int) (@PySem.Value.int (1 : Int) 224) (@PySem.Value.int (120 : Int) 221)), (@PySem.DictEntry.mk (2 : Int) (@PySem.Value.int (2 : Int) 226) (@PySem.Value.int (120 : Int) 221)), (@PySem.DictEntry.mk (3 : Int) (@PySem.Value.int (3 : Int) 228) (@PySem.Value.int (120 : Int) 221)), (@PySem.DictEntry.mk (4 : Int) (@PySem.Value.int (4 : Int) 230) (@PySem.Value.int (120 : Int) 221)), (@PySem.DictEntry.mk (5 : Int) (@PySem.Value.int (5 : Int) 232) (@PySem.Value.int (120 : Int) 221)), (@PySem.DictEntry.mk (6 : Int) (@PySem.Value.int (6 : Int) 234) (@PySem.Value.int (120 : Int) 221)), (@PySem.DictEntry.mk (7 : Int) (@PySem.Value.int (7 : Int) 236) (@PySem.Value.int (120 : Int) 221)), (@PySem.DictEntry.mk (8 : Int) (@PySem.Value.int (8 : Int) 238) (@PySem.Value.int (120 : Int) 221)), (@PySem.DictEntry.mk (9 : Int) (@PySem.Value.int (9 : Int) 240) (@PySem.Value.int (120 : Int) 221)), (@PySem.DictEntry.mk (10 : Int) (@PySem.Value.int (10 : Int) 242) (@PySem.Value.int (120 : Int) 221)), (@PySem.DictEntry.mk (11 : Int) (@PySem.Value.int (11 : Int) 244) (@PySem.Value.int (120 : Int) 221)), (@PySem.DictEntry.mk (12 : Int) (@PySem.Value.int (12 : Int) 246) (@PySem.Value.int (120 : Int) 221)), (@PySem.DictEntry.mk (13 : Int) (@PySem.Value.int (13 : Int) 248) (@PySem.Value.int (120 : Int) 221)), (@PySem.DictEntry.mk (14 : Int) (@PySem.Value.int (14 : Int) 250) (@PySem.Value.int (120 : Int) 221)), (@PySem.DictEntry.mk (15 : Int) (@PySem.Value.int (15 : Int) 252) (@PySem.Value.int (120 : Int) 221)), (@PySem.DictEntry.mk (16 : Int) (@PySem.Value.int (16 : Int) 254) (@PySem.Value.int (120 : Int) 221)), (@PySem.DictEntry.mk (17 : Int) (@PySem.Value.int (17 : Int) 256) (@PySem.Value.int (120 : Int) 221)), (@PySem.DictEntry.mk (18 : Int) (@PySem.Value.int (18 : Int) 258) (@PySem.Value.int (120 : Int) 221)), (@PySem.DictEntry.mk (19 : Int) (@PySem.Value.int (19 : Int) 260) (@PySem.Value.int (120 : Int) 221)), (@PySem.DictEntry.mk (20 : Int) (@PySem.Value.int (20 : Int) 262) (@PySem.Value.int (120 : Int) 221)), (@PySem.DictEntry.mk (21 : Int) (@PySem.Value.int (21 : Int) 264) (@PySem.Value.int (120 : Int) 221)), (@PySem.DictEntry.mk (22 : Int) (@PySem.Value.int (22 : Int) 266) (@PySem.Value.int (120 : Int) 221)), (@PySem.DictEntry.mk (23 : Int) (@PySem.Value.int (23 : Int) 268) (@PySem.Value.int (120 : Int) 221)), (@PySem.DictEntry.mk (24 : Int) (@PySem.Value.int (24 : Int) 270) (@PySem.Value.int (120 : Int) 221)), (@PySem.DictEntry.mk (25 : Int) (@PySem.Value.int (25 : Int) 272) (@PySem.Value.int (120 : Int) 221)), (@PySem.DictEntry.mk (26 : Int) (@PySem.Value.int (26 : Int) 274) (@PySem.Value.int (120 : Int) 221)), (@PySem.DictEntry.mk (27 : Int) (@PySem.Value.int (27 : Int) 276) (@PySem.Value.int (120 : Int) 221)), (@PySem.DictEntry.mk (28 : Int) (@PySem.Value.int (28 : Int) 278) (@PySem.Value.int (120 : Int) 221)), (@PySem.DictEntry.mk (29 : Int) (@PySem.Value.int (29 : Int) 280) (@PySem.Value.int (120 : Int) 221)), (@PySem.DictEntry.mk (30 : Int) (@PySem.Value.int (30 : Int) 282) (@PySem.Value.int (120 : Int) 221)), (@PySem.DictEntry.mk (31 : Int) (@PySem.Value.int (31 : Int) 284) (@PySem.Value.int (120 : Int) 221)), (@PySem.DictEntry.mk (32 : Int) (@PySem.Value.int (32 : Int) 286) (@PySem.Value.int (120 : Int) 221)), (@PySem.DictEntry.mk (33 : Int) (@PySem.Value.int (33 : Int) 288) (@PySem.Value.int (120 : Int) 221)), (@PySem.DictEntry.mk (34 : Int) (@PySem.Value.int (34 : Int) 290) (@PySem.Value.int (120 : Int) 221)), (@PySem.DictEntry.mk (35 : Int) (@PySem.Value.int (35 : Int) 292) (@PySem.Value.int (120 : Int) 221)), (@PySem.DictEntry.mk (36 : Int) (@PySem.Value.int (36 : Int) 294) (@PySem.Value.int (120 : Int) 221)), (@PySem.DictEntry.mk (37 : Int) (@PySem.Value.int (37 : Int) 296) (@PySem.Value.int (120 : Int) 221)), (@PySem.DictEntry.mk (38 : Int) (@PySem.Value.int (38 : Int) 298) (@PySem.Value.int (120 : Int) 221)), (@PySem.DictEntry.mk (39 : Int) (@PySem.Value.int (39 : Int) 300) (@PySem.Value.int (120 : Int) 221)), (@PySem.DictEntry.mk (40 : Int) (@PySem.Value.int (40 : Int) 302) (@PySem.Value.int (120 : Int) 221)), (@PySem.DictEntry.mk (41 : Int) (@PySem.Value.int (41 : Int) 304) (@PySem.Value.int (120 : Int) 221)), (@PySem.DictEntry.mk (42 : Int) (@PySem.Value.int (42 : Int) 306) (@PySem.Value.int (120 : Int) 221)), (@PySem.DictEntry.mk (43 : Int) (@PySem.Value.int (43 : Int) 308) (@PySem.Value.int (120 : Int) 221)), (@PySem.DictEntry.mk (44 : Int) (@PySem.Value.int (44 : Int) 310) (@PySem.Value.int (120 : Int) 221)), (@PySem.DictEntry.mk (45 : Int) (@PySem.Value.int (45 : Int) 312) (@PySem.Value.int (120 : Int) 221)), (@PySem.DictEntry.mk (46 : Int) (@PySem.Value.int (46 : Int) 314) (@PySem.Value.int (120 : Int) 221)), (@PySem.DictEntry.mk (47 : Int) (@PySem.Value.int (47 : Int) 316) (@PySem.Value.int (120 : Int) 221)), (@PySem.DictEntry.mk (48 : Int) (@PySem.Value.int (48 : Int) 318) (@PySem.Value.int (120 : Int) 221)), (@PySem.DictEntry.mk (49 : Int) (@PySem.Value.int (49 : Int) 320) (@PySem.Value.int (120 : Int) 221)), (@PySem.DictEntry.mk (50 : Int) (@PySem.Value.int (50 : Int) 322) (@PySem.Value.int (120 : Int) 221)), (@PySem.DictEntry.mk (51 : Int) (@PySem.Value.int (51 : Int) 324) (@PySem.Value.int (120 : Int) 221)), (@PySem.DictEntry.mk (52 : Int) (@PySem.Value.int (52 : Int) 326) (@PySem.Value.int (120 : Int) 221)), (@PySem.DictEntry.mk (53 : Int) (@PySem.Value.int (53 : Int) 328) (@PySem.Value.int (120 : Int) 221)), (@PySem.DictEntry.mk (54 : Int) (@PySem.Value.int (54 : Int) 330) (@PySem.Value.int (120 : Int) 221)), (@PySem.DictEntry.mk (55 : Int) (@PySem.Value.int (55 : Int) 332) (@PySem.Value.int (120 : Int) 221)), (@PySem.DictEntry.mk (56 : Int) (@PySem.Value.int (56 : Int) 334) (@PySem.Value.int (120 : Int) 221)), (@PySem.DictEntry.mk (57 : Int) (@PySem.Value.int (57 : Int) 336) (@PySem.Value.int (120 : Int) 221)), (@PySem.DictEntry.mk (58 : Int) (@PySem.Value.int (58 : Int) 338) (@PySem.Value.int (120 : Int) 221)), (@PySem.DictEntry.mk (59 : Int) (@PySem.Value.int (59 : Int) 340) (@PySem.Value.int (120 : Int) 221)), (@PySem.DictEntry.mk (60 : Int) (@PySem.Value.int (60 : Int) 342) (@PySem.Value.int (120 : Int) 221)), (@PySem.DictEntry.mk (61 : Int) (@PySem.Value.int (61 : Int) 344) (@PySem.Value.int (120 : Int) 221)), (@PySem.DictEntry.mk (62 : Int) (@PySem.Value.int (62 : Int) 346) (@PySem.Value.int (120 : Int) 221)), (@PySem.DictEntry.mk (63 : Int) (@PySem.Value.int (63 : Int) 348) (@PySem.Value.int (120 : Int) 221)), (@PySem.DictEntry.mk (64 : Int) (@PySem.Value.int (64 : Int) 350) (@PySem.Value.int (120 : Int) 221)), (@PySem.DictEntry.mk (65 : Int) (@PySem.Value.int (65 : Int) 352) (@PySem.Value.int (120 : Int) 221)), (@PySem.DictEntry.mk (66 : Int) (@PySem.Value.int (66 : Int) 354) (@PySem.Value.int (120 : Int) 221)), (@PySem.DictEntry.mk (67 : Int) (@PySem.Value.int (67 : Int) 356) (@PySem.Value.int (120 : Int) 221)), (@PySem.DictEntry.mk (68 : Int) (@PySem.Value.int (68 : Int) 358) (@PySem.Value.int (120 : Int) 221)), (@PySem.DictEntry.mk (69 : Int) (@PySem.Value.int (69 : Int) 360) (@PySem.Value.int (120 : Int) 221)), (@PySem.DictEntry.mk (70 : Int) (@PySem.Value.int (70 : Int) 362) (@PySem.Value.int (120 : Int) 221)), (@PySem.DictEntry.mk (71 : Int) (@PySem.Value.int (71 : Int) 364) (@PySem.Value.int (120 : Int) 221)), (@PySem.DictEntry.mk (72 : Int) (@PySem.Value.int (72 : Int) 366) (@PySem.Value.int (120 : Int) 221)), (@PySem.DictEntry.mk (73 : Int) (@PySem.Value.int (73 : Int) 368) (@PySem.Value.int (120 : Int) 221)), (@PySem.DictEntry.mk (74 : Int) (@PySem.Value.int (74 : Int) 370) (@PySem.Value.int (120 : Int) 221)), (@PySem.DictEntry.mk (75 : Int) (@PySem.Value.int (75 : Int) 372) (@PySem.Value.int (120 : Int) 221)), (@PySem.DictEntry.mk (76 : Int) (@PySem.Value.int (76 : Int) 374) (@PySem.Value.int (120 : Int) 221)), (@PySem.DictEntry.mk (77 : Int) (@PySem.Value.int (77 : Int) 376) (@PySem.Value.int (120 : Int) 221)), (@PySem.DictEntry.mk (78 : Int) (@PySem.Value.int (78 : Int) 378) (@PySem.Value.int (120 : Int) 221)), (@PySem.DictEntry.mk (79 : Int) (@PySem.Value.int (79 : Int) 380) (@PySem.Value.int (120 : Int) 221))]) 80) (@List.toArray (@Option @PySem.Value) []))
noncomputable def hG2x80_40 (P : Params) : Obj := (@PySem.Obj.mk (@PySem.Value.type "range_iterator") (@Option.none @Nat) (@PySem.Data.fields (@List.toArray @PySem.Value [(@PySem.Value.int (80 : Int) 0), (@PySem.Value.int (48 : Int) 0), (@PySem.Value.int (1 : Int) 0)])) (@List.toArray (@Option @PySem.Value) []))
noncomputable def treeG2x80 (P : Params) : BT := (BT.node (boot_o_0 P) (BT.node (boot_o_1 P) (BT.node (hG0_3 P) (BT.node (boot_o_7 P) (BT.node (hG0_15 P) (BT.node (hG0_31 P) BT.nil BT.nil) BT.nil) (BT.node (hG0_23 P) (BT.node (hG2x80_39 P) BT.nil BT.nil) BT.nil)) (BT.node (hp_11 P) (BT.node (hG0_19 P) (BT.node (hG0_35 P) BT.nil BT.nil) BT.nil) (BT.node (hG0_27 P) BT.nil BT.nil))) (BT.node (boot_o_5 P) (BT.node (boot_o_9 P) (BT.node (hG0_17 P) (BT.node (hG0_33 P) BT.nil BT.nil) BT.nil) (BT.node (hG0_25 P) BT.nil BT.nil)) (BT.node (hp_13 P) (BT.node (hG0_21 P) (BT.node (hG2x0_37 P) BT.nil BT.nil) BT.nil) (BT.node (hG0_29 P) BT.nil BT.nil)))) (BT.node (boot_o_2 P) (BT.node (boot_o_4 P) (BT.node (boot_o_8 P) (BT.node (hG0_16 P) (BT.node (hG0_32 P) BT.nil BT.nil) BT.nil) (BT.node (hG0_24 P) (BT.node (hG2x80_40 P) BT.nil BT.nil) BT.nil)) (BT.node (hG0_12 P) (BT.node (hG0_20 P) (BT.node (hG2x0_36 P) BT.nil BT.nil) BT.nil) (BT.node (hG0_28 P) BT.nil BT.nil))) (BT.node (boot_o_6 P) (BT.node (boot_o_10 P) (BT.node (hG0_18 P) (BT.node (hG0_34 P) BT.nil BT.nil) BT.nil) (BT.node (hG0_26 P) BT.nil BT.nil)) (BT.node (hp_14 P) (BT.node (hG0_22 P) (BT.node (hG2x0_38 P) BT.nil BT.nil) BT.nil) (BT.node (hG0_30 P) BT.nil BT.nil)))))
noncomputable def h_G2x80_q (w : World) (os : OsState) : Prop := ∀ k : Result → Sem Fin, segGoT treeTable p9 w 11 ann9 1 640 (SharedT.mk (treeG2x64 w.params) 41 (@PySem.Life.mk [] [] [] 0 [] [] @Bool.false (@List.toArray @Nat []) [] 0 @Bool.false @Bool.false @Bool.false (0 : Int) [(2000 : Int), (10 : Int), (10 : Int)] @Bool.false 0 @Bool.true [] [] 0 @Bool.false) (Array.mk []) (@PySem.Drawn.mk 0 0 0 0) 350 os) (Thread.mk (denote treeTable (Code.builtin "dict.fromkeys.loop" (Args.mk [(@PySem.Value.ref 39), (@PySem.Value.ref 40), (@PySem.Value.int (120 : Int) 221)] []))) (Code.builtin "dict.fromkeys.loop" (Args.mk [(@PySem.Value.ref 39), (@PySem.Value.ref 40), (@PySem.Value.int (120 : Int) 221)] [])) (@PySem.Pos.mk 6 8 6 42) [Frame.ret k none false [] c9 (@PySem.Pos.mk 6 8 6 42) [(@PySem.Value.ref 36), (@PySem.Value.ref 37), (@PySem.Value.int (120 : Int) 221)], topFrame (@PySem.Pos.mk 0 0 0 0)]) = some ((SharedT.mk (treeG2x80 w.params) 41 (@PySem.Life.mk [] [] [] 0 [] [] @Bool.false (@List.toArray @Nat []) [] 0 @Bool.false @Bool.false @Bool.false (0 : Int) [(2000 : Int), (10 : Int), (10 : Int)] @Bool.false 0 @Bool.true [] [] 0 @Bool.false) (Array.mk []) (@PySem.Drawn.mk 0 0 0 0) 382 os), (Thread.mk (denote treeTable (Code.builtin "dict.fromkeys.loop" (Args.mk [(@PySem.Value.ref 39), (@PySem.Value.ref 40), (@PySem.Value.int (120 : Int) 221)] []))) (Code.builtin "dict.fromkeys.loop" (Args.mk [(@PySem.Value.ref 39), (@PySem.Value.ref 40), (@PySem.Value.int (120 : Int) 221)] [])) (@PySem.Pos.mk 6 8 6 42) [Frame.ret k none false [] c9 (@PySem.Pos.mk 6 8 6 42) [(@PySem.Value.ref 36), (@PySem.Value.ref 37), (@PySem.Value.int (120 : Int) 221)], topFrame (@PySem.Pos.mk 0 0 0 0)]))
theorem h_G2x80_f (w : World) (os : OsState) : h_G2x80_q (w.withFollow "special-get-raises" false) os := by
  unfold h_G2x80_q
  intro k
  (rw [show @PySem.W.segGoT = _ from PySem.W.Fast.te10295753902157049106, show @PySem.denote = _ from PySem.W.Fast.te11892475500146522536, show treeTable = _ from PySem.W.Fast.te14364793385576792824]; kernel_rfl)
theorem h_G2x80_t (w : World) (os : OsState) : h_G2x80_q (w.withFollow "special-get-raises" true) os := by
  unfold h_G2x80_q
  intro k
  (rw [show @PySem.W.segGoT = _ from PySem.W.Fast.te10295753902157049106, show @PySem.denote = _ from PySem.W.Fast.te11892475500146522536, show treeTable = _ from PySem.W.Fast.te14364793385576792824]; kernel_rfl)
theorem h_G2x80 (w : World) (os : OsState) : ∀ k : Result → Sem Fin, segGoT treeTable p9 w 11 ann9 1 640 (SharedT.mk (treeG2x64 w.params) 41 (@PySem.Life.mk [] [] [] 0 [] [] @Bool.false (@List.toArray @Nat []) [] 0 @Bool.false @Bool.false @Bool.false (0 : Int) [(2000 : Int), (10 : Int), (10 : Int)] @Bool.false 0 @Bool.true [] [] 0 @Bool.false) (Array.mk []) (@PySem.Drawn.mk 0 0 0 0) 350 os) (Thread.mk (denote treeTable (Code.builtin "dict.fromkeys.loop" (Args.mk [(@PySem.Value.ref 39), (@PySem.Value.ref 40), (@PySem.Value.int (120 : Int) 221)] []))) (Code.builtin "dict.fromkeys.loop" (Args.mk [(@PySem.Value.ref 39), (@PySem.Value.ref 40), (@PySem.Value.int (120 : Int) 221)] [])) (@PySem.Pos.mk 6 8 6 42) [Frame.ret k none false [] c9 (@PySem.Pos.mk 6 8 6 42) [(@PySem.Value.ref 36), (@PySem.Value.ref 37), (@PySem.Value.int (120 : Int) 221)], topFrame (@PySem.Pos.mk 0 0 0 0)]) = some ((SharedT.mk (treeG2x80 w.params) 41 (@PySem.Life.mk [] [] [] 0 [] [] @Bool.false (@List.toArray @Nat []) [] 0 @Bool.false @Bool.false @Bool.false (0 : Int) [(2000 : Int), (10 : Int), (10 : Int)] @Bool.false 0 @Bool.true [] [] 0 @Bool.false) (Array.mk []) (@PySem.Drawn.mk 0 0 0 0) 382 os), (Thread.mk (denote treeTable (Code.builtin "dict.fromkeys.loop" (Args.mk [(@PySem.Value.ref 39), (@PySem.Value.ref 40), (@PySem.Value.int (120 : Int) 221)] []))) (Code.builtin "dict.fromkeys.loop" (Args.mk [(@PySem.Value.ref 39), (@PySem.Value.ref 40), (@PySem.Value.int (120 : Int) 221)] [])) (@PySem.Pos.mk 6 8 6 42) [Frame.ret k none false [] c9 (@PySem.Pos.mk 6 8 6 42) [(@PySem.Value.ref 36), (@PySem.Value.ref 37), (@PySem.Value.int (120 : Int) 221)], topFrame (@PySem.Pos.mk 0 0 0 0)])) := byRow2 "special-get-raises" (P := fun w => ∀ os, h_G2x80_q w os) h_G2x80_f h_G2x80_t w os
noncomputable def hG2x96_39 (P : Params) : Obj := (@PySem.Obj.mk (@PySem.Value.ref 31) (@Option.some @Nat 38) (@PySem.Data.dict (@List.toArray @PySem.DictEntry [(@PySem.DictEntry.mk (0 : Int) (@PySem.Value.int (0 : Int) 222) (@PySem.Value.int (120 : Int) 221)), (@PySem.DictEntry.mk (1 : Int) (@PySem.Value.int (1 : Int) 224) (@PySem.Value.int (120 : Int) 221)), (@PySem.DictEntry.mk (2 : Int) (@PySem.Value.int (2 : Int) 226) (@PySem.Value.int (120 : Int) 221)), (@PySem.DictEntry.mk (3 : Int) (@PySem.Value.int (3 : Int) 228) (@PySem.Value.int (120 : Int) 221)), (@PySem.DictEntry.mk (4 : Int) (@PySem.Value.int (4 : Int) 230) (@PySem.Value.int (120 : Int) 221)), (@PySem.DictEntry.mk (5 : Int) (@PySem.Value.int (5 : Int) 232) (@PySem.Value.int (120 : Int) 221)), (@PySem.DictEntry.mk (6 : Int) (@PySem.Value.int (6 : Int) 234) (@PySem.Value.int (120 : Int) 221)), (@PySem.DictEntry.mk (7 : Int) (@PySem.Value.int (7 : Int) 236) (@PySem.Value.int (120 : Int) 221)), (@PySem.DictEntry.mk (8 : Int) (@PySem.Value.int (8 : Int) 238) (@PySem.Value.int (120 : Int) 221)), (@PySem.DictEntry.mk (9 : Int) (@PySem.Value.int (9 : Int) 240) (@PySem.Value.int (120 : Int) 221)), (@PySem.DictEntry.mk (10 : Int) (@PySem.Value.int (10 : Int) 242) (@PySem.Value.int (120 : Int) 221)), (@PySem.DictEntry.mk (11 : Int) (@PySem.Value.int (11 : Int) 244) (@PySem.Value.int (120 : Int) 221)), (@PySem.DictEntry.mk (12 : Int) (@PySem.Value.int (12 : Int) 246) (@PySem.Value.int (120 : Int) 221)), (@PySem.DictEntry.mk (13 : Int) (@PySem.Value.int (13 : Int) 248) (@PySem.Value.int (120 : Int) 221)), (@PySem.DictEntry.mk (14 : Int) (@PySem.Value.int (14 : Int) 250) (@PySem.Value.int (120 : Int) 221)), (@PySem.DictEntry.mk (15 : Int) (@PySem.Value.int (15 : Int) 252) (@PySem.Value.int (120 : Int) 221)), (@PySem.DictEntry.mk (16 : Int) (@PySem.Value.int (16 : Int) 254) (@PySem.Value.int (120 : Int) 221)), (@PySem.DictEntry.mk (17 : Int) (@PySem.Value.int (17 : Int) 256) (@PySem.Value.int (120 : Int) 221)), (@PySem.DictEntry.mk (18 : Int) (@PySem.Value.int (18 : Int) 258) (@PySem.Value.int (120 : Int) 221)), (@PySem.DictEntry.mk (19 : Int) (@PySem.Value.int (19 : Int) 260) (@PySem.Value.int (120 : Int) 221)), (@PySem.DictEntry.mk (20 : Int) (@PySem.Value.int (20 : Int) 262) (@PySem.Value.int (120 : Int) 221)), (@PySem.DictEntry.mk (21 : Int) (@PySem.Value.int (21 : Int) 264) (@PySem.Value.int (120 : Int) 221)), (@PySem.DictEntry.mk (22 : Int) (@PySem.Value.int (22 : Int) 266) (@PySem.Value.int (120 : Int) 221)), (@PySem.DictEntry.mk (23 : Int) (@PySem.Value.int (23 : Int) 268) (@PySem.Value.int (120 : Int) 221)), (@PySem.DictEntry.mk (24 : Int) (@PySem.Value.int (24 : Int) 270) (@PySem.Value.int (120 : Int) 221)), (@PySem.DictEntry.mk (25 : Int) (@PySem.Value.int (25 : Int) 272) (@PySem.Value.int (120 : Int) 221)), (@PySem.DictEntry.mk (26 : Int) (@PySem.Value.int (26 : Int) 274) (@PySem.Value.int (120 : Int) 221)), (@PySem.DictEntry.mk (27 : Int) (@PySem.Value.int (27 : Int) 276) (@PySem.Value.int (120 : Int) 221)), (@PySem.DictEntry.mk (28 : Int) (@PySem.Value.int (28 : Int) 278) (@PySem.Value.int (120 : Int) 221)), (@PySem.DictEntry.mk (29 : Int) (@PySem.Value.int (29 : Int) 280) (@PySem.Value.int (120 : Int) 221)), (@PySem.DictEntry.mk (30 : Int) (@PySem.Value.int (30 : Int) 282) (@PySem.Value.int (120 : Int) 221)), (@PySem.DictEntry.mk (31 : Int) (@PySem.Value.int (31 : Int) 284) (@PySem.Value.int (120 : Int) 221)), (@PySem.DictEntry.mk (32 : Int) (@PySem.Value.int (32 : Int) 286) (@PySem.Value.int (120 : Int) 221)), (@PySem.DictEntry.mk (33 : Int) (@PySem.Value.int (33 : Int) 288) (@PySem.Value.int (120 : Int) 221)), (@PySem.DictEntry.mk (34 : Int) (@PySem.Value.int (34 : Int) 290) (@PySem.Value.int (120 : Int) 221)), (@PySem.DictEntry.mk (35 : Int) (@PySem.Value.int (35 : Int) 292) (@PySem.Value.int (120 : Int) 221)), (@PySem.DictEntry.mk (36 : Int) (@PySem.Value.int (36 : Int) 294) (@PySem.Value.int (120 : Int) 221)), (@PySem.DictEntry.mk (37 : Int) (@PySem.Value.int (37 : Int) 296) (@PySem.Value.int (120 : Int) 221)), (@PySem.DictEntry.mk (38 : Int) (@PySem.Value.int (38 : Int) 298) (@PySem.Value.int (120 : Int) 221)), (@PySem.DictEntry.mk (39 : Int) (@PySem.Value.int (39 : Int) 300) (@PySem.Value.int (120 : Int) 221)), (@PySem.DictEntry.mk (40 : Int) (@PySem.Value.int (40 : Int) 302) (@PySem.Value.int (120 : Int) 221)), (@PySem.DictEntry.mk (41 : Int) (@PySem.Value.int (41 : Int) 304) (@PySem.Value.int (120 : Int) 221)), (@PySem.DictEntry.mk (42 : Int) (@PySem.Value.int (42 : Int) 306) (@PySem.Value.int (120 : Int) 221)), (@PySem.DictEntry.mk (43 : Int) (@PySem.Value.int (43 : Int) 308) (@PySem.Value.int (120 : Int) 221)), (@PySem.DictEntry.mk (44 : Int) (@PySem.Value.int (44 : Int) 310) (@PySem.Value.int (120 : Int) 221)), (@PySem.DictEntry.mk (45 : Int) (@PySem.Value.int (45 : Int) 312) (@PySem.Value.int (120 : Int) 221)), (@PySem.DictEntry.mk (46 : Int) (@PySem.Value.int (46 : Int) 314) (@PySem.Value.int (120 : Int) 221)), (@PySem.DictEntry.mk (47 : Int) (@PySem.Value.int (47 : Int) 316) (@PySem.Value.int (120 : Int) 221)), (@PySem.DictEntry.mk (48 : Int) (@PySem.Value.int (48 : Int) 318) (@PySem.Value.int (120 : Int) 221)), (@PySem.DictEntry.mk (49 : Int) (@PySem.Value.int (49 : Int) 320) (@PySem.Value.int (120 : Int) 221)), (@PySem.DictEntry.mk (50 : Int) (@PySem.Value.int (50 : Int) 322) (@PySem.Value.int (120 : Int) 221)), (@PySem.DictEntry.mk (51 : Int) (@PySem.Value.int (51 : Int) 324) (@PySem.Value.int (120 : Int) 221)), (@PySem.DictEntry.mk (52 : Int) (@PySem.Value.int (52 : Int) 326) (@PySem.Value.int (120 : Int) 221)), (@PySem.DictEntry.mk (53 : Int) (@PySem.Value.int (53 : Int) 328) (@PySem.Value.int (120 : Int) 221)), (@PySem.DictEntry.mk (54 : Int) (@PySem.Value.int (54 : Int) 330) (@PySem.Value.int (120 : Int) 221)), (@PySem.DictEntry.mk (55 : Int) (@PySem.Value.int (55 : Int) 332) (@PySem.Value.int (120 : Int) 221)), (@PySem.DictEntry.mk (56 : Int) (@PySem.Value.int (56 : Int) 334) (@PySem.Value.int (120 : Int) 221)), (@PySem.DictEntry.mk (57 : Int) (@PySem.Value.int (57 : Int) 336) (@PySem.Value.int (120 : Int) 221)), (@PySem.DictEntry.mk (58 : Int) (@PySem.Value.int (58 : Int) 338) (@PySem.Value.int (120 : Int) 221)), (@PySem.DictEntry.mk (59 : Int) (@PySem.Value.int (59 : Int) 340) (@PySem.Value.int (120 : Int) 221)), (@PySem.DictEntry.mk (60 : Int) (@PySem.Value.int (60 : Int) 342) (@PySem.Value.int (120 : Int) 221)), (@PySem.DictEntry.mk (61 : Int) (@PySem.Value.int (61 : Int) 344) (@PySem.Value.int (120 : Int) 221)), (@PySem.DictEntry.mk (62 : Int) (@PySem.Value.int (62 : Int) 346) (@PySem.Value.int (120 : Int) 221)), (@PySem.DictEntry.mk (63 : Int) (@PySem.Value.int (63 : Int) 348) (@PySem.Value.int (120 : Int) 221)), (@PySem.DictEntry.mk (64 : Int) (@PySem.Value.int (64 : Int) 350) (@PySem.Value.int (120 : Int) 221)), (@PySem.DictEntry.mk (65 : Int) (@PySem.Value.int (65 : Int) 352) (@PySem.Value.int (120 : Int) 221)), (@PySem.DictEntry.mk (66 : Int) (@PySem.Value.int (66 : Int) 354) (@PySem.Value.int (120 : Int) 221)), (@PySem.DictEntry.mk (67 : Int) (@PySem.Value.int (67 : Int) 356) (@PySem.Value.int (120 : Int) 221)), (@PySem.DictEntry.mk (68 : Int) (@PySem.Value.int (68 : Int) 358) (@PySem.Value.int (120 : Int) 221)), (@PySem.DictEntry.mk (69 : Int) (@PySem.Value.int (69 : Int) 360) (@PySem.Value.int (120 : Int) 221)), (@PySem.DictEntry.mk (70 : Int) (@PySem.Value.int (70 : Int) 362) (@PySem.Value.int (120 : Int) 221)), (@PySem.DictEntry.mk (71 : Int) (@PySem.Value.int (71 : Int) 364) (@PySem.Value.int (120 : Int) 221)), (@PySem.DictEntry.mk (72 : Int) (@PySem.Value.int (72 : Int) 366) (@PySem.Value.int (120 : Int) 221)), (@PySem.DictEntry.mk (73 : Int) (@PySem.Value.int (73 : Int) 368) (@PySem.Value.int (120 : Int) 221)), (@PySem.DictEntry.mk (74 : Int) (@PySem.Value.int (74 : Int) 370) (@PySem.Value.int (120 : Int) 221)), (@PySem.DictEntry.mk (75 : Int) (@PySem.Value.int (75 : Int) 372) (@PySem.Value.int (120 : Int) 221)), (@PySem.DictEntry.mk (76 : Int) (@PySem.Value.int (76 : Int) 374) (@PySem.Value.int (120 : Int) 221)), (@PySem.DictEntry.mk (77 : Int) (@PySem.Value.int (77 : Int) 376) (@PySem.Value.int (120 : Int) 221)), (@PySem.DictEntry.mk (78 : Int) (@PySem.Value.int (78 : Int) 378) (@PySem.Value.int (120 : Int) 221)), (@PySem.DictEntry.mk (79 : Int) (@PySem.Value.int (79 : Int) 380) (@PySem.Value.int (120 : Int) 221)), (@PySem.DictEntry.mk (80 : Int) (@PySem.Value.int (80 : Int) 382) (@PySem.Value.int (120 : Int) 221)), (@PySem.DictEntry.mk (81 : Int) (@PySem.Value.int (81 : Int) 384) (@PySem.Value.int (120 : Int) 221)), (@PySem.DictEntry.mk (82 : Int) (@PySem.Value.int (82 : Int) 386) (@PySem.Value.int (120 : Int) 221)), (@PySem.DictEntry.mk (83 : Int) (@PySem.Value.int (83 : Int) 388) (@PySem.Value.int (120 : Int) 221)), (@PySem.DictEntry.mk (84 : Int) (@PySem.Value.int (84 : Int) 390) (@PySem.Value.int (120 : Int) 221)), (@PySem.DictEntry.mk (85 : Int) (@PySem.Value.int (85 : Int) 392) (@PySem.Value.int (120 : Int) 221)), (@PySem.DictEntry.mk (86 : Int) (@PySem.Value.int (86 : Int) 394) (@PySem.Value.int (120 : Int) 221)), (@PySem.DictEntry.mk (87 : Int) (@PySem.Value.int (87 : Int) 396) (@PySem.Value.int (120 : Int) 221)), (@PySem.DictEntry.mk (88 : Int) (@PySem.Value.int (88 : Int) 398) (@PySem.Value.int (120 : Int) 221)), (@PySem.DictEntry.mk (89 : Int) (@PySem.Value.int (89 : Int) 400) (@PySem.Value.int (120 : Int) 221)), (@PySem.DictEntry.mk (90 : Int) (@PySem.Value.int (90 : Int) 402) (@PySem.Value.int (120 : Int) 221)), (@PySem.DictEntry.mk (91 : Int) (@PySem.Value.int (91 : Int) 404) (@PySem.Value.int (120 : Int) 221)), (@PySem.DictEntry.mk (92 : Int) (@PySem.Value.int (92 : Int) 406) (@PySem.Value.int (120 : Int) 221)), (@PySem.DictEntry.mk (93 : Int) (@PySem.Value.int (93 : Int) 408) (@PySem.Value.int (120 : Int) 221)), (@PySem.DictEntry.mk (94 : Int) (@PySem.Value.int (94 : Int) 410) (@PySem.Value.int (120 : Int) 221)), (@PySem.DictEntry.mk (95 : Int) (@PySem.Value.int (95 : Int) 412) (@PySem.Value.int (120 : Int) 221))]) 96) (@List.toArray (@Option @PySem.Value) []))
noncomputable def hG2x96_40 (P : Params) : Obj := (@PySem.Obj.mk (@PySem.Value.type "range_iterator") (@Option.none @Nat) (@PySem.Data.fields (@List.toArray @PySem.Value [(@PySem.Value.int (96 : Int) 0), (@PySem.Value.int (32 : Int) 0), (@PySem.Value.int (1 : Int) 0)])) (@List.toArray (@Option @PySem.Value) []))
noncomputable def treeG2x96 (P : Params) : BT := (BT.node (boot_o_0 P) (BT.node (boot_o_1 P) (BT.node (hG0_3 P) (BT.node (boot_o_7 P) (BT.node (hG0_15 P) (BT.node (hG0_31 P) BT.nil BT.nil) BT.nil) (BT.node (hG0_23 P) (BT.node (hG2x96_39 P) BT.nil BT.nil) BT.nil)) (BT.node (hp_11 P) (BT.node (hG0_19 P) (BT.node (hG0_35 P) BT.nil BT.nil) BT.nil) (BT.node (hG0_27 P) BT.nil BT.nil))) (BT.node (boot_o_5 P) (BT.node (boot_o_9 P) (BT.node (hG0_17 P) (BT.node (hG0_33 P) BT.nil BT.nil) BT.nil) (BT.node (hG0_25 P) BT.nil BT.nil)) (BT.node (hp_13 P) (BT.node (hG0_21 P) (BT.node (hG2x0_37 P) BT.nil BT.nil) BT.nil) (BT.node (hG0_29 P) BT.nil BT.nil)))) (BT.node (boot_o_2 P) (BT.node (boot_o_4 P) (BT.node (boot_o_8 P) (BT.node (hG0_16 P) (BT.node (hG0_32 P) BT.nil BT.nil) BT.nil) (BT.node (hG0_24 P) (BT.node (hG2x96_40 P) BT.nil BT.nil) BT.nil)) (BT.node (hG0_12 P) (BT.node (hG0_20 P) (BT.node (hG2x0_36 P) BT.nil BT.nil) BT.nil) (BT.node (hG0_28 P) BT.nil BT.nil))) (BT.node (boot_o_6 P) (BT.node (boot_o_10 P) (BT.node (hG0_18 P) (BT.node (hG0_34 P) BT.nil BT.nil) BT.nil) (BT.node (hG0_26 P) BT.nil BT.nil)) (BT.node (hp_14 P) (BT.node (hG0_22 P) (BT.node (hG2x0_38 P) BT.nil BT.nil) BT.nil) (BT.node (hG0_30 P) BT.nil BT.nil)))))
noncomputable def h_G2x96_q (w : World) (os : OsState) : Prop := ∀ k : Result → Sem Fin, segGoT treeTable p9 w 11 ann9 1 640 (SharedT.mk (treeG2x80 w.params) 41 (@PySem.Life.mk [] [] [] 0 [] [] @Bool.false (@List.toArray @Nat []) [] 0 @Bool.false @Bool.false @Bool.false (0 : Int) [(2000 : Int), (10 : Int), (10 : Int)] @Bool.false 0 @Bool.true [] [] 0 @Bool.false) (Array.mk []) (@PySem.Drawn.mk 0 0 0 0) 382 os) (Thread.mk (denote treeTable (Code.builtin "dict.fromkeys.loop" (Args.mk [(@PySem.Value.ref 39), (@PySem.Value.ref 40), (@PySem.Value.int (120 : Int) 221)] []))) (Code.builtin "dict.fromkeys.loop" (Args.mk [(@PySem.Value.ref 39), (@PySem.Value.ref 40), (@PySem.Value.int (120 : Int) 221)] [])) (@PySem.Pos.mk 6 8 6 42) [Frame.ret k none false [] c9 (@PySem.Pos.mk 6 8 6 42) [(@PySem.Value.ref 36), (@PySem.Value.ref 37), (@PySem.Value.int (120 : Int) 221)], topFrame (@PySem.Pos.mk 0 0 0 0)]) = some ((SharedT.mk (treeG2x96 w.params) 41 (@PySem.Life.mk [] [] [] 0 [] [] @Bool.false (@List.toArray @Nat []) [] 0 @Bool.false @Bool.false @Bool.false (0 : Int) [(2000 : Int), (10 : Int), (10 : Int)] @Bool.false 0 @Bool.true [] [] 0 @Bool.false) (Array.mk []) (@PySem.Drawn.mk 0 0 0 0) 414 os), (Thread.mk (denote treeTable (Code.builtin "dict.fromkeys.loop" (Args.mk [(@PySem.Value.ref 39), (@PySem.Value.ref 40), (@PySem.Value.int (120 : Int) 221)] []))) (Code.builtin "dict.fromkeys.loop" (Args.mk [(@PySem.Value.ref 39), (@PySem.Value.ref 40), (@PySem.Value.int (120 : Int) 221)] [])) (@PySem.Pos.mk 6 8 6 42) [Frame.ret k none false [] c9 (@PySem.Pos.mk 6 8 6 42) [(@PySem.Value.ref 36), (@PySem.Value.ref 37), (@PySem.Value.int (120 : Int) 221)], topFrame (@PySem.Pos.mk 0 0 0 0)]))
theorem h_G2x96_f (w : World) (os : OsState) : h_G2x96_q (w.withFollow "special-get-raises" false) os := by
  unfold h_G2x96_q
  intro k
  (rw [show @PySem.W.segGoT = _ from PySem.W.Fast.te10295753902157049106, show @PySem.denote = _ from PySem.W.Fast.te11892475500146522536, show treeTable = _ from PySem.W.Fast.te14364793385576792824]; kernel_rfl)
theorem h_G2x96_t (w : World) (os : OsState) : h_G2x96_q (w.withFollow "special-get-raises" true) os := by
  unfold h_G2x96_q
  intro k
  (rw [show @PySem.W.segGoT = _ from PySem.W.Fast.te10295753902157049106, show @PySem.denote = _ from PySem.W.Fast.te11892475500146522536, show treeTable = _ from PySem.W.Fast.te14364793385576792824]; kernel_rfl)
theorem h_G2x96 (w : World) (os : OsState) : ∀ k : Result → Sem Fin, segGoT treeTable p9 w 11 ann9 1 640 (SharedT.mk (treeG2x80 w.params) 41 (@PySem.Life.mk [] [] [] 0 [] [] @Bool.false (@List.toArray @Nat []) [] 0 @Bool.false @Bool.false @Bool.false (0 : Int) [(2000 : Int), (10 : Int), (10 : Int)] @Bool.false 0 @Bool.true [] [] 0 @Bool.false) (Array.mk []) (@PySem.Drawn.mk 0 0 0 0) 382 os) (Thread.mk (denote treeTable (Code.builtin "dict.fromkeys.loop" (Args.mk [(@PySem.Value.ref 39), (@PySem.Value.ref 40), (@PySem.Value.int (120 : Int) 221)] []))) (Code.builtin "dict.fromkeys.loop" (Args.mk [(@PySem.Value.ref 39), (@PySem.Value.ref 40), (@PySem.Value.int (120 : Int) 221)] [])) (@PySem.Pos.mk 6 8 6 42) [Frame.ret k none false [] c9 (@PySem.Pos.mk 6 8 6 42) [(@PySem.Value.ref 36), (@PySem.Value.ref 37), (@PySem.Value.int (120 : Int) 221)], topFrame (@PySem.Pos.mk 0 0 0 0)]) = some ((SharedT.mk (treeG2x96 w.params) 41 (@PySem.Life.mk [] [] [] 0 [] [] @Bool.false (@List.toArray @Nat []) [] 0 @Bool.false @Bool.false @Bool.false (0 : Int) [(2000 : Int), (10 : Int), (10 : Int)] @Bool.false 0 @Bool.true [] [] 0 @Bool.false) (Array.mk []) (@PySem.Drawn.mk 0 0 0 0) 414 os), (Thread.mk (denote treeTable (Code.builtin "dict.fromkeys.loop" (Args.mk [(@PySem.Value.ref 39), (@PySem.Value.ref 40), (@PySem.Value.int (120 : Int) 221)] []))) (Code.builtin "dict.fromkeys.loop" (Args.mk [(@PySem.Value.ref 39), (@PySem.Value.ref 40), (@PySem.Value.int (120 : Int) 221)] [])) (@PySem.Pos.mk 6 8 6 42) [Frame.ret k none false [] c9 (@PySem.Pos.mk 6 8 6 42) [(@PySem.Value.ref 36), (@PySem.Value.ref 37), (@PySem.Value.int (120 : Int) 221)], topFrame (@PySem.Pos.mk 0 0 0 0)])) := byRow2 "special-get-raises" (P := fun w => ∀ os, h_G2x96_q w os) h_G2x96_f h_G2x96_t w os
noncomputable def hG2x112_39 (P : Params) : Obj := (@PySem.Obj.mk (@PySem.Value.ref 31) (@Option.some @Nat 38) (@PySem.Data.dict (@List.toArray @PySem.DictEntry [(@PySem.DictEntry.mk (0 : Int) (@PySem.Value.int (0 : Int) 222) (@PySem.Value.int (120 : Int) 221)), (@PySem.DictEntry.mk (1 : Int) (@PySem.Value.int (1 : Int) 224) (@PySem.Value.int (120 : Int) 221)), (@PySem.DictEntry.mk (2 : Int) (@PySem.Value.int (2 : Int) 226) (@PySem.Value.int (120 : Int) 221)), (@PySem.DictEntry.mk (3 : Int) (@PySem.Value.int (3 : Int) 228) (@PySem.Value.int (120 : Int) 221)), (@PySem.DictEntry.mk (4 : Int) (@PySem.Value.int (4 : Int) 230) (@PySem.Value.int (120 : Int) 221)), (@PySem.DictEntry.mk (5 : Int) (@PySem.Value.int (5 : Int) 232) (@PySem.Value.int (120 : Int) 221)), (@PySem.DictEntry.mk (6 : Int) (@PySem.Value.int (6 : Int) 234) (@PySem.Value.int (120 : Int) 221)), (@PySem.DictEntry.mk (7 : Int) (@PySem.Value.int (7 : Int) 236) (@PySem.Value.int (120 : Int) 221)), (@PySem.DictEntry.mk (8 : Int) (@PySem.Value.int (8 : Int) 238) (@PySem.Value.int (120 : Int) 221)), (@PySem.DictEntry.mk (9 : Int) (@PySem.Value.int (9 : Int) 240) (@PySem.Value.int (120 : Int) 221)), (@PySem.DictEntry.mk (10 : Int) (@PySem.Value.int (10 : Int) 242) (@PySem.Value.int (120 : Int) 221)), (@PySem.DictEntry.mk (11 : Int) (@PySem.Value.int (11 : Int) 244) (@PySem.Value.int (120 : Int) 221)), (@PySem.DictEntry.mk (12 : Int) (@PySem.Value.int (12 : Int) 246) (@PySem.Value.int (120 : Int) 221)), (@PySem.DictEntry.mk (13 : Int) (@PySem.Value.int (13 : Int) 248) (@PySem.Value.int (120 : Int) 221)), (@PySem.DictEntry.mk (14 : Int) (@PySem.Value.int (14 : Int) 250) (@PySem.Value.int (120 : Int) 221)), (@PySem.DictEntry.mk (15 : Int) (@PySem.Value.int (15 : Int) 252) (@PySem.Value.int (120 : Int) 221)), (@PySem.DictEntry.mk (16 : Int) (@PySem.Value.int (16 : Int) 254) (@PySem.Value.int (120 : Int) 221)), (@PySem.DictEntry.mk (17 : Int) (@PySem.Value.int (17 : Int) 256) (@PySem.Value.int (120 : Int) 221)), (@PySem.DictEntry.mk (18 : Int) (@PySem.Value.int (18 : Int) 258) (@PySem.Value.int (120 : Int) 221)), (@PySem.DictEntry.mk (19 : Int) (@PySem.Value.int (19 : Int) 260) (@PySem.Value.int (120 : Int) 221)), (@PySem.DictEntry.mk (20 : Int) (@PySem.Value.int (20 : Int) 262) (@PySem.Value.int (120 : Int) 221)), (@PySem.DictEntry.mk (21 : Int) (@PySem.Value.int (21 : Int) 264) (@PySem.Value.int (120 : Int) 221)), (@PySem.DictEntry.mk (22 : Int) (@PySem.Value.int (22 : Int) 266) (@PySem.Value.int (120 : Int) 221)), (@PySem.DictEntry.mk (23 : Int) (@PySem.Value.int (23 : Int) 268) (@PySem.Value.int (120 : Int) 221)), (@PySem.DictEntry.mk (24 : Int) (@PySem.Value.int (24 : Int) 270) (@PySem.Value.int (120 : Int) 221)), (@PySem.DictEntry.mk (25 : Int) (@PySem.Value.int (25 : Int) 272) (@PySem.Value.int (120 : Int) 221)), (@PySem.DictEntry.mk (26 : Int) (@PySem.Value.int (26 : Int) 274) (@PySem.Value.int (120 : Int) 221)), (@PySem.DictEntry.mk (27 : Int) (@PySem.Value.int (27 : Int) 276) (@PySem.Value.int (120 : Int) 221)), (@PySem.DictEntry.mk (28 : Int) (@PySem.Value.int (28 : Int) 278) (@PySem.Value.int (120 : Int) 221)), (@PySem.DictEntry.mk (29 : Int) (@PySem.Value.int (29 : Int) 280) (@PySem.Value.int (120 : Int) 221)), (@PySem.DictEntry.mk (30 : Int) (@PySem.Value.int (30 : Int) 282) (@PySem.Value.int (120 : Int) 221)), (@PySem.DictEntry.mk (31 : Int) (@PySem.Value.int (31 : Int) 284) (@PySem.Value.int (120 : Int) 221)), (@PySem.DictEntry.mk (32 : Int) (@PySem.Value.int (32 : Int) 286) (@PySem.Value.int (120 : Int) 221)), (@PySem.DictEntry.mk (33 : Int) (@PySem.Value.int (33 : Int) 288) (@PySem.Value.int (120 : Int) 221)), (@PySem.DictEntry.mk (34 : Int) (@PySem.Value.int (34 : Int) 290) (@PySem.Value.int (120 : Int) 221)), (@PySem.DictEntry.mk (35 : Int) (@PySem.Value.int (35 : Int) 292) (@PySem.Value.int (120 : Int) 221)), (@PySem.DictEntry.mk (36 : Int) (@PySem.Value.int (36 : Int) 294) (@PySem.Value.int (120 : Int) 221)), (@PySem.DictEntry.mk (37 : Int) (@PySem.Value.int (37 : Int) 296) (@PySem.Value.int (120 : Int) 221)), (@PySem.DictEntry.mk (38 : Int) (@PySem.Value.int (38 : Int) 298) (@PySem.Value.int (120 : Int) 221)), (@PySem.DictEntry.mk (39 : Int) (@PySem.Value.int (39 : Int) 300) (@PySem.Value.int (120 : Int) 221)), (@PySem.DictEntry.mk (40 : Int) (@PySem.Value.int (40 : Int) 302) (@PySem.Value.int (120 : Int) 221)), (@PySem.DictEntry.mk (41 : Int) (@PySem.Value.int (41 : Int) 304) (@PySem.Value.int (120 : Int) 221)), (@PySem.DictEntry.mk (42 : Int) (@PySem.Value.int (42 : Int) 306) (@PySem.Value.int (120 : Int) 221)), (@PySem.DictEntry.mk (43 : Int) (@PySem.Value.int (43 : Int) 308) (@PySem.Value.int (120 : Int) 221)), (@PySem.DictEntry.mk (44 : Int) (@PySem.Value.int (44 : Int) 310) (@PySem.Value.int (120 : Int) 221)), (@PySem.DictEntry.mk (45 : Int) (@PySem.Value.int (45 : Int) 312) (@PySem.Value.int (120 : Int) 221)), (@PySem.DictEntry.mk (46 : Int) (@PySem.Value.int (46 : Int) 314) (@PySem.Value.int (120 : Int) 221)), (@PySem.DictEntry.mk (47 : Int) (@PySem.Value.int (47 : Int) 316) (@PySem.Value.int (120 : Int) 221)), (@PySem.DictEntry.mk (48 : Int) (@PySem.Value.int (48 : Int) 318) (@PySem.Value.int (120 : Int) 221)), (@PySem.DictEntry.mk (49 : Int) (@PySem.Value.int (49 : Int) 320) (@PySem.Value.int (120 : Int) 221)), (@PySem.DictEntry.mk (50 : Int) (@PySem.Value.int (50 : Int) 322) (@PySem.Value.int (120 : Int) 221)), (@PySem.DictEntry.mk (51 : Int) (@PySem.Value.int (51 : Int) 324) (@PySem.Value.int (120 : Int) 221)), (@PySem.DictEntry.mk (52 : Int) (@PySem.Value.int (52 : Int) 326) (@PySem.Value.int (120 : Int) 221)), (@PySem.DictEntry.mk (53 : Int) (@PySem.Value.int (53 : Int) 328) (@PySem.Value.int (120 : Int) 221)), (@PySem.DictEntry.mk (54 : Int) (@PySem.Value.int (54 : Int) 330) (@PySem.Value.int (120 : Int) 221)), (@PySem.DictEntry.mk (55 : Int) (@PySem.Value.int (55 : Int) 332) (@PySem.Value.int (120 : Int) 221)), (@PySem.DictEntry.mk (56 : Int) (@PySem.Value.int (56 : Int) 334) (@PySem.Value.int (120 : Int) 221)), (@PySem.DictEntry.mk (57 : Int) (@PySem.Value.int (57 : Int) 336) (@PySem.Value.int (120 : Int) 221)), (@PySem.DictEntry.mk (58 : Int) (@PySem.Value.int (58 : Int) 338) (@PySem.Value.int (120 : Int) 221)), (@PySem.DictEntry.mk (59 : Int) (@PySem.Value.int (59 : Int) 340) (@PySem.Value.int (120 : Int) 221)), (@PySem.DictEntry.mk (60 : Int) (@PySem.Value.int (60 : Int) 342) (@PySem.Value.int (120 : Int) 221)), (@PySem.DictEntry.mk (61 : Int) (@PySem.Value.int (61 : Int) 344) (@PySem.Value.int (120 : Int) 221)), (@PySem.DictEntry.mk (62 : Int) (@PySem.Value.int (62 : Int) 346) (@PySem.Value.int (120 : Int) 221)), (@PySem.DictEntry.mk (63 : Int) (@PySem.Value.int (63 : Int) 348) (@PySem.Value.int (120 : Int) 221)), (@PySem.DictEntry.mk (64 : Int) (@PySem.Value.int (64 : Int) 350) (@PySem.Value.int (120 : Int) 221)), (@PySem.DictEntry.mk (65 : Int) (@PySem.Value.int (65 : Int) 352) (@PySem.Value.int (120 : Int) 221)), (@PySem.DictEntry.mk (66 : Int) (@PySem.Value.int (66 : Int) 354) (@PySem.Value.int (120 : Int) 221)), (@PySem.DictEntry.mk (67 : Int) (@PySem.Value.int (67 : Int) 356) (@PySem.Value.int (120 : Int) 221)), (@PySem.DictEntry.mk (68 : Int) (@PySem.Value.int (68 : Int) 358) (@PySem.Value.int (120 : Int) 221)), (@PySem.DictEntry.mk (69 : Int) (@PySem.Value.int (69 : Int) 360) (@PySem.Value.int (120 : Int) 221)), (@PySem.DictEntry.mk (70 : Int) (@PySem.Value.int (70 : Int) 362) (@PySem.Value.int (120 : Int) 221)), (@PySem.DictEntry.mk (71 : Int) (@PySem.Value.int (71 : Int) 364) (@PySem.Value.int (120 : Int) 221)), (@PySem.DictEntry.mk (72 : Int) (@PySem.Value.int (72 : Int) 366) (@PySem.Value.int (120 : Int) 221)), (@PySem.DictEntry.mk (73 : Int) (@PySem.Value.int (73 : Int) 368) (@PySem.Value.int (120 : Int) 221)), (@PySem.DictEntry.mk (74 : Int) (@PySem.Value.int (74 : Int) 370) (@PySem.Value.int (120 : Int) 221)), (@PySem.DictEntry.mk (75 : Int) (@PySem.Value.int (75 : Int) 372) (@PySem.Value.int (120 : Int) 221)), (@PySem.DictEntry.mk (76 : Int) (@PySem.Value.int (76 : Int) 374) (@PySem.Value.int (120 : Int) 221)), (@PySem.DictEntry.mk (77 : Int) (@PySem.Value.int (77 : Int) 376) (@PySem.Value.int (120 : Int) 221)), (@PySem.DictEntry.mk (78 : Int) (@PySem.Value.int (78 : Int) 378) (@PySem.Value.int (120 : Int) 221)), (@PySem.DictEntry.mk (79 : Int) (@PySem.Value.int (79 : Int) 380) (@PySem.Value.int (120 : Int) 221)), (@PySem.DictEntry.mk (80 : Int) (@PySem.Value.int (80 : Int) 382) (@PySem.Value.int (120 : Int) 221)), (@PySem.DictEntry.mk (81 : Int) (@PySem.Value.int (81 : Int) 384) (@PySem.Value.int (120 : Int) 221)), (@PySem.DictEntry.mk (82 : Int) (@PySem.Value.int (82 : Int) 386) (@PySem.Value.int (120 : Int) 221)), (@PySem.DictEntry.mk (83 : Int) (@PySem.Value.int (83 : Int) 388) (@PySem.Value.int (120 : Int) 221)), (@PySem.DictEntry.mk (84 : Int) (@PySem.Value.int (84 : Int) 390) (@PySem.Value.int (120 : Int) 221)), (@PySem.DictEntry.mk (85 : Int) (@PySem.Value.int (85 : Int) 392) (@PySem.Value.int (120 : Int) 221)), (@PySem.DictEntry.mk (86 : Int) (@PySem.Value.int (86 : Int) 394) (@PySem.Value.int (120 : Int) 221)), (@PySem.DictEntry.mk (87 : Int) (@PySem.Value.int (87 : Int) 396) (@PySem.Value.int (120 : Int) 221)), (@PySem.DictEntry.mk (88 : Int) (@PySem.Value.int (88 : Int) 398) (@PySem.Value.int (120 : Int) 221)), (@PySem.DictEntry.mk (89 : Int) (@PySem.Value.int (89 : Int) 400) (@PySem.Value.int (120 : Int) 221)), (@PySem.DictEntry.mk (90 : Int) (@PySem.Value.int (90 : Int) 402) (@PySem.Value.int (120 : Int) 221)), (@PySem.DictEntry.mk (91 : Int) (@PySem.Value.int (91 : Int) 404) (@PySem.Value.int (120 : Int) 221)), (@PySem.DictEntry.mk (92 : Int) (@PySem.Value.int (92 : Int) 406) (@PySem.Value.int (120 : Int) 221)), (@PySem.DictEntry.mk (93 : Int) (@PySem.Value.int (93 : Int) 408) (@PySem.Value.int (120 : Int) 221)), (@PySem.DictEntry.mk (94 : Int) (@PySem.Value.int (94 : Int) 410) (@PySem.Value.int (120 : Int) 221)), (@PySem.DictEntry.mk (95 : Int) (@PySem.Value.int (95 : Int) 412) (@PySem.Value.int (120 : Int) 221)), (@PySem.DictEntry.mk (96 : Int) (@PySem.Value.int (96 : Int) 414) (@PySem.Value.int (120 : Int) 221)), (@PySem.DictEntry.mk (97 : Int) (@PySem.Value.int (97 : Int) 416) (@PySem.Value.int (120 : Int) 221)), (@PySem.DictEntry.mk (98 : Int) (@PySem.Value.int (98 : Int) 418) (@PySem.Value.int (120 : Int) 221)), (@PySem.DictEntry.mk (99 : Int) (@PySem.Value.int (99 : Int) 420) (@PySem.Value.int (120 : Int) 221)), (@PySem.DictEntry.mk (100 : Int) (@PySem.Value.int (100 : Int) 422) (@PySem.Value.int (120 : Int) 221)), (@PySem.DictEntry.mk (101 : Int) (@PySem.Value.int (101 : Int) 424) (@PySem.Value.int (120 : Int) 221)), (@PySem.DictEntry.mk (102 : Int) (@PySem.Value.int (102 : Int) 426) (@PySem.Value.int (120 : Int) 221)), (@PySem.DictEntry.mk (103 : Int) (@PySem.Value.int (103 : Int) 428) (@PySem.Value.int (120 : Int) 221)), (@PySem.DictEntry.mk (104 : Int) (@PySem.Value.int (104 : Int) 430) (@PySem.Value.int (120 : Int) 221)), (@PySem.DictEntry.mk (105 : Int) (@PySem.Value.int (105 : Int) 432) (@PySem.Value.int (120 : Int) 221)), (@PySem.DictEntry.mk (106 : Int) (@PySem.Value.int (106 : Int) 434) (@PySem.Value.int (120 : Int) 221)), (@PySem.DictEntry.mk (107 : Int) (@PySem.Value.int (107 : Int) 436) (@PySem.Value.int (120 : Int) 221)), (@PySem.DictEntry.mk (108 : Int) (@PySem.Value.int (108 : Int) 438) (@PySem.Value.int (120 : Int) 221)), (@PySem.DictEntry.mk (109 : Int) (@PySem.Value.int (109 : Int) 440) (@PySem.Value.int (120 : Int) 221)), (@PySem.DictEntry.mk (110 : Int) (@PySem.Value.int (110 : Int) 442) (@PySem.Value.int (120 : Int) 221)), (@PySem.DictEntry.mk (111 : Int) (@PySem.Value.int (111 : Int) 444) (@PySem.Value.int (120 : Int) 221))]) 112) (@List.toArray (@Option @PySem.Value) []))
noncomputable def hG2x112_40 (P : Params) : Obj := (@PySem.Obj.mk (@PySem.Value.type "range_iterator") (@Option.none @Nat) (@PySem.Data.fields (@List.toArray @PySem.Value [(@PySem.Value.int (112 : Int) 0), (@PySem.Value.int (16 : Int) 0), (@PySem.Value.int (1 : Int) 0)])) (@List.toArray (@Option @PySem.Value) []))
noncomputable def treeG2x112 (P : Params) : BT := (BT.node (boot_o_0 P) (BT.node (boot_o_1 P) (BT.node (hG0_3 P) (BT.node (boot_o_7 P) (BT.node (hG0_15 P) (BT.node (hG0_31 P) BT.nil BT.nil) BT.nil) (BT.node (hG0_23 P) (BT.node (hG2x112_39 P) BT.nil BT.nil) BT.nil)) (BT.node (hp_11 P) (BT.node (hG0_19 P) (BT.node (hG0_35 P) BT.nil BT.nil) BT.nil) (BT.node (hG0_27 P) BT.nil BT.nil))) (BT.node (boot_o_5 P) (BT.node (boot_o_9 P) (BT.node (hG0_17 P) (BT.node (hG0_33 P) BT.nil BT.nil) BT.nil) (BT.node (hG0_25 P) BT.nil BT.nil)) (BT.node (hp_13 P) (BT.node (hG0_21 P) (BT.node (hG2x0_37 P) BT.nil BT.nil) BT.nil) (BT.node (hG0_29 P) BT.nil BT.nil)))) (BT.node (boot_o_2 P) (BT.node (boot_o_4 P) (BT.node (boot_o_8 P) (BT.node (hG0_16 P) (BT.node (hG0_32 P) BT.nil BT.nil) BT.nil) (BT.node (hG0_24 P) (BT.node (hG2x112_40 P) BT.nil BT.nil) BT.nil)) (BT.node (hG0_12 P) (BT.node (hG0_20 P) (BT.node (hG2x0_36 P) BT.nil BT.nil) BT.nil) (BT.node (hG0_28 P) BT.nil BT.nil))) (BT.node (boot_o_6 P) (BT.node (boot_o_10 P) (BT.node (hG0_18 P) (BT.node (hG0_34 P) BT.nil BT.nil) BT.nil) (BT.node (hG0_26 P) BT.nil BT.nil)) (BT.node (hp_14 P) (BT.node (hG0_22 P) (BT.node (hG2x0_38 P) BT.nil BT.nil) BT.nil) (BT.node (hG0_30 P) BT.nil BT.nil)))))
noncomputable def h_G2x112_q (w : World) (os : OsState) : Prop := ∀ k : Result → Sem Fin, segGoT treeTable p9 w 11 ann9 1 640 (SharedT.mk (treeG2x96 w.params) 41 (@PySem.Life.mk [] [] [] 0 [] [] @Bool.false (@List.toArray @Nat []) [] 0 @Bool.false @Bool.false @Bool.false (0 : Int) [(2000 : Int), (10 : Int), (10 : Int)] @Bool.false 0 @Bool.true [] [] 0 @Bool.false) (Array.mk []) (@PySem.Drawn.mk 0 0 0 0) 414 os) (Thread.mk (denote treeTable (Code.builtin "dict.fromkeys.loop" (Args.mk [(@PySem.Value.ref 39), (@PySem.Value.ref 40), (@PySem.Value.int (120 : Int) 221)] []))) (Code.builtin "dict.fromkeys.loop" (Args.mk [(@PySem.Value.ref 39), (@PySem.Value.ref 40), (@PySem.Value.int (120 : Int) 221)] [])) (@PySem.Pos.mk 6 8 6 42) [Frame.ret k none false [] c9 (@PySem.Pos.mk 6 8 6 42) [(@PySem.Value.ref 36), (@PySem.Value.ref 37), (@PySem.Value.int (120 : Int) 221)], topFrame (@PySem.Pos.mk 0 0 0 0)]) = some ((SharedT.mk (treeG2x112 w.params) 41 (@PySem.Life.mk [] [] [] 0 [] [] @Bool.false (@List.toArray @Nat []) [] 0 @Bool.false @Bool.false @Bool.false (0 : Int) [(2000 : Int), (10 : Int), (10 : Int)] @Bool.false 0 @Bool.true [] [] 0 @Bool.false) (Array.mk []) (@PySem.Drawn.mk 0 0 0 0) 446 os), (Thread.mk (denote treeTable (Code.builtin "dict.fromkeys.loop" (Args.mk [(@PySem.Value.ref 39), (@PySem.Value.ref 40), (@PySem.Value.int (120 : Int) 221)] []))) (Code.builtin "dict.fromkeys.loop" (Args.mk [(@PySem.Value.ref 39), (@PySem.Value.ref 40), (@PySem.Value.int (120 : Int) 221)] [])) (@PySem.Pos.mk 6 8 6 42) [Frame.ret k none false [] c9 (@PySem.Pos.mk 6 8 6 42) [(@PySem.Value.ref 36), (@PySem.Value.ref 37), (@PySem.Value.int (120 : Int) 221)], topFrame (@PySem.Pos.mk 0 0 0 0)]))
theorem h_G2x112_f (w : World) (os : OsState) : h_G2x112_q (w.withFollow "special-get-raises" false) os := by
  unfold h_G2x112_q
  intro k
  (rw [show @PySem.W.segGoT = _ from PySem.W.Fast.te10295753902157049106, show @PySem.denote = _ from PySem.W.Fast.te11892475500146522536, show treeTable = _ from PySem.W.Fast.te14364793385576792824]; kernel_rfl)
theorem h_G2x112_t (w : World) (os : OsState) : h_G2x112_q (w.withFollow "special-get-raises" true) os := by
  unfold h_G2x112_q
  intro k
  (rw [show @PySem.W.segGoT = _ from PySem.W.Fast.te10295753902157049106, show @PySem.denote = _ from PySem.W.Fast.te11892475500146522536, show treeTable = _ from PySem.W.Fast.te14364793385576792824]; kernel_rfl)
theorem h_G2x112 (w : World) (os : OsState) : ∀ k : Result → Sem Fin, segGoT treeTable p9 w 11 ann9 1 640 (SharedT.mk (treeG2x96 w.params) 41 (@PySem.Life.mk [] [] [] 0 [] [] @Bool.false (@List.toArray @Nat []) [] 0 @Bool.false @Bool.false @Bool.false (0 : Int) [(2000 : Int), (10 : Int), (10 : Int)] @Bool.false 0 @Bool.true [] [] 0 @Bool.false) (Array.mk []) (@PySem.Drawn.mk 0 0 0 0) 414 os) (Thread.mk (denote treeTable (Code.builtin "dict.fromkeys.loop" (Args.mk [(@PySem.Value.ref 39), (@PySem.Value.ref 40), (@PySem.Value.int (120 : Int) 221)] []))) (Code.builtin "dict.fromkeys.loop" (Args.mk [(@PySem.Value.ref 39), (@PySem.Value.ref 40), (@PySem.Value.int (120 : Int) 221)] [])) (@PySem.Pos.mk 6 8 6 42) [Frame.ret k none false [] c9 (@PySem.Pos.mk 6 8 6 42) [(@PySem.Value.ref 36), (@PySem.Value.ref 37), (@PySem.Value.int (120 : Int) 221)], topFrame (@PySem.Pos.mk 0 0 0 0)]) = some ((SharedT.mk (treeG2x112 w.params) 41 (@PySem.Life.mk [] [] [] 0 [] [] @Bool.false (@List.toArray @Nat []) [] 0 @Bool.false @Bool.false @Bool.false (0 : Int) [(2000 : Int), (10 : Int), (10 : Int)] @Bool.false 0 @Bool.true [] [] 0 @Bool.false) (Array.mk []) (@PySem.Drawn.mk 0 0 0 0) 446 os), (Thread.mk (denote treeTable (Code.builtin "dict.fromkeys.loop" (Args.mk [(@PySem.Value.ref 39), (@PySem.Value.ref 40), (@PySem.Value.int (120 : Int) 221)] []))) (Code.builtin "dict.fromkeys.loop" (Args.mk [(@PySem.Value.ref 39), (@PySem.Value.ref 40), (@PySem.Value.int (120 : Int) 221)] [])) (@PySem.Pos.mk 6 8 6 42) [Frame.ret k none false [] c9 (@PySem.Pos.mk 6 8 6 42) [(@PySem.Value.ref 36), (@PySem.Value.ref 37), (@PySem.Value.int (120 : Int) 221)], topFrame (@PySem.Pos.mk 0 0 0 0)])) := byRow2 "special-get-raises" (P := fun w => ∀ os, h_G2x112_q w os) h_G2x112_f h_G2x112_t w os
noncomputable def hG2x128_39 (P : Params) : Obj := (@PySem.Obj.mk (@PySem.Value.ref 31) (@Option.some @Nat 38) (@PySem.Data.dict (@List.toArray @PySem.DictEntry [(@PySem.DictEntry.mk (0 : Int) (@PySem.Value.int (0 : Int) 222) (@PySem.Value.int (120 : Int) 221)), (@PySem.DictEntry.mk (1 : Int) (@PySem.Value.int (1 : Int) 224) (@PySem.Value.int (120 : Int) 221)), (@PySem.DictEntry.mk (2 : Int) (@PySem.Value.int (2 : Int) 226) (@PySem.Value.int (120 : Int) 221)), (@PySem.DictEntry.mk (3 : Int) (@PySem.Value.int (3 : Int) 228) (@PySem.Value.int (120 : Int) 221)), (@PySem.DictEntry.mk (4 : Int) (@PySem.Value.int (4 : Int) 230) (@PySem.Value.int (120 : Int) 221)), (@PySem.DictEntry.mk (5 : Int) (@PySem.Value.int (5 : Int) 232) (@PySem.Value.int (120 : Int) 221)), (@PySem.DictEntry.mk (6 : Int) (@PySem.Value.int (6 : Int) 234) (@PySem.Value.int (120 : Int) 221)), (@PySem.DictEntry.mk (7 : Int) (@PySem.Value.int (7 : Int) 236) (@PySem.Value.int (120 : Int) 221)), (@PySem.DictEntry.mk (8 : Int) (@PySem.Value.int (8 : Int) 238) (@PySem.Value.int (120 : Int) 221)), (@PySem.DictEntry.mk (9 : Int) (@PySem.Value.int (9 : Int) 240) (@PySem.Value.int (120 : Int) 221)), (@PySem.DictEntry.mk (10 : Int) (@PySem.Value.int (10 : Int) 242) (@PySem.Value.int (120 : Int) 221)), (@PySem.DictEntry.mk (11 : Int) (@PySem.Value.int (11 : Int) 244) (@PySem.Value.int (120 : Int) 221)), (@PySem.DictEntry.mk (12 : Int) (@PySem.Value.int (12 : Int) 246) (@PySem.Value.int (120 : Int) 221)), (@PySem.DictEntry.mk (13 : Int) (@PySem.Value.int (13 : Int) 248) (@PySem.Value.int (120 : Int) 221)), (@PySem.DictEntry.mk (14 : Int) (@PySem.Value.int (14 : Int) 250) (@PySem.Value.int (120 : Int) 221)), (@PySem.DictEntry.mk (15 : Int) (@PySem.Value.int (15 : Int) 252) (@PySem.Value.int (120 : Int) 221)), (@PySem.DictEntry.mk (16 : Int) (@PySem.Value.int (16 : Int) 254) (@PySem.Value.int (120 : Int) 221)), (@PySem.DictEntry.mk (17 : Int) (@PySem.Value.int (17 : Int) 256) (@PySem.Value.int (120 : Int) 221)), (@PySem.DictEntry.mk (18 : Int) (@PySem.Value.int (18 : Int) 258) (@PySem.Value.int (120 : Int) 221)), (@PySem.DictEntry.mk (19 : Int) (@PySem.Value.int (19 : Int) 260) (@PySem.Value.int (120 : Int) 221)), (@PySem.DictEntry.mk (20 : Int) (@PySem.Value.int (20 : Int) 262) (@PySem.Value.int (120 : Int) 221)), (@PySem.DictEntry.mk (21 : Int) (@PySem.Value.int (21 : Int) 264) (@PySem.Value.int (120 : Int) 221)), (@PySem.DictEntry.mk (22 : Int) (@PySem.Value.int (22 : Int) 266) (@PySem.Value.int (120 : Int) 221)), (@PySem.DictEntry.mk (23 : Int) (@PySem.Value.int (23 : Int) 268) (@PySem.Value.int (120 : Int) 221)), (@PySem.DictEntry.mk (24 : Int) (@PySem.Value.int (24 : Int) 270) (@PySem.Value.int (120 : Int) 221)), (@PySem.DictEntry.mk (25 : Int) (@PySem.Value.int (25 : Int) 272) (@PySem.Value.int (120 : Int) 221)), (@PySem.DictEntry.mk (26 : Int) (@PySem.Value.int (26 : Int) 274) (@PySem.Value.int (120 : Int) 221)), (@PySem.DictEntry.mk (27 : Int) (@PySem.Value.int (27 : Int) 276) (@PySem.Value.int (120 : Int) 221)), (@PySem.DictEntry.mk (28 : Int) (@PySem.Value.int (28 : Int) 278) (@PySem.Value.int (120 : Int) 221)), (@PySem.DictEntry.mk (29 : Int) (@PySem.Value.int (29 : Int) 280) (@PySem.Value.int (120 : Int) 221)), (@PySem.DictEntry.mk (30 : Int) (@PySem.Value.int (30 : Int) 282) (@PySem.Value.int (120 : Int) 221)), (@PySem.DictEntry.mk (31 : Int) (@PySem.Value.int (31 : Int) 284) (@PySem.Value.int (120 : Int) 221)), (@PySem.DictEntry.mk (32 : Int) (@PySem.Value.int (32 : Int) 286) (@PySem.Value.int (120 : Int) 221)), (@PySem.DictEntry.mk (33 : Int) (@PySem.Value.int (33 : Int) 288) (@PySem.Value.int (120 : Int) 221)), (@PySem.DictEntry.mk (34 : Int) (@PySem.Value.int (34 : Int) 290) (@PySem.Value.int (120 : Int) 221)), (@PySem.DictEntry.mk (35 : Int) (@PySem.Value.int (35 : Int) 292) (@PySem.Value.int (120 : Int) 221)), (@PySem.DictEntry.mk (36 : Int) (@PySem.Value.int (36 : Int) 294) (@PySem.Value.int (120 : Int) 221)), (@PySem.DictEntry.mk (37 : Int) (@PySem.Value.int (37 : Int) 296) (@PySem.Value.int (120 : Int) 221)), (@PySem.DictEntry.mk (38 : Int) (@PySem.Value.int (38 : Int) 298) (@PySem.Value.int (120 : Int) 221)), (@PySem.DictEntry.mk (39 : Int) (@PySem.Value.int (39 : Int) 300) (@PySem.Value.int (120 : Int) 221)), (@PySem.DictEntry.mk (40 : Int) (@PySem.Value.int (40 : Int) 302) (@PySem.Value.int (120 : Int) 221)), (@PySem.DictEntry.mk (41 : Int) (@PySem.Value.int (41 : Int) 304) (@PySem.Value.int (120 : Int) 221)), (@PySem.DictEntry.mk (42 : Int) (@PySem.Value.int (42 : Int) 306) (@PySem.Value.int (120 : Int) 221)), (@PySem.DictEntry.mk (43 : Int) (@PySem.Value.int (43 : Int) 308) (@PySem.Value.int (120 : Int) 221)), (@PySem.DictEntry.mk (44 : Int) (@PySem.Value.int (44 : Int) 310) (@PySem.Value.int (120 : Int) 221)), (@PySem.DictEntry.mk (45 : Int) (@PySem.Value.int (45 : Int) 312) (@PySem.Value.int (120 : Int) 221)), (@PySem.DictEntry.mk (46 : Int) (@PySem.Value.int (46 : Int) 314) (@PySem.Value.int (120 : Int) 221)), (@PySem.DictEntry.mk (47 : Int) (@PySem.Value.int (47 : Int) 316) (@PySem.Value.int (120 : Int) 221)), (@PySem.DictEntry.mk (48 : Int) (@PySem.Value.int (48 : Int) 318) (@PySem.Value.int (120 : Int) 221)), (@PySem.DictEntry.mk (49 : Int) (@PySem.Value.int (49 : Int) 320) (@PySem.Value.int (120 : Int) 221)), (@PySem.DictEntry.mk (50 : Int) (@PySem.Value.int (50 : Int) 322) (@PySem.Value.int (120 : Int) 221)), (@PySem.DictEntry.mk (51 : Int) (@PySem.Value.int (51 : Int) 324) (@PySem.Value.int (120 : Int) 221)), (@PySem.DictEntry.mk (52 : Int) (@PySem.Value.int (52 : Int) 326) (@PySem.Value.int (120 : Int) 221)), (@PySem.DictEntry.mk (53 : Int) (@PySem.Value.int (53 : Int) 328) (@PySem.Value.int (120 : Int) 221)), (@PySem.DictEntry.mk (54 : Int) (@PySem.Value.int (54 : Int) 330) (@PySem.Value.int (120 : Int) 221)), (@PySem.DictEntry.mk (55 : Int) (@PySem.Value.int (55 : Int) 332) (@PySem.Value.int (120 : Int) 221)), (@PySem.DictEntry.mk (56 : Int) (@PySem.Value.int (56 : Int) 334) (@PySem.Value.int (120 : Int) 221)), (@PySem.DictEntry.mk (57 : Int) (@PySem.Value.int (57 : Int) 336) (@PySem.Value.int (120 : Int) 221)), (@PySem.DictEntry.mk (58 : Int) (@PySem.Value.int (58 : Int) 338) (@PySem.Value.int (120 : Int) 221)), (@PySem.DictEntry.mk (59 : Int) (@PySem.Value.int (59 : Int) 340) (@PySem.Value.int (120 : Int) 221)), (@PySem.DictEntry.mk (60 : Int) (@PySem.Value.int (60 : Int) 342) (@PySem.Value.int (120 : Int) 221)), (@PySem.DictEntry.mk (61 : Int) (@PySem.Value.int (61 : Int) 344) (@PySem.Value.int (120 : Int) 221)), (@PySem.DictEntry.mk (62 : Int) (@PySem.Value.int (62 : Int) 346) (@PySem.Value.int (120 : Int) 221)), (@PySem.DictEntry.mk (63 : Int) (@PySem.Value.int (63 : Int) 348) (@PySem.Value.int (120 : Int) 221)), (@PySem.DictEntry.mk (64 : Int) (@PySem.Value.int (64 : Int) 350) (@PySem.Value.int (120 : Int) 221)), (@PySem.DictEntry.mk (65 : Int) (@PySem.Value.int (65 : Int) 352) (@PySem.Value.int (120 : Int) 221)), (@PySem.DictEntry.mk (66 : Int) (@PySem.Value.int (66 : Int) 354) (@PySem.Value.int (120 : Int) 221)), (@PySem.DictEntry.mk (67 : Int) (@PySem.Value.int (67 : Int) 356) (@PySem.Value.int (120 : Int) 221)), (@PySem.DictEntry.mk (68 : Int) (@PySem.Value.int (68 : Int) 358) (@PySem.Value.int (120 : Int) 221)), (@PySem.DictEntry.mk (69 : Int) (@PySem.Value.int (69 : Int) 360) (@PySem.Value.int (120 : Int) 221)), (@PySem.DictEntry.mk (70 : Int) (@PySem.Value.int (70 : Int) 362) (@PySem.Value.int (120 : Int) 221)), (@PySem.DictEntry.mk (71 : Int) (@PySem.Value.int (71 : Int) 364) (@PySem.Value.int (120 : Int) 221)), (@PySem.DictEntry.mk (72 : Int) (@PySem.Value.int (72 : Int) 366) (@PySem.Value.int (120 : Int) 221)), (@PySem.DictEntry.mk (73 : Int) (@PySem.Value.int (73 : Int) 368) (@PySem.Value.int (120 : Int) 221)), (@PySem.DictEntry.mk (74 : Int) (@PySem.Value.int (74 : Int) 370) (@PySem.Value.int (120 : Int) 221)), (@PySem.DictEntry.mk (75 : Int) (@PySem.Value.int (75 : Int) 372) (@PySem.Value.int (120 : Int) 221)), (@PySem.DictEntry.mk (76 : Int) (@PySem.Value.int (76 : Int) 374) (@PySem.Value.int (120 : Int) 221)), (@PySem.DictEntry.mk (77 : Int) (@PySem.Value.int (77 : Int) 376) (@PySem.Value.int (120 : Int) 221)), (@PySem.DictEntry.mk (78 : Int) (@PySem.Value.int (78 : Int) 378) (@PySem.Value.int (120 : Int) 221)), (@PySem.DictEntry.mk (79 : Int) (@PySem.Value.int (79 : Int) 380) (@PySem.Value.int (120 : Int) 221)), (@PySem.DictEntry.mk (80 : Int) (@PySem.Value.int (80 : Int) 382) (@PySem.Value.int (120 : Int) 221)), (@PySem.DictEntry.mk (81 : Int) (@PySem.Value.int (81 : Int) 384) (@PySem.Value.int (120 : Int) 221)), (@PySem.DictEntry.mk (82 : Int) (@PySem.Value.int (82 : Int) 386) (@PySem.Value.int (120 : Int) 221)), (@PySem.DictEntry.mk (83 : Int) (@PySem.Value.int (83 : Int) 388) (@PySem.Value.int (120 : Int) 221)), (@PySem.DictEntry.mk (84 : Int) (@PySem.Value.int (84 : Int) 390) (@PySem.Value.int (120 : Int) 221)), (@PySem.DictEntry.mk (85 : Int) (@PySem.Value.int (85 : Int) 392) (@PySem.Value.int (120 : Int) 221)), (@PySem.DictEntry.mk (86 : Int) (@PySem.Value.int (86 : Int) 394) (@PySem.Value.int (120 : Int) 221)), (@PySem.DictEntry.mk (87 : Int) (@PySem.Value.int (87 : Int) 396) (@PySem.Value.int (120 : Int) 221)), (@PySem.DictEntry.mk (88 : Int) (@PySem.Value.int (88 : Int) 398) (@PySem.Value.int (120 : Int) 221)), (@PySem.DictEntry.mk (89 : Int) (@PySem.Value.int (89 : Int) 400) (@PySem.Value.int (120 : Int) 221)), (@PySem.DictEntry.mk (90 : Int) (@PySem.Value.int (90 : Int) 402) (@PySem.Value.int (120 : Int) 221)), (@PySem.DictEntry.mk (91 : Int) (@PySem.Value.int (91 : Int) 404) (@PySem.Value.int (120 : Int) 221)), (@PySem.DictEntry.mk (92 : Int) (@PySem.Value.int (92 : Int) 406) (@PySem.Value.int (120 : Int) 221)), (@PySem.DictEntry.mk (93 : Int) (@PySem.Value.int (93 : Int) 408) (@PySem.Value.int (120 : Int) 221)), (@PySem.DictEntry.mk (94 : Int) (@PySem.Value.int (94 : Int) 410) (@PySem.Value.int (120 : Int) 221)), (@PySem.DictEntry.mk (95 : Int) (@PySem.Value.int (95 : Int) 412) (@PySem.Value.int (120 : Int) 221)), (@PySem.DictEntry.mk (96 : Int) (@PySem.Value.int (96 : Int) 414) (@PySem.Value.int (120 : Int) 221)), (@PySem.DictEntry.mk (97 : Int) (@PySem.Value.int (97 : Int) 416) (@PySem.Value.int (120 : Int) 221)), (@PySem.DictEntry.mk (98 : Int) (@PySem.Value.int (98 : Int) 418) (@PySem.Value.int (120 : Int) 221)), (@PySem.DictEntry.mk (99 : Int) (@PySem.Value.int (99 : Int) 420) (@PySem.Value.int (120 : Int) 221)), (@PySem.DictEntry.mk (100 : Int) (@PySem.Value.int (100 : Int) 422) (@PySem.Value.int (120 : Int) 221)), (@PySem.DictEntry.mk (101 : Int) (@PySem.Value.int (101 : Int) 424) (@PySem.Value.int (120 : Int) 221)), (@PySem.DictEntry.mk (102 : Int) (@PySem.Value.int (102 : Int) 426) (@PySem.Value.int (120 : Int) 221)), (@PySem.DictEntry.mk (103 : Int) (@PySem.Value.int (103 : Int) 428) (@PySem.Value.int (120 : Int) 221)), (@PySem.DictEntry.mk (104 : Int) (@PySem.Value.int (104 : Int) 430) (@PySem.Value.int (120 : Int) 221)), (@PySem.DictEntry.mk (105 : Int) (@PySem.Value.int (105 : Int) 432) (@PySem.Value.int (120 : Int) 221)), (@PySem.DictEntry.mk (106 : Int) (@PySem.Value.int (106 : Int) 434) (@PySem.Value.int (120 : Int) 221)), (@PySem.DictEntry.mk (107 : Int) (@PySem.Value.int (107 : Int) 436) (@PySem.Value.int (120 : Int) 221)), (@PySem.DictEntry.mk (108 : Int) (@PySem.Value.int (108 : Int) 438) (@PySem.Value.int (120 : Int) 221)), (@PySem.DictEntry.mk (109 : Int) (@PySem.Value.int (109 : Int) 440) (@PySem.Value.int (120 : Int) 221)), (@PySem.DictEntry.mk (110 : Int) (@PySem.Value.int (110 : Int) 442) (@PySem.Value.int (120 : Int) 221)), (@PySem.DictEntry.mk (111 : Int) (@PySem.Value.int (111 : Int) 444) (@PySem.Value.int (120 : Int) 221)), (@PySem.DictEntry.mk (112 : Int) (@PySem.Value.int (112 : Int) 446) (@PySem.Value.int (120 : Int) 221)), (@PySem.DictEntry.mk (113 : Int) (@PySem.Value.int (113 : Int) 448) (@PySem.Value.int (120 : Int) 221)), (@PySem.DictEntry.mk (114 : Int) (@PySem.Value.int (114 : Int) 450) (@PySem.Value.int (120 : Int) 221)), (@PySem.DictEntry.mk (115 : Int) (@PySem.Value.int (115 : Int) 452) (@PySem.Value.int (120 : Int) 221)), (@PySem.DictEntry.mk (116 : Int) (@PySem.Value.int (116 : Int) 454) (@PySem.Value.int (120 : Int) 221)), (@PySem.DictEntry.mk (117 : Int) (@PySem.Value.int (117 : Int) 456) (@PySem.Value.int (120 : Int) 221)), (@PySem.DictEntry.mk (118 : Int) (@PySem.Value.int (118 : Int) 458) (@PySem.Value.int (120 : Int) 221)), (@PySem.DictEntry.mk (119 : Int) (@PySem.Value.int (119 : Int) 460) (@PySem.Value.int (120 : Int) 221)), (@PySem.DictEntry.mk (120 : Int) (@PySem.Value.int (120 : Int) 462) (@PySem.Value.int (120 : Int) 221)), (@PySem.DictEntry.mk (121 : Int) (@PySem.Value.int (121 : Int) 464) (@PySem.Value.int (120 : Int) 221)), (@PySem.DictEntry.mk (122 : Int) (@PySem.Value.int (122 : Int) 466) (@PySem.Value.int (120 : Int) 221)), (@PySem.DictEntry.mk (123 : Int) (@PySem.Value.int (123 : Int) 468) (@PySem.Value.int (120 : Int) 221)), (@PySem.DictEntry.mk (124 : Int) (@PySem.Value.int (124 : Int) 470) (@PySem.Value.int (120 : Int) 221)), (@PySem.DictEntry.mk (125 : Int) (@PySem.Value.int (125 : Int) 472) (@PySem.Value.int (120 : Int) 221)), (@PySem.DictEntry.mk (126 : Int) (@PySem.Value.int (126 : Int) 474) (@PySem.Value.int (120 : Int) 221)), (@PySem.DictEntry.mk (127 : Int) (@PySem.Value.int (127 : Int) 476) (@PySem.Value.int (120 : Int) 221))]) 128) (@List.toArray (@Option @PySem.Value) []))
noncomputable def hG2x128_40 (P : Params) : Obj := (@PySem.Obj.mk (@PySem.Value.type "range_iterator") (@Option.none @Nat) (@PySem.Data.fields (@List.toArray @PySem.Value [(@PySem.Value.int (128 : Int) 0), (@PySem.Value.int (0 : Int) 0), (@PySem.Value.int (1 : Int) 0)])) (@List.toArray (@Option @PySem.Value) []))
noncomputable def treeG2x128 (P : Params) : BT := (BT.node (boot_o_0 P) (BT.node (boot_o_1 P) (BT.node (hG0_3 P) (BT.node (boot_o_7 P) (BT.node (hG0_15 P) (BT.node (hG0_31 P) BT.nil BT.nil) BT.nil) (BT.node (hG0_23 P) (BT.node (hG2x128_39 P) BT.nil BT.nil) BT.nil)) (BT.node (hp_11 P) (BT.node (hG0_19 P) (BT.node (hG0_35 P) BT.nil BT.nil) BT.nil) (BT.node (hG0_27 P) BT.nil BT.nil))) (BT.node (boot_o_5 P) (BT.node (boot_o_9 P) (BT.node (hG0_17 P) (BT.node (hG0_33 P) BT.nil BT.nil) BT.nil) (BT.node (hG0_25 P) BT.nil BT.nil)) (BT.node (hp_13 P) (BT.node (hG0_21 P) (BT.node (hG2x0_37 P) BT.nil BT.nil) BT.nil) (BT.node (hG0_29 P) BT.nil BT.nil)))) (BT.node (boot_o_2 P) (BT.node (boot_o_4 P) (BT.node (boot_o_8 P) (BT.node (hG0_16 P) (BT.node (hG0_32 P) BT.nil BT.nil) BT.nil) (BT.node (hG0_24 P) (BT.node (hG2x128_40 P) BT.nil BT.nil) BT.nil)) (BT.node (hG0_12 P) (BT.node (hG0_20 P) (BT.node (hG2x0_36 P) BT.nil BT.nil) BT.nil) (BT.node (hG0_28 P) BT.nil BT.nil))) (BT.node (boot_o_6 P) (BT.node (boot_o_10 P) (BT.node (hG0_18 P) (BT.node (hG0_34 P) BT.nil BT.nil) BT.nil) (BT.node (hG0_26 P) BT.nil BT.nil)) (BT.node (hp_14 P) (BT.node (hG0_22 P) (BT.node (hG2x0_38 P) BT.nil BT.nil) BT.nil) (BT.node (hG0_30 P) BT.nil BT.nil)))))
noncomputable def h_G2x128_q (w : World) (os : OsState) : Prop := ∀ k : Result → Sem Fin, segGoT treeTable p9 w 11 ann9 1 640 (SharedT.mk (treeG2x112 w.params) 41 (@PySem.Life.mk [] [] [] 0 [] [] @Bool.false (@List.toArray @Nat []) [] 0 @Bool.false @Bool.false @Bool.false (0 : Int) [(2000 : Int), (10 : Int), (10 : Int)] @Bool.false 0 @Bool.true [] [] 0 @Bool.false) (Array.mk []) (@PySem.Drawn.mk 0 0 0 0) 446 os) (Thread.mk (denote treeTable (Code.builtin "dict.fromkeys.loop" (Args.mk [(@PySem.Value.ref 39), (@PySem.Value.ref 40), (@PySem.Value.int (120 : Int) 221)] []))) (Code.builtin "dict.fromkeys.loop" (Args.mk [(@PySem.Value.ref 39), (@PySem.Value.ref 40), (@PySem.Value.int (120 : Int) 221)] [])) (@PySem.Pos.mk 6 8 6 42) [Frame.ret k none false [] c9 (@PySem.Pos.mk 6 8 6 42) [(@PySem.Value.ref 36), (@PySem.Value.ref 37), (@PySem.Value.int (120 : Int) 221)], topFrame (@PySem.Pos.mk 0 0 0 0)]) = some ((SharedT.mk (treeG2x128 w.params) 41 (@PySem.Life.mk [] [] [] 0 [] [] @Bool.false (@List.toArray @Nat []) [] 0 @Bool.false @Bool.false @Bool.false (0 : Int) [(2000 : Int), (10 : Int), (10 : Int)] @Bool.false 0 @Bool.true [] [] 0 @Bool.false) (Array.mk []) (@PySem.Drawn.mk 0 0 0 0) 478 os), (Thread.mk (denote treeTable (Code.builtin "dict.fromkeys.loop" (Args.mk [(@PySem.Value.ref 39), (@PySem.Value.ref 40), (@PySem.Value.int (120 : Int) 221)] []))) (Code.builtin "dict.fromkeys.loop" (Args.mk [(@PySem.Value.ref 39), (@PySem.Value.ref 40), (@PySem.Value.int (120 : Int) 221)] [])) (@PySem.Pos.mk 6 8 6 42) [Frame.ret k none false [] c9 (@PySem.Pos.mk 6 8 6 42) [(@PySem.Value.ref 36), (@PySem.Value.ref 37), (@PySem.Value.int (120 : Int) 221)], topFrame (@PySem.Pos.mk 0 0 0 0)]))
theorem h_G2x128_f (w : World) (os : OsState) : h_G2x128_q (w.withFollow "special-get-raises" false) os := by
  unfold h_G2x128_q
  intro k
  (rw [show @PySem.W.segGoT = _ from PySem.W.Fast.te10295753902157049106, show @PySem.denote = _ from PySem.W.Fast.te11892475500146522536, show treeTable = _ from PySem.W.Fast.te14364793385576792824]; kernel_rfl)
theorem h_G2x128_t (w : World) (os : OsState) : h_G2x128_q (w.withFollow "special-get-raises" true) os := by
  unfold h_G2x128_q
  intro k
  (rw [show @PySem.W.segGoT = _ from PySem.W.Fast.te10295753902157049106, show @PySem.denote = _ from PySem.W.Fast.te11892475500146522536, show treeTable = _ from PySem.W.Fast.te14364793385576792824]; kernel_rfl)
theorem h_G2x128 (w : World) (os : OsState) : ∀ k : Result → Sem Fin, segGoT treeTable p9 w 11 ann9 1 640 (SharedT.mk (treeG2x112 w.params) 41 (@PySem.Life.mk [] [] [] 0 [] [] @Bool.false (@List.toArray @Nat []) [] 0 @Bool.false @Bool.false @Bool.false (0 : Int) [(2000 : Int), (10 : Int), (10 : Int)] @Bool.false 0 @Bool.true [] [] 0 @Bool.false) (Array.mk []) (@PySem.Drawn.mk 0 0 0 0) 446 os) (Thread.mk (denote treeTable (Code.builtin "dict.fromkeys.loop" (Args.mk [(@PySem.Value.ref 39), (@PySem.Value.ref 40), (@PySem.Value.int (120 : Int) 221)] []))) (Code.builtin "dict.fromkeys.loop" (Args.mk [(@PySem.Value.ref 39), (@PySem.Value.ref 40), (@PySem.Value.int (120 : Int) 221)] [])) (@PySem.Pos.mk 6 8 6 42) [Frame.ret k none false [] c9 (@PySem.Pos.mk 6 8 6 42) [(@PySem.Value.ref 36), (@PySem.Value.ref 37), (@PySem.Value.int (120 : Int) 221)], topFrame (@PySem.Pos.mk 0 0 0 0)]) = some ((SharedT.mk (treeG2x128 w.params) 41 (@PySem.Life.mk [] [] [] 0 [] [] @Bool.false (@List.toArray @Nat []) [] 0 @Bool.false @Bool.false @Bool.false (0 : Int) [(2000 : Int), (10 : Int), (10 : Int)] @Bool.false 0 @Bool.true [] [] 0 @Bool.false) (Array.mk []) (@PySem.Drawn.mk 0 0 0 0) 478 os), (Thread.mk (denote treeTable (Code.builtin "dict.fromkeys.loop" (Args.mk [(@PySem.Value.ref 39), (@PySem.Value.ref 40), (@PySem.Value.int (120 : Int) 221)] []))) (Code.builtin "dict.fromkeys.loop" (Args.mk [(@PySem.Value.ref 39), (@PySem.Value.ref 40), (@PySem.Value.int (120 : Int) 221)] [])) (@PySem.Pos.mk 6 8 6 42) [Frame.ret k none false [] c9 (@PySem.Pos.mk 6 8 6 42) [(@PySem.Value.ref 36), (@PySem.Value.ref 37), (@PySem.Value.int (120 : Int) 221)], topFrame (@PySem.Pos.mk 0 0 0 0)])) := byRow2 "special-get-raises" (P := fun w => ∀ os, h_G2x128_q w os) h_G2x128_f h_G2x128_t w os
noncomputable def hG2_3 (P : Params) : Obj := (@PySem.Obj.mk (@PySem.Value.type "dict") (@Option.none @Nat) (@PySem.Data.dict (@List.toArray @PySem.DictEntry [(@PySem.DictEntry.mk (@PySem.PyData.keyHash P (@PySem.Str.ofString "__name__")) (@PySem.Value.str (@PySem.Str.ofString "__name__") 165) (@PySem.Value.str (@PySem.Str.ofString "cpy313.idlelib.pyparse") 187)), (@PySem.DictEntry.mk (@PySem.PyData.keyHash P (@PySem.Str.ofString "__doc__")) (@PySem.Value.str (@PySem.Str.ofString "__doc__") 166) @PySem.Value.none), (@PySem.DictEntry.mk (@PySem.PyData.keyHash P (@PySem.Str.ofString "__package__")) (@PySem.Value.str (@PySem.Str.ofString "__package__") 167) @PySem.Value.none), (@PySem.DictEntry.mk (@PySem.PyData.keyHash P (@PySem.Str.ofString "__loader__")) (@PySem.Value.str (@PySem.Str.ofString "__loader__") 168) (@PySem.Value.builtin "__main__.__loader__#opaque")), (@PySem.DictEntry.mk (@PySem.PyData.keyHash P (@PySem.Str.ofString "__spec__")) (@PySem.Value.str (@PySem.Str.ofString "__spec__") 169) @PySem.Value.none), (@PySem.DictEntry.mk (@PySem.PyData.keyHash P (@PySem.Str.ofString "__annotations__")) (@PySem.Value.str (@PySem.Str.ofString "__annotations__") 170) (@PySem.Value.ref 6)), (@PySem.DictEntry.mk (@PySem.PyData.keyHash P (@PySem.Str.ofString "__builtins__")) (@PySem.Value.str (@PySem.Str.ofString "__builtins__") 171) (@PySem.Value.ref 4)), (@PySem.DictEntry.mk (@PySem.PyData.keyHash P (@PySem.Str.ofString "__file__")) (@PySem.Value.str (@PySem.Str.ofString "__file__") 173) (@PySem.Value.str (@PySem.Str.ofString "/claim/cut.py") 172)), (@PySem.DictEntry.mk (@PySem.PyData.keyHash P (@PySem.Str.ofString "__cached__")) (@PySem.Value.str (@PySem.Str.ofString "__cached__") 174) @PySem.Value.none), (@PySem.DictEntry.mk (@PySem.PyData.keyHash P (@PySem.Str.ofString "ParseMap")) (@PySem.Value.str (@PySem.Str.ofString "ParseMap") 216) (@PySem.Value.ref 31)), (@PySem.DictEntry.mk (@PySem.PyData.keyHash P (@PySem.Str.ofString "trans")) (@PySem.Value.str (@PySem.Str.ofString "trans") 478) (@PySem.Value.ref 39))]) 11) (@List.toArray (@Option @PySem.Value) []))
noncomputable def hG2_41 (P : Params) : Obj := (@PySem.Obj.mk (@PySem.Value.type "tuple") (@Option.none @Nat) (@PySem.Data.seq (@List.toArray @PySem.Value []) 0) (@List.toArray (@Option @PySem.Value) []))
noncomputable def hG2_42 (P : Params) : Obj := (@PySem.Obj.mk (@PySem.Value.type "StopIteration") (@Option.none @Nat) (@PySem.Data.fields (@List.toArray @PySem.Value [(@PySem.Value.ref 41), @PySem.Value.none, @PySem.Value.none, @PySem.Value.none, (@PySem.Value.bool @Bool.false), @PySem.Value.none])) (@List.toArray (@Option @PySem.Value) []))
noncomputable def treeG2 (P : Params) : BT := (BT.node (boot_o_0 P) (BT.node (boot_o_1 P) (BT.node (hG2_3 P) (BT.node (boot_o_7 P) (BT.node (hG0_15 P) (BT.node (hG0_31 P) BT.nil BT.nil) BT.nil) (BT.node (hG0_23 P) (BT.node (hG2x128_39 P) BT.nil BT.nil) BT.nil)) (BT.node (hp_11 P) (BT.node (hG0_19 P) (BT.node (hG0_35 P) BT.nil BT.nil) BT.nil) (BT.node (hG0_27 P) BT.nil BT.nil))) (BT.node (boot_o_5 P) (BT.node (boot_o_9 P) (BT.node (hG0_17 P) (BT.node (hG0_33 P) BT.nil BT.nil) BT.nil) (BT.node (hG0_25 P) (BT.node (hG2_41 P) BT.nil BT.nil) BT.nil)) (BT.node (hp_13 P) (BT.node (hG0_21 P) (BT.node (hG2x0_37 P) BT.nil BT.nil) BT.nil) (BT.node (hG0_29 P) BT.nil BT.nil)))) (BT.node (boot_o_2 P) (BT.node (boot_o_4 P) (BT.node (boot_o_8 P) (BT.node (hG0_16 P) (BT.node (hG0_32 P) BT.nil BT.nil) BT.nil) (BT.node (hG0_24 P) (BT.node (hG2x128_40 P) BT.nil BT.nil) BT.nil)) (BT.node (hG0_12 P) (BT.node (hG0_20 P) (BT.node (hG2x0_36 P) BT.nil BT.nil) BT.nil) (BT.node (hG0_28 P) BT.nil BT.nil))) (BT.node (boot_o_6 P) (BT.node (boot_o_10 P) (BT.node (hG0_18 P) (BT.node (hG0_34 P) BT.nil BT.nil) BT.nil) (BT.node (hG0_26 P) (BT.node (hG2_42 P) BT.nil BT.nil) BT.nil)) (BT.node (hp_14 P) (BT.node (hG0_22 P) (BT.node (hG2x0_38 P) BT.nil BT.nil) BT.nil) (BT.node (hG0_30 P) BT.nil BT.nil)))))
noncomputable def h_G2_q (w : World) (os : OsState) : Prop := segRunT treeTable p9 w 11 ann9 1 23 (SharedT.mk (treeG2x128 w.params) 41 (@PySem.Life.mk [] [] [] 0 [] [] @Bool.false (@List.toArray @Nat []) [] 0 @Bool.false @Bool.false @Bool.false (0 : Int) [(2000 : Int), (10 : Int), (10 : Int)] @Bool.false 0 @Bool.true [] [] 0 @Bool.false) (Array.mk []) (@PySem.Drawn.mk 0 0 0 0) 478 os) (Thread.mk (denote treeTable (Code.builtin "dict.fromkeys.loop" (Args.mk [(@PySem.Value.ref 39), (@PySem.Value.ref 40), (@PySem.Value.int (120 : Int) 221)] []))) (Code.builtin "dict.fromkeys.loop" (Args.mk [(@PySem.Value.ref 39), (@PySem.Value.ref 40), (@PySem.Value.int (120 : Int) 221)] [])) (@PySem.Pos.mk 6 8 6 42) [Frame.ret (stk w os) none false [] c9 (@PySem.Pos.mk 6 8 6 42) [(@PySem.Value.ref 36), (@PySem.Value.ref 37), (@PySem.Value.int (120 : Int) 221)], topFrame (@PySem.Pos.mk 0 0 0 0)]) = some (Flow.next, (SharedT.mk (treeG2 w.params) 43 (@PySem.Life.mk [] [] [] 0 [] [] @Bool.false (@List.toArray @Nat []) [] 0 @Bool.false @Bool.false @Bool.false (0 : Int) [(2000 : Int), (10 : Int), (10 : Int)] @Bool.false 0 @Bool.true [] [] 0 @Bool.false) (Array.mk []) (@PySem.Drawn.mk 0 0 0 0) 479 os), c9, (@PySem.Pos.mk 6 0 6 5))
theorem h_G2_f (w : World) (os : OsState) : h_G2_q (w.withFollow "special-get-raises" false) os := by
  unfold h_G2_q
  (rw [show @PySem.W.segRunT = _ from PySem.W.Fast.te10110043849684766642, show @PySem.denote = _ from PySem.W.Fast.te11892475500146522536, show treeTable = _ from PySem.W.Fast.te14364793385576792824]; kernel_rfl)
theorem h_G2_t (w : World) (os : OsState) : h_G2_q (w.withFollow "special-get-raises" true) os := by
  unfold h_G2_q
  (rw [show @PySem.W.segRunT = _ from PySem.W.Fast.te10110043849684766642, show @PySem.denote = _ from PySem.W.Fast.te11892475500146522536, show treeTable = _ from PySem.W.Fast.te14364793385576792824]; kernel_rfl)
theorem h_G2 (w : World) (os : OsState) : segRunT treeTable p9 w 11 ann9 1 23 (SharedT.mk (treeG2x128 w.params) 41 (@PySem.Life.mk [] [] [] 0 [] [] @Bool.false (@List.toArray @Nat []) [] 0 @Bool.false @Bool.false @Bool.false (0 : Int) [(2000 : Int), (10 : Int), (10 : Int)] @Bool.false 0 @Bool.true [] [] 0 @Bool.false) (Array.mk []) (@PySem.Drawn.mk 0 0 0 0) 478 os) (Thread.mk (denote treeTable (Code.builtin "dict.fromkeys.loop" (Args.mk [(@PySem.Value.ref 39), (@PySem.Value.ref 40), (@PySem.Value.int (120 : Int) 221)] []))) (Code.builtin "dict.fromkeys.loop" (Args.mk [(@PySem.Value.ref 39), (@PySem.Value.ref 40), (@PySem.Value.int (120 : Int) 221)] [])) (@PySem.Pos.mk 6 8 6 42) [Frame.ret (stk w os) none false [] c9 (@PySem.Pos.mk 6 8 6 42) [(@PySem.Value.ref 36), (@PySem.Value.ref 37), (@PySem.Value.int (120 : Int) 221)], topFrame (@PySem.Pos.mk 0 0 0 0)]) = some (Flow.next, (SharedT.mk (treeG2 w.params) 43 (@PySem.Life.mk [] [] [] 0 [] [] @Bool.false (@List.toArray @Nat []) [] 0 @Bool.false @Bool.false @Bool.false (0 : Int) [(2000 : Int), (10 : Int), (10 : Int)] @Bool.false 0 @Bool.true [] [] 0 @Bool.false) (Array.mk []) (@PySem.Drawn.mk 0 0 0 0) 479 os), c9, (@PySem.Pos.mk 6 0 6 5)) := byRow2 "special-get-raises" (P := fun w => ∀ os, h_G2_q w os) h_G2_f h_G2_t w os
noncomputable def hG3_12 (P : Params) : Obj := (@PySem.Obj.mk @PySem.Value.none (@Option.none @Nat) (@PySem.Data.fields (@List.toArray @PySem.Value [(@PySem.Value.int (2 : Int) 0), (@PySem.Value.int (0 : Int) 0), (@PySem.Value.ref 20), (@PySem.Value.int (7 : Int) 0), (@PySem.Value.int (13 : Int) 0), (@PySem.Value.ref 46)])) (@List.toArray (@Option @PySem.Value) []))
noncomputable def hG3_39 (P : Params) : Obj := (@PySem.Obj.mk (@PySem.Value.ref 31) (@Option.some @Nat 38) (@PySem.Data.dict (@List.toArray @PySem.DictEntry [(@PySem.DictEntry.mk (0 : Int) (@PySem.Value.int (0 : Int) 222) (@PySem.Value.int (120 : Int) 221)), (@PySem.DictEntry.mk (1 : Int) (@PySem.Value.int (1 : Int) 224) (@PySem.Value.int (120 : Int) 221)), (@PySem.DictEntry.mk (2 : Int) (@PySem.Value.int (2 : Int) 226) (@PySem.Value.int (120 : Int) 221)), (@PySem.DictEntry.mk (3 : Int) (@PySem.Value.int (3 : Int) 228) (@PySem.Value.int (120 : Int) 221)), (@PySem.DictEntry.mk (4 : Int) (@PySem.Value.int (4 : Int) 230) (@PySem.Value.int (120 : Int) 221)), (@PySem.DictEntry.mk (5 : Int) (@PySem.Value.int (5 : Int) 232) (@PySem.Value.int (120 : Int) 221)), (@PySem.DictEntry.mk (6 : Int) (@PySem.Value.int (6 : Int) 234) (@PySem.Value.int (120 : Int) 221)), (@PySem.DictEntry.mk (7 : Int) (@PySem.Value.int (7 : Int) 236) (@PySem.Value.int (120 : Int) 221)), (@PySem.DictEntry.mk (8 : Int) (@PySem.Value.int (8 : Int) 238) (@PySem.Value.int (120 : Int) 221)), (@PySem.DictEntry.mk (9 : Int) (@PySem.Value.int (9 : Int) 240) (@PySem.Value.int (120 : Int) 221)), (@PySem.DictEntry.mk (10 : Int) (@PySem.Value.int (10 : Int) 242) (@PySem.Value.int (120 : Int) 221)), (@PySem.DictEntry.mk (11 : Int) (@PySem.Value.int (11 : Int) 244) (@PySem.Value.int (120 : Int) 221)), (@PySem.DictEntry.mk (12 : Int) (@PySem.Value.int (12 : Int) 246) (@PySem.Value.int (120 : Int) 221)), (@PySem.DictEntry.mk (13 : Int) (@PySem.Value.int (13 : Int) 248) (@PySem.Value.int (120 : Int) 221)), (@PySem.DictEntry.mk (14 : Int) (@PySem.Value.int (14 : Int) 250) (@PySem.Value.int (120 : Int) 221)), (@PySem.DictEntry.mk (15 : Int) (@PySem.Value.int (15 : Int) 252) (@PySem.Value.int (120 : Int) 221)), (@PySem.DictEntry.mk (16 : Int) (@PySem.Value.int (16 : Int) 254) (@PySem.Value.int (120 : Int) 221)), (@PySem.DictEntry.mk (17 : Int) (@PySem.Value.int (17 : Int) 256) (@PySem.Value.int (120 : Int) 221)), (@PySem.DictEntry.mk (18 : Int) (@PySem.Value.int (18 : Int) 258) (@PySem.Value.int (120 : Int) 221)), (@PySem.DictEntry.mk (19 : Int) (@PySem.Value.int (19 : Int) 260) (@PySem.Value.int (120 : Int) 221)), (@PySem.DictEntry.mk (20 : Int) (@PySem.Value.int (20 : Int) 262) (@PySem.Value.int (120 : Int) 221)), (@PySem.DictEntry.mk (21 : Int) (@PySem.Value.int (21 : Int) 264) (@PySem.Value.int (120 : Int) 221)), (@PySem.DictEntry.mk (22 : Int) (@PySem.Value.int (22 : Int) 266) (@PySem.Value.int (120 : Int) 221)), (@PySem.DictEntry.mk (23 : Int) (@PySem.Value.int (23 : Int) 268) (@PySem.Value.int (120 : Int) 221)), (@PySem.DictEntry.mk (24 : Int) (@PySem.Value.int (24 : Int) 270) (@PySem.Value.int (120 : Int) 221)), (@PySem.DictEntry.mk (25 : Int) (@PySem.Value.int (25 : Int) 272) (@PySem.Value.int (120 : Int) 221)), (@PySem.DictEntry.mk (26 : Int) (@PySem.Value.int (26 : Int) 274) (@PySem.Value.int (120 : Int) 221)), (@PySem.DictEntry.mk (27 : Int) (@PySem.Value.int (27 : Int) 276) (@PySem.Value.int (120 : Int) 221)), (@PySem.DictEntry.mk (28 : Int) (@PySem.Value.int (28 : Int) 278) (@PySem.Value.int (120 : Int) 221)), (@PySem.DictEntry.mk (29 : Int) (@PySem.Value.int (29 : Int) 280) (@PySem.Value.int (120 : Int) 221)), (@PySem.DictEntry.mk (30 : Int) (@PySem.Value.int (30 : Int) 282) (@PySem.Value.int (120 : Int) 221)), (@PySem.DictEntry.mk (31 : Int) (@PySem.Value.int (31 : Int) 284) (@PySem.Value.int (120 : Int) 221)), (@PySem.DictEntry.mk (32 : Int) (@PySem.Value.int (32 : Int) 286) (@PySem.Value.int (120 : Int) 221)), (@PySem.DictEntry.mk (33 : Int) (@PySem.Value.int (33 : Int) 288) (@PySem.Value.int (120 : Int) 221)), (@PySem.DictEntry.mk (34 : Int) (@PySem.Value.int (34 : Int) 290) (@PySem.Value.int (120 : Int) 221)), (@PySem.DictEntry.mk (35 : Int) (@PySem.Value.int (35 : Int) 292) (@PySem.Value.int (120 : Int) 221)), (@PySem.DictEntry.mk (36 : Int) (@PySem.Value.int (36 : Int) 294) (@PySem.Value.int (120 : Int) 221)), (@PySem.DictEntry.mk (37 : Int) (@PySem.Value.int (37 : Int) 296) (@PySem.Value.int (120 : Int) 221)), (@PySem.DictEntry.mk (38 : Int) (@PySem.Value.int (38 : Int) 298) (@PySem.Value.int (120 : Int) 221)), (@PySem.DictEntry.mk (39 : Int) (@PySem.Value.int (39 : Int) 300) (@PySem.Value.int (120 : Int) 221)), (@PySem.DictEntry.mk (40 : Int) (@PySem.Value.int (40 : Int) 302) (@PySem.Value.int (40 : Int) 495)), (@PySem.DictEntry.mk (41 : Int) (@PySem.Value.int (41 : Int) 304) (@PySem.Value.int (120 : Int) 221)), (@PySem.DictEntry.mk (42 : Int) (@PySem.Value.int (42 : Int) 306) (@PySem.Value.int (120 : Int) 221)), (@PySem.DictEntry.mk (43 : Int) (@PySem.Value.int (43 : Int) 308) (@PySem.Value.int (120 : Int) 221)), (@PySem.DictEntry.mk (44 : Int) (@PySem.Value.int (44 : Int) 310) (@PySem.Value.int (120 : Int) 221)), (@PySem.DictEntry.mk (45 : Int) (@PySem.Value.int (45 : Int) 312) (@PySem.Value.int (120 : Int) 221)), (@PySem.DictEntry.mk (46 : Int) (@PySem.Value.int (46 : Int) 314) (@PySem.Value.int (120 : Int) 221)), (@PySem.DictEntry.mk (47 : Int) (@PySem.Value.int (47 : Int) 316) (@PySem.Value.int (120 : Int) 221)), (@PySem.DictEntry.mk (48 : Int) (@PySem.Value.int (48 : Int) 318) (@PySem.Value.int (120 : Int) 221)), (@PySem.DictEntry.mk (49 : Int) (@PySem.Value.int (49 : Int) 320) (@PySem.Value.int (120 : Int) 221)), (@PySem.DictEntry.mk (50 : Int) (@PySem.Value.int (50 : Int) 322) (@PySem.Value.int (120 : Int) 221)), (@PySem.DictEntry.mk (51 : Int) (@PySem.Value.int (51 : Int) 324) (@PySem.Value.int (120 : Int) 221)), (@PySem.DictEntry.mk (52 : Int) (@PySem.Value.int (52 : Int) 326) (@PySem.Value.int (120 : Int) 221)), (@PySem.DictEntry.mk (53 : Int) (@PySem.Value.int (53 : Int) 328) (@PySem.Value.int (120 : Int) 221)), (@PySem.DictEntry.mk (54 : Int) (@PySem.Value.int (54 : Int) 330) (@PySem.Value.int (120 : Int) 221)), (@PySem.DictEntry.mk (55 : Int) (@PySem.Value.int (55 : Int) 332) (@PySem.Value.int (120 : Int) 221)), (@PySem.DictEntry.mk (56 : Int) (@PySem.Value.int (56 : Int) 334) (@PySem.Value.int (120 : Int) 221)), (@PySem.DictEntry.mk (57 : Int) (@PySem.Value.int (57 : Int) 336) (@PySem.Value.int (120 : Int) 221)), (@PySem.DictEntry.mk (58 : Int) (@PySem.Value.int (58 : Int) 338) (@PySem.Value.int (120 : Int) 221)), (@PySem.DictEntry.mk (59 : Int) (@PySem.Value.int (59 : Int) 340) (@PySem.Value.int (120 : Int) 221)), (@PySem.DictEntry.mk (60 : Int) (@PySem.Value.int (60 : Int) 342) (@PySem.Value.int (120 : Int) 221)), (@PySem.DictEntry.mk (61 : Int) (@PySem.Value.int (61 : Int) 344) (@PySem.Value.int (120 : Int) 221)), (@PySem.DictEntry.mk (62 : Int) (@PySem.Value.int (62 : Int) 346) (@PySem.Value.int (120 : Int) 221)), (@PySem.DictEntry.mk (63 : Int) (@PySem.Value.int (63 : Int) 348) (@PySem.Value.int (120 : Int) 221)), (@PySem.DictEntry.mk (64 : Int) (@PySem.Value.int (64 : Int) 350) (@PySem.Value.int (120 : Int) 221)), (@PySem.DictEntry.mk (65 : Int) (@PySem.Value.int (65 : Int) 352) (@PySem.Value.int (120 : Int) 221)), (@PySem.DictEntry.mk (66 : Int) (@PySem.Value.int (66 : Int) 354) (@PySem.Value.int (120 : Int) 221)), (@PySem.DictEntry.mk (67 : Int) (@PySem.Value.int (67 : Int) 356) (@PySem.Value.int (120 : Int) 221)), (@PySem.DictEntry.mk (68 : Int) (@PySem.Value.int (68 : Int) 358) (@PySem.Value.int (120 : Int) 221)), (@PySem.DictEntry.mk (69 : Int) (@PySem.Value.int (69 : Int) 360) (@PySem.Value.int (120 : Int) 221)), (@PySem.DictEntry.mk (70 : Int) (@PySem.Value.int (70 : Int) 362) (@PySem.Value.int (120 : Int) 221)), (@PySem.DictEntry.mk (71 : Int) (@PySem.Value.int (71 : Int) 364) (@PySem.Value.int (120 : Int) 221)), (@PySem.DictEntry.mk (72 : Int) (@PySem.Value.int (72 : Int) 366) (@PySem.Value.int (120 : Int) 221)), (@PySem.DictEntry.mk (73 : Int) (@PySem.Value.int (73 : Int) 368) (@PySem.Value.int (120 : Int) 221)), (@PySem.DictEntry.mk (74 : Int) (@PySem.Value.int (74 : Int) 370) (@PySem.Value.int (120 : Int) 221)), (@PySem.DictEntry.mk (75 : Int) (@PySem.Value.int (75 : Int) 372) (@PySem.Value.int (120 : Int) 221)), (@PySem.DictEntry.mk (76 : Int) (@PySem.Value.int (76 : Int) 374) (@PySem.Value.int (120 : Int) 221)), (@PySem.DictEntry.mk (77 : Int) (@PySem.Value.int (77 : Int) 376) (@PySem.Value.int (120 : Int) 221)), (@PySem.DictEntry.mk (78 : Int) (@PySem.Value.int (78 : Int) 378) (@PySem.Value.int (120 : Int) 221)), (@PySem.DictEntry.mk (79 : Int) (@PySem.Value.int (79 : Int) 380) (@PySem.Value.int (120 : Int) 221)), (@PySem.DictEntry.mk (80 : Int) (@PySem.Value.int (80 : Int) 382) (@PySem.Value.int (120 : Int) 221)), (@PySem.DictEntry.mk (81 : Int) (@PySem.Value.int (81 : Int) 384) (@PySem.Value.int (120 : Int) 221)), (@PySem.DictEntry.mk (82 : Int) (@PySem.Value.int (82 : Int) 386) (@PySem.Value.int (120 : Int) 221)), (@PySem.DictEntry.mk (83 : Int) (@PySem.Value.int (83 : Int) 388) (@PySem.Value.int (120 : Int) 221)), (@PySem.DictEntry.mk (84 : Int) (@PySem.Value.int (84 : Int) 390) (@PySem.Value.int (120 : Int) 221)), (@PySem.DictEntry.mk (85 : Int) (@PySem.Value.int (85 : Int) 392) (@PySem.Value.int (120 : Int) 221)), (@PySem.DictEntry.mk (86 : Int) (@PySem.Value.int (86 : Int) 394) (@PySem.Value.int (120 : Int) 221)), (@PySem.DictEntry.mk (87 : Int) (@PySem.Value.int (87 : Int) 396) (@PySem.Value.int (120 : Int) 221)), (@PySem.DictEntry.mk (88 : Int) (@PySem.Value.int (88 : Int) 398) (@PySem.Value.int (120 : Int) 221)), (@PySem.DictEntry.mk (89 : Int) (@PySem.Value.int (89 : Int) 400) (@PySem.Value.int (120 : Int) 221)), (@PySem.DictEntry.mk (90 : Int) (@PySem.Value.int (90 : Int) 402) (@PySem.Value.int (120 : Int) 221)), (@PySem.DictEntry.mk (91 : Int) (@PySem.Value.int (91 : Int) 404) (@PySem.Value.int (40 : Int) 507)), (@PySem.DictEntry.mk (92 : Int) (@PySem.Value.int (92 : Int) 406) (@PySem.Value.int (120 : Int) 221)), (@PySem.DictEntry.mk (93 : Int) (@PySem.Value.int (93 : Int) 408) (@PySem.Value.int (120 : Int) 221)), (@PySem.DictEntry.mk (94 : Int) (@PySem.Value.int (94 : Int) 410) (@PySem.Value.int (120 : Int) 221)), (@PySem.DictEntry.mk (95 : Int) (@PySem.Value.int (95 : Int) 412) (@PySem.Value.int (120 : Int) 221)), (@PySem.DictEntry.mk (96 : Int) (@PySem.Value.int (96 : Int) 414) (@PySem.Value.int (120 : Int) 221)), (@PySem.DictEntry.mk (97 : Int) (@PySem.Value.int (97 : Int) 416) (@PySem.Value.int (120 : Int) 221)), (@PySem.DictEntry.mk (98 : Int) (@PySem.Value.int (98 : Int) 418) (@PySem.Value.int (120 : Int) 221)), (@PySem.DictEntry.mk (99 : Int) (@PySem.Value.int (99 : Int) 420) (@PySem.Value.int (120 : Int) 221)), (@PySem.DictEntry.mk (100 : Int) (@PySem.Value.int (100 : Int) 422) (@PySem.Value.int (120 : Int) 221)), (@PySem.DictEntry.mk (101 : Int) (@PySem.Value.int (101 : Int) 424) (@PySem.Value.int (120 : Int) 221)), (@PySem.DictEntry.mk (102 : Int) (@PySem.Value.int (102 : Int) 426) (@PySem.Value.int (120 : Int) 221)), (@PySem.DictEntry.mk (103 : Int) (@PySem.Value.int (103 : Int) 428) (@PySem.Value.int (120 : Int) 221)), (@PySem.DictEntry.mk (104 : Int) (@PySem.Value.int (104 : Int) 430) (@PySem.Value.int (120 : Int) 221)), (@PySem.DictEntry.mk (105 : Int) (@PySem.Value.int (105 : Int) 432) (@PySem.Value.int (120 : Int) 221)), (@PySem.DictEntry.mk (106 : Int) (@PySem.Value.int (106 : Int) 434) (@PySem.Value.int (120 : Int) 221)), (@PySem.DictEntry.mk (107 : Int) (@PySem.Value.int (107 : Int) 436) (@PySem.Value.int (120 : Int) 221)), (@PySem.DictEntry.mk (108 : Int) (@PySem.Value.int (108 : Int) 438) (@PySem.Value.int (120 : Int) 221)), (@PySem.DictEntry.mk (109 : Int) (@PySem.Value.int (109 : Int) 440) (@PySem.Value.int (120 : Int) 221)), (@PySem.DictEntry.mk (110 : Int) (@PySem.Value.int (110 : Int) 442) (@PySem.Value.int (120 : Int) 221)), (@PySem.DictEntry.mk (111 : Int) (@PySem.Value.int (111 : Int) 444) (@PySem.Value.int (120 : Int) 221)), (@PySem.DictEntry.mk (112 : Int) (@PySem.Value.int (112 : Int) 446) (@PySem.Value.int (120 : Int) 221)), (@PySem.DictEntry.mk (113 : Int) (@PySem.Value.int (113 : Int) 448) (@PySem.Value.int (120 : Int) 221)), (@PySem.DictEntry.mk (114 : Int) (@PySem.Value.int (114 : Int) 450) (@PySem.Value.int (120 : Int) 221)), (@PySem.DictEntry.mk (115 : Int) (@PySem.Value.int (115 : Int) 452) (@PySem.Value.int (120 : Int) 221)), (@PySem.DictEntry.mk (116 : Int) (@PySem.Value.int (116 : Int) 454) (@PySem.Value.int (120 : Int) 221)), (@PySem.DictEntry.mk (117 : Int) (@PySem.Value.int (117 : Int) 456) (@PySem.Value.int (120 : Int) 221)), (@PySem.DictEntry.mk (118 : Int) (@PySem.Value.int (118 : Int) 458) (@PySem.Value.int (120 : Int) 221)), (@PySem.DictEntry.mk (119 : Int) (@PySem.Value.int (119 : Int) 460) (@PySem.Value.int (120 : Int) 221)), (@PySem.DictEntry.mk (120 : Int) (@PySem.Value.int (120 : Int) 462) (@PySem.Value.int (120 : Int) 221)), (@PySem.DictEntry.mk (121 : Int) (@PySem.Value.int (121 : Int) 464) (@PySem.Value.int (120 : Int) 221)), (@PySem.DictEntry.mk (122 : Int) (@PySem.Value.int (122 : Int) 466) (@PySem.Value.int (120 : Int) 221)), (@PySem.DictEntry.mk (123 : Int) (@PySem.Value.int (123 : Int) 468) (@PySem.Value.int (40 : Int) 501)), (@PySem.DictEntry.mk (124 : Int) (@PySem.Value.int (124 : Int) 470) (@PySem.Value.int (120 : Int) 221)), (@PySem.DictEntry.mk (125 : Int) (@PySem.Value.int (125 : Int) 472) (@PySem.Value.int (120 : Int) 221)), (@PySem.DictEntry.mk (126 : Int) (@PySem.Value.int (126 : Int) 474) (@PySem.Value.int (120 : Int) 221)), (@PySem.DictEntry.mk (127 : Int) (@PySem.Value.int (127 : Int) 476) (@PySem.Value.int (120 : Int) 221))]) 128) (@List.toArray (@Option @PySem.Value) []))
noncomputable def hG3_43 (P : Params) : Obj := (@PySem.Obj.mk (@PySem.Value.type "str_ascii_iterator") (@Option.none @Nat) (@PySem.Data.fields (@List.toArray @PySem.Value [@PySem.Value.none, (@PySem.Value.int (3 : Int) 0)])) (@List.toArray (@Option @PySem.Value) []))
noncomputable def hG3_44 (P : Params) : Obj := (@PySem.Obj.mk (@PySem.Value.type "tuple") (@Option.none @Nat) (@PySem.Data.seq (@List.toArray @PySem.Value []) 0) (@List.toArray (@Option @PySem.Value) []))
noncomputable def hG3_45 (P : Params) : Obj := (@PySem.Obj.mk @PySem.Value.none (@Option.none @Nat) (@PySem.Data.fields (@List.toArray @PySem.Value [])) (@List.toArray (@Option @PySem.Value) []))
noncomputable def hG3_46 (P : Params) : Obj := (@PySem.Obj.mk (@PySem.Value.type "code") (@Option.none @Nat) (@PySem.Data.fields (@List.toArray @PySem.Value [(@PySem.Value.str (@PySem.Str.ofString "<genexpr>") 480), (@PySem.Value.str (@PySem.Str.ofString "<genexpr>") 481), (@PySem.Value.str (@PySem.Str.ofString "/claim/cut.py") 482), (@PySem.Value.int (7 : Int) 0), (@PySem.Value.int (1 : Int) 0), (@PySem.Value.int (0 : Int) 0), (@PySem.Value.int (0 : Int) 0), (@PySem.Value.int (35 : Int) 0), (@PySem.Value.ref 44), (@PySem.Value.bool @Bool.true), (@PySem.Value.int (181 : Int) 0), (@PySem.Value.ref 45), @PySem.Value.none, @PySem.Value.none, @PySem.Value.none, @PySem.Value.none, (@PySem.Value.int (483 : Int) 0), (@PySem.Value.int (7 : Int) 0), (@PySem.Value.str (@PySem.Str.ofString "/claim/cut.py") 484)])) (@List.toArray (@Option @PySem.Value) []))
noncomputable def hG3_47 (P : Params) : Obj := (@PySem.Obj.mk (@PySem.Value.type "frame") (@Option.none @Nat) (@PySem.Data.dict (@List.toArray @PySem.DictEntry [(@PySem.DictEntry.mk (@PySem.PyData.keyHash P (@PySem.Str.ofString ".0")) (@PySem.Value.str (@PySem.Str.ofString ".0") 485) (@PySem.Value.ref 43)), (@PySem.DictEntry.mk (@PySem.PyData.keyHash P (@PySem.Str.ofString "c")) (@PySem.Value.str (@PySem.Str.ofString "c") 492) (@PySem.Value.str (@PySem.Str.ofString "[") 503))]) 2) (@List.toArray (@Option @PySem.Value) []))
noncomputable def hG3_48 (P : Params) : Obj := (@PySem.Obj.mk (@PySem.Value.type "generator") (@Option.none @Nat) (@PySem.Data.fields (@List.toArray @PySem.Value [(@PySem.Value.int (0 : Int) 0), (@PySem.Value.str (@PySem.Str.ofString "<genexpr>") 486), (@PySem.Value.str (@PySem.Str.ofString "<genexpr>") 487)])) (@List.toArray (@Option @PySem.Value) []))
noncomputable def hG3_49 (P : Params) : Obj := (@PySem.Obj.mk (@PySem.Value.type "tuple") (@Option.none @Nat) (@PySem.Data.seq (@List.toArray @PySem.Value [(@PySem.Value.str (@PySem.Str.ofString "'generator' object has no attribute 'keys'") 489)]) 0) (@List.toArray (@Option @PySem.Value) []))
noncomputable def hG3_50 (P : Params) : Obj := (@PySem.Obj.mk (@PySem.Value.type "AttributeError") (@Option.none @Nat) (@PySem.Data.fields (@List.toArray @PySem.Value [(@PySem.Value.ref 49), @PySem.Value.none, @PySem.Value.none, @PySem.Value.none, (@PySem.Value.bool @Bool.false), @PySem.Value.none, (@PySem.Value.str (@PySem.Str.ofString "keys") 490), (@PySem.Value.ref 48)])) (@List.toArray (@Option @PySem.Value) []))
noncomputable def hG3_51 (P : Params) : Obj := (@PySem.Obj.mk (@PySem.Value.type "tuple") (@Option.none @Nat) (@PySem.Data.seq (@List.toArray @PySem.Value [(@PySem.Value.int (40 : Int) 493), (@PySem.Value.int (40 : Int) 495)]) 0) (@List.toArray (@Option @PySem.Value) []))
noncomputable def hG3_52 (P : Params) : Obj := (@PySem.Obj.mk (@PySem.Value.type "tuple") (@Option.none @Nat) (@PySem.Data.seq (@List.toArray @PySem.Value [(@PySem.Value.int (123 : Int) 499), (@PySem.Value.int (40 : Int) 501)]) 0) (@List.toArray (@Option @PySem.Value) []))
noncomputable def hG3_53 (P : Params) : Obj := (@PySem.Obj.mk (@PySem.Value.type "tuple") (@Option.none @Nat) (@PySem.Data.seq (@List.toArray @PySem.Value [(@PySem.Value.int (91 : Int) 505), (@PySem.Value.int (40 : Int) 507)]) 0) (@List.toArray (@Option @PySem.Value) []))
noncomputable def hG3_54 (P : Params) : Obj := (@PySem.Obj.mk (@PySem.Value.type "tuple") (@Option.none @Nat) (@PySem.Data.seq (@List.toArray @PySem.Value []) 0) (@List.toArray (@Option @PySem.Value) []))
noncomputable def hG3_55 (P : Params) : Obj := (@PySem.Obj.mk (@PySem.Value.type "StopIteration") (@Option.none @Nat) (@PySem.Data.fields (@List.toArray @PySem.Value [(@PySem.Value.ref 54), @PySem.Value.none, @PySem.Value.none, @PySem.Value.none, (@PySem.Value.bool @Bool.false), @PySem.Value.none])) (@List.toArray (@Option @PySem.Value) []))
noncomputable def hG3_56 (P : Params) : Obj := (@PySem.Obj.mk (@PySem.Value.type "tuple") (@Option.none @Nat) (@PySem.Data.seq (@List.toArray @PySem.Value []) 0) (@List.toArray (@Option @PySem.Value) []))
noncomputable def hG3_57 (P : Params) : Obj := (@PySem.Obj.mk (@PySem.Value.type "StopIteration") (@Option.none @Nat) (@PySem.Data.fields (@List.toArray @PySem.Value [(@PySem.Value.ref 56), @PySem.Value.none, @PySem.Value.none, @PySem.Value.none, (@PySem.Value.bool @Bool.false), @PySem.Value.none])) (@List.toArray (@Option @PySem.Value) []))
noncomputable def treeG3 (P : Params) : BT := (BT.node (boot_o_0 P) (BT.node (boot_o_1 P) (BT.node (hG2_3 P) (BT.node (boot_o_7 P) (BT.node (hG0_15 P) (BT.node (hG0_31 P) BT.nil BT.nil) (BT.node (hG3_47 P) BT.nil BT.nil)) (BT.node (hG0_23 P) (BT.node (hG3_39 P) BT.nil BT.nil) (BT.node (hG3_55 P) BT.nil BT.nil))) (BT.node (hp_11 P) (BT.node (hG0_19 P) (BT.node (hG0_35 P) BT.nil BT.nil) (BT.node (hG3_51 P) BT.nil BT.nil)) (BT.node (hG0_27 P) (BT.node (hG3_43 P) BT.nil BT.nil) BT.nil))) (BT.node (boot_o_5 P) (BT.node (boot_o_9 P) (BT.node (hG0_17 P) (BT.node (hG0_33 P) BT.nil BT.nil) (BT.node (hG3_49 P) BT.nil BT.nil)) (BT.node (hG0_25 P) (BT.node (hG2_41 P) BT.nil BT.nil) (BT.node (hG3_57 P) BT.nil BT.nil))) (BT.node (hp_13 P) (BT.node (hG0_21 P) (BT.node (hG2x0_37 P) BT.nil BT.nil) (BT.node (hG3_53 P) BT.nil BT.nil)) (BT.node (hG0_29 P) (BT.node (hG3_45 P) BT.nil BT.nil) BT.nil)))) (BT.node (boot_o_2 P) (BT.node (boot_o_4 P) (BT.node (boot_o_8 P) (BT.node (hG0_16 P) (BT.node (hG0_32 P) BT.nil BT.nil) (BT.node (hG3_48 P) BT.nil BT.nil)) (BT.node (hG0_24 P) (BT.node (hG2x128_40 P) BT.nil BT.nil) (BT.node (hG3_56 P) BT.nil BT.nil))) (BT.node (hG3_12 P) (BT.node (hG0_20 P) (BT.node (hG2x0_36 P) BT.nil BT.nil) (BT.node (hG3_52 P) BT.nil BT.nil)) (BT.node (hG0_28 P) (BT.node (hG3_44 P) BT.nil BT.nil) BT.nil))) (BT.node (boot_o_6 P) (BT.node (boot_o_10 P) (BT.node (hG0_18 P) (BT.node (hG0_34 P) BT.nil BT.nil) (BT.node (hG3_50 P) BT.nil BT.nil)) (BT.node (hG0_26 P) (BT.node (hG2_42 P) BT.nil BT.nil) BT.nil)) (BT.node (hp_14 P) (BT.node (hG0_22 P) (BT.node (hG2x0_38 P) BT.nil BT.nil) (BT.node (hG3_54 P) BT.nil BT.nil)) (BT.node (hG0_30 P) (BT.node (hG3_46 P) BT.nil BT.nil) BT.nil)))))
noncomputable def h_G3_q (w : World) (os : OsState) : Prop := segRunT treeTable p9 w 11 ann9 1 367 (SharedT.mk (treeG2 w.params) 43 (@PySem.Life.mk [] [] [] 0 [] [] @Bool.false (@List.toArray @Nat []) [] 0 @Bool.false @Bool.false @Bool.false (0 : Int) [(2000 : Int), (10 : Int), (10 : Int)] @Bool.false 0 @Bool.true [] [] 0 @Bool.false) (Array.mk []) (@PySem.Drawn.mk 0 0 0 0) 479 os) (piecesOf ((b9.drop 3).take 1) e9 c9 (@PySem.Pos.mk 6 0 6 5) B9) = some (Flow.next, (SharedT.mk (treeG3 w.params) 58 (@PySem.Life.mk [] [] [] 0 [] [] @Bool.false (@List.toArray @Nat []) [] 0 @Bool.false @Bool.false @Bool.false (0 : Int) [(2000 : Int), (10 : Int), (10 : Int)] @Bool.false 0 @Bool.true [] [] 0 @Bool.false) (Array.mk [GenState.finished]) (@PySem.Drawn.mk 0 0 0 0) 509 os), c9, (@PySem.Pos.mk 7 0 7 49))
theorem h_G3_ff (w : World) (os : OsState) : h_G3_q ((w.withFollow "special-get-raises" false).withFollow "comprehension-iter-twice" false) os := by
  unfold h_G3_q
  (rw [show @PySem.W.segRunT = _ from PySem.W.Fast.te10110043849684766642, show treeTable = _ from PySem.W.Fast.te14364793385576792824]; kernel_rfl)
theorem h_G3_ft (w : World) (os : OsState) : h_G3_q ((w.withFollow "special-get-raises" true).withFollow "comprehension-iter-twice" false) os := by
  unfold h_G3_q
  (rw [show @PySem.W.segRunT = _ from PySem.W.Fast.te10110043849684766642, show treeTable = _ from PySem.W.Fast.te14364793385576792824]; kernel_rfl)
theorem h_G3_tf (w : World) (os : OsState) : h_G3_q ((w.withFollow "special-get-raises" false).withFollow "comprehension-iter-twice" true) os := by
  unfold h_G3_q
  (rw [show @PySem.W.segRunT = _ from PySem.W.Fast.te10110043849684766642, show treeTable = _ from PySem.W.Fast.te14364793385576792824]; kernel_rfl)
theorem h_G3_tt (w : World) (os : OsState) : h_G3_q ((w.withFollow "special-get-raises" true).withFollow "comprehension-iter-twice" true) os := by
  unfold h_G3_q
  (rw [show @PySem.W.segRunT = _ from PySem.W.Fast.te10110043849684766642, show treeTable = _ from PySem.W.Fast.te14364793385576792824]; kernel_rfl)
theorem h_G3 (w : World) (os : OsState) : segRunT treeTable p9 w 11 ann9 1 367 (SharedT.mk (treeG2 w.params) 43 (@PySem.Life.mk [] [] [] 0 [] [] @Bool.false (@List.toArray @Nat []) [] 0 @Bool.false @Bool.false @Bool.false (0 : Int) [(2000 : Int), (10 : Int), (10 : Int)] @Bool.false 0 @Bool.true [] [] 0 @Bool.false) (Array.mk []) (@PySem.Drawn.mk 0 0 0 0) 479 os) (piecesOf ((b9.drop 3).take 1) e9 c9 (@PySem.Pos.mk 6 0 6 5) B9) = some (Flow.next, (SharedT.mk (treeG3 w.params) 58 (@PySem.Life.mk [] [] [] 0 [] [] @Bool.false (@List.toArray @Nat []) [] 0 @Bool.false @Bool.false @Bool.false (0 : Int) [(2000 : Int), (10 : Int), (10 : Int)] @Bool.false 0 @Bool.true [] [] 0 @Bool.false) (Array.mk [GenState.finished]) (@PySem.Drawn.mk 0 0 0 0) 509 os), c9, (@PySem.Pos.mk 7 0 7 49)) := byRow2 "comprehension-iter-twice" (P := fun w => ∀ os, h_G3_q w os) (byRow2 "special-get-raises" (P := fun w => ∀ os, h_G3_q (w.withFollow "comprehension-iter-twice" false) os) h_G3_ff h_G3_ft) (byRow2 "special-get-raises" (P := fun w => ∀ os, h_G3_q (w.withFollow "comprehension-iter-twice" true) os) h_G3_tf h_G3_tt) w os
noncomputable def hG4_12 (P : Params) : Obj := (@PySem.Obj.mk @PySem.Value.none (@Option.none @Nat) (@PySem.Data.fields (@List.toArray @PySem.Value [(@PySem.Value.int (2 : Int) 0), (@PySem.Value.int (0 : Int) 0), (@PySem.Value.ref 20), (@PySem.Value.int (7 : Int) 0), (@PySem.Value.int (13 : Int) 0), (@PySem.Value.ref 46), (@PySem.Value.int (8 : Int) 0), (@PySem.Value.int (13 : Int) 0), (@PySem.Value.ref 61)])) (@List.toArray (@Option @PySem.Value) []))
noncomputable def hG4_39 (P : Params) : Obj := (@PySem.Obj.mk (@PySem.Value.ref 31) (@Option.some @Nat 38) (@PySem.Data.dict (@List.toArray @PySem.DictEntry [(@PySem.DictEntry.mk (0 : Int) (@PySem.Value.int (0 : Int) 222) (@PySem.Value.int (120 : Int) 221)), (@PySem.DictEntry.mk (1 : Int) (@PySem.Value.int (1 : Int) 224) (@PySem.Value.int (120 : Int) 221)), (@PySem.DictEntry.mk (2 : Int) (@PySem.Value.int (2 : Int) 226) (@PySem.Value.int (120 : Int) 221)), (@PySem.DictEntry.mk (3 : Int) (@PySem.Value.int (3 : Int) 228) (@PySem.Value.int (120 : Int) 221)), (@PySem.DictEntry.mk (4 : Int) (@PySem.Value.int (4 : Int) 230) (@PySem.Value.int (120 : Int) 221)), (@PySem.DictEntry.mk (5 : Int) (@PySem.Value.int (5 : Int) 232) (@PySem.Value.int (120 : Int) 221)), (@PySem.DictEntry.mk (6 : Int) (@PySem.Value.int (6 : Int) 234) (@PySem.Value.int (120 : Int) 221)), (@PySem.DictEntry.mk (7 : Int) (@PySem.Value.int (7 : Int) 236) (@PySem.Value.int (120 : Int) 221)), (@PySem.DictEntry.mk (8 : Int) (@PySem.Value.int (8 : Int) 238) (@PySem.Value.int (120 : Int) 221)), (@PySem.DictEntry.mk (9 : Int) (@PySem.Value.int (9 : Int) 240) (@PySem.Value.int (120 : Int) 221)), (@PySem.DictEntry.mk (10 : Int) (@PySem.Value.int (10 : Int) 242) (@PySem.Value.int (120 : Int) 221)), (@PySem.DictEntry.mk (11 : Int) (@PySem.Value.int (11 : Int) 244) (@PySem.Value.int (120 : Int) 221)), (@PySem.DictEntry.mk (12 : Int) (@PySem.Value.int (12 : Int) 246) (@PySem.Value.int (120 : Int) 221)), (@PySem.DictEntry.mk (13 : Int) (@PySem.Value.int (13 : Int) 248) (@PySem.Value.int (120 : Int) 221)), (@PySem.DictEntry.mk (14 : Int) (@PySem.Value.int (14 : Int) 250) (@PySem.Value.int (120 : Int) 221)), (@PySem.DictEntry.mk (15 : Int) (@PySem.Value.int (15 : Int) 252) (@PySem.Value.int (120 : Int) 221)), (@PySem.DictEntry.mk (16 : Int) (@PySem.Value.int (16 : Int) 254) (@PySem.Value.int (120 : Int) 221)), (@PySem.DictEntry.mk (17 : Int) (@PySem.Value.int (17 : Int) 256) (@PySem.Value.int (120 : Int) 221)), (@PySem.DictEntry.mk (18 : Int) (@PySem.Value.int (18 : Int) 258) (@PySem.Value.int (120 : Int) 221)), (@PySem.DictEntry.mk (19 : Int) (@PySem.Value.int (19 : Int) 260) (@PySem.Value.int (120 : Int) 221)), (@PySem.DictEntry.mk (20 : Int) (@PySem.Value.int (20 : Int) 262) (@PySem.Value.int (120 : Int) 221)), (@PySem.DictEntry.mk (21 : Int) (@PySem.Value.int (21 : Int) 264) (@PySem.Value.int (120 : Int) 221)), (@PySem.DictEntry.mk (22 : Int) (@PySem.Value.int (22 : Int) 266) (@PySem.Value.int (120 : Int) 221)), (@PySem.DictEntry.mk (23 : Int) (@PySem.Value.int (23 : Int) 268) (@PySem.Value.int (120 : Int) 221)), (@PySem.DictEntry.mk (24 : Int) (@PySem.Value.int (24 : Int) 270) (@PySem.Value.int (120 : Int) 221)), (@PySem.DictEntry.mk (25 : Int) (@PySem.Value.int (25 : Int) 272) (@PySem.Value.int (120 : Int) 221)), (@PySem.DictEntry.mk (26 : Int) (@PySem.Value.int (26 : Int) 274) (@PySem.Value.int (120 : Int) 221)), (@PySem.DictEntry.mk (27 : Int) (@PySem.Value.int (27 : Int) 276) (@PySem.Value.int (120 : Int) 221)), (@PySem.DictEntry.mk (28 : Int) (@PySem.Value.int (28 : Int) 278) (@PySem.Value.int (120 : Int) 221)), (@PySem.DictEntry.mk (29 : Int) (@PySem.Value.int (29 : Int) 280) (@PySem.Value.int (120 : Int) 221)), (@PySem.DictEntry.mk (30 : Int) (@PySem.Value.int (30 : Int) 282) (@PySem.Value.int (120 : Int) 221)), (@PySem.DictEntry.mk (31 : Int) (@PySem.Value.int (31 : Int) 284) (@PySem.Value.int (120 : Int) 221)), (@PySem.DictEntry.mk (32 : Int) (@PySem.Value.int (32 : Int) 286) (@PySem.Value.int (120 : Int) 221)), (@PySem.DictEntry.mk (33 : Int) (@PySem.Value.int (33 : Int) 288) (@PySem.Value.int (120 : Int) 221)), (@PySem.DictEntry.mk (34 : Int) (@PySem.Value.int (34 : Int) 290) (@PySem.Value.int (120 : Int) 221)), (@PySem.DictEntry.mk (35 : Int) (@PySem.Value.int (35 : Int) 292) (@PySem.Value.int (120 : Int) 221)), (@PySem.DictEntry.mk (36 : Int) (@PySem.Value.int (36 : Int) 294) (@PySem.Value.int (120 : Int) 221)), (@PySem.DictEntry.mk (37 : Int) (@PySem.Value.int (37 : Int) 296) (@PySem.Value.int (120 : Int) 221)), (@PySem.DictEntry.mk (38 : Int) (@PySem.Value.int (38 : Int) 298) (@PySem.Value.int (120 : Int) 221)), (@PySem.DictEntry.mk (39 : Int) (@PySem.Value.int (39 : Int) 300) (@PySem.Value.int (120 : Int) 221)), (@PySem.DictEntry.mk (40 : Int) (@PySem.Value.int (40 : Int) 302) (@PySem.Value.int (40 : Int) 495)), (@PySem.DictEntry.mk (41 : Int) (@PySem.Value.int (41 : Int) 304) (@PySem.Value.int (41 : Int) 525)), (@PySem.DictEntry.mk (42 : Int) (@PySem.Value.int (42 : Int) 306) (@PySem.Value.int (120 : Int) 221)), (@PySem.DictEntry.mk (43 : Int) (@PySem.Value.int (43 : Int) 308) (@PySem.Value.int (120 : Int) 221)), (@PySem.DictEntry.mk (44 : Int) (@PySem.Value.int (44 : Int) 310) (@PySem.Value.int (120 : Int) 221)), (@PySem.DictEntry.mk (45 : Int) (@PySem.Value.int (45 : Int) 312) (@PySem.Value.int (120 : Int) 221)), (@PySem.DictEntry.mk (46 : Int) (@PySem.Value.int (46 : Int) 314) (@PySem.Value.int (120 : Int) 221)), (@PySem.DictEntry.mk (47 : Int) (@PySem.Value.int (47 : Int) 316) (@PySem.Value.int (120 : Int) 221)), (@PySem.DictEntry.mk (48 : Int) (@PySem.Value.int (48 : Int) 318) (@PySem.Value.int (120 : Int) 221)), (@PySem.DictEntry.mk (49 : Int) (@PySem.Value.int (49 : Int) 320) (@PySem.Value.int (120 : Int) 221)), (@PySem.DictEntry.mk (50 : Int) (@PySem.Value.int (50 : Int) 322) (@PySem.Value.int (120 : Int) 221)), (@PySem.DictEntry.mk (51 : Int) (@PySem.Value.int (51 : Int) 324) (@PySem.Value.int (120 : Int) 221)), (@PySem.DictEntry.mk (52 : Int) (@PySem.Value.int (52 : Int) 326) (@PySem.Value.int (120 : Int) 221)), (@PySem.DictEntry.mk (53 : Int) (@PySem.Value.int (53 : Int) 328) (@PySem.Value.int (120 : Int) 221)), (@PySem.DictEntry.mk (54 : Int) (@PySem.Value.int (54 : Int) 330) (@PySem.Value.int (120 : Int) 221)), (@PySem.DictEntry.mk (55 : Int) (@PySem.Value.int (55 : Int) 332) (@PySem.Value.int (120 : Int) 221)), (@PySem.DictEntry.mk (56 : Int) (@PySem.Value.int (56 : Int) 334) (@PySem.Value.int (120 : Int) 221)), (@PySem.DictEntry.mk (57 : Int) (@PySem.Value.int (57 : Int) 336) (@PySem.Value.int (120 : Int) 221)), (@PySem.DictEntry.mk (58 : Int) (@PySem.Value.int (58 : Int) 338) (@PySem.Value.int (120 : Int) 221)), (@PySem.DictEntry.mk (59 : Int) (@PySem.Value.int (59 : Int) 340) (@PySem.Value.int (120 : Int) 221)), (@PySem.DictEntry.mk (60 : Int) (@PySem.Value.int (60 : Int) 342) (@PySem.Value.int (120 : Int) 221)), (@PySem.DictEntry.mk (61 : Int) (@PySem.Value.int (61 : Int) 344) (@PySem.Value.int (120 : Int) 221)), (@PySem.DictEntry.mk (62 : Int) (@PySem.Value.int (62 : Int) 346) (@PySem.Value.int (120 : Int) 221)), (@PySem.DictEntry.mk (63 : Int) (@PySem.Value.int (63 : Int) 348) (@PySem.Value.int (120 : Int) 221)), (@PySem.DictEntry.mk (64 : Int) (@PySem.Value.int (64 : Int) 350) (@PySem.Value.int (120 : Int) 221)), (@PySem.DictEntry.mk (65 : Int) (@PySem.Value.int (65 : Int) 352) (@PySem.Value.int (120 : Int) 221)), (@PySem.DictEntry.mk (66 : Int) (@PySem.Value.int (66 : Int) 354) (@PySem.Value.int (120 : Int) 221)), (@PySem.DictEntry.mk (67 : Int) (@PySem.Value.int (67 : Int) 356) (@PySem.Value.int (120 : Int) 221)), (@PySem.DictEntry.mk (68 : Int) (@PySem.Value.int (68 : Int) 358) (@PySem.Value.int (120 : Int) 221)), (@PySem.DictEntry.mk (69 : Int) (@PySem.Value.int (69 : Int) 360) (@PySem.Value.int (120 : Int) 221)), (@PySem.DictEntry.mk (70 : Int) (@PySem.Value.int (70 : Int) 362) (@PySem.Value.int (120 : Int) 221)), (@PySem.DictEntry.mk (71 : Int) (@PySem.Value.int (71 : Int) 364) (@PySem.Value.int (120 : Int) 221)), (@PySem.DictEntry.mk (72 : Int) (@PySem.Value.int (72 : Int) 366) (@PySem.Value.int (120 : Int) 221)), (@PySem.DictEntry.mk (73 : Int) (@PySem.Value.int (73 : Int) 368) (@PySem.Value.int (120 : Int) 221)), (@PySem.DictEntry.mk (74 : Int) (@PySem.Value.int (74 : Int) 370) (@PySem.Value.int (120 : Int) 221)), (@PySem.DictEntry.mk (75 : Int) (@PySem.Value.int (75 : Int) 372) (@PySem.Value.int (120 : Int) 221)), (@PySem.DictEntry.mk (76 : Int) (@PySem.Value.int (76 : Int) 374) (@PySem.Value.int (120 : Int) 221)), (@PySem.DictEntry.mk (77 : Int) (@PySem.Value.int (77 : Int) 376) (@PySem.Value.int (120 : Int) 221)), (@PySem.DictEntry.mk (78 : Int) (@PySem.Value.int (78 : Int) 378) (@PySem.Value.int (120 : Int) 221)), (@PySem.DictEntry.mk (79 : Int) (@PySem.Value.int (79 : Int) 380) (@PySem.Value.int (120 : Int) 221)), (@PySem.DictEntry.mk (80 : Int) (@PySem.Value.int (80 : Int) 382) (@PySem.Value.int (120 : Int) 221)), (@PySem.DictEntry.mk (81 : Int) (@PySem.Value.int (81 : Int) 384) (@PySem.Value.int (120 : Int) 221)), (@PySem.DictEntry.mk (82 : Int) (@PySem.Value.int (82 : Int) 386) (@PySem.Value.int (120 : Int) 221)), (@PySem.DictEntry.mk (83 : Int) (@PySem.Value.int (83 : Int) 388) (@PySem.Value.int (120 : Int) 221)), (@PySem.DictEntry.mk (84 : Int) (@PySem.Value.int (84 : Int) 390) (@PySem.Value.int (120 : Int) 221)), (@PySem.DictEntry.mk (85 : Int) (@PySem.Value.int (85 : Int) 392) (@PySem.Value.int (120 : Int) 221)), (@PySem.DictEntry.mk (86 : Int) (@PySem.Value.int (86 : Int) 394) (@PySem.Value.int (120 : Int) 221)), (@PySem.DictEntry.mk (87 : Int) (@PySem.Value.int (87 : Int) 396) (@PySem.Value.int (120 : Int) 221)), (@PySem.DictEntry.mk (88 : Int) (@PySem.Value.int (88 : Int) 398) (@PySem.Value.int (120 : Int) 221)), (@PySem.DictEntry.mk (89 : Int) (@PySem.Value.int (89 : Int) 400) (@PySem.Value.int (120 : Int) 221)), (@PySem.DictEntry.mk (90 : Int) (@PySem.Value.int (90 : Int) 402) (@PySem.Value.int (120 : Int) 221)), (@PySem.DictEntry.mk (91 : Int) (@PySem.Value.int (91 : Int) 404) (@PySem.Value.int (40 : Int) 507)), (@PySem.DictEntry.mk (92 : Int) (@PySem.Value.int (92 : Int) 406) (@PySem.Value.int (120 : Int) 221)), (@PySem.DictEntry.mk (93 : Int) (@PySem.Value.int (93 : Int) 408) (@PySem.Value.int (41 : Int) 537)), (@PySem.DictEntry.mk (94 : Int) (@PySem.Value.int (94 : Int) 410) (@PySem.Value.int (120 : Int) 221)), (@PySem.DictEntry.mk (95 : Int) (@PySem.Value.int (95 : Int) 412) (@PySem.Value.int (120 : Int) 221)), (@PySem.DictEntry.mk (96 : Int) (@PySem.Value.int (96 : Int) 414) (@PySem.Value.int (120 : Int) 221)), (@PySem.DictEntry.mk (97 : Int) (@PySem.Value.int (97 : Int) 416) (@PySem.Value.int (120 : Int) 221)), (@PySem.DictEntry.mk (98 : Int) (@PySem.Value.int (98 : Int) 418) (@PySem.Value.int (120 : Int) 221)), (@PySem.DictEntry.mk (99 : Int) (@PySem.Value.int (99 : Int) 420) (@PySem.Value.int (120 : Int) 221)), (@PySem.DictEntry.mk (100 : Int) (@PySem.Value.int (100 : Int) 422) (@PySem.Value.int (120 : Int) 221)), (@PySem.DictEntry.mk (101 : Int) (@PySem.Value.int (101 : Int) 424) (@PySem.Value.int (120 : Int) 221)), (@PySem.DictEntry.mk (102 : Int) (@PySem.Value.int (102 : Int) 426) (@PySem.Value.int (120 : Int) 221)), (@PySem.DictEntry.mk (103 : Int) (@PySem.Value.int (103 : Int) 428) (@PySem.Value.int (120 : Int) 221)), (@PySem.DictEntry.mk (104 : Int) (@PySem.Value.int (104 : Int) 430) (@PySem.Value.int (120 : Int) 221)), (@PySem.DictEntry.mk (105 : Int) (@PySem.Value.int (105 : Int) 432) (@PySem.Value.int (120 : Int) 221)), (@PySem.DictEntry.mk (106 : Int) (@PySem.Value.int (106 : Int) 434) (@PySem.Value.int (120 : Int) 221)), (@PySem.DictEntry.mk (107 : Int) (@PySem.Value.int (107 : Int) 436) (@PySem.Value.int (120 : Int) 221)), (@PySem.DictEntry.mk (108 : Int) (@PySem.Value.int (108 : Int) 438) (@PySem.Value.int (120 : Int) 221)), (@PySem.DictEntry.mk (109 : Int) (@PySem.Value.int (109 : Int) 440) (@PySem.Value.int (120 : Int) 221)), (@PySem.DictEntry.mk (110 : Int) (@PySem.Value.int (110 : Int) 442) (@PySem.Value.int (120 : Int) 221)), (@PySem.DictEntry.mk (111 : Int) (@PySem.Value.int (111 : Int) 444) (@PySem.Value.int (120 : Int) 221)), (@PySem.DictEntry.mk (112 : Int) (@PySem.Value.int (112 : Int) 446) (@PySem.Value.int (120 : Int) 221)), (@PySem.DictEntry.mk (113 : Int) (@PySem.Value.int (113 : Int) 448) (@PySem.Value.int (120 : Int) 221)), (@PySem.DictEntry.mk (114 : Int) (@PySem.Value.int (114 : Int) 450) (@PySem.Value.int (120 : Int) 221)), (@PySem.DictEntry.mk (115 : Int) (@PySem.Value.int (115 : Int) 452) (@PySem.Value.int (120 : Int) 221)), (@PySem.DictEntry.mk (116 : Int) (@PySem.Value.int (116 : Int) 454) (@PySem.Value.int (120 : Int) 221)), (@PySem.DictEntry.mk (117 : Int) (@PySem.Value.int (117 : Int) 456) (@PySem.Value.int (120 : Int) 221)), (@PySem.DictEntry.mk (118 : Int) (@PySem.Value.int (118 : Int) 458) (@PySem.Value.int (120 : Int) 221)), (@PySem.DictEntry.mk (119 : Int) (@PySem.Value.int (119 : Int) 460) (@PySem.Value.int (120 : Int) 221)), (@PySem.DictEntry.mk (120 : Int) (@PySem.Value.int (120 : Int) 462) (@PySem.Value.int (120 : Int) 221)), (@PySem.DictEntry.mk (121 : Int) (@PySem.Value.int (121 : Int) 464) (@PySem.Value.int (120 : Int) 221)), (@PySem.DictEntry.mk (122 : Int) (@PySem.Value.int (122 : Int) 466) (@PySem.Value.int (120 : Int) 221)), (@PySem.DictEntry.mk (123 : Int) (@PySem.Value.int (123 : Int) 468) (@PySem.Value.int (40 : Int) 501)), (@PySem.DictEntry.mk (124 : Int) (@PySem.Value.int (124 : Int) 470) (@PySem.Value.int (120 : Int) 221)), (@PySem.DictEntry.mk (125 : Int) (@PySem.Value.int (125 : Int) 472) (@PySem.Value.int (41 : Int) 531)), (@PySem.DictEntry.mk (126 : Int) (@PySem.Value.int (126 : Int) 474) (@PySem.Value.int (120 : Int) 221)), (@PySem.DictEntry.mk (127 : Int) (@PySem.Value.int (127 : Int) 476) (@PySem.Value.int (120 : Int) 221))]) 128) (@List.toArray (@Option @PySem.Value) []))
noncomputable def hG4_58 (P : Params) : Obj := (@PySem.Obj.mk (@PySem.Value.type "str_ascii_iterator") (@Option.none @Nat) (@PySem.Data.fields (@List.toArray @PySem.Value [@PySem.Value.none, (@PySem.Value.int (3 : Int) 0)])) (@List.toArray (@Option @PySem.Value) []))
noncomputable def hG4_59 (P : Params) : Obj := (@PySem.Obj.mk (@PySem.Value.type "tuple") (@Option.none @Nat) (@PySem.Data.seq (@List.toArray @PySem.Value []) 0) (@List.toArray (@Option @PySem.Value) []))
noncomputable def hG4_60 (P : Params) : Obj := (@PySem.Obj.mk @PySem.Value.none (@Option.none @Nat) (@PySem.Data.fields (@List.toArray @PySem.Value [])) (@List.toArray (@Option @PySem.Value) []))
noncomputable def hG4_61 (P : Params) : Obj := (@PySem.Obj.mk (@PySem.Value.type "code") (@Option.none @Nat) (@PySem.Data.fields (@List.toArray @PySem.Value [(@PySem.Value.str (@PySem.Str.ofString "<genexpr>") 510), (@PySem.Value.str (@PySem.Str.ofString "<genexpr>") 511), (@PySem.Value.str (@PySem.Str.ofString "/claim/cut.py") 512), (@PySem.Value.int (8 : Int) 0), (@PySem.Value.int (1 : Int) 0), (@PySem.Value.int (0 : Int) 0), (@PySem.Value.int (0 : Int) 0), (@PySem.Value.int (35 : Int) 0), (@PySem.Value.ref 59), (@PySem.Value.bool @Bool.true), (@PySem.Value.int (181 : Int) 0), (@PySem.Value.ref 60), @PySem.Value.none, @PySem.Value.none, @PySem.Value.none, @PySem.Value.none, (@PySem.Value.int (513 : Int) 0), (@PySem.Value.int (8 : Int) 0), (@PySem.Value.str (@PySem.Str.ofString "/claim/cut.py") 514)])) (@List.toArray (@Option @PySem.Value) []))
noncomputable def hG4_62 (P : Params) : Obj := (@PySem.Obj.mk (@PySem.Value.type "frame") (@Option.none @Nat) (@PySem.Data.dict (@List.toArray @PySem.DictEntry [(@PySem.DictEntry.mk (@PySem.PyData.keyHash P (@PySem.Str.ofString ".0")) (@PySem.Value.str (@PySem.Str.ofString ".0") 515) (@PySem.Value.ref 58)), (@PySem.DictEntry.mk (@PySem.PyData.keyHash P (@PySem.Str.ofString "c")) (@PySem.Value.str (@PySem.Str.ofString "c") 522) (@PySem.Value.str (@PySem.Str.ofString "]") 533))]) 2) (@List.toArray (@Option @PySem.Value) []))
noncomputable def hG4_63 (P : Params) : Obj := (@PySem.Obj.mk (@PySem.Value.type "generator") (@Option.none @Nat) (@PySem.Data.fields (@List.toArray @PySem.Value [(@PySem.Value.int (1 : Int) 0), (@PySem.Value.str (@PySem.Str.ofString "<genexpr>") 516), (@PySem.Value.str (@PySem.Str.ofString "<genexpr>") 517)])) (@List.toArray (@Option @PySem.Value) []))
noncomputable def hG4_64 (P : Params) : Obj := (@PySem.Obj.mk (@PySem.Value.type "tuple") (@Option.none @Nat) (@PySem.Data.seq (@List.toArray @PySem.Value [(@PySem.Value.str (@PySem.Str.ofString "'generator' object has no attribute 'keys'") 519)]) 0) (@List.toArray (@Option @PySem.Value) []))
noncomputable def hG4_65 (P : Params) : Obj := (@PySem.Obj.mk (@PySem.Value.type "AttributeError") (@Option.none @Nat) (@PySem.Data.fields (@List.toArray @PySem.Value [(@PySem.Value.ref 64), @PySem.Value.none, @PySem.Value.none, @PySem.Value.none, (@PySem.Value.bool @Bool.false), @PySem.Value.none, (@PySem.Value.str (@PySem.Str.ofString "keys") 520), (@PySem.Value.ref 63)])) (@List.toArray (@Option @PySem.Value) []))
noncomputable def hG4_66 (P : Params) : Obj := (@PySem.Obj.mk (@PySem.Value.type "tuple") (@Option.none @Nat) (@PySem.Data.seq (@List.toArray @PySem.Value [(@PySem.Value.int (41 : Int) 523), (@PySem.Value.int (41 : Int) 525)]) 0) (@List.toArray (@Option @PySem.Value) []))
noncomputable def hG4_67 (P : Params) : Obj := (@PySem.Obj.mk (@PySem.Value.type "tuple") (@Option.none @Nat) (@PySem.Data.seq (@List.toArray @PySem.Value [(@PySem.Value.int (125 : Int) 529), (@PySem.Value.int (41 : Int) 531)]) 0) (@List.toArray (@Option @PySem.Value) []))
noncomputable def hG4_68 (P : Params) : Obj := (@PySem.Obj.mk (@PySem.Value.type "tuple") (@Option.none @Nat) (@PySem.Data.seq (@List.toArray @PySem.Value [(@PySem.Value.int (93 : Int) 535), (@PySem.Value.int (41 : Int) 537)]) 0) (@List.toArray (@Option @PySem.Value) []))
noncomputable def hG4_69 (P : Params) : Obj := (@PySem.Obj.mk (@PySem.Value.type "tuple") (@Option.none @Nat) (@PySem.Data.seq (@List.toArray @PySem.Value []) 0) (@List.toArray (@Option @PySem.Value) []))
noncomputable def hG4_70 (P : Params) : Obj := (@PySem.Obj.mk (@PySem.Value.type "StopIteration") (@Option.none @Nat) (@PySem.Data.fields (@List.toArray @PySem.Value [(@PySem.Value.ref 69), @PySem.Value.none, @PySem.Value.none, @PySem.Value.none, (@PySem.Value.bool @Bool.false), @PySem.Value.none])) (@List.toArray (@Option @PySem.Value) []))
noncomputable def hG4_71 (P : Params) : Obj := (@PySem.Obj.mk (@PySem.Value.type "tuple") (@Option.none @Nat) (@PySem.Data.seq (@List.toArray @PySem.Value []) 0) (@List.toArray (@Option @PySem.Value) []))
noncomputable def hG4_72 (P : Params) : Obj := (@PySem.Obj.mk (@PySem.Value.type "StopIteration") (@Option.none @Nat) (@PySem.Data.fields (@List.toArray @PySem.Value [(@PySem.Value.ref 71), @PySem.Value.none, @PySem.Value.none, @PySem.Value.none, (@PySem.Value.bool @Bool.false), @PySem.Value.none])) (@List.toArray (@Option @PySem.Value) []))
noncomputable def treeG4 (P : Params) : BT := (BT.node (boot_o_0 P) (BT.node (boot_o_1 P) (BT.node (hG2_3 P) (BT.node (boot_o_7 P) (BT.node (hG0_15 P) (BT.node (hG0_31 P) (BT.node (hG4_63 P) BT.nil BT.nil) BT.nil) (BT.node (hG3_47 P) BT.nil BT.nil)) (BT.node (hG0_23 P) (BT.node (hG4_39 P) (BT.node (hG4_71 P) BT.nil BT.nil) BT.nil) (BT.node (hG3_55 P) BT.nil BT.nil))) (BT.node (hp_11 P) (BT.node (hG0_19 P) (BT.node (hG0_35 P) (BT.node (hG4_67 P) BT.nil BT.nil) BT.nil) (BT.node (hG3_51 P) BT.nil BT.nil)) (BT.node (hG0_27 P) (BT.node (hG3_43 P) BT.nil BT.nil) (BT.node (hG4_59 P) BT.nil BT.nil)))) (BT.node (boot_o_5 P) (BT.node (boot_o_9 P) (BT.node (hG0_17 P) (BT.node (hG0_33 P) (BT.node (hG4_65 P) BT.nil BT.nil) BT.nil) (BT.node (hG3_49 P) BT.nil BT.nil)) (BT.node (hG0_25 P) (BT.node (hG2_41 P) BT.nil BT.nil) (BT.node (hG3_57 P) BT.nil BT.nil))) (BT.node (hp_13 P) (BT.node (hG0_21 P) (BT.node (hG2x0_37 P) (BT.node (hG4_69 P) BT.nil BT.nil) BT.nil) (BT.node (hG3_53 P) BT.nil BT.nil)) (BT.node (hG0_29 P) (BT.node (hG3_45 P) BT.nil BT.nil) (BT.node (hG4_61 P) BT.nil BT.nil))))) (BT.node (boot_o_2 P) (BT.node (boot_o_4 P) (BT.node (boot_o_8 P) (BT.node (hG0_16 P) (BT.node (hG0_32 P) (BT.node (hG4_64 P) BT.nil BT.nil) BT.nil) (BT.node (hG3_48 P) BT.nil BT.nil)) (BT.node (hG0_24 P) (BT.node (hG2x128_40 P) (BT.node (hG4_72 P) BT.nil BT.nil) BT.nil) (BT.node (hG3_56 P) BT.nil BT.nil))) (BT.node (hG4_12 P) (BT.node (hG0_20 P) (BT.node (hG2x0_36 P) (BT.node (hG4_68 P) BT.nil BT.nil) BT.nil) (BT.node (hG3_52 P) BT.nil BT.nil)) (BT.node (hG0_28 P) (BT.node (hG3_44 P) BT.nil BT.nil) (BT.node (hG4_60 P) BT.nil BT.nil)))) (BT.node (boot_o_6 P) (BT.node (boot_o_10 P) (BT.node (hG0_18 P) (BT.node (hG0_34 P) (BT.node (hG4_66 P) BT.nil BT.nil) BT.nil) (BT.node (hG3_50 P) BT.nil BT.nil)) (BT.node (hG0_26 P) (BT.node (hG2_42 P) BT.nil BT.nil) (BT.node (hG4_58 P) BT.nil BT.nil))) (BT.node (hp_14 P) (BT.node (hG0_22 P) (BT.node (hG2x0_38 P) (BT.node (hG4_70 P) BT.nil BT.nil) BT.nil) (BT.node (hG3_54 P) BT.nil BT.nil)) (BT.node (hG0_30 P) (BT.node (hG3_46 P) BT.nil BT.nil) (BT.node (hG4_62 P) BT.nil BT.nil))))))
noncomputable def h_G4_q (w : World) (os : OsState) : Prop := segRunT treeTable p9 w 11 ann9 1 367 (SharedT.mk (treeG3 w.params) 58 (@PySem.Life.mk [] [] [] 0 [] [] @Bool.false (@List.toArray @Nat []) [] 0 @Bool.false @Bool.false @Bool.false (0 : Int) [(2000 : Int), (10 : Int), (10 : Int)] @Bool.false 0 @Bool.true [] [] 0 @Bool.false) (Array.mk [GenState.finished]) (@PySem.Drawn.mk 0 0 0 0) 509 os) (piecesOf ((b9.drop 4).take 1) e9 c9 (@PySem.Pos.mk 7 0 7 49) B9) = some (Flow.next, (SharedT.mk (treeG4 w.params) 73 (@PySem.Life.mk [] [] [] 0 [] [] @Bool.false (@List.toArray @Nat []) [] 0 @Bool.false @Bool.false @Bool.false (0 : Int) [(2000 : Int), (10 : Int), (10 : Int)] @Bool.false 0 @Bool.true [] [] 0 @Bool.false) (Array.mk [GenState.finished, GenState.finished]) (@PySem.Drawn.mk 0 0 0 0) 539 os), c9, (@PySem.Pos.mk 8 0 8 49))
theorem h_G4_ff (w : World) (os : OsState) : h_G4_q ((w.withFollow "special-get-raises" false).withFollow "comprehension-iter-twice" false) os := by
  unfold h_G4_q
  (rw [show @PySem.W.segRunT = _ from PySem.W.Fast.te10110043849684766642, show treeTable = _ from PySem.W.Fast.te14364793385576792824]; kernel_rfl)
theorem h_G4_ft (w : World) (os : OsState) : h_G4_q ((w.withFollow "special-get-raises" true).withFollow "comprehension-iter-twice" false) os := by
  unfold h_G4_q
  (rw [show @PySem.W.segRunT = _ from PySem.W.Fast.te10110043849684766642, show treeTable = _ from PySem.W.Fast.te14364793385576792824]; kernel_rfl)
theorem h_G4_tf (w : World) (os : OsState) : h_G4_q ((w.withFollow "special-get-raises" false).withFollow "comprehension-iter-twice" true) os := by
  unfold h_G4_q
  (rw [show @PySem.W.segRunT = _ from PySem.W.Fast.te10110043849684766642, show treeTable = _ from PySem.W.Fast.te14364793385576792824]; kernel_rfl)
theorem h_G4_tt (w : World) (os : OsState) : h_G4_q ((w.withFollow "special-get-raises" true).withFollow "comprehension-iter-twice" true) os := by
  unfold h_G4_q
  (rw [show @PySem.W.segRunT = _ from PySem.W.Fast.te10110043849684766642, show treeTable = _ from PySem.W.Fast.te14364793385576792824]; kernel_rfl)
theorem h_G4 (w : World) (os : OsState) : segRunT treeTable p9 w 11 ann9 1 367 (SharedT.mk (treeG3 w.params) 58 (@PySem.Life.mk [] [] [] 0 [] [] @Bool.false (@List.toArray @Nat []) [] 0 @Bool.false @Bool.false @Bool.false (0 : Int) [(2000 : Int), (10 : Int), (10 : Int)] @Bool.false 0 @Bool.true [] [] 0 @Bool.false) (Array.mk [GenState.finished]) (@PySem.Drawn.mk 0 0 0 0) 509 os) (piecesOf ((b9.drop 4).take 1) e9 c9 (@PySem.Pos.mk 7 0 7 49) B9) = some (Flow.next, (SharedT.mk (treeG4 w.params) 73 (@PySem.Life.mk [] [] [] 0 [] [] @Bool.false (@List.toArray @Nat []) [] 0 @Bool.false @Bool.false @Bool.false (0 : Int) [(2000 : Int), (10 : Int), (10 : Int)] @Bool.false 0 @Bool.true [] [] 0 @Bool.false) (Array.mk [GenState.finished, GenState.finished]) (@PySem.Drawn.mk 0 0 0 0) 539 os), c9, (@PySem.Pos.mk 8 0 8 49)) := byRow2 "comprehension-iter-twice" (P := fun w => ∀ os, h_G4_q w os) (byRow2 "special-get-raises" (P := fun w => ∀ os, h_G4_q (w.withFollow "comprehension-iter-twice" false) os) h_G4_ff h_G4_ft) (byRow2 "special-get-raises" (P := fun w => ∀ os, h_G4_q (w.withFollow "comprehension-iter-twice" true) os) h_G4_tf h_G4_tt) w os
noncomputable def hG5_12 (P : Params) : Obj := (@PySem.Obj.mk @PySem.Value.none (@Option.none @Nat) (@PySem.Data.fields (@List.toArray @PySem.Value [(@PySem.Value.int (2 : Int) 0), (@PySem.Value.int (0 : Int) 0), (@PySem.Value.ref 20), (@PySem.Value.int (7 : Int) 0), (@PySem.Value.int (13 : Int) 0), (@PySem.Value.ref 46), (@PySem.Value.int (8 : Int) 0), (@PySem.Value.int (13 : Int) 0), (@PySem.Value.ref 61), (@PySem.Value.int (9 : Int) 0), (@PySem.Value.int (13 : Int) 0), (@PySem.Value.ref 76)])) (@List.toArray (@Option @PySem.Value) []))
noncomputable def hG5_39 (P : Params) : Obj := (@PySem.Obj.mk (@PySem.Value.ref 31) (@Option.some @Nat 38) (@PySem.Data.dict (@List.toArray @PySem.DictEntry [(@PySem.DictEntry.mk (0 : Int) (@PySem.Value.int (0 : Int) 222) (@PySem.Value.int (120 : Int) 221)), (@PySem.DictEntry.mk (1 : Int) (@PySem.Value.int (1 : Int) 224) (@PySem.Value.int (120 : Int) 221)), (@PySem.DictEntry.mk (2 : Int) (@PySem.Value.int (2 : Int) 226) (@PySem.Value.int (120 : Int) 221)), (@PySem.DictEntry.mk (3 : Int) (@PySem.Value.int (3 : Int) 228) (@PySem.Value.int (120 : Int) 221)), (@PySem.DictEntry.mk (4 : Int) (@PySem.Value.int (4 : Int) 230) (@PySem.Value.int (120 : Int) 221)), (@PySem.DictEntry.mk (5 : Int) (@PySem.Value.int (5 : Int) 232) (@PySem.Value.int (120 : Int) 221)), (@PySem.DictEntry.mk (6 : Int) (@PySem.Value.int (6 : Int) 234) (@PySem.Value.int (120 : Int) 221)), (@PySem.DictEntry.mk (7 : Int) (@PySem.Value.int (7 : Int) 236) (@PySem.Value.int (120 : Int) 221)), (@PySem.DictEntry.mk (8 : Int) (@PySem.Value.int (8 : Int) 238) (@PySem.Value.int (120 : Int) 221)), (@PySem.DictEntry.mk (9 : Int) (@PySem.Value.int (9 : Int) 240) (@PySem.Value.int (120 : Int) 221)), (@PySem.DictEntry.mk (10 : Int) (@PySem.Value.int (10 : Int) 242) (@PySem.Value.int (10 : Int) 569)), (@PySem.DictEntry.mk (11 : Int) (@PySem.Value.int (11 : Int) 244) (@PySem.Value.int (120 : Int) 221)), (@PySem.DictEntry.mk (12 : Int) (@PySem.Value.int (12 : Int) 246) (@PySem.Value.int (120 : Int) 221)), (@PySem.DictEntry.mk (13 : Int) (@PySem.Value.int (13 : Int) 248) (@PySem.Value.int (120 : Int) 221)), (@PySem.DictEntry.mk (14 : Int) (@PySem.Value.int (14 : Int) 250) (@PySem.Value.int (120 : Int) 221)), (@PySem.DictEntry.mk (15 : Int) (@PySem.Value.int (15 : Int) 252) (@PySem.Value.int (120 : Int) 221)), (@PySem.DictEntry.mk (16 : Int) (@PySem.Value.int (16 : Int) 254) (@PySem.Value.int (120 : Int) 221)), (@PySem.DictEntry.mk (17 : Int) (@PySem.Value.int (17 : Int) 256) (@PySem.Value.int (120 : Int) 221)), (@PySem.DictEntry.mk (18 : Int) (@PySem.Value.int (18 : Int) 258) (@PySem.Value.int (120 : Int) 221)), (@PySem.DictEntry.mk (19 : Int) (@PySem.Value.int (19 : Int) 260) (@PySem.Value.int (120 : Int) 221)), (@PySem.DictEntry.mk (20 : Int) (@PySem.Value.int (20 : Int) 262) (@PySem.Value.int (120 : Int) 221)), (@PySem.DictEntry.mk (21 : Int) (@PySem.Value.int (21 : Int) 264) (@PySem.Value.int (120 : Int) 221)), (@PySem.DictEntry.mk (22 : Int) (@PySem.Value.int (22 : Int) 266) (@PySem.Value.int (120 : Int) 221)), (@PySem.DictEntry.mk (23 : Int) (@PySem.Value.int (23 : Int) 268) (@PySem.Value.int (120 : Int) 221)), (@PySem.DictEntry.mk (24 : Int) (@PySem.Value.int (24 : Int) 270) (@PySem.Value.int (120 : Int) 221)), (@PySem.DictEntry.mk (25 : Int) (@PySem.Value.int (25 : Int) 272) (@PySem.Value.int (120 : Int) 221)), (@PySem.DictEntry.mk (26 : Int) (@PySem.Value.int (26 : Int) 274) (@PySem.Value.int (120 : Int) 221)), (@PySem.DictEntry.mk (27 : Int) (@PySem.Value.int (27 : Int) 276) (@PySem.Value.int (120 : Int) 221)), (@PySem.DictEntry.mk (28 : Int) (@PySem.Value.int (28 : Int) 278) (@PySem.Value.int (120 : Int) 221)), (@PySem.DictEntry.mk (29 : Int) (@PySem.Value.int (29 : Int) 280) (@PySem.Value.int (120 : Int) 221)), (@PySem.DictEntry.mk (30 : Int) (@PySem.Value.int (30 : Int) 282) (@PySem.Value.int (120 : Int) 221)), (@PySem.DictEntry.mk (31 : Int) (@PySem.Value.int (31 : Int) 284) (@PySem.Value.int (120 : Int) 221)), (@PySem.DictEntry.mk (32 : Int) (@PySem.Value.int (32 : Int) 286) (@PySem.Value.int (120 : Int) 221)), (@PySem.DictEntry.mk (33 : Int) (@PySem.Value.int (33 : Int) 288) (@PySem.Value.int (120 : Int) 221)), (@PySem.DictEntry.mk (34 : Int) (@PySem.Value.int (34 : Int) 290) (@PySem.Value.int (34 : Int) 554)), (@PySem.DictEntry.mk (35 : Int) (@PySem.Value.int (35 : Int) 292) (@PySem.Value.int (35 : Int) 574)), (@PySem.DictEntry.mk (36 : Int) (@PySem.Value.int (36 : Int) 294) (@PySem.Value.int (120 : Int) 221)), (@PySem.DictEntry.mk (37 : Int) (@PySem.Value.int (37 : Int) 296) (@PySem.Value.int (120 : Int) 221)), (@PySem.DictEntry.mk (38 : Int) (@PySem.Value.int (38 : Int) 298) (@PySem.Value.int (120 : Int) 221)), (@PySem.DictEntry.mk (39 : Int) (@PySem.Value.int (39 : Int) 300) (@PySem.Value.int (39 : Int) 559)), (@PySem.DictEntry.mk (40 : Int) (@PySem.Value.int (40 : Int) 302) (@PySem.Value.int (40 : Int) 495)), (@PySem.DictEntry.mk (41 : Int) (@PySem.Value.int (41 : Int) 304) (@PySem.Value.int (41 : Int) 525)), (@PySem.DictEntry.mk (42 : Int) (@PySem.Value.int (42 : Int) 306) (@PySem.Value.int (120 : Int) 221)), (@PySem.DictEntry.mk (43 : Int) (@PySem.Value.int (43 : Int) 308) (@PySem.Value.int (120 : Int) 221)), (@PySem.DictEntry.mk (44 : Int) (@PySem.Value.int (44 : Int) 310) (@PySem.Value.int (120 : Int) 221)), (@PySem.DictEntry.mk (45 : Int) (@PySem.Value.int (45 : Int) 312) (@PySem.Value.int (120 : Int) 221)), (@PySem.DictEntry.mk (46 : Int) (@PySem.Value.int (46 : Int) 314) (@PySem.Value.int (120 : Int) 221)), (@PySem.DictEntry.mk (47 : Int) (@PySem.Value.int (47 : Int) 316) (@PySem.Value.int (120 : Int) 221)), (@PySem.DictEntry.mk (48 : Int) (@PySem.Value.int (48 : Int) 318) (@PySem.Value.int (120 : Int) 221)), (@PySem.DictEntry.mk (49 : Int) (@PySem.Value.int (49 : Int) 320) (@PySem.Value.int (120 : Int) 221)), (@PySem.DictEntry.mk (50 : Int) (@PySem.Value.int (50 : Int) 322) (@PySem.Value.int (120 : Int) 221)), (@PySem.DictEntry.mk (51 : Int) (@PySem.Value.int (51 : Int) 324) (@PySem.Value.int (120 : Int) 221)), (@PySem.DictEntry.mk (52 : Int) (@PySem.Value.int (52 : Int) 326) (@PySem.Value.int (120 : Int) 221)), (@PySem.DictEntry.mk (53 : Int) (@PySem.Value.int (53 : Int) 328) (@PySem.Value.int (120 : Int) 221)), (@PySem.DictEntry.mk (54 : Int) (@PySem.Value.int (54 : Int) 330) (@PySem.Value.int (120 : Int) 221)), (@PySem.DictEntry.mk (55 : Int) (@PySem.Value.int (55 : Int) 332) (@PySem.Value.int (120 : Int) 221)), (@PySem.DictEntry.mk (56 : Int) (@PySem.Value.int (56 : Int) 334) (@PySem.Value.int (120 : Int) 221)), (@PySem.DictEntry.mk (57 : Int) (@PySem.Value.int (57 : Int) 336) (@PySem.Value.int (120 : Int) 221)), (@PySem.DictEntry.mk (58 : Int) (@PySem.Value.int (58 : Int) 338) (@PySem.Value.int (120 : Int) 221)), (@PySem.DictEntry.mk (59 : Int) (@PySem.Value.int (59 : Int) 340) (@PySem.Value.int (120 : Int) 221)), (@PySem.DictEntry.mk (60 : Int) (@PySem.Value.int (60 : Int) 342) (@PySem.Value.int (120 : Int) 221)), (@PySem.DictEntry.mk (61 : Int) (@PySem.Value.int (61 : Int) 344) (@PySem.Value.int (120 : Int) 221)), (@PySem.DictEntry.mk (62 : Int) (@PySem.Value.int (62 : Int) 346) (@PySem.Value.int (120 : Int) 221)), (@PySem.DictEntry.mk (63 : Int) (@PySem.Value.int (63 : Int) 348) (@PySem.Value.int (120 : Int) 221)), (@PySem.DictEntry.mk (64 : Int) (@PySem.Value.int (64 : Int) 350) (@PySem.Value.int (120 : Int) 221)), (@PySem.DictEntry.mk (65 : Int) (@PySem.Value.int (65 : Int) 352) (@PySem.Value.int (120 : Int) 221)), (@PySem.DictEntry.mk (66 : Int) (@PySem.Value.int (66 : Int) 354) (@PySem.Value.int (120 : Int) 221)), (@PySem.DictEntry.mk (67 : Int) (@PySem.Value.int (67 : Int) 356) (@PySem.Value.int (120 : Int) 221)), (@PySem.DictEntry.mk (68 : Int) (@PySem.Value.int (68 : Int) 358) (@PySem.Value.int (120 : Int) 221)), (@PySem.DictEntry.mk (69 : Int) (@PySem.Value.int (69 : Int) 360) (@PySem.Value.int (120 : Int) 221)), (@PySem.DictEntry.mk (70 : Int) (@PySem.Value.int (70 : Int) 362) (@PySem.Value.int (120 : Int) 221)), (@PySem.DictEntry.mk (71 : Int) (@PySem.Value.int (71 : Int) 364) (@PySem.Value.int (120 : Int) 221)), (@PySem.DictEntry.mk (72 : Int) (@PySem.Value.int (72 : Int) 366) (@PySem.Value.int (120 : Int) 221)), (@PySem.DictEntry.mk (73 : Int) (@PySem.Value.int (73 : Int) 368) (@PySem.Value.int (120 : Int) 221)), (@PySem.DictEntry.mk (74 : Int) (@PySem.Value.int (74 : Int) 370) (@PySem.Value.int (120 : Int) 221)), (@PySem.DictEntry.mk (75 : Int) (@PySem.Value.int (75 : Int) 372) (@PySem.Value.int (120 : Int) 221)), (@PySem.DictEntry.mk (76 : Int) (@PySem.Value.int (76 : Int) 374) (@PySem.Value.int (120 : Int) 221)), (@PySem.DictEntry.mk (77 : Int) (@PySem.Value.int (77 : Int) 376) (@PySem.Value.int (120 : Int) 221)), (@PySem.DictEntry.mk (78 : Int) (@PySem.Value.int (78 : Int) 378) (@PySem.Value.int (120 : Int) 221)), (@PySem.DictEntry.mk (79 : Int) (@PySem.Value.int (79 : Int) 380) (@PySem.Value.int (120 : Int) 221)), (@PySem.DictEntry.mk (80 : Int) (@PySem.Value.int (80 : Int) 382) (@PySem.Value.int (120 : Int) 221)), (@PySem.DictEntry.mk (81 : Int) (@PySem.Value.int (81 : Int) 384) (@PySem.Value.int (120 : Int) 221)), (@PySem.DictEntry.mk (82 : Int) (@PySem.Value.int (82 : Int) 386) (@PySem.Value.int (120 : Int) 221)), (@PySem.DictEntry.mk (83 : Int) (@PySem.Value.int (83 : Int) 388) (@PySem.Value.int (120 : Int) 221)), (@PySem.DictEntry.mk (84 : Int) (@PySem.Value.int (84 : Int) 390) (@PySem.Value.int (120 : Int) 221)), (@PySem.DictEntry.mk (85 : Int) (@PySem.Value.int (85 : Int) 392) (@PySem.Value.int (120 : Int) 221)), (@PySem.DictEntry.mk (86 : Int) (@PySem.Value.int (86 : Int) 394) (@PySem.Value.int (120 : Int) 221)), (@PySem.DictEntry.mk (87 : Int) (@PySem.Value.int (87 : Int) 396) (@PySem.Value.int (120 : Int) 221)), (@PySem.DictEntry.mk (88 : Int) (@PySem.Value.int (88 : Int) 398) (@PySem.Value.int (120 : Int) 221)), (@PySem.DictEntry.mk (89 : Int) (@PySem.Value.int (89 : Int) 400) (@PySem.Value.int (120 : Int) 221)), (@PySem.DictEntry.mk (90 : Int) (@PySem.Value.int (90 : Int) 402) (@PySem.Value.int (120 : Int) 221)), (@PySem.DictEntry.mk (91 : Int) (@PySem.Value.int (91 : Int) 404) (@PySem.Value.int (40 : Int) 507)), (@PySem.DictEntry.mk (92 : Int) (@PySem.Value.int (92 : Int) 406) (@PySem.Value.int (92 : Int) 564)), (@PySem.DictEntry.mk (93 : Int) (@PySem.Value.int (93 : Int) 408) (@PySem.Value.int (41 : Int) 537)), (@PySem.DictEntry.mk (94 : Int) (@PySem.Value.int (94 : Int) 410) (@PySem.Value.int (120 : Int) 221)), (@PySem.DictEntry.mk (95 : Int) (@PySem.Value.int (95 : Int) 412) (@PySem.Value.int (120 : Int) 221)), (@PySem.DictEntry.mk (96 : Int) (@PySem.Value.int (96 : Int) 414) (@PySem.Value.int (120 : Int) 221)), (@PySem.DictEntry.mk (97 : Int) (@PySem.Value.int (97 : Int) 416) (@PySem.Value.int (120 : Int) 221)), (@PySem.DictEntry.mk (98 : Int) (@PySem.Value.int (98 : Int) 418) (@PySem.Value.int (120 : Int) 221)), (@PySem.DictEntry.mk (99 : Int) (@PySem.Value.int (99 : Int) 420) (@PySem.Value.int (120 : Int) 221)), (@PySem.DictEntry.mk (100 : Int) (@PySem.Value.int (100 : Int) 422) (@PySem.Value.int (120 : Int) 221)), (@PySem.DictEntry.mk (101 : Int) (@PySem.Value.int (101 : Int) 424) (@PySem.Value.int (120 : Int) 221)), (@PySem.DictEntry.mk (102 : Int) (@PySem.Value.int (102 : Int) 426) (@PySem.Value.int (120 : Int) 221)), (@PySem.DictEntry.mk (103 : Int) (@PySem.Value.int (103 : Int) 428) (@PySem.Value.int (120 : Int) 221)), (@PySem.DictEntry.mk (104 : Int) (@PySem.Value.int (104 : Int) 430) (@PySem.Value.int (120 : Int) 221)), (@PySem.DictEntry.mk (105 : Int) (@PySem.Value.int (105 : Int) 432) (@PySem.Value.int (120 : Int) 221)), (@PySem.DictEntry.mk (106 : Int) (@PySem.Value.int (106 : Int) 434) (@PySem.Value.int (120 : Int) 221)), (@PySem.DictEntry.mk (107 : Int) (@PySem.Value.int (107 : Int) 436) (@PySem.Value.int (120 : Int) 221)), (@PySem.DictEntry.mk (108 : Int) (@PySem.Value.int (108 : Int) 438) (@PySem.Value.int (120 : Int) 221)), (@PySem.DictEntry.mk (109 : Int) (@PySem.Value.int (109 : Int) 440) (@PySem.Value.int (120 : Int) 221)), (@PySem.DictEntry.mk (110 : Int) (@PySem.Value.int (110 : Int) 442) (@PySem.Value.int (120 : Int) 221)), (@PySem.DictEntry.mk (111 : Int) (@PySem.Value.int (111 : Int) 444) (@PySem.Value.int (120 : Int) 221)), (@PySem.DictEntry.mk (112 : Int) (@PySem.Value.int (112 : Int) 446) (@PySem.Value.int (120 : Int) 221)), (@PySem.DictEntry.mk (113 : Int) (@PySem.Value.int (113 : Int) 448) (@PySem.Value.int (120 : Int) 221)), (@PySem.DictEntry.mk (114 : Int) (@PySem.Value.int (114 : Int) 450) (@PySem.Value.int (120 : Int) 221)), (@PySem.DictEntry.mk (115 : Int) (@PySem.Value.int (115 : Int) 452) (@PySem.Value.int (120 : Int) 221)), (@PySem.DictEntry.mk (116 : Int) (@PySem.Value.int (116 : Int) 454) (@PySem.Value.int (120 : Int) 221)), (@PySem.DictEntry.mk (117 : Int) (@PySem.Value.int (117 : Int) 456) (@PySem.Value.int (120 : Int) 221)), (@PySem.DictEntry.mk (118 : Int) (@PySem.Value.int (118 : Int) 458) (@PySem.Value.int (120 : Int) 221)), (@PySem.DictEntry.mk (119 : Int) (@PySem.Value.int (119 : Int) 460) (@PySem.Value.int (120 : Int) 221)), (@PySem.DictEntry.mk (120 : Int) (@PySem.Value.int (120 : Int) 462) (@PySem.Value.int (120 : Int) 221)), (@PySem.DictEntry.mk (121 : Int) (@PySem.Value.int (121 : Int) 464) (@PySem.Value.int (120 : Int) 221)), (@PySem.DictEntry.mk (122 : Int) (@PySem.Value.int (122 : Int) 466) (@PySem.Value.int (120 : Int) 221)), (@PySem.DictEntry.mk (123 : Int) (@PySem.Value.int (123 : Int) 468) (@PySem.Value.int (40 : Int) 501)), (@PySem.DictEntry.mk (124 : Int) (@PySem.Value.int (124 : Int) 470) (@PySem.Value.int (120 : Int) 221)), (@PySem.DictEntry.mk (125 : Int) (@PySem.Value.int (125 : Int) 472) (@PySem.Value.int (41 : Int) 531)), (@PySem.DictEntry.mk (126 : Int) (@PySem.Value.int (126 : Int) 474) (@PySem.Value.int (120 : Int) 221)), (@PySem.DictEntry.mk (127 : Int) (@PySem.Value.int (127 : Int) 476) (@PySem.Value.int (120 : Int) 221))]) 128) (@List.toArray (@Option @PySem.Value) []))
noncomputable def hG5_73 (P : Params) : Obj := (@PySem.Obj.mk (@PySem.Value.type "str_ascii_iterator") (@Option.none @Nat) (@PySem.Data.fields (@List.toArray @PySem.Value [@PySem.Value.none, (@PySem.Value.int (5 : Int) 0)])) (@List.toArray (@Option @PySem.Value) []))
noncomputable def hG5_74 (P : Params) : Obj := (@PySem.Obj.mk (@PySem.Value.type "tuple") (@Option.none @Nat) (@PySem.Data.seq (@List.toArray @PySem.Value []) 0) (@List.toArray (@Option @PySem.Value) []))
noncomputable def hG5_75 (P : Params) : Obj := (@PySem.Obj.mk @PySem.Value.none (@Option.none @Nat) (@PySem.Data.fields (@List.toArray @PySem.Value [])) (@List.toArray (@Option @PySem.Value) []))
noncomputable def hG5_76 (P : Params) : Obj := (@PySem.Obj.mk (@PySem.Value.type "code") (@Option.none @Nat) (@PySem.Data.fields (@List.toArray @PySem.Value [(@PySem.Value.str (@PySem.Str.ofString "<genexpr>") 540), (@PySem.Value.str (@PySem.Str.ofString "<genexpr>") 541), (@PySem.Value.str (@PySem.Str.ofString "/claim/cut.py") 542), (@PySem.Value.int (9 : Int) 0), (@PySem.Value.int (1 : Int) 0), (@PySem.Value.int (0 : Int) 0), (@PySem.Value.int (0 : Int) 0), (@PySem.Value.int (35 : Int) 0), (@PySem.Value.ref 74), (@PySem.Value.bool @Bool.true), (@PySem.Value.int (181 : Int) 0), (@PySem.Value.ref 75), @PySem.Value.none, @PySem.Value.none, @PySem.Value.none, @PySem.Value.none, (@PySem.Value.int (543 : Int) 0), (@PySem.Value.int (9 : Int) 0), (@PySem.Value.str (@PySem.Str.ofString "/claim/cut.py") 544)])) (@List.toArray (@Option @PySem.Value) []))
noncomputable def hG5_77 (P : Params) : Obj := (@PySem.Obj.mk (@PySem.Value.type "frame") (@Option.none @Nat) (@PySem.Data.dict (@List.toArray @PySem.DictEntry [(@PySem.DictEntry.mk (@PySem.PyData.keyHash P (@PySem.Str.ofString ".0")) (@PySem.Value.str (@PySem.Str.ofString ".0") 545) (@PySem.Value.ref 73)), (@PySem.DictEntry.mk (@PySem.PyData.keyHash P (@PySem.Str.ofString "c")) (@PySem.Value.str (@PySem.Str.ofString "c") 552) (@PySem.Value.str (@PySem.Str.ofString "#") 571))]) 2) (@List.toArray (@Option @PySem.Value) []))
noncomputable def hG5_78 (P : Params) : Obj := (@PySem.Obj.mk (@PySem.Value.type "generator") (@Option.none @Nat) (@PySem.Data.fields (@List.toArray @PySem.Value [(@PySem.Value.int (2 : Int) 0), (@PySem.Value.str (@PySem.Str.ofString "<genexpr>") 546), (@PySem.Value.str (@PySem.Str.ofString "<genexpr>") 547)])) (@List.toArray (@Option @PySem.Value) []))
noncomputable def hG5_79 (P : Params) : Obj := (@PySem.Obj.mk (@PySem.Value.type "tuple") (@Option.none @Nat) (@PySem.Data.seq (@List.toArray @PySem.Value [(@PySem.Value.str (@PySem.Str.ofString "'generator' object has no attribute 'keys'") 549)]) 0) (@List.toArray (@Option @PySem.Value) []))
noncomputable def hG5_80 (P : Params) : Obj := (@PySem.Obj.mk (@PySem.Value.type "AttributeError") (@Option.none @Nat) (@PySem.Data.fields (@List.toArray @PySem.Value [(@PySem.Value.ref 79), @PySem.Value.none, @PySem.Value.none, @PySem.Value.none, (@PySem.Value.bool @Bool.false), @PySem.Value.none, (@PySem.Value.str (@PySem.Str.ofString "keys") 550), (@PySem.Value.ref 78)])) (@List.toArray (@Option @PySem.Value) []))
noncomputable def hG5_81 (P : Params) : Obj := (@PySem.Obj.mk (@PySem.Value.type "tuple") (@Option.none @Nat) (@PySem.Data.seq (@List.toArray @PySem.Value [(@PySem.Value.int (34 : Int) 553), (@PySem.Value.int (34 : Int) 554)]) 0) (@List.toArray (@Option @PySem.Value) []))
noncomputable def hG5_82 (P : Params) : Obj := (@PySem.Obj.mk (@PySem.Value.type "tuple") (@Option.none @Nat) (@PySem.Data.seq (@List.toArray @PySem.Value [(@PySem.Value.int (39 : Int) 558), (@PySem.Value.int (39 : Int) 559)]) 0) (@List.toArray (@Option @PySem.Value) []))
noncomputable def hG5_83 (P : Params) : Obj := (@PySem.Obj.mk (@PySem.Value.type "tuple") (@Option.none @Nat) (@PySem.Data.seq (@List.toArray @PySem.Value [(@PySem.Value.int (92 : Int) 563), (@PySem.Value.int (92 : Int) 564)]) 0) (@List.toArray (@Option @PySem.Value) []))
noncomputable def hG5_84 (P : Params) : Obj := (@PySem.Obj.mk (@PySem.Value.type "tuple") (@Option.none @Nat) (@PySem.Data.seq (@List.toArray @PySem.Value [(@PySem.Value.int (10 : Int) 568), (@PySem.Value.int (10 : Int) 569)]) 0) (@List.toArray (@Option @PySem.Value) []))
noncomputable def hG5_85 (P : Params) : Obj := (@PySem.Obj.mk (@PySem.Value.type "tuple") (@Option.none @Nat) (@PySem.Data.seq (@List.toArray @PySem.Value [(@PySem.Value.int (35 : Int) 573), (@PySem.Value.int (35 : Int) 574)]) 0) (@List.toArray (@Option @PySem.Value) []))
noncomputable def hG5_86 (P : Params) : Obj := (@PySem.Obj.mk (@PySem.Value.type "tuple") (@Option.none @Nat) (@PySem.Data.seq (@List.toArray @PySem.Value []) 0) (@List.toArray (@Option @PySem.Value) []))
noncomputable def hG5_87 (P : Params) : Obj := (@PySem.Obj.mk (@PySem.Value.type "StopIteration") (@Option.none @Nat) (@PySem.Data.fields (@List.toArray @PySem.Value [(@PySem.Value.ref 86), @PySem.Value.none, @PySem.Value.none, @PySem.Value.none, (@PySem.Value.bool @Bool.false), @PySem.Value.none])) (@List.toArray (@Option @PySem.Value) []))
noncomputable def hG5_88 (P : Params) : Obj := (@PySem.Obj.mk (@PySem.Value.type "tuple") (@Option.none @Nat) (@PySem.Data.seq (@List.toArray @PySem.Value []) 0) (@List.toArray (@Option @PySem.Value) []))
noncomputable def hG5_89 (P : Params) : Obj := (@PySem.Obj.mk (@PySem.Value.type "StopIteration") (@Option.none @Nat) (@PySem.Data.fields (@List.toArray @PySem.Value [(@PySem.Value.ref 88), @PySem.Value.none, @PySem.Value.none, @PySem.Value.none, (@PySem.Value.bool @Bool.false), @PySem.Value.none])) (@List.toArray (@Option @PySem.Value) []))
noncomputable def treeG5 (P : Params) : BT := (BT.node (boot_o_0 P) (BT.node (boot_o_1 P) (BT.node (hG2_3 P) (BT.node (boot_o_7 P) (BT.node (hG0_15 P) (BT.node (hG0_31 P) (BT.node (hG4_63 P) BT.nil BT.nil) BT.nil) (BT.node (hG3_47 P) (BT.node (hG5_79 P) BT.nil BT.nil) BT.nil)) (BT.node (hG0_23 P) (BT.node (hG5_39 P) (BT.node (hG4_71 P) BT.nil BT.nil) BT.nil) (BT.node (hG3_55 P) (BT.node (hG5_87 P) BT.nil BT.nil) BT.nil))) (BT.node (hp_11 P) (BT.node (hG0_19 P) (BT.node (hG0_35 P) (BT.node (hG4_67 P) BT.nil BT.nil) BT.nil) (BT.node (hG3_51 P) (BT.node (hG5_83 P) BT.nil BT.nil) BT.nil)) (BT.node (hG0_27 P) (BT.node (hG3_43 P) (BT.node (hG5_75 P) BT.nil BT.nil) BT.nil) (BT.node (hG4_59 P) BT.nil BT.nil)))) (BT.node (boot_o_5 P) (BT.node (boot_o_9 P) (BT.node (hG0_17 P) (BT.node (hG0_33 P) (BT.node (hG4_65 P) BT.nil BT.nil) BT.nil) (BT.node (hG3_49 P) (BT.node (hG5_81 P) BT.nil BT.nil) BT.nil)) (BT.node (hG0_25 P) (BT.node (hG2_41 P) (BT.node (hG5_73 P) BT.nil BT.nil) BT.nil) (BT.node (hG3_57 P) (BT.node (hG5_89 P) BT.nil BT.nil) BT.nil))) (BT.node (hp_13 P) (BT.node (hG0_21 P) (BT.node (hG2x0_37 P) (BT.node (hG4_69 P) BT.nil BT.nil) BT.nil) (BT.node (hG3_53 P) (BT.node (hG5_85 P) BT.nil BT.nil) BT.nil)) (BT.node (hG0_29 P) (BT.node (hG3_45 P) (BT.node (hG5_77 P) BT.nil BT.nil) BT.nil) (BT.node (hG4_61 P) BT.nil BT.nil))))) (BT.node (boot_o_2 P) (BT.node (boot_o_4 P) (BT.node (boot_o_8 P) (BT.node (hG0_16 P) (BT.node (hG0_32 P) (BT.node (hG4_64 P) BT.nil BT.nil) BT.nil) (BT.node (hG3_48 P) (BT.node (hG5_80 P) BT.nil BT.nil) BT.nil)) (BT.node (hG0_24 P) (BT.node (hG2x128_40 P) (BT.node (hG4_72 P) BT.nil BT.nil) BT.nil) (BT.node (hG3_56 P) (BT.node (hG5_88 P) BT.nil BT.nil) BT.nil))) (BT.node (hG5_12 P) (BT.node (hG0_20 P) (BT.node (hG2x0_36 P) (BT.node (hG4_68 P) BT.nil BT.nil) BT.nil) (BT.node (hG3_52 P) (BT.node (hG5_84 P) BT.nil BT.nil) BT.nil)) (BT.node (hG0_28 P) (BT.node (hG3_44 P) (BT.node (hG5_76 P) BT.nil BT.nil) BT.nil) (BT.node (hG4_60 P) BT.nil BT.nil)))) (BT.node (boot_o_6 P) (BT.node (boot_o_10 P) (BT.node (hG0_18 P) (BT.node (hG0_34 P) (BT.node (hG4_66 P) BT.nil BT.nil) BT.nil) (BT.node (hG3_50 P) (BT.node (hG5_82 P) BT.nil BT.nil) BT.nil)) (BT.node (hG0_26 P) (BT.node (hG2_42 P) (BT.node (hG5_74 P) BT.nil BT.nil) BT.nil) (BT.node (hG4_58 P) BT.nil BT.nil))) (BT.node (hp_14 P) (BT.node (hG0_22 P) (BT.node (hG2x0_38 P) (BT.node (hG4_70 P) BT.nil BT.nil) BT.nil) (BT.node (hG3_54 P) (BT.node (hG5_86 P) BT.nil BT.nil) BT.nil)) (BT.node (hG0_30 P) (BT.node (hG3_46 P) (BT.node (hG5_78 P) BT.nil BT.nil) BT.nil) (BT.node (hG4_62 P) BT.nil BT.nil))))))
noncomputable def h_G5_q (w : World) (os : OsState) : Prop := segRunT treeTable p9 w 11 ann9 1 522 (SharedT.mk (treeG4 w.params) 73 (@PySem.Life.mk [] [] [] 0 [] [] @Bool.false (@List.toArray @Nat []) [] 0 @Bool.false @Bool.false @Bool.false (0 : Int) [(2000 : Int), (10 : Int), (10 : Int)] @Bool.false 0 @Bool.true [] [] 0 @Bool.false) (Array.mk [GenState.finished, GenState.finished]) (@PySem.Drawn.mk 0 0 0 0) 539 os) (piecesOf ((b9.drop 5).take 1) e9 c9 (@PySem.Pos.mk 8 0 8 49) B9) = some (Flow.next, (SharedT.mk (treeG5 w.params) 90 (@PySem.Life.mk [] [] [] 0 [] [] @Bool.false (@List.toArray @Nat []) [] 0 @Bool.false @Bool.false @Bool.false (0 : Int) [(2000 : Int), (10 : Int), (10 : Int)] @Bool.false 0 @Bool.true [] [] 0 @Bool.false) (Array.mk [GenState.finished, GenState.finished, GenState.finished]) (@PySem.Drawn.mk 0 0 0 0) 576 os), c9, (@PySem.Pos.mk 9 0 9 52))
theorem h_G5_ff (w : World) (os : OsState) : h_G5_q ((w.withFollow "special-get-raises" false).withFollow "comprehension-iter-twice" false) os := by
  unfold h_G5_q
  (rw [show @PySem.W.segRunT = _ from PySem.W.Fast.te10110043849684766642, show treeTable = _ from PySem.W.Fast.te14364793385576792824]; kernel_rfl)
theorem h_G5_ft (w : World) (os : OsState) : h_G5_q ((w.withFollow "special-get-raises" true).withFollow "comprehension-iter-twice" false) os := by
  unfold h_G5_q
  (rw [show @PySem.W.segRunT = _ from PySem.W.Fast.te10110043849684766642, show treeTable = _ from PySem.W.Fast.te14364793385576792824]; kernel_rfl)
theorem h_G5_tf (w : World) (os : OsState) : h_G5_q ((w.withFollow "special-get-raises" false).withFollow "comprehension-iter-twice" true) os := by
  unfold h_G5_q
  (rw [show @PySem.W.segRunT = _ from PySem.W.Fast.te10110043849684766642, show treeTable = _ from PySem.W.Fast.te14364793385576792824]; kernel_rfl)
theorem h_G5_tt (w : World) (os : OsState) : h_G5_q ((w.withFollow "special-get-raises" true).withFollow "comprehension-iter-twice" true) os := by
  unfold h_G5_q
  (rw [show @PySem.W.segRunT = _ from PySem.W.Fast.te10110043849684766642, show treeTable = _ from PySem.W.Fast.te14364793385576792824]; kernel_rfl)
theorem h_G5 (w : World) (os : OsState) : segRunT treeTable p9 w 11 ann9 1 522 (SharedT.mk (treeG4 w.params) 73 (@PySem.Life.mk [] [] [] 0 [] [] @Bool.false (@List.toArray @Nat []) [] 0 @Bool.false @Bool.false @Bool.false (0 : Int) [(2000 : Int), (10 : Int), (10 : Int)] @Bool.false 0 @Bool.true [] [] 0 @Bool.false) (Array.mk [GenState.finished, GenState.finished]) (@PySem.Drawn.mk 0 0 0 0) 539 os) (piecesOf ((b9.drop 5).take 1) e9 c9 (@PySem.Pos.mk 8 0 8 49) B9) = some (Flow.next, (SharedT.mk (treeG5 w.params) 90 (@PySem.Life.mk [] [] [] 0 [] [] @Bool.false (@List.toArray @Nat []) [] 0 @Bool.false @Bool.false @Bool.false (0 : Int) [(2000 : Int), (10 : Int), (10 : Int)] @Bool.false 0 @Bool.true [] [] 0 @Bool.false) (Array.mk [GenState.finished, GenState.finished, GenState.finished]) (@PySem.Drawn.mk 0 0 0 0) 576 os), c9, (@PySem.Pos.mk 9 0 9 52)) := byRow2 "comprehension-iter-twice" (P := fun w => ∀ os, h_G5_q w os) (byRow2 "special-get-raises" (P := fun w => ∀ os, h_G5_q (w.withFollow "comprehension-iter-twice" false) os) h_G5_ff h_G5_ft) (byRow2 "special-get-raises" (P := fun w => ∀ os, h_G5_q (w.withFollow "comprehension-iter-twice" true) os) h_G5_tf h_G5_tt) w os
noncomputable def hG6_3 (P : Params) : Obj := (@PySem.Obj.mk (@PySem.Value.type "dict") (@Option.none @Nat) (@PySem.Data.dict (@List.toArray @PySem.DictEntry [(@PySem.DictEntry.mk (@PySem.PyData.keyHash P (@PySem.Str.ofString "__name__")) (@PySem.Value.str (@PySem.Str.ofString "__name__") 165) (@PySem.Value.str (@PySem.Str.ofString "law_dm0164_01") 576)), (@PySem.DictEntry.mk (@PySem.PyData.keyHash P (@PySem.Str.ofString "__doc__")) (@PySem.Value.str (@PySem.Str.ofString "__doc__") 166) @PySem.Value.none), (@PySem.DictEntry.mk (@PySem.PyData.keyHash P (@PySem.Str.ofString "__package__")) (@PySem.Value.str (@PySem.Str.ofString "__package__") 167) @PySem.Value.none), (@PySem.DictEntry.mk (@PySem.PyData.keyHash P (@PySem.Str.ofString "__loader__")) (@PySem.Value.str (@PySem.Str.ofString "__loader__") 168) (@PySem.Value.builtin "__main__.__loader__#opaque")), (@PySem.DictEntry.mk (@PySem.PyData.keyHash P (@PySem.Str.ofString "__spec__")) (@PySem.Value.str (@PySem.Str.ofString "__spec__") 169) @PySem.Value.none), (@PySem.DictEntry.mk (@PySem.PyData.keyHash P (@PySem.Str.ofString "__annotations__")) (@PySem.Value.str (@PySem.Str.ofString "__annotations__") 170) (@PySem.Value.ref 6)), (@PySem.DictEntry.mk (@PySem.PyData.keyHash P (@PySem.Str.ofString "__builtins__")) (@PySem.Value.str (@PySem.Str.ofString "__builtins__") 171) (@PySem.Value.ref 4)), (@PySem.DictEntry.mk (@PySem.PyData.keyHash P (@PySem.Str.ofString "__file__")) (@PySem.Value.str (@PySem.Str.ofString "__file__") 173) (@PySem.Value.str (@PySem.Str.ofString "/claim/cut.py") 172)), (@PySem.DictEntry.mk (@PySem.PyData.keyHash P (@PySem.Str.ofString "__cached__")) (@PySem.Value.str (@PySem.Str.ofString "__cached__") 174) @PySem.Value.none), (@PySem.DictEntry.mk (@PySem.PyData.keyHash P (@PySem.Str.ofString "ParseMap")) (@PySem.Value.str (@PySem.Str.ofString "ParseMap") 216) (@PySem.Value.ref 31)), (@PySem.DictEntry.mk (@PySem.PyData.keyHash P (@PySem.Str.ofString "trans")) (@PySem.Value.str (@PySem.Str.ofString "trans") 478) (@PySem.Value.ref 39)), (@PySem.DictEntry.mk (@PySem.PyData.keyHash P (@PySem.Str.ofString "_law_value")) (@PySem.Value.str (@PySem.Str.ofString "_law_value") 588) (@PySem.Value.ref 96)), (@PySem.DictEntry.mk (@PySem.PyData.keyHash P (@PySem.Str.ofString "_law_sign")) (@PySem.Value.str (@PySem.Str.ofString "_law_sign") 595) (@PySem.Value.ref 103)), (@PySem.DictEntry.mk (@PySem.PyData.keyHash P (@PySem.Str.ofString "_law_code")) (@PySem.Value.str (@PySem.Str.ofString "_law_code") 603) (@PySem.Value.ref 110)), (@PySem.DictEntry.mk (@PySem.PyData.keyHash P (@PySem.Str.ofString "law")) (@PySem.Value.str (@PySem.Str.ofString "law") 609) (@PySem.Value.ref 115))]) 15) (@List.toArray (@Option @PySem.Value) []))
noncomputable def hG6_12 (P : Params) : Obj := (@PySem.Obj.mk @PySem.Value.none (@Option.none @Nat) (@PySem.Data.fields (@List.toArray @PySem.Value [(@PySem.Value.int (2 : Int) 0), (@PySem.Value.int (0 : Int) 0), (@PySem.Value.ref 20), (@PySem.Value.int (7 : Int) 0), (@PySem.Value.int (13 : Int) 0), (@PySem.Value.ref 46), (@PySem.Value.int (8 : Int) 0), (@PySem.Value.int (13 : Int) 0), (@PySem.Value.ref 61), (@PySem.Value.int (9 : Int) 0), (@PySem.Value.int (13 : Int) 0), (@PySem.Value.ref 76), (@PySem.Value.int (11 : Int) 0), (@PySem.Value.int (0 : Int) 0), (@PySem.Value.ref 95), (@PySem.Value.int (17 : Int) 0), (@PySem.Value.int (0 : Int) 0), (@PySem.Value.ref 102), (@PySem.Value.int (25 : Int) 0), (@PySem.Value.int (0 : Int) 0), (@PySem.Value.ref 109), (@PySem.Value.int (30 : Int) 0), (@PySem.Value.int (0 : Int) 0), (@PySem.Value.ref 114)])) (@List.toArray (@Option @PySem.Value) []))
noncomputable def hG6_90 (P : Params) : Obj := (@PySem.Obj.mk (@PySem.Value.type "tuple") (@Option.none @Nat) (@PySem.Data.seq (@List.toArray @PySem.Value []) 0) (@List.toArray (@Option @PySem.Value) []))
noncomputable def hG6_91 (P : Params) : Obj := (@PySem.Obj.mk @PySem.Value.none (@Option.none @Nat) (@PySem.Data.fields (@List.toArray @PySem.Value [])) (@List.toArray (@Option @PySem.Value) []))
noncomputable def hG6_92 (P : Params) : Obj := (@PySem.Obj.mk (@PySem.Value.type "tuple") (@Option.none @Nat) (@PySem.Data.seq (@List.toArray @PySem.Value [(@PySem.Value.str (@PySem.Str.ofString "pairs") 581), (@PySem.Value.str (@PySem.Str.ofString "key") 582), (@PySem.Value.str (@PySem.Str.ofString "told") 583), (@PySem.Value.str (@PySem.Str.ofString "one") 584), (@PySem.Value.str (@PySem.Str.ofString "value") 585)]) 0) (@List.toArray (@Option @PySem.Value) []))
noncomputable def hG6_93 (P : Params) : Obj := (@PySem.Obj.mk (@PySem.Value.type "tuple") (@Option.none @Nat) (@PySem.Data.seq (@List.toArray @PySem.Value []) 0) (@List.toArray (@Option @PySem.Value) []))
noncomputable def hG6_94 (P : Params) : Obj := (@PySem.Obj.mk @PySem.Value.none (@Option.none @Nat) (@PySem.Data.func (@PySem.FuncData.mk (@PySem.Str.ofString "_law_value") (@PySem.Str.ofString "_law_value") (fnA (stAt 7 b9)) (@PySem.FuncBody.stmts (fnB (stAt 7 b9))) (scB (stAt 7 b9)) 0 [] @PySem.Value.none @PySem.Value.none @PySem.Value.none @PySem.Value.none (@Option.none @Nat) @PySem.Value.none @PySem.Value.none 0)) (@List.toArray (@Option @PySem.Value) []))
noncomputable def hG6_95 (P : Params) : Obj := (@PySem.Obj.mk (@PySem.Value.type "code") (@Option.none @Nat) (@PySem.Data.fields (@List.toArray @PySem.Value [(@PySem.Value.str (@PySem.Str.ofString "_law_value") 578), (@PySem.Value.str (@PySem.Str.ofString "_law_value") 579), (@PySem.Value.str (@PySem.Str.ofString "/claim/cut.py") 580), (@PySem.Value.int (11 : Int) 0), (@PySem.Value.int (2 : Int) 0), (@PySem.Value.int (0 : Int) 0), (@PySem.Value.int (0 : Int) 0), (@PySem.Value.int (3 : Int) 0), (@PySem.Value.ref 90), (@PySem.Value.bool @Bool.true), (@PySem.Value.int (181 : Int) 0), (@PySem.Value.ref 91), @PySem.Value.none, (@PySem.Value.ref 92), (@PySem.Value.ref 93), (@PySem.Value.ref 94), (@PySem.Value.int (586 : Int) 0), (@PySem.Value.int (11 : Int) 0), (@PySem.Value.str (@PySem.Str.ofString "/claim/cut.py") 587)])) (@List.toArray (@Option @PySem.Value) []))
noncomputable def hG6_96 (P : Params) : Obj := (@PySem.Obj.mk (@PySem.Value.type "function") (@Option.none @Nat) (@PySem.Data.func (@PySem.FuncData.mk (@PySem.Str.ofString "_law_value") (@PySem.Str.ofString "_law_value") (fnA (stAt 7 b9)) (@PySem.FuncBody.stmts (fnB (stAt 7 b9))) (scB (stAt 7 b9)) 3 [] @PySem.Value.none @PySem.Value.none @PySem.Value.none (@PySem.Value.str (@PySem.Str.ofString "law_dm0164_01") 576) (@Option.none @Nat) (@PySem.Value.ref 95) @PySem.Value.none 0)) (@List.toArray (@Option @PySem.Value) []))
noncomputable def hG6_97 (P : Params) : Obj := (@PySem.Obj.mk (@PySem.Value.type "tuple") (@Option.none @Nat) (@PySem.Data.seq (@List.toArray @PySem.Value []) 0) (@List.toArray (@Option @PySem.Value) []))
noncomputable def hG6_98 (P : Params) : Obj := (@PySem.Obj.mk @PySem.Value.none (@Option.none @Nat) (@PySem.Data.fields (@List.toArray @PySem.Value [])) (@List.toArray (@Option @PySem.Value) []))
noncomputable def hG6_99 (P : Params) : Obj := (@PySem.Obj.mk (@PySem.Value.type "tuple") (@Option.none @Nat) (@PySem.Data.seq (@List.toArray @PySem.Value [(@PySem.Value.str (@PySem.Str.ofString "sign") 592)]) 0) (@List.toArray (@Option @PySem.Value) []))
noncomputable def hG6_100 (P : Params) : Obj := (@PySem.Obj.mk (@PySem.Value.type "tuple") (@Option.none @Nat) (@PySem.Data.seq (@List.toArray @PySem.Value []) 0) (@List.toArray (@Option @PySem.Value) []))
noncomputable def hG6_101 (P : Params) : Obj := (@PySem.Obj.mk @PySem.Value.none (@Option.none @Nat) (@PySem.Data.func (@PySem.FuncData.mk (@PySem.Str.ofString "_law_sign") (@PySem.Str.ofString "_law_sign") (fnA (stAt 8 b9)) (@PySem.FuncBody.stmts (fnB (stAt 8 b9))) (scB (stAt 8 b9)) 0 [] @PySem.Value.none @PySem.Value.none @PySem.Value.none @PySem.Value.none (@Option.none @Nat) @PySem.Value.none @PySem.Value.none 0)) (@List.toArray (@Option @PySem.Value) []))
noncomputable def hG6_102 (P : Params) : Obj := (@PySem.Obj.mk (@PySem.Value.type "code") (@Option.none @Nat) (@PySem.Data.fields (@List.toArray @PySem.Value [(@PySem.Value.str (@PySem.Str.ofString "_law_sign") 589), (@PySem.Value.str (@PySem.Str.ofString "_law_sign") 590), (@PySem.Value.str (@PySem.Str.ofString "/claim/cut.py") 591), (@PySem.Value.int (17 : Int) 0), (@PySem.Value.int (1 : Int) 0), (@PySem.Value.int (0 : Int) 0), (@PySem.Value.int (0 : Int) 0), (@PySem.Value.int (3 : Int) 0), (@PySem.Value.ref 97), (@PySem.Value.bool @Bool.true), (@PySem.Value.int (181 : Int) 0), (@PySem.Value.ref 98), @PySem.Value.none, (@PySem.Value.ref 99), (@PySem.Value.ref 100), (@PySem.Value.ref 101), (@PySem.Value.int (593 : Int) 0), (@PySem.Value.int (17 : Int) 0), (@PySem.Value.str (@PySem.Str.ofString "/claim/cut.py") 594)])) (@List.toArray (@Option @PySem.Value) []))
noncomputable def hG6_103 (P : Params) : Obj := (@PySem.Obj.mk (@PySem.Value.type "function") (@Option.none @Nat) (@PySem.Data.func (@PySem.FuncData.mk (@PySem.Str.ofString "_law_sign") (@PySem.Str.ofString "_law_sign") (fnA (stAt 8 b9)) (@PySem.FuncBody.stmts (fnB (stAt 8 b9))) (scB (stAt 8 b9)) 3 [] @PySem.Value.none @PySem.Value.none @PySem.Value.none (@PySem.Value.str (@PySem.Str.ofString "law_dm0164_01") 576) (@Option.none @Nat) (@PySem.Value.ref 102) @PySem.Value.none 0)) (@List.toArray (@Option @PySem.Value) []))
noncomputable def hG6_104 (P : Params) : Obj := (@PySem.Obj.mk (@PySem.Value.type "tuple") (@Option.none @Nat) (@PySem.Data.seq (@List.toArray @PySem.Value []) 0) (@List.toArray (@Option @PySem.Value) []))
noncomputable def hG6_105 (P : Params) : Obj := (@PySem.Obj.mk @PySem.Value.none (@Option.none @Nat) (@PySem.Data.fields (@List.toArray @PySem.Value [])) (@List.toArray (@Option @PySem.Value) []))
noncomputable def hG6_106 (P : Params) : Obj := (@PySem.Obj.mk (@PySem.Value.type "tuple") (@Option.none @Nat) (@PySem.Data.seq (@List.toArray @PySem.Value [(@PySem.Value.str (@PySem.Str.ofString "x") 599), (@PySem.Value.str (@PySem.Str.ofString "code") 600)]) 0) (@List.toArray (@Option @PySem.Value) []))
noncomputable def hG6_107 (P : Params) : Obj := (@PySem.Obj.mk (@PySem.Value.type "tuple") (@Option.none @Nat) (@PySem.Data.seq (@List.toArray @PySem.Value []) 0) (@List.toArray (@Option @PySem.Value) []))
noncomputable def hG6_108 (P : Params) : Obj := (@PySem.Obj.mk @PySem.Value.none (@Option.none @Nat) (@PySem.Data.func (@PySem.FuncData.mk (@PySem.Str.ofString "_law_code") (@PySem.Str.ofString "_law_code") (fnA (stAt 9 b9)) (@PySem.FuncBody.stmts (fnB (stAt 9 b9))) (scB (stAt 9 b9)) 0 [] @PySem.Value.none @PySem.Value.none @PySem.Value.none @PySem.Value.none (@Option.none @Nat) @PySem.Value.none @PySem.Value.none 0)) (@List.toArray (@Option @PySem.Value) []))
noncomputable def hG6_109 (P : Params) : Obj := (@PySem.Obj.mk (@PySem.Value.type "code") (@Option.none @Nat) (@PySem.Data.fields (@List.toArray @PySem.Value [(@PySem.Value.str (@PySem.Str.ofString "_law_code") 596), (@PySem.Value.str (@PySem.Str.ofString "_law_code") 597), (@PySem.Value.str (@PySem.Str.ofString "/claim/cut.py") 598), (@PySem.Value.int (25 : Int) 0), (@PySem.Value.int (1 : Int) 0), (@PySem.Value.int (0 : Int) 0), (@PySem.Value.int (0 : Int) 0), (@PySem.Value.int (3 : Int) 0), (@PySem.Value.ref 104), (@PySem.Value.bool @Bool.true), (@PySem.Value.int (181 : Int) 0), (@PySem.Value.ref 105), @PySem.Value.none, (@PySem.Value.ref 106), (@PySem.Value.ref 107), (@PySem.Value.ref 108), (@PySem.Value.int (601 : Int) 0), (@PySem.Value.int (25 : Int) 0), (@PySem.Value.str (@PySem.Str.ofString "/claim/cut.py") 602)])) (@List.toArray (@Option @PySem.Value) []))
noncomputable def hG6_110 (P : Params) : Obj := (@PySem.Obj.mk (@PySem.Value.type "function") (@Option.none @Nat) (@PySem.Data.func (@PySem.FuncData.mk (@PySem.Str.ofString "_law_code") (@PySem.Str.ofString "_law_code") (fnA (stAt 9 b9)) (@PySem.FuncBody.stmts (fnB (stAt 9 b9))) (scB (stAt 9 b9)) 3 [] @PySem.Value.none @PySem.Value.none @PySem.Value.none (@PySem.Value.str (@PySem.Str.ofString "law_dm0164_01") 576) (@Option.none @Nat) (@PySem.Value.ref 109) @PySem.Value.none 0)) (@List.toArray (@Option @PySem.Value) []))
noncomputable def hG6_111 (P : Params) : Obj := (@PySem.Obj.mk (@PySem.Value.type "tuple") (@Option.none @Nat) (@PySem.Data.seq (@List.toArray @PySem.Value []) 0) (@List.toArray (@Option @PySem.Value) []))
noncomputable def hG6_112 (P : Params) : Obj := (@PySem.Obj.mk @PySem.Value.none (@Option.none @Nat) (@PySem.Data.fields (@List.toArray @PySem.Value [])) (@List.toArray (@Option @PySem.Value) []))
noncomputable def hG6_113 (P : Params) : Obj := (@PySem.Obj.mk @PySem.Value.none (@Option.none @Nat) (@PySem.Data.func (@PySem.FuncData.mk (@PySem.Str.ofString "law") (@PySem.Str.ofString "law") (fnA (stAt 10 b9)) (@PySem.FuncBody.stmts (fnB (stAt 10 b9))) (scB (stAt 10 b9)) 0 [] @PySem.Value.none @PySem.Value.none @PySem.Value.none @PySem.Value.none (@Option.none @Nat) @PySem.Value.none @PySem.Value.none 0)) (@List.toArray (@Option @PySem.Value) []))
noncomputable def hG6_114 (P : Params) : Obj := (@PySem.Obj.mk (@PySem.Value.type "code") (@Option.none @Nat) (@PySem.Data.fields (@List.toArray @PySem.Value [(@PySem.Value.str (@PySem.Str.ofString "law") 604), (@PySem.Value.str (@PySem.Str.ofString "law") 605), (@PySem.Value.str (@PySem.Str.ofString "/claim/cut.py") 606), (@PySem.Value.int (30 : Int) 0), (@PySem.Value.int (1 : Int) 0), (@PySem.Value.int (0 : Int) 0), (@PySem.Value.int (0 : Int) 0), (@PySem.Value.int (3 : Int) 0), (@PySem.Value.ref 111), (@PySem.Value.bool @Bool.true), (@PySem.Value.int (181 : Int) 0), (@PySem.Value.ref 112), @PySem.Value.none, @PySem.Value.none, @PySem.Value.none, (@PySem.Value.ref 113), (@PySem.Value.int (607 : Int) 0), (@PySem.Value.int (30 : Int) 0), (@PySem.Value.str (@PySem.Str.ofString "/claim/cut.py") 608)])) (@List.toArray (@Option @PySem.Value) []))
noncomputable def hG6_115 (P : Params) : Obj := (@PySem.Obj.mk (@PySem.Value.type "function") (@Option.none @Nat) (@PySem.Data.func (@PySem.FuncData.mk (@PySem.Str.ofString "law") (@PySem.Str.ofString "law") (fnA (stAt 10 b9)) (@PySem.FuncBody.stmts (fnB (stAt 10 b9))) (scB (stAt 10 b9)) 3 [] @PySem.Value.none @PySem.Value.none @PySem.Value.none (@PySem.Value.str (@PySem.Str.ofString "law_dm0164_01") 576) (@Option.none @Nat) (@PySem.Value.ref 114) @PySem.Value.none 0)) (@List.toArray (@Option @PySem.Value) []))
noncomputable def treeG6 (P : Params) : BT := (BT.node (boot_o_0 P) (BT.node (boot_o_1 P) (BT.node (hG6_3 P) (BT.node (boot_o_7 P) (BT.node (hG0_15 P) (BT.node (hG0_31 P) (BT.node (hG4_63 P) BT.nil BT.nil) (BT.node (hG6_95 P) BT.nil BT.nil)) (BT.node (hG3_47 P) (BT.node (hG5_79 P) BT.nil BT.nil) (BT.node (hG6_111 P) BT.nil BT.nil))) (BT.node (hG0_23 P) (BT.node (hG5_39 P) (BT.node (hG4_71 P) BT.nil BT.nil) (BT.node (hG6_103 P) BT.nil BT.nil)) (BT.node (hG3_55 P) (BT.node (hG5_87 P) BT.nil BT.nil) BT.nil))) (BT.node (hp_11 P) (BT.node (hG0_19 P) (BT.node (hG0_35 P) (BT.node (hG4_67 P) BT.nil BT.nil) (BT.node (hG6_99 P) BT.nil BT.nil)) (BT.node (hG3_51 P) (BT.node (hG5_83 P) BT.nil BT.nil) (BT.node (hG6_115 P) BT.nil BT.nil))) (BT.node (hG0_27 P) (BT.node (hG3_43 P) (BT.node (hG5_75 P) BT.nil BT.nil) (BT.node (hG6_107 P) BT.nil BT.nil)) (BT.node (hG4_59 P) (BT.node (hG6_91 P) BT.nil BT.nil) BT.nil)))) (BT.node (boot_o_5 P) (BT.node (boot_o_9 P) (BT.node (hG0_17 P) (BT.node (hG0_33 P) (BT.node (hG4_65 P) BT.nil BT.nil) (BT.node (hG6_97 P) BT.nil BT.nil)) (BT.node (hG3_49 P) (BT.node (hG5_81 P) BT.nil BT.nil) (BT.node (hG6_113 P) BT.nil BT.nil))) (BT.node (hG0_25 P) (BT.node (hG2_41 P) (BT.node (hG5_73 P) BT.nil BT.nil) (BT.node (hG6_105 P) BT.nil BT.nil)) (BT.node (hG3_57 P) (BT.node (hG5_89 P) BT.nil BT.nil) BT.nil))) (BT.node (hp_13 P) (BT.node (hG0_21 P) (BT.node (hG2x0_37 P) (BT.node (hG4_69 P) BT.nil BT.nil) (BT.node (hG6_101 P) BT.nil BT.nil)) (BT.node (hG3_53 P) (BT.node (hG5_85 P) BT.nil BT.nil) BT.nil)) (BT.node (hG0_29 P) (BT.node (hG3_45 P) (BT.node (hG5_77 P) BT.nil BT.nil) (BT.node (hG6_109 P) BT.nil BT.nil)) (BT.node (hG4_61 P) (BT.node (hG6_93 P) BT.nil BT.nil) BT.nil))))) (BT.node (boot_o_2 P) (BT.node (boot_o_4 P) (BT.node (boot_o_8 P) (BT.node (hG0_16 P) (BT.node (hG0_32 P) (BT.node (hG4_64 P) BT.nil BT.nil) (BT.node (hG6_96 P) BT.nil BT.nil)) (BT.node (hG3_48 P) (BT.node (hG5_80 P) BT.nil BT.nil) (BT.node (hG6_112 P) BT.nil BT.nil))) (BT.node (hG0_24 P) (BT.node (hG2x128_40 P) (BT.node (hG4_72 P) BT.nil BT.nil) (BT.node (hG6_104 P) BT.nil BT.nil)) (BT.node (hG3_56 P) (BT.node (hG5_88 P) BT.nil BT.nil) BT.nil))) (BT.node (hG6_12 P) (BT.node (hG0_20 P) (BT.node (hG2x0_36 P) (BT.node (hG4_68 P) BT.nil BT.nil) (BT.node (hG6_100 P) BT.nil BT.nil)) (BT.node (hG3_52 P) (BT.node (hG5_84 P) BT.nil BT.nil) BT.nil)) (BT.node (hG0_28 P) (BT.node (hG3_44 P) (BT.node (hG5_76 P) BT.nil BT.nil) (BT.node (hG6_108 P) BT.nil BT.nil)) (BT.node (hG4_60 P) (BT.node (hG6_92 P) BT.nil BT.nil) BT.nil)))) (BT.node (boot_o_6 P) (BT.node (boot_o_10 P) (BT.node (hG0_18 P) (BT.node (hG0_34 P) (BT.node (hG4_66 P) BT.nil BT.nil) (BT.node (hG6_98 P) BT.nil BT.nil)) (BT.node (hG3_50 P) (BT.node (hG5_82 P) BT.nil BT.nil) (BT.node (hG6_114 P) BT.nil BT.nil))) (BT.node (hG0_26 P) (BT.node (hG2_42 P) (BT.node (hG5_74 P) BT.nil BT.nil) (BT.node (hG6_106 P) BT.nil BT.nil)) (BT.node (hG4_58 P) (BT.node (hG6_90 P) BT.nil BT.nil) BT.nil))) (BT.node (hp_14 P) (BT.node (hG0_22 P) (BT.node (hG2x0_38 P) (BT.node (hG4_70 P) BT.nil BT.nil) (BT.node (hG6_102 P) BT.nil BT.nil)) (BT.node (hG3_54 P) (BT.node (hG5_86 P) BT.nil BT.nil) BT.nil)) (BT.node (hG0_30 P) (BT.node (hG3_46 P) (BT.node (hG5_78 P) BT.nil BT.nil) (BT.node (hG6_110 P) BT.nil BT.nil)) (BT.node (hG4_62 P) (BT.node (hG6_94 P) BT.nil BT.nil) BT.nil))))))
theorem h_G6 (w : World) (os : OsState) : segRunT treeTable p9 w 11 ann9 1 128 (SharedT.mk (treeG5 w.params) 90 (@PySem.Life.mk [] [] [] 0 [] [] @Bool.false (@List.toArray @Nat []) [] 0 @Bool.false @Bool.false @Bool.false (0 : Int) [(2000 : Int), (10 : Int), (10 : Int)] @Bool.false 0 @Bool.true [] [] 0 @Bool.false) (Array.mk [GenState.finished, GenState.finished, GenState.finished]) (@PySem.Drawn.mk 0 0 0 0) 576 os) (piecesOf ((b9.drop 6).take 5) e9 c9 (@PySem.Pos.mk 9 0 9 52) B9) = some (Flow.next, (SharedT.mk (treeG6 w.params) 116 (@PySem.Life.mk [] [] [] 0 [] [] @Bool.false (@List.toArray @Nat []) [] 0 @Bool.false @Bool.false @Bool.false (0 : Int) [(2000 : Int), (10 : Int), (10 : Int)] @Bool.false 0 @Bool.true [] [] 0 @Bool.false) (Array.mk [GenState.finished, GenState.finished, GenState.finished]) (@PySem.Drawn.mk 0 0 0 0) 610 os), c9, (@PySem.Pos.mk 30 0 48 134)) := by
  (rw [show @PySem.W.segRunT = _ from PySem.W.Fast.te10110043849684766642, show treeTable = _ from PySem.W.Fast.te14364793385576792824]; kernel_rfl)
noncomputable def heapF (P : Params) : Heap := Heap.mk (Array.mk [boot_o_0 P, boot_o_1 P, boot_o_2 P, hG6_3 P, boot_o_4 P, boot_o_5 P, boot_o_6 P, boot_o_7 P, boot_o_8 P, boot_o_9 P, boot_o_10 P, hp_11 P, hG6_12 P, hp_13 P, hp_14 P, hG0_15 P, hG0_16 P, hG0_17 P, hG0_18 P, hG0_19 P, hG0_20 P, hG0_21 P, hG0_22 P, hG0_23 P, hG0_24 P, hG0_25 P, hG0_26 P, hG0_27 P, hG0_28 P, hG0_29 P, hG0_30 P, hG0_31 P, hG0_32 P, hG0_33 P, hG0_34 P, hG0_35 P, hG2x0_36 P, hG2x0_37 P, hG2x0_38 P, hG5_39 P, hG2x128_40 P, hG2_41 P, hG2_42 P, hG3_43 P, hG3_44 P, hG3_45 P, hG3_46 P, hG3_47 P, hG3_48 P, hG3_49 P, hG3_50 P, hG3_51 P, hG3_52 P, hG3_53 P, hG3_54 P, hG3_55 P, hG3_56 P, hG3_57 P, hG4_58 P, hG4_59 P, hG4_60 P, hG4_61 P, hG4_62 P, hG4_63 P, hG4_64 P, hG4_65 P, hG4_66 P, hG4_67 P, hG4_68 P, hG4_69 P, hG4_70 P, hG4_71 P, hG4_72 P, hG5_73 P, hG5_74 P, hG5_75 P, hG5_76 P, hG5_77 P, hG5_78 P, hG5_79 P, hG5_80 P, hG5_81 P, hG5_82 P, hG5_83 P, hG5_84 P, hG5_85 P, hG5_86 P, hG5_87 P, hG5_88 P, hG5_89 P, hG6_90 P, hG6_91 P, hG6_92 P, hG6_93 P, hG6_94 P, hG6_95 P, hG6_96 P, hG6_97 P, hG6_98 P, hG6_99 P, hG6_100 P, hG6_101 P, hG6_102 P, hG6_103 P, hG6_104 P, hG6_105 P, hG6_106 P, hG6_107 P, hG6_108 P, hG6_109 P, hG6_110 P, hG6_111 P, hG6_112 P, hG6_113 P, hG6_114 P, hG6_115 P]) (@PySem.Life.mk [] [] [] 0 [] [] @Bool.false (@List.toArray @Nat []) [] 0 @Bool.false @Bool.false @Bool.false (0 : Int) [(2000 : Int), (10 : Int), (10 : Int)] @Bool.false 0 @Bool.true [] [] 0 @Bool.false)
theorem h_fin (w : World) (os : OsState) : topRun treeTable p9 w 11 ann9 2 (SharedT.mk (treeG6 w.params) 116 (@PySem.Life.mk [] [] [] 0 [] [] @Bool.false (@List.toArray @Nat []) [] 0 @Bool.false @Bool.false @Bool.false (0 : Int) [(2000 : Int), (10 : Int), (10 : Int)] @Bool.false 0 @Bool.true [] [] 0 @Bool.false) (Array.mk [GenState.finished, GenState.finished, GenState.finished]) (@PySem.Drawn.mk 0 0 0 0) 610 os).abs (Thread.mk (doneF Flow.next) c9 (@PySem.Pos.mk 30 0 48 134) B9) = some (Shared.mk (heapF w.params) (Array.mk [GenState.finished, GenState.finished, GenState.finished]) (@PySem.Drawn.mk 0 0 0 0) 610 os) := by
  rw [show @topRun = _ from PySem.W.Fast.te14082659384304107361, show treeTable = _ from PySem.W.Fast.te14364793385576792824]
  kernel_rfl
theorem h_bd : b9 = (((b9.drop 0).take 2) ++ (((b9.drop 2).take 1) ++ (((b9.drop 3).take 1) ++ (((b9.drop 4).take 1) ++ (((b9.drop 5).take 1) ++ (((b9.drop 6).take 5) ++ [])))))) := by kernel_rfl
theorem h_chain (w : World) (os : OsState) : topRun treeTable p9 w 11 ann9 (235 + ((113 + (640 + (640 + (640 + (640 + (640 + (640 + (640 + (640 + 23))))))))) + (367 + (367 + (522 + (128 + 2)))))) (SharedT.mk (treeK w.params) 15 (@PySem.Life.mk [] [] [] 0 [] [] @Bool.false (@List.toArray @Nat []) [] 0 @Bool.false @Bool.false @Bool.false (0 : Int) [(2000 : Int), (10 : Int), (10 : Int)] @Bool.false 0 @Bool.true [] [] 0 @Bool.false) (Array.mk []) (@PySem.Drawn.mk 0 0 0 0) 187 os).abs (restOf (((b9.drop 0).take 2) ++ (((b9.drop 2).take 1) ++ (((b9.drop 3).take 1) ++ (((b9.drop 4).take 1) ++ (((b9.drop 5).take 1) ++ (((b9.drop 6).take 5) ++ [])))))) e9 c9 (@PySem.Pos.mk 0 0 0 0) B9) = some (Shared.mk (heapF w.params) (Array.mk [GenState.finished, GenState.finished, GenState.finished]) (@PySem.Drawn.mk 0 0 0 0) 610 os) :=
  (piece_app (segRun_of (h_G0 w os)) (piece_app (seg_go (segGo_of (h_G2x0 w os)) (seg_go (segGo_of (h_G2x16 w os (stk w os))) (seg_go (segGo_of (h_G2x32 w os (stk w os))) (seg_go (segGo_of (h_G2x48 w os (stk w os))) (seg_go (segGo_of (h_G2x64 w os (stk w os))) (seg_go (segGo_of (h_G2x80 w os (stk w os))) (seg_go (segGo_of (h_G2x96 w os (stk w os))) (seg_go (segGo_of (h_G2x112 w os (stk w os))) (seg_go (segGo_of (h_G2x128 w os (stk w os))) (segRun_of (h_G2 w os))))))))))) (piece_app (segRun_of (h_G3 w os)) (piece_app (segRun_of (h_G4 w os)) (piece_app (segRun_of (h_G5 w os)) (piece_app (segRun_of (h_G6 w os)) (h_fin w os)))))))
theorem h_run (w : World) (os : OsState) : topRun treeTable p9 w 11 ann9 (12 + (1 + (235 + ((113 + (640 + (640 + (640 + (640 + (640 + (640 + (640 + (640 + 23))))))))) + (367 + (367 + (522 + (128 + 2)))))))) (Shared.mk (boot_heap w.params) (Array.mk []) boot_drawn boot_toks os) (topStub p9) = some (Shared.mk (heapF w.params) (Array.mk [GenState.finished, GenState.finished, GenState.finished]) (@PySem.Drawn.mk 0 0 0 0) 610 os) :=
  go_top (h_pre w os) (piece_block (h_block w os) ((congrArg (fun l => topRun treeTable p9 w 11 ann9 (235 + ((113 + (640 + (640 + (640 + (640 + (640 + (640 + (640 + (640 + 23))))))))) + (367 + (367 + (522 + (128 + 2)))))) (SharedT.mk (treeK w.params) 15 (@PySem.Life.mk [] [] [] 0 [] [] @Bool.false (@List.toArray @Nat []) [] 0 @Bool.false @Bool.false @Bool.false (0 : Int) [(2000 : Int), (10 : Int), (10 : Int)] @Bool.false 0 @Bool.true [] [] 0 @Bool.false) (Array.mk []) (@PySem.Drawn.mk 0 0 0 0) 187 os).abs (restOf l e9 c9 (@PySem.Pos.mk 0 0 0 0) B9) = some (Shared.mk (heapF w.params) (Array.mk [GenState.finished, GenState.finished, GenState.finished]) (@PySem.Drawn.mk 0 0 0 0) 610 os)) h_bd).mpr (h_chain w os)))
noncomputable def view9 : Program := { p9 with main := { p9.main with body := [stAt 1 p9.main.body, stAt 2 p9.main.body, stAt 7 p9.main.body, stAt 8 p9.main.body, stAt 9 p9.main.body, stAt 10 p9.main.body] } }
noncomputable def loose9 : List Str := [(PySem.Str.ofString "trans")]
noncomputable def lv9 : List (Str × WData) := []
noncomputable abbrev N9 : Nat := 13864
noncomputable def K9 (P : Params) : Frag := [(0, boot_o_0 P), (1, boot_o_1 P), (2, boot_o_2 P), (3, hG6_3 P), (4, boot_o_4 P), (5, boot_o_5 P), (6, boot_o_6 P), (7, boot_o_7 P), (8, boot_o_8 P), (9, boot_o_9 P), (10, boot_o_10 P), (11, hp_11 P), (12, hG6_12 P), (13, hp_13 P), (14, hp_14 P), (15, hG0_15 P), (16, hG0_16 P), (17, hG0_17 P), (18, hG0_18 P), (19, hG0_19 P), (20, hG0_20 P), (21, hG0_21 P), (22, hG0_22 P), (23, hG0_23 P), (24, hG0_24 P), (25, hG0_25 P), (26, hG0_26 P), (27, hG0_27 P), (28, hG0_28 P), (29, hG0_29 P), (30, hG0_30 P), (31, hG0_31 P), (32, hG0_32 P), (33, hG0_33 P), (34, hG0_34 P), (35, hG0_35 P), (36, hG2x0_36 P), (37, hG2x0_37 P), (38, hG2x0_38 P), (39, hG5_39 P), (40, hG2x128_40 P), (41, hG2_41 P), (42, hG2_42 P), (43, hG3_43 P), (44, hG3_44 P), (45, hG3_45 P), (46, hG3_46 P), (47, hG3_47 P), (48, hG3_48 P), (49, hG3_49 P), (50, hG3_50 P), (51, hG3_51 P), (52, hG3_52 P), (53, hG3_53 P), (54, hG3_54 P), (55, hG3_55 P), (56, hG3_56 P), (57, hG3_57 P), (58, hG4_58 P), (59, hG4_59 P), (60, hG4_60 P), (61, hG4_61 P), (62, hG4_62 P), (63, hG4_63 P), (64, hG4_64 P), (65, hG4_65 P), (66, hG4_66 P), (67, hG4_67 P), (68, hG4_68 P), (69, hG4_69 P), (70, hG4_70 P), (71, hG4_71 P), (72, hG4_72 P), (73, hG5_73 P), (74, hG5_74 P), (75, hG5_75 P), (76, hG5_76 P), (77, hG5_77 P), (78, hG5_78 P), (79, hG5_79 P), (80, hG5_80 P), (81, hG5_81 P), (82, hG5_82 P), (83, hG5_83 P), (84, hG5_84 P), (85, hG5_85 P), (86, hG5_86 P), (87, hG5_87 P), (88, hG5_88 P), (89, hG5_89 P), (90, hG6_90 P), (91, hG6_91 P), (92, hG6_92 P), (93, hG6_93 P), (94, hG6_94 P), (95, hG6_95 P), (96, hG6_96 P), (97, hG6_97 P), (98, hG6_98 P), (99, hG6_99 P), (100, hG6_100 P), (101, hG6_101 P), (102, hG6_102 P), (103, hG6_103 P), (104, hG6_104 P), (105, hG6_105 P), (106, hG6_106 P), (107, hG6_107 P), (108, hG6_108 P), (109, hG6_109 P), (110, hG6_110 P), (111, hG6_111 P), (112, hG6_112 P), (113, hG6_113 P), (114, hG6_114 P), (115, hG6_115 P)]
noncomputable def as9 : List Addr := [0, 1, 2, 3, 4, 5, 6, 7, 8, 9, 10, 11, 12, 13, 14, 15, 16, 17, 18, 19, 20, 21, 22, 23, 24, 25, 26, 27, 28, 29, 30, 31, 32, 33, 34, 35, 36, 37, 38, 39, 40, 41, 42, 43, 44, 45, 46, 47, 48, 49, 50, 51, 52, 53, 54, 55, 56, 57, 58, 59, 60, 61, 62, 63, 64, 65, 66, 67, 68, 69, 70, 71, 72, 73, 74, 75, 76, 77, 78, 79, 80, 81, 82, 83, 84, 85, 86, 87, 88, 89, 90, 91, 92, 93, 94, 95, 96, 97, 98, 99, 100, 101, 102, 103, 104, 105, 106, 107, 108, 109, 110, 111, 112, 113, 114, 115]
noncomputable abbrev r9 : OpenRow := PySem.Challenge.rw_dm0164_01.row
noncomputable abbrev H9 : Hook := kHook K9 as9 (fun _ => by kernel_rfl)
noncomputable abbrev X9 (s : Shared) : Bool := xlAt view9 lv9 s && recOk (RowW.records r9.toRowW) s
theorem kitm9 {prog : Program} (w : World) {B : Heap} {os : OsState} {mg mb : Str → Option Value} (G' : GX (Cx.mk prog w B os) mg mb) (X : (K9 w.params).In (Cx.mk prog w B os).B) (gl : ∀ x, mg x = nsFind (glD (K9 w.params)) x) :
    KitP (Cx.mk prog w B os) mg mb (K9 w.params) 31 28 :=
  ⟨G', X, by rw [gl]; kernel_rfl, by kernel_rfl, by kernel_rfl, by kernel_rfl, by kernel_rfl, by kernel_rfl, by kernel_rfl, by kernel_rfl, by kernel_rfl, by kernel_rfl, fn_at X (by kernel_rfl) rfl (by kernel_rfl) ⟨rfl, rfl, rfl⟩ (len2 fun a b => by kernel_rfl), obj_at X (by kernel_rfl), by kernel_rfl, by kernel_rfl⟩
theorem kitt9 {prog : Program} (w : World) {B : Heap} {os : OsState} {mg : Str → Option Value} (X : (K9 w.params).In (Cx.mk prog w B os).B) (gl : ∀ x, mg x = nsFind (glD (K9 w.params)) x) :
    KitT (Cx.mk prog w B os) mg (K9 w.params) 31 28 39 := by
  have hk : tabOk 0 ((dictIn (K9 w.params) 39).getD #[]).toList = true := by kernel_rfl
  exact ⟨by rw [gl]; kernel_rfl, 38, (dictIn (K9 w.params) 39).getD #[], default, [], ⟨X, tab_at X (by kernel_rfl), obj_at X (by kernel_rfl), tab_keys hk, by kernel_rfl, by kernel_rfl, by kernel_rfl, by kernel_rfl, by kernel_rfl, by kernel_rfl⟩, hk⟩
theorem left9 : LeftO r9.prog view9 loose9 X9 H9.obs H9.val N9 false :=
  LeftO.of_pieces (p := p9) h_open h_size h_run (by kernel_rfl) fun w => funext fun os => looks_pair (by kernel_rfl) (looks_pair (by rw [show @openSeen = _ from PySem.W.Fast.te4187177175401517315]; kernel_rfl) (by kernel_rfl))
end Mine
open Mine in
theorem PySem.Challenge.cw_dm0164_01_holds : PySem.Challenge.rw_dm0164_01.Holds := by
  w_on
  o_law
  refine holds_openN (q := view9) (loose := loose9) (Xt := X9) (XP := XL view9 lv9) (Yf := H9.obs) (Ya := H9.val) (YP := H9.says) (N := N9) left9 H9.of H9.keeps (fun s e => xl_of s (Bool.and_eq_true_iff.mp e).1) XL.keeps (by rfl) (by rfl) (by rfl) (fun s e => recFacts_of (Bool.and_eq_true_iff.mp e).2) (by rfl) (by assumption) (by decide +kernel) ⟨rfl, rfl, rfl, rfl, rfl, by decide +kernel⟩ ?hw ?hc
  case hw => w_witness2
  case hc => w_strict (
    intro w s₀ s₁ mg mb G Y fa o pm cd doc dV kV ho hd hcd hD hmg hg args vals as hpre hlay hrd hwl hlo
    have KX := kIn_of Y
    refine Ground.open G ?_
    intro T B D TE TW
    clear Y B D TE TW
    wrow_args hpre hlay hrd hwl hlo
    all_goals (
      refine enter_callW ?_
      w_top on
      rename_i xs _ _ _ _ _ _ _ a items _ hL _ _ _ hI _ hc _
      clear hmg
      have he := Dflts.none hD rfl; subst he; have he := Dflts.noKw hD; subst he
      have X : (K9 w.params).In (Cx.mk PySem.Challenge.rw_dm0164_01.row.prog w s₁.heap s₁.os).B := KX
      have G' : GX (Cx.mk PySem.Challenge.rw_dm0164_01.row.prog w s₁.heap s₁.os) mg mb := gx_of T
      have gl := fun x => glob_at (es := glD (K9 w.params)) G' X (by kernel_rfl) x
      have M := kitm9 w G' X gl
      have N : KitN (Cx.mk PySem.Challenge.rw_dm0164_01.row.prog w s₁.heap s₁.os) mg 96 103 110 := ⟨fn_at X (by kernel_rfl) rfl (by kernel_rfl) ⟨rfl, rfl, rfl⟩ (len2 fun a b => by kernel_rfl), fn_at X (by kernel_rfl) rfl (by kernel_rfl) ⟨rfl, rfl, rfl⟩ (len1 fun a => by kernel_rfl), fn_at X (by kernel_rfl) rfl (by kernel_rfl) ⟨rfl, rfl, rfl⟩ (len1 fun a => by kernel_rfl), by rw [gl]; kernel_rfl, by rw [gl]; kernel_rfl, by rw [gl]; kernel_rfl, by rw [gl]; kernel_rfl, by rw [gl]; kernel_rfl, by rw [gl]; kernel_rfl, by rw [gl]; kernel_rfl, by rw [gl]; kernel_rfl, by rw [gl]; kernel_rfl, by rw [gl]; kernel_rfl, by rw [gl]; kernel_rfl, by rw [gl]; kernel_rfl, by rw [gl]; kernel_rfl⟩
      have Y := kitt9 w X gl
      have hx63 : xs.length ≤ 63 := by omega
      refine entryD (fd' := fdOf "law" pm cd sLaw) (body' := fnB sLaw) (RC := fun L => [(L + 1 + 1 + 1, .cell .any), (L + 1 + 1, .cell .any), (L + 1, .cell .any)]) (r := ["k", "text", "asked", "told", "due"]) G' ?e1 ?e1b ?e2 ?e3 ⟨⟨o, ho, hd⟩, rfl, hcd, rfl, rfl, rfl, len1 fun a => by kernel_rfl⟩ hg hL hI (.cons (.rest (.rest (.rest (.rest (.rest .nil)))))) (by decide) (by decide) ?e4 ?e5 (show ∀ x ∈ (["script"] : List Str), (scB sLaw).names.lookup x = some .local by decide) ?e6 fun s' h1 h2 h3 => good_true (fun _ => rfl) (by kernel_rfl) h1 h2 h3
      case e1 => intro L; kernel_rfl
      case e1b => kernel_rfl
      case e2 => kernel_rfl
      case e3 => intro L; kernel_rfl
      case e4 => kernel_rfl
      case e5 => intro L; exact (show (["table", "keys", "pairs"] : List Str).Nodup by decide)
      case e6 =>
        intro L
        have hA1 : (callerA.deeper (callEnvC (fdOf "law" pm cd sLaw) L fa)).handled = none := rfl
        have hA2 : (callerA.deeper (callEnvC (fdOf "law" pm cd sLaw) L fa)).depth + 1 < recursionLimit := (show callerA.depth + 1 + 1 < recursionLimit by decide)
        have hA3 : (callerA.deeper (callEnvC (fdOf "law" pm cd sLaw) L fa)).units + 64 < cLine := (show callerA.units + 3 + 64 < cLine by decide)
        generalize callerA.deeper (callEnvC (fdOf "law" pm cd sLaw) L fa) = A' at hA1 hA2 hA3 ⊢
        exact @law_ok (Cx.mk PySem.Challenge.rw_dm0164_01.row.prog w s₁.heap s₁.os) A' mg mb (K9 w.params) pm cd 31 28 39 fa L 96 103 110 xs M hA1 hA2 hA3 N Y hx63))
