import PyProof.Rows.All
import Wide.All
import OpenK.AllK
import Wide.FinOn
import Lean
import PySem.Challenge.RW_pk0060_02
set_option Elab.async false
set_option genSizeOf false
set_option genSizeOfSpec false
set_option genInjectivity false
section
open PySem PySem.Calls PySem.W PyProof.Rows
set_option maxRecDepth 100000
namespace Mine
set_option genInjectivity true in
inductive V where
  | none
  | bool (b : Bool)
  | int (i : Int)
  | bytes (l : List UInt8)
  | list (vs : List V)
  | tup (vs : List V)
  | mut (i : Nat)
  | fn (f : Nat)
  | rng (a b c : Int)
noncomputable abbrev MH := List (List V)
structure Cfg where
  prog : Program
  w : World
  hb : Heap
  fa : Nat → Addr
  ξ : List Addr := []
mutual
noncomputable def VRel (C : Cfg) (h : Heap) (ρ : List Addr) : V → Value → Prop
  | .none, x => x = .none
  | .bool b, x => x = .bool b
  | .int i, x => ∃ t, x = .int i t
  | .bytes l, x => ∃ t, x = .bytes l.toArray t
  | .list vs, x => ∃ a, ∃ xs : List Value, x = .ref a ∧ h.IsList a xs.toArray ∧ a ∉ ρ ++ C.ξ ∧ VAll C h ρ vs xs
  | .tup vs, x => ∃ a, ∃ xs : List Value, x = .ref a ∧ h.IsTuple a xs.toArray ∧ a ∉ ρ ++ C.ξ ∧ VAll C h ρ vs xs
  | .mut i, x => ∃ a, x = .ref a ∧ ρ[i]? = some a
  | .fn f, x => x = .ref (C.fa f) ∧ ∃ o fd, C.hb.get? (C.fa f) = some o ∧ o.data = .func fd
  | .rng a b c, x => ∃ r t u v, x = .ref r ∧ IsRange h r a b c t u v ∧ r ∉ ρ ++ C.ξ
noncomputable def VAll (C : Cfg) (h : Heap) (ρ : List Addr) : List V → List Value → Prop
  | [], xs => xs = []
  | v :: vs, xs => ∃ y ys, xs = y :: ys ∧ VRel C h ρ v y ∧ VAll C h ρ vs ys
end
section
variable {C : Cfg} {h : Heap} {ρ : List Addr}
theorem VRel.none : VRel C h ρ .none .none := rfl
theorem VRel.bool (b : Bool) : VRel C h ρ (.bool b) (.bool b) := rfl
theorem VRel.int (i : Int) (t : Tok) : VRel C h ρ (.int i) (.int i t) := ⟨t, rfl⟩
theorem VRel.bytes (l : List UInt8) (t : Tok) : VRel C h ρ (.bytes l) (.bytes l.toArray t) := ⟨t, rfl⟩
theorem VRel.list {a : Addr} {vs : List V} {xs : List Value} (x : h.IsList a xs.toArray) (n : a ∉ ρ ++ C.ξ) (r : VAll C h ρ vs xs) : VRel C h ρ (.list vs) (.ref a) := ⟨a, xs, rfl, x, n, r⟩
theorem VRel.tup {a : Addr} {vs : List V} {xs : List Value} (x : h.IsTuple a xs.toArray) (n : a ∉ ρ ++ C.ξ) (r : VAll C h ρ vs xs) : VRel C h ρ (.tup vs) (.ref a) := ⟨a, xs, rfl, x, n, r⟩
theorem VRel.mut {i : Nat} {a : Addr} (e : ρ[i]? = some a) : VRel C h ρ (.mut i) (.ref a) := ⟨a, rfl, e⟩
theorem VRel.fn {f : Nat} {o : Obj} {fd : FuncData} (e : C.hb.get? (C.fa f) = some o) (d : o.data = .func fd) : VRel C h ρ (.fn f) (.ref (C.fa f)) := ⟨rfl, o, fd, e, d⟩
theorem VRel.rng {a : Addr} {x y z : Int} {t u v : Tok} (r : IsRange h a x y z t u v) (n : a ∉ ρ ++ C.ξ) : VRel C h ρ (.rng x y z) (.ref a) := ⟨a, t, u, v, rfl, r, n⟩
theorem VAll.nil : VAll C h ρ [] [] := rfl
theorem VAll.cons {v : V} {x : Value} {vs : List V} {xs : List Value} (a : VRel C h ρ v x) (b : VAll C h ρ vs xs) : VAll C h ρ (v :: vs) (x :: xs) := ⟨x, xs, rfl, a, b⟩
end
noncomputable def Keep (X : List Addr) (h h' : Heap) : Prop := ∀ a o, h.get? a = some o → a ∉ X → h'.get? a = some o
theorem Keep.refl {X : List Addr} {h : Heap} : Keep X h h := fun _ _ e _ => e
theorem Keep.trans {X : List Addr} {h h' h'' : Heap} (x : Keep X h h') (y : Keep X h' h'') : Keep X h h'' := fun a o e n => y a o (x a o e n) n
theorem Keep.of_all {X : List Addr} {h h' : Heap} (k : ∀ b o, h.get? b = some o → h'.get? b = some o) : Keep X h h' := fun a o e _ => k a o e
theorem Keep.push {X : List Addr} {h : Heap} (o : Obj) : Keep X h (h.push o) := fun _ _ e _ => Heap.get?_push_of_some o e
theorem Keep.mono {X Y : List Addr} {h h' : Heap} (x : Keep X h h') (hs : ∀ a ∈ X, a ∈ Y) : Keep Y h h' := fun a o e n => x a o e fun q => n (hs a q)
theorem Keep.all {h h' : Heap} (x : Keep [] h h') : ∀ b o, h.get? b = some o → h'.get? b = some o := fun b o e => x b o e (fun q => nomatch q)
noncomputable def isD (o : Obj) : Prop := (∃ xs n, o.data = .seq xs n) ∨ (o.cls = .type "range" ∧ ∃ vs, o.data = .fields vs)
noncomputable def KeepD (X : List Addr) (h h' : Heap) : Prop := ∀ a o, h.get? a = some o → isD o → a ∉ X → h'.get? a = some o
theorem Keep.d {X : List Addr} {h h' : Heap} (x : Keep X h h') : KeepD X h h' := fun a o e _ n => x a o e n
theorem KeepD.mono {X Y : List Addr} {h h' : Heap} (x : KeepD X h h') (hs : ∀ a ∈ X, a ∈ Y) : KeepD Y h h' := fun a o e d n => x a o e d fun q => n (hs a q)
mutual
noncomputable def pureV : V → Prop
  | .mut _ => False
  | .list vs => pureVs vs
  | .tup vs => pureVs vs
  | _ => True
noncomputable def pureVs : List V → Prop
  | [] => True
  | v :: r => pureV v ∧ pureVs r
end
mutual
noncomputable def sub (g : Nat → V) : V → V
  | .mut i => g i
  | .list vs => .list (subs g vs)
  | .tup vs => .tup (subs g vs)
  | v => v
noncomputable def subs (g : Nat → V) : List V → List V
  | [] => []
  | v :: r => sub g v :: subs g r
end
mutual
theorem sub_mut : ∀ v : V, sub .mut v = v
  | .list vs => congrArg V.list (subs_mut vs)
  | .tup vs => congrArg V.tup (subs_mut vs)
  | .none | .bool _ | .int _ | .bytes _ | .mut _ | .fn _ | .rng .. => rfl
theorem subs_mut : ∀ vs : List V, subs .mut vs = vs
  | [] => rfl
  | v :: r => List.cons_eq_cons.mpr ⟨sub_mut v, subs_mut r⟩
end
section
variable {C C' : Cfg} {h h' : Heap} {ρ ρ' : List Addr} {P : Prop} {g : Nat → V} (ho : ∀ a o, h.get? a = some o → isD o → a ∉ ρ ++ C.ξ → h'.get? a = some o ∧ a ∉ ρ' ++ C'.ξ) (hm : ∀ (i : Nat) (a : Addr), ρ[i]? = some a → VRel C' h' ρ' (g i) (.ref a) ∨ P) (hb : C'.hb = C.hb) (hf : C'.fa = C.fa)
include ho hm hb hf
mutual
theorem VRel.sub (v : V) (x : Value) (p : P → pureV v) (r : VRel C h ρ v x) : VRel C' h' ρ' (sub g v) x := by
  match v with
  | .none => exact r
  | .bool _ => exact r
  | .int _ => exact r
  | .bytes _ => exact r
  | .list vs =>
    obtain ⟨a, xs, e, ⟨o, g, c, m, d⟩, n, r⟩ := r
    exact let q := ho a o g (.inl ⟨_, _, d⟩) n; ⟨a, xs, e, ⟨o, q.1, c, m, d⟩, q.2, VAll.sub vs xs p r⟩
  | .tup vs =>
    obtain ⟨a, xs, e, ⟨o, g, c, m, d⟩, n, r⟩ := r
    exact let q := ho a o g (.inl ⟨_, _, d⟩) n; ⟨a, xs, e, ⟨o, q.1, c, m, d⟩, q.2, VAll.sub vs xs p r⟩
  | .mut i =>
    obtain ⟨a, e, r⟩ := r
    exact e ▸ (hm i a r).resolve_right p
  | .fn f =>
    obtain ⟨e, o, fd, g, d⟩ := r
    exact ⟨hf ▸ e, o, fd, by rw [hb, hf]; exact g, d⟩
  | .rng _ _ _ =>
    obtain ⟨a, t, u, v, e, g, n⟩ := r
    exact let q := ho a _ g (.inr ⟨rfl, _, rfl⟩) n; ⟨a, t, u, v, e, q.1, q.2⟩
theorem VAll.sub (vs : List V) (xs : List Value) (p : P → pureVs vs) (r : VAll C h ρ vs xs) : VAll C' h' ρ' (subs g vs) xs := by
  match vs with
  | [] => exact r
  | v :: vs =>
    obtain ⟨y, ys, e, a, r⟩ := r
    exact ⟨y, ys, e, VRel.sub v y (fun q => (p q).1) a, VAll.sub vs ys (fun q => (p q).2) r⟩
end
end
section
variable {C C' : Cfg} {h h' : Heap} {ρ ρ' : List Addr} {P : Prop} (ho : ∀ a o, h.get? a = some o → isD o → a ∉ ρ ++ C.ξ → h'.get? a = some o ∧ a ∉ ρ' ++ C'.ξ) (hm : ∀ (i : Nat) (a : Addr), ρ[i]? = some a → ρ'[i]? = some a ∨ P) (hb : C'.hb = C.hb) (hf : C'.fa = C.fa)
include ho hm hb hf
theorem VRel.map (v : V) (x : Value) (p : P → pureV v) (r : VRel C h ρ v x) : VRel C' h' ρ' v x := sub_mut v ▸ r.sub (g := .mut) ho (fun i a e => (hm i a e).imp .mut id) hb hf v x p
theorem VAll.map (vs : List V) (xs : List Value) (p : P → pureVs vs) (r : VAll C h ρ vs xs) : VAll C' h' ρ' vs xs := subs_mut vs ▸ r.sub (g := .mut) ho (fun i a e => (hm i a e).imp .mut id) hb hf vs xs p
end
section
variable {C : Cfg} {h h' : Heap} {ρ δ : List Addr} {D : Addr} {v : V} {x : Value} {vs : List V} {xs : List Value}
theorem VRel.keepX (k : KeepD (ρ ++ C.ξ) h h') (r : VRel C h ρ v x) : VRel C h' ρ v x := VRel.map (P := False) (fun a o e d n => ⟨k a o e d n, n⟩) (fun _ _ e => .inl e) rfl rfl v x False.elim r
theorem VAll.keepX (k : KeepD (ρ ++ C.ξ) h h') (r : VAll C h ρ vs xs) : VAll C h' ρ vs xs := VAll.map (P := False) (fun a o e d n => ⟨k a o e d n, n⟩) (fun _ _ e => .inl e) rfl rfl vs xs False.elim r
theorem VRel.keep (k : KeepD ρ h h') (r : VRel C h ρ v x) : VRel C h' ρ v x := r.keepX (k.mono fun _ q => List.mem_append.mpr (.inl q))
theorem VAll.keep (k : KeepD ρ h h') (r : VAll C h ρ vs xs) : VAll C h' ρ vs xs := r.keepX (k.mono fun _ q => List.mem_append.mpr (.inl q))
theorem mem_more {ρ δ ξ : List Addr} {a : Addr} (h : a ∈ (ρ ++ δ) ++ ξ) : a ∈ ρ ++ ξ ∨ a ∈ δ := by
  rcases List.mem_append.mp h with h | h
  · rcases List.mem_append.mp h with h | h
    · exact .inl (List.mem_append.mpr (.inl h))
    · exact .inr h
  · exact .inl (List.mem_append.mpr (.inr h))
theorem app_more {i : Nat} {a : Addr} (e : ρ[i]? = some a) : (ρ ++ δ)[i]? = some a := by rw [List.getElem?_append_left (List.getElem?_eq_some_iff.mp e).1]; exact e
theorem VRel.more (k : ∀ a ∈ δ, ∀ o, h.get? a ≠ some o) (r : VRel C h ρ v x) : VRel C h (ρ ++ δ) v x := VRel.map (P := False) (fun a o e _ n => ⟨e, fun q => (mem_more q).elim n fun q => k a q o e⟩) (fun _ _ e => .inl (app_more e)) rfl rfl v x False.elim r
theorem VAll.more (k : ∀ a ∈ δ, ∀ o, h.get? a ≠ some o) (r : VAll C h ρ vs xs) : VAll C h (ρ ++ δ) vs xs := VAll.map (P := False) (fun a o e _ n => ⟨e, fun q => (mem_more q).elim n fun q => k a q o e⟩) (fun _ _ e => .inl (app_more e)) rfl rfl vs xs False.elim r
theorem less_not {a : Addr} {ξ : List Addr} (n : a ∉ (ρ ++ δ) ++ ξ) : a ∉ ρ ++ ξ := fun q => n ((List.mem_append.mp q).elim (fun q => List.mem_append.mpr (.inl (List.mem_append.mpr (.inl q)))) fun q => List.mem_append.mpr (.inr q))
theorem VRel.less (p : pureV v) (r : VRel C h (ρ ++ δ) v x) : VRel C h ρ v x := VRel.map (P := True) (fun _ _ e _ n => ⟨e, less_not n⟩) (fun _ _ _ => .inr trivial) rfl rfl v x (fun _ => p) r
theorem VAll.less (p : pureVs vs) (r : VAll C h (ρ ++ δ) vs xs) : VAll C h ρ vs xs := VAll.map (P := True) (fun _ _ e _ n => ⟨e, less_not n⟩) (fun _ _ _ => .inr trivial) rfl rfl vs xs (fun _ => p) r
noncomputable def Cfg.with (C : Cfg) (D : Addr) : Cfg := { C with ξ := D :: C.ξ }
theorem with_not {a : Addr} (n : a ∉ ρ ++ (C.with D).ξ) : a ∉ ρ ++ C.ξ := fun q => n ((List.mem_append.mp q).elim (fun q => List.mem_append.mpr (.inl q)) fun q => List.mem_append.mpr (.inr (.tail _ q)))
theorem VRel.into (k : ∀ o, h.get? D ≠ some o) (r : VRel C h ρ v x) : VRel (C.with D) h ρ v x :=
  VRel.map (C' := C.with D) (P := False) (fun a o e _ n => ⟨e, fun q => (List.mem_append.mp q).elim (fun q => n (List.mem_append.mpr (.inl q))) fun q => (List.mem_cons.mp q).elim (fun w => k o (w ▸ e)) fun q => n (List.mem_append.mpr (.inr q))⟩) (fun _ _ e => .inl e) rfl rfl v x False.elim r
theorem VRel.out (r : VRel (C.with D) h ρ v x) : VRel C h ρ v x := VRel.map (C := C.with D) (P := False) (fun _ _ e _ n => ⟨e, with_not n⟩) (fun _ _ e => .inl e) rfl rfl v x False.elim r
theorem VAll.into (k : ∀ o, h.get? D ≠ some o) (r : VAll C h ρ vs xs) : VAll (C.with D) h ρ vs xs :=
  VAll.map (C' := C.with D) (P := False) (fun a o e _ n => ⟨e, fun q => (List.mem_append.mp q).elim (fun q => n (List.mem_append.mpr (.inl q))) fun q => (List.mem_cons.mp q).elim (fun w => k o (w ▸ e)) fun q => n (List.mem_append.mpr (.inr q))⟩) (fun _ _ e => .inl e) rfl rfl vs xs False.elim r
theorem VAll.out (r : VAll (C.with D) h ρ vs xs) : VAll C h ρ vs xs := VAll.map (C := C.with D) (P := False) (fun _ _ e _ n => ⟨e, with_not n⟩) (fun _ _ e => .inl e) rfl rfl vs xs False.elim r
end
section
variable {C : Cfg} {h : Heap} {ρ : List Addr}
theorem VAll.length {vs : List V} : ∀ {xs : List Value}, VAll C h ρ vs xs → vs.length = xs.length := by
  induction vs with
  | nil => intro xs r; cases r; rfl
  | cons v vs ih => intro xs r; obtain ⟨_, _, e, _, r⟩ := r; cases e; exact congrArg _ (ih r)
theorem VAll.append' {vs ws : List V} {ys : List Value} (q : VAll C h ρ ws ys) : ∀ {xs : List Value}, VAll C h ρ vs xs → VAll C h ρ (vs ++ ws) (xs ++ ys) := by
  induction vs with
  | nil => intro xs e; cases e; exact q
  | cons v vs ih => intro xs r; obtain ⟨_, _, e, a, r⟩ := r; cases e; exact .cons a (ih r)
theorem VAll.append {vs ws : List V} {xs ys : List Value} (r : VAll C h ρ vs xs) (q : VAll C h ρ ws ys) : VAll C h ρ (vs ++ ws) (xs ++ ys) := VAll.append' q r
theorem VAll.take {vs : List V} : ∀ (n : Nat) {xs : List Value}, VAll C h ρ vs xs → VAll C h ρ (vs.take n) (xs.take n) := by
  induction vs with
  | nil => intro n xs e; cases e; rw [List.take_nil, List.take_nil]; exact .nil
  | cons v vs ih =>
    intro n xs r
    cases n with
    | zero => exact .nil
    | succ n => obtain ⟨_, _, e, a, r⟩ := r; cases e; exact .cons a (ih n r)
theorem VAll.drop {vs : List V} : ∀ (n : Nat) {xs : List Value}, VAll C h ρ vs xs → VAll C h ρ (vs.drop n) (xs.drop n) := by
  induction vs with
  | nil => intro n xs e; cases e; rw [List.drop_nil, List.drop_nil]; exact .nil
  | cons v vs ih =>
    intro n xs r
    cases n with
    | zero => exact r
    | succ n => obtain ⟨_, _, e, _, r⟩ := r; cases e; exact ih n r
theorem VAll.get {vs : List V} : ∀ {n : Nat} {xs : List Value} {v : V}, VAll C h ρ vs xs → vs[n]? = some v → ∃ x, xs[n]? = some x ∧ VRel C h ρ v x := by
  induction vs with
  | nil => intro n xs v _ e; cases e
  | cons u us ih =>
    intro n xs v r e
    obtain ⟨y, ys, q, a, r⟩ := r
    cases q
    cases n with
    | zero => cases e; exact ⟨y, rfl, a⟩
    | succ n => exact ih (n := n) r e
theorem VAll.get' {n : Nat} {vs : List V} {xs : List Value} {x : Value} (r : VAll C h ρ vs xs) (e : xs[n]? = some x) : ∃ v, vs[n]? = some v ∧ VRel C h ρ v x := by
  have hl : n < vs.length := r.length ▸ (List.getElem?_eq_some_iff.mp e).1
  obtain ⟨x', e', q⟩ := r.get (List.getElem?_eq_getElem hl)
  cases e.symm.trans e'
  exact ⟨_, List.getElem?_eq_getElem hl, q⟩
theorem VAll.reverse : ∀ {vs : List V} {xs : List Value}, VAll C h ρ vs xs → VAll C h ρ vs.reverse xs.reverse
  | [], _, e => by cases e; exact .nil
  | _ :: _, _, ⟨_, _, e, a, r⟩ => by cases e; rw [List.reverse_cons, List.reverse_cons]; exact (VAll.reverse r).append (.cons a .nil)
end
structure MRel (C : Cfg) (h : Heap) (ρ : List Addr) (mh : MH) : Prop where
  len : ρ.length = mh.length
  nodup : ρ.Nodup
  at' : ∀ (i : Nat) (a : Addr) (vs : List V), ρ[i]? = some a → mh[i]? = some vs → ∃ (xs : List Value) (n : Nat), h.get? a = some (listOf xs.toArray n) ∧ VAll C h ρ vs xs
structure Co (C : Cfg) (ρ : List Addr) (mh : MH) (h : Heap) : Prop where
  up : ∀ a o, C.hb.get? a = some o → h.get? a = some o
  new : ∀ a ∈ ρ, C.hb.get? a = none
  m : MRel C h ρ mh
  pure : ∀ vs ∈ mh, pureVs vs
  live : ∀ a ∈ C.ξ, ∃ o, h.get? a = some o
  apart : ∀ a ∈ C.ξ, a ∉ ρ ∧ C.hb.get? a = none
section
variable {C : Cfg} {ρ : List Addr} {mh : MH} {h h' : Heap}
theorem Co.mem_list (x : Co C ρ mh h) {a : Addr} (ha : a ∈ ρ) : ∃ (xs : List Value) (n : Nat), h.get? a = some (listOf xs.toArray n) := by
  obtain ⟨i, hi, rfl⟩ := List.getElem_of_mem ha
  have hl : i < mh.length := x.m.len ▸ hi
  obtain ⟨xs, n, g, _⟩ := x.m.at' i ρ[i] mh[i] (List.getElem?_eq_getElem hi) (List.getElem?_eq_getElem hl)
  exact ⟨xs, n, g⟩
theorem Co.old (x : Co C ρ mh h) {a : Addr} (ha : a ∈ ρ ++ C.ξ) : ∃ o, h.get? a = some o :=
  (List.mem_append.mp ha).elim (fun q => let ⟨_, _, g⟩ := x.mem_list q; ⟨_, g⟩) (x.live a)
theorem Co.fresh (x : Co C ρ mh h) {a : Addr} (ha : h.objs.size ≤ a) : a ∉ ρ ++ C.ξ := fun q =>
  let ⟨_, ho⟩ := x.old q; absurd (Heap.lt_size ho) (Nat.not_lt.mpr ha)
theorem Co.keepX {X : List Addr} (x : Co C ρ mh h) (k : Keep X h h') (hb : ∀ b ∈ X, C.hb.get? b = none) (hd : ∀ b ∈ X, (∀ o, h.get? b = some o → ¬ isD o) ∨ b ∈ C.ξ) (hl : ∀ b ∈ X, b ∈ C.ξ → ∃ o, h'.get? b = some o) : Co C ρ mh h' := by
  have kd : KeepD (ρ ++ C.ξ) h h' := fun a o e d n => k a o e fun q => (hd a q).elim (fun f => f o e d) fun f => n (List.mem_append.mpr (.inr f))
  refine ⟨fun a o e => k a o (x.up a o e) fun q => ?_, x.new, ⟨x.m.len, x.m.nodup, fun i a vs e1 e2 => ?_⟩, x.pure, fun a ha => ?_, x.apart⟩
  · rw [hb a q] at e; cases e
  · obtain ⟨xs, n, g, r⟩ := x.m.at' i a vs e1 e2
    exact ⟨xs, n, k a _ g fun q => (hd a q).elim (fun f => f _ g (.inl ⟨_, _, rfl⟩)) fun f => (x.apart a f).1 (List.mem_of_getElem? e1), r.keepX kd⟩
  · obtain ⟨o, ho⟩ := x.live a ha
    by_cases q : a ∈ X
    · exact hl a q ha
    · exact ⟨o, k a o ho q⟩
theorem Co.keepAll (x : Co C ρ mh h) (k : ∀ b o, h.get? b = some o → h'.get? b = some o) : Co C ρ mh h' :=
  x.keepX (X := []) (.of_all k) (fun _ q => nomatch q) (fun _ q => nomatch q) (fun _ q => nomatch q)
theorem mem_one {a b : Addr} (h : a ∈ [b]) : a = b := List.mem_singleton.mp h
theorem Co.one {b : Addr} (x : Co C ρ mh h) (hs : ∀ a o, h.get? a = some o → a ≠ b → h'.get? a = some o) (hb : C.hb.get? b = none) (hd : ∀ o, h.get? b = some o → ¬ isD o) (hl : ∃ o, h'.get? b = some o) : Co C ρ mh h' :=
  x.keepX (X := [b]) (fun a o e n => hs a o e fun q => n (q ▸ .head _)) (fun c hc => mem_one hc ▸ hb) (fun c hc => .inl (mem_one hc ▸ hd)) (fun c hc _ => mem_one hc ▸ hl)
theorem Co.mutate {i : Nat} {a : Addr} {vs' : List V} {xs' : List Value} {n' : Nat} (x : Co C ρ mh h) (hi : ρ[i]? = some a) (hs : Heap.SameBut a h h')
    (hg : h'.get? a = some (listOf xs'.toArray n')) (hv : VAll C h ρ vs' xs') (hp : pureVs vs') : Co C ρ (mh.set i vs') h' := by
  have ha : a ∈ ρ := List.mem_of_getElem? hi
  have k : Keep ρ h h' := fun b o e n => (hs.2 b fun q => n (q ▸ ha)).trans e
  refine ⟨fun b o e => (hs.2 b ?_).trans (x.up b o e), x.new, ⟨x.m.len.trans (List.length_set ..).symm, x.m.nodup, fun j b vs e1 e2 => ?_⟩, fun vs hm => (List.mem_or_eq_of_mem_set hm).elim (x.pure vs) (· ▸ hp), fun b hb => ?_, x.apart⟩
  · rintro rfl; rw [x.new b ha] at e; cases e
  · by_cases hij : i = j
    · subst hij
      rw [hi] at e1; cases e1
      rw [List.getElem?_set_self (x.m.len ▸ (List.getElem?_eq_some_iff.mp hi).1)] at e2
      cases e2
      exact ⟨xs', n', hg, hv.keep k.d⟩
    · rw [List.getElem?_set_ne hij] at e2
      obtain ⟨xs, n, g, r⟩ := x.m.at' j b vs e1 e2
      have hab : b ≠ a := by
        rintro rfl
        exact hij ((List.getElem_inj x.m.nodup).mp ((List.getElem?_eq_some_iff.mp hi).2.trans (List.getElem?_eq_some_iff.mp e1).2.symm))
      exact ⟨xs, n, (hs.2 b hab).trans g, r.keep k.d⟩
  · obtain ⟨o, ho⟩ := x.live b hb
    exact ⟨o, (hs.2 b fun q => (x.apart b hb).1 (q ▸ ha)).trans ho⟩
end
noncomputable def Post (C : Cfg) (ρ : List Addr) (s : Shared) (mh' : MH) (v : V) (x : Value) (s' : Shared) : Prop :=
  ∃ h' tk, s' = { s with heap := h', toks := tk } ∧ Keep ρ s.heap h' ∧ Co C ρ mh' h' ∧ VRel C h' ρ v x
noncomputable def PostQ (C : Cfg) (ρ : List Addr) (s : Shared) (Q : V → MH → Prop) (x : Value) (s' : Shared) : Prop :=
  ∃ h' tk v m, s' = { s with heap := h', toks := tk } ∧ Q v m ∧ Keep ρ s.heap h' ∧ Co C ρ m h' ∧ VRel C h' ρ v x
noncomputable def PostL (C : Cfg) (ρ : List Addr) (s : Shared) (Q : List V → MH → Prop) (xs : List Value) (s' : Shared) : Prop :=
  ∃ h' tk vs m, s' = { s with heap := h', toks := tk } ∧ Q vs m ∧ Keep ρ s.heap h' ∧ Co C ρ m h' ∧ VAll C h' ρ vs xs
noncomputable def PostB (C : Cfg) (ρ : List Addr) (s : Shared) (Q : Bool → MH → Prop) (b : Bool) (s' : Shared) : Prop :=
  ∃ h' tk m, s' = { s with heap := h', toks := tk } ∧ Q b m ∧ Keep ρ s.heap h' ∧ Co C ρ m h'
noncomputable def NoE : Value → Shared → Prop := fun _ _ => False
noncomputable abbrev WP (C : Cfg) (A : Around) {α : Type} (t : Sem α) (Q : α → Shared → Prop) (s : Shared) : Prop := wpAny (model C.prog C.w) A t Q NoE s
theorem wp_e {C : Cfg} {A : Around} {α : Type} {t : Sem α} {Q : α → Shared → Prop} {E : Value → Shared → Prop} {s : Shared} (h : WP C A t Q s) : wpAny (model C.prog C.w) A t Q E s :=
  wpAny_mono h (fun _ _ q => q) fun _ _ f => f.elim
theorem WP.mono {C : Cfg} {A : Around} {α : Type} {t : Sem α} {Q R : α → Shared → Prop} {s : Shared} (h : WP C A t Q s) (k : ∀ a s', Q a s' → R a s') : WP C A t R s := wpAny_mono h k fun _ _ f => f
noncomputable def topK : Nat := 21
structure Rm (k : Nat) (A : Around) : Prop where
  le : k ≤ topK
  fr : topK ≤ k → A.frames = some []
  hh : A.handled = none
  depth : A.depth + k < recursionLimit
  units : A.units + 100 + 8 * k < cLine
theorem Rm.deeper {k : Nat} {A : Around} {env : Env} (x : Rm (k + 1) A) : Rm k (A.deeper env) := ⟨Nat.le_of_succ_le x.le, fun q => absurd q (Nat.not_le.mpr x.le), x.hh, by have := x.depth; show A.depth + 1 + k < _; omega, by have := x.units; show A.units + 3 + 100 + 8 * k < _; omega⟩
theorem Rm.u20 {k : Nat} {A : Around} (x : Rm k A) : A.units + 20 < cLine := by have := x.units; omega
theorem Rm.u0 {k : Nat} {A : Around} (x : Rm k A) : A.units < cLine := by have := x.units; omega
section
variable {C : Cfg} {A : Around} {ρ : List Addr} {mh : MH} {s : Shared} {Q : V → MH → Prop} {v : V} {x : Value}
theorem PostQ.tok {n : Nat} (q : Q v mh) (co : Co C ρ mh s.heap) (r : VRel C s.heap ρ v x) : PostQ C ρ s Q x { s with toks := n } := ⟨s.heap, n, v, mh, rfl, q, .refl, co, r⟩
theorem PostQ.pure (q : Q v mh) (co : Co C ρ mh s.heap) (r : VRel C s.heap ρ v x) : PostQ C ρ s Q x s := ⟨s.heap, s.toks, v, mh, rfl, q, .refl, co, r⟩
theorem PostQ.grow {h' : Heap} {tk : Nat} (q : Q v mh) (co : Co C ρ mh s.heap) (k : ∀ b o, s.heap.get? b = some o → h'.get? b = some o) (r : VRel C h' ρ v x) : PostQ C ρ s Q x { s with heap := h', toks := tk } :=
  ⟨h', tk, v, mh, rfl, q, .of_all k, co.keepAll k, r⟩
theorem PostQ.trans {h₁ : Heap} {tk₁ : Nat} {s' : Shared} (k : Keep ρ s.heap h₁) (p : PostQ C ρ { s with heap := h₁, toks := tk₁ } Q x s') : PostQ C ρ s Q x s' :=
  by obtain ⟨h', tk, v, m, e, q, k', co, r⟩ := p; exact ⟨h', tk, v, m, e, q, k.trans k', co, r⟩
theorem PostL.trans {Q : List V → MH → Prop} {xs : List Value} {h₁ : Heap} {tk₁ : Nat} {s' : Shared} (k : Keep ρ s.heap h₁) (p : PostL C ρ { s with heap := h₁, toks := tk₁ } Q xs s') : PostL C ρ s Q xs s' :=
  by obtain ⟨h', tk, v, m, e, q, k', co, r⟩ := p; exact ⟨h', tk, v, m, e, q, k.trans k', co, r⟩
theorem PostB.trans {Q : Bool → MH → Prop} {b : Bool} {h₁ : Heap} {tk₁ : Nat} {s' : Shared} (k : Keep ρ s.heap h₁) (p : PostB C ρ { s with heap := h₁, toks := tk₁ } Q b s') : PostB C ρ s Q b s' :=
  by obtain ⟨h', tk, m, e, q, k', co⟩ := p; exact ⟨h', tk, m, e, q, k.trans k', co⟩
end
end Mine
end
section
open PySem PySem.Calls PySem.W PyProof.Rows PySem.SeqAt
set_option maxRecDepth 100000
set_option linter.unusedVariables false
namespace Mine
noncomputable def itemsOf (mh : MH) : V → Option (List V)
  | .list vs => some vs
  | .mut i => mh[i]?
  | _ => none
noncomputable def derefV (mh : MH) (v : V) : V := match itemsOf mh v with | some vs => .list vs | none => v
section
variable {C : Cfg} {A : Around} {ρ : List Addr} {mh : MH} {s : Shared}
theorem items_rel {v : V} {x : Value} {vs : List V} (co : Co C ρ mh s.heap) (h : itemsOf mh v = some vs) (r : VRel C s.heap ρ v x) :
    ∃ a xs, x = .ref a ∧ s.heap.IsList a (List.toArray xs) ∧ VAll C s.heap ρ vs xs := by
  cases v with
  | list us => obtain ⟨a, xs, rfl, hl, _, r⟩ := r; cases h; exact ⟨_, _, rfl, hl, r⟩
  | «mut» i =>
    obtain ⟨a, rfl, e⟩ := r
    obtain ⟨xs, n, g, r⟩ := co.m.at' i _ vs e h
    exact ⟨a, xs, rfl, ⟨_, g, rfl, n, rfl⟩, r⟩
  | _ => cases h
end
noncomputable def flatOk (a b : V) : Prop := match a with
  | .none => b = .none
  | .bool _ => ∃ q, b = .bool q
  | .int _ => ∃ q, b = .int q
  | .bytes _ => ∃ q, b = .bytes q
  | _ => False
noncomputable def eqok : Nat → V → V → Prop
  | 0, a, b => flatOk a b
  | n + 1, a, b => flatOk a b ∨ ∃ as bs, a = .list as ∧ b = .list bs ∧ (as.length ≠ bs.length ∨ ∀ p ∈ as.zip bs, eqok n p.1 p.2)
noncomputable def Says (K : Bool → Prop) (P : Prop) : Prop := ∀ e, (e = true ↔ P) → K e
theorem says_of {K : Bool → Prop} {P : Prop} {e : Bool} (h : K e) (k : e = true ↔ P) : Says K P := fun _ k' => (Bool.eq_iff_iff.mpr (k.trans k'.symm)) ▸ h
section
variable {C : Cfg} {ρ : List Addr} {s : Shared} {A : Around}
theorem list_inj {a : Addr} {h : Heap} {xs ys : List Value} (x : h.IsList a xs.toArray) (y : h.IsList a ys.toArray) : xs = ys := by
  obtain ⟨o, ho, _, k, hd⟩ := x
  obtain ⟨o', ho', _, k', hd'⟩ := y
  cases ho.symm.trans ho'
  exact congrArg Array.toList (Data.seq.inj (hd.symm.trans hd')).1
theorem flat_inj {h : Heap} {a b : V} {x : Value} (f : flatOk a b) (ra : VRel C h ρ a x) (rb : VRel C h ρ b x) : a = b := by
  cases a with
  | none => exact f.symm
  | bool p => obtain ⟨q, rfl⟩ := f; cases ra.symm.trans rb; rfl
  | int p => obtain ⟨q, rfl⟩ := f; obtain ⟨t, rfl⟩ := ra; obtain ⟨u, e⟩ := rb; cases e; rfl
  | bytes p => obtain ⟨q, rfl⟩ := f; obtain ⟨t, rfl⟩ := ra; obtain ⟨u, e⟩ := rb; cases e; rfl
  | _ => exact f.elim
theorem all_inj {h : Heap} {P : V → V → Prop} (hp : ∀ a b x, P a b → VRel C h ρ a x → VRel C h ρ b x → a = b) :
    ∀ (as bs : List V) (xs : List Value), as.length = bs.length → (∀ p ∈ as.zip bs, P p.1 p.2) → VAll C h ρ as xs → VAll C h ρ bs xs → as = bs
  | [], [], _, _, _, _, _ => rfl
  | [], _ :: _, _, hl, _, _, _ => nomatch hl
  | _ :: _, [], _, hl, _, _, _ => nomatch hl
  | a :: as, b :: bs, xs, hl, hz, r, q => by
    obtain ⟨y, ys, rfl, ra, r⟩ := r
    obtain ⟨_, _, e, rb, q⟩ := q
    cases e
    rw [hp a b y (hz (a, b) (.head _)) ra rb, all_inj hp as bs ys (Nat.succ.inj hl) (fun p m => hz p (.tail _ m)) r q]
theorem rel_inj {h : Heap} : ∀ (n : Nat) (a b : V) (x : Value), eqok n a b → VRel C h ρ a x → VRel C h ρ b x → a = b
  | 0, _, _, _, f, ra, rb => flat_inj f ra rb
  | n + 1, _, _, _, .inl f, ra, rb => flat_inj f ra rb
  | n + 1, a, b, x, .inr f, ra, rb => by
    obtain ⟨as, bs, rfl, rfl, hz⟩ := f
    obtain ⟨l, xs, rfl, hl, _, r⟩ := ra
    obtain ⟨_, ys, e, hl', _, r'⟩ := rb
    cases e
    cases list_inj hl hl'
    have hlen := r.length.trans r'.length.symm
    rw [all_inj (rel_inj n) as bs xs hlen (hz.resolve_left fun q => q hlen) r r']
theorem flat_says {a b : V} {x y : Value} (f : flatOk a b) (ra : VRel C s.heap ρ a x) (rb : VRel C s.heap ρ b y) : Says (EqAt A s x y) (a = b) ∧ Says (RcAt A s x y) (a = b) ∧ Says (fun e => RcNeAt A s x y (!e)) (a = b) := by
  cases a with
  | none =>
    cases f; cases ra; cases rb
    have k : true = true ↔ V.none = V.none := iff_of_true rfl rfl
    exact ⟨says_of (.same _) k, says_of .none_none k, says_of .none_none k⟩
  | bool p =>
    obtain ⟨q, rfl⟩ := f; cases ra; cases rb
    have k : (p == q) = true ↔ V.bool p = V.bool q := beq_iff_eq.trans ⟨congrArg _, V.bool.inj⟩
    exact ⟨says_of (.bool_bool p q) k, says_of (.bool_bool p q) k, says_of (.bool_bool p q) k⟩
  | int p =>
    obtain ⟨q, rfl⟩ := f; obtain ⟨t, rfl⟩ := ra; obtain ⟨u, rfl⟩ := rb
    have k : (p == q) = true ↔ V.int p = V.int q := beq_iff_eq.trans ⟨congrArg _, V.int.inj⟩
    exact ⟨says_of (.int_int p t q u) k, says_of (.int_int p t q u) k, says_of (.int_int p t q u) k⟩
  | bytes p =>
    obtain ⟨q, rfl⟩ := f; obtain ⟨t, rfl⟩ := ra; obtain ⟨u, rfl⟩ := rb
    have k : (p.toArray.toList == q.toArray.toList) = true ↔ V.bytes p = V.bytes q := beq_iff_eq.trans ⟨congrArg V.bytes, V.bytes.inj⟩
    exact ⟨says_of (e := decide (p = q)) (fun prog w E Q h => eqBool_bytes h) (decide_eq_true_iff.trans ⟨congrArg _, V.bytes.inj⟩), says_of (fun prog w E Q h => eq_bytes h) k, says_of (fun prog w E Q h => ne_bytes h) k⟩
  | _ => exact f.elim
theorem zip_get {P : V → V → Prop} {a b : List V} {x y : V} {j : Nat} (h : ∀ p ∈ a.zip b, P p.1 p.2) (e1 : a[j]? = some x) (e2 : b[j]? = some y) : P x y :=
  h (x, y) (List.mem_of_getElem? (i := j) (List.getElem?_zip_eq_some.mpr ⟨e1, e2⟩))
theorem says_list {n : Nat} {as bs : List V} {l m : Addr} {xs ys : List Value} (hz : as.length ≠ bs.length ∨ ∀ p ∈ as.zip bs, eqok n p.1 p.2) (hl : s.heap.IsList l xs.toArray) (r : VAll C s.heap ρ as xs)
    (hl' : s.heap.IsList m ys.toArray) (r' : VAll C s.heap ρ bs ys) (hu : A.units < cLine) (ih : ∀ (a b : V) (x y : Value), eqok n a b → VRel C s.heap ρ a x → VRel C s.heap ρ b y → Says (EqAt A.in1 s x y) (a = b)) :
    Says (RcAt A s (.ref l) (.ref m)) (as = bs) ∧ Says (fun e => RcNeAt A s (.ref l) (.ref m) (!e)) (as = bs) := by
  classical
  have hx := r.length
  have hy := r'.length
  by_cases hlen : as.length = bs.length
  · have hz := hz.resolve_left fun q => q hlen
    have hsz : xs.toArray.size = ys.toArray.size := by rw [List.size_toArray, List.size_toArray, ← hx, ← hy, hlen]
    have he : ∀ j (h1 : j < xs.toArray.size) (h2 : j < ys.toArray.size), EqAt A.in1 s xs.toArray[j] ys.toArray[j] (decide (as[j]? = bs[j]?)) := fun j h1 h2 => by
      obtain ⟨v, e1, q1⟩ := r.get' (n := j) (List.getElem?_eq_getElem h1)
      obtain ⟨w, e2, q2⟩ := r'.get' (n := j) (List.getElem?_eq_getElem h2)
      refine ih _ _ _ _ (zip_get hz e1 e2) q1 q2 _ (decide_eq_true_iff.trans ?_)
      rw [e1, e2]; exact ⟨Option.some.inj, congrArg _⟩
    have k : (List.range xs.toArray.size).all (fun j => decide (as[j]? = bs[j]?)) = true ↔ as = bs := by
      rw [List.all_eq_true]
      refine ⟨fun q => List.ext_getElem? fun j => ?_, fun e j _ => decide_eq_true (by rw [e])⟩
      by_cases hj : j < xs.toArray.size
      · exact of_decide_eq_true (q j (List.mem_range.mpr hj))
      · rw [List.size_toArray, ← hx] at hj
        rw [List.getElem?_eq_none (Nat.le_of_not_lt hj), List.getElem?_eq_none (hlen ▸ Nat.le_of_not_lt hj)]
    exact ⟨says_of (RcAt.lists hl hl' hsz hu he) k, says_of (RcNeAt.lists hl hl' hsz hu he) k⟩
  · have hsz : (xs.toArray.size != ys.toArray.size) = true := by rw [List.size_toArray, List.size_toArray, ← hx, ← hy]; exact bne_iff_ne.mpr hlen
    have k : false = true ↔ as = bs := ⟨(fun q => nomatch q), fun q => absurd (congrArg List.length q) hlen⟩
    exact ⟨says_of (RcAt.lists_lengths hl hl' hsz hu) k, says_of (K := fun e => RcNeAt A s (.ref l) (.ref m) (!e)) (e := false) (RcNeAt.lists_lengths hl hl' hsz hu) k⟩
theorem says_list_eq {K : Bool → Prop} {as bs : List V} (h : Says K (as = bs)) : Says K (V.list as = V.list bs) := fun e k => h e (k.trans ⟨V.list.inj, congrArg _⟩)
theorem eqAt_ : ∀ (n : Nat) (A : Around) (a b : V) (x y : Value), A.units + n < cLine → eqok n a b → VRel C s.heap ρ a x → VRel C s.heap ρ b y → Says (EqAt A s x y) (a = b)
  | 0, _, _, _, _, _, _, f, ra, rb => (flat_says f ra rb).1
  | n + 1, _, _, _, _, _, _, .inl f, ra, rb => (flat_says f ra rb).1
  | n + 1, A, a, b, x, y, hu, .inr f, ra, rb => by
    obtain ⟨as, bs, rfl, rfl, hz⟩ := f
    have ra' := ra
    obtain ⟨l, xs, rfl, hl, _, r⟩ := ra
    obtain ⟨k, ys, rfl, hl', hn', r'⟩ := rb
    by_cases hlm : l = k
    · subst hlm
      rw [rel_inj (n + 1) (.list as) (.list bs) _ (.inr ⟨as, bs, rfl, rfl, hz⟩) ra' ⟨l, ys, rfl, hl', hn', r'⟩]
      exact says_of (.same _) (iff_of_true rfl rfl)
    · exact fun e q => EqAt.of_refs hlm (says_list_eq (says_list hz hl r hl' r' (Nat.lt_of_le_of_lt (Nat.le_add_right ..) hu) (fun a b x y => eqAt_ n A.in1 a b x y (by show A.units + 1 + n < _; omega))).1 e q)
end
end Mine
end
section
open PySem PySem.Calls PySem.W PyProof.Rows PySem.SeqAt
open PySem.AutoSeq1 (wpAny_loadPart')
set_option maxRecDepth 100000
set_option linter.unusedVariables false
namespace Mine
noncomputable def lim : Nat := 1048576
noncomputable def big : Nat := 2 ^ 128
theorem lim_le {n : Nat} (h : n ≤ lim) : n ≤ sizeLine := by rw [sizeLine_eq]; exact Nat.le_trans h (by decide)
/-! kinds of values -/
section
variable (v : V)
noncomputable def intW (K : Int → Prop) : Prop := match v with | .int i => K i | _ => False
noncomputable def bytesW (K : List UInt8 → Prop) : Prop := match v with | .bytes l => K l | _ => False
noncomputable def tupW (K : List V → Prop) : Prop := match v with | .tup l => K l | _ => False
noncomputable def mutW (K : Nat → Prop) : Prop := match v with | .mut l => K l | _ => False
noncomputable def fnW (K : Nat → Prop) : Prop := match v with | .fn l => K l | _ => False
noncomputable def itemsW (mh : MH) (K : List V → Prop) : Prop := ∃ vs, itemsOf mh v = some vs ∧ K vs
variable {v}
theorem intW_inv {K : Int → Prop} (h : intW v K) : ∃ i, v = .int i ∧ K i := by cases v <;> first | exact ⟨_, rfl, h⟩ | exact h.elim
theorem bytesW_inv {K : List UInt8 → Prop} (h : bytesW v K) : ∃ i, v = .bytes i ∧ K i := by cases v <;> first | exact ⟨_, rfl, h⟩ | exact h.elim
theorem tupW_inv {K : List V → Prop} (h : tupW v K) : ∃ i, v = .tup i ∧ K i := by cases v <;> first | exact ⟨_, rfl, h⟩ | exact h.elim
theorem mutW_inv {K : Nat → Prop} (h : mutW v K) : ∃ i, v = .mut i ∧ K i := by cases v <;> first | exact ⟨_, rfl, h⟩ | exact h.elim
theorem fnW_inv {K : Nat → Prop} (h : fnW v K) : ∃ i, v = .fn i ∧ K i := by cases v <;> first | exact ⟨_, rfl, h⟩ | exact h.elim
end
noncomputable def binW (op : Operator) (mh : MH) (a b : V) (Q : V → Prop) : Prop :=
  match op with
  | .Add => (match a with
    | .int x => intW b fun y => Q (.int (x + y))
    | .bytes x => bytesW b fun y => x.length + y.length ≤ lim ∧ Q (.bytes (x ++ y))
    | .list x => itemsW b mh fun y => x.length + y.length ≤ lim ∧ Q (.list (x ++ y))
    | _ => False)
  | .Sub => intW a fun x => intW b fun y => Q (.int (x - y))
  | .Mult => intW a fun x => intW b fun y => (x.natAbs < big ∧ y.natAbs < big) ∧ Q (.int (x * y))
  | .FloorDiv => intW a fun x => intW b fun y => (0 < y ∧ y.natAbs < big) ∧ Q (.int (x / y))
  | .Mod => intW a fun x => intW b fun y => 0 < y ∧ Q (.int (x % y))
  | .Pow => intW a fun x => intW b fun y => (x.natAbs < 2 ^ 64 ∧ 0 ≤ y ∧ y ≤ 1000) ∧ Q (.int (x ^ y.toNat))
  | _ => False
theorem intBits_le {x : Int} {k : Nat} (h : x.natAbs < 2 ^ k) : Builtin.Int.intBits x ≤ k := by
  unfold Builtin.Int.intBits
  split
  · exact Nat.zero_le _
  · rename_i h0
    exact (Nat.log2_lt fun q => h0 (by rw [Int.natAbs_eq_zero.mp q]; rfl)).mpr h
theorem mulOk {x y : Int} (hx : x.natAbs < big) (hy : y.natAbs < big) : IntMulOk x y := by
  have h3 := Nat.add_le_add (intBits_le (k := 128) hx) (intBits_le (k := 128) hy)
  have h5 : (bitsLine : Int) = 134217728 := rfl
  have : Builtin.Int.intTooBig (Builtin.Int.intBits x + Builtin.Int.intBits y) = false := decide_eq_false fun q => by rw [h5] at q; omega
  unfold IntMulOk
  simp [this]
section
variable {C : Cfg} {A : Around} {ρ : List Addr} {mh : MH} {s : Shared} {Q : V → MH → Prop}
theorem rel_new {vs : List V} {xs : List Value} {n : Nat} (co : Co C ρ mh s.heap) (r : VAll C s.heap ρ vs xs) :
    VRel C (s.heap.push { cls := .type "list", data := .seq xs.toArray n }) ρ (.list vs) (.ref s.heap.objs.size) :=
  .list ⟨_, Heap.get?_push_size _ rfl, rfl, n, rfl⟩ (co.fresh (Nat.le_refl _)) (r.keep (Keep.push _).d)
theorem rel_newT {vs : List V} {xs : List Value} {n : Nat} (co : Co C ρ mh s.heap) (r : VAll C s.heap ρ vs xs) :
    VRel C (s.heap.push { cls := .type "tuple", data := .seq xs.toArray n }) ρ (.tup vs) (.ref s.heap.objs.size) :=
  .tup ⟨_, Heap.get?_push_size _ rfl, rfl, n, rfl⟩ (co.fresh (Nat.le_refl _)) (r.keep (Keep.push _).d)
theorem up_push {h : Heap} (o : Obj) : ∀ b ob, h.get? b = some ob → (h.push o).get? b = some ob := fun _ _ e => Heap.get?_push_of_some o e
theorem newList_ {vs : List V} {xs : List Value} (q : Q (.list vs) mh) (co : Co C ρ mh s.heap) (r : VAll C s.heap ρ vs xs) (hl : vs.length ≤ lim) :
    WP C A (newList xs) (PostQ C ρ s Q) s :=
  wpAny_newObj_type (PostQ.grow q co (up_push _) (rel_new co r)) (by show xs.toArray.size ≤ sizeLine; rw [List.size_toArray, ← r.length]; exact lim_le hl)
theorem add_lists_ {l b : Addr} {vs ws : List V} {xs ys : List Value} (q0 : Q (.list (vs ++ ws)) mh) (co : Co C ρ mh s.heap) (hl : s.heap.IsList l xs.toArray) (hb : s.heap.IsList b ys.toArray) (r : VAll C s.heap ρ vs xs) (q : VAll C s.heap ρ ws ys) (hz : vs.length + ws.length ≤ lim) :
    WP C A (binaryOp .Add (.ref l) (.ref b)) (PostQ C ρ s Q) s := by
  obtain ⟨⟨cls, dd, data, sl⟩, ho, hc, n, hd⟩ := id hl
  obtain ⟨⟨cls2, dd2, data2, sl2⟩, ho2, hc2, n2, hd2⟩ := id hb
  cases hc; cases hd; cases hc2; cases hd2
  have hz' : xs.toArray.size + ys.toArray.size ≤ sizeLine := by rw [List.size_toArray, List.size_toArray, ← r.length, ← q.length]; exact lim_le hz
  refine concat_meets ⟨_, ho, rfl⟩ ⟨_, ho2, rfl⟩ noFill_list_add seq_list_add PySem.F.slot_list_add PySem.F.entry_list_add (PySem.F.args_list_add_2 _ _) (list_addW l b xs.toArray ys.toArray n n2 dd dd2 sl sl2 hz') ⟨ho, ho2, ?_⟩
  rw [List.append_toArray]
  exact PostQ.grow q0 co (up_push _) (rel_new co (r.append q))
theorem big_log {y : Int} (h0 : 0 < y) (h : y.natAbs < big) : (y.natAbs).log2 < 128 := (Nat.log2_lt (by omega)).mpr h
theorem binop_ {op : Operator} {a b : V} {x y : Value} (h : binW op mh a b fun v => Q v mh) (co : Co C ρ mh s.heap) (ra : VRel C s.heap ρ a x) (rb : VRel C s.heap ρ b y) :
    WP C A (binaryOp op x y) (PostQ C ρ s Q) s := by
  cases op with
  | Add =>
    cases a with
    | int i =>
      obtain ⟨j, rfl, h⟩ := intW_inv h
      obtain ⟨t, rfl⟩ := ra; obtain ⟨u, rfl⟩ := rb
      exact PyProof.Rows.add_int (PostQ.tok h co (.int _ _))
    | bytes p =>
      obtain ⟨q, rfl, hz, h⟩ := bytesW_inv h
      obtain ⟨t, rfl⟩ := ra; obtain ⟨u, rfl⟩ := rb
      refine KBy.add_bytes (by have := lim_le hz; rw [sizeLine_eq] at this; exact this) fun t' k => ?_
      rw [List.append_toArray]; exact PostQ.tok h co (.bytes _ _)
    | list vs =>
      obtain ⟨ws, hy, hz, h⟩ := h
      obtain ⟨l, us, rfl, hl, _, r⟩ := ra
      obtain ⟨m, ys, rfl, hm, q⟩ := items_rel co hy rb
      exact add_lists_ h co hl hm r q hz
    | _ => exact h.elim
  | Sub =>
    obtain ⟨i, rfl, h⟩ := intW_inv h; obtain ⟨j, rfl, h⟩ := intW_inv h
    obtain ⟨t, rfl⟩ := ra; obtain ⟨u, rfl⟩ := rb
    exact PyProof.Rows.sub_int (PostQ.tok h co (.int _ _))
  | Mult =>
    obtain ⟨i, rfl, h⟩ := intW_inv h; obtain ⟨j, rfl, hz, h⟩ := intW_inv h
    obtain ⟨t, rfl⟩ := ra; obtain ⟨u, rfl⟩ := rb
    exact PyProof.Rows.mul_int (PostQ.tok h co (.int _ _)) (mulOk hz.1 hz.2)
  | FloorDiv =>
    obtain ⟨i, rfl, h⟩ := intW_inv h; obtain ⟨j, rfl, hz, h⟩ := intW_inv h
    obtain ⟨t, rfl⟩ := ra; obtain ⟨u, rfl⟩ := rb
    refine PyProof.Rows.floordiv_int (by omega) ?_ (.inl (PyProof.noPylong_of_log2 (Nat.lt_of_lt_of_le (big_log hz.1 hz.2) (by decide))))
    rw [Int.fdiv_eq_ediv_of_nonneg _ (by omega)]
    exact PostQ.tok h co (.int _ _)
  | Mod =>
    obtain ⟨i, rfl, h⟩ := intW_inv h; obtain ⟨j, rfl, hz, h⟩ := intW_inv h
    obtain ⟨t, rfl⟩ := ra; obtain ⟨u, rfl⟩ := rb
    refine PyProof.Rows.mod_int' (by omega) ?_
    rw [Int.fmod_eq_emod_of_nonneg _ (by omega)]
    exact PostQ.tok h co (.int _ _)
  | Pow =>
    obtain ⟨i, rfl, h⟩ := intW_inv h; obtain ⟨j, rfl, hz, h⟩ := intW_inv h
    obtain ⟨t, rfl⟩ := ra; obtain ⟨u, rfl⟩ := rb
    exact PyProof.Rows.pow_int_small hz.2.1 (by omega) hz.1 (PostQ.tok h co (.int _ _))
  | _ => exact h.elim
end
end Mine
end
section
open PySem PySem.Calls PySem.W PyProof.Rows PySem.SeqAt
open PySem.AutoSeq1 (wpAny_loadPart')
open PySem.MeetsSeq3
set_option maxRecDepth 100000
set_option linter.unusedVariables false
namespace Mine
noncomputable def lexI (e : Bool) : List Int → List Int → Bool
  | [], [] => e
  | [], _ :: _ => true
  | _ :: _, [] => false
  | x :: xs, y :: ys => if x = y then lexI e xs ys else decide (x < y)
theorem ints_end {items : Array Value} {i : Nat} (h : IntsAre (items.toList.drop i) []) : items.size ≤ i := by
  generalize hq : items.toList.drop i = l at h
  cases h
  simpa using hq
theorem ints_more {items : Array Value} {i : Nat} {x : Int} {xs : List Int} (h : IntsAre (items.toList.drop i) (x :: xs)) : ∃ t, i < items.size ∧ items[i]? = some (.int x t) ∧ IntsAre (items.toList.drop (i + 1)) xs := by
  generalize hq : items.toList.drop i = l at h
  cases h with
  | cons _ t r =>
    have hlt : i < items.toList.length := by
      rcases Nat.lt_or_ge i items.toList.length with h' | h'
      · exact h'
      · rw [List.drop_of_length_le h'] at hq; cases hq
    rw [List.drop_eq_getElem_cons hlt] at hq
    injection hq with h1 h2
    refine ⟨t, by simpa using hlt, ?_, h2 ▸ r⟩
    have : items[i]'(by simpa using hlt) = .int x t := by simpa using h1
    rw [Array.getElem?_eq_getElem (by simpa using hlt), this]
theorem lt_loop (l b : Addr) (items items2 : Array Value) (n n2 : Nat) (dd dd2 : Option Addr) (sl sl2 : Array (Option Value)) : ∀ (xs ys : List Int) (i : Nat), IntsAre (items.toList.drop i) xs → IntsAre (items2.toList.drop i) ys → i ≤ items.size → i ≤ items2.size →
    Meets (Builtin.«list.__eq__.loop» ⟨[.ref l, .ref b, rawInt i, rawInt 0], []⟩)
      (fun A R s => s.heap.get? l = some { cls := .type "list", dict := dd, data := .seq items n, slots := sl } ∧ s.heap.get? b = some { cls := .type "list", dict := dd2, data := .seq items2 n2, slots := sl2 } ∧
        R (.ok (.ret (.bool (lexI false xs ys)))) s) := by
  intro xs
  induction xs with
  | nil =>
    intro ys i h1 h2 hi1 hi2 prog w A R s h
    obtain ⟨hp, g, d, tk, os⟩ := s; obtain ⟨hl, hb, h⟩ := h
    have e1 := ints_end h1
    have hs1 : items.size = i := by omega
    have q1 : items[((i : Nat) : Int).toNat]? = none := by simp; omega
    wp_walk using wpAny_loadPart' hl, wpAny_loadPart' hb
    rw [q1]
    wp_walk using wpAny_loadPart' hl, wpAny_loadPart' hb
    show R (.ok (.ret (.bool (decide (items.size < items2.size))))) _
    cases ys with
    | nil =>
      have e2 := ints_end h2
      have hs2 : items2.size = i := by omega
      rw [hs1, hs2]
      simpa [lexI] using h
    | cons y ys =>
      obtain ⟨t, hlt, _, _⟩ := ints_more h2
      have : decide (items.size < items2.size) = true := by rw [decide_eq_true_eq]; omega
      rw [this]
      simpa [lexI] using h
  | cons x xs ih =>
    intro ys i h1 h2 hi1 hi2 prog w A R s h
    obtain ⟨hp, g, d, tk, os⟩ := s; obtain ⟨hl, hb, h⟩ := h
    obtain ⟨t, hlt, q1, r1⟩ := ints_more h1
    have q1' : items[((i : Nat) : Int).toNat]? = some (.int x t) := by simpa using q1
    cases ys with
    | nil =>
      have e2 := ints_end h2
      have hs2 : items2.size = i := by omega
      have q2 : items2[((i : Nat) : Int).toNat]? = none := by simp; omega
      wp_walk using wpAny_loadPart' hl, wpAny_loadPart' hb
      rw [q1', q2]
      wp_walk using wpAny_loadPart' hl, wpAny_loadPart' hb
      show R (.ok (.ret (.bool (decide (items.size < items2.size))))) _
      have : decide (items.size < items2.size) = false := by rw [decide_eq_false_iff_not]; omega
      rw [this]
      simpa [lexI] using h
    | cons y ys =>
      obtain ⟨u, hlt2, q2, r2⟩ := ints_more h2
      have q2' : items2[((i : Nat) : Int).toNat]? = some (.int y u) := by simpa using q2
      have hc : ((i : Int) + 1) = ((i + 1 : Nat) : Int) := by push_cast; rfl
      wp_walk using wpAny_loadPart' hl, wpAny_loadPart' hb
      rw [q1', q2']
      refine wpAny_bind (EqAt.int_int x t y u prog w _ _ ?_)
      by_cases hxy : x = y
      · have hb' : (x == y) = true := by simpa using hxy
        rw [hb']
        wp_walk
        rw [hc]
        exact ⟨plainId_quiet plain_eq_loop _, codeAny_builtin entry_eq_loop (by
          rw [Around.under_plainId plain_eq_loop _]
          exact ih ys (i + 1) r1 r2 hlt hlt2 prog w A R _ ⟨hl, hb, by simpa [lexI, hxy] using h⟩)⟩
      · have hb' : (x == y) = false := by simpa using hxy
        rw [hb']
        wp_walk using wpAny_loadPart' hl, wpAny_loadPart' hb
        rw [q1', q2']
        show wpAny _ _ (compareOp .Lt (.int x t) (.int y u) >>= fun v => ret v) _ _ _
        refine wpAny_bind (PyProof.Rows.lt_int ?_)
        wp_walk
        simpa [lexI, hxy] using h
theorem list_lt (l b : Addr) (items items2 : Array Value) (n n2 : Nat) (dd dd2 : Option Addr) (sl sl2 : Array (Option Value)) (xs ys : List Int) (h1 : IntsAre items.toList xs) (h2 : IntsAre items2.toList ys) :
    Meets (Builtin.«list.__lt__» ⟨[.ref l, .ref b], []⟩)
      (fun A R s => s.heap.get? l = some { cls := .type "list", dict := dd, data := .seq items n, slots := sl } ∧ s.heap.get? b = some { cls := .type "list", dict := dd2, data := .seq items2 n2, slots := sl2 } ∧
        R (.ok (.ret (.bool (lexI false xs ys)))) s) := by
  intro prog w A R s h
  obtain ⟨hp, g, d, tk, os⟩ := s; obtain ⟨hl, hb, h⟩ := h
  have f3 := AutoSeq1.sub_list_list
  wp_walk using wpAny_loadPart' hl, wpAny_loadPart' hb
  exact ⟨plainId_quiet plain_eq_loop _, codeAny_builtin entry_eq_loop (by
    rw [Around.under_plainId plain_eq_loop _]
    exact lt_loop l b items items2 n n2 dd dd2 sl sl2 xs ys 0 h1 h2 (Nat.zero_le _) (Nat.zero_le _) prog w A R _ ⟨hl, hb, h⟩)⟩
noncomputable def intsOf : List V → Option (List Int)
  | [] => some []
  | .int i :: r => (intsOf r).map (i :: ·)
  | _ :: _ => none
section
variable {C : Cfg} {ρ : List Addr}
theorem intsOf_rel {h : Heap} : ∀ {vs : List V} {xs : List Value} {ns : List Int}, intsOf vs = some ns → VAll C h ρ vs xs → IntsAre xs ns
  | [], _, _, e, r => by cases e; cases r; exact .nil
  | v :: vs, _, ns, e, ⟨x, xs, q, r, t⟩ => by
    cases q
    cases v with
    | int i =>
      obtain ⟨u, rfl⟩ := r
      obtain ⟨ms, e2, rfl⟩ := Option.map_eq_some_iff.mp e
      exact .cons i u (intsOf_rel e2 t)
    | _ => cases e
end
end Mine
end
section
open PySem PySem.Calls PySem.W PyProof.Rows PySem.SeqAt
set_option maxRecDepth 100000
set_option linter.unusedVariables false
namespace Mine
noncomputable def brW (P : Prop) (Q : Bool → Prop) : Prop := (P → Q true) ∧ (¬ P → Q false)
theorem brW_dec {P : Prop} [Decidable P] {Q : Bool → Prop} (h : brW P Q) : Q (decide P) := by
  by_cases p : P
  · rw [decide_eq_true p]; exact h.1 p
  · rw [decide_eq_false p]; exact h.2 p
theorem brW_says {P : Prop} {K : Bool → Prop} {Q : Bool → Prop} (h : brW P Q) (k : Says K P) : ∃ b, Q b ∧ K b := by
  by_cases p : P
  · exact ⟨true, h.1 p, k _ (iff_of_true rfl p)⟩
  · exact ⟨false, h.2 p, k _ ⟨(fun q => nomatch q), fun q => absurd q p⟩⟩
noncomputable def cmpW (op : CmpOp) (mh : MH) (a b : V) (Q : Bool → Prop) : Prop :=
  match op with
  | .Lt => intW a fun x => intW b fun y => brW (x < y) Q
  | .LtE => intW a fun x => intW b fun y => brW (x ≤ y) Q
  | .Gt => intW a fun x => intW b fun y => brW (y < x) Q
  | .GtE => intW a fun x => intW b fun y => brW (y ≤ x) Q
  | .Eq => eqok 8 (derefV mh a) (derefV mh b) ∧ brW (derefV mh a = derefV mh b) Q
  | .NotEq => eqok 8 (derefV mh a) (derefV mh b) ∧ brW (¬ derefV mh a = derefV mh b) Q
  | .Is => b = .none ∧ brW (a = .none) Q
  | .IsNot => b = .none ∧ brW (¬ a = .none) Q
  | .In => itemsW b mh fun vs => (∀ v ∈ vs, eqok 8 v a) ∧ brW (∃ v ∈ vs, v = a) Q
  | _ => False
section
variable {C : Cfg} {A : Around} {ρ : List Addr} {mh : MH} {s : Shared}
theorem VRel.plain_none {a : V} {x : Value} {h : Heap} (r : VRel C h ρ a x) : plainIs x .none = true ∧ ((x == Value.none) = true ↔ a = .none) := by
  cases a with
  | none => cases r; exact ⟨rfl, iff_of_true rfl rfl⟩
  | bool b => cases r; exact ⟨rfl, (fun q => nomatch q), (fun q => nomatch q)⟩
  | int i => obtain ⟨_, rfl⟩ := r; exact ⟨rfl, (fun q => nomatch q), (fun q => nomatch q)⟩
  | bytes l => obtain ⟨_, rfl⟩ := r; exact ⟨rfl, (fun q => nomatch q), (fun q => nomatch q)⟩
  | list l => obtain ⟨_, _, rfl, _⟩ := r; exact ⟨rfl, (fun q => nomatch q), (fun q => nomatch q)⟩
  | tup l => obtain ⟨_, _, rfl, _⟩ := r; exact ⟨rfl, (fun q => nomatch q), (fun q => nomatch q)⟩
  | «mut» i => obtain ⟨_, rfl, _⟩ := r; exact ⟨rfl, (fun q => nomatch q), (fun q => nomatch q)⟩
  | fn f => cases r.1; exact ⟨rfl, (fun q => nomatch q), (fun q => nomatch q)⟩
  | rng a b c => obtain ⟨_, _, _, _, rfl, _⟩ := r; exact ⟨rfl, (fun q => nomatch q), (fun q => nomatch q)⟩
theorem deref_list {a : V} {as : List V} (h : derefV mh a = .list as) : itemsOf mh a = some as := by
  unfold derefV at h
  cases e : itemsOf mh a with
  | some vs => rw [e] at h; cases h; rfl
  | none => rw [e] at h; cases h; exact e.symm
theorem deref_flat {a : V} (h : ∀ l, derefV mh a ≠ .list l) : derefV mh a = a := by
  cases e : itemsOf mh a with
  | some vs => exact absurd (by unfold derefV; rw [e]) (h vs)
  | none => unfold derefV; rw [e]
theorem flat_not {a b : V} (h : flatOk a b) : (∀ l, a ≠ .list l) ∧ (∀ l, b ≠ .list l) := by
  cases a with
  | none => cases h; exact ⟨(fun _ q => nomatch q), (fun _ q => nomatch q)⟩
  | bool _ => obtain ⟨_, rfl⟩ := h; exact ⟨(fun _ q => nomatch q), (fun _ q => nomatch q)⟩
  | int _ => obtain ⟨_, rfl⟩ := h; exact ⟨(fun _ q => nomatch q), (fun _ q => nomatch q)⟩
  | bytes _ => obtain ⟨_, rfl⟩ := h; exact ⟨(fun _ q => nomatch q), (fun _ q => nomatch q)⟩
  | _ => exact h.elim
theorem eq_deref {a b : V} {x y : Value} (ha : eqok 8 (derefV mh a) (derefV mh b)) (co : Co C ρ mh s.heap) (ra : VRel C s.heap ρ a x) (rb : VRel C s.heap ρ b y) (hu : A.units + 20 < cLine) :
    Says (RcAt A s x y) (derefV mh a = derefV mh b) ∧ Says (fun e => RcNeAt A s x y (!e)) (derefV mh a = derefV mh b) := by
  rcases ha with f | ⟨as, bs, e1, e2, hz⟩
  · have n := flat_not f
    rw [deref_flat n.1, deref_flat n.2] at f ⊢
    exact (flat_says f ra rb).2
  · rw [e1, e2]
    obtain ⟨l, xs, rfl, hl, r⟩ := items_rel co (deref_list e1) ra
    obtain ⟨m, ys, rfl, hm, q⟩ := items_rel co (deref_list e2) rb
    have := says_list hz hl r hm q (Nat.lt_of_le_of_lt (Nat.le_add_right ..) hu) (fun a b x y => eqAt_ 7 A.in1 a b x y (by show A.units + 1 + 7 < cLine; omega))
    exact ⟨says_list_eq this.1, says_list_eq this.2⟩
theorem deref_all {l : Addr} {vs : List V} {ys : List Value} {a : V} {x : Value} {Q : Value → Shared → Prop} {Q' : Bool → Prop} (hl : s.heap.IsList l ys.toArray) (r : VAll C s.heap ρ vs ys) (hall : ∀ v ∈ vs, eqok 8 v a) (ra : VRel C s.heap ρ a x)
    (hu : A.units + 20 < cLine) (hq : brW (∃ v ∈ vs, v = a) Q') (h : ∀ b, Q' b → Q (.bool b) s) : WP C A (compareOp .In x (.ref l)) Q s := by
  classical
  have key : ∀ y, y ∈ ys.toArray → EqAt A.in1 s y x (decide (VRel C s.heap ρ a y)) := by
    intro y hy
    obtain ⟨j, hj⟩ := List.getElem?_of_mem (List.mem_toArray.mp hy)
    obtain ⟨v, e1, q1⟩ := r.get' hj
    have ek := hall v (List.mem_of_getElem? e1)
    exact eqAt_ 8 A.in1 v a y x (by show A.units + 1 + 8 < cLine; omega) ek q1 ra _ (decide_eq_true_iff.trans ⟨fun q => rel_inj 8 v a y ek q1 q, fun q => q ▸ q1⟩)
  refine in_listAt _ hl key ?_
  have hk : Says (fun e => (ys.toArray.any fun y => decide (VRel C s.heap ρ a y)) = e) (∃ v ∈ vs, v = a) := by
    refine fun e he => Bool.eq_iff_iff.mpr (Iff.trans ?_ he.symm)
    rw [List.any_toArray, List.any_eq_true]
    constructor
    · rintro ⟨y, hy, e⟩
      obtain ⟨j, hj⟩ := List.getElem?_of_mem hy
      obtain ⟨v, e1, q1⟩ := r.get' hj
      have hv := List.mem_of_getElem? e1
      exact ⟨v, hv, rel_inj 8 v a y (hall v hv) q1 (of_decide_eq_true e)⟩
    · rintro ⟨v, hv, rfl⟩
      obtain ⟨j, hj⟩ := List.getElem?_of_mem hv
      obtain ⟨y, e1, q1⟩ := r.get hj
      exact ⟨y, List.mem_of_getElem? e1, decide_eq_true q1⟩
  obtain ⟨b, hb, hk⟩ := brW_says hq hk
  rw [hk]; exact h b hb
noncomputable def Ans (s : Shared) (Q : Bool → Prop) (r : Value) (s' : Shared) : Prop := ∃ b, r = .bool b ∧ s' = s ∧ Q b
theorem Ans.dec {P : Prop} [Decidable P] {Q : Bool → Prop} (h : brW P Q) : Ans s Q (.bool (decide P)) s := ⟨_, rfl, rfl, brW_dec h⟩
theorem cmpop_ {k : Nat} {op : CmpOp} {a b : V} {x y : Value} {Q : Bool → Prop} (h : cmpW op mh a b Q) (co : Co C ρ mh s.heap) (ra : VRel C s.heap ρ a x) (rb : VRel C s.heap ρ b y) (hA : Rm k A) :
    WP C A (compareOp op x y) (Ans s Q) s := by
  cases op with
  | Lt =>
    obtain ⟨i, rfl, h⟩ := intW_inv h; obtain ⟨j, rfl, h⟩ := intW_inv h
    obtain ⟨t, rfl⟩ := ra; obtain ⟨u, rfl⟩ := rb
    exact PyProof.Rows.lt_int (.dec h)
  | LtE =>
    obtain ⟨i, rfl, h⟩ := intW_inv h; obtain ⟨j, rfl, h⟩ := intW_inv h
    obtain ⟨t, rfl⟩ := ra; obtain ⟨u, rfl⟩ := rb
    exact PyProof.Rows.le_int (.dec h)
  | Gt =>
    obtain ⟨i, rfl, h⟩ := intW_inv h; obtain ⟨j, rfl, h⟩ := intW_inv h
    obtain ⟨t, rfl⟩ := ra; obtain ⟨u, rfl⟩ := rb
    exact PyProof.Rows.gt_int (.dec h)
  | GtE =>
    obtain ⟨i, rfl, h⟩ := intW_inv h; obtain ⟨j, rfl, h⟩ := intW_inv h
    obtain ⟨t, rfl⟩ := ra; obtain ⟨u, rfl⟩ := rb
    exact PyProof.Rows.ge_int (.dec h)
  | Eq =>
    obtain ⟨b, hb, k⟩ := brW_says h.2 (eq_deref h.1 co ra rb hA.u20).1
    exact k C.prog C.w NoE _ ⟨_, rfl, rfl, hb⟩
  | NotEq =>
    obtain ⟨b, hb, k⟩ := brW_says (Q := fun b => Q (!b)) ⟨fun p => h.2.2 (fun n => n p), fun p => h.2.1 p⟩ (eq_deref h.1 co ra rb hA.u20).2
    exact k C.prog C.w NoE _ ⟨_, rfl, rfl, hb⟩
  | Is =>
    obtain ⟨rfl, h⟩ := h
    cases rb
    obtain ⟨b, hb, rfl⟩ := brW_says (K := fun e => (x == Value.none) = e) h (fun e he => Bool.eq_iff_iff.mpr (ra.plain_none.2.trans he.symm))
    exact wpAny_is_plain ra.plain_none.1 ⟨_, rfl, rfl, hb⟩
  | IsNot =>
    obtain ⟨rfl, h⟩ := h
    cases rb
    obtain ⟨b, hb, rfl⟩ := brW_says (K := fun e => (!(x == Value.none)) = e) h (fun e he => Bool.eq_iff_iff.mpr (by rw [he, Bool.not_eq_true', ← Bool.not_eq_true, ra.plain_none.2]))
    exact wpAny_isNot_plain ra.plain_none.1 ⟨_, rfl, rfl, hb⟩
  | In =>
    obtain ⟨vs, hi, hall, h⟩ := h
    obtain ⟨l, ys, rfl, hl, r⟩ := items_rel co hi rb
    exact deref_all hl r hall ra hA.u20 h fun b hb => ⟨b, rfl, rfl, hb⟩
  | _ => exact h.elim
end
end Mine
end
section
open PySem PySem.Calls PySem.W PyProof.Rows PySem.SeqAt
set_option maxRecDepth 100000
set_option linter.unusedVariables false
namespace Mine
noncomputable def truthW (v : V) (Q : Bool → Prop) : Prop := match v with
  | .none => Q false
  | .bool b => Q b
  | .int i => brW (¬ i = 0) Q
  | _ => False
noncomputable def cutL {α : Type} (l : List α) (lo hi : Option Int) : List α := (match hi with | none => l | some b => l.take b.toNat).drop (lo.getD 0).toNat
noncomputable def pickL {α : Type} (l : List α) (lo hi st : Option Int) : List α :=
  (sliceRange (sliceBounds lo hi st l.length).1 (sliceBounds lo hi st l.length).2.1 (sliceBounds lo hi st l.length).2.2).filterMap (l[·]?)
noncomputable def nonNeg (o : Option Int) : Prop := ∀ i, o = some i → 0 ≤ i
theorem nn0 : nonNeg none := fun _ e => nomatch e
theorem nn1 {i : Int} (h : 0 ≤ i) : nonNeg (some i) := fun _ e => by cases e; exact h
noncomputable def itemW (mh : MH) (o i : V) (Q : V → Prop) : Prop := intW i fun k => itemsW o mh fun vs => vs.length ≤ lim ∧ ∃ v, ((0 ≤ k ∧ vs[k.toNat]? = some v) ∨ (k < 0 ∧ 0 ≤ k + vs.length ∧ vs[(k + vs.length).toNat]? = some v)) ∧ Q v
noncomputable def partW (v : V) (K : Option Int → Prop) : Prop := match v with
  | .none => K none
  | .int i => K (some i)
  | _ => False
noncomputable def sliceL (mh : MH) (o : V) (lo hi st : Option Int) (Q : V → Prop) : Prop := itemsW o mh fun vs => vs.length ≤ lim ∧ ((st = none ∧ nonNeg lo ∧ nonNeg hi ∧ Q (.list (cutL vs lo hi))) ∨ (∃ k, st = some k ∧ k ≠ 0 ∧ Q (.list (pickL vs lo hi st))))
noncomputable def sliceW (mh : MH) (o : V) (lo hi st : Option Int) (Q : V → Prop) : Prop :=
  match o with
  | .bytes l => (st = none ∧ nonNeg lo ∧ nonNeg hi ∧ l.length ≤ lim) ∧ Q (.bytes (cutL l lo hi))
  | .list l => sliceL mh (.list l) lo hi st Q
  | .mut l => sliceL mh (.mut l) lo hi st Q
  | _ => False
theorem clip_eq {n : Nat} {i : Int} (h : 0 ≤ i) : clipAt n i = min i.toNat n := by
  obtain ⟨m, rfl⟩ := Int.eq_ofNat_of_zero_le h
  exact clipAt_nat n m
theorem drop_min {α : Type} (l : List α) (a : Nat) : l.drop (min a l.length) = l.drop a := by
  rcases Nat.le_total a l.length with h | h
  · rw [Nat.min_eq_left h]
  · rw [Nat.min_eq_right h, List.drop_of_length_le (Nat.le_refl _), List.drop_of_length_le h]
theorem take_min {α : Type} (l : List α) (a : Nat) : l.take (min a l.length) = l.take a := by
  rcases Nat.le_total a l.length with h | h
  · rw [Nat.min_eq_left h]
  · rw [Nat.min_eq_right h, List.take_of_length_le (Nat.le_refl _), List.take_of_length_le h]
theorem cut_drop {α : Type} (l : List α) (a b : Nat) : (l.drop (min a l.length)).take (b - min a l.length) = (l.take b).drop a := by
  rw [List.drop_take, drop_min]
  rcases Nat.le_total a l.length with h | h
  · rw [Nat.min_eq_left h]
  · rw [List.drop_of_length_le h, List.take_nil, List.take_nil]
theorem cut_eq {α : Type} (l : List α) (lo hi : Option Int) (h1 : nonNeg lo) (h2 : nonNeg hi) :
    (l.drop (lo.elim 0 (clipAt l.length))).take (hi.elim l.length (clipAt l.length) - lo.elim 0 (clipAt l.length)) = cutL l lo hi := by
  have e1 : lo.elim 0 (clipAt l.length) = min (lo.getD 0).toNat l.length := by
    cases lo with
    | none => exact (Nat.zero_min _).symm
    | some a => exact clip_eq (h1 a rfl)
  rw [e1]
  cases hi with
  | none =>
    show (l.drop _).take (l.length - _) = l.drop _
    rw [cut_drop, List.take_length]
  | some b =>
    show (l.drop _).take (clipAt l.length b - _) = (l.take b.toNat).drop _
    rw [clip_eq (h2 b rfl), cut_drop, take_min]
theorem cutL_len {α : Type} (l : List α) (lo hi : Option Int) : (cutL l lo hi).length ≤ l.length := by
  unfold cutL
  rw [List.length_drop]
  refine Nat.le_trans (Nat.sub_le ..) ?_
  cases hi with
  | none => exact Nat.le_refl _
  | some b => rw [List.length_take]; exact Nat.min_le_right ..
section
variable {C : Cfg} {A : Around} {ρ : List Addr} {mh : MH} {s : Shared} {Q : V → MH → Prop}
theorem VAll.cut {h : Heap} {vs : List V} {xs : List Value} (r : VAll C h ρ vs xs) (lo hi : Option Int) : VAll C h ρ (cutL vs lo hi) (cutL xs lo hi) := by
  unfold cutL
  cases hi with
  | none => exact r.drop _
  | some b => exact (r.take _).drop _
theorem VAll.filt {h : Heap} {vs : List V} {xs : List Value} (r : VAll C h ρ vs xs) : ∀ is : List Nat, VAll C h ρ (is.filterMap (vs[·]?)) (is.filterMap (xs[·]?))
  | [] => .nil
  | i :: is => by
    cases e : vs[i]? with
    | none =>
      have e' : xs[i]? = none := List.getElem?_eq_none (r.length ▸ List.getElem?_eq_none_iff.mp e)
      rw [List.filterMap_cons_none e, List.filterMap_cons_none e']
      exact VAll.filt r is
    | some v =>
      obtain ⟨x, e', q⟩ := r.get e
      rw [List.filterMap_cons_some e, List.filterMap_cons_some e']
      exact .cons q (VAll.filt r is)
theorem VAll.pick {h : Heap} {vs : List V} {xs : List Value} (r : VAll C h ρ vs xs) (lo hi st : Option Int) : VAll C h ρ (pickL vs lo hi st) (pickL xs lo hi st) := by
  unfold pickL
  rw [r.length]
  exact r.filt _
theorem truthy_ {a : V} {x : Value} {K : Bool → Prop} (h : truthW a K) (ra : VRel C s.heap ρ a x) : WP C A (truthy x) (fun r s' => s' = s ∧ K r) s := by
  cases a with
  | none => cases ra; exact truthy_none ⟨rfl, h⟩
  | bool b => cases ra; exact wpAny_truthy_bool ⟨rfl, h⟩
  | int i => obtain ⟨t, rfl⟩ := ra; exact PyProof.Rows.truthy_int ⟨rfl, by rw [show (i != 0) = decide (¬ i = 0) from Bool.eq_iff_iff.mpr (bne_iff_ne.trans decide_eq_true_iff.symm)]; exact brW_dec h⟩
  | _ => exact h.elim
theorem not_slice_sub {slice : Expr} {o i : Value} (hs : ∀ l u st p, slice ≠ .Slice l u st p) : subscripted slice false o i = operate [o, i] (getItem o i) := by
  cases slice <;> first | rfl | exact absurd rfl (hs _ _ _ _)
theorem slice_sub {l u st : Option Expr} {p : Pos} {o i : Value} : ∃ ops, subscripted (.Slice l u st p) false o i = operate ops (getItem o i) := by
  cases st <;> exact ⟨_, rfl⟩
theorem arr_get {xs : List Value} {n : Nat} {x : Value} (e : xs[n]? = some x) : xs.toArray[n]? = some x := by rw [List.getElem?_toArray]; exact e
theorem item_ {value slice : Expr} {o i : V} {x y : Value} (h : itemW mh o i fun v => Q v mh) (co : Co C ρ mh s.heap) (ra : VRel C s.heap ρ o x) (rb : VRel C s.heap ρ i y) (hs : ∀ l u st p, slice ≠ .Slice l u st p) :
    WP C A (subscriptTail value slice x y) (PostQ C ρ s Q) s := by
  obtain ⟨k, rfl, vs, hi, hlim, v, hv, h⟩ := intW_inv h
  obtain ⟨u, rfl⟩ := rb
  obtain ⟨l, xs, rfl, hl, r⟩ := items_rel co hi ra
  refine tail_any hl.typeIs slot_list_getitem.lookup ?_ (not_slice_sub hs)
  have hxl : xs.length ≤ 1048576 := r.length ▸ hlim
  rcases hv with ⟨h0, hv⟩ | ⟨h0, h1, hv⟩
  · obtain ⟨x, e, q⟩ := r.get hv
    have hk : k.toNat < xs.length := (List.getElem?_eq_some_iff.mp e).1
    exact wpAny_getItem_list hl h0 (by omega) (arr_get e) (PostQ.pure h co q)
  · obtain ⟨x, e, q⟩ := r.get hv
    have hlen := r.length
    exact wpAny_getItem_list_neg hl h0 (by rw [List.size_toArray]; omega) (by omega) (arr_get (by rw [List.size_toArray, ← hlen]; exact e)) (PostQ.pure h co q)
theorem part_rel {h : Heap} {a : V} {x : Value} {K : Option Int → Prop} (e : partW a K) (r : VRel C h ρ a x) : ∃ p, IsPart x p ∧ K p := by
  cases a with
  | none => cases r; exact ⟨none, .none, e⟩
  | int i => obtain ⟨t, rfl⟩ := r; exact ⟨some i, .int i t, e⟩
  | _ => exact e.elim
theorem slice_list {value : Expr} {el eu es : Option Expr} {p : Pos} {o : V} {lo hi st : Option Int} {x vl vu vs : Value} (h : sliceL mh o lo hi st fun v => Q v mh) (co : Co C ρ mh s.heap) (ra : VRel C s.heap ρ o x) (pl : IsPart vl lo) (pu : IsPart vu hi) (ps : IsPart vs st) :
    WP C A (subscriptTail value (.Slice el eu es p) x (.ref s.heap.objs.size)) (PostQ C ρ s Q) { s with heap := s.heap.push { cls := .type "slice", data := .fields #[vl, vu, vs] } } := by
  obtain ⟨us, hi', hlim, h⟩ := h
  obtain ⟨l, xs, rfl, hl, r⟩ := items_rel co hi' ra
  obtain ⟨ops, hops⟩ := slice_sub (l := el) (u := eu) (st := es) (p := p) (o := .ref l) (i := .ref s.heap.objs.size)
  have kp := up_push (h := s.heap) { cls := .type "slice", data := .fields #[vl, vu, vs] }
  have hsz : xs.toArray.size ≤ sizeLine := by rw [List.size_toArray, ← r.length]; exact lim_le hlim
  have main : ∀ {ws : List V}, st ≠ some 0 → Q (.list ws) mh → VAll C s.heap ρ ws (slicePick xs.toArray lo hi st).toList → WP C A (subscriptTail value (.Slice el eu es p) (.ref l) (.ref s.heap.objs.size)) (PostQ C ρ s Q) { s with heap := s.heap.push { cls := .type "slice", data := .fields #[vl, vu, vs] } } := by
    intro ws st0 q r'
    refine tail_any (Heap.IsList.typeIs (s := { s with heap := _ }) (hl.push _)) slot_list_getitem.lookup (wpAny_getItem_list_slice (hl.push _) (Heap.IsSliceOf.new ..) pl pu ps st0 ?_ hsz) hops
    have q' := rel_new (s := { s with heap := s.heap.push { cls := .type "slice", data := .fields #[vl, vu, vs] } }) (n := 0) (co.keepAll kp) (r'.keep (Keep.of_all kp).d)
    rw [Array.toArray_toList] at q'
    exact PostQ.grow q co (fun b o e => up_push _ b o (kp b o e)) q'
  rcases h with ⟨rfl, n1, n2, q⟩ | ⟨k, rfl, hk, q⟩
  · refine main (fun e => nomatch e) q ?_
    rw [slicePick_plain]
    have := r.cut lo hi
    rw [← cut_eq xs lo hi n1 n2] at this
    simpa using this
  · exact main (fun e => hk (Option.some.inj e)) q (by have := r.pick lo hi (some k); simpa [slicePick, pickL] using this)
theorem slice_ {value : Expr} {el eu es : Option Expr} {p : Pos} {o : V} {lo hi st : Option Int} {x vl vu vs : Value} (h : sliceW mh o lo hi st fun v => Q v mh) (co : Co C ρ mh s.heap) (ra : VRel C s.heap ρ o x) (pl : IsPart vl lo) (pu : IsPart vu hi) (ps : IsPart vs st) :
    WP C A (subscriptTail value (.Slice el eu es p) x (.ref s.heap.objs.size)) (PostQ C ρ s Q) { s with heap := s.heap.push { cls := .type "slice", data := .fields #[vl, vu, vs] } } := by
  cases o with
  | list l => exact slice_list h co ra pl pu ps
  | «mut» l => exact slice_list h co ra pl pu ps
  | bytes l =>
    obtain ⟨⟨rfl, h1, h2, h3⟩, h⟩ := h
    obtain ⟨t, rfl⟩ := ra; cases ps
    obtain ⟨ops, hops⟩ := slice_sub (l := el) (u := eu) (st := es) (p := p) (o := .bytes l.toArray t) (i := .ref s.heap.objs.size)
    refine tail_any (typeIs_bytes _ _ _) FB.slot_bytes_getitem.lookup (getItem_meets (typeIs_bytes _ _ _) (by decide) FB.slot_bytes_getitem FB.entry_bytes_getitem (FB.args_bytes_getitem_2 _ _) (KBc.meets_slice2 _ _ _ pl pu)
      ⟨Heap.IsSliceOf.new _ _ _ _, Nat.le_trans (KBc.size_picked_le _ _ _) (by rw [List.size_toArray]; exact lim_le h3), fun t' k => ?_⟩) hops
    rw [KBc.picked_eq, List.size_toArray, cut_eq _ _ _ h1 h2]
    exact PostQ.grow h co (up_push _) (.bytes _ _)
  | _ => exact h.elim
end
end Mine
end
section
open PySem PySem.Calls PySem.W PyProof.Rows PySem.SeqAt
set_option maxRecDepth 100000
set_option linter.unusedVariables false
set_option linter.unusedSectionVars false
namespace Mine
/-! what a sorting's tree of questions gives, if a strict order answers -/
noncomputable def ev {α : Type} (n : Nat) (R : Nat → Nat → Bool) : KasT α → (α → Prop) → Prop
  | .ret a, Q => Q a
  | .ask i j k, Q => (i < n ∧ j < n) ∧ ev n R (k (R i j)) Q
theorem ev_bind {α β : Type} {n : Nat} {R : Nat → Nat → Bool} {f : α → KasT β} {Q : β → Prop} : ∀ t : KasT α, ev n R t (fun a => ev n R (f a) Q) → ev n R (t.bind f) Q
  | .ret _, h => h
  | .ask i j k, h => ⟨h.1, ev_bind (k (R i j)) h.2⟩
theorem ev_mono {α : Type} {n : Nat} {R : Nat → Nat → Bool} {Q Q' : α → Prop} (hq : ∀ a, Q a → Q' a) : ∀ t : KasT α, ev n R t Q → ev n R t Q'
  | .ret a, h => hq a h
  | .ask i j k, h => ⟨h.1, ev_mono hq (k (R i j)) h.2⟩
theorem ev_wp {α : Type} {n : Nat} {R : Nat → Nat → Bool} {cmp : Nat → Nat → (Bool → Shared → Prop) → Shared → Prop} {I : Shared → Prop} (hc : ∀ i j C s, i < n → j < n → I s → (∀ s', I s' → C (R i j) s') → cmp i j C s) {G : α → Shared → Prop} :
    ∀ (t : KasT α) {Q : α → Prop} {s : Shared}, ev n R t Q → I s → (∀ a s', Q a → I s' → G a s') → t.kasWp cmp G s
  | .ret a, _, s, h, hi, g => g a s h hi
  | .ask i j k, _, s, h, hi, g => hc i j _ s h.1.1 h.1.2 hi fun s' hi' => ev_wp hc (k (R i j)) h.2 hi' g
structure SOrd (n : Nat) (R : Nat → Nat → Bool) : Prop where
  tr : ∀ a b c, R a b = true → R b c = true → R a c = true
  tot : ∀ a b, a < n → b < n → a ≠ b → R a b = false → R b a = true
  irr : ∀ a b, R a b = true → R b a = true → False
noncomputable abbrev gt (p : Array Nat) (i : Nat) : Nat := p.getD i 0
theorem gt_eq (p : Array Nat) (i : Nat) : gt p i = (p[i]?).getD 0 := by simp [gt]
structure Pm (n : Nat) (p : Array Nat) : Prop where
  perm : p.toList.Perm (List.range n)
theorem Pm.sz {n : Nat} {p : Array Nat} (h : Pm n p) : p.size = n := by
  have := h.perm.length_eq
  rwa [List.length_range, Array.length_toList] at this
theorem Pm.at {n : Nat} {p : Array Nat} (h : Pm n p) {i : Nat} (hi : i < n) : ∃ hl : i < p.toList.length, gt p i = p.toList[i] := by
  have hs := h.sz
  refine ⟨by rw [Array.length_toList]; omega, ?_⟩
  simp [gt, Array.getD, show i < p.size by omega]
theorem Pm.lt {n : Nat} {p : Array Nat} (h : Pm n p) {i : Nat} (hi : i < n) : gt p i < n := by
  obtain ⟨hl, e⟩ := h.at hi
  rw [e]
  exact List.mem_range.mp (h.perm.mem_iff.mp (List.getElem_mem hl))
theorem Pm.inj {n : Nat} {p : Array Nat} (h : Pm n p) {i j : Nat} (hi : i < n) (hj : j < n) (ne : i ≠ j) : gt p i ≠ gt p j := by
  obtain ⟨h1, e1⟩ := h.at hi
  obtain ⟨h2, e2⟩ := h.at hj
  rw [e1, e2]
  have nd := List.pairwise_iff_getElem.mp (h.perm.nodup_iff.mpr List.nodup_range)
  rcases Nat.lt_or_gt_of_ne ne with q | q
  · exact nd i j h1 h2 q
  · exact (nd j i h2 h1 q).symm
theorem Pm.of {n : Nat} {p q : Array Nat} (h : Pm n p) (x : q.Perm p) : Pm n q := ⟨(Array.perm_iff_toList_perm.mp x).trans h.perm⟩
noncomputable def Asc (R : Nat → Nat → Bool) (p : Array Nat) (m : Nat) : Prop := ∀ i j, i < j → j < m → R (gt p i) (gt p j) = true
noncomputable def Dsc (R : Nat → Nat → Bool) (p : Array Nat) (m : Nat) : Prop := ∀ i j, i < j → j < m → R (gt p j) (gt p i) = true
section
variable {n : Nat} {R : Nat → Nat → Bool} (O : SOrd n R)
include O
theorem asc_succ {p : Array Nat} {m : Nat} (h1 : 1 ≤ m) (a : Asc R p m) (e : R (gt p (m - 1)) (gt p m) = true) : Asc R p (m + 1) := by
  intro i j hij hj
  by_cases hm : j < m
  · exact a i j hij hm
  · obtain rfl : j = m := by omega
    by_cases hi : i = j - 1
    · subst hi; exact e
    · exact O.tr _ _ _ (a i (j - 1) (by omega) (by omega)) e
theorem dsc_succ {p : Array Nat} {m : Nat} (h1 : 1 ≤ m) (a : Dsc R p m) (e : R (gt p m) (gt p (m - 1)) = true) : Dsc R p (m + 1) := by
  intro i j hij hj
  by_cases hm : j < m
  · exact a i j hij hm
  · obtain rfl : j = m := by omega
    by_cases hi : i = j - 1
    · subst hi; exact e
    · exact O.tr _ _ _ e (a i (j - 1) (by omega) (by omega))
theorem asc_ok {p : Array Nat} (hp : Pm n p) : ∀ f m, 1 ≤ m → m + f ≤ n → Asc R p m → ev n R (kas_asc p f m) fun m' => (m ≤ m' ∧ m' ≤ m + f) ∧ Asc R p m' ∧ (m' < m + f → R (gt p m') (gt p (m' - 1)) = true)
  | 0, m, h1, h2, a => ⟨⟨Nat.le_refl _, Nat.le_refl _⟩, a, fun h => absurd h (Nat.lt_irrefl _)⟩
  | f + 1, m, h1, h2, a => by
    refine ⟨⟨hp.lt (by omega), hp.lt (by omega)⟩, ?_⟩
    cases e : R (p.getD m 0) (p.getD (m - 1) 0) with
    | true => exact ⟨⟨Nat.le_refl _, Nat.le_add_right _ _⟩, a, fun _ => e⟩
    | false =>
      have e' := O.tot _ _ (hp.lt (by omega)) (hp.lt (by omega)) (hp.inj (by omega) (by omega) (by omega)) e
      exact ev_mono (fun m' ⟨⟨q1, q2⟩, q3, q4⟩ => ⟨⟨by omega, by omega⟩, q3, fun q => q4 (by omega)⟩) _ (asc_ok hp f (m + 1) (by omega) (by omega) (asc_succ O h1 a e'))
theorem desc_ok {p : Array Nat} (hp : Pm n p) : ∀ f m, 2 ≤ m → m + f ≤ n → Dsc R p m → ev n R (kas_desc f p m 0) fun r => r.1 = p ∧ (m ≤ r.2.1 ∧ r.2.1 ≤ m + f) ∧ r.2.2 = 0 ∧ Dsc R p r.2.1
  | 0, m, h1, h2, a => ⟨rfl, ⟨Nat.le_refl _, Nat.le_refl _⟩, rfl, a⟩
  | f + 1, m, h1, h2, a => by
    refine ⟨⟨hp.lt (by omega), hp.lt (by omega)⟩, ?_⟩
    cases e : R (p.getD m 0) (p.getD (m - 1) 0) with
    | true =>
      exact ev_mono (fun r ⟨q0, ⟨q1, q2⟩, q3, q4⟩ => ⟨q0, ⟨by omega, by omega⟩, q3, q4⟩) _ (desc_ok hp f (m + 1) (by omega) (by omega) (dsc_succ O (by omega) a e))
    | false =>
      have e' : R (p.getD (m - 1) 0) (p.getD m 0) = true := O.tot _ _ (hp.lt (by omega)) (hp.lt (by omega)) (hp.inj (by omega) (by omega) (by omega)) e
      refine ⟨⟨hp.lt (by omega), hp.lt (by omega)⟩, ?_⟩
      rw [e']
      exact ⟨rfl, ⟨Nat.le_refl _, Nat.le_add_right _ _⟩, rfl, a⟩
theorem rev_asc {p : Array Nat} (hp : Pm n p) {m : Nat} (hm : m ≤ n) (a : Dsc R p m) : Asc R (kas_rev p 0 m) m := by
  intro i j hij hj
  have g : ∀ k, k < m → gt (kas_rev p 0 m) k = gt p (m - 1 - k) := fun k hk => by
    rw [gt_eq, gt_eq]
    unfold kas_rev
    rw [getElem?_mirror_all (by rw [hp.sz]; exact hm), if_pos ⟨Nat.zero_le _, hk⟩, Nat.zero_add]
  rw [g i (by omega), g j hj]
  exact a _ _ (by omega) (by omega)
theorem rev_pm {p : Array Nat} (hp : Pm n p) (i j : Nat) : Pm n (kas_rev p i j) := hp.of (mirror_perm _ _ _ _)
theorem count_ok {p : Array Nat} (hp : Pm n p) (h2 : 2 ≤ n) : ev n R (kas_count n p) fun r => Pm n r.2 ∧ (1 ≤ r.1 ∧ r.1 ≤ n) ∧ Asc R r.2 r.1 := by
  unfold kas_count
  refine ev_bind _ (ev_mono ?_ _ (asc_ok O hp (n - 1) 1 (Nat.le_refl _) (by omega) fun i j q1 q2 => absurd q1 (by omega)))
  rintro m ⟨⟨q1, q2⟩, a, q3⟩
  by_cases e : m = n
  · subst e
    simp only [BEq.rfl, if_true]
    exact ⟨hp, ⟨q1, Nat.le_refl _⟩, a⟩
  · have e' : (m == n) = false := by simpa using e
    simp only [e', Bool.false_eq_true, if_false]
    by_cases h1 : m > 1
    · rw [if_pos h1]
      refine ⟨⟨hp.lt (by omega), hp.lt (by omega)⟩, ?_⟩
      have := a 0 (m - 1) (by omega) (by omega)
      have this : R (p.getD 0 0) (p.getD (m - 1) 0) = true := this
      rw [this]
      exact ⟨hp, ⟨q1, by show m ≤ n; omega⟩, a⟩
    · rw [if_neg h1]
      obtain rfl : m = 1 := by omega
      unfold kas_descPart
      have d2 : Dsc R p 2 := dsc_succ O (Nat.le_refl _) (fun i j w1 w2 => absurd w1 (by omega)) (q3 (by omega))
      refine ev_bind _ (ev_mono ?_ _ (desc_ok O hp (n - (1 + 1)) 2 (Nat.le_refl _) (by omega) d2))
      rintro ⟨p', m', q'⟩ ⟨rfl, ⟨w1, w2⟩, rfl, dd⟩
      dsimp only at w1 w2 dd ⊢
      rw [if_neg (by omega)]
      unfold kas_tail3
      have hr := rev_pm O hp 0 m'
      refine ev_bind _ (ev_mono ?_ _ (asc_ok O hr (n - m') m' (by omega) (by omega) (rev_asc O hp (by omega) dd)))
      rintro k ⟨⟨z1, z2⟩, za, _⟩
      exact ⟨hr, ⟨by show 1 ≤ k; omega, by show k ≤ n; omega⟩, za⟩
theorem place_ok {p : Array Nat} (hp : Pm n p) {k : Nat} (hk : k < n) (a : Asc R p k) : ∀ f l r, l ≤ r → r ≤ k → r - l ≤ f → (∀ i, i < l → R (gt p i) (gt p k) = true) → (∀ i, r ≤ i → i < k → R (gt p k) (gt p i) = true) →
    ev n R (kas_place p k f l r) fun m => m ≤ k ∧ (∀ i, i < m → R (gt p i) (gt p k) = true) ∧ ∀ i, m ≤ i → i < k → R (gt p k) (gt p i) = true
  | 0, l, r, h1, h2, h3, a1, a2 => ⟨by omega, a1, fun i q => a2 i (by omega)⟩
  | f + 1, l, r, h1, h2, h3, a1, a2 => by
    unfold kas_place
    by_cases e : l ≥ r
    · rw [if_pos e]
      exact ⟨by omega, a1, fun i q => a2 i (by omega)⟩
    · rw [if_neg e]
      refine ⟨⟨hp.lt hk, hp.lt (by omega)⟩, ?_⟩
      cases c : R (p.getD k 0) (p.getD ((l + r) / 2) 0) with
      | true =>
        refine place_ok hp hk a f l ((l + r) / 2) (by omega) (by omega) (by omega) a1 fun i q1 q2 => ?_
        by_cases w : i = (l + r) / 2
        · subst w; exact c
        · exact O.tr _ _ _ c (a _ _ (by omega) q2)
      | false =>
        have c' := O.tot _ _ (hp.lt hk) (hp.lt (by omega)) (hp.inj hk (by omega) (by omega)) c
        refine place_ok hp hk a f ((l + r) / 2 + 1) r (by omega) (by omega) (by omega) (fun i q => ?_) a2
        by_cases w : i = (l + r) / 2
        · subst w; exact c'
        · exact O.tr _ _ _ (a _ _ (by omega) (by omega)) c'
theorem bin_ok : ∀ f (p : Array Nat) k, Pm n p → k + f = n → 1 ≤ k → Asc R p k → ev n R (kas_bin f p k) fun p' => Pm n p' ∧ Asc R p' n
  | 0, p, k, hp, h1, _, a => ⟨hp, by rw [← h1]; exact a⟩
  | f + 1, p, k, hp, h1, h2, a => by
    unfold kas_bin
    refine ev_bind _ (ev_mono ?_ _ (place_ok O hp (k := k) (by omega) a k 0 k (Nat.zero_le _) (Nat.le_refl _) (by omega) (fun i q => nomatch q) (fun i q1 q2 => absurd q1 (by omega))))
    rintro l ⟨hl, b1, b2⟩
    have g : ∀ i, gt (bubble p k (k - l)) i = if i = l then gt p k else if l < i ∧ i ≤ k then gt p (i - 1) else gt p i := fun i => by
      rw [gt_eq, getElem?_bubble (by rw [hp.sz]; omega) (k - l) (by omega) i, show k - (k - l) = l by omega]
      repeat' split
      all_goals rw [gt_eq]
    refine bin_ok f _ (k + 1) (hp.of (bubble_perm _ _ _)) (by omega) (by omega) fun i j hij hj => ?_
    rw [g i, g j]
    by_cases q1 : i = l
    · rw [if_pos q1, if_neg (by omega), if_pos (by omega)]
      exact b2 _ (by omega) (by omega)
    · rw [if_neg q1]
      by_cases q2 : l < i
      · rw [if_pos (by omega), if_neg (by omega), if_pos (by omega)]
        exact a _ _ (by omega) (by omega)
      · rw [if_neg (by omega)]
        by_cases q3 : j = l
        · rw [if_pos q3]
          exact b1 _ (by omega)
        · rw [if_neg q3]
          by_cases q4 : l < j
          · rw [if_pos (by omega)]
            by_cases q5 : i = j - 1
            · omega
            · exact a _ _ (by omega) (by omega)
          · rw [if_neg (by omega)]
            exact a _ _ hij (by omega)
theorem sort_ok (h2 : 2 ≤ n) : ev n R (kas_sort n) fun p => Pm n p ∧ Asc R p n := by
  unfold kas_sort
  refine ev_bind _ (ev_mono ?_ _ (count_ok O ⟨by simp⟩ h2))
  rintro ⟨m, p⟩ ⟨hp, ⟨q1, q2⟩, a⟩
  dsimp only at hp q1 q2 a ⊢
  have e : max m 1 = m := Nat.max_eq_left q1
  by_cases h : m < n
  · rw [if_pos h, e]
    exact bin_ok O _ _ _ hp (by omega) q1 a
  · rw [if_neg h]
    obtain rfl : m = n := by omega
    exact ⟨hp, a⟩
end
end Mine
end
section
open PySem PySem.Calls PySem.W PyProof.Rows PySem.SeqAt
set_option maxRecDepth 100000
set_option linter.unusedVariables false
namespace Mine
section
variable {C : Cfg} {A : Around} {s : Shared}
theorem lt_keys {l b : Addr} {items items2 : Array Value} {xs ys : List Int} {Q : Bool → Shared → Prop} {E : Value → Shared → Prop} (hl : s.heap.IsList l items) (hb : s.heap.IsList b items2) (h1 : IntsAre items.toList xs) (h2 : IntsAre items2.toList ys) (hu : A.units < cLine)
    (h : Q (lexI false xs ys) s) : wpAny (model C.prog C.w) A (keyLt' oneType' (.ref l) (.ref b)) Q E s := by
  obtain ⟨⟨cls, dd, data, sl⟩, ho, hc, n, hd⟩ := id hl
  obtain ⟨⟨cls2, dd2, data2, sl2⟩, ho2, hc2, n2, hd2⟩ := id hb
  simp only at hc hd hc2 hd2
  subst hc hd hc2 hd2
  rw [keyLt'_oneType, oneLt'_eq]
  simp only [if_true]
  refine wpAny_bind (wpAny_cRoomFor hu ?_)
  refine wpAny_bind (wpAny_callSpecialIfBound?_slot ⟨_, ho, rfl⟩ PySem.F.slot_list_lt (call_meets PySem.F.slot_list_lt ⟨_, ho, rfl⟩ PySem.F.entry_list_lt (PySem.F.args_list_lt_2 _ _) (list_lt l b items items2 n n2 dd dd2 sl sl2 xs ys h1 h2) ⟨ho, ho2, ?_⟩))
  exact wpAny_truthy_bool h
theorem lsort {a : Addr} {n : Nat} {vs : List Value} {R : Nat → Nat → Bool} {P : PySem.Fin → Shared → Prop} {E : Value → Shared → Prop} (ho : s.heap.get? a = some (seqObj "list" vs.toArray n)) (h2 : 2 ≤ vs.length) (h64 : vs.length < 64) (O : SOrd vs.length R)
    (hT : ∀ h, (∀ b o, b ≠ a → s.heap.get? b = some o → h.get? b = some o) → ∀ v ∈ vs, Looks (model C.prog C.w) h (typeOf v) (.type "list"))
    (hc : ∀ h, (∀ b o, b ≠ a → s.heap.get? b = some o → h.get? b = some o) → ∀ i j Q, i < vs.length → j < vs.length → Q (R i j) { s with heap := h } → kas_ask C.prog C.w A oneType' vs i j Q { s with heap := h })
    (h : ∀ p h' c, Pm vs.length p → Asc R p vs.length → (∀ b o, b ≠ a → s.heap.get? b = some o → h'.get? b = some o) → h'.get? a = some (seqObj "list" (List.toArray (p.toList.map fun i => vs.getD i Value.none)) c) → P (.done (.ret .none)) { s with heap := h' }) :
    wpAny (model C.prog C.w) A (Builtin.«list.sort» ⟨[.ref a], []⟩) P E s := by
  have s1 := Heap.SameBut.update s.heap a (Obj.mapSeq fun _ => (#[] : Array Value))
  obtain ⟨e1, ho1⟩ : ∃ e1, (s.heap.update a (Obj.mapSeq fun _ => (#[] : Array Value))).get? a = some (seqObj "list" #[] e1) := ⟨_, get?_update_seq ho fun _ => #[]⟩
  have up3 : ∀ b o, b ≠ a → s.heap.get? b = some o → (((s.heap.update a (Obj.mapSeq fun _ => (#[] : Array Value))).push (seqObj "tuple" vs.toArray 0)).push (seqObj "list" #[] 0)).get? b = some o := fun b o nb e =>
    Heap.get?_push_of_some _ (Heap.get?_push_of_some _ ((s1.2 b nb).trans e))
  have ho3 : (((s.heap.update a (Obj.mapSeq fun _ => (#[] : Array Value))).push (seqObj "tuple" vs.toArray 0)).push (seqObj "list" #[] 0)).get? a = some (seqObj "list" #[] e1) := Heap.get?_push_of_some _ (Heap.get?_push_of_some _ ho1)
  rw [list_sort_plain]
  refine wpAny_bind (listItems_at ho rfl ?_)
  refine wpAny_bind (listUpdate_at ho rfl ?_ (by rw [List.size_toArray, sizeLine_eq]; omega) (Nat.zero_le _))
  refine wpAny_bind (seqEpoch_at ho1 rfl ?_)
  refine wpAny_bind (wpAny_newTuple ?_ (by show vs.length ≤ _; rw [sizeLine_eq]; omega))
  refine wpAny_bind (wpAny_newList ?_ (Nat.zero_le _))
  refine wpAny_holding ?_
  show wpAny (model C.prog C.w) A _ P E { s with heap := ((s.heap.update a (Obj.mapSeq fun _ => (#[] : Array Value))).push (seqObj "tuple" vs.toArray 0)).push (seqObj "list" #[] 0) }
  generalize ((s.heap.update a (Obj.mapSeq fun _ => (#[] : Array Value))).push (seqObj "tuple" vs.toArray 0)).push (seqObj "list" #[] 0) = h3 at up3 ho3 ⊢
  dsimp only
  have hn2 : ¬ vs.toArray.size < 2 := by rw [List.size_toArray]; omega
  rw [if_neg hn2, if_neg hn2]
  refine wpAny_bind (kas_kind h2 (hT h3 up3) (by decide) (by decide) ?_)
  have est : SortSt.mk' oneType' (vs.toArray.zip vs.toArray) #[] 7 none = kas_st oneType' (pairsOf vs) (List.toArray (List.range vs.length)) := by
    have e := kas_range (pairsOf vs)
    rw [pairsOf_size] at e
    show SortSt.mk' oneType' (pairsOf vs) #[] 7 none = SortSt.mk' oneType' ((List.toArray (List.range vs.length)).map (kas_item (pairsOf vs))) #[] 7 none
    rw [e]
  have ask : (kas_sort vs.length).kasWp (kas_ask C.prog C.w A oneType' vs) (fun p s' => (Pm vs.length p ∧ Asc R p vs.length) ∧ s' = { s with heap := h3 }) { s with heap := h3 } :=
    ev_wp (I := fun s' => s' = { s with heap := h3 }) (fun i j Q s' hi hj e k => by subst e; exact hc h3 up3 i j Q hi hj (k _ rfl)) _ (sort_ok O h2) rfl fun p s' q e => ⟨q, e⟩
  rw [kas_ask_eq] at ask
  have run := kas_runs (E := E) (Q := fun _ st' s' => ∃ p : Array Nat, p.size = vs.length ∧ arrOf st' = p.map (kas_item (pairsOf vs)) ∧ failedOf st' = none ∧ (Pm vs.length p ∧ Asc R p vs.length) ∧ s' = { s with heap := h3 })
    h2 h64 (fun p' st' s' a1 a2 a3 a4 => ⟨p', a1, a2, a3, a4⟩) ask
  rw [← est] at run
  refine wpAny_bind (wpAny_mono run ?_ fun _ _ e => e)
  rintro ⟨⟨⟩, st'⟩ s' ⟨p, hp, har, hf, ⟨hpm, hasc⟩, rfl⟩
  dsimp only
  have hout : (arrOf st').map (·.2) = List.toArray (p.toList.map fun i => vs.getD i Value.none) := by
    apply Array.toList_inj.mp
    rw [har, Array.map_map, Array.toList_map]
    exact List.map_congr_left fun i _ => by show (kas_item (pairsOf vs) i).2 = _; rw [kas_item_eq]
  have hsz : (List.toArray (p.toList.map fun i => vs.getD i Value.none)).size = vs.length := by rw [List.size_toArray, List.length_map, Array.length_toList, hp]
  rw [hout]
  have s2 := Heap.SameBut.update h3 a (Obj.mapSeq fun _ => List.toArray (p.toList.map fun i => vs.getD i Value.none))
  obtain ⟨c2, hc2⟩ : ∃ c2, (h3.update a (Obj.mapSeq fun _ => List.toArray (p.toList.map fun i => vs.getD i Value.none))).get? a = some (seqObj "list" (List.toArray (p.toList.map fun i => vs.getD i Value.none)) c2) := ⟨_, get?_update_seq ho3 fun _ => List.toArray (p.toList.map fun i => vs.getD i Value.none)⟩
  refine wpAny_bind (seqEpoch_at ho3 rfl ?_)
  refine wpAny_bind (listUpdate_at ho3 rfl ?_ (Nat.zero_le _) (Nat.le_trans (Nat.le_of_eq hsz) (by rw [sizeLine_eq]; omega)))
  rw [hf]
  simp only [bne_self_eq_false, Bool.false_eq_true, if_false]
  exact wpAny_pure (h p _ c2 hpm hasc (fun b o nb e => (s2.2 b nb).trans (up3 b o nb e)) hc2)
theorem sorted_lists {l : Addr} {vs : List Value} {R : Nat → Nat → Bool} {Q : Value → Shared → Prop} {E : Value → Shared → Prop} (hl : s.heap.IsList l vs.toArray) (h2 : 2 ≤ vs.length) (h64 : vs.length < 64) (O : SOrd vs.length R)
    (hT : ∀ h, (∀ b o, s.heap.get? b = some o → h.get? b = some o) → ∀ v ∈ vs, Looks (model C.prog C.w) h (typeOf v) (.type "list"))
    (hc : ∀ h, (∀ b o, s.heap.get? b = some o → h.get? b = some o) → ∀ i j Q, i < vs.length → j < vs.length → Q (R i j) { s with heap := h } → kas_ask C.prog C.w A.in1.in1 oneType' vs i j Q { s with heap := h })
    (h : ∀ p h' c, Pm vs.length p → Asc R p vs.length → (∀ b o, s.heap.get? b = some o → h'.get? b = some o) → h'.get? (s.heap.objs.size + 1) = some (seqObj "list" (List.toArray (p.toList.map fun i => vs.getD i Value.none)) c) → Q (.ref (s.heap.objs.size + 1)) { s with heap := h' }) :
    wpAny (model C.prog C.w) A (call (.builtin "sorted") [.ref l]) Q E s := by
  refine Calls.call_function_entry kind_sorted plain_sorted entry_sorted (args_sorted1 _) ?_
  unfold Builtin.«sorted»
  refine wpAny_bind (m := checkCount "sorted" 1 1 _) (wpAny_pure ?_)
  refine wpAny_bind (collect_list hl ?_ (by rw [sizeLine_eq]; omega))
  refine wpAny_bind (wpAny_newList ?_ (by rw [sizeLine_eq]; omega))
  have hsz : ((s.heap.push (seqObj "list" #[] 0)).update s.heap.objs.size (Obj.mapSeq (· ++ vs.toArray))).objs.size = s.heap.objs.size + 1 := by
    rw [Heap.size_update, size_push']
  have hoL : (((s.heap.push (seqObj "list" #[] 0)).update s.heap.objs.size (Obj.mapSeq (· ++ vs.toArray))).push (seqObj "list" vs.toArray 0)).get? (s.heap.objs.size + 1) = some (seqObj "list" vs.toArray 0) := by
    rw [← hsz]; exact Heap.get?_push_size _ rfl
  have keep : ∀ b o, s.heap.get? b = some o → (((s.heap.push (seqObj "list" #[] 0)).update s.heap.objs.size (Obj.mapSeq (· ++ vs.toArray))).push (seqObj "list" vs.toArray 0)).get? b = some o := fun b o q => by
    have hlt : b < s.heap.objs.size := Heap.lt_size q
    rw [Heap.get?_push_ne _ _ _ (by rw [hsz]; exact Nat.ne_of_lt (Nat.lt_succ_of_lt hlt)), Heap.get?_update_ne _ _ _ _ (Nat.ne_of_lt hlt), Heap.get?_push_ne _ _ _ (Nat.ne_of_lt hlt)]
    exact q
  have nb : ∀ b o, s.heap.get? b = some o → b ≠ s.heap.objs.size + 1 := fun b o e => Nat.ne_of_lt (Nat.lt_succ_of_lt (Heap.lt_size e))
  show wpAny _ _ _ _ _ { s with heap := ((s.heap.push (seqObj "list" #[] 0)).update s.heap.objs.size (Obj.mapSeq (· ++ vs.toArray))).push (seqObj "list" vs.toArray 0) }
  rw [hsz]
  refine wpAny_bind (wpAny_holding (wpAny_call_entry slot_list_sort ⟨_, hoL, rfl⟩ entry_list_sort ?body (args_list_sort _)))
  case body =>
    exact lsort (s := { s with heap := ((s.heap.push (seqObj "list" #[] 0)).update s.heap.objs.size (Obj.mapSeq (· ++ vs.toArray))).push (seqObj "list" vs.toArray 0) }) hoL h2 h64 O
      (fun h' k => hT h' fun b o e => k b o (nb b o e) (keep b o e)) (fun h' k => hc h' fun b o e => k b o (nb b o e) (keep b o e))
      fun p h' c a1 a2 a3 a4 => ⟨_, rfl, wpAny_pure ⟨_, rfl, h p h' c a1 a2 (fun b o e => a3 b o (nb b o e) (keep b o e)) a4⟩⟩
end
end Mine
end
section
open PySem PySem.Calls PySem.W PyProof.Rows PySem.SeqAt
open PySem.AutoSeq1 (wpAny_loadPart')
set_option maxRecDepth 100000
set_option linter.unusedVariables false
namespace Mine
inductive Prim where
  | len | abs | int | divmod | range | sum
  | bytes
  | sorted
deriving DecidableEq
noncomputable def Prim.val : Prim → Value
  | .len => .builtin "len"
  | .abs => .builtin "abs"
  | .int => .type "int"
  | .divmod => .builtin "divmod"
  | .range => .type "range"
  | .sum => .builtin "sum"
  | .bytes => .type "bytes"
  | .sorted => .builtin "sorted"
noncomputable def rngSize (a b c : Int) : Int := Builtin.Range.rangeSize a b c
noncomputable def arg1 (args : List V) (K : V → Prop) : Prop := match args with
  | [] => False
  | v :: r => (match r with
    | [] => K v
    | _ :: _ => False)
noncomputable def arg2 (args : List V) (K : V → V → Prop) : Prop := match args with
  | [] => False
  | v :: r => arg1 r (K v)
theorem arg1_inv {args : List V} {K : V → Prop} (h : arg1 args K) : ∃ v, args = [v] ∧ K v := by
  cases args with
  | nil => exact h.elim
  | cons v r =>
    cases r with
    | nil => exact ⟨v, rfl, h⟩
    | cons _ _ => exact h.elim
theorem arg2_inv {args : List V} {K : V → V → Prop} (h : arg2 args K) : ∃ v w, args = [v, w] ∧ K v w := by
  cases args with
  | nil => exact h.elim
  | cons v r => obtain ⟨w, rfl, h⟩ := arg1_inv h; exact ⟨v, w, rfl, h⟩
noncomputable def lenL (mh : MH) (v : V) (Q : V → Prop) : Prop := itemsW v mh fun vs => vs.length ≤ lim ∧ Q (.int vs.length)
noncomputable def lenW (mh : MH) (v : V) (Q : V → Prop) : Prop := match v with
  | .list l => lenL mh (.list l) Q
  | .mut l => lenL mh (.mut l) Q
  | .rng a b c => (0 < c ∧ c.natAbs < 2 ^ 40 ∧ a.natAbs < 2 ^ 40 ∧ b.natAbs < 2 ^ 40) ∧ Q (.int (rngSize a b c))
  | _ => False
noncomputable def pairV (p : Int × Int) : V := .list [.int p.1, .int p.2]
noncomputable def pLt (p q : Int × Int) : Prop := p.1 < q.1 ∨ (p.1 = q.1 ∧ p.2 < q.2)
noncomputable def primW (mh : MH) (f : Prim) (args : List V) (Q : V → Prop) : Prop :=
  match f with
  | .len => arg1 args fun v => lenW mh v Q
  | .abs => arg1 args fun v => intW v fun i => Q (.int i.natAbs)
  | .int => arg1 args fun v => intW v fun i => Q (.int i)
  | .divmod => arg2 args fun v w => intW v fun x => intW w fun y => (0 < y ∧ y.natAbs < big) ∧ Q (.tup [.int (x / y), .int (x % y)])
  | .range => (match args with
    | [] => False
    | v :: r => intW v fun n => (match r with
      | [] => Q (.rng 0 n 1)
      | w :: r => intW w fun b => (match r with
        | [] => Q (.rng n b 1)
        | u :: r => intW u fun c => (match r with
          | [] => (0 < c ∧ c.natAbs < 2 ^ 40) ∧ Q (.rng n b c)
          | _ :: _ => False))))
  | .sum => arg1 args fun v => itemsW v mh fun vs => ∃ ns, intsOf vs = some ns ∧ Q (.int ns.sum)
  | .bytes => arg1 args fun v => itemsW v mh fun vs => ∃ ns : List Int, intsOf vs = some ns ∧ ns.length ≤ lim ∧ (∀ n ∈ ns, 0 ≤ n ∧ n < 256) ∧ Q (.bytes (ns.map fun n => n.toNat.toUInt8))
  | .sorted => arg1 args fun v => itemsW v mh fun vs => ∃ ps : List (Int × Int), vs = ps.map pairV ∧ (2 ≤ ps.length ∧ ps.length < 64 ∧ ps.Nodup) ∧ ∀ qs : List (Int × Int), qs.Perm ps → qs.Pairwise pLt → Q (.list (qs.map pairV))
section
variable {C : Cfg} {A : Around} {ρ : List Addr} {mh : MH} {s : Shared} {Q : V → MH → Prop}
theorem rel_at {h' : Heap} {a : Addr} {vs : List V} {xs : Array Value} (co : Co C ρ mh s.heap) (ha : s.heap.objs.size ≤ a) (hl : h'.IsList a xs) (r : VAll C h' ρ vs xs.toList) : VRel C h' ρ (.list vs) (.ref a) :=
  .list (xs := xs.toList) (by rw [Array.toArray_toList]; exact hl) (co.fresh ha) r
theorem ints_rel {h : Heap} : ∀ {xs : List Value} {ns : List Int}, IntsAre xs ns → VAll C h ρ (ns.map .int) xs
  | _, _, .nil => .nil
  | _, _, .cons n t r => .cons (.int n t) (ints_rel r)
theorem sum_ {l : Addr} {xs : List Value} {ns : List Int} (q : Q (.int ns.sum) mh) (co : Co C ρ mh s.heap) (hh : A.handled = none) (hl : s.heap.IsList l xs.toArray) (hi : IntsAre xs ns) : WP C A (call (.builtin "sum") [.ref l]) (PostQ C ρ s Q) s := by
  obtain ⟨ys, hx⟩ := hi.allInts.items
  have hn : numsOf xs.toArray.toList = ns := hi.numsOf
  rw [hx] at hl hn
  rw [nums_intItems] at hn
  refine sum_intListG hh hl fun h' tk t' hk => ?_
  rw [preSum_eq, List.take_of_length_le (by simp), hn]
  exact PostQ.grow q co hk (.int _ _)
theorem len_list {v : V} {x : Value} (h : lenL mh v fun u => Q u mh) (co : Co C ρ mh s.heap) (ra : VRel C s.heap ρ v x) : WP C A (call (.builtin "len") [x]) (PostQ C ρ s Q) s := by
  obtain ⟨vs, hi, hz, h⟩ := h
  obtain ⟨l, ys, rfl, hl, q⟩ := items_rel co hi ra
  have hz' : vs.length ≤ 1048576 := hz
  refine call_len_list hl (by rw [List.size_toArray, ← q.length]; omega) ?_
  rw [List.size_toArray, ← q.length]
  exact PostQ.tok h co (.int _ _)
theorem rng_le {a b c : Int} (hz : 0 < c ∧ c.natAbs < 2 ^ 40 ∧ a.natAbs < 2 ^ 40 ∧ b.natAbs < 2 ^ 40) : 0 ≤ rngSize a b c ∧ rngSize a b c ≤ 2 ^ 42 := by
  unfold rngSize Builtin.Range.rangeSize
  rw [if_pos hz.1]
  split
  · have := Int.ediv_nonneg (a := b - a - 1) (b := c) (by omega) (by omega)
    have := Int.ediv_le_self (a := b - a - 1) c (by omega)
    omega
  · omega
theorem len_ {v : V} {x : Value} (h : lenW mh v fun u => Q u mh) (co : Co C ρ mh s.heap) (ra : VRel C s.heap ρ v x) : WP C A (call (.builtin "len") [x]) (PostQ C ρ s Q) s := by
  cases v with
  | list l => exact len_list h co ra
  | «mut» l => exact len_list h co ra
  | rng a b c =>
    obtain ⟨r, t, u, w, rfl, hr, hn⟩ := ra
    have hb := rng_le h.1
    obtain ⟨n, hn⟩ := Int.eq_ofNat_of_zero_le hb.1
    refine call_len_range hr (n := n) hn (by omega) ?_
    rw [← hn]
    exact PostQ.tok h.2 co (.int _ _)
  | _ => exact h.elim
theorem range_ {x y z : Int} {t u v : Tok} {tk : Nat} (h : Q (.rng x y z) mh) (co : Co C ρ mh s.heap) : PostQ C ρ s Q (.ref s.heap.objs.size) { s with heap := s.heap.push { cls := .type "range", data := .fields #[.int x t, .int y u, .int z v] }, toks := tk } :=
  PostQ.grow h co (up_push _) (.rng (IsRange.new ..) (co.fresh (Nat.le_refl _)))
theorem lex_pair {a b c d : Int} : lexI false [a, b] [c, d] = true ↔ pLt (a, b) (c, d) := by
  unfold pLt
  simp only [lexI]
  split
  · rename_i e
    subst e
    split
    · rename_i e; subst e; simp
    · simp
  · rename_i e
    simp [e]
theorem pairs_idx {α : Type} (d : α) (ps : List α) : (List.range ps.length).map (fun i => ps.getD i d) = ps := by
  refine List.ext_getElem (by simp) fun i h1 h2 => ?_
  simp [h2]
theorem sorted_pairs {l : Addr} {xs : List Value} {ps : List (Int × Int)} (co : Co C ρ mh s.heap) (hl : s.heap.IsList l xs.toArray) (r : VAll C s.heap ρ (ps.map pairV) xs) (h2 : 2 ≤ ps.length) (h64 : ps.length < 64) (nd : ps.Nodup) (hu : A.units + 20 < cLine)
    (h : ∀ qs : List (Int × Int), qs.Perm ps → qs.Pairwise pLt → Q (.list (qs.map pairV)) mh) : WP C A (call (.builtin "sorted") [.ref l]) (PostQ C ρ s Q) s := by
  have hn : xs.length = ps.length := by rw [← r.length, List.length_map]
  have hg : ∀ i, i < ps.length → ∃ a ys, xs.getD i Value.none = .ref a ∧ s.heap.IsList a (List.toArray ys) ∧ IntsAre ys [(ps.getD i (0, 0)).1, (ps.getD i (0, 0)).2] ∧ VRel C s.heap ρ (pairV (ps.getD i (0, 0))) (xs.getD i Value.none) := fun i hi => by
    obtain ⟨w, e, q⟩ := r.get (n := i) (v := pairV (ps.getD i (0, 0))) (by rw [List.getElem?_map, List.getElem?_eq_getElem hi]; simp [hi])
    have e' : xs.getD i Value.none = w := by rw [List.getD_eq_getElem?_getD, e]; rfl
    have q0 := q
    obtain ⟨a, ys, rfl, hl', _, q⟩ := q
    exact ⟨a, ys, e', hl', intsOf_rel rfl q, by rw [e']; exact q0⟩
  have O : SOrd xs.length (fun i j => lexI false [(ps.getD i (0, 0)).1, (ps.getD i (0, 0)).2] [(ps.getD j (0, 0)).1, (ps.getD j (0, 0)).2]) := by
    refine ⟨fun a b c q1 q2 => ?_, fun a b ha hb ne q => ?_, fun a b q1 q2 => ?_⟩
    · have q1 := lex_pair.mp q1
      have q2 := lex_pair.mp q2
      refine lex_pair.mpr ?_
      unfold pLt at q1 q2 ⊢
      dsimp only at q1 q2 ⊢
      omega
    · have q' : ¬ pLt ((ps.getD a (0, 0)).1, (ps.getD a (0, 0)).2) ((ps.getD b (0, 0)).1, (ps.getD b (0, 0)).2) := fun w => by
        have q : lexI false [(ps.getD a (0, 0)).1, (ps.getD a (0, 0)).2] [(ps.getD b (0, 0)).1, (ps.getD b (0, 0)).2] = false := q
        rw [lex_pair.mpr w] at q
        cases q
      refine lex_pair.mpr ?_
      have ne' : ps.getD a (0, 0) ≠ ps.getD b (0, 0) := by
        rw [hn] at ha hb
        have p := List.pairwise_iff_getElem.mp nd
        have e1 : ps.getD a (0, 0) = ps[a] := by simp [ha]
        have e2 : ps.getD b (0, 0) = ps[b] := by simp [hb]
        rw [e1, e2]
        rcases Nat.lt_or_gt_of_ne ne with w | w
        · exact p a b ha hb w
        · exact (p b a hb ha w).symm
      have : (ps.getD a (0, 0)).1 ≠ (ps.getD b (0, 0)).1 ∨ (ps.getD a (0, 0)).2 ≠ (ps.getD b (0, 0)).2 := by
        by_cases w : (ps.getD a (0, 0)).1 = (ps.getD b (0, 0)).1
        · exact .inr fun w2 => ne' (Prod.ext w w2)
        · exact .inl w
      unfold pLt at *
      dsimp only at *
      omega
    · have q1 := lex_pair.mp q1
      have q2 := lex_pair.mp q2
      unfold pLt at q1 q2
      dsimp only at q1 q2
      omega
  refine sorted_lists hl (by omega) (by omega) O (fun h' k v hv => ?_) (fun h' k i j Q' hi hj q => ?_) fun p h' c hp ha k ho => ?_
  · obtain ⟨i, hi, rfl⟩ := List.getElem_of_mem hv
    obtain ⟨a, ys, e, hl', _⟩ := hg i (by omega)
    rw [List.getD_eq_getElem?_getD, List.getElem?_eq_getElem hi, Option.getD_some] at e
    obtain ⟨o, ho, hc, _⟩ := hl'
    rw [e]
    exact fun A Q E s' k' q => wpAny_typeOf (T := "list") (v := .ref a) ⟨o, k' _ _ (k _ _ ho), hc⟩ q
  · obtain ⟨a, ys, e, ⟨o, ho, hr⟩, hi', _⟩ := hg i (by omega)
    obtain ⟨a2, ys2, e2, ⟨o2, ho2, hr2⟩, hi2, _⟩ := hg j (by omega)
    show wpAny _ _ (keyLt' oneType' (xs.getD i Value.none) (xs.getD j Value.none)) _ _ _
    rw [e, e2]
    exact lt_keys ⟨o, k _ _ ho, hr⟩ ⟨o2, k _ _ ho2, hr2⟩ hi' hi2 (by show A.units + 1 + 1 < _; omega) q
  · have hall : ∀ L : List Nat, (∀ i ∈ L, i < ps.length) → VAll C h' ρ ((L.map fun i => ps.getD i (0, 0)).map pairV) (L.map fun i => xs.getD i Value.none) := by
      intro L
      induction L with
      | nil => exact fun _ => .nil
      | cons i L ih => exact fun hL => .cons ((let ⟨_, _, _, _, _, q⟩ := hg i (hL i (.head _)); q).keep (Keep.of_all k).d) (ih fun j hj => hL j (.tail _ hj))
    refine PostQ.grow (h (p.toList.map fun i => ps.getD i (0, 0)) ?_ ?_) co k (rel_at co (Nat.le_succ _) ⟨_, ho, rfl, c, rfl⟩ (hall _ fun i hi => ?_))
    · have := hp.perm.map fun i => ps.getD i (0, 0)
      rwa [hn, pairs_idx] at this
    · rw [List.pairwise_map]
      refine List.pairwise_iff_getElem.mpr fun i j hi hj hij => ?_
      rw [Array.length_toList] at hi hj
      have := ha i j hij (by rw [← hp.sz]; exact hj)
      have this := lex_pair.mp this
      simpa [gt, Array.getD, hi, hj] using this
    · have := List.mem_range.mp (hp.perm.mem_iff.mp hi)
      omega
theorem prim_ {f : Prim} {args : List V} {xs : List Value} (h : primW mh f args fun v => Q v mh) (co : Co C ρ mh s.heap) (r : VAll C s.heap ρ args xs) (hh : A.handled = none) (hu : A.units + 20 < cLine) :
    WP C A (call f.val xs) (PostQ C ρ s Q) s := by
  cases f with
  | len =>
    obtain ⟨v, rfl, h⟩ := arg1_inv h
    obtain ⟨x, _, rfl, ra, rfl⟩ := r
    exact len_ h co ra
  | abs =>
    obtain ⟨v, rfl, h⟩ := arg1_inv h
    obtain ⟨x, _, rfl, ra, rfl⟩ := r
    obtain ⟨i, rfl, h⟩ := intW_inv h
    obtain ⟨t, rfl⟩ := ra
    refine PyProof.Rows.call_abs_int fun u tk => ?_
    have : (if i < 0 then -i else i) = (i.natAbs : Int) := by split <;> omega
    rw [this]
    exact PostQ.tok h co (.int _ _)
  | int =>
    obtain ⟨v, rfl, h⟩ := arg1_inv h
    obtain ⟨x, _, rfl, ra, rfl⟩ := r
    obtain ⟨i, rfl, h⟩ := intW_inv h
    obtain ⟨t, rfl⟩ := ra
    exact call_int_int (PostQ.pure h co (.int _ _))
  | divmod =>
    obtain ⟨v, w, rfl, h⟩ := arg2_inv h
    obtain ⟨x, _, rfl, ra, y, _, rfl, rb, rfl⟩ := r
    obtain ⟨i, rfl, h⟩ := intW_inv h
    obtain ⟨j, rfl, hz, h⟩ := intW_inv h
    obtain ⟨t, rfl⟩ := ra; obtain ⟨u, rfl⟩ := rb
    refine divmod_int (by omega) ?_ (.inl (PyProof.noPylong_of_log2 (Nat.lt_of_lt_of_le (big_log hz.1 hz.2) (by decide))))
    rw [Int.fdiv_eq_ediv_of_nonneg _ (by omega), Int.fmod_eq_emod_of_nonneg _ (by omega)]
    exact PostQ.grow h co (up_push _) (rel_newT co (xs := [_, _]) (.cons (.int _ _) (.cons (.int _ _) .nil)))
  | range =>
    cases args with
    | nil => exact h.elim
    | cons v r1 =>
      obtain ⟨x, ys, rfl, ra, r⟩ := r
      obtain ⟨i, rfl, h⟩ := intW_inv h
      obtain ⟨t, rfl⟩ := ra
      cases r1 with
      | nil => cases r; exact call_range_1 (range_ h co)
      | cons w r1 =>
        obtain ⟨y, zs, rfl, rb, r⟩ := r
        obtain ⟨j, rfl, h⟩ := intW_inv h
        obtain ⟨u, rfl⟩ := rb
        cases r1 with
        | nil => cases r; exact call_range_2 (range_ h co)
        | cons z r1 =>
          obtain ⟨z, _, rfl, rc, r⟩ := r
          obtain ⟨c, rfl, h⟩ := intW_inv h
          obtain ⟨w, rfl⟩ := rc
          cases r1 with
          | nil => cases r; exact call_range_3 (by omega) (range_ h.2 co) (.inl (PyProof.noPylong_of_log2 (Nat.lt_of_lt_of_le (big_log h.1.1 (Nat.lt_trans h.1.2 (by decide))) (by decide))))
          | cons _ _ => exact h.elim
  | sum =>
    obtain ⟨v, rfl, vs, hi, ns, hn, h⟩ := arg1_inv h
    obtain ⟨x, _, rfl, ra, rfl⟩ := r
    obtain ⟨l, ys, rfl, hl, q⟩ := items_rel co hi ra
    exact sum_ h co hh hl (intsOf_rel hn q)
  | bytes =>
    obtain ⟨v, rfl, vs, hi, ns, hn, hz, hall, h⟩ := arg1_inv h
    obtain ⟨x, _, rfl, ra, rfl⟩ := r
    obtain ⟨l, ys, rfl, hl, q⟩ := items_rel co hi ra
    have hI := intsOf_rel hn q
    refine call_bytes_ints hl hI hall (by rw [hI.length]; exact lim_le hz) hh fun h' t k hk => ?_
    exact PostQ.grow h co hk (.bytes _ _)
  | sorted =>
    obtain ⟨v, rfl, vs, hi, ps, rfl, hz, h⟩ := arg1_inv h
    obtain ⟨x, _, rfl, ra, rfl⟩ := r
    obtain ⟨l, ys, rfl, hl, q⟩ := items_rel co hi ra
    exact sorted_pairs co hl q hz.1 hz.2.1 hz.2.2 hu h
end
end Mine
end
section
open PySem PySem.Calls PySem.W PyProof.Rows PySem.SeqAt
set_option maxRecDepth 100000
set_option linter.unusedVariables false
namespace Mine
mutual
inductive ME where
  | const (v : V)
  | var (i : Nat)
  | glob (f : Nat)
  | bin (op : Operator) (l r : ME)
  | neg (e : ME)
  | cmp (op : CmpOp) (l r : ME)
  | ite (c : MC) (t e : ME)
  | list (es : List ME)
  | item (o i : ME)
  | slice (o l u s : ME)
  | prim (f : Prim) (es : List ME)
  | isBytes (e : ME)
  | app (o e : ME)
  | ins (o i e : ME)
  | call (f : ME) (es : List ME) (ks : List Str) (kes : List ME)
  | comp (caps : List Nat) (x : Nat) (it : ME) (ifs : List MC) (elt : ME)
  | comp2 (caps : List Nat) (x : Nat) (it : ME) (y : Nat) (it2 : ME)
inductive MC where
  | tst (e : ME)
  | not (c : MC)
  | bop (op : BoolOp) (cs : List MC)
  | cmp (op : CmpOp) (l r : ME)
end
inductive MS where
  | assign (x : Nat) (e : ME)
  | assignMut (x : Nat) (es : List ME)
  | assignTup (xs : List Nat) (fl : List Bool) (es : List ME)
  | unpack (xs : List Nat) (e : ME)
  | expr (e : ME)
  | ite (c : MC) (t e : List MS)
  | while (c : MC) (b : List MS)
  | for (x : Nat) (e : ME) (b : List MS)
  | ret (e : ME)
  | raise
noncomputable abbrev Loc := List (Option V)
noncomputable abbrev Tab := Nat → List V → List (Str × V) → MH → (V → MH → Prop) → Prop
noncomputable def iterItems (mh : MH) : V → Option (List V)
  | .list vs => some vs
  | .mut i => mh[i]?
  | .rng a b c => if Builtin.Range.small a b c then some ((List.range (rngSize a b c).toNat).map fun (i : Nat) => .int (a + (i : Int) * c)) else none
  | .bytes l => some (l.map fun c => .int (c.toNat : Int))
  | _ => none
noncomputable def notMut : V → Prop
  | .mut _ => False
  | _ => True
noncomputable def capGo (caps : List Nat) : Nat → Loc → Loc
  | _, [] => []
  | i, o :: r => (if caps.contains i then o else none) :: capGo caps (i + 1) r
noncomputable def capLoc (caps : List Nat) (x : Nat) (v : V) (loc : Loc) : Loc := (capGo caps 0 loc).set x (some v)
noncomputable def compW (tst : V → (Bool → Prop) → Prop) (el : V → (V → Prop) → Prop) (vs : List V) (K : List V → Prop) : Prop :=
  ∃ J : Nat → List V → Prop, J 0 [] ∧ (∀ i v out, vs[i]? = some v → J i out → tst v fun b => match b with
    | true => el v fun y => J (i + 1) (out ++ [y])
    | false => J (i + 1) out) ∧ ∀ out, J vs.length out → K out
noncomputable def comp2W (inn : V → (List V → Prop) → Prop) (vs : List V) (K : List V → Prop) : Prop :=
  ∃ J : Nat → List V → Prop, J 0 [] ∧ (∀ i v out, vs[i]? = some v → J i out → inn v fun us => out.length + us.length ≤ lim ∧ J (i + 1) (out ++ us)) ∧ ∀ out, J vs.length out → K out
noncomputable def varW (o : Option (Option V)) (K : V → Prop) : Prop := match o with
  | some q => (match q with
    | some v => K v
    | none => False)
  | none => False
noncomputable def stops (op : BoolOp) (t : Bool) : Bool := match op with
  | .And => !t
  | .Or => t
mutual
noncomputable def wpE (Γ : Tab) : ME → Loc → MH → (V → MH → Prop) → Prop
  | .const v, _, mh, Q => Q v mh
  | .var i, loc, mh, Q => varW loc[i]? fun v => Q v mh
  | .glob f, _, mh, Q => Q (.fn f) mh
  | .bin op l r, loc, mh, Q => wpE Γ l loc mh fun p m => wpE Γ r loc m fun q m => binW op m p q fun v => Q v m
  | .neg e, loc, mh, Q => wpE Γ e loc mh fun p m => intW p fun i => Q (.int (-i)) m
  | .cmp op l r, loc, mh, Q => wpE Γ l loc mh fun p m => wpE Γ r loc m fun q m => cmpW op m p q fun b => Q (.bool b) m
  | .ite c t e, loc, mh, Q => wpC Γ c loc mh fun b m => match b with
    | true => wpE Γ t loc m Q
    | false => wpE Γ e loc m Q
  | .list es, loc, mh, Q => wpEs Γ es loc mh fun vs m => vs.length ≤ lim ∧ Q (.list vs) m
  | .item o i, loc, mh, Q => wpE Γ o loc mh fun p m => wpE Γ i loc m fun q m => itemW m p q fun v => Q v m
  | .slice o l u s, loc, mh, Q => wpE Γ o loc mh fun p m => wpE Γ l loc m fun a m => wpE Γ u loc m fun b m => wpE Γ s loc m fun c m => partW a fun a => partW b fun b => partW c fun c => sliceW m p a b c fun v => Q v m
  | .prim f es, loc, mh, Q => wpEs Γ es loc mh fun vs m => primW m f vs fun v => Q v m
  | .isBytes e, loc, mh, Q => wpE Γ e loc mh fun v m => bytesW v fun _ => Q (.bool true) m
  | .app o e, loc, mh, Q => wpE Γ o loc mh fun p m => mutW p fun i => wpE Γ e loc m fun q m => ∃ vs, m[i]? = some vs ∧ (pureV q ∧ vs.length ≤ lim) ∧ Q .none (m.set i (vs ++ [q]))
  | .ins o k e, loc, mh, Q => wpE Γ o loc mh fun p m => mutW p fun i => wpE Γ k loc m fun j m => intW j fun n => wpE Γ e loc m fun q m => ∃ vs, m[i]? = some vs ∧ (pureV q ∧ vs.length ≤ lim ∧ 0 ≤ n ∧ n ≤ vs.length) ∧ Q .none (m.set i (vs.take n.toNat ++ q :: vs.drop n.toNat))
  | .call f es ks kes, loc, mh, Q => wpE Γ f loc mh fun p m => fnW p fun g => wpEs Γ es loc m fun q m => wpEs Γ kes loc m fun r m => r.length = ks.length ∧ Γ g q (ks.zip r) m Q
  | .comp caps x it ifs elt, loc, mh, Q => wpE Γ it loc mh fun p m => ∃ vs, iterItems m p = some vs ∧ vs.length ≤ lim ∧
      compW (fun v K => wpI Γ ifs (capLoc caps x v loc) m fun b m' => m' = m ∧ K b) (fun v K => wpE Γ elt (capLoc caps x v loc) m fun y m' => m' = m ∧ K y) vs fun ys => Q (.list ys) m
  | .comp2 caps x it _ it2, loc, mh, Q => wpE Γ it loc mh fun p m => ∃ vs, iterItems m p = some vs ∧
      comp2W (fun v K => wpE Γ it2 (capLoc caps x v loc) m fun q m' => m' = m ∧ ∃ us, iterItems m q = some us ∧ K us) vs fun ys => Q (.list ys) m
noncomputable def wpEs (Γ : Tab) : List ME → Loc → MH → (List V → MH → Prop) → Prop
  | [], _, mh, Q => Q [] mh
  | e :: es, loc, mh, Q => wpE Γ e loc mh fun v m => wpEs Γ es loc m fun vs m => Q (v :: vs) m
noncomputable def wpC (Γ : Tab) : MC → Loc → MH → (Bool → MH → Prop) → Prop
  | .tst e, loc, mh, Q => wpE Γ e loc mh fun v m => truthW v fun b => Q b m
  | .not c, loc, mh, Q => wpC Γ c loc mh fun b m => Q (!b) m
  | .bop op cs, loc, mh, Q => wpCB Γ op cs loc mh Q
  | .cmp op l r, loc, mh, Q => wpE Γ l loc mh fun p m => wpE Γ r loc m fun q m => cmpW op m p q fun b => Q b m
noncomputable def wpCB (Γ : Tab) (op : BoolOp) : List MC → Loc → MH → (Bool → MH → Prop) → Prop
  | [], _, mh, Q => Q (stops op false) mh
  | c :: cs, loc, mh, Q => wpC Γ c loc mh fun t m => match stops op t with
    | true => Q t m
    | false => wpCB Γ op cs loc m Q
noncomputable def wpI (Γ : Tab) : List MC → Loc → MH → (Bool → MH → Prop) → Prop
  | [], _, mh, Q => Q true mh
  | c :: cs, loc, mh, Q => wpC Γ c loc mh fun t m => match t with
    | true => wpI Γ cs loc m Q
    | false => Q false m
end
inductive Fl where
  | next
  | ret (v : V)
noncomputable def thenW (K : Loc → MH → Prop) (Q : Fl → Loc → MH → Prop) : Fl → Loc → MH → Prop
  | .next, l, m => K l m
  | .ret v, l, m => Q (.ret v) l m
noncomputable def whileW (c : Loc → MH → (Bool → MH → Prop) → Prop) (b : Loc → MH → (Fl → Loc → MH → Prop) → Prop) (Q : Fl → Loc → MH → Prop) (loc : Loc) (mh : MH) : Prop :=
  ∃ I : Nat → Loc → MH → Prop, (∃ k, I k loc mh) ∧ ∀ k loc mh, I k loc mh → c loc mh fun t m => match t with
    | true => b loc m (thenW (fun l m => ∃ j, j < k ∧ I j l m) Q)
    | false => Q .next loc m
noncomputable def forW (b : V → Loc → MH → (Fl → Loc → MH → Prop) → Prop) (Q : Fl → Loc → MH → Prop) (vs : List V) (loc : Loc) (mh : MH) : Prop :=
  ∃ I : Nat → Loc → MH → Prop, I 0 loc mh ∧ (∀ i v loc mh, vs[i]? = some v → I i loc mh → b v loc mh (thenW (I (i + 1)) Q)) ∧ ∀ loc mh, I vs.length loc mh → Q .next loc mh
noncomputable def setAll : Loc → List Nat → List V → Loc
  | loc, [], _ => loc
  | loc, x :: xs, vs => (match vs with
    | [] => loc
    | v :: vs => setAll (loc.set x (some v)) xs vs)
noncomputable def wpT (Γ : Tab) : List Bool → List ME → Loc → MH → (List V → MH → Prop) → Prop
  | [], es, _, mh, Q => es = [] ∧ Q [] mh
  | b :: fl, es, loc, mh, Q => (match es with
    | [] => False
    | e :: es => (match b with
      | false => wpE Γ e loc mh fun v m => wpT Γ fl es loc m fun vs m => Q (v :: vs) m
      | true => (match e with
        | .list es' => wpEs Γ es' loc mh fun us m => (pureVs us ∧ us.length ≤ lim) ∧ wpT Γ fl es loc (m ++ [us]) fun vs m' => Q (.mut m.length :: vs) m'
        | _ => False)))
mutual
noncomputable def wpS (Γ : Tab) : MS → Loc → MH → (Fl → Loc → MH → Prop) → Prop
  | .assign x e, loc, mh, Q => wpE Γ e loc mh fun v m => Q .next (loc.set x (some v)) m
  | .assignMut x es, loc, mh, Q => wpEs Γ es loc mh fun vs m => (pureVs vs ∧ vs.length ≤ lim) ∧ Q .next (loc.set x (some (.mut m.length))) (m ++ [vs])
  | .assignTup xs fl es, loc, mh, Q => wpT Γ fl es loc mh fun vs m => vs.length = xs.length ∧ Q .next (setAll loc xs vs) m
  | .unpack xs e, loc, mh, Q => wpE Γ e loc mh fun v m => tupW v fun vs => vs.length = xs.length ∧ Q .next (setAll loc xs vs) m
  | .expr e, loc, mh, Q => wpE Γ e loc mh fun v m => v = .none ∧ Q .next loc m
  | .ite c t e, loc, mh, Q => wpC Γ c loc mh fun b m => match b with
    | true => wpSs Γ t loc m Q
    | false => wpSs Γ e loc m Q
  | .while c b, loc, mh, Q => whileW (wpC Γ c) (wpSs Γ b) Q loc mh
  | .for x e b, loc, mh, Q => wpE Γ e loc mh fun v m => notMut v ∧ ∃ vs, iterItems m v = some vs ∧ forW (fun v loc mh R => wpSs Γ b (loc.set x (some v)) mh R) Q vs loc m
  | .ret e, loc, mh, Q => wpE Γ e loc mh fun v m => Q (.ret v) loc m
  | .raise, _, _, _ => False
noncomputable def wpSs (Γ : Tab) : List MS → Loc → MH → (Fl → Loc → MH → Prop) → Prop
  | [], loc, mh, Q => Q .next loc mh
  | s :: ss, loc, mh, Q => wpS Γ s loc mh (thenW (fun l m => wpSs Γ ss l m Q) Q)
end
/-! the matching of a text's tree with the mini language's -/
structure TX where
  vars : List Str
  fns : List Str
noncomputable def primList : List (Str × Prim) := [("len", .len), ("abs", .abs), ("int", .int), ("divmod", .divmod), ("range", .range), ("sum", .sum)
  , ("bytes", .bytes)
  , ("sorted", .sorted)
  ]
noncomputable def primOf (x : Str) : Option Prim := primList.lookup x
noncomputable def optB {α : Type} (o : Option α) (p : α → Bool) : Bool := match o with
  | some a => p a
  | none => false
theorem optB_inv {α : Type} {o : Option α} {p : α → Bool} (h : optB o p = true) : ∃ a, p a = true := by
  cases o with
  | none => cases h
  | some a => exact ⟨a, h⟩
noncomputable def constOf : V → Option Const
  | .none => some .none
  | .bool b => some (.bool b)
  | .int i => some (.int i)
  | .bytes l => some (.bytes l)
  | _ => none
/-! what stands at the head of a tree -/
section
variable (e : Expr)
noncomputable def vConst : Option {q : Const × Nat × Pos // e = .Constant q.1 q.2.1 q.2.2} := if h : e.ctorIdx = 19 then some (Expr.Constant.elim (motive_1 := fun e => {q : Const × Nat × Pos // e = .Constant q.1 q.2.1 q.2.2}) e h fun a b c => ⟨(a, b, c), rfl⟩) else none
noncomputable def vName : Option {q : Str × Pos // e = .Name q.1 q.2} := if h : e.ctorIdx = 23 then some (Expr.Name.elim (motive_1 := fun e => {q : Str × Pos // e = .Name q.1 q.2}) e h fun a b => ⟨(a, b), rfl⟩) else none
noncomputable def vBin : Option {q : Expr × Operator × Expr × Pos // e = .BinOp q.1 q.2.1 q.2.2.1 q.2.2.2} := if h : e.ctorIdx = 2 then some (Expr.BinOp.elim (motive_1 := fun e => {q : Expr × Operator × Expr × Pos // e = .BinOp q.1 q.2.1 q.2.2.1 q.2.2.2}) e h fun a b c d => ⟨(a, b, c, d), rfl⟩) else none
noncomputable def vUn : Option {q : UnaryOp × Expr × Pos // e = .UnaryOp q.1 q.2.1 q.2.2} := if h : e.ctorIdx = 3 then some (Expr.UnaryOp.elim (motive_1 := fun e => {q : UnaryOp × Expr × Pos // e = .UnaryOp q.1 q.2.1 q.2.2}) e h fun a b c => ⟨(a, b, c), rfl⟩) else none
noncomputable def vCmp : Option {q : Expr × List CmpOp × List Expr × Pos // e = .Compare q.1 q.2.1 q.2.2.1 q.2.2.2} := if h : e.ctorIdx = 15 then some (Expr.Compare.elim (motive_1 := fun e => {q : Expr × List CmpOp × List Expr × Pos // e = .Compare q.1 q.2.1 q.2.2.1 q.2.2.2}) e h fun a b c d => ⟨(a, b, c, d), rfl⟩) else none
noncomputable def vBop : Option {q : BoolOp × List Expr × Pos // e = .BoolOp q.1 q.2.1 q.2.2} := if h : e.ctorIdx = 0 then some (Expr.BoolOp.elim (motive_1 := fun e => {q : BoolOp × List Expr × Pos // e = .BoolOp q.1 q.2.1 q.2.2}) e h fun a b c => ⟨(a, b, c), rfl⟩) else none
noncomputable def vIf : Option {q : Expr × Expr × Expr × Pos // e = .IfExp q.1 q.2.1 q.2.2.1 q.2.2.2} := if h : e.ctorIdx = 5 then some (Expr.IfExp.elim (motive_1 := fun e => {q : Expr × Expr × Expr × Pos // e = .IfExp q.1 q.2.1 q.2.2.1 q.2.2.2}) e h fun a b c d => ⟨(a, b, c, d), rfl⟩) else none
noncomputable def vList : Option {q : List Expr × Pos // e = .List q.1 q.2} := if h : e.ctorIdx = 24 then some (Expr.List.elim (motive_1 := fun e => {q : List Expr × Pos // e = .List q.1 q.2}) e h fun a b => ⟨(a, b), rfl⟩) else none
noncomputable def vTuple : Option {q : List Expr × Nat × Pos // e = .Tuple q.1 q.2.1 q.2.2} := if h : e.ctorIdx = 25 then some (Expr.Tuple.elim (motive_1 := fun e => {q : List Expr × Nat × Pos // e = .Tuple q.1 q.2.1 q.2.2}) e h fun a b c => ⟨(a, b, c), rfl⟩) else none
noncomputable def vSub : Option {q : Expr × Expr × Pos // e = .Subscript q.1 q.2.1 q.2.2} := if h : e.ctorIdx = 21 then some (Expr.Subscript.elim (motive_1 := fun e => {q : Expr × Expr × Pos // e = .Subscript q.1 q.2.1 q.2.2}) e h fun a b c => ⟨(a, b, c), rfl⟩) else none
noncomputable def vSlice : Option {q : Option Expr × Option Expr × Option Expr × Pos // e = .Slice q.1 q.2.1 q.2.2.1 q.2.2.2} := if h : e.ctorIdx = 26 then some (Expr.Slice.elim (motive_1 := fun e => {q : Option Expr × Option Expr × Option Expr × Pos // e = .Slice q.1 q.2.1 q.2.2.1 q.2.2.2}) e h fun a b c d => ⟨(a, b, c, d), rfl⟩) else none
noncomputable def vCall : Option {q : Expr × List Expr × List Keyword × Pos // e = .Call q.1 q.2.1 q.2.2.1 q.2.2.2} := if h : e.ctorIdx = 16 then some (Expr.Call.elim (motive_1 := fun e => {q : Expr × List Expr × List Keyword × Pos // e = .Call q.1 q.2.1 q.2.2.1 q.2.2.2}) e h fun a b c d => ⟨(a, b, c, d), rfl⟩) else none
noncomputable def vAttr : Option {q : Expr × Str × Pos // e = .Attribute q.1 q.2.1 q.2.2} := if h : e.ctorIdx = 20 then some (Expr.Attribute.elim (motive_1 := fun e => {q : Expr × Str × Pos // e = .Attribute q.1 q.2.1 q.2.2}) e h fun a b c => ⟨(a, b, c), rfl⟩) else none
noncomputable def vComp : Option {q : Expr × List Comprehension × Scope × Pos // e = .ListComp q.1 q.2.1 q.2.2.1 q.2.2.2} := if h : e.ctorIdx = 8 then some (Expr.ListComp.elim (motive_1 := fun e => {q : Expr × List Comprehension × Scope × Pos // e = .ListComp q.1 q.2.1 q.2.2.1 q.2.2.2}) e h fun a b c d => ⟨(a, b, c, d), rfl⟩) else none
end
section
variable {α : Type} (l : List α)
noncomputable def v0 : Option {q : Unit // l = []} := match l with | [] => some ⟨(), rfl⟩ | _ :: _ => none
noncomputable def vCons : Option {q : α × List α // l = q.1 :: q.2} := match l with | [] => none | a :: r => some ⟨(a, r), rfl⟩
noncomputable def v1 : Option {q : α // l = [q]} := match l with | [] => none | a :: r => (match r with | [] => some ⟨a, rfl⟩ | _ :: _ => none)
noncomputable def v2 : Option {q : α × α // l = [q.1, q.2]} := match l with | [] => none | a :: r => (match r with | [] => none | b :: r => (match r with | [] => some ⟨(a, b), rfl⟩ | _ :: _ => none))
end
/-! the same, with what is asked of the parts -/
theorem optB_k {α : Type} {o : Option α} {p : α → Bool} {P : Prop} (h : optB o p = true) (f : ∀ a, p a = true → P) : P := let ⟨a, q⟩ := optB_inv h; f a q
section
variable {e : Expr} {P : Expr → Prop}
noncomputable def nameN (e : Expr) (k : Str → Bool) : Bool := optB (vName e) fun q => k q.1.1
theorem nameK {k : Str → Bool} (h : nameN e k = true) (f : ∀ x p, k x = true → P (.Name x p)) : P e := optB_k h fun q r => (congrArg P q.2).mpr (f q.1.1 q.1.2 r)
noncomputable def cmpN (e : Expr) (k : Expr → List CmpOp → List Expr → Bool) : Bool := optB (vCmp e) fun q => k q.1.1 q.1.2.1 q.1.2.2.1
theorem cmpK {k : Expr → List CmpOp → List Expr → Bool} (h : cmpN e k = true) (f : ∀ a o b p, k a o b = true → P (.Compare a o b p)) : P e := optB_k h fun q r => (congrArg P q.2).mpr (f q.1.1 q.1.2.1 q.1.2.2.1 q.1.2.2.2 r)
noncomputable def listN (e : Expr) (k : List Expr → Bool) : Bool := optB (vList e) fun q => k q.1.1
theorem listK {k : List Expr → Bool} (h : listN e k = true) (f : ∀ l p, k l = true → P (.List l p)) : P e := optB_k h fun q r => (congrArg P q.2).mpr (f q.1.1 q.1.2 r)
noncomputable def tupN (e : Expr) (k : List Expr → Bool) : Bool := optB (vTuple e) fun q => k q.1.1
theorem tupK {k : List Expr → Bool} (h : tupN e k = true) (f : ∀ l n p, k l = true → P (.Tuple l n p)) : P e := optB_k h fun q r => (congrArg P q.2).mpr (f q.1.1 q.1.2.1 q.1.2.2 r)
noncomputable def subN (e : Expr) (k : Expr → Expr → Bool) : Bool := optB (vSub e) fun q => k q.1.1 q.1.2.1
theorem subK {k : Expr → Expr → Bool} (h : subN e k = true) (f : ∀ a b p, k a b = true → P (.Subscript a b p)) : P e := optB_k h fun q r => (congrArg P q.2).mpr (f q.1.1 q.1.2.1 q.1.2.2 r)
noncomputable def sliceN (e : Expr) (k : Option Expr → Option Expr → Option Expr → Bool) : Bool := optB (vSlice e) fun q => k q.1.1 q.1.2.1 q.1.2.2.1
theorem sliceK {k : Option Expr → Option Expr → Option Expr → Bool} (h : sliceN e k = true) (f : ∀ a b c p, k a b c = true → P (.Slice a b c p)) : P e := optB_k h fun q r => (congrArg P q.2).mpr (f q.1.1 q.1.2.1 q.1.2.2.1 q.1.2.2.2 r)
noncomputable def callA (e : Expr) (k : Expr → List Expr → List Keyword → Pos → Bool) : Bool := optB (vCall e) fun q => k q.1.1 q.1.2.1 q.1.2.2.1 q.1.2.2.2
theorem callK {k : Expr → List Expr → List Keyword → Pos → Bool} (h : callA e k = true) (f : ∀ g as ks p, k g as ks p = true → P (.Call g as ks p)) : P e := optB_k h fun q r => (congrArg P q.2).mpr (f q.1.1 q.1.2.1 q.1.2.2.1 q.1.2.2.2 r)
noncomputable def attrN (e : Expr) (k : Expr → Str → Pos → Bool) : Bool := optB (vAttr e) fun q => k q.1.1 q.1.2.1 q.1.2.2
theorem attrK {k : Expr → Str → Pos → Bool} (h : attrN e k = true) (f : ∀ o n p, k o n p = true → P (.Attribute o n p)) : P e := optB_k h fun q r => (congrArg P q.2).mpr (f q.1.1 q.1.2.1 q.1.2.2 r)
noncomputable def compA (e : Expr) (k : Expr → List Comprehension → Scope → Bool) : Bool := optB (vComp e) fun q => k q.1.1 q.1.2.1 q.1.2.2.1
theorem compK {k : Expr → List Comprehension → Scope → Bool} (h : compA e k = true) (f : ∀ a g s p, k a g s = true → P (.ListComp a g s p)) : P e := optB_k h fun q r => (congrArg P q.2).mpr (f q.1.1 q.1.2.1 q.1.2.2.1 q.1.2.2.2 r)
end
section
variable {α : Type} {l : List α} {P : List α → Prop}
noncomputable def oneN (l : List α) (k : α → Bool) : Bool := optB (v1 l) fun q => k q.1
theorem oneK {k : α → Bool} (h : oneN l k = true) (f : ∀ a, k a = true → P [a]) : P l := optB_k h fun q r => (congrArg P q.2).mpr (f q.1 r)
noncomputable def twoL (l : List α) (k : α → α → Bool) : Bool := optB (v2 l) fun q => k q.1.1 q.1.2
theorem twoK {k : α → α → Bool} (h : twoL l k = true) (f : ∀ a b, k a b = true → P [a, b]) : P l := optB_k h fun q r => (congrArg P q.2).mpr (f q.1.1 q.1.2 r)
noncomputable def nilN (l : List α) (b : Bool) : Bool := optB (v0 l) fun _ => b
theorem nilK {b : Bool} (h : nilN l b = true) (f : b = true → P []) : P l := optB_k h fun q r => (congrArg P q.2).mpr (f r)
noncomputable def consN (l : List α) (k : α → List α → Bool) : Bool := optB (vCons l) fun q => k q.1.1 q.1.2
theorem consK {k : α → List α → Bool} (h : consN l k = true) (f : ∀ a r, k a r = true → P (a :: r)) : P l := optB_k h fun q r => (congrArg P q.2).mpr (f q.1.1 q.1.2 r)
end
theorem band {a b : Bool} (h : (a && b) = true) : a = true ∧ b = true := (Bool.and_eq_true a b).mp h
theorem bandK {a b : Bool} {P : Prop} (h : (a && b) = true) (f : a = true → b = true → P) : P := f (band h).1 (band h).2
theorem bnot {a : Bool} (h : (!a) = true) : a = false := (Bool.not_eq_true' a).mp h
noncomputable def isSlice (e : Expr) : Bool := e.ctorIdx == 26
noncomputable def isSet (e : Expr) : Bool := e.ctorIdx == 7
noncomputable def isStar (e : Expr) : Bool := e.ctorIdx == 22
noncomputable def isLC (e : Expr) : Bool := e.ctorIdx == 8
noncomputable def isSD (e : Expr) : Bool := e.ctorIdx == 9 || e.ctorIdx == 10
noncomputable def isTup (e : Expr) : Bool := e.ctorIdx == 25
noncomputable def simpleBase (e : Expr) : Bool := e.ctorIdx == 23 || e.ctorIdx == 19
noncomputable def plainTest (e : Expr) : Bool := !(e.ctorIdx == 3 || e.ctorIdx == 0 || e.ctorIdx == 5 || e.ctorIdx == 15)
noncomputable def compScopeOk (X : TX) (sc : List (Str × NameKind)) (scope : Scope) (caps : List Nat) : Bool :=
  scope.kind == .function &&
  scope.names.all (fun p => p.2 != .cell && p.2 != .globalExplicit) &&
  scope.names.all (fun p => scope.names.lookup p.1 == some p.2) &&
  scope.names.all (fun p => p.2 != .free || (sc.lookup p.1 == some .cell || sc.lookup p.1 == some .free)) &&
  caps.all (fun i => optB X.vars[i]? fun x => scope.names.lookup x == some .free)
noncomputable def kwNames : List Keyword → Option (List Str)
  | [] => some []
  | ⟨o, _, _⟩ :: r => (match o with
    | some k => (kwNames r).map (k :: ·)
    | none => none)
noncomputable def isNC : ME → Bool
  | .const v => (match v with | .none => true | _ => false)
  | _ => false
noncomputable def gName (sc : List (Str × NameKind)) (x : Str) : Bool := sc.lookup x == some .globalImplicit
noncomputable def notDebug (x : Str) : Bool := !(x == ("__debug__" : Str))
noncomputable def isLoc (sc : List (Str × NameKind)) (x : Str) : Bool := sc.lookup x == some .local || sc.lookup x == some .cell
noncomputable def callN (e' : Expr) (k : Str → List Expr → Bool) : Bool := callA e' fun f as ks _ => nilN ks (nameN f fun n => k n as)
noncomputable def twoN (as : List Expr) (k : Expr → Str → Bool) : Bool := twoL as fun a b => nameN b fun y => k a y
theorem callNK {e' : Expr} {P : Expr → Prop} {k : Str → List Expr → Bool} (h : callN e' k = true) (f : ∀ n p as pos, k n as = true → P (.Call (.Name n p) as [] pos)) : P e' :=
  callK h fun g as ks pos h => nilK (P := fun ks => P (.Call g as ks pos)) h fun h => nameK (P := fun g => P (.Call g as [] pos)) h fun n p h => f n p as pos h
noncomputable def methB (n : Str) (e' : Expr) (k : Expr → List Expr → Bool) : Bool := callA e' fun f as ks p => nilN ks (attrN f fun o m q => n == m && simpleBase o && q.endLine == p.line && as.all (fun e => !isStar e) && k o as)
theorem methK {n : Str} {e' : Expr} {P : Expr → Prop} {k : Expr → List Expr → Bool} (h : methB n e' k = true) (f : ∀ o apos args pos, simpleBase o = true → (apos.endLine == pos.line) = true → (args.all fun e => !isStar e) = true → k o args = true → P (.Call (.Attribute o n apos) args [] pos)) : P e' :=
  callK h fun g as ks pos h => nilK (P := fun ks => P (.Call g as ks pos)) h fun h => attrK (P := fun g => P (.Call g as [] pos)) h fun o m q h =>
    bandK h fun h h5 => bandK h fun h h4 => bandK h fun h h3 => bandK h fun h1 h2 => (congrArg (fun m => P (.Call (.Attribute o m q) as [] pos)) (eq_of_beq h1)).mp (f o q as pos h2 h3 h4 h5)
mutual
noncomputable def mtE (X : TX) (sc : List (Str × NameKind)) : ME → Expr → Bool
  | .const v, e' => optB (vConst e') fun q => constOf v == some q.1.1
  | .var i, e' => optB (vName e') fun q => X.vars[i]? == some q.1.1 && notDebug q.1.1
  | .glob f, e' => optB (vName e') fun q => X.fns[f]? == some q.1.1 && gName sc q.1.1 && notDebug q.1.1
  | .bin op l r, e' => optB (vBin e') fun q => op == q.1.2.1 && mtE X sc l q.1.1 && mtE X sc r q.1.2.2.1
  | .neg e, e' => optB (vUn e') fun q => q.1.1 == .USub && mtE X sc e q.1.2.1
  | .cmp op l r, e' => cmpN e' fun a os bs => oneN os fun o => oneN bs fun b => op == o && !isSet b && mtE X sc l a && mtE X sc r b
  | .ite c t e, e' => optB (vIf e') fun q => mtC X sc c q.1.1 && mtE X sc t q.1.2.1 && mtE X sc e q.1.2.2.1
  | .list es, e' => optB (vList e') fun q => mtEs X sc es q.1.1
  | .slice o l u s, e' => subN e' fun b i => sliceN i fun x y z => mtE X sc o b && (match x with | none => isNC l | some a => mtE X sc l a) && (match y with | none => isNC u | some a => mtE X sc u a) && (match z with | none => isNC s | some a => mtE X sc s a)
  | .item o i, e' => optB (vSub e') fun q => !isSlice q.1.2.1 && mtE X sc o q.1.1 && mtE X sc i q.1.2.1
  | .prim f es, e' => callN e' fun n as => primOf n == some f && gName sc n && !es.isEmpty && mtEs X sc es as
  | .isBytes e, e' => callN e' fun n as => twoN as fun a b => n == ("isinstance" : Str) && b == ("bytes" : Str) && gName sc n && gName sc b && !isStar a && mtE X sc e a
  | .app o e, e' => methB "append" e' fun b as => oneN as fun a => mtE X sc o b && mtE X sc e a
  | .ins o i e, e' => methB "insert" e' fun b as => twoL as fun a c => mtE X sc o b && mtE X sc i a && mtE X sc e c
  | .call f es ks kes, e' => callA e' fun f' as kws _ => nameN f' (fun _ => true) && (!es.isEmpty && kwNames kws == some ks && mtE X sc f f' && mtEs X sc es as && mtK X sc kes kws)
  | .comp caps x it ifs elt, e' => compA e' fun el gs sco => oneN gs fun g => nameN g.target fun n => g.is_async == 0 && X.vars[x]? == some n && sco.names.lookup n == some .local && compScopeOk X sc sco caps && !isSet g.iter &&
      mtE X sc it g.iter && mtCs X sco.names ifs g.ifs && mtE X sco.names elt el
  | .comp2 caps x it _ it2, e' => compA e' fun el gs sco => twoL gs fun g k => nameN g.target fun n => nameN k.target fun n2 => nameN el fun n3 => n2 == n3 && notDebug n2 && g.ifs.isEmpty && k.ifs.isEmpty && g.is_async == 0 && k.is_async == 0 &&
      X.vars[x]? == some n && sco.names.lookup n == some .local && sco.names.lookup n2 == some .local && compScopeOk X sc sco caps && !isSet g.iter && !isSet k.iter && mtE X sc it g.iter && mtE X sco.names it2 k.iter
termination_by structural e => e
noncomputable def mtEs (X : TX) (sc : List (Str × NameKind)) : List ME → List Expr → Bool
  | [], l => l.isEmpty
  | e :: es, l => consN l fun a r => !isStar a && mtE X sc e a && mtEs X sc es r
termination_by structural e => e
noncomputable def mtK (X : TX) (sc : List (Str × NameKind)) : List ME → List Keyword → Bool
  | [], l => l.isEmpty
  | e :: es, l => consN l fun a r => mtE X sc e a.value && mtK X sc es r
termination_by structural e => e
noncomputable def mtC (X : TX) (sc : List (Str × NameKind)) : MC → Expr → Bool
  | .not c, e' => optB (vUn e') fun q => q.1.1 == .Not && mtC X sc c q.1.2.1
  | .bop op cs, e' => optB (vBop e') fun q => op == q.1.1 && mtCs X sc cs q.1.2.1
  | .cmp op l r, e' => cmpN e' fun a os bs => oneN os fun o => oneN bs fun b => op == o && !isSet b && mtE X sc l a && mtE X sc r b
  | .tst e, e' => plainTest e' && mtE X sc e e'
termination_by structural e => e
noncomputable def mtCs (X : TX) (sc : List (Str × NameKind)) : List MC → List Expr → Bool
  | [], l => l.isEmpty
  | c :: cs, l => consN l fun a r => mtC X sc c a && mtCs X sc cs r
termination_by structural e => e
end
noncomputable def mtO (X : TX) (sc : List (Str × NameKind)) (e : ME) (o : Option Expr) : Bool := match o with
  | none => isNC e
  | some a => mtE X sc e a
noncomputable def varsM (X : TX) (sc : List (Str × NameKind)) : List Nat → List Expr → Bool
  | [], l => l.isEmpty
  | x :: xs, l => consN l fun a r => nameN a fun n => X.vars[x]? == some n && isLoc sc n && varsM X sc xs r
section
variable (s : Stmt)
noncomputable def vAsg : Option {q : Expr × Expr × Pos // s = .Assign [q.1] q.2.1 q.2.2} := if h : s.ctorIdx = 5 then Stmt.Assign.elim (motive_2 := fun s => Option {q : Expr × Expr × Pos // s = .Assign [q.1] q.2.1 q.2.2}) s h fun ts a b => (match ts with | [] => none | t :: r => (match r with | [] => some ⟨(t, a, b), rfl⟩ | _ :: _ => none)) else none
noncomputable def vExprS : Option {q : Expr × Pos // s = .Expr q.1 q.2} := if h : s.ctorIdx = 24 then Stmt.Expr.elim (motive_2 := fun s => Option {q : Expr × Pos // s = .Expr q.1 q.2}) s h fun a b => some ⟨(a, b), rfl⟩ else none
noncomputable def vIfS : Option {q : Expr × List Stmt × List Stmt × Pos // s = .If q.1 q.2.1 q.2.2.1 q.2.2.2} := if h : s.ctorIdx = 12 then Stmt.If.elim (motive_2 := fun s => Option {q : Expr × List Stmt × List Stmt × Pos // s = .If q.1 q.2.1 q.2.2.1 q.2.2.2}) s h fun a b c d => some ⟨(a, b, c, d), rfl⟩ else none
noncomputable def vWhile : Option {q : Expr × List Stmt × Pos // s = .While q.1 q.2.1 [] q.2.2} := if h : s.ctorIdx = 11 then Stmt.While.elim (motive_2 := fun s => Option {q : Expr × List Stmt × Pos // s = .While q.1 q.2.1 [] q.2.2}) s h fun a b c d => (match c with | [] => some ⟨(a, b, d), rfl⟩ | _ :: _ => none) else none
noncomputable def vFor : Option {q : Expr × Expr × List Stmt × Pos // s = .For q.1 q.2.1 q.2.2.1 [] q.2.2.2} := if h : s.ctorIdx = 9 then Stmt.For.elim (motive_2 := fun s => Option {q : Expr × Expr × List Stmt × Pos // s = .For q.1 q.2.1 q.2.2.1 [] q.2.2.2}) s h fun t a b c d => (match c with | [] => some ⟨(t, a, b, d), rfl⟩ | _ :: _ => none) else none
noncomputable def vRet : Option {q : Expr × Pos // s = .Return (some q.1) q.2} := if h : s.ctorIdx = 3 then Stmt.Return.elim (motive_2 := fun s => Option {q : Expr × Pos // s = .Return (some q.1) q.2}) s h fun a b => (match a with | none => none | some e => some ⟨(e, b), rfl⟩) else none
end
section
variable {s : Stmt}
noncomputable def asgN (s : Stmt) (k : Expr → Expr → Bool) : Bool := optB (vAsg s) fun q => k q.1.1 q.1.2.1
theorem asgK {P : Stmt → Prop} {k : Expr → Expr → Bool} (h : asgN s k = true) (f : ∀ t e p, k t e = true → P (.Assign [t] e p)) : P s := optB_k h fun q r => (congrArg P q.2).mpr (f q.1.1 q.1.2.1 q.1.2.2 r)
noncomputable def forN (s : Stmt) (k : Expr → Expr → List Stmt → Bool) : Bool := optB (vFor s) fun q => k q.1.1 q.1.2.1 q.1.2.2.1
theorem forK {P : Stmt → Prop} {k : Expr → Expr → List Stmt → Bool} (h : forN s k = true) (f : ∀ t e b p, k t e b = true → P (.For t e b [] p)) : P s := optB_k h fun q r => (congrArg P q.2).mpr (f q.1.1 q.1.2.1 q.1.2.2.1 q.1.2.2.2 r)
end
mutual
noncomputable def mtS (X : TX) (sc : List (Str × NameKind)) : MS → Stmt → Bool
  | .assign x e, s' => asgN s' fun t a => nameN t fun n => X.vars[x]? == some n && isLoc sc n && !isSD a && mtE X sc e a
  | .assignMut x es, s' => asgN s' fun t a => nameN t fun n => listN a fun l => X.vars[x]? == some n && isLoc sc n && mtEs X sc es l
  | .assignTup xs _ es, s' => asgN s' fun t a => tupN t fun ts => tupN a fun u => varsM X sc xs ts && decide (xs.Nodup ∧ xs.length ≤ 100) && mtEs X sc es u && (!u.all (constantsAlone 8) || u.all (foldedForSure 8))
  | .unpack xs e, s' => asgN s' fun t a => tupN t fun ts => varsM X sc xs ts && decide xs.Nodup && !isTup a && mtE X sc e a
  | .expr e, s' => optB (vExprS s') fun q => mtE X sc e q.1.1 && !isLC q.1.1 && !isSD q.1.1
  | .ite c t e, s' => optB (vIfS s') fun q => mtC X sc c q.1.1 && mtSs X sc t q.1.2.1 && mtSs X sc e q.1.2.2.1
  | .while c b, s' => optB (vWhile s') fun q => mtC X sc c q.1.1 && mtSs X sc b q.1.2.1
  | .for x e b, s' => forN s' fun t a b' => nameN t fun n => X.vars[x]? == some n && isLoc sc n && !isSet a && mtE X sc e a && mtSs X sc b b'
  | .ret e, s' => optB (vRet s') fun q => mtE X sc e q.1.1
  | .raise, s' => true
termination_by structural e => e
noncomputable def mtSs (X : TX) (sc : List (Str × NameKind)) : List MS → List Stmt → Bool
  | [], l => l.isEmpty
  | s :: ss, l => consN l fun a r => mtS X sc s a && mtSs X sc ss r
termination_by structural e => e
end
section
variable {X : TX} {sc : List (Str × NameKind)}
variable {P : Expr → Prop} {PS : Stmt → Prop} {e' : Expr} {s' : Stmt} {PL : List Expr → Prop}
theorem mtEsK {e : ME} {es : List ME} {l : List Expr} (h : mtEs X sc (e :: es) l = true) (f : ∀ a r, isStar a = false → mtE X sc e a = true → mtEs X sc es r = true → PL (a :: r)) : PL l :=
  consK h fun a r h => bandK h fun h h3 => bandK h fun h1 h2 => f a r (bnot h1) h2 h3
theorem mtKK {PL : List Keyword → Prop} {e : ME} {es : List ME} {l : List Keyword} (h : mtK X sc (e :: es) l = true) (f : ∀ a r, mtE X sc e a.value = true → mtK X sc es r = true → PL (a :: r)) : PL l :=
  consK h fun a r h => bandK h (f a r)
theorem mtCsK {e : MC} {es : List MC} {l : List Expr} (h : mtCs X sc (e :: es) l = true) (f : ∀ a r, mtC X sc e a = true → mtCs X sc es r = true → PL (a :: r)) : PL l :=
  consK h fun a r h => bandK h (f a r)
theorem mtSsK {PL : List Stmt → Prop} {st : MS} {ss : List MS} {l : List Stmt} (h : mtSs X sc (st :: ss) l = true) (f : ∀ a r, mtS X sc st a = true → mtSs X sc ss r = true → PL (a :: r)) : PL l :=
  consK h fun a r h => bandK h (f a r)
theorem varsMK {x : Nat} {xs : List Nat} {l : List Expr} (h : varsM X sc (x :: xs) l = true) (f : ∀ n p r, X.vars[x]? = some n → isLoc sc n = true → varsM X sc xs r = true → PL (.Name n p :: r)) : PL l :=
  consK h fun a r h => nameK (P := fun a => PL (a :: r)) h fun n p h => bandK h fun h h3 => bandK h fun h1 h2 => f n p r (eq_of_beq h1) h2 h3
theorem binMK {op : Operator} {l r : ME} (h : mtE X sc (.bin op l r) e' = true) (f : ∀ l' r' pos, mtE X sc l l' = true → mtE X sc r r' = true → P (.BinOp l' op r' pos)) : P e' :=
  optB_k h fun q h => bandK h fun h h3 => bandK h fun h1 h2 => (congrArg P (q.2.trans (congrArg (fun o => Expr.BinOp q.1.1 o q.1.2.2.1 q.1.2.2.2) (eq_of_beq h1).symm))).mpr (f q.1.1 q.1.2.2.1 q.1.2.2.2 h2 h3)
theorem negMK {e : ME} (h : mtE X sc (.neg e) e' = true) (f : ∀ a pos, mtE X sc e a = true → P (.UnaryOp .USub a pos)) : P e' :=
  optB_k h fun q h => bandK h fun h1 h2 => (congrArg P (q.2.trans (congrArg (fun o => Expr.UnaryOp o q.1.2.1 q.1.2.2) (eq_of_beq h1)))).mpr (f q.1.2.1 q.1.2.2 h2)
theorem notMK {c : MC} (h : mtC X sc (.not c) e' = true) (f : ∀ a pos, mtC X sc c a = true → P (.UnaryOp .Not a pos)) : P e' :=
  optB_k h fun q h => bandK h fun h1 h2 => (congrArg P (q.2.trans (congrArg (fun o => Expr.UnaryOp o q.1.2.1 q.1.2.2) (eq_of_beq h1)))).mpr (f q.1.2.1 q.1.2.2 h2)
theorem bopMK {op : BoolOp} {cs : List MC} (h : mtC X sc (.bop op cs) e' = true) (f : ∀ l pos, mtCs X sc cs l = true → P (.BoolOp op l pos)) : P e' :=
  optB_k h fun q h => bandK h fun h1 h2 => (congrArg P (q.2.trans (congrArg (fun o => Expr.BoolOp o q.1.2.1 q.1.2.2) (eq_of_beq h1).symm))).mpr (f q.1.2.1 q.1.2.2 h2)
theorem iteMK {c : MC} {t e : ME} (h : mtE X sc (.ite c t e) e' = true) (f : ∀ a b d pos, mtC X sc c a = true → mtE X sc t b = true → mtE X sc e d = true → P (.IfExp a b d pos)) : P e' :=
  optB_k h fun q h => bandK h fun h h3 => bandK h fun h1 h2 => (congrArg P q.2).mpr (f q.1.1 q.1.2.1 q.1.2.2.1 q.1.2.2.2 h1 h2 h3)
theorem listMK {es : List ME} (h : mtE X sc (.list es) e' = true) (f : ∀ l pos, mtEs X sc es l = true → P (.List l pos)) : P e' := listK h f
theorem itemMK {o i : ME} (h : mtE X sc (.item o i) e' = true) (f : ∀ a b pos, isSlice b = false → mtE X sc o a = true → mtE X sc i b = true → P (.Subscript a b pos)) : P e' :=
  subK (k := fun a b => !isSlice b && mtE X sc o a && mtE X sc i b) h fun a b pos h => bandK h fun h h3 => bandK h fun h1 h2 => f a b pos (bnot h1) h2 h3
theorem varMK {i : Nat} (h : mtE X sc (.var i) e' = true) (f : ∀ x pos, X.vars[i]? = some x → notDebug x = true → P (.Name x pos)) : P e' :=
  nameK (k := fun x => X.vars[i]? == some x && notDebug x) h fun x pos h => bandK h fun h1 h2 => f x pos (eq_of_beq h1) h2
theorem globMK {i : Nat} (h : mtE X sc (.glob i) e' = true) (f : ∀ x pos, X.fns[i]? = some x → gName sc x = true → notDebug x = true → P (.Name x pos)) : P e' :=
  nameK (k := fun x => X.fns[i]? == some x && gName sc x && notDebug x) h fun x pos h => bandK h fun h h3 => bandK h fun h1 h2 => f x pos (eq_of_beq h1) h2 h3
theorem constMK {v : V} (h : mtE X sc (.const v) e' = true) (f : ∀ c n pos, constOf v = some c → P (.Constant c n pos)) : P e' :=
  optB_k h fun q h => (congrArg P q.2).mpr (f q.1.1 q.1.2.1 q.1.2.2 (eq_of_beq h))
theorem cmpM_k {op : CmpOp} {p q : Expr → Bool} (h : cmpN e' (fun a os bs => oneN os fun o => oneN bs fun b => op == o && !isSet b && p a && q b) = true) (f : ∀ a b pos, isSet b = false → p a = true → q b = true → P (.Compare a [op] [b] pos)) : P e' :=
  cmpK h fun a os bs pos h => oneK (P := fun os => P (.Compare a os bs pos)) h fun o h => oneK (P := fun bs => P (.Compare a [o] bs pos)) h fun b h =>
    bandK h fun h h4 => bandK h fun h h3 => bandK h fun h1 h2 => (congrArg (fun o => P (.Compare a [o] [b] pos)) (eq_of_beq h1)).mp (f a b pos (bnot h2) h3 h4)
theorem cmpMK {op : CmpOp} {l r : ME} (h : mtE X sc (.cmp op l r) e' = true) (f : ∀ a b pos, isSet b = false → mtE X sc l a = true → mtE X sc r b = true → P (.Compare a [op] [b] pos)) : P e' := cmpM_k h f
theorem cmpMC {op : CmpOp} {l r : ME} (h : mtC X sc (.cmp op l r) e' = true) (f : ∀ a b pos, isSet b = false → mtE X sc l a = true → mtE X sc r b = true → P (.Compare a [op] [b] pos)) : P e' := cmpM_k h f
theorem one_eq {g : Comprehension} {t : Expr} (e2 : g.target = t) (ha : g.is_async = 0) : [g] = [⟨t, g.iter, g.ifs, 0⟩] := by
  obtain ⟨t', i, f, a⟩ := g
  cases e2; cases ha; rfl
theorem compMK {caps : List Nat} {x : Nat} {it elt : ME} {ifs : List MC} (hm : mtE X sc (.comp caps x it ifs elt) e' = true)
    (f : ∀ elt' it' ifs' x' px scope pos, X.vars[x]? = some x' → scope.names.lookup x' = some .local → compScopeOk X sc scope caps = true → isSet it' = false → mtE X sc it it' = true → mtCs X scope.names ifs ifs' = true → mtE X scope.names elt elt' = true → P (.ListComp elt' [⟨.Name x' px, it', ifs', 0⟩] scope pos)) : P e' :=
  compK hm fun elt' gs scope pos h => oneK (P := fun gs => P (.ListComp elt' gs scope pos)) h fun g h => optB_k h fun q h =>
    bandK h fun h helt => bandK h fun h hifs => bandK h fun h hit => bandK h fun h hset => bandK h fun h hsc => bandK h fun h hl => bandK h fun ha hx =>
      (congrArg (fun gs => P (.ListComp elt' gs scope pos)) (one_eq q.2 (eq_of_beq ha))).mpr (f elt' g.iter g.ifs q.1.1 q.1.2 scope pos (eq_of_beq hx) (eq_of_beq hl) hsc (bnot hset) hit hifs helt)
theorem two_eq {g k : Comprehension} {t u : Expr} (e1 : g.target = t) (e2 : k.target = u) (h1 : g.ifs.isEmpty = true) (h2 : k.ifs.isEmpty = true) (h3 : g.is_async = 0) (h4 : k.is_async = 0) : [g, k] = [⟨t, g.iter, [], 0⟩, ⟨u, k.iter, [], 0⟩] := by
  obtain ⟨t1, i1, f1, a1⟩ := g; obtain ⟨t2, i2, f2, a2⟩ := k
  cases e1; cases e2; cases h3; cases h4
  cases (List.isEmpty_iff.mp h1 : f1 = []); cases (List.isEmpty_iff.mp h2 : f2 = []); rfl
theorem comp2MK {caps : List Nat} {x y : Nat} {it it2 : ME} (hm : mtE X sc (.comp2 caps x it y it2) e' = true)
    (f : ∀ i1 i2 x' x2 pe px p2 scope pos, X.vars[x]? = some x' → scope.names.lookup x' = some .local → scope.names.lookup x2 = some .local → (x2 == ("__debug__" : Str)) = false → compScopeOk X sc scope caps = true → isSet i1 = false → isSet i2 = false → mtE X sc it i1 = true → mtE X scope.names it2 i2 = true →
      P (.ListComp (.Name x2 pe) [⟨.Name x' px, i1, [], 0⟩, ⟨.Name x2 p2, i2, [], 0⟩] scope pos)) : P e' :=
  compK hm fun el gs scope pos h => twoK (P := fun gs => P (.ListComp el gs scope pos)) h fun g k h => optB_k h fun q h => optB_k h fun r h => nameK (P := fun el => P (.ListComp el [g, k] scope pos)) h fun x3 pe h =>
    bandK h fun h q14 => bandK h fun h q13 => bandK h fun h q12 => bandK h fun h q11 => bandK h fun h q10 => bandK h fun h q9 => bandK h fun h q8 => bandK h fun h q7 => bandK h fun h q6 => bandK h fun h q5 => bandK h fun h q4 => bandK h fun h q3 => bandK h fun q1 q2 =>
      (congrArg (fun gs => P (.ListComp (.Name x3 pe) gs scope pos)) (two_eq q.2 r.2 q3 q4 (eq_of_beq q5) (eq_of_beq q6))).mpr ((congrArg (fun x3 => P (.ListComp (.Name x3 pe) [⟨.Name q.1.1 q.1.2, g.iter, [], 0⟩, ⟨.Name r.1.1 r.1.2, k.iter, [], 0⟩] scope pos)) (eq_of_beq q1)).mp
        (f g.iter k.iter q.1.1 r.1.1 pe q.1.2 r.1.2 scope pos (eq_of_beq q7) (eq_of_beq q8) (eq_of_beq q9) ((Bool.not_eq_true' _).mp q2) q10 (bnot q11) (bnot q12) q13 q14))
theorem sliceMK {o l u s : ME} (h : mtE X sc (.slice o l u s) e' = true) (f : ∀ b x y z p1 p2, mtE X sc o b = true → mtO X sc l x = true → mtO X sc u y = true → mtO X sc s z = true → P (.Subscript b (.Slice x y z p1) p2)) : P e' :=
  subK h fun b i p2 h => sliceK (P := fun i => P (.Subscript b i p2)) h fun x y z p1 h => bandK h fun h h4 => bandK h fun h h3 => bandK h fun h1 h2 => f b x y z p1 p2 h1 h2 h3 h4
theorem callMK {g : ME} {es : List ME} {ks : List Str} {kes : List ME} (h : mtE X sc (.call g es ks kes) e' = true) (f : ∀ x p as kws pos, es.isEmpty = false → kwNames kws = some ks → mtE X sc g (.Name x p) = true → mtEs X sc es as = true → mtK X sc kes kws = true → P (.Call (.Name x p) as kws pos)) : P e' :=
  callK h fun g' as kws pos h => bandK h fun h0 h => bandK h fun h h5 => bandK h fun h h4 => bandK h fun h h3 => bandK h fun h1 h2 =>
    nameK (P := fun g' => mtE X sc g g' = true → P (.Call g' as kws pos)) h0 (fun x p _ h3 => f x p as kws pos (bnot h1) (eq_of_beq h2) h3 h4 h5) h3
theorem asgMK {x : Nat} {e : ME} (h : mtS X sc (.assign x e) s' = true) (f : ∀ n p a pos, X.vars[x]? = some n → isLoc sc n = true → isSD a = false → mtE X sc e a = true → PS (.Assign [.Name n p] a pos)) : PS s' :=
  asgK (k := fun t a => nameN t fun n => X.vars[x]? == some n && isLoc sc n && !isSD a && mtE X sc e a) h fun t a pos h => nameK (P := fun t => PS (.Assign [t] a pos)) h fun n p h =>
    bandK h fun h h4 => bandK h fun h h3 => bandK h fun h1 h2 => f n p a pos (eq_of_beq h1) h2 (bnot h3) h4
theorem mutMK {x : Nat} {es : List ME} (h : mtS X sc (.assignMut x es) s' = true) (f : ∀ n p l lp pos, X.vars[x]? = some n → isLoc sc n = true → mtEs X sc es l = true → PS (.Assign [.Name n p] (.List l lp) pos)) : PS s' :=
  asgK (k := fun t a => nameN t fun n => listN a fun l => X.vars[x]? == some n && isLoc sc n && mtEs X sc es l) h fun t a pos h => nameK (P := fun t => PS (.Assign [t] a pos)) h fun n p h => listK (P := fun a => PS (.Assign [.Name n p] a pos)) h fun l lp h =>
    bandK h fun h h3 => bandK h fun h1 h2 => f n p l lp pos (eq_of_beq h1) h2 h3
theorem tupMK {xs : List Nat} {fl : List Bool} {es : List ME} (h : mtS X sc (.assignTup xs fl es) s' = true) (f : ∀ ts n1 p1 us n2 p2 pos, varsM X sc xs ts = true → (xs.Nodup ∧ xs.length ≤ 100) → mtEs X sc es us = true → (!us.all (constantsAlone 8) || us.all (foldedForSure 8)) = true → PS (.Assign [.Tuple ts n1 p1] (.Tuple us n2 p2) pos)) : PS s' :=
  asgK (k := fun t a => tupN t fun ts => tupN a fun u => varsM X sc xs ts && decide (xs.Nodup ∧ xs.length ≤ 100) && mtEs X sc es u && (!u.all (constantsAlone 8) || u.all (foldedForSure 8))) h fun t a pos h => tupK (P := fun t => PS (.Assign [t] a pos)) h fun ts n1 p1 h => tupK (P := fun a => PS (.Assign [.Tuple ts n1 p1] a pos)) h fun us n2 p2 h =>
    bandK h fun h h4 => bandK h fun h h3 => bandK h fun h1 h2 => f ts n1 p1 us n2 p2 pos h1 (of_decide_eq_true h2) h3 h4
theorem unpMK {xs : List Nat} {e : ME} (h : mtS X sc (.unpack xs e) s' = true) (f : ∀ ts n1 p1 a pos, varsM X sc xs ts = true → xs.Nodup → isTup a = false → mtE X sc e a = true → PS (.Assign [.Tuple ts n1 p1] a pos)) : PS s' :=
  asgK (k := fun t a => tupN t fun ts => varsM X sc xs ts && decide xs.Nodup && !isTup a && mtE X sc e a) h fun t a pos h => tupK (P := fun t => PS (.Assign [t] a pos)) h fun ts n1 p1 h =>
    bandK h fun h h4 => bandK h fun h h3 => bandK h fun h1 h2 => f ts n1 p1 a pos h1 (of_decide_eq_true h2) (bnot h3) h4
theorem forMK {x : Nat} {e : ME} {b : List MS} (h : mtS X sc (.for x e b) s' = true) (f : ∀ n p a b' pos, X.vars[x]? = some n → isLoc sc n = true → isSet a = false → mtE X sc e a = true → mtSs X sc b b' = true → PS (.For (.Name n p) a b' [] pos)) : PS s' :=
  forK (k := fun t a b' => nameN t fun n => X.vars[x]? == some n && isLoc sc n && !isSet a && mtE X sc e a && mtSs X sc b b') h fun t a b' pos h => nameK (P := fun t => PS (.For t a b' [] pos)) h fun n p h =>
    bandK h fun h h5 => bandK h fun h h4 => bandK h fun h h3 => bandK h fun h1 h2 => f n p a b' pos (eq_of_beq h1) h2 (bnot h3) h4 h5
theorem exprMK {e : ME} (h : mtS X sc (.expr e) s' = true) (f : ∀ a pos, mtE X sc e a = true → isLC a = false → isSD a = false → PS (.Expr a pos)) : PS s' :=
  optB_k h fun q h => bandK h fun h h3 => bandK h fun h1 h2 => (congrArg PS q.2).mpr (f q.1.1 q.1.2 h1 (bnot h2) (bnot h3))
theorem ifMK {c : MC} {t e : List MS} (h : mtS X sc (.ite c t e) s' = true) (f : ∀ a b d pos, mtC X sc c a = true → mtSs X sc t b = true → mtSs X sc e d = true → PS (.If a b d pos)) : PS s' :=
  optB_k h fun q h => bandK h fun h h3 => bandK h fun h1 h2 => (congrArg PS q.2).mpr (f q.1.1 q.1.2.1 q.1.2.2.1 q.1.2.2.2 h1 h2 h3)
theorem whileMK {c : MC} {b : List MS} (h : mtS X sc (.while c b) s' = true) (f : ∀ a d pos, mtC X sc c a = true → mtSs X sc b d = true → PS (.While a d [] pos)) : PS s' :=
  optB_k h fun q h => bandK h fun h1 h2 => (congrArg PS q.2).mpr (f q.1.1 q.1.2.1 q.1.2.2 h1 h2)
theorem retMK {e : ME} (h : mtS X sc (.ret e) s' = true) (f : ∀ a pos, mtE X sc e a = true → PS (.Return (some a) pos)) : PS s' :=
  optB_k h fun q h => (congrArg PS q.2).mpr (f q.1.1 q.1.2 h)
end
end Mine
end
section
open PySem PySem.Calls PySem.W PyProof.Rows PySem.SeqAt
set_option maxRecDepth 100000
set_option linter.unusedVariables false
namespace Mine
noncomputable def ItSt (C : Cfg) (ρ : List Addr) (h : Heap) (v : V) (I : Addr) (i : Nat) : Prop :=
  match v with
  | .list vs => ∃ ax, h.IsListIter I ax i ∧ VRel C h ρ (.list vs) (.ref ax)
  | .mut j => ∃ ax, h.IsListIter I ax i ∧ ρ[j]? = some ax
  | .rng a b c => IsRangeIter h I (a + (i : Nat) * c) (rngSize a b c - (i : Nat)) c
  | .bytes l => ∃ t, KBw.IsBytesIter h I l.toArray t i
  | _ => False
section
variable {C C' : Cfg} {A : Around} {ρ ρ' : List Addr} {mh : MH} {s : Shared} {h h' : Heap} {v : V} {I : Addr} {i : Nat}
theorem ItSt.map (x : ItSt C ρ h v I i) (e : ∀ o, h.get? I = some o → h'.get? I = some o) (l : ∀ vs ax, VRel C h ρ (.list vs) (.ref ax) → VRel C' h' ρ' (.list vs) (.ref ax)) (m : ∀ (j : Nat) (ax : Addr), ρ[j]? = some ax → ρ'[j]? = some ax) : ItSt C' ρ' h' v I i := by
  cases v with
  | list vs => obtain ⟨ax, ⟨o, ho, r⟩, b⟩ := x; exact ⟨ax, ⟨o, e o ho, r⟩, l vs ax b⟩
  | «mut» j => obtain ⟨ax, ⟨o, ho, r⟩, b⟩ := x; exact ⟨ax, ⟨o, e o ho, r⟩, m j ax b⟩
  | rng a b c => exact e _ x
  | bytes l => obtain ⟨t, o, ho, r⟩ := x; exact ⟨t, o, e o ho, r⟩
  | _ => exact x.elim
theorem ItSt.keep (x : ItSt C ρ h v I i) (e : ∀ o, h.get? I = some o → h'.get? I = some o) (k : KeepD ρ h h') : ItSt C ρ h' v I i := x.map e (fun _ _ r => r.keep k) fun _ _ r => r
theorem ItSt.keepX (x : ItSt C ρ h v I i) (e : ∀ o, h.get? I = some o → h'.get? I = some o) (k : KeepD (ρ ++ C.ξ) h h') : ItSt C ρ h' v I i := x.map e (fun _ _ r => r.keepX k) fun _ _ r => r
theorem ItSt.more {δ : List Addr} (x : ItSt C ρ h v I i) (k : ∀ a ∈ δ, ∀ o, h.get? a ≠ some o) : ItSt C (ρ ++ δ) h v I i := x.map (fun _ e => e) (fun _ _ r => r.more k) fun _ _ e => app_more e
theorem ItSt.into {D : Addr} (x : ItSt C ρ h v I i) (k : ∀ o, h.get? D ≠ some o) : ItSt (C.with D) ρ h v I i := x.map (fun _ e => e) (fun _ _ r => r.into k) fun _ _ r => r
theorem not_d_fields {o : Obj} {T : String} {vs : Array Value} (hc : o.cls = .type T) (hd : o.data = .fields vs) (hT : T ≠ "range") : ¬ isD o := by
  rintro (⟨xs, n, q⟩ | ⟨q, _⟩)
  · rw [hd] at q; cases q
  · rw [hc] at q; injection q with q; exact hT q
theorem ItSt.obj' (x : ItSt C ρ h v I i) : ∃ o vs, h.get? I = some o ∧ o.data = .fields vs ∧ ¬ isD o := by
  cases v with
  | list vs => obtain ⟨ax, ⟨o, ho, hc, hd⟩, b⟩ := x; exact ⟨o, _, ho, hd, not_d_fields hc hd (by decide)⟩
  | «mut» j => obtain ⟨ax, ⟨o, ho, hc, hd⟩, b⟩ := x; exact ⟨o, _, ho, hd, not_d_fields hc hd (by decide)⟩
  | rng a b c => exact ⟨_, _, x, rfl, not_d_fields rfl rfl (by decide)⟩
  | bytes l => obtain ⟨t, o, ho, hc, hd⟩ := x; exact ⟨o, _, ho, hd, not_d_fields hc hd (by decide)⟩
  | _ => exact x.elim
theorem ItSt.obj (x : ItSt C ρ h v I i) : ∃ o, h.get? I = some o ∧ ¬ isD o := let ⟨o, _, a, _, b⟩ := x.obj'; ⟨o, a, b⟩
theorem rng_items {a b c : Int} {vs : List V} (h : iterItems mh (.rng a b c) = some vs) : Builtin.Range.small a b c = true ∧ vs = (List.range (rngSize a b c).toNat).map fun (i : Nat) => .int (a + (i : Int) * c) := by
  unfold iterItems at h
  by_cases hs : Builtin.Range.small a b c = true
  · dsimp only at h; rw [if_pos hs] at h; cases h; exact ⟨hs, rfl⟩
  · dsimp only at h; rw [if_neg hs] at h; cases h
theorem iter_start {x : Value} {vs : List V} (h : iterItems mh v = some vs) (co : Co C ρ mh s.heap) (r : VRel C s.heap ρ v x) :
    WP C A (pyIter x) (fun it s' => ∃ h', it = .ref s.heap.objs.size ∧ s' = { s with heap := h' } ∧ (∀ b o, s.heap.get? b = some o → h'.get? b = some o) ∧ ItSt C ρ h' v s.heap.objs.size 0) s := by
  cases v with
  | list us =>
    have r' := r
    obtain ⟨a, xs, rfl, hl, _⟩ := r
    exact wpAny_pyIter_list hl ⟨_, rfl, rfl, up_push _, _, ⟨_, Heap.get?_push_size _ rfl, rfl, rfl⟩, r'.keep (Keep.push _).d⟩
  | «mut» j =>
    obtain ⟨a, rfl, e⟩ := r
    obtain ⟨xs, n, g, r⟩ := co.m.at' j _ vs e h
    exact wpAny_pyIter_list ⟨_, g, rfl, n, rfl⟩ ⟨_, rfl, rfl, up_push _, _, ⟨_, Heap.get?_push_size _ rfl, rfl, rfl⟩, e⟩
  | rng a b c =>
    obtain ⟨_, _, _, _, rfl, hr, hn⟩ := r
    refine wpAny_pyIter_range hr (rng_items h).1 ⟨_, rfl, rfl, up_push _, ?_⟩
    show IsRangeIter _ _ _ _ _
    simpa [rngSize] using Heap.get?_push_size s.heap rfl
  | bytes l => obtain ⟨t, rfl⟩ := r; exact KBw.pyIter_bytes ⟨_, rfl, rfl, up_push _, t, _, Heap.get?_push_size _ rfl, rfl, rfl⟩
  | _ => cases h
theorem iter_self {Q : Value → Shared → Prop} (st : ItSt C ρ s.heap v I i) (h : Q (.ref I) s) : WP C A (pyIter (.ref I)) Q s := by
  cases v with
  | list vs => obtain ⟨ax, a, b⟩ := st; exact wpAny_pyIter_listiter a h
  | «mut» j => obtain ⟨ax, a, b⟩ := st; exact wpAny_pyIter_listiter a h
  | rng a b c => exact wpAny_pyIter_rangeiter st h
  | bytes l => obtain ⟨t, a⟩ := st; exact KBw.pyIter_self a h
  | _ => exact st.elim
theorem map_at {α : Type} {l : List α} {f : α → V} {u : V} (hu : (l.map f)[i]? = some u) : ∃ a, l[i]? = some a ∧ u = f a := by
  rw [List.getElem?_map, Option.map_eq_some_iff] at hu
  exact let ⟨a, h, e⟩ := hu; ⟨a, h, e.symm⟩
theorem arr_at {α : Type} {l : List α} {a : α} (e : l[i]? = some a) : l.toArray[i]? = some a := by rw [List.getElem?_toArray]; exact e
theorem iter_next {u : V} {vs : List V} (h : iterItems mh v = some vs) (hu : vs[i]? = some u) (co : Co C ρ mh s.heap) (st : ItSt C ρ s.heap v I i) :
    WP C A (pyNext (.ref I)) (fun r s' => ∃ w h' tk, r = some w ∧ s' = { s with heap := h', toks := tk } ∧ Heap.SameBut I s.heap h' ∧ ItSt C ρ h' v I (i + 1) ∧ VRel C h' ρ u w) s := by
  obtain ⟨oI, hoI, hdI⟩ := st.obj
  have kd : ∀ {h'}, Heap.SameBut I s.heap h' → KeepD ρ s.heap h' := fun hs a o e d _ => (hs.2 a (by rintro rfl; rw [hoI] at e; cases e; exact hdI d)).trans e
  cases v with
  | list us =>
    obtain ⟨ax, a, b⟩ := st
    cases h
    have b' := b
    obtain ⟨_, xs, e, hl, hn, q⟩ := b
    cases e
    obtain ⟨w, e, qw⟩ := q.get hu
    exact wpAny_pyNext_list_item a hl (arr_at e) fun h' a' hs => ⟨w, h', s.toks, rfl, rfl, hs, ⟨ax, a', b'.keep (kd hs)⟩, qw.keep (kd hs)⟩
  | «mut» j =>
    obtain ⟨ax, a, b⟩ := st
    obtain ⟨xs, n, g, q⟩ := co.m.at' j ax vs b h
    obtain ⟨w, e, qw⟩ := q.get hu
    exact wpAny_pyNext_list_item a (⟨_, g, rfl, n, rfl⟩ : s.heap.IsList ax xs.toArray) (arr_at e) fun h' a' hs => ⟨w, h', s.toks, rfl, rfl, hs, ⟨ax, a', b⟩, qw.keep (kd hs)⟩
  | rng a b c =>
    obtain ⟨_, rfl⟩ := rng_items h
    obtain ⟨j, hj, rfl⟩ := map_at hu
    obtain ⟨hi, e⟩ := List.getElem?_eq_some_iff.mp hj
    rw [List.getElem_range] at e
    subst e
    rw [List.length_range] at hi
    refine wpAny_pyNext_range_item st (by omega) fun h' a' hs => ⟨_, h', _, rfl, rfl, hs, ?_, .int _ _⟩
    show IsRangeIter _ _ _ _ _
    have e1 : a + ((i + 1 : Nat) : Int) * c = a + (i : Int) * c + c := by rw [Int.natCast_add, Int.add_mul, Int.natCast_one, Int.one_mul, Int.add_assoc]
    have e2 : rngSize a b c - ((i + 1 : Nat) : Int) = rngSize a b c - (i : Int) - 1 := by omega
    rw [e1, e2]; exact a'
  | bytes l =>
    obtain ⟨t, a⟩ := st
    cases h
    obtain ⟨c, hc, rfl⟩ := map_at hu
    exact KBw.next_item a (c := c) (arr_at hc) fun h' a' hs => ⟨_, h', _, rfl, rfl, hs, ⟨t, a'⟩, .int _ _⟩
  | _ => exact st.elim
theorem iter_end {vs : List V} (h : iterItems mh v = some vs) (co : Co C ρ mh s.heap) (hh : A.handled = none) (st : ItSt C ρ s.heap v I vs.length) :
    WP C A (pyNext (.ref I)) (fun r s' => ∃ h', r = none ∧ s' = { s with heap := h' } ∧ Heap.ExtBut I s.heap h') s := by
  cases v with
  | list us =>
    obtain ⟨ax, a, b⟩ := st
    cases h
    obtain ⟨_, xs, e, hl, hn, q⟩ := b
    cases e
    exact wpAny_pyNext_list_end hh a hl (by simp [q.length]) fun h' hs => ⟨h', rfl, rfl, hs⟩
  | «mut» j =>
    obtain ⟨ax, a, b⟩ := st
    obtain ⟨xs, n, g, q⟩ := co.m.at' j ax vs b h
    exact wpAny_pyNext_list_end hh a (⟨_, g, rfl, n, rfl⟩ : s.heap.IsList ax xs.toArray) (by simp [q.length]) fun h' hs => ⟨h', rfl, rfl, hs⟩
  | rng a b c =>
    obtain ⟨_, rfl⟩ := rng_items h
    refine wpAny_pyNext_range_end hh st ?_ fun h' hs => ⟨h', rfl, rfl, hs⟩
    rw [List.length_map, List.length_range]
    omega
  | bytes l =>
    obtain ⟨t, a⟩ := st
    cases h
    exact KBw.next_end hh a (by simp) fun h' hs => ⟨h', rfl, rfl, hs⟩
  | _ => exact st.elim
end
/-! frames -/
noncomputable def Bound (env : Env) (h : Heap) (x : Str) (w : Value) : Prop :=
  (env.kindOf x = some .local ∧ ∃ m, h.Ns env.locals m ∧ m x = some w) ∨ (env.kindOf x = some .cell ∧ ∃ c, env.cells.lookup x = some c ∧ h.IsCell c (some w))
structure EnvOk (env : Env) (sc : List (Str × NameKind)) : Prop where
  kind : env.scope.kind = .function
  glob : env.globals = mainGlobals
  blt : env.builtins = builtinsNs
  kinds : ∀ x k, sc.lookup x = some k → k ≠ .free → env.kindOf x = some k
  free : ∀ x, sc.lookup x = some .free → env.kindOf x = some .cell
  cells : ∀ x, (sc.lookup x = some .cell ∨ sc.lookup x = some .free) → ∃ c, env.cells.lookup x = some c
noncomputable def FrR (C : Cfg) (X : TX) (env : Env) (loc : Loc) (ρ : List Addr) (h : Heap) : Prop :=
  ∀ (i : Nat) (v : V), loc[i]? = some (some v) → ∃ x w, X.vars[i]? = some x ∧ Bound env h x w ∧ VRel C h ρ v w
theorem ns_data {h : Heap} {a : Addr} {m : Str → Option Value} {o : Obj} (hn : h.Ns a m) (e : h.get? a = some o) : ∃ es ep, o.data = .dict es ep := by
  obtain ⟨o', es, ep, ho, hd, _⟩ := hn
  cases ho.symm.trans e; exact ⟨es, ep, hd⟩
theorem ns_not_list {h : Heap} {a : Addr} {m : Str → Option Value} {xs : Array Value} {n : Nat} (hn : h.Ns a m) (e : h.get? a = some (listOf xs n)) : False := nomatch ns_data hn e
theorem cell_not_list {h : Heap} {a : Addr} {v : Option Value} {xs : Array Value} {n : Nat} (hn : h.IsCell a v) (e : h.get? a = some (listOf xs n)) : False := by
  obtain ⟨o, ho, hd⟩ := hn
  cases ho.symm.trans e; cases hd
theorem ns_not_d {h : Heap} {a : Addr} {m : Str → Option Value} {o : Obj} (hn : h.Ns a m) (e : h.get? a = some o) : ¬ isD o := by
  obtain ⟨es, ep, hd⟩ := ns_data hn e
  rintro (⟨xs, n, q⟩ | ⟨_, vs, q⟩) <;> cases hd.symm.trans q
theorem cell_not_d {h : Heap} {a : Addr} {v : Option Value} {o : Obj} (hn : h.IsCell a v) (e : h.get? a = some o) : ¬ isD o := by
  obtain ⟨o', ho, hd⟩ := hn
  cases ho.symm.trans e
  rintro (⟨xs, n, q⟩ | ⟨_, vs, q⟩) <;> cases hd.symm.trans q
section
variable {C : Cfg} {A : Around} {ρ : List Addr} {mh : MH} {s : Shared} {env : Env}
theorem Bound.keep {h h' : Heap} {x : Str} {w : Value} (co : Co C ρ mh h) (k : Keep ρ h h') (b : Bound env h x w) : Bound env h' x w := by
  rcases b with ⟨hk, m, hn, hm⟩ | ⟨hk, c, hc, hi⟩
  · obtain ⟨o, es, ep, ho, r⟩ := id hn
    exact .inl ⟨hk, m, ⟨o, es, ep, k _ _ ho fun q => let ⟨_, _, g⟩ := co.mem_list q; ns_not_list hn g, r⟩, hm⟩
  · obtain ⟨o, ho, hd⟩ := id hi
    exact .inr ⟨hk, c, hc, o, k _ _ ho fun q => let ⟨_, _, g⟩ := co.mem_list q; cell_not_list hi g, hd⟩
theorem FrR.keep {h h' : Heap} {X : TX} {loc : Loc} (co : Co C ρ mh h) (k : Keep ρ h h') (f : FrR C X env loc ρ h) : FrR C X env loc ρ h' := fun i v e =>
  let ⟨x, w, a, b, c⟩ := f i v e; ⟨x, w, a, b.keep co k, c.keep k.d⟩
theorem Bound.load {x : Str} {w : Value} {Q : Value → Shared → Prop} (hk : env.scope.kind = .function) (b : Bound env s.heap x w) (h : Q w s) : WP C A (loadName env x) Q s := by
  rcases b with ⟨hl, m, hn, hm⟩ | ⟨hl, c, hc, hi⟩
  · exact wpAny_loadName_local hk hl hn hm h
  · exact wpAny_loadName_cell hk hl hc hi h
end
end Mine
end
section
open PySem PySem.Calls PySem.W PyProof.Rows PySem.SeqAt
set_option maxRecDepth 100000
set_option linter.unusedVariables false
namespace Mine
structure CfgOk (C : Cfg) (fns : List Str) : Prop where
  g : ∃ mg, C.hb.Ns mainGlobals mg ∧ (∀ (f : Nat) (x : Str), fns[f]? = some x → mg x = some (.ref (C.fa f)) ∧ ∃ o fd, C.hb.get? (C.fa f) = some o ∧ o.data = .func fd) ∧ (∀ x p, primOf x = some p → mg x = none) ∧ mg "isinstance" = none ∧ mg "bytes" = none
  b : ∃ mb, C.hb.Ns builtinsNs mb ∧ (∀ x p, primOf x = some p → mb x = some p.val) ∧ mb "isinstance" = some (.builtin "isinstance") ∧ mb "bytes" = some (.type "bytes")
  nolimit : C.hb.NoLimit
theorem CfgOk.ext {C : Cfg} {fns : List Str} {ξ : List Addr} (K : CfgOk C fns) : CfgOk { C with ξ := ξ } fns := { K with }
section
variable {C : Cfg} {A : Around} {ρ : List Addr} {mh : MH} {s : Shared} {env : Env} {fns : List Str} {sc : List (Str × NameKind)}
theorem no_debug {x : Str} (h : notDebug x = true) : (x == ("__debug__" : Str)) = false := (Bool.not_eq_true' _).mp h
theorem load_fn {f : Nat} {x : Str} {pos : Pos} {Q : V → MH → Prop} (q : Q (.fn f) mh) (K : CfgOk C fns) (hf : fns[f]? = some x) (ho : EnvOk env sc) (hx : sc.lookup x = some .globalImplicit) (hd : (x == ("__debug__" : Str)) = false) (co : Co C ρ mh s.heap) :
    WP C A (eval (.Name x pos) env) (PostQ C ρ s Q) s := by
  obtain ⟨mg, hg, hfn, _⟩ := K.g
  obtain ⟨e, o, fd, h1, h2⟩ := hfn f x hf
  refine Name_function_global ho.kind (ho.kinds x _ hx (by decide)) (loadGlobal_global (mg := mg) ?_ e (PostQ.pure q co (.fn h1 h2))) hd
  rw [ho.glob]; exact hg.keeps co.up
theorem load_bi {x : Str} {w : Value} {pos : Pos} {Q : Value → Shared → Prop} (ho : EnvOk env sc) (hx : sc.lookup x = some .globalImplicit) (hd : (x == ("__debug__" : Str)) = false) (co : Co C ρ mh s.heap)
    (hg : ∃ mg, C.hb.Ns mainGlobals mg ∧ mg x = none) (hb : ∃ mb, C.hb.Ns builtinsNs mb ∧ mb x = some w) (h : Q w s) : WP C A (eval (.Name x pos) env) Q s := by
  obtain ⟨mg, hg, hm⟩ := hg
  obtain ⟨mb, hb, hv⟩ := hb
  refine Name_function_global ho.kind (ho.kinds x _ hx (by decide)) (loadGlobal_builtin (mg := mg) (mb := mb) ?_ hm ?_ hv h) hd
  · rw [ho.glob]; exact hg.keeps co.up
  · rw [ho.blt]; exact hb.keeps co.up
theorem prim_debug {p : Prim} {x : Str} (hp : primOf x = some p) : (x == ("__debug__" : Str)) = false := by
  cases hq : x == ("__debug__" : Str) with
  | false => rfl
  | true =>
    have : primOf ("__debug__" : Str) = none := by rfl
    rw [eq_of_beq hq, this] at hp; cases hp
theorem load_prim {p : Prim} {x : Str} {pos : Pos} {Q : Value → Shared → Prop} (K : CfgOk C fns) (hp : primOf x = some p) (ho : EnvOk env sc) (hx : sc.lookup x = some .globalImplicit) (co : Co C ρ mh s.heap) (h : Q p.val s) :
    WP C A (eval (.Name x pos) env) Q s :=
  load_bi ho hx (prim_debug hp) co (let ⟨mg, hg, _, hm, _⟩ := K.g; ⟨mg, hg, hm x p hp⟩) (let ⟨mb, hb, hv, _⟩ := K.b; ⟨mb, hb, hv x p hp⟩) h
theorem load_isi {pos : Pos} {Q : Value → Shared → Prop} (K : CfgOk C fns) (ho : EnvOk env sc) (hx : sc.lookup ("isinstance" : Str) = some .globalImplicit) (co : Co C ρ mh s.heap) (h : Q (.builtin "isinstance") s) :
    WP C A (eval (.Name ("isinstance" : Str) pos) env) Q s :=
  load_bi ho hx (by decide) co (let ⟨mg, hg, _, _, hm, _⟩ := K.g; ⟨mg, hg, hm⟩) (let ⟨mb, hb, _, hv, _⟩ := K.b; ⟨mb, hb, hv⟩) h
theorem starEach_cons {e : Expr} {rest : List Expr} (h : isStar e = false) : starEach (e :: rest) env = (false, eval e env) :: starEach rest env := by
  cases e <;> first | rfl | exact Bool.noConfusion h
theorem any_star {pos : Pos} : ∀ {es : List Expr}, (es.all fun e => !isStar e) = true → (backTo pos (starEach es env)).any (·.1) = false
  | [], _ => rfl
  | e :: es, h => by
    simp only [List.all_cons, Bool.and_eq_true, Bool.not_eq_true'] at h
    rw [starEach_cons h.1]
    exact any_star (es := es) h.2
theorem method_call {o' : Expr} {n : Str} {apos pos : Pos} {args : List Expr} {Q : Value → Shared → Prop} (hb : simpleBase o' = true) (hp : (apos.endLine == pos.line) = true) (hs : (args.all fun e => !isStar e) = true) (hl : args.length < 10)
    (h : WP C A (eval o' env) (fun ov s₁ => ∃ id, (∀ pl (Q' : Value × List Value → Shared → Prop), Q' (.builtin id, [ov]) s₁ → WP C A (getMethod ov n pl) Q' s₁) ∧ WP C A (callWith pos (.builtin id) [ov] (backTo pos (starEach args env)) []) Q s₁) s) :
    WP C A (eval (.Call (.Attribute o' n apos) args [] pos) env) Q s := by
  have hbase : ∀ whole, attributeBase o' n env whole = whole := by
    intro whole
    cases o' <;> first | rfl | exact Bool.noConfusion hb
  show wpAny _ A (do
    let ov ← attributeBase o' n env (eval o' env)
    standAt apos.atName
    methodCall o' n apos pos env ov (args.length + 0) (backTo pos (starEach args env)) (backToKw pos (keywordEach [] env))) _ _ s
  rw [hbase]
  refine wpAny_bind (wpAny_mono h (fun ov s₁ h₁ => ?_) fun _ _ e => e)
  obtain ⟨id, hg, hc⟩ := h₁
  refine wpAny_bind (wpAny_standAt ?_)
  unfold methodCall
  have hform : methodCallForm (args.length + 0) (backTo pos (starEach args env)) (backToKw pos (keywordEach [] env)) = true := by
    unfold methodCallForm
    have h1 : ((backTo pos (starEach args env)).all fun x => !x.1) = true := by
      have := any_star (env := env) (pos := pos) hs
      rw [List.all_eq_not_any_not]
      simpa using this
    have h2 : (backToKw pos (keywordEach [] env)) = [] := rfl
    rw [h1, h2]
    simp
    omega
  rw [hform]
  refine wpAny_bind (wpAny_holding ?_)
  unfold calleeOf
  rw [if_pos rfl]
  refine hg _ _ ?_
  refine wpAny_bind ?_
  unfold methodCallPos
  rw [if_pos (by rw [hp]; rfl)]
  exact wpAny_pure hc
theorem mem_one' {α : Type} {a b : α} (h : a ∈ [b]) : b = a := (List.mem_singleton.mp h).symm
theorem pureVs_iff : ∀ {vs : List V}, pureVs vs ↔ ∀ v ∈ vs, pureV v
  | [] => ⟨(fun _ _ h => nomatch h), fun _ => trivial⟩
  | _ :: _ => ⟨fun h v m => (List.mem_cons.mp m).elim (fun e => e ▸ h.1) fun m => pureVs_iff.mp h.2 v m, fun h => ⟨h _ (.head _), pureVs_iff.mpr fun v m => h v (.tail _ m)⟩⟩
theorem append_ {i : Nat} {a : Addr} {vs : List V} {v : V} {x : Value} {Q : V → MH → Prop} (q0 : Q .none (mh.set i (vs ++ [v]))) (co : Co C ρ mh s.heap) (hi : ρ[i]? = some a) (hm : mh[i]? = some vs) (r : VRel C s.heap ρ v x) (hp : pureV v) (hl : vs.length ≤ lim) :
    WP C A (call (.builtin "list.append") [.ref a, x]) (PostQ C ρ s Q) s := by
  obtain ⟨xs, n, g, q⟩ := co.m.at' i a vs hi hm
  refine append_at g (fun h' hs ho' => ?_) (by rw [List.size_toArray, ← q.length]; exact lim_le hl)
  have ha : a ∈ ρ := List.mem_of_getElem? hi
  have e : xs.toArray.push x = (xs ++ [x]).toArray := List.push_toArray ..
  rw [e] at ho'
  have hpv : pureVs (vs ++ [v]) := pureVs_iff.mpr fun w m => (List.mem_append.mp m).elim (pureVs_iff.mp (co.pure vs (List.mem_of_getElem? hm)) w) fun m => mem_one' m ▸ hp
  exact ⟨h', s.toks, _, _, rfl, q0, fun b o e hb => (hs.2 b fun q => hb (q ▸ ha)).trans e, co.mutate hi hs ho' (q.append (.cons r .nil)) hpv, .none⟩
theorem insert_ {i : Nat} {a : Addr} {vs : List V} {v : V} {x : Value} {j : Int} {t : Tok} {Q : V → MH → Prop} (q0 : Q .none (mh.set i (vs.take j.toNat ++ v :: vs.drop j.toNat))) (co : Co C ρ mh s.heap) (hi : ρ[i]? = some a) (hm : mh[i]? = some vs) (r : VRel C s.heap ρ v x) (hp : pureV v) (hl : vs.length ≤ lim) (h0 : 0 ≤ j) (h1 : j ≤ vs.length) :
    WP C A (call (.builtin "list.insert") [.ref a, .int j t, x]) (PostQ C ρ s Q) s := by
  obtain ⟨xs, n, g, q⟩ := co.m.at' i a vs hi hm
  have hlim : vs.length ≤ 1048576 := hl
  have hf : Builtin.List.listFitsIndex j = true := by simp [Builtin.List.listFitsIndex]; omega
  refine call_meets PySem.F.slot_list_insert ⟨_, g, rfl⟩ PySem.F.entry_list_insert (PySem.F.args_list_insert_3 _ _ _) (PySem.AutoSeq1.list_insert_list_int_val_1 a _ n j t x (by simp [hf]) (by rw [List.size_toArray, ← q.length]; exact lim_le hl)) ⟨g, ?_⟩
  have ha : a ∈ ρ := List.mem_of_getElem? hi
  have hk : (if j < 0 then (j + (xs.toArray.size : Int)).toNat else min j.toNat xs.toArray.size) = j.toNat := by
    rw [if_neg (by omega), List.size_toArray, ← q.length]; omega
  have e : (xs.toArray.extract 0 (if j < 0 then (j + (xs.toArray.size : Int)).toNat else min j.toNat xs.toArray.size)).push x ++ xs.toArray.extract (if j < 0 then (j + (xs.toArray.size : Int)).toNat else min j.toNat xs.toArray.size) = (xs.take j.toNat ++ x :: xs.drop j.toNat).toArray := by
    rw [hk, kl_ins_eq]
  have u := IsL.update g (fun ys : Array Value => (ys.extract 0 (if j < 0 then (j + (ys.size : Int)).toNat else min j.toNat ys.size)).push x ++ ys.extract (if j < 0 then (j + (ys.size : Int)).toNat else min j.toNat ys.size))
  simp only [e] at u
  have hpv : pureVs (vs.take j.toNat ++ v :: vs.drop j.toNat) := by
    have h0 := pureVs_iff.mp (co.pure vs (List.mem_of_getElem? hm))
    refine pureVs_iff.mpr fun w hw => (List.mem_append.mp hw).elim (fun m => h0 w (List.mem_of_mem_take m)) fun m => (List.mem_cons.mp m).elim (fun e => e ▸ hp) fun m => h0 w (List.mem_of_mem_drop m)
  exact ⟨_, s.toks, _, _, rfl, q0, fun b o e hb => ((Heap.SameBut.update s.heap a _).2 b fun q => hb (q ▸ ha)).trans e, co.mutate hi (Heap.SameBut.update ..) u ((q.take _).append (.cons r (q.drop _))) hpv, .none⟩
noncomputable def freeCells (env : Env) : List (Str × NameKind) → List (Str × Addr) → List (Str × Addr)
  | [], acc => acc
  | (n, k) :: r, acc => if k == .free then freeCells env r ((n, (env.cells.lookup n).getD 0) :: acc) else freeCells env r acc
theorem closure_go {names : List (Str × NameKind)} (f : Str × NameKind → List (Str × Addr) → Sem (ForInStep (List (Str × Addr))))
    (hf : ∀ n k acc, f (n, k) acc = if k == .free then (do let a ← cellOf env n; pure (.yield ((n, a) :: acc))) else pure (.yield acc))
    (h : ∀ p ∈ names, p.2 = .free → ∃ c, env.cells.lookup p.1 = some c) (acc : List (Str × Addr)) : forIn names acc f = pure (freeCells env names acc) := by
  induction names generalizing acc with
  | nil => rfl
  | cons p r ih =>
    obtain ⟨n, k⟩ := p
    rw [List.forIn_cons, hf]
    by_cases hk : k = .free
    · subst hk
      obtain ⟨c, hc⟩ := h (n, .free) (.head _) rfl
      have e : cellOf env n = pure c := by unfold cellOf; rw [hc]
      simp only [beq_self_eq_true, if_true, e, pure_bind]
      rw [ih fun q hq => h q (.tail _ hq)]
      simp [freeCells, hc]
    · have hb : (k == NameKind.free) = false := by simpa using hk
      simp only [hb, Bool.false_eq_true, if_false, pure_bind]
      rw [ih fun q hq => h q (.tail _ hq)]
      simp [freeCells, hb]
theorem closure_eq {scope : Scope} (h : ∀ p ∈ scope.names, p.2 = .free → ∃ c, env.cells.lookup p.1 = some c) : closureFor scope env = pure (freeCells env scope.names []) := by
  simp only [closureFor]
  rw [closure_go (env := env) _ (fun n k acc => by cases hk : k == NameKind.free <;> simp [hk]) h]
  rfl
theorem freeCells_ok : ∀ (names : List (Str × NameKind)) (acc : List (Str × Addr)), (∀ p ∈ names, p.2 = .free → ∃ c, env.cells.lookup p.1 = some c) → (∀ p ∈ acc, env.cells.lookup p.1 = some p.2) →
    (∀ p ∈ freeCells env names acc, env.cells.lookup p.1 = some p.2) ∧ (∀ p ∈ acc, p ∈ freeCells env names acc) ∧ (∀ x, (x, NameKind.free) ∈ names → ∃ c, (x, c) ∈ freeCells env names acc)
  | [], acc, _, h2 => ⟨h2, fun _ h => h, fun _ h => nomatch h⟩
  | (n, k) :: r, acc, h1, h2 => by
    unfold freeCells
    by_cases hk : k = .free
    · subst hk
      obtain ⟨c, hc⟩ := h1 (n, .free) (.head _) rfl
      simp only [beq_self_eq_true, if_true]
      obtain ⟨a, b, d⟩ := freeCells_ok r ((n, (env.cells.lookup n).getD 0) :: acc) (fun p hp => h1 p (.tail _ hp)) (by
        intro p hp
        rcases List.mem_cons.mp hp with rfl | hp
        · simp [hc]
        · exact h2 p hp)
      refine ⟨a, fun p hp => b p (.tail _ hp), fun x hx => ?_⟩
      rcases List.mem_cons.mp hx with e | hx
      · cases e; exact ⟨_, b _ (.head _)⟩
      · exact d x hx
    · have hb : (k == NameKind.free) = false := by simpa using hk
      simp only [hb, Bool.false_eq_true, if_false]
      obtain ⟨a, b, d⟩ := freeCells_ok r acc (fun p hp => h1 p (.tail _ hp)) h2
      refine ⟨a, b, fun x hx => ?_⟩
      rcases List.mem_cons.mp hx with e | hx
      · cases e; exact absurd rfl hk
      · exact d x hx
theorem lookup_of_mem {cl : List (Str × Addr)} {x : Str} {c : Addr} (h : ∀ p ∈ cl, p.1 = x → p.2 = c) (hm : ∃ c', (x, c') ∈ cl) : cl.lookup x = some c := by
  induction cl with
  | nil => obtain ⟨_, hm⟩ := hm; cases hm
  | cons p r ih =>
    obtain ⟨n, a⟩ := p
    rw [List.lookup_cons]
    cases hb : x == n with
    | true =>
      have : n = x := (by simpa using hb : x = n).symm
      have e : a = c := h (n, a) (.head _) this
      rw [e]
    | false =>
      refine ih (fun p hp => h p (.tail _ hp)) ?_
      obtain ⟨c', hm⟩ := hm
      rcases List.mem_cons.mp hm with e | hm
      · cases e; simp at hb
      · exact ⟨c', hm⟩
theorem mem_of_lookupK {names : List (Str × NameKind)} {x : Str} {k : NameKind} (h : names.lookup x = some k) : (x, k) ∈ names := by
  induction names with
  | nil => cases h
  | cons p r ih =>
    obtain ⟨n, a⟩ := p
    rw [List.lookup_cons] at h
    cases hb : x == n with
    | true => rw [hb] at h; cases h; rw [(by simpa using hb : x = n)]; exact .head _
    | false => rw [hb] at h; exact .tail _ (ih h)
theorem lookup_relabel {names : List (Str × NameKind)} {x : Str} {k : NameKind} (h : names.lookup x = some k) :
    (names.map fun (n, k) => if (k == NameKind.free && env.scope.kind == .function && env.kindOf n == some .cell) then (n, NameKind.cell) else (n, k)).lookup x =
      some (if (k == NameKind.free && env.scope.kind == .function && env.kindOf x == some .cell) then NameKind.cell else k) := by
  induction names with
  | nil => cases h
  | cons p r ih =>
    obtain ⟨n, a⟩ := p
    rw [List.lookup_cons] at h
    rw [List.map_cons]
    cases hb : x == n with
    | true =>
      rw [hb] at h; cases h
      have : x = n := by simpa using hb
      subst this
      show List.lookup x ((if (k == NameKind.free && env.scope.kind == .function && env.kindOf x == some .cell) = true then (x, NameKind.cell) else (x, k)) :: _) = _
      by_cases hc : (k == NameKind.free && env.scope.kind == .function && env.kindOf x == some .cell) = true
      · rw [if_pos hc, if_pos hc, List.lookup_cons]; simp
      · rw [if_neg hc, if_neg hc, List.lookup_cons]; simp
    | false =>
      rw [hb] at h
      show List.lookup x ((if (a == NameKind.free && env.scope.kind == .function && env.kindOf n == some .cell) = true then (n, NameKind.cell) else (n, a)) :: _) = _
      by_cases hc : (a == NameKind.free && env.scope.kind == .function && env.kindOf n == some .cell) = true
      · rw [if_pos hc, List.lookup_cons, hb]; exact ih h
      · rw [if_neg hc, List.lookup_cons, hb]; exact ih h
structure CompSc (X : TX) (env : Env) (sc : List (Str × NameKind)) (scope : Scope) (caps : List Nat) : Prop where
  kind : scope.kind = .function
  nocell : ∀ y ∈ scope.names, y.2 ≠ .cell
  names : ∀ y ∈ scope.names, scope.names.lookup y.1 = some y.2
  free : ∀ y ∈ scope.names, y.2 = .free → sc.lookup y.1 = some .cell ∨ sc.lookup y.1 = some .free
  caps : ∀ i ∈ caps, ∃ x, X.vars[i]? = some x ∧ scope.names.lookup x = some .free
theorem compSc_of {X : TX} {scope : Scope} {caps : List Nat} (h : compScopeOk X sc scope caps = true) : CompSc X env sc scope caps := by
  unfold compScopeOk at h
  simp only [Bool.and_eq_true, List.all_eq_true, beq_iff_eq, bne_iff_ne, ne_eq, Bool.or_eq_true] at h
  obtain ⟨⟨⟨⟨h1, h2⟩, h3⟩, h4⟩, h5⟩ := h
  refine ⟨h1, fun y hy => (h2 y hy).1, h3, fun y hy e => ?_, fun i hi => ?_⟩
  · rcases h4 y hy with q | q
    · exact absurd e (by simpa using q)
    · exact q
  · have := h5 i hi
    cases e : X.vars[i]? with
    | none => rw [e] at this; cases this
    | some x => rw [e] at this; exact ⟨x, rfl, eq_of_beq this⟩
theorem CompSc.cellsOk {X : TX} {scope : Scope} {caps : List Nat} (S : CompSc X env sc scope caps) (ho : EnvOk env sc) : ∀ p ∈ scope.names, p.2 = .free → ∃ c, env.cells.lookup p.1 = some c :=
  fun p hp e => ho.cells _ (S.free p hp e)
theorem CompSc.envOk {X : TX} {scope : Scope} {caps : List Nat} {Cl : Addr} (S : CompSc X env sc scope caps) (ho : EnvOk env sc) : EnvOk (compEnvC scope (freeCells env scope.names []) Cl env) scope.names := by
  have hfree : ∀ x, scope.names.lookup x = some .free → env.kindOf x = some .cell := by
    intro x hx
    rcases S.free _ (mem_of_lookupK hx) rfl with q | q
    · exact ho.kinds x _ q (by decide)
    · exact ho.free x q
  refine ⟨S.kind, ho.glob, ho.blt, fun x k hx hk => ?_, fun x hx => ?_, fun x hx => ?_⟩
  · have := lookup_relabel (env := env) hx
    have hb : (k == NameKind.free) = false := by simpa using hk
    rw [hb] at this
    exact this
  · have := lookup_relabel (env := env) hx
    have hc : (NameKind.free == NameKind.free && env.scope.kind == .function && env.kindOf x == some .cell) = true := by rw [hfree x hx, ho.kind]; rfl
    rw [if_pos hc] at this
    exact this
  · rcases hx with hx | hx
    · exact absurd rfl (S.nocell _ (mem_of_lookupK hx))
    · obtain ⟨c, hc⟩ := S.cellsOk ho _ (mem_of_lookupK hx) rfl
      obtain ⟨a, _, d⟩ := freeCells_ok (env := env) scope.names [] (S.cellsOk ho) (fun _ h => nomatch h)
      exact ⟨c, lookup_of_mem (fun p hp e => by have := a p hp; rw [e, hc] at this; exact (Option.some.inj this).symm) (d x (mem_of_lookupK hx))⟩
theorem capGo_get {caps : List Nat} : ∀ {loc : Loc} {k i : Nat} {v : V}, (capGo caps k loc)[i]? = some (some v) → caps.contains (k + i) = true ∧ loc[i]? = some (some v)
  | [], _, _, _, h => by simp [capGo] at h
  | o :: r, k, 0, v, h => by
    simp only [capGo, List.getElem?_cons_zero, Option.some.injEq] at h
    split at h
    · rename_i hc; subst h; exact ⟨hc, rfl⟩
    · cases h
  | o :: r, k, i + 1, v, h => by
    simp only [capGo, List.getElem?_cons_succ] at h
    have := capGo_get (loc := r) h
    have e : k + 1 + i = k + (i + 1) := by omega
    rw [e] at this
    simpa using this
theorem CompSc.frame {X : TX} {scope : Scope} {caps : List Nat} {Cl : Addr} {loc : Loc} {x : Nat} {x' : Str} {u : V} {w : Value} {m : Str → Option Value} {h₂ h : Heap} (S : CompSc X env sc scope caps) (ho : EnvOk env sc)
    (hx : X.vars[x]? = some x') (hl : scope.names.lookup x' = some .local) (fr : FrR C X env loc ρ h₂) (kc : ∀ c v, h₂.IsCell c v → h.IsCell c v) (kd : KeepD ρ h₂ h) (hn : h.Ns Cl m) (hm : m x' = some w) (hu : VRel C h ρ u w) :
    FrR C X (compEnvC scope (freeCells env scope.names []) Cl env) (capLoc caps x u loc) ρ h := by
  intro i v e
  unfold capLoc at e
  by_cases hi : i = x
  · subst hi
    have hlt : i < (capGo caps 0 loc).length := by
      have := (List.getElem?_eq_some_iff.mp e).1
      simpa using this
    rw [List.getElem?_set_self hlt] at e
    cases e
    exact ⟨x', w, hx, .inl ⟨by have := lookup_relabel_local (env := env) hl; exact this, m, hn, hm⟩, hu⟩
  · rw [List.getElem?_set_ne (Ne.symm hi)] at e
    obtain ⟨hc, e⟩ := capGo_get e
    obtain ⟨y, w', hy, hb, hv⟩ := fr i v e
    obtain ⟨y', hy', hf⟩ := S.caps i (by simpa using hc)
    rw [hy] at hy'; cases hy'
    have hk : env.kindOf y = some .cell := by
      rcases S.free _ (mem_of_lookupK hf) rfl with q | q
      · exact ho.kinds y _ q (by decide)
      · exact ho.free y q
    rcases hb with ⟨q, _⟩ | ⟨_, c, hc', hcell⟩
    · rw [hk] at q; cases q
    · refine ⟨y, w', hy, .inr ⟨(S.envOk (Cl := Cl) ho).free y hf, c, ?_, kc c _ hcell⟩, hv.keep kd⟩
      obtain ⟨a, _, d⟩ := freeCells_ok (env := env) scope.names [] (S.cellsOk ho) (fun _ h => nomatch h)
      exact lookup_of_mem (fun p hp e => by have := a p hp; rw [e, hc'] at this; exact (Option.some.inj this).symm) (d y (mem_of_lookupK hf))
end
end Mine
end
section
open PySem PySem.Calls PySem.W PyProof.Rows PySem.SeqAt
set_option maxRecDepth 100000
set_option linter.unusedVariables false
namespace Mine
section
variable {C : Cfg} {A : Around} {ρ : List Addr} {mh : MH} {s : Shared} {env : Env} {fns : List Str} {sc : List (Str × NameKind)}
noncomputable abbrev testsOf (ifs : List Expr) (cenv : Env) : Sem Bool :=
  forIn ifs true fun c r => if r = true then do let ok ← isTrue c cenv (eval c cenv); pure (ForInStep.yield ok) else pure (ForInStep.yield r)
theorem get_none_of {h : Heap} {a : Addr} (ha : h.objs.size ≤ a) : ∀ o, h.get? a ≠ some o := fun _ e => absurd (Heap.lt_size e) (Nat.not_lt.mpr ha)
theorem none_of {h : Heap} {a : Addr} (q : ∀ o, h.get? a ≠ some o) : h.get? a = none := Option.eq_none_iff_forall_ne_some.mpr q
theorem Co.base_none {h : Heap} {D : Addr} (co : Co C ρ mh h) (hD : ∀ o, h.get? D ≠ some o) : C.hb.get? D = none := none_of fun o e => hD o (co.up D o e)
theorem Co.rho_none {h : Heap} {D : Addr} (co : Co C ρ mh h) (hD : ∀ o, h.get? D ≠ some o) : D ∉ ρ := fun q => let ⟨_, _, g⟩ := co.mem_list q; hD _ g
theorem Co.into {h : Heap} {D : Addr} (co : Co C ρ mh h) (hD : ∀ o, h.get? D ≠ some o) {h' : Heap} (k : ∀ b o, h.get? b = some o → h'.get? b = some o) (hl : ∃ o, h'.get? D = some o) : Co (C.with D) ρ mh h' := by
  refine ⟨fun a o e => k a o (co.up a o e), co.new, ⟨co.m.len, co.m.nodup, fun i a vs e1 e2 => ?_⟩, co.pure, fun a ha => ?_, fun a ha => ?_⟩
  · obtain ⟨xs, n, g, r⟩ := co.m.at' i a vs e1 e2
    exact ⟨xs, n, k _ _ g, (r.into hD).keep (Keep.of_all k).d⟩
  · rcases List.mem_cons.mp ha with rfl | ha
    · exact hl
    · obtain ⟨o, ho⟩ := co.live a ha; exact ⟨o, k a o ho⟩
  · rcases List.mem_cons.mp ha with rfl | ha
    · exact ⟨co.rho_none hD, co.base_none hD⟩
    · exact co.apart a ha
theorem Co.out {h : Heap} {D : Addr} (co : Co (C.with D) ρ mh h) : Co C ρ mh h :=
  ⟨co.up, co.new, ⟨co.m.len, co.m.nodup, fun i a vs e1 e2 => let ⟨xs, n, g, r⟩ := co.m.at' i a vs e1 e2; ⟨xs, n, g, r.out⟩⟩, co.pure, fun a ha => co.live a (.tail _ ha), fun a ha => co.apart a (.tail _ ha)⟩
structure CI (C : Cfg) (ρ : List Addr) (mh : MH) (h₀ : Heap) (v : V) (I D Cl : Addr) (i : Nat) (oi : List V) (ys : List Value) (n : Nat) (h : Heap) : Prop where
  co : Co (C.with D) ρ mh h
  st : ItSt (C.with D) ρ h v I i
  ns : ∃ m, h.Ns Cl m
  acc : h.get? D = some (listOf ys.toArray n)
  all : VAll (C.with D) h ρ oi ys
  keep : ∀ b o, h₀.get? b = some o → b ≠ I → b ∉ ρ → h.get? b = some o
structure CN (C : Cfg) (ρ : List Addr) (h₀ : Heap) (I D Cl : Addr) : Prop where
  hD : ∀ o, h₀.get? D ≠ some o
  hC : ∀ o, h₀.get? Cl ≠ some o
  ic : I ≠ Cl
  id : I ≠ D
  dc : D ≠ Cl
  bi : C.hb.get? I = none
  bd : C.hb.get? D = none
  bc : C.hb.get? Cl = none
  ri : I ∉ ρ
  rd : D ∉ ρ
  rc : Cl ∉ ρ
variable {h₀ h h' : Heap} {v : V} {I D Cl : Addr} {i n : Nat} {oi : List V} {ys : List Value}
theorem CI.step (x : CI C ρ mh h₀ v I D Cl i oi ys n h) (N : CN C ρ h₀ I D Cl) (k : Keep ρ h h') (co : Co (C.with D) ρ mh h') : CI C ρ mh h₀ v I D Cl i oi ys n h' :=
  ⟨co, x.st.keep (fun o e => k I o e N.ri) k.d, let ⟨m, o, es, ep, ho, r⟩ := x.ns; ⟨m, o, es, ep, k Cl o ho N.rc, r⟩, k D _ x.acc N.rd, x.all.keep k.d, fun b o e h1 h2 => k b o (x.keep b o e h1 h2) h2⟩
theorem CI.moved (x : CI C ρ mh h₀ v I D Cl i oi ys n h) (N : CN C ρ h₀ I D Cl) (hs : ∀ a o, h.get? a = some o → a ≠ I → h'.get? a = some o) (st : ItSt (C.with D) ρ h' v I (i + 1)) : CI C ρ mh h₀ v I D Cl (i + 1) oi ys n h' := by
  obtain ⟨o', h1, h2⟩ := x.st.obj
  have nI : ∀ o, h.get? I = some o → ¬ isD o := fun o e => by cases h1.symm.trans e; exact h2
  have kd : KeepD ρ h h' := fun a o e d _ => hs a o e (by rintro rfl; exact nI o e d)
  obtain ⟨m, o, es, ep, ho, r⟩ := x.ns
  obtain ⟨oI, hoI, _⟩ := st.obj
  exact ⟨x.co.one (b := I) hs N.bi nI ⟨oI, hoI⟩, st, ⟨m, o, es, ep, hs _ _ ho (Ne.symm N.ic), r⟩, hs _ _ x.acc (Ne.symm N.id), x.all.keep kd, fun b o e h1 h2 => hs b o (x.keep b o e h1 h2) h1⟩
theorem CI.named {m : Str → Option Value} (x : CI C ρ mh h₀ v I D Cl i oi ys n h) (N : CN C ρ h₀ I D Cl) (hs : Heap.SameBut Cl h h') (ns : h'.Ns Cl m) : CI C ρ mh h₀ v I D Cl i oi ys n h' := by
  obtain ⟨m0, ns0⟩ := x.ns
  have nC : ∀ o, h.get? Cl = some o → ¬ isD o := fun o e => ns_not_d ns0 e
  have kd : KeepD ρ h h' := fun a o e d _ => (hs.2 a (by rintro rfl; exact nC o e d)).trans e
  obtain ⟨o, _, _, ho, _⟩ := id ns
  exact ⟨x.co.one (b := Cl) (fun a o e ne => (hs.2 a ne).trans e) N.bc nC ⟨o, ho⟩, x.st.keep (fun o e => (hs.2 I N.ic).trans e) kd, ⟨m, ns⟩, (hs.2 D N.dc).trans x.acc, x.all.keep kd,
    fun b o e h1 h2 => (hs.2 b (by rintro rfl; exact N.hC o e)).trans (x.keep b o e h1 h2)⟩
theorem CI.laid {y : V} {w : Value} {n' : Nat} (x : CI C ρ mh h₀ v I D Cl i oi ys n h) (N : CN C ρ h₀ I D Cl) (hs : Heap.SameBut D h h') (ho : h'.get? D = some (listOf (ys ++ [w]).toArray n')) (r : VRel (C.with D) h ρ y w) : CI C ρ mh h₀ v I D Cl i (oi ++ [y]) (ys ++ [w]) n' h' := by
  have kd : KeepD (ρ ++ (C.with D).ξ) h h' := fun a o e _ nn => (hs.2 a (by rintro rfl; exact nn (List.mem_append.mpr (.inr (.head _))))).trans e
  obtain ⟨m, o, es, ep, hoN, rN⟩ := x.ns
  refine ⟨x.co.keepX (X := [D]) (fun a o e nn => (hs.2 a fun q => nn (q ▸ .head _)).trans e) (fun b hb => mem_one hb ▸ N.bd) (fun b hb => .inr (mem_one hb ▸ .head _)) (fun b hb _ => mem_one hb ▸ ⟨_, ho⟩), x.st.keepX (fun o e => (hs.2 I N.id).trans e) kd,
    ⟨m, o, es, ep, (hs.2 Cl (Ne.symm N.dc)).trans hoN, rN⟩, ho, (x.all.keepX kd).append (.cons (r.keepX kd) .nil), fun b o e h1 h2 => (hs.2 b (by rintro rfl; exact N.hD o e)).trans (x.keep b o e h1 h2)⟩
noncomputable def CSt (C : Cfg) (ρ : List Addr) (mh : MH) (s : Shared) (v : V) (I D Cl : Addr) (vs : List V) (J : Nat → List V → Prop) (k : Nat) (s' : Shared) : Prop :=
  ∃ h' tk i oi ys n, s' = { s with heap := h', toks := tk } ∧ i ≤ vs.length ∧ k = vs.length + 1 - i ∧ J i oi ∧ oi.length ≤ i ∧ CI C ρ mh s.heap v I D Cl i oi ys n h'
theorem CSt.mk {vs : List V} {J : Nat → List V → Prop} {H : Heap} {tk : Nat} (hi : i ≤ vs.length) (hJ : J i oi) (hl : oi.length ≤ i) (ci : CI C ρ mh s.heap v I D Cl i oi ys n H) : CSt C ρ mh s v I D Cl vs J (vs.length + 1 - i) { s with heap := H, toks := tk } :=
  ⟨H, tk, i, oi, ys, n, rfl, hi, rfl, hJ, hl, ci⟩
theorem WP.go {C' : Cfg} {s s' : Shared} {t : Sem Value} {R : Value → Shared → Prop} {Q : V → MH → Prop} (h : WP C A t (PostQ C' ρ s Q) s') (n : ∀ x h₁ tk₁ v m, Q v m → Keep ρ s.heap h₁ → Co C' ρ m h₁ → VRel C' h₁ ρ v x → R x { s with heap := h₁, toks := tk₁ }) : WP C A t R s' :=
  h.mono fun x s' p => by obtain ⟨h₁, tk₁, v, m, e, q, k, co, r⟩ := p; exact e ▸ n x h₁ tk₁ v m q k co r
theorem WP.goL {t : Sem (List Value)} {R : List Value → Shared → Prop} {Q : List V → MH → Prop} (h : WP C A t (PostL C ρ s Q) s) (n : ∀ x h₁ tk₁ v m, Q v m → Keep ρ s.heap h₁ → Co C ρ m h₁ → VAll C h₁ ρ v x → R x { s with heap := h₁, toks := tk₁ }) : WP C A t R s :=
  h.mono fun x s' p => by obtain ⟨h₁, tk₁, v, m, e, q, k, co, r⟩ := p; exact e ▸ n x h₁ tk₁ v m q k co r
theorem WP.goB {C' : Cfg} {s s' : Shared} {t : Sem Bool} {R : Bool → Shared → Prop} {Q : Bool → MH → Prop} (h : WP C A t (PostB C' ρ s Q) s') (n : ∀ b h₁ tk₁ m, Q b m → Keep ρ s.heap h₁ → Co C' ρ m h₁ → R b { s with heap := h₁, toks := tk₁ }) : WP C A t R s' :=
  h.mono fun b s' p => by obtain ⟨h₁, tk₁, m, e, q, k, co⟩ := p; exact e ▸ n b h₁ tk₁ m q k co
section
variable {X : TX} {scope : Scope} {caps : List Nat} {loc : Loc} {x : Nat} {x' : Str} {px : Pos} {vs : List V} {H : Heap} {tk : Nat} {R : Option Value → Shared → Prop}
theorem comp_turn {u : V} (hit : iterItems mh v = some vs) (hu : vs[i]? = some u) (S : CompSc X env sc scope caps) (ho : EnvOk env sc) (hx : X.vars[x]? = some x') (hl : scope.names.lookup x' = some .local)
    (co : Co C ρ mh s.heap) (fr : FrR C X env loc ρ s.heap) (st : ItSt C ρ s.heap v I 0) (N : CN C ρ s.heap I D Cl) (ci : CI C ρ mh s.heap v I D Cl i oi ys n H)
    (k : ∀ w s₁, (∀ R' : Unit → Shared → Prop, (∀ Hb tkb, CI C ρ mh s.heap v I D Cl (i + 1) oi ys n Hb → FrR (C.with D) X (compEnvC scope (freeCells env scope.names []) Cl env) (capLoc caps x u loc) ρ Hb → R' () { s with heap := Hb, toks := tkb }) → WP C A (assign (.Name x' px) (compEnvC scope (freeCells env scope.names []) Cl env) w) R' s₁) → R (some w) s₁) :
    WP C A (pyNext (.ref I)) R { s with heap := H, toks := tk } := by
  obtain ⟨oI, vI, hoI, hdI, hnI⟩ := st.obj'
  refine (iter_next (C := C.with D) (A := A) (s := { s with heap := H, toks := tk }) hit hu ci.co ci.st).mono ?_
  rintro _ _ ⟨w, Ha, tka, rfl, rfl, hsa, sta, rw⟩
  refine k w _ fun R' h => ?_
  have ca := ci.moved N (fun a o e ne => (hsa.2 a ne).trans e) sta
  obtain ⟨m, nsA⟩ := ca.ns
  refine wpAny_assign_Name (wpAny_storeName_local (lookup_relabel_local hl) nsA (fun Hb nsb hsb => ?_) (by simp [compEnvC, relabel, S.kind]))
  change Heap.SameBut Cl Ha Hb at hsb
  have cb := ca.named N hsb nsb
  have kdB : KeepD ρ Ha Hb := fun a o e d _ => (hsb.2 a (by rintro rfl; exact ns_not_d nsA e d)).trans e
  have kdS : KeepD ρ s.heap Hb := fun a o e d nn => cb.keep a o e (by rintro rfl; cases hoI.symm.trans e; exact hnI d) nn
  refine h Hb _ cb (S.frame (C := C.with D) ho hx hl (fun j v e => let ⟨y, w, a, b, c⟩ := fr j v e; ⟨y, w, a, b, c.into N.hD⟩) (fun c v hc => ?_) kdS nsb (if_pos rfl) (rw.keep kdB))
  obtain ⟨o, ho', hd⟩ := id hc
  refine ⟨o, cb.keep c o ho' ?_ fun q => let ⟨_, _, g⟩ := co.mem_list q; cell_not_list hc g, hd⟩
  rintro rfl; cases hoI.symm.trans ho'; cases hdI.symm.trans hd
theorem comp_end (hit : iterItems mh v = some vs) (hh : A.handled = none) (hI : C.hb.get? I = none) (hIξ : I ∉ C.ξ) (co : Co C ρ mh s.heap) (hDe : s.heap.objs.size ≤ D) (N : CN C ρ s.heap I D Cl) (ci : CI C ρ mh s.heap v I D Cl vs.length oi ys n H)
    (k : ∀ Ha m, Co C ρ mh Ha → VRel C Ha ρ (.list oi) (.ref D) → Ha.Ns Cl m → Keep (I :: ρ) s.heap Ha → R none { s with heap := Ha, toks := tk }) : WP C A (pyNext (.ref I)) R { s with heap := H, toks := tk } := by
  refine (iter_end (C := C.with D) (A := A) (s := { s with heap := H, toks := tk }) hit ci.co hh ci.st).mono ?_
  rintro _ _ ⟨Ha, rfl, rfl, hsa⟩
  obtain ⟨o', h1, h2⟩ := ci.st.obj
  have nIH : ∀ o, H.get? I = some o → ¬ isD o := fun o e => by cases h1.symm.trans e; exact h2
  have kH : ∀ a o, H.get? a = some o → a ≠ I → Ha.get? a = some o := fun a o e ne => hsa a o ne e
  have kdA : KeepD ρ H Ha := fun a o e d _ => kH a o e (by rintro rfl; exact nIH o e d)
  have coA : Co C ρ mh Ha :=
    (ci.co.keepX (X := [I]) (fun a o e nn => kH a o e fun q => nn (q ▸ .head _)) (fun b hb => mem_one hb ▸ hI) (fun b hb => .inl (mem_one hb ▸ nIH)) (fun b hb hb' => by
      rw [mem_one hb] at hb'
      exact (List.mem_cons.mp hb').elim (fun q => absurd q N.id) fun q => absurd q hIξ)).out
  have accA : Ha.get? D = some (listOf ys.toArray n) := kH D _ ci.acc (Ne.symm N.id)
  obtain ⟨m, oN, es, ep, hoN, rN⟩ := ci.ns
  exact k Ha m coA (.list ⟨_, accA, rfl, n, rfl⟩ (co.fresh hDe) (ci.all.keep kdA).out) ⟨oN, es, ep, kH Cl oN hoN (Ne.symm N.ic), rN⟩
    fun b o e nn => kH b o (ci.keep b o e (fun q => nn (q ▸ .head _)) fun q => nn (.tail _ q)) fun q => nn (q ▸ .head _)
end
noncomputable def CEnd (C : Cfg) (ρ : List Addr) (mh : MH) (s : Shared) (I : Addr) (K : List V → Prop) (RR : Value → Addr → Result → Shared → Prop) : Prop :=
  ∀ D Cl h' tk m outs, K outs → s.heap.get? D = none → s.heap.get? Cl = none → D ≠ Cl → Co C ρ mh h' → VRel C h' ρ (.list outs) (.ref D) → h'.Ns Cl m → Keep (I :: ρ) s.heap h' → RR (.ref D) Cl (.ok .next) { s with heap := h', toks := tk }
theorem next_lt {i n : Nat} (h : i < n) : n + 1 - (i + 1) < n + 1 - i := Nat.sub_succ_lt_self _ _ (Nat.lt_succ_of_lt h)
section
variable {X : TX} {scope : Scope} {caps : List Nat} {loc : Loc} {tst : V → (Bool → Prop) → Prop} {el : V → (V → Prop) → Prop} {K : List V → Prop} {vs : List V} {x : Nat} {x' : Str} {px pos : Pos} {elt' iter' : Expr} {ifs' : List Expr}
    {RR : Value → Addr → Result → Shared → Prop}
    (hit : iterItems mh v = some vs) (hgo : compW tst el vs K) (hlim : vs.length ≤ lim) (S : CompSc X env sc scope caps) (ho : EnvOk env sc) (hx : X.vars[x]? = some x') (hl : scope.names.lookup x' = some .local)
    (co : Co C ρ mh s.heap) (fr : FrR C X env loc ρ s.heap) (st : ItSt C ρ s.heap v I 0) (hI : C.hb.get? I = none) (hIξ : I ∉ C.ξ) (hh : A.handled = none)
    (htest : ∀ D u K' h tk Cl, tst u K' → Co (C.with D) ρ mh h → FrR (C.with D) X (compEnvC scope (freeCells env scope.names []) Cl env) (capLoc caps x u loc) ρ h →
      WP C A (testsOf ifs' (compEnvC scope (freeCells env scope.names []) Cl env)) (PostB (C.with D) ρ { s with heap := h, toks := tk } fun b m => m = mh ∧ K' b) { s with heap := h, toks := tk })
    (helt : ∀ D u K' h tk Cl, el u K' → Co (C.with D) ρ mh h → FrR (C.with D) X (compEnvC scope (freeCells env scope.names []) Cl env) (capLoc caps x u loc) ρ h →
      WP C A (eval elt' (compEnvC scope (freeCells env scope.names []) Cl env)) (PostQ (C.with D) ρ { s with heap := h, toks := tk } fun y m => m = mh ∧ K' y) { s with heap := h, toks := tk })
    (hRR : CEnd C ρ mh s I K RR)
include hit hgo hlim S ho hx hl co fr st hI hIξ hh htest helt hRR
theorem comp_loop {h₁ : Heap} {tk₁ : Nat} (N : CN C ρ s.heap I D Cl) (hDe : s.heap.objs.size ≤ D) (ci₀ : CI C ρ mh s.heap v I D Cl 0 [] [] 0 h₁) :
    codeAny (model C.prog C.w) A (.compLoop (.ListComp elt' [⟨.Name x' px, iter', ifs', 0⟩] scope pos) 0 (.ref I) (.ref D) (compEnvC scope (freeCells env scope.names []) Cl env)) (RR (.ref D) Cl) { s with heap := h₁, toks := tk₁ } := by
  obtain ⟨J, hJ0, hJ, hJe⟩ := hgo
  refine codeAny_compLoop_tests (CSt C ρ mh s v I D Cl vs J) (fun k s' q => ?_) (vs.length + 1)
    (CSt.mk (Nat.zero_le _) hJ0 (Nat.le_refl _) ci₀)
  obtain ⟨H, tk, i, oi, ys, n, rfl, hi, rfl, hrest, hoi, ci⟩ := q
  by_cases hlt : i < vs.length
  · have hu : vs[i]? = some vs[i] := List.getElem?_eq_getElem hlt
    have hrest := hJ i vs[i] oi hu hrest
    refine wp_e (comp_turn hit hu S ho hx hl co fr st N ci fun w s₁ asg => wp_e (asg _ fun Hb tkb cb frB => wp_e ((htest D _ _ Hb tkb Cl hrest cb.co frB).goB fun b Hc tkc _ hb kC coC => ?_)))
    obtain ⟨rfl, hb⟩ := hb
    have cc := cb.step N kC coC
    cases b with
    | false => exact ⟨_, next_lt hlt, CSt.mk hlt hb (Nat.le_succ_of_le hoi) cc⟩
    | true =>
      refine wp_e ((helt D _ _ Hc tkc Cl hb coC (frB.keep cb.co kC)).go fun w' Hd tkd y _ hy kD coD rD => ?_)
      obtain ⟨rfl, hy⟩ := hy
      have cd := cc.step N kD coD
      refine append_at cd.acc (fun He hse hoe => ?_) (by rw [List.size_toArray, ← ci.all.length]; exact lim_le (Nat.le_trans (Nat.le_trans hoi hi) hlim))
      rw [List.push_toArray] at hoe
      exact ⟨_, next_lt hlt, CSt.mk hlt hy (by rw [List.length_append, List.length_singleton]; exact Nat.succ_le_succ hoi) (cd.laid N hse hoe rD)⟩
  · have e : i = vs.length := Nat.le_antisymm hi (Nat.le_of_not_lt hlt)
    subst e
    exact wp_e (comp_end hit hh hI hIξ co hDe N ci fun Ha m c r ns kp => hRR D Cl Ha _ m oi (hJe oi hrest) (none_of N.hD) (none_of N.hC) N.dc c r ns kp)
end
theorem comp_start {e0 : Expr} {X : TX} {scope : Scope} {caps : List Nat} {RR : Value → Addr → Result → Shared → Prop} (S : CompSc X env sc scope caps) (co : Co C ρ mh s.heap) (st : ItSt C ρ s.heap v I 0) (hI : C.hb.get? I = none)
    (main : ∀ D Cl h₁ tk₁, CN C ρ s.heap I D Cl → s.heap.objs.size ≤ D → CI C ρ mh s.heap v I D Cl 0 [] [] 0 h₁ → codeAny (model C.prog C.w) A (.compStart e0 0 (.ref I) (.ref D) (compEnvC scope (freeCells env scope.names []) Cl env)) (RR (.ref D) Cl) { s with heap := h₁, toks := tk₁ }) :
    WP C A (newList []) (fun acc s₃ => WP C A (newFunctionEnv scope env.globals (freeCells env scope.names []) [] env.qual none .none (some env)) (fun cenv s₄ =>
      codeAny (model C.prog C.w) A (.compStart e0 0 (.ref I) acc { cenv with scope := relabel scope env }) (RR acc cenv.locals) s₄) s₃) s := by
  refine wpAny_newObj_type (wpAny_newFunctionEnv S.nocell (fun y hy => nomatch hy) (fun h₁ hns₁ hsb₁ => ?_) S.kind)
  have hC := Heap.size_push s.heap { cls := .type "list", dict := none, data := .seq ([] : List Value).toArray }
  have hDn : ∀ o, s.heap.get? s.heap.objs.size ≠ some o := get_none_of (Nat.le_refl _)
  have hCn : ∀ o, s.heap.get? (s.heap.push { cls := .type "list", dict := none, data := .seq ([] : List Value).toArray }).objs.size ≠ some o := get_none_of (by rw [hC]; exact Nat.le_succ _)
  have hDC : s.heap.objs.size ≠ (s.heap.push { cls := .type "list", dict := none, data := .seq ([] : List Value).toArray }).objs.size := by rw [hC]; exact Nat.ne_of_lt (Nat.lt_succ_self _)
  have old : ∀ b o, s.heap.get? b = some o → h₁.get? b = some o := fun b o e =>
    hsb₁.extBut b o (by rintro rfl; exact hCn o e) (Heap.get?_push_of_some _ (Heap.get?_push_of_some _ e))
  have hacc : h₁.get? s.heap.objs.size = some (listOf #[] 0) := hsb₁.extBut _ _ hDC (Heap.get?_push_of_some _ (Heap.get?_push_size _ rfl))
  obtain ⟨oI, vI, hoI, hdI, hnI⟩ := st.obj'
  exact main s.heap.objs.size _ h₁ _ ⟨hDn, hCn, (by rintro rfl; exact hCn _ hoI), (by rintro rfl; exact hDn _ hoI), hDC, hI, co.base_none hDn, co.base_none hCn, (fun q => by obtain ⟨xs, n, g⟩ := co.mem_list q; cases hoI.symm.trans g; cases hdI), co.rho_none hDn, co.rho_none hCn⟩ (Nat.le_refl _)
    ⟨co.into hDn old ⟨_, hacc⟩, (st.into hDn).keep (fun o e => old I o e) (Keep.of_all old).d, ⟨_, hns₁⟩, hacc, .nil, fun b o e _ _ => old b o e⟩
end
end Mine
end
section
open PySem PySem.Calls PySem.W PyProof.Rows PySem.SeqAt
set_option maxRecDepth 100000
set_option linter.unusedVariables false
namespace Mine
noncomputable abbrev two (elt t1 i1 t2 i2 : Expr) (scope : Scope) (pos : Pos) : Expr := .ListComp elt [⟨t1, i1, [], 0⟩, ⟨t2, i2, [], 0⟩] scope pos
theorem compTurn_two0 (elt t1 i1 t2 i2 : Expr) (scope : Scope) (pos : Pos) (it acc : Value) (env : Env) :
    compTurn (two elt t1 i1 t2 i2 scope pos) 0 it acc env = (standAt i1.pos >>= fun _ => pyNext it >>= fun r => match r with
      | none => pure (.done .next)
      | some v => letOwnedTupleGo t1 it v >>= fun _ => assign t1 env v >>= fun _ =>
        eval i2 env >>= fun x => standAt i2.pos >>= fun _ => foldedSetIterable i2 env x >>= fun x => holding [x] (pyIter x) >>= fun it' => runOwn (.compStart (two elt t1 i1 t2 i2 scope pos) 1 it' acc env) env >>= fun _ =>
          again (.compLoop (two elt t1 i1 t2 i2 scope pos) 0 it acc env)) := by rfl
theorem compTurn_two1 (elt t1 i1 t2 i2 : Expr) (scope : Scope) (pos : Pos) (it acc : Value) (env : Env) :
    compTurn (two elt t1 i1 t2 i2 scope pos) 1 it acc env = (standAt i2.pos >>= fun _ => pyNext it >>= fun r => match r with
      | none => pure (.done .next)
      | some v => letOwnedTupleGo t2 it v >>= fun _ => assign t2 env v >>= fun _ =>
        (eval elt env >>= fun x => call (.builtin "list.append") [acc, x] >>= fun _ => pure ()) >>= fun _ =>
          again (.compLoop (two elt t1 i1 t2 i2 scope pos) 1 it acc env)) := by rfl
section
variable {C : Cfg} {A : Around} {R : Result → Shared → Prop} {s : Shared} {elt t1 i1 t2 i2 : Expr} {scope : Scope} {pos : Pos} {it acc : Value} {env : Env}
theorem loop_two0 (I : Nat → Shared → Prop) (hs : ∀ x, foldedSetIterable i2 env x = pure x)
    (turn : ∀ n s, I n s → WP C A (pyNext it) (fun r s₁ => match r with
      | none => R (.ok .next) s₁
      | some v => WP C A (assign t1 env v) (fun _ s₂ => WP C A (eval i2 env) (fun x s₃ => WP C A (pyIter x) (fun it' s₄ =>
          codeAny (model C.prog C.w) A (.compStart (two elt t1 i1 t2 i2 scope pos) 1 it' acc env) (fun r s₅ => r = .ok .next ∧ ∃ m, m < n ∧ I m s₅) s₄) s₃) s₂) s₁) s)
    (n : Nat) (h : I n s) (ht : ∀ v, letOwnedTupleGo t1 it v = pure ()) :
    codeAny (model C.prog C.w) A (.compLoop (two elt t1 i1 t2 i2 scope pos) 0 it acc env) R s := by
  refine codeAny_loop rfl I (fun n s hI => ?_) n h
  show wpAny _ A ((compTurn (two elt t1 i1 t2 i2 scope pos) 0 it acc env).onRaise (fun x => do noteFrame x env; theTreesLotGoes x)) _ _ s
  refine wpAny_noted ?_
  rw [compTurn_two0]
  refine wpAny_bind (wpAny_standAt (wpAny_bind (wpAny_mono (turn n s hI) (fun r s₁ h₁ => ?_) fun _ _ f => f.elim)))
  cases r with
  | none => exact wpAny_pure h₁
  | some v =>
    refine wpAny_bind (wpAny_of_eq (ht v) (wpAny_bind (wpAny_mono h₁ (fun _ s₂ h₂ => ?_) fun _ _ f => f.elim)))
    refine wpAny_bind (wpAny_mono h₂ (fun x s₃ h₃ => wpAny_bind (wpAny_standAt (wpAny_bind (wpAny_of_eq (hs x) ?_)))) fun _ _ f => f.elim)
    refine wpAny_bind (wpAny_holding (wpAny_mono h₃ (fun it' s₄ h₄ => ?_) fun _ _ f => f.elim))
    refine wpAny_bind (wpAny_runOwn (codeAny_mono h₄ fun r s₅ h₅ => ?_))
    obtain ⟨rfl, h₅⟩ := h₅
    exact wpAny_pure ⟨rfl, h₅⟩
theorem loop_two1 (I : Nat → Shared → Prop)
    (turn : ∀ n s, I n s → WP C A (pyNext it) (fun r s₁ => match r with
      | none => R (.ok .next) s₁
      | some v => WP C A (assign t2 env v) (fun _ s₂ => WP C A (eval elt env) (fun x s₃ =>
          WP C A (call (.builtin "list.append") [acc, x]) (fun _ s₄ => ∃ m, m < n ∧ I m s₄) s₃) s₂) s₁) s)
    (n : Nat) (h : I n s) (ht : ∀ v, letOwnedTupleGo t2 it v = pure ()) :
    codeAny (model C.prog C.w) A (.compLoop (two elt t1 i1 t2 i2 scope pos) 1 it acc env) R s := by
  refine codeAny_loop rfl I (fun n s hI => ?_) n h
  show wpAny _ A ((compTurn (two elt t1 i1 t2 i2 scope pos) 1 it acc env).onRaise (fun x => do noteFrame x env; theTreesLotGoes x)) _ _ s
  refine wpAny_noted ?_
  rw [compTurn_two1]
  refine wpAny_bind (wpAny_standAt (wpAny_bind (wpAny_mono (turn n s hI) (fun r s₁ h₁ => ?_) fun _ _ f => f.elim)))
  cases r with
  | none => exact wpAny_pure h₁
  | some v =>
    refine wpAny_bind (wpAny_of_eq (ht v) (wpAny_bind (wpAny_mono h₁ (fun _ s₂ h₂ => ?_) fun _ _ f => f.elim)))
    exact wpAny_bind (wpAny_bind (wpAny_mono h₂ (fun x s₃ h₃ => wpAny_bind (wpAny_mono h₃ (fun _ s₄ h₄ => wpAny_pure (wpAny_pure ⟨rfl, h₄⟩)) fun _ _ f => f.elim)) fun _ _ f => f.elim))
theorem start_two (d : Nat) (hd : d = 0 ∨ d = 1)
    (h0 : codeAny (model C.prog C.w) A (.compLoop (two elt t1 i1 t2 i2 scope pos) d it acc env) R s)
    (h : WP C A (pyIter it) (fun it' s' => codeAny (model C.prog C.w) A (.compLoop (two elt t1 i1 t2 i2 scope pos) d it' acc env) R s') s) :
    codeAny (model C.prog C.w) A (.compStart (two elt t1 i1 t2 i2 scope pos) d it acc env) R s := by
  refine codeAny_of_tree ?_
  show wpAny _ _ ((compStart (two elt t1 i1 t2 i2 scope pos) d it acc env).onRaise (fun x => do noteFrame x env; standAt theWindowsPlace)) _ _ s
  refine wpAny_notedAt ?_
  unfold compStart
  rcases hd with rfl | rfl
  all_goals
    show wpAny _ _ (ask >>= _) _ _ s
    refine wpAny_bind (wpAny_askSetting (wpAny_ite ?_))
    split
    · first
        | exact wpAny_bind (wpAny_pure (wpAny_pure (And.intro rfl h0)))
        | exact wpAny_pure (And.intro rfl h0)
    · first
        | exact wpAny_bind (wpAny_rule (wpAny_bind (wpAny_standAt (wpAny_bind (wpAny_mono h (fun it' s' h' => wpAny_pure (And.intro rfl h')) fun _ _ x => x.elim)))))
        | (refine wpAny_bind (wpAny_rule ?_); show wpAny _ _ (standAt _ >>= _) _ _ s; exact wpAny_bind (wpAny_standAt (wpAny_bind (wpAny_mono h (fun it' s' h' => wpAny_pure (And.intro rfl h')) fun _ _ x => x.elim))))
end
section
variable {C : Cfg} {A : Around} {ρ : List Addr} {mh : MH} {s : Shared}
structure CJ (C : Cfg) (ρ : List Addr) (mh : MH) (hs : Heap) (I D Cl : Addr) (oi : List V) (ys : List Value) (n : Nat) (h : Heap) : Prop where
  co : Co (C.with D) ρ mh h
  ns : ∃ m, h.Ns Cl m
  acc : h.get? D = some (listOf ys.toArray n)
  all : VAll (C.with D) h ρ oi ys
  keep : ∀ b o, hs.get? b = some o → b ≠ I → b ≠ D → b ≠ Cl → h.get? b = some o
structure CO (C : Cfg) (I D Cl : Addr) : Prop where
  ic : I ≠ Cl
  id : I ≠ D
  dc : D ≠ Cl
  bi : C.hb.get? I = none
  bd : C.hb.get? D = none
  bc : C.hb.get? Cl = none
variable {hs h h' : Heap} {v : V} {I D Cl : Addr} {i n : Nat} {oi : List V} {ys : List Value}
theorem CJ.moved (x : CJ C ρ mh hs I D Cl oi ys n h) (N : CO C I D Cl) (nI : ∀ o, h.get? I = some o → ¬ isD o) (hk : ∀ a o, h.get? a = some o → a ≠ I → h'.get? a = some o) (hl : I ∈ (C.with D).ξ → ∃ o, h'.get? I = some o) : CJ C ρ mh hs I D Cl oi ys n h' := by
  have kd : KeepD ρ h h' := fun a o e d _ => hk a o e (by rintro rfl; exact nI o e d)
  obtain ⟨m, o, es, ep, ho, r⟩ := x.ns
  exact ⟨x.co.keepX (X := [I]) (fun a o e nn => hk a o e fun q => nn (q ▸ .head _)) (fun b hb => mem_one hb ▸ N.bi) (fun b hb => .inl (mem_one hb ▸ nI)) (fun b hb hx => by rw [mem_one hb] at hx ⊢; exact hl hx),
    ⟨m, o, es, ep, hk _ _ ho (Ne.symm N.ic), r⟩, hk _ _ x.acc (Ne.symm N.id), x.all.keep kd, fun b o e h1 h2 h3 => hk b o (x.keep b o e h1 h2 h3) h1⟩
theorem CJ.named {m : Str → Option Value} (x : CJ C ρ mh hs I D Cl oi ys n h) (N : CO C I D Cl) (hb : Heap.SameBut Cl h h') (ns : h'.Ns Cl m) : CJ C ρ mh hs I D Cl oi ys n h' := by
  obtain ⟨m0, ns0⟩ := x.ns
  have nC : ∀ o, h.get? Cl = some o → ¬ isD o := fun o e => ns_not_d ns0 e
  have kd : KeepD ρ h h' := fun a o e d _ => (hb.2 a (by rintro rfl; exact nC o e d)).trans e
  obtain ⟨o, _, _, ho, _⟩ := id ns
  exact ⟨x.co.one (b := Cl) (fun a o e ne => (hb.2 a ne).trans e) N.bc nC ⟨o, ho⟩, ⟨m, ns⟩, (hb.2 D N.dc).trans x.acc, x.all.keep kd, fun b o e h1 h2 h3 => (hb.2 b h3).trans (x.keep b o e h1 h2 h3)⟩
theorem CJ.laid {y : V} {w : Value} {n' : Nat} (x : CJ C ρ mh hs I D Cl oi ys n h) (N : CO C I D Cl) (hb : Heap.SameBut D h h') (ho : h'.get? D = some (listOf (ys ++ [w]).toArray n')) (r : VRel (C.with D) h ρ y w) : CJ C ρ mh hs I D Cl (oi ++ [y]) (ys ++ [w]) n' h' := by
  have kd : KeepD (ρ ++ (C.with D).ξ) h h' := fun a o e _ nn => (hb.2 a (by rintro rfl; exact nn (List.mem_append.mpr (.inr (.head _))))).trans e
  obtain ⟨m, o, es, ep, hoN, rN⟩ := x.ns
  exact ⟨x.co.keepX (X := [D]) (fun a o e nn => (hb.2 a fun q => nn (q ▸ .head _)).trans e) (fun b hx => mem_one hx ▸ N.bd) (fun b hx => .inr (mem_one hx ▸ .head _)) (fun b hx _ => mem_one hx ▸ ⟨_, ho⟩),
    ⟨m, o, es, ep, (hb.2 Cl (Ne.symm N.dc)).trans hoN, rN⟩, ho, (x.all.keepX kd).append (.cons (r.keepX kd) .nil), fun b o e h1 h2 h3 => (hb.2 b h2).trans (x.keep b o e h1 h2 h3)⟩
noncomputable def ISt (C : Cfg) (ρ : List Addr) (mh : MH) (s : Shared) (hs : Heap) (v : V) (vs oi0 : List V) (I D Cl : Addr) (k : Nat) (s' : Shared) : Prop :=
  ∃ H tk i ys n, s' = { s with heap := H, toks := tk } ∧ i ≤ vs.length ∧ k = vs.length + 1 - i ∧ ItSt (C.with D) ρ H v I i ∧ CJ C ρ mh hs I D Cl (oi0 ++ vs.take i) ys n H
theorem ISt.mk {vs oi0 : List V} {H : Heap} {tk : Nat} (hi : i ≤ vs.length) (st : ItSt (C.with D) ρ H v I i) (cj : CJ C ρ mh hs I D Cl (oi0 ++ vs.take i) ys n H) : ISt C ρ mh s hs v vs oi0 I D Cl (vs.length + 1 - i) { s with heap := H, toks := tk } :=
  ⟨H, tk, i, ys, n, rfl, hi, rfl, st, cj⟩
theorem ISt.room {vs : List V} {oi0 : List V} (cj : CJ C ρ mh hs I D Cl (oi0 ++ vs.take i) ys n h) (hi : i ≤ vs.length) (hlim : oi0.length + vs.length ≤ lim) : ys.toArray.size ≤ lim := by
  rw [List.size_toArray, ← cj.all.length, List.length_append, List.length_take]
  exact Nat.le_trans (Nat.add_le_add_left (Nat.min_le_right ..) _) hlim
theorem comp_in {X : TX} {env : Env} {sc : List (Str × NameKind)} {caps : List Nat} {vs : List V} {x2 : Str} {pe px pos : Pos} {t1 i1 i2 : Expr} {scope : Scope} {R : Result → Shared → Prop} {oi0 : List V} {ys0 : List Value} {n0 : Nat}
    (hit : iterItems mh v = some vs) (S : CompSc X env sc scope caps) (hl : scope.names.lookup x2 = some .local) (hd : (x2 == ("__debug__" : Str)) = false) (N : CO C I D Cl) (hh : A.handled = none) (hlim : oi0.length + vs.length ≤ lim)
    (st : ItSt (C.with D) ρ s.heap v I 0) (hξ : I ∉ C.ξ) (c0 : CJ C ρ mh hs I D Cl oi0 ys0 n0 s.heap)
    (hR : ∀ h' tk ys n, CJ C ρ mh hs I D Cl (oi0 ++ vs) ys n h' → R (.ok .next) { s with heap := h', toks := tk }) :
    codeAny (model C.prog C.w) A (.compLoop (two (.Name x2 pe) t1 i1 (.Name x2 px) i2 scope pos) 1 (.ref I) (.ref D) (compEnvC scope (freeCells env scope.names []) Cl env)) R s := by
  have hk : (compEnvC scope (freeCells env scope.names []) Cl env).kindOf x2 = some .local := lookup_relabel_local hl
  refine loop_two1 (ISt C ρ mh s hs v vs oi0 I D Cl) (fun k s' q => ?_) (vs.length + 1)
    (ISt.mk (H := s.heap) (tk := s.toks) (ys := ys0) (n := n0) (Nat.zero_le _) st (by rw [List.take_zero, List.append_nil]; exact c0)) (fun _ => rfl)
  obtain ⟨H, tk, i, ys, n, rfl, hi, rfl, st, ci⟩ := q
  obtain ⟨oI, vI, hoI, hdI, hnI⟩ := st.obj'
  have nI : ∀ o, H.get? I = some o → ¬ isD o := fun o e => by cases hoI.symm.trans e; exact hnI
  by_cases hlt : i < vs.length
  · refine (iter_next (C := C.with D) (A := A) (s := { s with heap := H, toks := tk }) hit (List.getElem?_eq_getElem hlt) ci.co st).mono ?_
    rintro _ _ ⟨w, Ha, tka, rfl, rfl, hsa, sta, rw⟩
    obtain ⟨oA, hoA, _⟩ := sta.obj
    have ca := ci.moved N nI (fun a o e ne => (hsa.2 a ne).trans e) fun _ => ⟨oA, hoA⟩
    obtain ⟨m, nsA⟩ := ca.ns
    refine wpAny_assign_Name (wpAny_storeName_local hk nsA (fun Hb nsb hsb => ?_) (by simp [compEnvC, relabel, S.kind]))
    change Heap.SameBut Cl Ha Hb at hsb
    have cb := ca.named N hsb nsb
    have kdB : KeepD ρ Ha Hb := fun a o e d _ => (hsb.2 a (by rintro rfl; exact ns_not_d nsA e d)).trans e
    refine wpAny_Name (wpAny_loadName_local S.kind hk nsb (if_pos rfl) ?_) hd
    refine append_at cb.acc (fun He hse hoe => ?_) (lim_le (ISt.room ci hi hlim))
    rw [List.push_toArray] at hoe
    refine ⟨_, next_lt hlt, ISt.mk (ys := ys ++ [w]) (n := n + 1) hlt ((sta.keep (fun o e => (hsb.2 I N.ic).trans e) kdB).keepX (fun o e => (hse.2 I N.id).trans e) (fun a o e _ nn => (hse.2 a (by rintro rfl; exact nn (List.mem_append.mpr (.inr (.head _))))).trans e)) ?_⟩
    rw [List.take_succ_eq_append_getElem hlt, ← List.append_assoc]
    exact cb.laid N hse hoe (rw.keep kdB)
  · have e : i = vs.length := Nat.le_antisymm hi (Nat.le_of_not_lt hlt)
    subst e
    refine (iter_end (C := C.with D) (A := A) (s := { s with heap := H, toks := tk }) hit ci.co hh st).mono ?_
    rintro _ _ ⟨Ha, rfl, rfl, hsa⟩
    refine hR Ha _ ys n ?_
    rw [List.take_length] at ci
    exact ci.moved N nI (fun a o e ne => hsa a o ne e) fun q => (List.mem_cons.mp q).elim (fun q => absurd q N.id) fun q => absurd q hξ
theorem comp_inner {X : TX} {env : Env} {sc : List (Str × NameKind)} {caps : List Nat} {us : List V} {q : V} {w' : Value} {x2 : Str} {pe px pos : Pos} {t1 i1 i2 : Expr} {scope : Scope} {R : Result → Shared → Prop} {Hc : Heap} {tk : Nat}
    (hius : iterItems mh q = some us) (S : CompSc X env sc scope caps) (hl2 : scope.names.lookup x2 = some .local) (hd2 : (x2 == ("__debug__" : Str)) = false) (N : CN C ρ s.heap I D Cl) (hh : A.handled = none) (hlim : oi.length + us.length ≤ lim)
    (rC : VRel (C.with D) Hc ρ q w') (cc : CI C ρ mh s.heap v I D Cl i oi ys n Hc)
    (hR : ∀ h' tk ys n, CI C ρ mh s.heap v I D Cl i (oi ++ us) ys n h' → R (.ok .next) { s with heap := h', toks := tk }) :
    WP C A (pyIter w') (fun it' s₄ => codeAny (model C.prog C.w) A (.compStart (two (.Name x2 pe) t1 i1 (.Name x2 px) i2 scope pos) 1 it' (.ref D) (compEnvC scope (freeCells env scope.names []) Cl env)) R s₄) { s with heap := Hc, toks := tk } := by
  have hI2 : Hc.get? Hc.objs.size = none := Heap.get?_none_of_le (Nat.le_refl _)
  refine (iter_start (C := C.with D) (A := A) hius cc.co rC (s := { s with heap := Hc, toks := tk })).mono ?_
  rintro _ _ ⟨Hd, rfl, rfl, up, st2⟩
  dsimp only at up st2 ⊢
  generalize Hc.objs.size = J at *
  have cd := cc.step N (.of_all up) (cc.co.keepAll up)
  have nn2 : ∀ {b : Addr} {o : Obj}, Hc.get? b = some o → J ≠ b := fun e q => nomatch hI2.symm.trans ((congrArg Hc.get? q).trans e)
  obtain ⟨mC, nsC⟩ := cd.ns
  obtain ⟨mC', oC', es', ep', hoC', rCl'⟩ := cc.ns
  have NO : CO C J D Cl := ⟨nn2 hoC', nn2 cc.acc, N.dc, cc.co.out.base_none fun o e => nn2 e rfl, N.bd, N.bc⟩
  obtain ⟨o2, ho2, hn2⟩ := st2.obj
  have loop := comp_in (pe := pe) (px := px) (pos := pos) (t1 := t1) (i1 := i1) (i2 := i2) (A := A) (env := env) (s := { s with heap := Hd, toks := tk }) (R := R) hius S hl2 hd2 NO hh hlim st2 (fun q => let ⟨_, e⟩ := cc.co.live _ (.tail _ q); nn2 e rfl)
    (hs := Hd) (oi0 := oi) ⟨cd.co, ⟨mC, nsC⟩, cd.acc, cd.all, fun b o e _ _ _ => e⟩ (fun h' tk' ys' n' cj => hR h' tk' ys' n' ?_)
  · exact start_two 1 (.inr rfl) loop (iter_self (C := C.with D) (s := { s with heap := Hd, toks := tk }) st2 loop)
  · refine ⟨cj.co, cd.st.keepX (fun o e => cj.keep I o e ?_ N.id N.ic) (fun b o e d nn => cj.keep b o e ?_ ?_ ?_), cj.ns, cj.acc, cj.all, fun b o e h1 h2 => cj.keep b o (cd.keep b o e h1 h2) ?_ ?_ ?_⟩
    · obtain ⟨oo, hoo, _⟩ := cc.st.obj
      exact fun q => nn2 hoo q.symm
    · rintro rfl; cases ho2.symm.trans e; exact hn2 d
    · rintro rfl; exact nn (List.mem_append.mpr (.inr (.head _)))
    · rintro rfl; exact ns_not_d nsC e d
    · exact fun q => nn2 (cc.keep _ o e h1 h2) q.symm
    · rintro rfl; exact N.hD o e
    · rintro rfl; exact N.hC o e
end
section
variable {C : Cfg} {A : Around} {ρ : List Addr} {mh : MH} {s : Shared} {env : Env} {sc : List (Str × NameKind)}
noncomputable def CSt2 (C : Cfg) (ρ : List Addr) (mh : MH) (s : Shared) (v : V) (I D Cl : Addr) (vs : List V) (J : Nat → List V → Prop) (k : Nat) (s' : Shared) : Prop :=
  ∃ h' tk i oi ys n, s' = { s with heap := h', toks := tk } ∧ i ≤ vs.length ∧ k = vs.length + 1 - i ∧ J i oi ∧ CI C ρ mh s.heap v I D Cl i oi ys n h'
section
variable {v : V} {I D Cl : Addr} {i n : Nat} {oi : List V} {ys : List Value} {vs : List V} {J : Nat → List V → Prop}
theorem CSt2.mk {H : Heap} {tk : Nat} (hi : i ≤ vs.length) (hJ : J i oi) (ci : CI C ρ mh s.heap v I D Cl i oi ys n H) : CSt2 C ρ mh s v I D Cl vs J (vs.length + 1 - i) { s with heap := H, toks := tk } :=
  ⟨H, tk, i, oi, ys, n, rfl, hi, rfl, hJ, ci⟩
end
theorem comp2_loop {X : TX} {scope : Scope} {caps : List Nat} {loc : Loc} {inn : V → (List V → Prop) → Prop} {K : List V → Prop} {v : V} {vs : List V} {x : Nat} {x' x2 : Str} {px pe p2 pos : Pos} {i1 i2 : Expr} {I : Addr}
    {RR : Value → Addr → Result → Shared → Prop}
    (hit : iterItems mh v = some vs) (hgo : comp2W inn vs K) (S : CompSc X env sc scope caps) (ho : EnvOk env sc) (hx : X.vars[x]? = some x') (hl : scope.names.lookup x' = some .local) (hl2 : scope.names.lookup x2 = some .local) (hd2 : (x2 == ("__debug__" : Str)) = false)
    (hset : ∀ cenv x, foldedSetIterable i2 cenv x = pure x)
    (co : Co C ρ mh s.heap) (fr : FrR C X env loc ρ s.heap) (st : ItSt C ρ s.heap v I 0) (hI : C.hb.get? I = none) (hIξ : I ∉ C.ξ) (hh : A.handled = none)
    (hinn : ∀ D u K' h tk Cl, inn u K' → Co (C.with D) ρ mh h → FrR (C.with D) X (compEnvC scope (freeCells env scope.names []) Cl env) (capLoc caps x u loc) ρ h →
      WP C A (eval i2 (compEnvC scope (freeCells env scope.names []) Cl env)) (PostQ (C.with D) ρ { s with heap := h, toks := tk } fun y m => m = mh ∧ ∃ us, iterItems mh y = some us ∧ K' us) { s with heap := h, toks := tk })
    (hRR : CEnd C ρ mh s I K RR) {D Cl : Addr} {h₁ : Heap} {tk₁ : Nat} (N : CN C ρ s.heap I D Cl) (hDe : s.heap.objs.size ≤ D) (ci₀ : CI C ρ mh s.heap v I D Cl 0 [] [] 0 h₁) :
    codeAny (model C.prog C.w) A (.compLoop (two (.Name x2 pe) (.Name x' px) i1 (.Name x2 p2) i2 scope pos) 0 (.ref I) (.ref D) (compEnvC scope (freeCells env scope.names []) Cl env)) (RR (.ref D) Cl) { s with heap := h₁, toks := tk₁ } := by
  obtain ⟨J, hJ0, hJ, hJe⟩ := hgo
  refine loop_two0 (CSt2 C ρ mh s v I D Cl vs J) (hset _) (fun k s' q => ?_) (vs.length + 1)
    (CSt2.mk (Nat.zero_le _) hJ0 ci₀) (fun _ => rfl)
  obtain ⟨H, tk, i, oi, ys, n, rfl, hi, rfl, hrest, ci⟩ := q
  by_cases hlt : i < vs.length
  · have hu : vs[i]? = some vs[i] := List.getElem?_eq_getElem hlt
    have hrest := hJ i vs[i] oi hu hrest
    refine comp_turn hit hu S ho hx hl co fr st N ci fun w s₁ asg => asg _ fun Hb tkb cb frB => (hinn D _ _ Hb tkb Cl hrest cb.co frB).go fun w' Hc tkc q _ hq kC coC rC => ?_
    obtain ⟨rfl, us, hius, hlim, hJ'⟩ := hq
    exact comp_inner (s := s) hius S hl2 hd2 N hh hlim rC (cb.step N kC coC) fun h' tk' ys' n' ci' => ⟨rfl, _, next_lt hlt, CSt2.mk hlt hJ' ci'⟩
  · have e : i = vs.length := Nat.le_antisymm hi (Nat.le_of_not_lt hlt)
    subst e
    exact comp_end hit hh hI hIξ co hDe N ci fun Ha m c r ns kp => hRR D Cl Ha _ m oi (hJe oi hrest) (none_of N.hD) (none_of N.hC) N.dc c r ns kp
end
end Mine
end
section
open PySem PySem.Calls PySem.W PyProof.Rows PySem.SeqAt
set_option maxRecDepth 100000
set_option linter.unusedVariables false
namespace Mine
structure TabOk (C : Cfg) (Γ : Tab) (k : Nat) : Prop where
  sound : ∀ (ξ : List Addr) (f : Nat) (vs : List V) (kws : List (Str × V)) (mh : MH) (Q : V → MH → Prop), Γ f vs kws mh Q →
    ∀ (A : Around) (s : Shared) (ρ : List Addr) (xs : List Value) (kxs : List (Str × Value)), Rm k A → Co { C with ξ := ξ } ρ mh s.heap → VAll { C with ξ := ξ } s.heap ρ vs xs →
      kws.map (·.1) = kxs.map (·.1) → VAll { C with ξ := ξ } s.heap ρ (kws.map (·.2)) (kxs.map (·.2)) → WP C A (call (.ref (C.fa f)) xs kxs) (PostQ { C with ξ := ξ } ρ s Q) s
theorem TabOk.ext {C : Cfg} {Γ : Tab} {k : Nat} {ξ : List Addr} (t : TabOk C Γ k) : TabOk { C with ξ := ξ } Γ k := { t with }
structure Cx (C : Cfg) (X : TX) (Γ : Tab) (k : Nat) (A : Around) (env : Env) (sc : List (Str × NameKind)) (loc : Loc) (ρ : List Addr) (mh : MH) (h : Heap) : Prop where
  K : CfgOk C X.fns
  ho : EnvOk env sc
  rm : Rm k A
  tab : TabOk C Γ k
  co : Co C ρ mh h
  fr : FrR C X env loc ρ h
section
variable {C : Cfg} {X : TX} {Γ : Tab} {k : Nat} {A : Around} {env : Env} {sc : List (Str × NameKind)} {loc : Loc} {ρ : List Addr} {mh mh' : MH} {s : Shared}
theorem Cx.step {h h' : Heap} (c : Cx C X Γ k A env sc loc ρ mh h) (q : Keep ρ h h') (co : Co C ρ mh' h') : Cx C X Γ k A env sc loc ρ mh' h' := ⟨c.K, c.ho, c.rm, c.tab, co, c.fr.keep c.co q⟩
theorem WP.back {t : Sem Value} {Q : V → MH → Prop} {h₁ : Heap} {tk₁ : Nat} {s₁ : Shared} (q : Keep ρ s.heap h₁) (h : WP C A t (PostQ C ρ { s with heap := h₁, toks := tk₁ } Q) s₁) : WP C A t (PostQ C ρ s Q) s₁ := h.mono fun _ _ p => p.trans q
theorem WP.backL {t : Sem (List Value)} {Q : List V → MH → Prop} {h₁ : Heap} {tk₁ : Nat} {s₁ : Shared} (q : Keep ρ s.heap h₁) (h : WP C A t (PostL C ρ { s with heap := h₁, toks := tk₁ } Q) s₁) : WP C A t (PostL C ρ s Q) s₁ := h.mono fun _ _ p => p.trans q
theorem WP.backB {t : Sem Bool} {Q : Bool → MH → Prop} {h₁ : Heap} {tk₁ : Nat} {s₁ : Shared} (q : Keep ρ s.heap h₁) (h : WP C A t (PostB C ρ { s with heap := h₁, toks := tk₁ } Q) s₁) : WP C A t (PostB C ρ s Q) s₁ := h.mono fun _ _ p => p.trans q
end
noncomputable def OkE (X : TX) (Γ : Tab) (e : ME) : Prop := ∀ {C : Cfg} {k : Nat} {A : Around} {env : Env} {sc : List (Str × NameKind)} {loc : Loc} {ρ : List Addr} {mh : MH} {s : Shared} {Q : V → MH → Prop} {e' : Expr},
  Cx C X Γ k A env sc loc ρ mh s.heap → mtE X sc e e' = true → wpE Γ e loc mh Q → WP C A (eval e' env) (PostQ C ρ s Q) s
noncomputable def OkEs (X : TX) (Γ : Tab) (es : List ME) : Prop := ∀ {C : Cfg} {k : Nat} {A : Around} {env : Env} {sc : List (Str × NameKind)} {loc : Loc} {ρ : List Addr} {mh : MH} {s : Shared} {Q : List V → MH → Prop},
  Cx C X Γ k A env sc loc ρ mh s.heap → wpEs Γ es loc mh Q →
    (∀ {es' pos}, mtEs X sc es es' = true → WP C A (spliced (backTo pos (starEach es' env))) (PostL C ρ s Q) s) ∧
    (∀ {ks pos}, mtK X sc es ks = true → WP C A (evalAll ((backToKw pos (keywordEach ks env)).map (·.2))) (PostL C ρ s Q) s)
noncomputable def OkC (X : TX) (Γ : Tab) (c : MC) : Prop := ∀ {C : Cfg} {k : Nat} {A : Around} {env : Env} {sc : List (Str × NameKind)} {loc : Loc} {ρ : List Addr} {mh : MH} {s : Shared} {Q : Bool → MH → Prop} {c' : Expr},
  Cx C X Γ k A env sc loc ρ mh s.heap → mtC X sc c c' = true → wpC Γ c loc mh Q → WP C A (isTrue c' env (eval c' env)) (PostB C ρ s Q) s
noncomputable def OkCs (X : TX) (Γ : Tab) (cs : List MC) : Prop := ∀ {C : Cfg} {k : Nat} {A : Around} {env : Env} {sc : List (Str × NameKind)} {loc : Loc} {ρ : List Addr} {mh : MH} {s : Shared} {Q : Bool → MH → Prop} {cs' : List Expr},
  Cx C X Γ k A env sc loc ρ mh s.heap → mtCs X sc cs cs' = true →
    (∀ {op pos whole}, wpCB Γ op cs loc mh Q → WP C A (isTrue (.BoolOp op cs' pos) env whole) (PostB C ρ s Q) s) ∧
    (wpI Γ cs loc mh Q → WP C A (testsOf cs' env) (PostB C ρ s Q) s)
section
variable {X : TX} {Γ : Tab}
theorem okE_const {v : V} : OkE X Γ (.const v) := by
  intro C k A env sc loc ρ mh s Q e' cx hm he
  refine constMK (P := fun e' => WP C A (eval e' env) (PostQ C ρ s Q) s) hm fun c n pos h => ?_
  cases v with
  | none => cases h; exact Constant_none (PostQ.pure he cx.co .none)
  | bool b => cases h; exact Constant_bool (PostQ.pure he cx.co (.bool _))
  | int i => cases h; exact wpAny_Constant_int (PostQ.tok he cx.co (.int _ _))
  | bytes l => cases h; exact Constant_bytes (PostQ.tok he cx.co (.bytes _ _))
  | _ => cases h
theorem varW_inv {o : Option (Option V)} {K : V → Prop} (h : varW o K) : ∃ v, o = some (some v) ∧ K v := by
  cases o with
  | none => exact h.elim
  | some q =>
    cases q with
    | none => exact h.elim
    | some v => exact ⟨v, rfl, h⟩
theorem okE_var {i : Nat} : OkE X Γ (.var i) := by
  intro C k A env sc loc ρ mh s Q e' cx hm he
  obtain ⟨v, e, q⟩ := varW_inv he
  refine varMK (P := fun e' => WP C A (eval e' env) (PostQ C ρ s Q) s) hm fun x pos hx hd => ?_
  obtain ⟨x', w, hx', hb, hv⟩ := cx.fr i _ e
  cases hx.symm.trans hx'
  exact wpAny_Name (hb.load cx.ho.kind (PostQ.pure q cx.co hv)) (no_debug hd)
theorem okE_glob {i : Nat} : OkE X Γ (.glob i) := by
  intro C k A env sc loc ρ mh s Q e' cx hm he
  exact globMK (P := fun e' => WP C A (eval e' env) (PostQ C ρ s Q) s) hm fun x pos hx hl hd => load_fn he cx.K hx cx.ho (eq_of_beq hl) (no_debug hd) cx.co
theorem okE_bin {op : Operator} {l r : ME} (L : OkE X Γ l) (R : OkE X Γ r) : OkE X Γ (.bin op l r) := by
  intro C k A env sc loc ρ mh s Q e' cx hm he
  exact binMK (P := fun e' => WP C A (eval e' env) (PostQ C ρ s Q) s) hm fun l' r' pos hl hr => wpAny_BinOp ((L cx hl he).go fun x h₁ tk₁ v₁ m₁ q₁ k₁ co₁ r₁ => (R (cx.step k₁ co₁) hr q₁).go fun y h₂ tk₂ v₂ m₂ q₂ k₂ co₂ r₂ => WP.back (k₁.trans k₂) (binop_ q₂ co₂ (r₁.keep k₂.d) r₂))
theorem okE_neg {l : ME} (L : OkE X Γ l) : OkE X Γ (.neg l) := by
  intro C k A env sc loc ρ mh s Q e' cx hm he
  refine negMK (P := fun e' => WP C A (eval e' env) (PostQ C ρ s Q) s) hm fun l' pos hl => ?_
  refine wpAny_UnaryOp ((L cx hl he).go fun x h₁ tk₁ v₁ m₁ q₁ k₁ co₁ r₁ => ?_)
  obtain ⟨i, rfl, q⟩ := intW_inv q₁
  obtain ⟨t, rfl⟩ := r₁
  exact WP.back k₁ (PyProof.Rows.neg_int (PostQ.tok q co₁ (.int _ _)))
theorem marks_of {op : CmpOp} {r : Expr} (h : isSet r = false) : behindInMarks op r = false := by
  cases r <;> first | rfl | exact Bool.noConfusion h
theorem okE_cmp {op : CmpOp} {l r : ME} (L : OkE X Γ l) (R : OkE X Γ r) : OkE X Γ (.cmp op l r) := by
  intro C k A env sc loc ρ mh s Q e' cx hm he
  refine cmpMK (P := fun e' => WP C A (eval e' env) (PostQ C ρ s Q) s) hm fun l' r' pos hs hl hr => ?_
  refine wpAny_Compare1 ((L cx hl he).go fun x h₁ tk₁ v₁ m₁ q₁ k₁ co₁ r₁ => (R (cx.step k₁ co₁) hr q₁).go fun y h₂ tk₂ v₂ m₂ q₂ k₂ co₂ r₂ => ?_) (marks_of hs)
  refine (cmpop_ q₂ co₂ (r₁.keep k₂.d) r₂ cx.rm).mono ?_
  rintro _ _ ⟨b, rfl, rfl, q⟩
  exact ⟨h₂, tk₂, _, _, rfl, q, k₁.trans k₂, co₂, .bool _⟩
theorem okC_cmp {op : CmpOp} {l r : ME} (L : OkE X Γ l) (R : OkE X Γ r) : OkC X Γ (.cmp op l r) := by
  intro C k A env sc loc ρ mh s Q c' cx hm he
  refine cmpMC (P := fun c' => WP C A (isTrue c' env (eval c' env)) (PostB C ρ s Q) s) hm fun l' r' pos hs hl hr => ?_
  refine wpAny_isTrue_Compare1 ((L cx hl he).go fun x h₁ tk₁ v₁ m₁ q₁ k₁ co₁ r₁ => (R (cx.step k₁ co₁) hr q₁).go fun y h₂ tk₂ v₂ m₂ q₂ k₂ co₂ r₂ => ?_) (marks_of hs)
  refine (cmpop_ q₂ co₂ (r₁.keep k₂.d) r₂ cx.rm).mono ?_
  rintro _ _ ⟨b, rfl, rfl, q⟩
  exact wpAny_truthy_bool ⟨h₂, tk₂, _, rfl, q, k₁.trans k₂, co₂⟩
theorem okC_not {c : MC} (L : OkC X Γ c) : OkC X Γ (.not c) := by
  intro C k A env sc loc ρ mh s Q e' cx hm he
  exact notMK (P := fun c' => WP C A (isTrue c' env (eval c' env)) (PostB C ρ s Q) s) hm fun l' pos hl => isTrue_not ((L cx hl he).goB fun b h₁ tk₁ m₁ q₁ k₁ co₁ => ⟨h₁, tk₁, _, rfl, q₁, k₁, co₁⟩)
theorem isTrue_plainTest {e' : Expr} {env : Env} {whole : Sem Value} (h : plainTest e' = true) : isTrue e' env whole = (do let v ← whole; standAt e'.pos; holding [v] (truthy v)) := by
  cases e' <;> first | rfl | exact Bool.noConfusion h
theorem okC_tst {e : ME} (L : OkE X Γ e) : OkC X Γ (.tst e) := by
  intro C k A env sc loc ρ mh s Q e' cx hm he
  obtain ⟨hp, hl⟩ := band hm
  refine isTrue_plain ((L cx hl he).go fun x h₁ tk₁ v₁ m₁ q₁ k₁ co₁ r₁ => ?_) (isTrue_plainTest hp)
  refine (truthy_ q₁ r₁).mono ?_
  rintro b _ ⟨rfl, q⟩
  exact ⟨h₁, tk₁, _, rfl, q, k₁, co₁⟩
theorem okC_bop {op : BoolOp} {cs : List MC} (L : OkCs X Γ cs) : OkC X Γ (.bop op cs) := by
  intro C k A env sc loc ρ mh s Q e' cx hm he
  exact bopMK (P := fun c' => WP C A (isTrue c' env (eval c' env)) (PostB C ρ s Q) s) hm fun cs' pos hl => (L cx hl).1 he
theorem okCs_nil : OkCs X Γ [] := by
  intro C k A env sc loc ρ mh s Q e' cx hm
  cases List.isEmpty_iff.mp hm
  refine ⟨fun {op pos whole} he => ?_, fun he => wpAny_pure ⟨_, _, _, rfl, he, .refl, cx.co⟩⟩
  cases op
  · exact isTrue_and_nil ⟨_, _, _, rfl, he, .refl, cx.co⟩
  · exact isTrue_or_nil ⟨_, _, _, rfl, he, .refl, cx.co⟩
theorem tests_false {es : List Expr} {C : Cfg} {A : Around} {env : Env} {Q : Bool → Shared → Prop} {s : Shared} (h : Q false s) :
    WP C A (forIn es false fun c r => if r = true then do let ok ← isTrue c env (eval c env); pure (ForInStep.yield ok) else pure (ForInStep.yield r)) Q s := by
  induction es with
  | nil => exact wpAny_pure h
  | cons e es ih =>
    rw [List.forIn_cons]
    simp only [Bool.false_eq_true, if_false, pure_bind]
    exact ih
theorem okCs_cons {c : MC} {cs : List MC} (L : OkC X Γ c) (R : OkCs X Γ cs) : OkCs X Γ (c :: cs) := by
  intro C k A env sc loc ρ mh s Q e' cx hm
  refine mtCsK (PL := fun l => (∀ {op pos whole}, wpCB Γ op (c :: cs) loc mh Q → WP C A (isTrue (.BoolOp op l pos) env whole) (PostB C ρ s Q) s) ∧ (wpI Γ (c :: cs) loc mh Q → WP C A (testsOf l env) (PostB C ρ s Q) s)) hm fun c' cs' h1 h2 => ?_
  refine ⟨fun {op pos whole} he => ?_, fun he => ?_⟩
  · cases op
    · refine isTrue_and ((L cx h1 he).goB fun b h₁ tk₁ m₁ q₁ k₁ co₁ => ?_)
      cases b
      · exact ⟨h₁, tk₁, _, rfl, q₁, k₁, co₁⟩
      · exact WP.backB k₁ ((R (cx.step k₁ co₁) h2).1 q₁)
    · refine isTrue_or ((L cx h1 he).goB fun b h₁ tk₁ m₁ q₁ k₁ co₁ => ?_)
      cases b
      · exact WP.backB k₁ ((R (cx.step k₁ co₁) h2).1 q₁)
      · exact ⟨h₁, tk₁, _, rfl, q₁, k₁, co₁⟩
  · unfold testsOf
    rw [List.forIn_cons]
    simp only [if_true, bind_assoc, pure_bind]
    refine wpAny_bind ((L cx h1 he).goB fun b h₁ tk₁ m₁ q₁ k₁ co₁ => ?_)
    cases b
    · exact tests_false ⟨h₁, tk₁, _, rfl, q₁, k₁, co₁⟩
    · exact WP.backB k₁ ((R (cx.step k₁ co₁) h2).2 q₁)
theorem okE_ite {c : MC} {t e : ME} (Cc : OkC X Γ c) (T : OkE X Γ t) (E : OkE X Γ e) : OkE X Γ (.ite c t e) := by
  intro C k A env sc loc ρ mh s Q e' cx hm he
  refine iteMK (P := fun e' => WP C A (eval e' env) (PostQ C ρ s Q) s) hm fun c' t' e'' pos h1 h2 h3 => ?_
  refine IfExp_ ((Cc cx h1 he).goB fun b h₁ tk₁ m₁ q₁ k₁ co₁ => ?_)
  cases b
  · exact WP.back k₁ (E (cx.step k₁ co₁) h3 q₁)
  · exact WP.back k₁ (T (cx.step k₁ co₁) h2 q₁)
theorem okEs_nil : OkEs X Γ [] := by
  intro C k A env sc loc ρ mh s Q cx he
  refine ⟨fun {es' pos} hm => ?_, fun {ks pos} hm => ?_⟩
  · cases List.isEmpty_iff.mp hm; exact args_nil ⟨_, _, _, _, rfl, he, .refl, cx.co, .nil⟩
  · cases List.isEmpty_iff.mp hm; exact wpAny_evalAll_nil ⟨_, _, _, _, rfl, he, .refl, cx.co, .nil⟩
theorem okEs_cons {e : ME} {es : List ME} (L : OkE X Γ e) (R : OkEs X Γ es) : OkEs X Γ (e :: es) := by
  intro C k A env sc loc ρ mh s Q cx he
  refine ⟨fun {es' pos} hm => ?_, fun {ks pos} hm => ?_⟩
  · refine mtEsK (PL := fun es' => WP C A (spliced (backTo pos (starEach es' env))) (PostL C ρ s Q) s) hm fun e' r' h1 h2 h3 => ?_
    exact args_cons ((L cx h2 he).go fun x h₁ tk₁ v₁ m₁ q₁ k₁ co₁ r₁ => ((R (cx.step k₁ co₁) q₁).1 h3).goL fun xs h₂ tk₂ v₂ m₂ q₂ k₂ co₂ r₂ =>
      ⟨h₂, tk₂, _, _, rfl, q₂, k₁.trans k₂, co₂, .cons (r₁.keep k₂.d) r₂⟩) (starEach_cons h1)
  · refine mtKK (PL := fun ks => WP C A (evalAll ((backToKw pos (keywordEach ks env)).map (·.2))) (PostL C ρ s Q) s) hm fun kw r' h2 h3 => ?_
    obtain ⟨n, e', p⟩ := kw
    exact wpAny_evalAll_cons (wpAny_bind ((L cx h2 he).go fun x h₁ tk₁ v₁ m₁ q₁ k₁ co₁ r₁ => wpAny_bind (wpAny_standAt (wpAny_pure (((R (cx.step k₁ co₁) q₁).2 h3).goL fun xs h₂ tk₂ v₂ m₂ q₂ k₂ co₂ r₂ =>
      ⟨h₂, tk₂, _, _, rfl, q₂, k₁.trans k₂, co₂, .cons (r₁.keep k₂.d) r₂⟩)))))
theorem okE_list {es : List ME} (L : OkEs X Γ es) : OkE X Γ (.list es) := by
  intro C k A env sc loc ρ mh s Q e' cx hm he
  exact listMK (P := fun e' => WP C A (eval e' env) (PostQ C ρ s Q) s) hm fun es' pos h => List_ (((L cx he).1 h).goL fun xs h₁ tk₁ v₁ m₁ q₁ k₁ co₁ r₁ => WP.back k₁ (newList_ q₁.2 co₁ r₁ q₁.1))
theorem okE_item {o i : ME} (L : OkE X Γ o) (R : OkE X Γ i) : OkE X Γ (.item o i) := by
  intro C k A env sc loc ρ mh s Q e' cx hm he
  exact itemMK (P := fun e' => WP C A (eval e' env) (PostQ C ρ s Q) s) hm fun l' r' pos hs hl hr => Subscript_ ((L cx hl he).go fun x h₁ tk₁ v₁ m₁ q₁ k₁ co₁ r₁ => (R (cx.step k₁ co₁) hr q₁).go fun y h₂ tk₂ v₂ m₂ q₂ k₂ co₂ r₂ =>
    WP.back (k₁.trans k₂) (item_ q₂ co₂ (r₁.keep k₂.d) r₂ (by rintro l u st p rfl; cases hs)))
theorem okPart {l : ME} (L : OkE X Γ l) {C : Cfg} {k : Nat} {A : Around} {env : Env} {sc : List (Str × NameKind)} {loc : Loc} {ρ : List Addr} {mh : MH} {s : Shared} {Q : V → MH → Prop} {o : Option Expr}
    (cx : Cx C X Γ k A env sc loc ρ mh s.heap) (hm : mtO X sc l o = true) (he : wpE Γ l loc mh Q) : WP C A (evalPart o env) (PostQ C ρ s Q) s := by
  cases o with
  | some e' => exact L cx hm he
  | none =>
    cases l with
    | const v =>
      cases v with
      | none => exact wpAny_pure (PostQ.pure he cx.co .none)
      | _ => cases hm
    | _ => cases hm
theorem okE_slice {o l u t : ME} (O : OkE X Γ o) (L : OkE X Γ l) (U : OkE X Γ u) (S : OkE X Γ t) : OkE X Γ (.slice o l u t) := by
  intro C k A env sc loc ρ mh s Q e' cx hm he
  refine sliceMK (P := fun e' => WP C A (eval e' env) (PostQ C ρ s Q) s) hm fun o' l' u' s' p pos h1 h2 h3 h4 => ?_
  refine Subscript_ ((O cx h1 he).go fun x h₁ tk₁ v₁ m₁ q₁ k₁ co₁ r₁ => wpAny_Slice ((okPart L (cx.step k₁ co₁) h2 q₁).go fun y h₂ tk₂ v₂ m₂ q₂ k₂ co₂ r₂ =>
    (okPart U ((cx.step k₁ co₁).step k₂ co₂) h3 q₂).go fun z h₃ tk₃ v₃ m₃ q₃ k₃ co₃ r₃ => (okPart S (((cx.step k₁ co₁).step k₂ co₂).step k₃ co₃) h4 q₃).go fun w h₄ tk₄ v₄ m₄ q₄ k₄ co₄ r₄ => ?_))
  obtain ⟨pa, ha, q⟩ := part_rel q₄ r₂
  obtain ⟨pb, hb, q⟩ := part_rel q r₃
  obtain ⟨pc, hc, q⟩ := part_rel q r₄
  exact WP.back (((k₁.trans k₂).trans k₃).trans k₄) (slice_ q co₄ (((r₁.keep k₂.d).keep k₃.d).keep k₄.d) ha hb hc)
end
end Mine
end
section
open PySem PySem.Calls PySem.W PyProof.Rows PySem.SeqAt
set_option maxRecDepth 100000
set_option linter.unusedVariables false
namespace Mine
theorem mtEs_star {X : TX} {sc : List (Str × NameKind)} : ∀ {es : List ME} {es' : List Expr}, mtEs X sc es es' = true → (es'.all fun e => !isStar e) = true
  | [], es', h => by cases List.isEmpty_iff.mp h; rfl
  | e :: es, es', h => by
    exact mtEsK (PL := fun l => (l.all fun e => !isStar e) = true) h fun e' r' h1 h2 h3 => by rw [List.all_cons, h1, mtEs_star h3]; rfl
section
variable {X : TX} {Γ : Tab}
theorem mtEs_head {X : TX} {sc : List (Str × NameKind)} {e : ME} {es : List ME} {l : List Expr} (h : mtEs X sc (e :: es) l = true) : ∃ a r, l = a :: r ∧ isStar a = false := mtEsK (PL := fun l => ∃ a r, l = a :: r ∧ isStar a = false) h fun a r h _ _ => ⟨a, r, rfl, h⟩
theorem callWith_prim {C : Cfg} {A : Around} {s : Shared} {f : Prim} {pos : Pos} {args : List (Bool × Sem Value)} {R : Value → Shared → Prop} (hplain : args.any (·.1) = false)
    (h : WP C A (evalArgs f.val true args []) (fun a s₁ => WP C A (call f.val a.pos a.kw) R s₁) s) : WP C A (callWith pos f.val [] args []) R s := by
  cases f with
  | len => exact callWith_builtin (id := "len") hplain h
  | abs => exact callWith_builtin (id := "abs") hplain h
  | int => exact PyProof.Rows.callWith_type (T := "int") hplain h
  | divmod => exact callWith_builtin (id := "divmod") hplain h
  | range => exact PyProof.Rows.callWith_type (T := "range") hplain h
  | sum => exact callWith_builtin (id := "sum") hplain h
  | bytes => exact PyProof.Rows.callWith_type (T := "bytes") hplain h
  | sorted => exact callWith_builtin (id := "sorted") hplain h
theorem okE_prim {f : Prim} {es : List ME} (L : OkEs X Γ es) : OkE X Γ (.prim f es) := by
  intro C k A env sc loc ρ mh s Q e' cx hm he
  refine callNK (P := fun e' => WP C A (eval e' env) (PostQ C ρ s Q) s) hm fun x p es' pos h => bandK h fun h hm => bandK h fun h hne => bandK h fun hp hx => ?_
  refine Call_ (load_prim cx.K (eq_of_beq hp) cx.ho (eq_of_beq hx) cx.co (callWith_prim (any_star (mtEs_star hm)) ?_))
  have ih := (L cx he).1 hm (pos := pos)
  cases es with
  | nil => cases hne
  | cons e1 es =>
    obtain ⟨e1', r', rfl, hst⟩ := mtEs_head hm
    rw [starEach_cons hst] at ih ⊢
    exact evalArgs_plain (x := eval e1' env) (rest := backTo pos (starEach r' env)) (WP.goL ih fun xs h₁ tk₁ v₁ m₁ q₁ k₁ co₁ r₁ => WP.back k₁ (prim_ q₁ co₁ r₁ cx.rm.hh cx.rm.u20))
theorem isBK {X : TX} {sc : List (Str × NameKind)} {e : ME} {e' : Expr} {P : Expr → Prop} (hm : mtE X sc (.isBytes e) e' = true)
    (f : ∀ p e1 q pos, gName sc "isinstance" = true → gName sc "bytes" = true → isStar e1 = false → mtE X sc e e1 = true → P (.Call (.Name "isinstance" p) [e1, .Name "bytes" q] [] pos)) : P e' :=
  callNK hm fun x p as pos h => twoK (P := fun as => P (.Call (.Name x p) as [] pos)) h fun e1 b h => nameK (P := fun b => P (.Call (.Name x p) [e1, b] [] pos)) h fun y q h =>
    bandK h fun h hm => bandK h fun h hs => bandK h fun h hy => bandK h fun h hx => bandK h fun h1 h2 => by
      cases eq_of_beq h1; cases eq_of_beq h2
      exact f p e1 q pos hx hy (bnot hs) hm
theorem okE_isBytes {e : ME} (L : OkE X Γ e) : OkE X Γ (.isBytes e) := by
  intro C k A env sc loc ρ mh s Q e' cx hm he
  refine isBK (P := fun e' => WP C A (eval e' env) (PostQ C ρ s Q) s) hm fun p e1 q pos hx hy hs hm => ?_
  refine Call_ (load_isi cx.K cx.ho (eq_of_beq hx) cx.co (callWith_builtin (any_star (by rw [List.all_cons, hs]; rfl)) ?_))
  rw [starEach_cons hs]
  refine evalArgs_plain (x := eval e1 env) (spliced_cons ((L cx hm he).go fun x h₁ tk₁ v₁ m₁ q₁ k₁ co₁ r₁ => ?_))
  obtain ⟨l, rfl, hq⟩ := bytesW_inv q₁
  obtain ⟨t, rfl⟩ := r₁
  exact args_cons (load_bi (w := .type "bytes") cx.ho (eq_of_beq hy) (show (("bytes" : Str) == ("__debug__" : Str)) = false by decide) co₁ (let ⟨mg, hg, _, _, _, hb⟩ := cx.K.g; ⟨mg, hg, hb⟩) (let ⟨mb, hb, _, _, hi⟩ := cx.K.b; ⟨mb, hb, hi⟩)
    (args_nil (call_isinstance (isinstance_true (Tx := "bytes") F.isi_meta_bytes F.isi_self_bytes) ⟨rfl, ⟨h₁, tk₁, _, _, rfl, hq, k₁, co₁, .bool _⟩⟩)))
theorem star1 {a : Expr} {r : List Expr} (h : ((a :: r).all fun e => !isStar e) = true) : isStar a = false ∧ (r.all fun e => !isStar e) = true := by
  rw [List.all_cons] at h
  exact ⟨bnot (band h).1, (band h).2⟩
theorem okE_app {o e : ME} (O : OkE X Γ o) (L : OkE X Γ e) : OkE X Γ (.app o e) := by
  intro C k A env sc loc ρ mh s Q e' cx hm he
  refine methK (P := fun e' => WP C A (eval e' env) (PostQ C ρ s Q) s) hm fun o' apos args pos hb hp hs h => ?_
  revert hs
  refine oneK (P := fun args => (args.all fun e => !isStar e) = true → WP C A (eval (.Call (.Attribute o' "append" apos) args [] pos) env) (PostQ C ρ s Q) s) h fun e'' h => bandK h fun ho hm hs => ?_
  refine method_call hb hp hs (Nat.lt_add_left 8 (Nat.lt_succ_self 1)) ((O cx ho he).go fun x h₁ tk₁ v₁ m₁ q₁ k₁ co₁ r₁ => ?_)
  obtain ⟨i, rfl, q₁⟩ := mutW_inv q₁
  obtain ⟨a, rfl, hi⟩ := r₁
  obtain ⟨xs, n, g⟩ := co₁.mem_list (List.mem_of_getElem? hi)
  refine ⟨"list.append", fun pl Q' hq => getMethod_list_append g rfl rfl hq, callWith_builtin (any_star hs) ?_⟩
  rw [starEach_cons (star1 hs).1]
  refine evalArgs_plain (x := eval e'' env) (spliced_cons ((L (cx.step k₁ co₁) hm q₁).go fun y h₂ tk₂ v₂ m₂ q₂ k₂ co₂ r₂ => args_nil ?_))
  obtain ⟨vs, hv, ⟨hp, hl⟩, q⟩ := q₂
  exact WP.back (k₁.trans k₂) (append_ q co₂ hi hv r₂ hp hl)
theorem okE_ins {o i e : ME} (O : OkE X Γ o) (I : OkE X Γ i) (L : OkE X Γ e) : OkE X Γ (.ins o i e) := by
  intro C k A env sc loc ρ mh s Q e' cx hm he
  refine methK (P := fun e' => WP C A (eval e' env) (PostQ C ρ s Q) s) hm fun o' apos args pos hb hp hs h => ?_
  revert hs
  refine twoK (P := fun args => (args.all fun e => !isStar e) = true → WP C A (eval (.Call (.Attribute o' "insert" apos) args [] pos) env) (PostQ C ρ s Q) s) h fun i' e'' h => bandK h fun h hm => bandK h fun ho hi' hs => ?_
  refine method_call hb hp hs (Nat.lt_add_left 7 (Nat.lt_succ_self 2)) ((O cx ho he).go fun x h₁ tk₁ v₁ m₁ q₁ k₁ co₁ r₁ => ?_)
  obtain ⟨i, rfl, q₁⟩ := mutW_inv q₁
  obtain ⟨a, rfl, hi⟩ := r₁
  obtain ⟨xs, n, g⟩ := co₁.mem_list (List.mem_of_getElem? hi)
  refine ⟨"list.insert", fun pl Q' hq => getMethod_builtin (T := "list") ⟨_, g, rfl⟩ F.plainAttrs_list PySem.F.slot_list_insert PySem.F.type_list_insert (fun b eb => by cases eb; exact ⟨_, g, rfl⟩) hq, callWith_builtin (any_star hs) ?_⟩
  rw [starEach_cons (star1 hs).1]
  refine evalArgs_plain (x := eval i' env) (spliced_cons ((I (cx.step k₁ co₁) hi' q₁).go fun y h₂ tk₂ v₂ m₂ q₂ k₂ co₂ r₂ => ?_))
  obtain ⟨j, rfl, q₂⟩ := intW_inv q₂
  obtain ⟨t, rfl⟩ := r₂
  refine args_cons ((L ((cx.step k₁ co₁).step k₂ co₂) hm q₂).go fun z h₃ tk₃ v₃ m₃ q₃ k₃ co₃ r₃ => args_nil ?_) (starEach_cons (star1 (star1 hs).2).1)
  obtain ⟨vs, hv, ⟨hp, hl, h0, h1⟩, q⟩ := q₃
  exact WP.back ((k₁.trans k₂).trans k₃) (insert_ q co₃ hi hv r₃ hp hl h0 h1)
theorem kw_names {pos : Pos} {env : Env} : ∀ {kws : List Keyword} {ks : List Str}, kwNames kws = some ks → (backToKw pos (keywordEach kws env)).all (·.1.isSome) = true ∧ (backToKw pos (keywordEach kws env)).filterMap (·.1) = ks
  | [], ks, h => by cases h; exact ⟨rfl, rfl⟩
  | ⟨some n, e, p⟩ :: r, ks, h => by
    obtain ⟨ks', h', rfl⟩ := Option.map_eq_some_iff.mp (show (kwNames r).map (n :: ·) = some ks from h)
    obtain ⟨h1, h2⟩ := kw_names (pos := pos) (env := env) h'
    constructor
    · show (true && _) = true
      rw [Bool.true_and]; exact h1
    · show n :: _ = _
      exact congrArg _ h2
  | ⟨none, e, p⟩ :: r, ks, h => nomatch (show none = some ks from h)
theorem call_core {f : ME} {es : List ME} {ks : List Str} {kes : List ME} (F : OkE X Γ f) (L : OkEs X Γ es) (K : OkEs X Γ kes) {C : Cfg} {k : Nat} {A : Around} {env : Env} {sc : List (Str × NameKind)} {loc : Loc} {ρ : List Addr} {mh : MH} {s : Shared} {e' : Expr}
    {P : Nat → List V → List (Str × V) → MH → Prop} {R : Value → Shared → Prop} {E : Value → Shared → Prop} (cx : Cx C X Γ k A env sc loc ρ mh s.heap) (hm : mtE X sc (.call f es ks kes) e' = true)
    (he : wpE Γ f loc mh fun p m => fnW p fun g => wpEs Γ es loc m fun q m => wpEs Γ kes loc m fun r m => r.length = ks.length ∧ P g q (ks.zip r) m)
    (go : ∀ g q kws m h tk xs kxs, P g q kws m → Keep ρ s.heap h → Co C ρ m h → VAll C h ρ q xs → kws.map (·.1) = kxs.map (·.1) → VAll C h ρ (kws.map (·.2)) (kxs.map (·.2)) → wpAny (model C.prog C.w) A (call (.ref (C.fa g)) xs kxs) R E { s with heap := h, toks := tk }) :
    wpAny (model C.prog C.w) A (eval e' env) R E s := by
  refine callMK (P := fun e' => wpAny (model C.prog C.w) A (eval e' env) R E s) hm fun x p es' kws pos hne hks hf hm hmk => ?_
  refine wpAny_Call_Name_kw (wp_e ((F cx hf he).go fun x h₁ tk₁ v₁ m₁ q₁ k₁ co₁ r₁ => ?_))
  obtain ⟨g, rfl, q₁⟩ := fnW_inv q₁
  obtain ⟨rfl, o, fd, h1, h2⟩ := r₁
  have cx₁ := cx.step k₁ co₁
  have ih := (L cx₁ q₁ (s := { s with heap := h₁, toks := tk₁ })).1 hm (pos := pos)
  cases es with
  | nil => cases hne
  | cons e1 es =>
    obtain ⟨e1', r', rfl, hst⟩ := mtEs_head hm
    rw [starEach_cons hst] at ih ⊢
    obtain ⟨hn1, hn2⟩ := kw_names (pos := pos) (env := env) hks
    refine callWith_function_kw (o := o) (fd := fd) (evalArgs_kw (x := eval e1' env) (rest := backTo pos (starEach r' env)) hn1 (wp_e (WP.goL ih fun xs h₂ tk₂ v₂ m₂ q₂ k₂ co₂ r₂ => ?_)))
    refine wp_e (((K (cx₁.step k₂ co₂) q₂ (s := { s with heap := h₂, toks := tk₂ })).2 hmk (pos := pos)).goL fun kxs h₃ tk₃ v₃ m₃ q₃ k₃ co₃ r₃ => ⟨⟨co₃.up _ _ h1, h2⟩, ?_⟩)
    rw [hn2]
    have hl1 : ks.length = v₃.length := q₃.1.symm
    have hl2 : ks.length = kxs.length := hl1.trans r₃.length
    refine go g _ _ _ _ tk₃ xs (ks.zip kxs) q₃.2 ((k₁.trans k₂).trans k₃) co₃ (r₂.keep k₃.d) ?_ ?_
    · rw [List.map_fst_zip (Nat.le_of_eq hl1), List.map_fst_zip (Nat.le_of_eq hl2)]
    · rw [List.map_snd_zip (Nat.le_of_eq hl1.symm), List.map_snd_zip (Nat.le_of_eq hl2.symm)]; exact r₃
theorem okE_call {f : ME} {es : List ME} {ks : List Str} {kes : List ME} (F : OkE X Γ f) (L : OkEs X Γ es) (K : OkEs X Γ kes) : OkE X Γ (.call f es ks kes) := by
  intro C k A env sc loc ρ mh s Q e' cx hm he
  exact call_core F L K cx hm (P := fun g q kws m => Γ g q kws m Q) he fun g q kws m h tk xs kxs p k₁ co r hk rk =>
    WP.back k₁ (cx.tab.sound C.ξ g _ _ _ _ p A _ ρ xs kxs cx.rm co r hk rk)
theorem Cx.comp {C : Cfg} {k : Nat} {A : Around} {env : Env} {sc : List (Str × NameKind)} {loc : Loc} {ρ : List Addr} {mh mh' : MH} {h h' : Heap} {scope : Scope} {caps : List Nat} {Cl D : Addr} {loc' : Loc} (cx : Cx C X Γ k A env sc loc ρ mh h)
    (S : CompSc X env sc scope caps) (co : Co (C.with D) ρ mh' h') (fr : FrR (C.with D) X (compEnvC scope (freeCells env scope.names []) Cl env) loc' ρ h') :
    Cx (C.with D) X Γ k A (compEnvC scope (freeCells env scope.names []) Cl env) scope.names loc' ρ mh' h' :=
  ⟨cx.K.ext, S.envOk cx.ho, cx.rm, cx.tab.ext, co, fr⟩
theorem nobase {C : Cfg} {ρ : List Addr} {mh : MH} {h : Heap} {a : Addr} (co : Co C ρ mh h) (e : h.get? a = none) : C.hb.get? a = none :=
  co.base_none fun o h => nomatch e.symm.trans h
theorem noxi {C : Cfg} {ρ : List Addr} {mh : MH} {h : Heap} {a : Addr} (co : Co C ρ mh h) (e : h.get? a = none) : a ∉ C.ξ := fun q => let ⟨_, ho⟩ := co.live _ q; nomatch e.symm.trans ho
theorem set_ok {e : Expr} {env : Env} (h : isSet e = false) : ∀ x, foldedSetIterable e env x = pure x := fun x => by cases e <;> first | rfl | exact Bool.noConfusion h
noncomputable def CFin (C : Cfg) (ρ : List Addr) (s : Shared) (K : List V → MH → Prop) (RR : Value → Addr → Result → Shared → Prop) : Prop :=
  ∀ D Cl h' tk m outs m1, K outs m1 → D ≠ Cl → s.heap.get? D = none → s.heap.get? Cl = none → Co C ρ m1 h' → VRel C h' ρ (.list outs) (.ref D) → h'.Ns Cl m → Keep ρ s.heap h' → RR (.ref D) Cl (.ok .next) { s with heap := h', toks := tk }
section
variable {C : Cfg} {k : Nat} {A : Around} {env : Env} {sc : List (Str × NameKind)} {loc : Loc} {ρ : List Addr} {mh : MH} {s : Shared} {K : List V → MH → Prop} {scope : Scope} {caps : List Nat} {use : Option (Value → Sem Unit)} {R : Value → Shared → Prop} {pos pos' : Pos}
theorem comp_pre {it : ME} {it' el tg : Expr} {fs : List Expr} {gr : List Comprehension} {P : List V → MH → Prop} (L : OkE X Γ it) (cx : Cx C X Γ k A env sc loc ρ mh s.heap) (S : CompSc X env sc scope caps) (hset : isSet it' = false) (hit : mtE X sc it it' = true) (he : wpE Γ it loc mh fun p m => ∃ vs, iterItems m p = some vs ∧ P vs m)
    (fin : CFin C ρ s K (compPost (model C.prog C.w) A NoE use R))
    (main : ∀ (s₂ : Shared) (a : V) (m1 : MH) (I : Addr) (vs : List V), iterItems m1 a = some vs → P vs m1 → Co C ρ m1 s₂.heap → FrR C X env loc ρ s₂.heap → ItSt C ρ s₂.heap a I 0 → C.hb.get? I = none → I ∉ C.ξ → CEnd C ρ m1 s₂ I (fun ys => K ys m1) (compPost (model C.prog C.w) A NoE use R) →
      ∀ D Cl h₁ tk₁, CN C ρ s₂.heap I D Cl → s₂.heap.objs.size ≤ D → CI C ρ m1 s₂.heap a I D Cl 0 [] [] 0 h₁ →
        codeAny (model C.prog C.w) A (.compStart (.ListComp el (⟨tg, it', fs, 0⟩ :: gr) scope pos) 0 (.ref I) (.ref D) (compEnvC scope (freeCells env scope.names []) Cl env)) (compPost (model C.prog C.w) A NoE use R (.ref D) Cl) { s₂ with heap := h₁, toks := tk₁ }) :
    WP C A (comprehension (.ListComp el (⟨tg, it', fs, 0⟩ :: gr) scope pos) scope env pos' (newList []) false (eval it' env) use) R s := by
  refine wpAny_comprehension_free (cl := freeCells env scope.names []) rfl (set_ok hset) (closure_eq (S.cellsOk cx.ho)) S.kind (fun y hy e => (S.names y hy).trans (by rw [e])) ?_
  refine (L cx hit he).go fun x₁ h₁ tk₁ a m1 q₁ k₁ co₁ r₁ => ?_
  obtain ⟨vs, ei, eg⟩ := q₁
  refine (iter_start ei co₁ r₁ (s := { s with heap := h₁, toks := tk₁ })).mono ?_
  rintro _ _ ⟨h₂, rfl, rfl, up, st⟩
  dsimp only at up st ⊢
  have co₂ : Co C ρ m1 h₂ := co₁.keepAll up
  have hI₁ : h₁.get? h₁.objs.size = none := Heap.get?_none_of_le (Nat.le_refl _)
  generalize h₁.objs.size = I at *
  have none_of : ∀ a, h₂.get? a = none → s.heap.get? a = none := fun a ha => by
    cases e : s.heap.get? a with
    | none => rfl
    | some o =>
      by_cases q : a ∈ ρ
      · obtain ⟨xs, n, g⟩ := co₂.mem_list q; cases ha.symm.trans g
      · cases ha.symm.trans (up a o (k₁ a o e q))
  have fr₂ := ((cx.step k₁ co₁).step (.of_all up) co₂).fr
  refine comp_start (C := C) (s := { s with heap := h₂, toks := tk₁ }) (mh := m1) (v := a) S co₂ st (nobase co₁ hI₁) (main _ a m1 I vs ei eg co₂ fr₂ st (nobase co₁ hI₁) (noxi co₁ hI₁) fun D Cl h' tk m outs hK hD hC hDC co' r' ns kp => ?_)
  refine fin D Cl h' tk m outs m1 hK hDC (none_of D hD) (none_of Cl hC) co' r' ns fun a o e n => kp a o (up a o (k₁ a o e n)) fun q => ?_
  rcases List.mem_cons.mp q with rfl | q
  · cases hI₁.symm.trans (k₁ _ o e n)
  · exact n q
theorem comp_any {x : Nat} {it : ME} {ifs : List MC} {elt : ME} (L : OkE X Γ it) (T : OkCs X Γ ifs) (El : OkE X Γ elt) {elt' it' : Expr} {x' : Str} {px : Pos} {ifs' : List Expr}
    (cx : Cx C X Γ k A env sc loc ρ mh s.heap) (hx : X.vars[x]? = some x') (hl : scope.names.lookup x' = some .local) (hsc : compScopeOk X sc scope caps = true) (hset : isSet it' = false) (hit : mtE X sc it it' = true) (hifs : mtCs X scope.names ifs ifs' = true) (helt : mtE X scope.names elt elt' = true)
    (he : wpE Γ it loc mh fun p m => ∃ vs, iterItems m p = some vs ∧ vs.length ≤ lim ∧
      compW (fun v K => wpI Γ ifs (capLoc caps x v loc) m fun b m' => m' = m ∧ K b) (fun v K => wpE Γ elt (capLoc caps x v loc) m fun y m' => m' = m ∧ K y) vs fun ys => K ys m)
    (fin : CFin C ρ s K (compPost (model C.prog C.w) A NoE use R)) :
    WP C A (comprehension (.ListComp elt' [⟨.Name x' px, it', ifs', 0⟩] scope pos) scope env pos' (newList []) false (eval it' env) use) R s := by
  have S : CompSc X env sc scope caps := compSc_of hsc
  refine comp_pre L cx S hset hit he fin fun s₂ a m1 I vs ei q co fr st hI hIξ ce D Cl h₁ tk₁ N hDe ci => ?_
  have loop := comp_loop (px := px) (pos := pos) (iter' := it') (elt' := elt') (tk₁ := tk₁) ei q.2 q.1 S cx.ho hx hl co fr st hI hIξ cx.rm.hh (fun D u K' h tk Cl ht co fr => (T (cx.comp S co fr) hifs (s := { s₂ with heap := h, toks := tk })).2 ht)
    (fun D u K' h tk Cl ht co fr => El (cx.comp S co fr) helt ht (s := { s₂ with heap := h, toks := tk })) ce N hDe ci
  exact codeAny_compStart_list loop (wp_e (iter_self (C := C.with D) (s := { s₂ with heap := h₁, toks := tk₁ }) ci.st loop))
theorem comp2_any {x y : Nat} {it it2 : ME} (L : OkE X Γ it) (El : OkE X Γ it2) {i1 i2 : Expr} {x' x2 : Str} {pe px p2 : Pos}
    (cx : Cx C X Γ k A env sc loc ρ mh s.heap) (hx : X.vars[x]? = some x') (hl : scope.names.lookup x' = some .local) (hl2 : scope.names.lookup x2 = some .local) (hd2 : (x2 == ("__debug__" : Str)) = false) (hsc : compScopeOk X sc scope caps = true) (hs1 : isSet i1 = false) (hs2 : isSet i2 = false) (hit : mtE X sc it i1 = true) (hit2 : mtE X scope.names it2 i2 = true)
    (he : wpE Γ it loc mh fun p m => ∃ vs, iterItems m p = some vs ∧
      comp2W (fun v K => wpE Γ it2 (capLoc caps x v loc) m fun q m' => m' = m ∧ ∃ us, iterItems m q = some us ∧ K us) vs fun ys => K ys m)
    (fin : CFin C ρ s K (compPost (model C.prog C.w) A NoE use R)) :
    WP C A (comprehension (two (.Name x2 pe) (.Name x' px) i1 (.Name x2 p2) i2 scope pos) scope env pos' (newList []) false (eval i1 env) use) R s := by
  have S : CompSc X env sc scope caps := compSc_of hsc
  refine comp_pre L cx S hs1 hit he fin fun s₂ a m1 I vs ei eg co fr st hI hIξ ce D Cl h₁ tk₁ N hDe ci => ?_
  have loop := comp2_loop (pe := pe) (px := px) (p2 := p2) (pos := pos) (i1 := i1) (tk₁ := tk₁) ei eg S cx.ho hx hl hl2 hd2 (fun _ => set_ok hs2) co fr st hI hIξ cx.rm.hh
    (fun D u K' h tk Cl ht co fr => El (cx.comp S co fr) hit2 ht (s := { s₂ with heap := h, toks := tk })) ce N hDe ci
  exact start_two 0 (.inl rfl) loop (iter_self (C := C.with D) (s := { s₂ with heap := h₁, toks := tk₁ }) ci.st loop)
end
theorem comp_fin {C : Cfg} {ρ : List Addr} {mh : MH} {s : Shared} {A : Around} {Q : V → MH → Prop} (co : Co C ρ mh s.heap) : CFin C ρ s (fun ys m => Q (.list ys) m) (compPost (model C.prog C.w) A NoE none (PostQ C ρ s Q)) := by
  intro D Cl h' tk m outs m1 hK hDC hD hC co' r' ns kp
  refine ⟨m, ns, fun h'' hs => ?_⟩
  have nd : ∀ o, h'.get? Cl = some o → ¬ isD o := fun o e => ns_not_d ns e
  have kk : ∀ a o, h'.get? a = some o → a ≠ Cl → h''.get? a = some o := fun a o e n => (hs.2 a n).trans e
  refine ⟨h'', tk, _, _, rfl, hK, fun a o e n => kk a o (kp a o e n) ?_, ?_, ?_⟩
  · rintro rfl; cases hC.symm.trans e
  · exact co'.keepX (X := [Cl]) (fun a o e n => kk a o e fun q => n (q ▸ .head _)) (fun b hb => mem_one hb ▸ nobase co hC) (fun b hb => .inl (mem_one hb ▸ nd)) (fun b hb hb' => absurd (mem_one hb ▸ hb') (noxi co hC))
  · exact r'.keep fun a o e d n => kk a o e (by rintro rfl; exact nd o e d)
theorem okE_comp {caps : List Nat} {x : Nat} {it : ME} {ifs : List MC} {elt : ME} (L : OkE X Γ it) (T : OkCs X Γ ifs) (El : OkE X Γ elt) : OkE X Γ (.comp caps x it ifs elt) := by
  intro C k A env sc loc ρ mh s Q e' cx hm he
  refine compMK (P := fun e' => WP C A (eval e' env) (PostQ C ρ s Q) s) hm fun elt' it' ifs' x' px scope pos hx hl hsc hset hit hifs helt => ?_
  rw [eval_ListComp]
  exact comp_any (K := fun ys m => Q (.list ys) m) L T El cx hx hl hsc hset hit hifs helt he (comp_fin cx.co)
theorem okE_comp2 {caps : List Nat} {x y : Nat} {it it2 : ME} (L : OkE X Γ it) (El : OkE X Γ it2) : OkE X Γ (.comp2 caps x it y it2) := by
  intro C k A env sc loc ρ mh s Q e' cx hm he
  refine comp2MK (P := fun e' => WP C A (eval e' env) (PostQ C ρ s Q) s) hm fun i1 i2 x' x2 pe px p2 scope pos hx hl hl2 hd2 hsc hs1 hs2 hit hit2 => ?_
  rw [eval_ListComp]
  exact comp2_any (y := y) (K := fun ys m => Q (.list ys) m) L El cx hx hl hl2 hd2 hsc hs1 hs2 hit hit2 he (comp_fin cx.co)
end
mutual
theorem okE (X : TX) (Γ : Tab) : ∀ e : ME, OkE X Γ e
  | .const v => okE_const
  | .var i => okE_var
  | .glob f => okE_glob
  | .bin op l r => okE_bin (okE X Γ l) (okE X Γ r)
  | .neg e => okE_neg (okE X Γ e)
  | .cmp op l r => okE_cmp (okE X Γ l) (okE X Γ r)
  | .ite c t e => okE_ite (okC X Γ c) (okE X Γ t) (okE X Γ e)
  | .list es => okE_list (okEs X Γ es)
  | .item o i => okE_item (okE X Γ o) (okE X Γ i)
  | .slice o l u s => okE_slice (okE X Γ o) (okE X Γ l) (okE X Γ u) (okE X Γ s)
  | .prim f es => okE_prim (okEs X Γ es)
  | .isBytes e => okE_isBytes (okE X Γ e)
  | .app o e => okE_app (okE X Γ o) (okE X Γ e)
  | .ins o i e => okE_ins (okE X Γ o) (okE X Γ i) (okE X Γ e)
  | .call f es ks kes => okE_call (okE X Γ f) (okEs X Γ es) (okEs X Γ kes)
  | .comp caps x it ifs elt => okE_comp (okE X Γ it) (okCs X Γ ifs) (okE X Γ elt)
  | .comp2 caps x it y it2 => okE_comp2 (okE X Γ it) (okE X Γ it2)
theorem okEs (X : TX) (Γ : Tab) : ∀ es : List ME, OkEs X Γ es
  | [] => okEs_nil
  | e :: es => okEs_cons (okE X Γ e) (okEs X Γ es)
theorem okC (X : TX) (Γ : Tab) : ∀ c : MC, OkC X Γ c
  | .tst e => okC_tst (okE X Γ e)
  | .not c => okC_not (okC X Γ c)
  | .bop op cs => okC_bop (okCs X Γ cs)
  | .cmp op l r => okC_cmp (okE X Γ l) (okE X Γ r)
theorem okCs (X : TX) (Γ : Tab) : ∀ cs : List MC, OkCs X Γ cs
  | [] => okCs_nil
  | c :: cs => okCs_cons (okC X Γ c) (okCs X Γ cs)
end
end Mine
end
section
open PySem PySem.Calls PySem.W PyProof.Rows PySem.SeqAt
set_option maxRecDepth 100000
set_option linter.unusedVariables false
namespace Mine
structure FC where
  C : Cfg
  X : TX
  Γ : Tab
  k : Nat
  A : Around
  env : Env
  sc : List (Str × NameKind)
  h₀ : Heap
  ρ₀ : List Addr
noncomputable def own (F : FC) (ρ : List Addr) : List Addr := F.env.locals :: F.env.cells.map (·.2) ++ ρ
structure FS (F : FC) : Prop where
  base : ∀ a o, F.C.hb.get? a = some o → F.h₀.get? a = some o
  xi : ∀ a ∈ F.C.ξ, ∃ o, F.h₀.get? a = some o
  loc₀ : F.h₀.get? F.env.locals = none
  cell₀ : ∀ x c, (x, c) ∈ F.env.cells → F.h₀.get? c = none
  inj : F.env.cells.Pairwise fun x y => x.2 ≠ y.2
  names : F.X.vars.Nodup
structure Fx (F : FC) (loc : Loc) (ρ : List Addr) (mh : MH) (h : Heap) : Prop where
  cx : Cx F.C F.X F.Γ F.k F.A F.env F.sc loc ρ mh h
  keep : Keep F.ρ₀ F.h₀ h
  new : ∃ δ, ρ = F.ρ₀ ++ δ ∧ ∀ a ∈ δ, F.h₀.get? a = none
  ns : ∃ m, h.Ns F.env.locals m
  cells : ∀ x c, (x, c) ∈ F.env.cells → ∃ v, h.IsCell c v
  st : FS F
section
variable {C : Cfg} {X : TX} {env : Env} {loc : Loc} {ρ : List Addr} {mh mh' : MH} {s : Shared} {h h' : Heap} {F : FC}
theorem nono {h : Heap} {a : Addr} {o : Obj} (e : h.get? a = none) (q : h.get? a = some o) : False := nomatch e.symm.trans q
theorem none_keep {h h' : Heap} {a : Addr} (co : Co C ρ mh h') (k : Keep ρ h h') (e : h'.get? a = none) : h.get? a = none := by
  cases q : h.get? a with
  | none => rfl
  | some o => exact (nono e (k a o q fun m => by obtain ⟨_, _, g⟩ := co.mem_list m; exact nono e g)).elim
theorem Co.add {a : Addr} {xs : List Value} {n : Nat} {vs : List V} (co : Co C ρ mh h) (up : ∀ b o, h.get? b = some o → h'.get? b = some o) (hn : h.get? a = none) (hg : h'.get? a = some (listOf xs.toArray n)) (r : VAll C h ρ vs xs) (p : pureVs vs) :
    Co C (ρ ++ [a]) (mh ++ [vs]) h' := by
  have fresh : ∀ b ∈ [a], ∀ o, h.get? b ≠ some o := fun b hb o e => nono (mem_one hb ▸ hn) e
  have haρ : a ∉ ρ := fun q => by obtain ⟨xs, n, g⟩ := co.mem_list q; exact nono hn g
  refine ⟨fun b o e => up b o (co.up b o e), fun b hb => ?_, ⟨by rw [List.length_append, List.length_append, co.m.len]; rfl, ?_, fun i b us e1 e2 => ?_⟩, fun us hu => ?_, fun b hb => ?_, fun b hb => ⟨fun q => ?_, (co.apart b hb).2⟩⟩
  · exact (List.mem_append.mp hb).elim (co.new b) fun q => mem_one q ▸ nobase co hn
  · rw [List.nodup_append]
    exact ⟨co.m.nodup, List.nodup_cons.mpr ⟨List.not_mem_nil, .nil⟩, fun x hx y hy => by rw [mem_one hy]; rintro rfl; exact haρ hx⟩
  · by_cases hi : i < ρ.length
    · rw [List.getElem?_append_left hi] at e1
      rw [List.getElem?_append_left (co.m.len ▸ hi)] at e2
      obtain ⟨ys, m, g, q⟩ := co.m.at' i b us e1 e2
      exact ⟨ys, m, up _ _ g, (q.more fresh).keep (Keep.of_all up).d⟩
    · have hge := Nat.le_of_not_lt hi
      rw [List.getElem?_append_right hge] at e1
      rw [List.getElem?_append_right (co.m.len ▸ hge), ← co.m.len] at e2
      generalize i - ρ.length = j at e1 e2
      cases j with
      | succ j => cases e1
      | zero => cases e1; cases e2; exact ⟨xs, n, hg, (r.more fresh).keep (Keep.of_all up).d⟩
  · exact (List.mem_append.mp hu).elim (co.pure us) fun q => (List.mem_singleton.mp q) ▸ p
  · obtain ⟨o, ho⟩ := co.live b hb; exact ⟨o, up b o ho⟩
  · obtain ⟨o, ho⟩ := co.live b hb
    exact (List.mem_append.mp q).elim (co.apart b hb).1 fun q => nono hn (mem_one q ▸ ho)
namespace Fx
theorem rho_old (fx : Fx F loc ρ mh h) {a : Addr} {o : Obj} (e : F.h₀.get? a = some o) (n : a ∉ F.ρ₀) : a ∉ ρ := fun q => by
  obtain ⟨δ, rfl, hd⟩ := fx.new
  exact (List.mem_append.mp q).elim n fun q => nono (hd a q) e
theorem none_of (fx : Fx F loc ρ mh h) {a : Addr} (e : h.get? a = none) : F.h₀.get? a = none := by
  cases q : F.h₀.get? a with
  | none => rfl
  | some o =>
    refine (nono e (fx.keep a o q fun hm => ?_)).elim
    obtain ⟨δ, hρ, hd⟩ := fx.new
    obtain ⟨xs, n, g⟩ := fx.cx.co.mem_list (a := a) (hρ ▸ List.mem_append.mpr (.inl hm))
    exact nono e g
theorem locals_not (fx : Fx F loc ρ mh h) : F.env.locals ∉ ρ := fun q => by
  obtain ⟨xs, n, g⟩ := fx.cx.co.mem_list q
  obtain ⟨m, hn⟩ := fx.ns
  exact ns_not_list hn g
theorem cell_not (fx : Fx F loc ρ mh h) {x : Str} {c : Addr} (hc : (x, c) ∈ F.env.cells) : c ∉ ρ := fun q => by
  obtain ⟨xs, n, g⟩ := fx.cx.co.mem_list q
  obtain ⟨v, hv⟩ := fx.cells x c hc
  exact cell_not_list hv g
theorem cell_ne (fx : Fx F loc ρ mh h) {x : Str} {c : Addr} (hc : (x, c) ∈ F.env.cells) : c ≠ F.env.locals := by
  rintro rfl
  obtain ⟨v, o, ho, hd⟩ := fx.cells x _ hc
  obtain ⟨m, o', es, ep, ho', hd', _⟩ := fx.ns
  cases ho.symm.trans ho'; cases hd.symm.trans hd'
theorem base_none (fx : Fx F loc ρ mh h) {a : Addr} (e : F.h₀.get? a = none) : F.C.hb.get? a = none := by
  cases q : F.C.hb.get? a with
  | none => rfl
  | some o => exact (nono e (fx.st.base a o q)).elim
theorem xi_not (fx : Fx F loc ρ mh h) {a : Addr} (e : F.h₀.get? a = none) : a ∉ F.C.ξ := fun q => let ⟨_, ho⟩ := fx.st.xi a q; nono e ho
theorem step (fx : Fx F loc ρ mh h) (q : Keep ρ h h') (co : Co F.C ρ mh' h') : Fx F loc ρ mh' h' := by
  refine ⟨fx.cx.step q co, fun a o e n => q a o (fx.keep a o e n) (fx.rho_old e n), fx.new, ?_, fun x c hc => ?_, fx.st⟩
  · obtain ⟨m, o, es, ep, ho, r⟩ := fx.ns
    exact ⟨m, o, es, ep, q _ _ ho fx.locals_not, r⟩
  · obtain ⟨v, o, ho, r⟩ := fx.cells x c hc
    exact ⟨v, o, q _ _ ho (fx.cell_not hc), r⟩
theorem add {a : Addr} {xs : List Value} {n : Nat} {vs : List V} (fx : Fx F loc ρ mh h) (up : ∀ b o, h.get? b = some o → h'.get? b = some o) (hn : h.get? a = none) (hg : h'.get? a = some (listOf xs.toArray n))
    (r : VAll F.C h ρ vs xs) (p : pureVs vs) : Fx F loc (ρ ++ [a]) (mh ++ [vs]) h' := by
  have f1 := fx.step (.of_all up) (fx.cx.co.keepAll up)
  refine ⟨⟨f1.cx.K, f1.cx.ho, f1.cx.rm, f1.cx.tab, fx.cx.co.add up hn hg r p, fun i v e => ?_⟩, f1.keep, ?_, f1.ns, f1.cells, f1.st⟩
  · obtain ⟨x, w, ha, hb, hc⟩ := fx.cx.fr i v e
    exact ⟨x, w, ha, hb.keep fx.cx.co (.of_all up), (hc.more (δ := [a]) fun b hb o e => nono (mem_one hb ▸ hn) e).keep (Keep.of_all up).d⟩
  · obtain ⟨δ, hρ, hd⟩ := fx.new
    exact ⟨δ ++ [a], by rw [hρ, List.append_assoc], fun b hb => (List.mem_append.mp hb).elim (hd b) fun q => mem_one q ▸ fx.none_of hn⟩
theorem fresh_own (fx : Fx F loc ρ mh h) {b : Addr} (e : h.get? b = none) : b ∉ own F ρ := fun q => by
  rcases List.mem_append.mp q with q | q
  · rcases List.mem_cons.mp q with rfl | q
    · obtain ⟨m, o, es, ep, ho, _⟩ := fx.ns; exact nono e ho
    · obtain ⟨⟨x, c⟩, hm, rfl⟩ := List.mem_map.mp q
      obtain ⟨v, o, ho, _⟩ := fx.cells x c hm
      exact nono e ho
  · obtain ⟨xs, n, g⟩ := fx.cx.co.mem_list q; exact nono e g
theorem own_nil {b : Addr} {ρ : List Addr} (h : b ∉ own F ρ) : b ∉ own F [] := fun q => h ((List.mem_append.mp q).elim (fun q => List.mem_append.mpr (.inl q)) fun q => nomatch q)
theorem own_d (fx : Fx F loc ρ mh h) {b : Addr} {o : Obj} (q : b ∈ own F []) (e : h.get? b = some o) : ¬ isD o := by
  rcases List.mem_append.mp q with q | q
  · rcases List.mem_cons.mp q with rfl | q
    · obtain ⟨m, hm⟩ := fx.ns; exact ns_not_d hm e
    · obtain ⟨⟨x, c⟩, hm, rfl⟩ := List.mem_map.mp q
      obtain ⟨v, hv⟩ := fx.cells x c hm
      exact cell_not_d hv e
  · cases q
theorem own_cell {x : Str} {c : Addr} (hc : (x, c) ∈ F.env.cells) : c ∈ own F ρ := List.mem_append.mpr (.inl (.tail _ (List.mem_map.mpr ⟨_, hc, rfl⟩)))
theorem own_loc : F.env.locals ∈ own F ρ := .head _
theorem chg {b : Addr} {loc' : Loc} (fx : Fx F loc ρ mh h) (q : ∀ a o, h.get? a = some o → a ≠ b → h'.get? a = some o) (hb : F.h₀.get? b = none) (hd : ∀ o, h.get? b = some o → ¬ isD o)
    (ns : ∃ m, h'.Ns F.env.locals m) (cells : ∀ x c, (x, c) ∈ F.env.cells → ∃ v, h'.IsCell c v) (fr : KeepD ρ h h' → FrR F.C F.X F.env loc' ρ h') : Fx F loc' ρ mh h' := by
  have kd : KeepD ρ h h' := fun a o e d _ => q a o e (by rintro rfl; exact hd o e d)
  refine ⟨⟨fx.cx.K, fx.cx.ho, fx.cx.rm, fx.cx.tab, fx.cx.co.keepX (X := [b]) (fun a o e n => q a o e fun m => n (m ▸ .head _)) (fun c hc => mem_one hc ▸ fx.base_none hb) (fun c hc => .inl (mem_one hc ▸ hd)) (fun c hc hx => absurd (mem_one hc ▸ hx) (fx.xi_not hb)), fr kd⟩,
    fun a o e n => q a o (fx.keep a o e n) (by rintro rfl; exact nono hb e), fx.new, ns, cells, fx.st⟩
theorem chgI {b : Addr} (fx : Fx F loc ρ mh h) (q : ∀ a o, h.get? a = some o → a ≠ b → h'.get? a = some o) (hb : F.h₀.get? b = none) (hd : ∀ o, h.get? b = some o → ¬ isD o) (ho : b ∉ own F []) : Fx F loc ρ mh h' := by
  have nsk : ∀ {m}, h.Ns F.env.locals m → h'.Ns F.env.locals m := fun ⟨o, es, ep, e, r⟩ => ⟨o, es, ep, q _ _ e (by rintro rfl; exact ho own_loc), r⟩
  have ck : ∀ {x c v}, (x, c) ∈ F.env.cells → h.IsCell c v → h'.IsCell c v := fun hc ⟨o, e, hdd⟩ => ⟨o, q _ _ e (by rintro rfl; exact ho (own_cell hc)), hdd⟩
  refine fx.chg q hb hd (let ⟨m, hn⟩ := fx.ns; ⟨m, nsk hn⟩) (fun x c hc => let ⟨v, hv⟩ := fx.cells x c hc; ⟨v, ck hc hv⟩) fun kd i v e => ?_
  obtain ⟨x, w, h1, h2, h3⟩ := fx.cx.fr i v e
  exact ⟨x, w, h1, h2.elim (fun ⟨hk, m, hn, hm⟩ => .inl ⟨hk, m, nsk hn, hm⟩) fun ⟨hk, c, hc, hi⟩ => .inr ⟨hk, c, hc, ck (mem_of_lookup hc) hi⟩, h3.keep kd⟩
theorem set_get {i j : Nat} {v u : V} {loc : Loc} (e : (loc.set i (some v))[j]? = some (some u)) : (j = i ∧ u = v) ∨ (j ≠ i ∧ loc[j]? = some (some u)) := by
  by_cases h : i = j
  · subst h
    rw [List.getElem?_set_self (List.length_set (as := loc) (i := i) ▸ (List.getElem?_eq_some_iff.mp e).1)] at e
    cases e; exact .inl ⟨rfl, rfl⟩
  · rw [List.getElem?_set_ne h] at e
    exact .inr ⟨Ne.symm h, e⟩
theorem name_ne {X : TX} (hn : X.vars.Nodup) {i j : Nat} {x y : Str} (h1 : X.vars[i]? = some x) (h2 : X.vars[j]? = some y) (hij : j ≠ i) : y ≠ x := by
  rintro rfl
  obtain ⟨hi, e1⟩ := List.getElem?_eq_some_iff.mp h1
  obtain ⟨hj, e2⟩ := List.getElem?_eq_some_iff.mp h2
  exact hij ((List.getElem_inj hn).mp (e2.trans e1.symm))
theorem ns_at {h : Heap} {a : Addr} {m m' : Str → Option Value} (x : h.Ns a m) (y : h.Ns a m') (n : Str) : m n = m' n := by
  obtain ⟨o1, es1, ep1, ho1, hd1, r1⟩ := x
  obtain ⟨o2, es2, ep2, ho2, hd2, r2⟩ := y
  cases ho1.symm.trans ho2
  cases hd1.symm.trans hd2
  exact (r1.2 n).symm.trans (r2.2 n)
theorem store {i : Nat} {x : Str} {v : V} {w : Value} {Q : Unit → Shared → Prop} (fx : Fx F loc ρ mh s.heap) (hx : F.X.vars[i]? = some x) (hk : F.sc.lookup x = some .local ∨ F.sc.lookup x = some .cell) (r : VRel F.C s.heap ρ v w)
    (k : ∀ h' tk, Fx F (loc.set i (some v)) ρ mh h' → KeepD ρ s.heap h' → Keep (own F []) s.heap h' → Q () { s with heap := h', toks := tk }) : WP F.C F.A (storeName F.env x w) Q s := by
  rcases hk with hk | hk
  · obtain ⟨m, hm⟩ := fx.ns
    have hkd : F.env.kindOf x = some .local := fx.cx.ho.kinds x _ hk (by decide)
    refine wpAny_storeName_local hkd hm (fun h' hn hs => k h' _ ?_ (fun a o e d _ => (hs.2 a (by rintro rfl; exact ns_not_d hm e d)).trans e) fun a o e n => (hs.2 a fun q => n (q ▸ own_loc)).trans e) (by rw [fx.cx.ho.kind]; rfl)
    refine fx.chg (fun a o e n => (hs.2 a n).trans e) fx.st.loc₀ (fun o e => ns_not_d hm e) ⟨_, hn⟩ (fun y c hc => let ⟨v', hv⟩ := fx.cells y c hc; ⟨v', hv.sameBut hs (fx.cell_ne hc)⟩) fun kd j u e => ?_
    rcases set_get e with ⟨rfl, rfl⟩ | ⟨hj, e⟩
    · exact ⟨x, w, hx, .inl ⟨hkd, _, hn, if_pos rfl⟩, r.keep kd⟩
    · obtain ⟨y, w', h1, h2, h3⟩ := fx.cx.fr j u e
      refine ⟨y, w', h1, h2.elim (fun ⟨hk', m', hn', hm'⟩ => .inl ⟨hk', _, hn, ?_⟩) fun ⟨hk', c, hc, hi⟩ => .inr ⟨hk', c, hc, hi.sameBut hs (fx.cell_ne (mem_of_lookup hc))⟩, h3.keep kd⟩
      rw [if_neg (name_ne fx.st.names hx h1 hj)]
      exact (ns_at hm hn' y).trans hm'
  · have hkd : F.env.kindOf x = some .cell := fx.cx.ho.kinds x _ hk (by decide)
    obtain ⟨c, hc⟩ := fx.cx.ho.cells x (.inl hk)
    have hmem := mem_of_lookup hc
    obtain ⟨v₀, hv₀⟩ := fx.cells x c hmem
    refine wpAny_storeName_cell fx.cx.ho.kind hkd hc hv₀ fun h' hn hs => k h' s.toks ?_ (fun a o e d _ => (hs.2 a (by rintro rfl; exact cell_not_d hv₀ e d)).trans e) fun a o e n => (hs.2 a fun q => n (q ▸ own_cell hmem)).trans e
    refine fx.chg (fun a o e n => (hs.2 a n).trans e) (fx.st.cell₀ x c hmem) (fun o e => cell_not_d hv₀ e) (let ⟨m, hm⟩ := fx.ns; ⟨m, hm.sameBut hs (Ne.symm (fx.cell_ne hmem))⟩) (fun y c' hc' => ?_) fun kd j u e => ?_
    · by_cases q : c' = c
      · exact q ▸ ⟨_, hn⟩
      · obtain ⟨v', hv⟩ := fx.cells y c' hc'
        exact ⟨v', hv.sameBut hs q⟩
    · rcases set_get e with ⟨rfl, rfl⟩ | ⟨hj, e⟩
      · exact ⟨x, w, hx, .inr ⟨hkd, c, hc, hn⟩, r.keep kd⟩
      · obtain ⟨y, w', h1, h2, h3⟩ := fx.cx.fr j u e
        exact ⟨y, w', h1, h2.elim (fun ⟨hk', m', hn', hm'⟩ => .inl ⟨hk', m', hn'.sameBut hs (Ne.symm (fx.cell_ne hmem)), hm'⟩) fun ⟨hk', c', hc', hi⟩ => .inr ⟨hk', c', hc', hi.sameBut hs fun q => name_ne fx.st.names hx h1 hj (name_of_addr fx.st.inj (mem_of_lookup hc') (q ▸ hmem))⟩, h3.keep kd⟩
end Fx
end
end Mine
end
section
open PySem PySem.Calls PySem.W PyProof.Rows PySem.SeqAt
set_option maxRecDepth 100000
set_option linter.unusedVariables false
namespace Mine
noncomputable def FlR (C : Cfg) (h : Heap) (ρ : List Addr) (f : Flow) : Fl → Prop
  | .next => f = .next
  | .ret v => ∃ x, f = .ret x ∧ VRel C h ρ v x
noncomputable def SPost (F : FC) (ρ : List Addr) (s : Shared) (Q : Fl → Loc → MH → Prop) (f : Flow) (s' : Shared) : Prop :=
  ∃ h' tk δ fl loc' mh', s' = { s with heap := h', toks := tk } ∧ Q fl loc' mh' ∧ Keep (own F ρ) s.heap h' ∧ (∀ a ∈ δ, s.heap.get? a = none) ∧ Fx F loc' (ρ ++ δ) mh' h' ∧ FlR F.C h' (ρ ++ δ) f fl
noncomputable def OkS (st : MS) : Prop := ∀ {F : FC} {loc : Loc} {ρ : List Addr} {mh : MH} {s : Shared} {Q : Fl → Loc → MH → Prop} {st' : Stmt},
  Fx F loc ρ mh s.heap → mtS F.X F.sc st st' = true → wpS F.Γ st loc mh Q → WP F.C F.A (exec st' F.env) (SPost F ρ s Q) s
noncomputable def OkSs (st : List MS) : Prop := ∀ {F : FC} {loc : Loc} {ρ : List Addr} {mh : MH} {s : Shared} {Q : Fl → Loc → MH → Prop} {st' : List Stmt},
  Fx F loc ρ mh s.heap → mtSs F.X F.sc st st' = true → wpSs F.Γ st loc mh Q → WP F.C F.A (execs st' F.env) (SPost F ρ s Q) s
section
variable {F : FC} {loc loc₁ : Loc} {ρ δ : List Addr} {mh mh₁ : MH} {s : Shared} {h h' h₁ h₂ : Heap} {Q : Fl → Loc → MH → Prop}
theorem mem_own {b : Addr} {ρ : List Addr} (h : b ∈ ρ) : b ∈ own F ρ := List.mem_append.mpr (.inr h)
theorem own_app {b : Addr} (h : b ∈ own F (ρ ++ δ)) : b ∈ own F ρ ∨ b ∈ δ :=
  (List.mem_append.mp h).elim (fun q => .inl (List.mem_append.mpr (.inl q))) fun q => (List.mem_append.mp q).elim (fun q => .inl (mem_own q)) .inr
theorem own_sub {b : Addr} (h : b ∈ own F []) : b ∈ own F ρ := (List.mem_append.mp h).elim (fun q => List.mem_append.mpr (.inl q)) fun q => nomatch q
theorem own_l {b : Addr} (h : b ∈ own F ρ) : b ∈ own F (ρ ++ δ) := (List.mem_append.mp h).elim (fun q => List.mem_append.mpr (.inl q)) fun q => mem_own (List.mem_append.mpr (.inl q))
theorem Keep.own (q : Keep ρ h h') : Keep (own F ρ) h h' := q.mono fun _ m => mem_own m
theorem Keep.own0 (q : Keep (Mine.own F []) h h') : Keep (Mine.own F ρ) h h' := q.mono fun _ m => own_sub m
theorem keep_trans (k₁ : Keep (own F ρ) h h₁) (n₁ : ∀ a ∈ δ, h.get? a = none) (k₂ : Keep (own F (ρ ++ δ)) h₁ h₂) : Keep (own F ρ) h h₂ := fun a o e n =>
  k₂ a o (k₁ a o e n) fun q => (own_app q).elim n fun q => nono (n₁ a q) e
theorem fresh_trans {δ₂ : List Addr} (k₁ : Keep (own F ρ) h h₁) (n₁ : ∀ a ∈ δ, h.get? a = none) (f₁ : Fx F loc₁ (ρ ++ δ) mh₁ h₁) (n₂ : ∀ a ∈ δ₂, h₁.get? a = none) : ∀ a ∈ δ ++ δ₂, h.get? a = none := fun a ha =>
  (List.mem_append.mp ha).elim (n₁ a) fun q => by
    cases e : h.get? a with
    | none => rfl
    | some o => exact (nono (n₂ a q) (k₁ a o e fun m => f₁.fresh_own (n₂ a q) (own_l m))).elim
theorem SPost.mkN {h₁ : Heap} {tk₁ : Nat} (q : Q .next loc₁ mh₁) (k₁ : Keep (own F ρ) s.heap h₁) (n₁ : ∀ a ∈ δ, s.heap.get? a = none) (f₁ : Fx F loc₁ (ρ ++ δ) mh₁ h₁) : SPost F ρ s Q .next { s with heap := h₁, toks := tk₁ } :=
  ⟨h₁, tk₁, δ, _, _, _, rfl, q, k₁, n₁, f₁, rfl⟩
theorem SPost.mkR {h₁ : Heap} {tk₁ : Nat} {v : V} {x : Value} (q : Q (.ret v) loc₁ mh₁) (k₁ : Keep (own F ρ) s.heap h₁) (n₁ : ∀ a ∈ δ, s.heap.get? a = none) (f₁ : Fx F loc₁ (ρ ++ δ) mh₁ h₁) (r : VRel F.C h₁ (ρ ++ δ) v x) : SPost F ρ s Q (.ret x) { s with heap := h₁, toks := tk₁ } :=
  ⟨h₁, tk₁, δ, _, _, _, rfl, q, k₁, n₁, f₁, x, rfl, r⟩
theorem SPost.elim {f : Flow} {s' : Shared} {P : Flow → Shared → Prop} (p : SPost F ρ s Q f s')
    (n : ∀ h' tk δ l m, Q .next l m → Keep (own F ρ) s.heap h' → (∀ a ∈ δ, s.heap.get? a = none) → Fx F l (ρ ++ δ) m h' → P .next { s with heap := h', toks := tk })
    (r : ∀ h' tk δ l m v x, Q (.ret v) l m → Keep (own F ρ) s.heap h' → (∀ a ∈ δ, s.heap.get? a = none) → Fx F l (ρ ++ δ) m h' → VRel F.C h' (ρ ++ δ) v x → P (.ret x) { s with heap := h', toks := tk }) : P f s' := by
  obtain ⟨h', tk, δ, fl, l, m, rfl, q, kk, nn, fx, fr⟩ := p
  cases fl with
  | next => cases fr; exact n h' tk δ l m q kk nn fx
  | ret v => obtain ⟨x, rfl, fr⟩ := fr; exact r h' tk δ l m v x q kk nn fx fr
theorem WP.goS {t : Sem Flow} {R : Flow → Shared → Prop} {s' : Shared} (h : WP F.C F.A t (SPost F ρ s Q) s')
    (n : ∀ h' tk δ l m, Q .next l m → Keep (own F ρ) s.heap h' → (∀ a ∈ δ, s.heap.get? a = none) → Fx F l (ρ ++ δ) m h' → R .next { s with heap := h', toks := tk })
    (r : ∀ h' tk δ l m v x, Q (.ret v) l m → Keep (own F ρ) s.heap h' → (∀ a ∈ δ, s.heap.get? a = none) → Fx F l (ρ ++ δ) m h' → VRel F.C h' (ρ ++ δ) v x → R (.ret x) { s with heap := h', toks := tk }) : WP F.C F.A t R s' :=
  h.mono fun f s'' p => SPost.elim (P := R) p n r
theorem SPost.trans {tk₁ : Nat} {δ₁ : List Addr} {f : Flow} {s' : Shared} (k₁ : Keep (own F ρ) s.heap h₁) (n₁ : ∀ a ∈ δ₁, s.heap.get? a = none) (f₁ : Fx F loc₁ (ρ ++ δ₁) mh₁ h₁)
    (p : SPost F (ρ ++ δ₁) { s with heap := h₁, toks := tk₁ } Q f s') : SPost F ρ s Q f s' := by
  have as := List.append_assoc ρ δ₁
  exact SPost.elim (P := SPost F ρ s Q) p (fun h' tk δ l m q kk nn fx => .mkN q (keep_trans k₁ n₁ kk) (fresh_trans k₁ n₁ f₁ nn) (as δ ▸ fx)) fun h' tk δ l m v x q kk nn fx r => .mkR q (keep_trans k₁ n₁ kk) (fresh_trans k₁ n₁ f₁ nn) (as δ ▸ fx) (as δ ▸ r)
theorem SPost.same {tk₁ : Nat} (q : Q .next loc mh) (k₁ : Keep (own F ρ) s.heap h₁) (f₁ : Fx F loc ρ mh h₁) : SPost F ρ s Q .next { s with heap := h₁, toks := tk₁ } :=
  .mkN (δ := []) q k₁ (fun _ q => nomatch q) ((List.append_nil ρ).symm ▸ f₁)
theorem WP.backS {t : Sem Flow} {tk₁ : Nat} {s₁ : Shared} (k₁ : Keep (own F ρ) s.heap h₁) (f₁ : Fx F loc₁ ρ mh₁ h₁) (h : WP F.C F.A t (SPost F ρ { s with heap := h₁, toks := tk₁ } Q) s₁) :
    WP F.C F.A t (SPost F ρ s Q) s₁ := h.mono fun _ _ p => SPost.trans (δ₁ := []) (tk₁ := tk₁) k₁ (fun _ q => nomatch q) ((List.append_nil ρ).symm ▸ f₁) ((List.append_nil ρ).symm ▸ p)
theorem okSs_nil : OkSs [] := by
  intro F loc ρ mh s Q st' fx hm he
  cases List.isEmpty_iff.mp hm
  exact wpAny_execs_nil (SPost.same he .refl fx)
theorem okSs_cons {st : MS} {ss : List MS} (L : OkS st) (R : OkSs ss) : OkSs (st :: ss) := by
  intro F loc ρ mh s Q st' fx hm he
  refine mtSsK (PL := fun st' => WP F.C F.A (execs st' F.env) (SPost F ρ s Q) s) hm fun s1 r1 h1 h2 => ?_
  refine wpAny_execs_cons ((L fx h1 he).goS (fun h₁ tk₁ δ₁ l m q k₁ n₁ f₁ => (R (s := { s with heap := h₁, toks := tk₁ }) f₁ h2 q).mono fun _ _ p => SPost.trans k₁ n₁ f₁ p) fun h₁ tk₁ δ₁ l m v x q k₁ n₁ f₁ r => .mkR q k₁ n₁ f₁ r)
theorem okS_ret {e : ME} : OkS (.ret e) := by
  intro F loc ρ mh s Q st' fx hm he
  refine retMK (PS := fun st' => WP F.C F.A (exec st' F.env) (SPost F ρ s Q) s) hm fun e' pos h => ?_
  refine wpAny_Return_some ((okE F.X F.Γ e fx.cx h he).go fun w h₁ tk₁ v₁ m₁ q₁ k₁ co₁ r₁ => ?_)
  exact .mkR (δ := []) q₁ k₁.own (fun _ q => nomatch q) ((List.append_nil ρ).symm ▸ fx.step k₁ co₁) ((List.append_nil ρ).symm ▸ r₁)
theorem swaps_none {e' : Expr} {l : Nat} {env : Env} (hl : isLC e' = false) (hm : isSD e' = false) (t : Option Expr) : swapsWith e' t l env = pure false := by
  cases e' <;> first | rfl | exact Bool.noConfusion hl | exact Bool.noConfusion hm
theorem isLC_inv {e : Expr} (h : isLC e = true) : ∃ a b c d, e = .ListComp a b c d :=
  Expr.ListComp.elim (motive_1 := fun e => ∃ a b c d, e = .ListComp a b c d) e (eq_of_beq h) fun a b c d => ⟨a, b, c, d, rfl⟩
theorem okS_expr {e : ME} : OkS (.expr e) := by
  intro F loc ρ mh s Q st' fx hm he
  refine exprMK (PS := fun st' => WP F.C F.A (exec st' F.env) (SPost F ρ s Q) s) hm fun e' pos h1 h2 h3 => ?_
  refine wpAny_Expr ((okE F.X F.Γ e fx.cx h1 he).go fun w h₁ tk₁ v₁ m₁ q₁ k₁ co₁ r₁ => ?_) (by rw [interactive, fx.cx.ho.kind]; rfl) (swaps_none h2 h3 none)
  obtain ⟨e, q⟩ := q₁
  cases e; cases r₁
  exact SPost.same q k₁.own (fx.step k₁ co₁)
theorem okS_ite {c : MC} {t e : List MS} (T : OkSs t) (E : OkSs e) : OkS (.ite c t e) := by
  intro F loc ρ mh s Q st' fx hm he
  refine ifMK (PS := fun st' => WP F.C F.A (exec st' F.env) (SPost F ρ s Q) s) hm fun c' t' e' pos h1 h2 h3 => ?_
  refine wpAny_If ((okC F.X F.Γ c fx.cx h1 he).goB fun b h₁ tk₁ m₁ q₁ k₁ co₁ => ?_)
  have f₁ := fx.step k₁ co₁
  cases b
  · exact WP.backS k₁.own f₁ (E (s := { s with heap := h₁, toks := tk₁ }) f₁ h3 q₁)
  · exact WP.backS k₁.own f₁ (T (s := { s with heap := h₁, toks := tk₁ }) f₁ h2 q₁)
noncomputable def WI (F : FC) (ρ : List Addr) (s : Shared) (I : Nat → Loc → MH → Prop) (n : Nat) (s' : Shared) : Prop :=
  ∃ h₁ tk₁ δ₁ loc₁ mh₁, s' = { s with heap := h₁, toks := tk₁ } ∧ Keep (own F ρ) s.heap h₁ ∧ (∀ a ∈ δ₁, s.heap.get? a = none) ∧ Fx F loc₁ (ρ ++ δ₁) mh₁ h₁ ∧ I n loc₁ mh₁
theorem WI.mk {I : Nat → Loc → MH → Prop} {n tk₁ : Nat} (k₁ : Keep (own F ρ) s.heap h₁) (n₁ : ∀ a ∈ δ, s.heap.get? a = none) (f₁ : Fx F loc₁ (ρ ++ δ) mh₁ h₁) (q : I n loc₁ mh₁) : WI F ρ s I n { s with heap := h₁, toks := tk₁ } :=
  ⟨h₁, tk₁, δ, _, _, rfl, k₁, n₁, f₁, q⟩
theorem okS_while {c : MC} {b : List MS} (B : OkSs b) : OkS (.while c b) := by
  intro F loc ρ mh s Q st' fx hm he
  obtain ⟨I, ⟨n, hn⟩, hI⟩ := he
  refine whileMK (PS := fun st' => WP F.C F.A (exec st' F.env) (SPost F ρ s Q) s) hm fun c' b' pos h1 h2 => ?_
  refine wpAny_While (codeAny_whileLoop (WI F ρ s I) (fun n s' p => ?_) n (WI.mk (δ := []) (h₁ := s.heap) (tk₁ := s.toks) .refl (fun _ q => nomatch q) ((List.append_nil ρ).symm ▸ fx) hn))
  obtain ⟨h₁, tk₁, δ₁, loc₁, mh₁, rfl, k₁, n₁, f₁, hw⟩ := p
  refine wp_e (WP.goB (okC F.X F.Γ c (s := { s with heap := h₁, toks := tk₁ }) f₁.cx h1 (hI n loc₁ mh₁ hw)) fun b h₂ tk₂ m₂ q₂ k₂ co₂ => ?_)
  have f₂ := f₁.step k₂ co₂
  have k₁₂ : Keep (own F ρ) s.heap h₂ := keep_trans k₁ n₁ k₂.own
  cases b
  · exact wpAny_execs_nil (SPost.mkN q₂ k₁₂ n₁ f₂)
  · have as := List.append_assoc ρ δ₁
    refine wp_e ((B (s := { s with heap := h₂, toks := tk₂ }) f₂ h2 q₂).goS (fun h₃ tk₃ δ₃ l3 m3 q₃ k₃ n₃ fx₃ => ?_) fun h₃ tk₃ δ₃ l3 m3 v x q₃ k₃ n₃ fx₃ r => SPost.mkR q₃ (keep_trans k₁₂ n₁ k₃) (fresh_trans k₁₂ n₁ f₂ n₃) (as δ₃ ▸ fx₃) (as δ₃ ▸ r))
    obtain ⟨j, hj, q₃⟩ := q₃
    exact ⟨j, hj, WI.mk (keep_trans k₁₂ n₁ k₃) (fresh_trans k₁₂ n₁ f₂ n₃) (as δ₃ ▸ fx₃) q₃⟩
theorem okS_raise : OkS .raise := fun _ _ he => he.elim
theorem kind_or {sc : List (Str × NameKind)} {x : Str} (h : isLoc sc x = true) : sc.lookup x = some .local ∨ sc.lookup x = some .cell :=
  ((Bool.or_eq_true _ _).mp h).imp eq_of_beq eq_of_beq
noncomputable def Lc (C : Cfg) (A : Around) (env : Env) (ρ : List Addr) (s : Shared) (Q : V → MH → Prop) (e : Expr) : Prop := ∃ el tg it' fs gr scp pp, e = .ListComp el (⟨tg, it', fs, 0⟩ :: gr) scp pp ∧ ∀ (pos' : Pos) (use : Option (Value → Sem Unit)) (R : Value → Shared → Prop),
      CFin C ρ s (fun ys m => Q (.list ys) m) (compPost (model C.prog C.w) A NoE use R) →
      WP C A (comprehension e scp env pos' (newList []) false (eval it' env) use) R s
theorem lc_any {X : TX} {Γ : Tab} {C : Cfg} {k : Nat} {A : Around} {env : Env} {sc : List (Str × NameKind)} {loc : Loc} {ρ : List Addr} {mh : MH} {s : Shared} {Q : V → MH → Prop} {e : ME} {e' : Expr}
    (cx : Cx C X Γ k A env sc loc ρ mh s.heap) (hm : mtE X sc e e' = true) (hl : isLC e' = true) (he : wpE Γ e loc mh Q) : Lc C A env ρ s Q e' := by
  have oth : (∀ a b c d, mtE X sc e (.ListComp a b c d) = false) → Lc C A env ρ s Q e' := fun h => let ⟨a, b, c, d, q⟩ := isLC_inv hl; Bool.noConfusion ((h a b c d).symm.trans ((congrArg (mtE X sc e) q).symm.trans hm))
  cases e with
  | comp caps y it ifs elt =>
    exact compMK (P := Lc C A env ρ s Q) hm fun elt' it' ifs' y' py scope pos' hy hl hsc hset hit hifs helt =>
      ⟨_, _, _, _, _, _, _, rfl, fun pos' use R fin => comp_any (K := fun ys m => Q (.list ys) m) (okE X Γ it) (okCs X Γ ifs) (okE X Γ elt) cx hy hl hsc hset hit hifs helt he fin⟩
  | comp2 caps x it y it2 =>
    exact comp2MK (P := Lc C A env ρ s Q) hm fun i1 i2 x' x2 pe px p2 scope pos hx hl hl2 hd2 hsc hs1 hs2 hit hit2 =>
      ⟨_, _, _, _, _, _, _, rfl, fun pos' use R fin => comp2_any (y := y) (K := fun ys m => Q (.list ys) m) (okE X Γ it) (okE X Γ it2) cx hx hl hl2 hd2 hsc hs1 hs2 hit hit2 he fin⟩
  | _ => exact oth fun _ _ _ _ => rfl
theorem swaps_lc {a : Expr} {b : List Comprehension} {c : Scope} {d : Pos} {x : Str} {p : Pos} {l : Nat} {env : Env} : ∃ r : Bool, swapsWith (.ListComp a b c d) (some (.Name x p)) l env = pure r := ⟨_, rfl⟩
theorem okS_assign {x : Nat} {e : ME} : OkS (.assign x e) := by
  intro F loc ρ mh s Q st' fx hm he
  refine asgMK (PS := fun st' => WP F.C F.A (exec st' F.env) (SPost F ρ s Q) s) hm fun x' px e' pos hx' hk hsd hm => ?_
  have hk' := kind_or hk
  have plain : swapsWith e' (some (.Name x' px)) pos.line F.env = pure false → WP F.C F.A (exec (.Assign [.Name x' px] e' pos) F.env) (SPost F ρ s Q) s := fun hs =>
    wpAny_Assign_Name ((okE F.X F.Γ e fx.cx hm he).go fun w h₁ tk₁ v₁ m₁ q₁ k₁ co₁ r₁ => Fx.store (s := { s with heap := h₁, toks := tk₁ }) (fx.step k₁ co₁) hx' hk' r₁ fun h₂ tk₂ f₂ _ ko =>
      SPost.same q₁ (k₁.own.trans ko.own0) f₂) hs
  cases hl : isLC e' with
  | false => exact plain (swaps_none hl hsd _)
  | true =>
    obtain ⟨el, tg, it', fs, gr, scp, pp, rfl, run⟩ := lc_any fx.cx hm hl he
    obtain ⟨r, hr⟩ := swaps_lc (a := el) (b := ⟨tg, it', fs, 0⟩ :: gr) (c := scp) (d := pp) (x := x') (p := px) (l := pos.line) (env := F.env)
    cases r with
    | false => exact plain hr
    | true =>
      rw [exec_Assign_Name_used _ _ _ _ hr]
      refine wpAny_bind (wpAny_standAt (wpAny_bind ?_))
      show wpAny _ F.A (do let _ ← comprehension _ _ F.env _ (newList []) false (eval it' F.env) (some (assign (.Name x' px) F.env))) _ _ s
      refine wpAny_bind (WP.mono (run _ (some (assign (.Name x' px) F.env)) (fun _ s' => SPost F ρ s Q .next s') ?_) fun _ s' hq => wpAny_pure (wpAny_pure hq))
      intro D Cl h' tk m outs m1 hK hDC hD hC co' r' ns kp
      show wpAny _ F.A (assign (.Name x' px) F.env (.ref D)) _ _ _
      have hCo := fx.fresh_own hC
      refine wpAny_assign_Name (Fx.store (s := { s with heap := h', toks := tk }) (fx.step kp co') hx' hk' r' fun h₂ tk₂ f₂ kd ko => ?_)
      have nsC : h₂.Ns Cl m := by
        obtain ⟨o, es, ep, ho, r⟩ := ns
        exact ⟨o, es, ep, ko _ _ ho (Fx.own_nil hCo), r⟩
      refine ⟨m, nsC, fun h'' hs => ?_⟩
      refine SPost.same hK (fun a o e n => ?_) (f₂.chgI (b := Cl) (fun a o e n => (hs.2 a n).trans e) (fx.none_of hC) (fun o e => ns_not_d nsC e) (Fx.own_nil hCo))
      refine (hs.2 a ?_).trans (ko a o (kp a o e fun q => n (mem_own q)) fun q => n (own_sub q))
      rintro rfl; exact nono hC e
theorem mut_here {C : Cfg} {ρ : List Addr} {mh : MH} {h h' : Heap} {a : Addr} (co : Co C ρ mh h) : VRel C h' (ρ ++ [a]) (.mut mh.length) (.ref a) :=
  .mut (by rw [← co.m.len]; exact List.getElem?_concat_length)
theorem newMut {xs : List Value} {vs : List V} {R : Value → Shared → Prop} (fx : Fx F loc ρ mh s.heap) (r : VAll F.C s.heap ρ vs xs) (hc : pureVs vs ∧ vs.length ≤ lim)
    (k : ∀ h' a, (∀ b o, s.heap.get? b = some o → h'.get? b = some o) → s.heap.get? a = none → Fx F loc (ρ ++ [a]) (mh ++ [vs]) h' → VRel F.C h' (ρ ++ [a]) (.mut mh.length) (.ref a) → R (.ref a) { s with heap := h' }) : WP F.C F.A (newList xs) R s := by
  have up : ∀ b o, s.heap.get? b = some o → (s.heap.push { cls := .type "list", data := .seq xs.toArray }).get? b = some o := fun b o e => Heap.get?_push_of_some _ e
  refine wpAny_newObj_type ?_ (by show xs.toArray.size ≤ sizeLine; rw [List.size_toArray, ← r.length]; exact lim_le hc.2)
  exact k _ _ up (Heap.get?_none_of_le (Nat.le_refl _)) (fx.add (a := s.heap.objs.size) (h' := s.heap.push { cls := .type "list", data := .seq xs.toArray }) (n := 0) up (Heap.get?_none_of_le (Nat.le_refl _)) (Heap.get?_push_size _ rfl) r hc.1) (mut_here fx.cx.co)
theorem okS_assignMut {x : Nat} {es : List ME} : OkS (.assignMut x es) := by
  intro F loc ρ mh s Q st' fx hm he
  refine mutMK (PS := fun st' => WP F.C F.A (exec st' F.env) (SPost F ρ s Q) s) hm fun x' px es' lp pos hx hk hm => ?_
  refine wpAny_Assign_Name (List_ (((okEs F.X F.Γ es fx.cx he).1 hm).goL fun xs h₁ tk₁ v₁ m₁ q₁ k₁ co₁ r₁ => ?_))
  refine newMut (s := { s with heap := h₁, toks := tk₁ }) (fx.step k₁ co₁) r₁ q₁.1 fun h₂ a up hn f₂ ra => ?_
  refine Fx.store (s := { s with heap := h₂, toks := tk₁ }) f₂ (hx) (kind_or hk) ra fun h₃ tk₃ f₃ _ ko => ?_
  exact .mkN (δ := [a]) q₁.2 (fun b o e n => ko b o (up b o (k₁ b o e fun q => n (mem_own q))) fun q => n (own_sub q)) (fun b hb => mem_one hb ▸ none_keep co₁ k₁ hn) f₃
end
end Mine
end
section
open PySem PySem.Calls PySem.W PyProof.Rows PySem.SeqAt
set_option maxRecDepth 100000
set_option linter.unusedVariables false
namespace Mine
noncomputable def TPost (F : FC) (loc : Loc) (ρ : List Addr) (s : Shared) (Q : List V → MH → Prop) (xs : List Value) (s' : Shared) : Prop :=
  ∃ h' tk δ vs mh', s' = { s with heap := h', toks := tk } ∧ Q vs mh' ∧ Keep ρ s.heap h' ∧ (∀ a ∈ δ, s.heap.get? a = none) ∧ Fx F loc (ρ ++ δ) mh' h' ∧ VAll F.C h' (ρ ++ δ) vs xs
theorem TPost.front {F : FC} {loc : Loc} {ρ : List Addr} {s s' : Shared} {δ₁ : List Addr} {h₁ : Heap} {tk₁ : Nat} {Q : List V → MH → Prop} {v : V} {x : Value} {xs : List Value} (k₁ : Keep ρ s.heap h₁) (f : ∀ b, h₁.get? b = none → s.heap.get? b = none) (n₁ : ∀ a ∈ δ₁, s.heap.get? a = none)
    (r : VRel F.C h₁ (ρ ++ δ₁) v x) (p : TPost F loc (ρ ++ δ₁) { s with heap := h₁, toks := tk₁ } (fun vs m => Q (v :: vs) m) xs s') : TPost F loc ρ s Q (x :: xs) s' := by
  obtain ⟨h₂, tk₂, δ, vs, m, rfl, q, k₂, n₂, f₂, r₂⟩ := p
  have n₂ : ∀ a ∈ δ, h₁.get? a = none := n₂
  have r' := (r.more fun b hb o e => nono (n₂ b hb) e).keep ((k₂.mono fun b q => List.mem_append.mpr (.inl q)).d)
  have := VAll.cons r' r₂
  rw [List.append_assoc] at f₂ this
  exact ⟨h₂, tk₂, δ₁ ++ δ, _, _, rfl, q, fun a o e n => k₂ a o (k₁ a o e n) fun q => (List.mem_append.mp q).elim n fun q => nono (n₁ a q) e, fun b hb => (List.mem_append.mp hb).elim (n₁ b) fun q => f b (n₂ b q), f₂, this⟩
theorem okT {F : FC} {loc : Loc} : ∀ (fl : List Bool) (es : List ME) {ρ : List Addr} {mh : MH} {s : Shared} {Q : List V → MH → Prop} {es' : List Expr} {pos : Pos},
    Fx F loc ρ mh s.heap → mtEs F.X F.sc es es' = true → wpT F.Γ fl es loc mh Q → WP F.C F.A (spliced (backTo pos (starEach es' F.env))) (TPost F loc ρ s Q) s
  | [], es, ρ, mh, s, Q, es', pos, fx, hm, he => by
    obtain ⟨rfl, q⟩ := he
    cases List.isEmpty_iff.mp hm
    exact args_nil ⟨s.heap, s.toks, [], _, _, rfl, q, .refl, (fun _ q => nomatch q), (List.append_nil ρ).symm ▸ fx, .nil⟩
  | b :: fl, [], ρ, mh, s, Q, es', pos, fx, hm, he => he.elim
  | b :: fl, e :: es, ρ, mh, s, Q, es', pos, fx, hm, he => by
    refine mtEsK (PL := fun es' => WP F.C F.A (spliced (backTo pos (starEach es' F.env))) (TPost F loc ρ s Q) s) hm fun e' r' h1 h2 h3 => ?_
    clear hm
    cases b with
    | false =>
      refine args_cons ((okE F.X F.Γ e fx.cx h2 he).go fun x h₁ tk₁ v₁ m₁ q₁ k₁ co₁ r₁ => ?_) (starEach_cons h1)
      exact (okT fl es (s := { s with heap := h₁, toks := tk₁ }) (fx.step k₁ co₁) h3 q₁).mono fun _ _ p => TPost.front (δ₁ := []) k₁ (fun b hb => none_keep co₁ k₁ hb) (fun _ q => nomatch q) ((List.append_nil ρ).symm ▸ r₁) ((List.append_nil ρ).symm ▸ p)
    | true =>
      cases e with
      | list es2 =>
        revert h1
        refine listMK (P := fun e' => isStar e' = false → WP F.C F.A (spliced (backTo pos (starEach (e' :: r') F.env))) (TPost F loc ρ s Q) s) h2 fun es3 p3 hm3 h1 => ?_
        refine args_cons (List_ (((okEs F.X F.Γ es2 fx.cx he).1 hm3).goL fun xs h₁ tk₁ v₁ m₁ q₁ k₁ co₁ r₁ => ?_)) (starEach_cons h1)
        refine newMut (s := { s with heap := h₁, toks := tk₁ }) (fx.step k₁ co₁) r₁ q₁.1 fun h₂ a up hn f₂ ra => ?_
        have fr : ∀ b, h₁.get? b = none → s.heap.get? b = none := fun b hb => none_keep co₁ k₁ hb
        exact (okT fl es (s := { s with heap := h₂, toks := tk₁ }) f₂ h3 q₁.2).mono fun _ _ p => TPost.front (fun b o e n => up b o (k₁ b o e n)) (fun b hb => fr b (by cases e : h₁.get? b with | none => rfl | some o => exact (nono hb (up b o e)).elim)) (fun b hb => mem_one hb ▸ fr a hn) ra p
      | _ => exact he.elim
noncomputable def Setr (C : Cfg) (A : Around) (env : Env) (st : Value → Sem Unit) (n : Str) : Prop := ∀ (w : Value) (Q : Unit → Shared → Prop) (s : Shared), WP C A (storeName env n w) Q s → WP C A (st w) Q s
inductive Tg (F : FC) : List Nat → List Str → List (Value → Sem Unit) → Prop where
  | nil : Tg F [] [] []
  | cons {i : Nat} {is : List Nat} {x : Str} {xs : List Str} {st : Value → Sem Unit} {sts : List (Value → Sem Unit)} : F.X.vars[i]? = some x → (F.sc.lookup x = some .local ∨ F.sc.lookup x = some .cell) → Setr F.C F.A F.env st x → Tg F is xs sts → Tg F (i :: is) (x :: xs) (st :: sts)
noncomputable def namesT (ts : List Expr) : List Str := ts.filterMap fun | .Name id _ => some id | _ => none
section
variable {F : FC} {loc : Loc} {ρ : List Addr} {mh : MH} {s : Shared}
theorem Tg.app {is : List Nat} {xs : List Str} {sts : List (Value → Sem Unit)} {js : List Nat} {ys : List Str} {tts : List (Value → Sem Unit)} (a : Tg F is xs sts) (b : Tg F js ys tts) : Tg F (is ++ js) (xs ++ ys) (sts ++ tts) := by
  induction a with
  | nil => exact b
  | cons h1 h2 h3 _ ih => exact .cons h1 h2 h3 ih
theorem Tg.rev {is : List Nat} {xs : List Str} {sts : List (Value → Sem Unit)} (a : Tg F is xs sts) : Tg F is.reverse xs.reverse sts.reverse := by
  induction a with
  | nil => exact .nil
  | cons h1 h2 h3 _ ih => rw [List.reverse_cons, List.reverse_cons, List.reverse_cons]; exact ih.app (.cons h1 h2 h3 .nil)
theorem Tg.len {is : List Nat} {xs : List Str} {sts : List (Value → Sem Unit)} (a : Tg F is xs sts) : xs.length = is.length := by
  induction a with
  | nil => rfl
  | cons _ _ _ _ ih => exact congrArg (· + 1) ih
theorem varsM_tg {is : List Nat} : ∀ {ts : List Expr}, varsM F.X F.sc is ts = true → Tg F is (namesT ts) ((assignEach ts F.env).map (·.2)) ∧ Tg F is (namesT ts) ((namesT ts).map fun n => bindName F.env n) ∧ (assignEach ts F.env).length = is.length ∧ (assignEach ts F.env).findIdx? (·.1) = none := by
  induction is with
  | nil => intro ts h; cases List.isEmpty_iff.mp h; exact ⟨.nil, .nil, rfl, rfl⟩
  | cons i is ih =>
    intro ts h
    refine varsMK (PL := fun ts => Tg F (i :: is) (namesT ts) ((assignEach ts F.env).map (·.2)) ∧ Tg F (i :: is) (namesT ts) ((namesT ts).map fun n => bindName F.env n) ∧ (assignEach ts F.env).length = (i :: is).length ∧ (assignEach ts F.env).findIdx? (·.1) = none) h fun x px ts' hx hk h3 => ?_
    obtain ⟨a, b, c, d⟩ := ih h3
    refine ⟨.cons hx (kind_or hk) (fun w Q s h => wpAny_assign_Name h) a, .cons hx (kind_or hk) (fun w Q s h => wpAny_bindName h) b, congrArg (· + 1) c, ?_⟩
    show ((false, assign (.Name x px) F.env) :: assignEach ts' F.env).findIdx? (·.1) = none
    rw [List.findIdx?_cons, d]
    rfl
noncomputable def NPost (F : FC) (loc : Loc) (ρ : List Addr) (mh : MH) (s : Shared) (_ : Unit) (s' : Shared) : Prop := ∃ h' tk, s' = { s with heap := h', toks := tk } ∧ Keep (own F []) s.heap h' ∧ Fx F loc ρ mh h'
theorem stores {is : List Nat} {xs : List Str} {sts : List (Value → Sem Unit)} (tg : Tg F is xs sts) : ∀ {vs : List V} {ws : List Value} {loc : Loc} {s : Shared}, Fx F loc ρ mh s.heap → VAll F.C s.heap ρ vs ws → vs.length = is.length →
    WP F.C F.A (assignInOrder sts ws) (NPost F (setAll loc is vs) ρ mh s) s := by
  induction tg with
  | nil =>
    intro vs ws loc s fx r hl
    cases List.length_eq_zero_iff.mp hl; cases r
    exact wpAny_pure ⟨s.heap, s.toks, rfl, .refl, fx⟩
  | cons h1 h2 h3 _ ih =>
    intro vs ws loc s fx r hl
    cases vs with
    | nil => cases hl
    | cons v vs =>
      obtain ⟨w, ws', rfl, r1, r2⟩ := r
      refine wpAny_bind (wpAny_holding (h3 _ _ _ (fx.store h1 h2 r1 fun h' tk f' kd ko => ?_)))
      refine (ih (s := { s with heap := h', toks := tk }) f' (r2.keep kd) (Nat.succ.inj hl)).mono ?_
      rintro _ s' ⟨h₂, tk₂, rfl, k₂, f₂⟩
      exact ⟨h₂, tk₂, rfl, ko.trans k₂, f₂⟩
theorem setAll_app : ∀ {is : List Nat} {vs : List V} {loc : Loc} {i : Nat} {v : V}, is.length = vs.length → setAll loc (is ++ [i]) (vs ++ [v]) = (setAll loc is vs).set i (some v)
  | [], [], _, _, _, _ => rfl
  | [], _ :: _, _, _, _, h => nomatch h
  | _ :: _, [], _, _, _, h => nomatch h
  | j :: is, u :: vs, loc, i, v, h => setAll_app (loc := loc.set j (some u)) (Nat.succ.inj h)
theorem setAll_set : ∀ {is : List Nat} {vs : List V} {loc : Loc} {i : Nat} {v : V}, i ∉ is → setAll (loc.set i (some v)) is vs = (setAll loc is vs).set i (some v)
  | [], vs, loc, i, v, _ => rfl
  | _ :: _, [], loc, i, v, _ => rfl
  | j :: is, u :: vs, loc, i, v, h => by
    show setAll ((loc.set i (some v)).set j (some u)) is vs = (setAll (loc.set j (some u)) is vs).set i (some v)
    rw [List.set_comm _ _ (by rintro rfl; exact h (.head _))]
    exact setAll_set fun q => h (.tail _ q)
theorem setAll_rev : ∀ {is : List Nat} {vs : List V} {loc : Loc}, is.Nodup → is.length = vs.length → setAll loc is.reverse vs.reverse = setAll loc is vs
  | [], [], _, _, _ => rfl
  | [], _ :: _, _, _, h => nomatch h
  | _ :: _, [], _, _, h => nomatch h
  | j :: is, u :: vs, loc, nd, h => by
    obtain ⟨n1, n2⟩ := List.nodup_cons.mp nd
    have hl : is.length = vs.length := Nat.succ.inj h
    rw [List.reverse_cons, List.reverse_cons, setAll_app (by rw [List.length_reverse, List.length_reverse, hl]), setAll_rev n2 hl]
    exact (setAll_set n1).symm
theorem names_full {f : Expr → Option Str} : ∀ {ts : List Expr}, (∀ t x, f t = some x → ∃ p, t = .Name x p) → (ts.filterMap f).length = ts.length → ts.filterMap f = namesT ts
  | [], _, _ => rfl
  | t :: ts, hf, h => by
    cases e : f t with
    | none =>
      rw [List.filterMap_cons_none e] at h
      exact absurd (Nat.lt_of_lt_of_eq (Nat.lt_succ_self _) h.symm) (Nat.not_lt.mpr (List.length_filterMap_le f ts))
    | some x =>
      obtain ⟨p, rfl⟩ := hf t x e
      rw [List.filterMap_cons_some e] at h ⊢
      rw [names_full hf (ts := ts) (Nat.succ.inj h)]; rfl
theorem swapped_cases {env : Env} {ts es' : List Expr} {k1 k2 : Nat} {p1 p2 : Pos} (hc : es'.all (constantsAlone 8) = false ∨ es'.all (foldedForSure 8) = true) :
    swappedStores [.Tuple ts k1 p1] (.Tuple es' k2 p2) env = pure none ∨ swappedStores [.Tuple ts k1 p1] (.Tuple es' k2 p2) env = pure (some (namesT ts)) := by
  unfold swappedStores
  dsimp only
  split
  · exact .inl rfl
  split
  · exact .inl rfl
  split
  · exact .inl rfl
  · rename_i hn
    split
    · exact .inl rfl
    · rename_i h1
      split
      · rename_i h2
        rcases hc with hc | hc
        · rw [hc] at h2; cases h2
        · exact absurd hc h1
      · right
        rw [Bool.not_eq_true, Bool.or_eq_false_iff] at hn
        have hn := hn.1
        rw [bne_eq_false_iff_eq] at hn
        rw [names_full (fun t x e => by cases t <;> first | exact ⟨_, by cases (Option.ite_none_right_eq_some.mp e).2; rfl⟩ | exact nomatch e) hn]
theorem okS_assignTup {xs : List Nat} {fl : List Bool} {es : List ME} : OkS (.assignTup xs fl es) := by
  intro F loc ρ mh s Q st' fx hm he
  refine tupMK (PS := fun st' => WP F.C F.A (exec st' F.env) (SPost F ρ s Q) s) hm fun ts k1 p1 es' k2 p2 pos hv nd1 hm hc => ?_
  obtain ⟨nd, h100⟩ := nd1
  have hc : es'.all (constantsAlone 8) = false ∨ es'.all (foldedForSure 8) = true := ((Bool.or_eq_true _ _).mp hc).imp bnot id
  obtain ⟨tg1, tg2, hn1, hn2⟩ := varsM_tg hv
  have tup : ∀ {R : Value → Shared → Prop}, (∀ t h' tk δ ws vs m1, vs.length = xs.length → Q .next (setAll loc xs vs) m1 → Keep ρ s.heap h' → (∀ a ∈ δ, s.heap.get? a = none) → Fx F loc (ρ ++ δ) m1 h' → VAll F.C h' (ρ ++ δ) vs ws → h'.IsTuple t ws.toArray → R (.ref t) { s with heap := h', toks := tk }) → WP F.C F.A (eval (.Tuple es' k2 p2) F.env) R s := by
    intro R hq
    refine Tuple_ ((okT fl es fx hm he).mono ?_)
    rintro ws s' ⟨h₁, tk₁, δ, vs, m1, rfl, ⟨hl, q⟩, k₁, n₁, f₁, r₁⟩
    refine wpAny_newObj_type ?_ ?_
    · have up : ∀ b o, h₁.get? b = some o → (h₁.push { cls := .type "tuple", data := .seq ws.toArray }).get? b = some o := fun b o e => Heap.get?_push_of_some _ e
      exact hq _ _ tk₁ δ ws vs m1 hl q (k₁.trans (.of_all up)) n₁ (f₁.step (.of_all up) (f₁.cx.co.keepAll up)) (r₁.keep (Keep.of_all up).d) ⟨_, Heap.get?_push_size _ rfl, rfl, 0, rfl⟩
    · show ws.toArray.size ≤ sizeLine
      rw [List.size_toArray, ← r₁.length, hl]
      exact lim_le (Nat.le_trans h100 (by decide))
  have fin : ∀ {h' : Heap} {tk : Nat} {δ : List Addr} {ws : List Value} {h₂ : Heap} {sts : Sem Unit} {loc₂ : Loc} {m1 : MH} {vs : List V}, Q .next loc₂ m1 → Keep ρ s.heap h' → (∀ a ∈ δ, s.heap.get? a = none) → Fx F loc (ρ ++ δ) m1 h' → Heap.ExtBut h'.objs.size h' h₂ → VAll F.C h' (ρ ++ δ) vs ws →
      (∀ {s' : Shared}, Fx F loc (ρ ++ δ) m1 s'.heap → VAll F.C s'.heap (ρ ++ δ) vs ws → WP F.C F.A sts (NPost F loc₂ (ρ ++ δ) m1 s') s') →
      WP F.C F.A sts (fun _ s' => SPost F ρ s Q .next s') { s with heap := h₂, toks := tk } := by
    intro h' tk δ ws h₂ sts loc₂ m1 vs q k₁ n₁ f₁ ext r hst
    have up : ∀ b o, h'.get? b = some o → h₂.get? b = some o := fun b o e => ext b o (Nat.ne_of_lt (Heap.lt_size e)) e
    refine (hst (s' := { s with heap := h₂, toks := tk }) (f₁.step (.of_all up) (f₁.cx.co.keepAll up)) (r.keep (Keep.of_all up).d)).mono ?_
    rintro _ s'' ⟨h₃, tk₃, rfl, k₃, f₃⟩
    exact .mkN q (fun a o e n => k₃ a o (up a o (k₁ a o e fun q => n (mem_own q))) fun q => n (own_sub q)) n₁ f₃
  rcases swapped_cases (env := F.env) (ts := ts) (es' := es') (k1 := k1) (k2 := k2) (p1 := p1) (p2 := p2) hc with hw | hw
  · refine Assign_Tuple (tup fun t h' tk δ ws vs m1 hl q k₁ n₁ f₁ r ht => ?_) rfl hw
    refine wpAny_assign_Tuple fx.cx.rm.hh ht (by rw [hn1, List.size_toArray, ← r.length, hl]) hn2 fun h₂ ext => ?_
    rw [List.toList_toArray]
    exact fin q k₁ n₁ f₁ ext r (fun f r => stores tg1 f r hl)
  · refine Assign_Tuple_swapped (names := namesT ts) (tup fun t h' tk δ ws vs m1 hl q k₁ n₁ f₁ r ht => ?_) rfl hw
    rw [show (namesT ts).length = ws.toArray.size by rw [tg2.len, List.size_toArray, ← r.length, hl]]
    refine wpAny_unpackItems_tuple fx.cx.rm.hh ht fun h₂ ext => ?_
    rw [List.toList_toArray]
    have tgr := tg2.rev
    rw [← List.map_reverse] at tgr
    rw [← setAll_rev nd hl.symm] at q
    exact fin q k₁ n₁ f₁ ext r (fun f r => stores tgr f r.reverse (by rw [List.length_reverse, List.length_reverse, hl]))
theorem swapsSole {e' : Expr} {ts : List Expr} {k1 : Nat} {p1 : Pos} {l : Nat} {env : Env} : swapsWithSole [.Tuple ts k1 p1] e' l env = pure false := by
  cases e' <;> rfl
theorem swapNone {e' : Expr} {ts : List Expr} {k1 : Nat} {p1 : Pos} {env : Env} (h : isTup e' = false) : swappedStores [.Tuple ts k1 p1] e' env = pure none := by
  cases e' <;> first | rfl | exact Bool.noConfusion h
theorem unpacked {is : List Nat} {xs : List Str} {sts : List (Value → Sem Unit)} {vs : List V} {ws : List Value} {h₂ : Heap}
    (fx : Fx F loc ρ mh s.heap) (tg : Tg F is xs sts) (r : VAll F.C s.heap ρ vs ws) (hl : vs.length = is.length) (ext : Heap.ExtBut s.heap.objs.size s.heap h₂) :
    WP F.C F.A (assignInOrder sts ws) (NPost F (setAll loc is vs) ρ mh s) { s with heap := h₂ } := by
  have up : ∀ b o, s.heap.get? b = some o → h₂.get? b = some o := fun b o e => ext b o (Nat.ne_of_lt (Heap.lt_size e)) e
  refine (stores tg (s := { s with heap := h₂ }) (fx.step (.of_all up) (fx.cx.co.keepAll up)) (r.keep (Keep.of_all up).d) hl).mono ?_
  rintro _ s' ⟨h₃, tk₃, rfl, k₃, f₃⟩
  exact ⟨h₃, tk₃, rfl, (Keep.of_all up).trans k₃, f₃⟩
theorem okS_unpack {xs : List Nat} {e : ME} : OkS (.unpack xs e) := by
  intro F loc ρ mh s Q st' fx hm he
  refine unpMK (PS := fun st' => WP F.C F.A (exec st' F.env) (SPost F ρ s Q) s) hm fun ts k1 p1 e' pos hv nd ht hm => ?_
  obtain ⟨tg1, tg2, hn1, hn2⟩ := varsM_tg hv
  refine Assign_Tuple ((okE F.X F.Γ e fx.cx hm he).go fun w h₁ tk₁ v₁ m₁ q₁ k₁ co₁ r₁ => ?_) swapsSole (swapNone ht)
  obtain ⟨vs, rfl, hl, q⟩ := tupW_inv q₁
  obtain ⟨t, ws, rfl, ht, hnn, r⟩ := r₁
  refine wpAny_assign_Tuple fx.cx.rm.hh ht (by rw [hn1, List.size_toArray, ← r.length, hl]) hn2 fun h₂ ext => ?_
  rw [List.toList_toArray]
  refine (unpacked (s := { s with heap := h₁, toks := tk₁ }) (fx.step k₁ co₁) tg1 r hl ext).mono ?_
  rintro _ s' ⟨h₃, tk₃, rfl, k₃, f₃⟩
  exact SPost.same q (k₁.own.trans k₃.own0) f₃
end
end Mine
end
section
open PySem PySem.Calls PySem.W PyProof.Rows PySem.SeqAt
set_option maxRecDepth 100000
set_option linter.unusedVariables false
namespace Mine
theorem items_notMut {v : V} {mh mh' : MH} (h : notMut v) : iterItems mh v = iterItems mh' v := by
  cases v <;> first | rfl | exact h.elim
section
variable {F : FC} {loc : Loc} {ρ : List Addr} {mh : MH} {s : Shared} {Q : Fl → Loc → MH → Prop}
structure LI (F : FC) (ρ : List Addr) (s : Shared) (J : Nat → Loc → MH → Prop) (a : V) (I : Addr) (i : Nat) (loc : Loc) (mh : MH) (δ : List Addr) (h : Heap) : Prop where
  keep : Keep (own F ρ) s.heap h
  new : ∀ a ∈ δ, s.heap.get? a = none
  not : I ∉ δ
  fx : Fx F loc (ρ ++ δ) mh h
  it : ItSt F.C (ρ ++ δ) h a I i
  rest : J i loc mh
noncomputable def LS (F : FC) (ρ : List Addr) (s : Shared) (J : Nat → Loc → MH → Prop) (a : V) (I : Addr) (len : Nat) (n : Nat) (s' : Shared) : Prop :=
  ∃ h tk δ i loc₁ mh₁, s' = { s with heap := h, toks := tk } ∧ i ≤ len ∧ n = len + 1 - i ∧ LI F ρ s J a I i loc₁ mh₁ δ h
section
variable {J : Nat → Loc → MH → Prop} {a : V} {I : Addr} {len i : Nat} {h : Heap} {δ : List Addr}
theorem LS.mk {tk : Nat} (hi : i ≤ len) (li : LI F ρ s J a I i loc mh δ h) : LS F ρ s J a I len (len + 1 - i) { s with heap := h, toks := tk } := ⟨h, tk, δ, i, loc, mh, rfl, hi, rfl, li⟩
variable (li : LI F ρ s J a I i loc mh δ h) (hI₀ : F.h₀.get? I = none) (hIo : I ∉ own F ρ) (hIs : s.heap.get? I = none)
include li hI₀ hIo hIs
theorem LI.moved {ha : Heap} (hs : ∀ a o, h.get? a = some o → a ≠ I → ha.get? a = some o) : Fx F loc (ρ ++ δ) mh ha ∧ Keep (own F ρ) s.heap ha :=
  ⟨li.fx.chgI (b := I) hs hI₀ (fun o e => by obtain ⟨o', h1, h2⟩ := li.it.obj; cases h1.symm.trans e; exact h2) (Fx.own_nil fun q => (own_app q).elim hIo li.not), fun a o e n => hs a o (li.keep a o e n) (by rintro rfl; exact nono hIs e)⟩
omit hI₀ hIs in
theorem LI.next {ha hb : Heap} {tka : Nat} {δb : List Addr} {l3 : Loc} {m3 : MH} (fa : Fx F loc (ρ ++ δ) mh ha) (ka : Keep (own F ρ) s.heap ha) (sta : ItSt F.C (ρ ++ δ) ha a I (i + 1)) (kb : Keep (own F (ρ ++ δ)) ha hb) (nb : ∀ b ∈ δb, ha.get? b = none) (fb : Fx F l3 ((ρ ++ δ) ++ δb) m3 hb) (q : J (i + 1) l3 m3) :
    LI F ρ s J a I (i + 1) l3 m3 (δ ++ δb) hb := by
  obtain ⟨oI, hoI, _⟩ := sta.obj
  have kd : KeepD ((ρ ++ δ) ++ δb) ha hb := fun a o e d n => kb a o e fun q => (List.mem_append.mp q).elim (fun q => fa.own_d (List.mem_append.mpr (.inl q)) e d) fun q => n (List.mem_append.mpr (.inl q))
  have stb := (sta.more fun b hb' o e => nono (nb b hb') e).keep (fun o e => kb I o e fun q => (own_app q).elim hIo li.not) kd
  rw [List.append_assoc] at fb stb
  exact ⟨keep_trans ka li.new kb, fresh_trans ka li.new fa nb, fun q => (List.mem_append.mp q).elim li.not fun q => nono (nb I q) hoI, fb, stb, q⟩
end
theorem for_core {e : ME} {target e' : Expr} {b' : List Stmt} {pos : Pos} {g : V → Loc → MH → (Fl → Loc → MH → Prop) → Prop}
    (fx : Fx F loc ρ mh s.heap) (hset : isSet e' = false) (hm : mtE F.X F.sc e e' = true) (he : wpE F.Γ e loc mh fun v m => notMut v ∧ ∃ vs, iterItems m v = some vs ∧ forW g Q vs loc m)
    (turn : ∀ {a vs m1 u loc₁ ρ₁ mh₁ w I i R} {s₁ : Shared}, notMut a → iterItems m1 a = some vs → g u loc₁ mh₁ R → u ∈ vs → Fx F loc₁ ρ₁ mh₁ s₁.heap → VRel F.C s₁.heap ρ₁ u w → ItSt F.C ρ₁ s₁.heap a I i →
      WP F.C F.A (letOwnedTupleGo target (.ref I) w) (fun _ s' => WP F.C F.A (assign target F.env w) (fun _ s'' => WP F.C F.A (execs b' F.env) (SPost F ρ₁ s₁ R) s'') s') s₁) :
    WP F.C F.A (exec (.For target e' b' [] pos) F.env) (SPost F ρ s Q) s := by
  refine wpAny_For ((okE F.X F.Γ e fx.cx hm he).go fun xv h₁ tk₁ a m1 q₁ k₁ co₁ r₁ => ?_) (set_ok hset)
  obtain ⟨hnm, vs, ei, J, hJ0, hJ, hJe⟩ := q₁
  refine WP.mono (iter_start ei co₁ r₁ (s := { s with heap := h₁, toks := tk₁ })) ?_
  rintro _ _ ⟨h₂, rfl, rfl, up, st⟩
  dsimp only at up st ⊢
  have f₁ := fx.step k₁ co₁
  have hI₁ : h₁.get? h₁.objs.size = none := Heap.get?_none_of_le (Nat.le_refl _)
  generalize h₁.objs.size = I at hI₁ st ⊢
  have hI₀ := f₁.none_of hI₁
  have hIo := f₁.fresh_own hI₁
  have hIs : s.heap.get? I = none := none_keep co₁ k₁ hI₁
  have f₂ := f₁.step (.of_all up) (f₁.cx.co.keepAll up)
  rw [← List.append_nil ρ] at f₂ st
  clear f₁
  refine codeAny_forLoop_any (LS F ρ s J a I vs.length) (fun n s' p => ?_) (vs.length + 1) (LS.mk (h := h₂) (tk := tk₁) (δ := []) (Nat.zero_le _) ⟨(k₁.trans (.of_all up)).own, (fun _ q => nomatch q), (fun q => nomatch q), f₂, st, hJ0⟩)
  obtain ⟨h, tk, δ, i, loc₁, mh₁, rfl, hi, rfl, li⟩ := p
  by_cases hlt : i < vs.length
  · have hu : vs[i]? = some vs[i] := List.getElem?_eq_getElem hlt
    refine wp_e (WP.mono (iter_next (s := { s with heap := h, toks := tk }) (A := F.A) ((items_notMut hnm).trans ei) hu li.fx.cx.co li.it) ?_)
    rintro _ _ ⟨w, ha, tka, rfl, rfl, hsa, sta, rw⟩
    obtain ⟨fa, ka⟩ := li.moved hI₀ hIo hIs fun a o e ne => (hsa.2 a ne).trans e
    refine wp_e ((turn (s₁ := { s with heap := ha, toks := tka }) hnm ei (hJ i vs[i] _ _ hu li.rest) (List.getElem_mem hlt) fa rw sta).mono fun _ s₂ h2 => wp_e (h2.mono fun _ s₃ h3 => wp_e (h3.goS (fun hb tkb δb l3 m3 q3 kb nb fb => ⟨_, next_lt hlt, LS.mk hlt (li.next (tka := tka) hIo fa ka sta kb nb fb q3)⟩)
      fun hb tkb δb l3 m3 v x q3 kb nb fb r => SPost.mkR q3 (keep_trans ka li.new kb) (fresh_trans ka li.new fa nb) (List.append_assoc ρ δ δb ▸ fb) (List.append_assoc ρ δ δb ▸ r))))
  · have e : i = vs.length := Nat.le_antisymm hi (Nat.le_of_not_lt hlt)
    subst e
    refine wp_e (WP.mono (iter_end (s := { s with heap := h, toks := tk }) (A := F.A) ((items_notMut hnm).trans ei) li.fx.cx.co fx.cx.rm.hh li.it) ?_)
    rintro _ _ ⟨ha, rfl, rfl, hsa⟩
    obtain ⟨fa, ka⟩ := li.moved hI₀ hIo hIs fun a o e ne => hsa a o ne e
    exact wpAny_execs_nil (SPost.mkN (hJe _ _ li.rest) ka li.new fa)
theorem okS_for {x : Nat} {e : ME} {b : List MS} (B : OkSs b) : OkS (.for x e b) := by
  intro F loc ρ mh s Q st' fx hm he
  refine forMK (PS := fun st' => WP F.C F.A (exec st' F.env) (SPost F ρ s Q) s) hm fun x' px e' b' pos hx hk hset hm hb => ?_
  refine for_core fx hset hm he ?_
  intro a vs m1 u loc₁ ρ₁ mh₁ w I i R s₁ _ _ eg _ f r _
  exact wpAny_pure (wpAny_assign_Name (f.store hx (kind_or hk) r fun h' tk f' kd ko => WP.backS (tk₁ := tk) ko.own0 f' (B (s := { s₁ with heap := h', toks := tk }) f' hb eg)))
end
mutual
theorem okS : ∀ st : MS, OkS st
  | .assign x e => okS_assign
  | .assignMut x es => okS_assignMut
  | .assignTup xs fl es => okS_assignTup
  | .unpack xs e => okS_unpack
  | .expr e => okS_expr
  | .ite c t e => okS_ite (okSs t) (okSs e)
  | .while c b => okS_while (okSs b)
  | .for x e b => okS_for (okSs b)
  | .ret e => okS_ret
  | .raise => okS_raise
theorem okSs : ∀ ss : List MS, OkSs ss
  | [] => okSs_nil
  | s :: ss => okSs_cons (okS s) (okSs ss)
end
end Mine
end
section
open PySem PySem.Calls PySem.W PyProof.Rows PySem.SeqAt
set_option maxRecDepth 100000
set_option linter.unusedVariables false
namespace Mine
structure FnDef where
  vars : List Str
  np : Nat
  bis : Bool
  body : List MS
noncomputable def keyOf (kws : List (Str × V)) : Option V := match kws with
  | [] => some .none
  | p :: r => (match r with
    | [] => (match p.1 == ("key" : Str) with | true => some p.2 | false => none)
    | _ :: _ => none)
noncomputable def dfl (n : Nat) : List V := ([.int 0, .none] : List V).drop (n - 2)
noncomputable def bindF (d : FnDef) (vs : List V) (kws : List (Str × V)) : Option (List V) := match d.bis with
  | true => (match decide (2 ≤ vs.length ∧ vs.length ≤ 4) with | true => (keyOf kws).map fun k => vs ++ (dfl vs.length ++ [k]) | false => none)
  | false => (match kws.isEmpty && vs.length == d.np with | true => some vs | false => none)
noncomputable def entry (d : FnDef) (us : List V) : Loc := us.map some ++ List.replicate (d.vars.length - us.length) none
noncomputable def frz (n : Nat) (mh : MH) (i : Nat) : V := match decide (i < n) with
  | true => .mut i
  | false => .list ((mh[i]?).getD [])
noncomputable def outW (n : Nat) (Q : V → MH → Prop) : Fl → Loc → MH → Prop
  | .next, _, m => Q .none (m.take n)
  | .ret v, _, m => Q (sub (frz n m) v) (m.take n)
noncomputable def callW (F : List FnDef) (Γ : Tab) (f : Nat) (vs : List V) (kws : List (Str × V)) (mh : MH) (Q : V → MH → Prop) : Prop :=
  ∃ d us, F[f]? = some d ∧ bindF d vs kws = some us ∧ wpSs Γ d.body (entry d us) mh (outW mh.length Q)
noncomputable abbrev Ov := Nat → Tab
noncomputable def runF (F : List FnDef) (ov : Ov) : Nat → Tab
  | 0 => fun _ _ _ _ _ => False
  | n + 1 => fun f vs kws mh Q => ov n f vs kws mh Q ∨ callW F (runF F ov n) f vs kws mh Q
noncomputable def nov : Ov := fun _ _ _ _ _ _ => False
noncomputable def fnChk (fns : List Str) (d : FnDef) (fd : FuncData) (body : List Stmt) (n : Nat) : Bool :=
  !fd.scope.isCoroutine && !fd.scope.isGenerator && fd.closure.isEmpty && fd.globals == mainGlobals && fd.builtins == builtinsNs && fd.scope.kind == .function &&
  fd.scope.names.all (fun p => p.2 != .free) && decide (((cellsFrom 0 fd.scope.names []).map (·.1)).Nodup) && mtSs ⟨d.vars, fns⟩ fd.scope.names d.body body && decide d.vars.Nodup && decide (n ≤ d.vars.length) &&
  (d.vars.take n).all (isLoc fd.scope.names)
noncomputable def Binds (C : Cfg) (d : FnDef) (fd : FuncData) (n : Nat) : Prop :=
  ∀ (ξ : List Addr) (ρ : List Addr) (s : Shared) (vs : List V) (kws : List (Str × V)) (xs : List Value) (kxs : List (Str × Value)) (us : List V), (∀ a o, C.hb.get? a = some o → s.heap.get? a = some o) → bindF d vs kws = some us →
    VAll { C with ξ := ξ } s.heap ρ vs xs → kws.map (·.1) = kxs.map (·.1) → VAll { C with ξ := ξ } s.heap ρ (kws.map (·.2)) (kxs.map (·.2)) →
    us.length = n ∧ ∃ ws, VAll { C with ξ := ξ } s.heap ρ us ws ∧ BindsTo s fd ⟨xs, kxs⟩ ((d.vars.take n).zip ws)
noncomputable def FnRec (C : Cfg) (fns : List Str) (f : Nat) (d : FnDef) : Prop :=
  ∃ (o : Obj) (fd : FuncData) (body : List Stmt) (n : Nat), C.hb.get? (C.fa f) = some o ∧ o.data = .func fd ∧ fd.body = .stmts body ∧ C.hb.CodeRec fd.code fd.qualname ∧ fnChk fns d fd body n = true ∧ Binds C d fd n
section
variable {C : Cfg} {h : Heap} {ρ δ : List Addr} {mh : MH}
theorem Co.less (co : Co C (ρ ++ δ) mh h) : Co C ρ (mh.take ρ.length) h := by
  refine ⟨co.up, fun a ha => co.new a (List.mem_append.mpr (.inl ha)), ⟨?_, ?_, fun i a vs e1 e2 => ?_⟩, fun vs hv => co.pure vs (List.mem_of_mem_take hv), co.live, fun a ha => ⟨fun q => (co.apart a ha).1 (List.mem_append.mpr (.inl q)), (co.apart a ha).2⟩⟩
  · rw [List.length_take, ← co.m.len, List.length_append, Nat.min_eq_left (Nat.le_add_right ..)]
  · exact (List.nodup_append.mp co.m.nodup).1
  · have hi : i < ρ.length := (List.getElem?_eq_some_iff.mp e1).1
    rw [List.getElem?_take_of_lt hi] at e2
    obtain ⟨xs, n, g, r⟩ := co.m.at' i a vs (app_more e1) e2
    exact ⟨xs, n, g, r.less (co.pure vs (List.mem_of_getElem? e2))⟩
theorem VRel.froz {v : V} {x : Value} (co : Co C (ρ ++ δ) mh h) (r : VRel C h (ρ ++ δ) v x) : VRel C h ρ (Mine.sub (frz ρ.length mh) v) x := by
  refine r.sub (P := False) (fun a o e _ n => ⟨e, less_not n⟩) (fun i a e => .inl ?_) rfl rfl v x False.elim
  unfold frz
  by_cases hi : i < ρ.length
  · rw [decide_eq_true hi]
    rw [List.getElem?_append_left hi] at e
    exact .mut e
  · rw [decide_eq_false hi]
    have hl : i < mh.length := by rw [← co.m.len]; exact (List.getElem?_eq_some_iff.mp e).1
    obtain ⟨xs, n, g, r⟩ := co.m.at' i a mh[i] e (List.getElem?_eq_getElem hl)
    show VRel C h ρ (.list ((mh[i]?).getD [])) _
    rw [List.getElem?_eq_getElem hl]
    rw [List.getElem?_append_right (Nat.le_of_not_lt hi)] at e
    have hd : a ∈ δ := List.mem_of_getElem? e
    exact .list ⟨_, g, rfl, n, rfl⟩ (fun q => (List.mem_append.mp q).elim (fun q => (List.nodup_append.mp co.m.nodup).2.2 a q a hd rfl) fun q => (co.apart a q).1 (List.mem_append.mpr (.inr hd))) (r.less (co.pure _ (List.getElem_mem hl)))
end
/-! binding the parameters -/
theorem bindL_other {kf : Str → Option NameKind} : ∀ {bs : List (Str × Value)} {m : Str → Option Value} {x : Str}, x ∉ bs.map (·.1) → bindL kf bs m x = m x
  | [], _, _, _ => rfl
  | (n, v) :: r, m, x, h => by
    unfold bindL
    rw [bindL_other fun q => h (.tail _ q)]
    split
    · exact if_neg fun q : x = n => h (by rw [q]; exact .head _)
    · rfl
theorem bindC_other {kf : Str → Option NameKind} : ∀ {bs : List (Str × Value)} {m : Str → Option Value} {x : Str}, x ∉ bs.map (·.1) → bindC kf bs m x = m x
  | [], _, _, _ => rfl
  | (n, v) :: r, m, x, h => by
    unfold bindC
    rw [bindC_other fun q => h (.tail _ q)]
    split
    · rfl
    · exact if_neg fun q : x = n => h (by rw [q]; exact .head _)
theorem bindL_at {kf : Str → Option NameKind} {x : Str} {w : Value} (hk : kf x = some .local) {bs : List (Str × Value)} : ∀ {m : Str → Option Value}, (bs.map (·.1)).Nodup → (x, w) ∈ bs → bindL kf bs m x = some w := by
  induction bs with
  | nil => intro m _ hm; cases hm
  | cons p r ih =>
    intro m nd hm
    obtain ⟨n, v⟩ := p
    obtain ⟨n1, n2⟩ := List.nodup_cons.mp nd
    unfold bindL
    rcases List.mem_cons.mp hm with e | hm
    · cases e
      rw [bindL_other n1, if_pos hk]
      exact if_pos rfl
    · exact ih n2 hm
theorem bindC_at {kf : Str → Option NameKind} {x : Str} {w : Value} (hk : kf x = some .cell) {bs : List (Str × Value)} : ∀ {m : Str → Option Value}, (bs.map (·.1)).Nodup → (x, w) ∈ bs → bindC kf bs m x = some w := by
  induction bs with
  | nil => intro m _ hm; cases hm
  | cons p r ih =>
    intro m nd hm
    obtain ⟨n, v⟩ := p
    obtain ⟨n1, n2⟩ := List.nodup_cons.mp nd
    unfold bindC
    rcases List.mem_cons.mp hm with e | hm
    · cases e
      rw [bindC_other n1, if_neg (by rw [hk]; decide)]
      exact if_pos rfl
    · exact ih n2 hm
theorem lookup_nodup {α : Type} {x : Str} {c : α} {l : List (Str × α)} : (l.map (·.1)).Nodup → (x, c) ∈ l → l.lookup x = some c := by
  induction l with
  | nil => intro _ h; cases h
  | cons p r ih =>
    intro nd h
    obtain ⟨y, d⟩ := p
    obtain ⟨a, b⟩ := List.nodup_cons.mp nd
    rw [List.lookup_cons]
    rcases List.mem_cons.mp h with e | h
    · cases e; rw [beq_self_eq_true]
    · rw [beq_eq_false_iff_ne.mpr fun q : x = y => a (q ▸ List.mem_map.mpr ⟨_, h, rfl⟩)]
      exact ih b h
theorem zip_mem {C : Cfg} {h : Heap} {ρ : List Addr} {us : List V} : ∀ {ws : List Value} {vars : List Str} {i : Nat} {v : V}, VAll C h ρ us ws → us.length ≤ vars.length → us[i]? = some v → ∃ x w, vars[i]? = some x ∧ (x, w) ∈ (vars.take us.length).zip ws ∧ VRel C h ρ v w := by
  induction us with
  | nil => intro ws vars i v _ _ e; cases e
  | cons u us ih =>
    intro ws vars i v r hl e
    obtain ⟨w, ws, e1, r1, r⟩ := r
    cases e1
    cases vars with
    | nil => cases hl
    | cons x vars =>
      cases i with
      | zero => cases e; exact ⟨x, w, rfl, .head _, r1⟩
      | succ i =>
        obtain ⟨y, w, h1, h2, h3⟩ := ih r (vars := vars) (i := i) (Nat.le_of_succ_le_succ hl) e
        exact ⟨y, w, h1, .tail _ h2, h3⟩
theorem entry_get {d : FnDef} {us : List V} {i : Nat} {v : V} (e : (entry d us)[i]? = some (some v)) : us[i]? = some v := by
  unfold entry at e
  by_cases hi : i < us.length
  · rw [List.getElem?_append_left (by rw [List.length_map]; exact hi), List.getElem?_map] at e
    obtain ⟨u, e1, e2⟩ := Option.map_eq_some_iff.mp e
    cases e2; exact e1
  · rw [List.getElem?_append_right (by rw [List.length_map]; exact Nat.le_of_not_lt hi)] at e
    cases List.eq_of_mem_replicate (List.mem_of_getElem? e)
noncomputable def RetP (Q : Value → Shared → Prop) (r : Result) (s' : Shared) : Prop :=
  match r with
  | .ok f => (match f with | .ret v => Q v s' | _ => False)
  | .error _ => False
theorem fnEnter {C : Cfg} {fns : List Str} {Γ : Tab} {n : Nat} (K : CfgOk C fns) (tab : TabOk C Γ n) {ξ : List Addr} {f : Nat} {vs : List V} {kws : List (Str × V)} {mh : MH} {A : Around} {s : Shared} {ρ : List Addr} {xs : List Value} {kxs : List (Str × Value)} {d : FnDef} {us : List V}
    (hF : FnRec C fns f d) (hus : bindF d vs kws = some us) (rm : Rm (n + 1) A) (co : Co { C with ξ := ξ } ρ mh s.heap) (r : VAll { C with ξ := ξ } s.heap ρ vs xs) (hk : kws.map (·.1) = kxs.map (·.1)) (rk : VAll { C with ξ := ξ } s.heap ρ (kws.map (·.2)) (kxs.map (·.2)))
    {R : Result → Shared → Prop} (go : ∀ sc body env h' tk', mtSs ⟨d.vars, fns⟩ sc d.body body = true → (∀ b o, s.heap.get? b = some o → h'.get? b = some o) → Fx ⟨{ C with ξ := ξ }, ⟨d.vars, fns⟩, Γ, n, A.deeper env, env, sc, s.heap, ρ⟩ (entry d us) ρ mh h' →
      codeAny (model C.prog C.w) A (.func body env) R { s with heap := h', toks := tk' }) :
    codeAny (model C.prog C.w) A (.call (.ref (C.fa f)) ⟨xs, kxs⟩) R s := by
  obtain ⟨o, fd, body, j, ho, hod, hbody, hcode, hc, hbind⟩ := hF
  obtain ⟨hn, ws, rw, hb⟩ := hbind ξ ρ s vs kws xs kxs us co.up hus r hk rk
  cases hn
  obtain ⟨hc, hnm⟩ := band hc
  obtain ⟨hc, hlen⟩ := band hc
  obtain ⟨hc, hnd⟩ := band hc
  obtain ⟨hc, hmt⟩ := band hc
  obtain ⟨hc, hkeys⟩ := band hc
  obtain ⟨hc, hnofree⟩ := band hc
  obtain ⟨hc, hkind⟩ := band hc
  obtain ⟨hc, hbl⟩ := band hc
  obtain ⟨hc, hgl⟩ := band hc
  obtain ⟨hc, hcl⟩ := band hc
  obtain ⟨hco, hgen⟩ := band hc
  have hkind : fd.scope.kind = .function := eq_of_beq hkind
  have hlen : us.length ≤ d.vars.length := of_decide_eq_true hlen
  have hnd : d.vars.Nodup := of_decide_eq_true hnd
  have hnm : ∀ x ∈ d.vars.take us.length, fd.scope.names.lookup x = some .local ∨ fd.scope.names.lookup x = some .cell := fun x hx => kind_or (List.all_eq_true.mp hnm x hx)
  have hnofree : ∀ x, fd.scope.names.lookup x ≠ some .free := fun x hx => by cases List.all_eq_true.mp hnofree _ (mem_of_lookupK hx)
  refine codeAny_call_function (Nat.lt_of_le_of_lt (Nat.le_add_right ..) rm.depth) (co.up _ _ ho) hod (bnot hco) (bnot hgen) hbody (hcode.keeps co.up) (hb _ _ _ _ ?_)
  rw [List.isEmpty_iff.mp hcl]
  have hks : ((d.vars.take us.length).zip ws).map (·.1) = d.vars.take us.length := List.map_fst_zip (by rw [List.length_take, ← rw.length]; exact Nat.min_le_left ..)
  have cellS : ∀ {x} (m : Nat), fd.scope.names.lookup x = some .cell → ((cellsFrom m fd.scope.names []).lookup x).isSome = true := fun m q => cellsFrom_some _ _ _ (.inl q)
  refine wpAny_newFunctionEnv_cells hkind (fun x hx => (hnm x.1 (hks ▸ List.mem_map.mpr ⟨x, hx, rfl⟩)).imp id fun q => ⟨q, cellS _ q⟩) fun env henv s' ic => ?_
  obtain ⟨h', tk', rfl⟩ := ic.toInCall.same
  have up : ∀ b o, s.heap.get? b = some o → h'.get? b = some o := ic.toInCall.keep
  have hL : env.locals = s.heap.objs.size := by rw [henv]; rfl
  have hcells : env.cells = cellsFrom (s.heap.objs.size + 1) fd.scope.names [] := by rw [henv]; rfl
  have hkf : ∀ x, env.kindOf x = fd.scope.names.lookup x := fun x => by rw [henv]; rfl
  have hknd : (env.cells.map (·.1)).Nodup := by rw [hcells, cellsFrom_names fd.scope.names _ 0 [] [] rfl]; exact of_decide_eq_true hkeys
  have hnd' : (((d.vars.take us.length).zip ws).map (·.1)).Nodup := by rw [hks]; exact hnd.sublist (List.take_sublist ..)
  have eo : EnvOk env fd.scope.names := ⟨by rw [henv]; exact hkind, by rw [henv]; exact eq_of_beq hgl, by rw [henv]; exact eq_of_beq hbl, fun x k hx hk => (hkf x).trans hx, fun x hx => absurd hx (hnofree x), fun x hx => Option.isSome_iff_exists.mp (hcells ▸ cellS _ (hx.resolve_right (hnofree x)))⟩
  have fr : FrR { C with ξ := ξ } ⟨d.vars, fns⟩ env (entry d us) ρ h' := fun i v e => by
    obtain ⟨x, w, h1, h2, h3⟩ := zip_mem rw hlen (entry_get e)
    refine ⟨x, w, h1, (hnm x (hks ▸ List.mem_map.mpr ⟨_, h2, rfl⟩)).imp (fun q => ⟨(hkf x).trans q, _, ic.toInCall.ns, bindL_at ((hkf x).trans q) hnd' h2⟩) fun q => ?_, h3.keep (Keep.of_all up).d⟩
    obtain ⟨c, hc⟩ := eo.cells x (.inl q)
    exact ⟨(hkf x).trans q, c, hc, bindC_at ((hkf x).trans q) hnd' h2 ▸ ic.cell x c hc⟩
  refine ⟨K.nolimit.keeps fun b o e => up b o (co.up b o e), go fd.scope.names body env h' tk' hmt up ?_⟩
  exact ⟨⟨K.ext, eo, rm.deeper, tab.ext, co.keepAll up, fr⟩, .of_all up, ⟨[], (List.append_nil ρ).symm, fun _ q => nomatch q⟩, ⟨_, ic.toInCall.ns⟩, fun x c hc => ⟨_, ic.cell x c (lookup_nodup hknd hc)⟩,
    { base := co.up, xi := co.live, loc₀ := Heap.get?_none_of_le (Nat.le_of_eq hL.symm), cell₀ := fun x c hc => Heap.get?_none_of_le (hL ▸ Nat.le_of_lt (ic.above x c hc)), inj := ic.apart, names := hnd
    }⟩
theorem fnCode {C : Cfg} {F : List FnDef} {fns : List Str} {Γ : Tab} {n : Nat} (K : CfgOk C fns) (hF : ∀ f d, F[f]? = some d → FnRec C fns f d) (tab : TabOk C Γ n)
    {ξ : List Addr} {f : Nat} {vs : List V} {kws : List (Str × V)} {mh : MH} {Q : V → MH → Prop} {A : Around} {s : Shared} {ρ : List Addr} {xs : List Value} {kxs : List (Str × Value)} (h : callW F Γ f vs kws mh Q)
    (rm : Rm (n + 1) A) (co : Co { C with ξ := ξ } ρ mh s.heap) (r : VAll { C with ξ := ξ } s.heap ρ vs xs) (hk : kws.map (·.1) = kxs.map (·.1)) (rk : VAll { C with ξ := ξ } s.heap ρ (kws.map (·.2)) (kxs.map (·.2))) :
    codeAny (model C.prog C.w) A (.call (.ref (C.fa f)) ⟨xs, kxs⟩) (RetP (PostQ { C with ξ := ξ } ρ s Q)) s := by
  obtain ⟨d, us, hd, hus, hex⟩ := h
  refine fnEnter K tab (hF f d hd) hus rm co r hk rk fun sc body env h' tk' hmt up fx => ?_
  have hρ : mh.length = ρ.length := co.m.len.symm
  refine codeAny_func (wp_e ((okSs d.body (s := { s with heap := h', toks := tk' }) fx hmt hex).goS (fun h₂ tk₂ δ l m q k₂ n₂ f₂ => ⟨h₂, tk₂, _, _, rfl, q, f₂.keep, hρ ▸ f₂.cx.co.less, .none⟩)
    fun h₂ tk₂ δ l m v x q k₂ n₂ f₂ r => ⟨h₂, tk₂, _, _, rfl, q, f₂.keep, hρ ▸ f₂.cx.co.less, hρ ▸ r.froz f₂.cx.co⟩))
theorem tabOk {C : Cfg} {F : List FnDef} {fns : List Str} {ov : Ov} (K : CfgOk C fns) (hF : ∀ f d, F[f]? = some d → FnRec C fns f d) (hov : ∀ k, TabOk C (ov k) (k + 1)) (hl : F[999]? = none) : ∀ n, TabOk C (runF F ov n) n
  | 0 =>
    { sound := fun ξ f vs kws mh Q h => h.elim
    }
  | n + 1 =>
    { sound := fun ξ f vs kws mh Q h A s ρ xs kxs rm co r hk rk => by
        rcases h with h | h
        · exact (hov n).sound ξ f vs kws mh Q h A s ρ xs kxs rm co r hk rk
        · refine wpAny_call (codeAny_mono (fnCode K hF (tabOk K hF hov hl n) h rm co r hk rk) fun r s' q => ?_)
          cases r with
          | error e => exact q.elim
          | ok f => cases f <;> first | exact q | exact q.elim
    }
theorem nov_ok {C : Cfg} (k : Nat) : TabOk C (nov k) (k + 1) :=
  { sound := fun ξ f vs kws mh Q h => h.elim
  }
/-! the parts of a function's record -/
noncomputable def AllN : Nat → (List Value → Prop) → Prop
  | 0, P => P []
  | n + 1, P => ∀ x, AllN n fun l => P (x :: l)
theorem allN {xs : List Value} : ∀ {n : Nat} {P : List Value → Prop}, AllN n P → xs.length = n → P xs := by
  induction xs with
  | nil => intro n P h e; cases e; exact h
  | cons x xs ih => intro n P h e; cases e; exact ih (h x) rfl
theorem bind_plain {C : Cfg} {d : FnDef} {fd : FuncData} (hbis : d.bis = false) (hb : ∀ s : Shared, AllN d.np fun xs => BindsTo s fd ⟨xs, []⟩ ((d.vars.take d.np).zip xs)) : Binds C d fd d.np := by
  intro ξ ρ s vs kws xs kxs us up hus r hk rk
  unfold bindF at hus
  rw [hbis] at hus
  cases e : kws.isEmpty && vs.length == d.np with
  | false => rw [e] at hus; cases hus
  | true =>
    rw [e] at hus
    cases hus
    obtain ⟨e1, e2⟩ := band e
    cases List.isEmpty_iff.mp e1
    cases List.map_eq_nil_iff.mp hk.symm
    exact ⟨eq_of_beq e2, xs, r, allN (hb s) (r.length.symm.trans (eq_of_beq e2))⟩
structure BisB (fd : FuncData) (ns : List Str) (t0 : Tok) (s : Shared) : Prop where
  b20 : ∀ a x, BindsTo s fd ⟨[a, x], []⟩ (ns.zip [a, x, .int 0 t0, .none, .none])
  b30 : ∀ a x lo, BindsTo s fd ⟨[a, x, lo], []⟩ (ns.zip [a, x, lo, .none, .none])
  b40 : ∀ a x lo hi, BindsTo s fd ⟨[a, x, lo, hi], []⟩ (ns.zip [a, x, lo, hi, .none])
  b21 : ∀ a x k, BindsTo s fd ⟨[a, x], [(("key" : Str), k)]⟩ (ns.zip [a, x, .int 0 t0, .none, k])
  b31 : ∀ a x lo k, BindsTo s fd ⟨[a, x, lo], [(("key" : Str), k)]⟩ (ns.zip [a, x, lo, .none, k])
  b41 : ∀ a x lo hi k, BindsTo s fd ⟨[a, x, lo, hi], [(("key" : Str), k)]⟩ (ns.zip [a, x, lo, hi, k])
noncomputable def dflV (t0 : Tok) (n : Nat) : List Value := [Value.int 0 t0, .none].drop (n - 2)
theorem BisB.any {fd : FuncData} {ns : List Str} {t0 : Tok} {s : Shared} (B : BisB fd ns t0 s) : ∀ xs : List Value, 2 ≤ xs.length → xs.length ≤ 4 → BindsTo s fd ⟨xs, []⟩ (ns.zip (xs ++ (dflV t0 xs.length ++ [.none]))) ∧ ∀ k, BindsTo s fd ⟨xs, [(("key" : Str), k)]⟩ (ns.zip (xs ++ (dflV t0 xs.length ++ [k])))
  | a :: x :: [], _, _ => ⟨B.b20 a x, B.b21 a x⟩
  | a :: x :: lo :: [], _, _ => ⟨B.b30 a x lo, B.b31 a x lo⟩
  | a :: x :: lo :: hi :: [], _, _ => ⟨B.b40 a x lo hi, B.b41 a x lo hi⟩
  | _ :: _ :: _ :: _ :: _ :: _, _, h => absurd h (Nat.not_le.mpr (Nat.le_add_left 5 _))
  | [_], h, _ => absurd h (show ¬ 2 ≤ 1 by decide)
  | [], h, _ => absurd h (show ¬ 2 ≤ 0 by decide)
theorem dfl_len {n : Nat} (h1 : 2 ≤ n) (h2 : n ≤ 4) : n + (2 - (n - 2) + 1) = 5 := by omega
theorem bind_bis {C : Cfg} {d : FnDef} {fd : FuncData} {t0 : Tok} (hbis : d.bis = true) (hb : ∀ s : Shared, (∀ a o, C.hb.get? a = some o → s.heap.get? a = some o) → BisB fd (d.vars.take 5) t0 s) : Binds C d fd 5 := by
  intro ξ ρ s vs kws xs kxs us up hus r hk rk
  unfold bindF at hus
  rw [hbis] at hus
  cases e : decide (2 ≤ vs.length ∧ vs.length ≤ 4) with
  | false => rw [e] at hus; cases hus
  | true =>
    rw [e] at hus
    obtain ⟨h1, h2⟩ := of_decide_eq_true e
    obtain ⟨k, ek, e2⟩ := Option.map_eq_some_iff.mp hus
    cases e2
    have B := (hb s up).any xs (r.length ▸ h1) (r.length ▸ h2)
    have rd : VAll { C with ξ := ξ } s.heap ρ (dfl vs.length) (dflV t0 xs.length) := by
      rw [← r.length]
      exact VAll.drop _ (.cons (.int 0 t0) (.cons .none .nil))
    have hl : (vs ++ (dfl vs.length ++ [k])).length = 5 := by
      rw [List.length_append, List.length_append, dfl, List.length_drop]
      exact dfl_len h1 h2
    refine ⟨hl, ?_⟩
    cases kws with
    | nil =>
      cases List.map_eq_nil_iff.mp hk.symm
      cases ek
      exact ⟨_, r.append (rd.append (.cons .none .nil)), B.1⟩
    | cons p kr =>
      cases kr with
      | cons _ _ => cases ek
      | nil =>
        obtain ⟨n, v⟩ := p
        cases hn : n == ("key" : Str) with
        | false => rw [keyOf] at ek; dsimp only at ek; rw [hn] at ek; cases ek
        | true =>
          rw [keyOf] at ek
          dsimp only at ek
          rw [hn] at ek
          cases ek
          cases eq_of_beq hn
          cases kxs with
          | nil => cases hk
          | cons q kr =>
            obtain ⟨n', w⟩ := q
            obtain ⟨e1, e2⟩ := List.cons.inj hk
            cases e1
            cases List.map_eq_nil_iff.mp e2.symm
            obtain ⟨w', _, e3, rk, _⟩ := rk
            cases e3
            exact ⟨_, r.append (rd.append (.cons rk .nil)), B.2 w⟩
theorem fr_plain {K : Frag} {C : Cfg} {fns : List Str} {f : Nat} {a : Addr} {d : FnDef} {o : Obj} {fd : FuncData} {body : List Stmt} (X : K.In C.hb) (hf : C.fa f = a) (ho : K.lookup a = some o) (hod : o.data = .func fd) (hb : fd.body = .stmts body)
    (hcode : codeIn K fd.code fd.qualname = true) (hbis : d.bis = false) (hc : fnChk fns d fd body d.np = true)
    (hbind : ∀ s : Shared, AllN d.np fun xs => BindsTo s fd ⟨xs, []⟩ ((d.vars.take d.np).zip xs)) : FnRec C fns f d :=
  ⟨o, fd, body, _, hf ▸ X _ _ ho, hod, hb, codeRec_of X hcode, hc, bind_plain hbis hbind⟩
theorem fr_bis {K : Frag} {C : Cfg} {fns : List Str} {f : Nat} {a : Addr} {d : FnDef} {o : Obj} {fd : FuncData} {body : List Stmt} {t0 : Tok} (X : K.In C.hb) (hf : C.fa f = a) (ho : K.lookup a = some o) (hod : o.data = .func fd) (hb : fd.body = .stmts body)
    (hcode : codeIn K fd.code fd.qualname = true) (hbis : d.bis = true) (hc : fnChk fns d fd body 5 = true)
    (hbind : ∀ s : Shared, K.In s.heap → BisB fd (d.vars.take 5) t0 s) : FnRec C fns f d :=
  ⟨o, fd, body, _, hf ▸ X _ _ ho, hod, hb, codeRec_of X hcode, hc, bind_bis hbis fun s k => hbind s fun a o e => k _ _ (X a o e)⟩
noncomputable def FnRecs (C : Cfg) (fns : List Str) : Nat → List FnDef → Prop
  | _, [] => True
  | i, d :: r => FnRec C fns i d ∧ FnRecs C fns (i + 1) r
theorem fnRecs {C : Cfg} {fns : List Str} : ∀ {F : List FnDef} {i : Nat}, FnRecs C fns i F → ∀ f d, F[f]? = some d → FnRec C fns (i + f) d
  | [], _, _, _, _, h => nomatch h
  | d :: r, i, h, 0, _, e => by cases e; exact h.1
  | d :: r, i, h, f + 1, d', e => by
    have := fnRecs h.2 f d' e
    rw [Nat.add_assoc, Nat.add_comm 1] at this
    exact this
theorem boot_prim : primList.all (fun q => bootBuiltins q.1 == some q.2.val && !(q.1 == ("__name__" : Str))) = true := by decide +kernel
theorem lookup_mem {α β : Type} [BEq α] [LawfulBEq α] : ∀ {l : List (α × β)} {a : α} {b : β}, l.lookup a = some b → (a, b) ∈ l
  | [], _, _, h => nomatch h
  | (x, y) :: r, a, b, h => by
    rw [List.lookup_cons] at h
    cases e : a == x with
    | true => rw [e] at h; cases h; cases eq_of_beq e; exact .head _
    | false => rw [e] at h; exact .tail _ (lookup_mem h)
noncomputable def cfgChk (es : Array DictEntry) (fns : List Str) (as : List Addr) : Bool :=
  (fns.map (nsFind es) == as.map fun a => some (.ref a)) && primList.all (fun q => nsFind es q.1 == none) && nsFind es "isinstance" == none && nsFind es "bytes" == none
theorem cfgOk_of {C : Cfg} {F : List FnDef} {fns : List Str} {as : List Addr} {mg mb : Str → Option Value} {cls : Value} {dd : Option Addr} {es : Array DictEntry} {ep : Nat} {sl : Array (Option Value)}
    (hg : C.hb.Ns mainGlobals mg) (h3 : C.hb.get? mainGlobals = some { cls := cls, dict := dd, data := .dict es ep, slots := sl }) (hc : cfgChk es fns as = true) (ha : ∀ f a, as[f]? = some a → C.fa f = a) (hF : ∀ f d, F[f]? = some d → FnRec C fns f d) (hl : F.length = fns.length)
    (hb : C.hb.Ns builtinsNs mb) (hbb : ∀ x : Str, x ≠ "__name__" → mb x = bootBuiltins x) (hn : C.hb.NoLimit) : CfgOk C fns := by
  have key : ∀ x, mg x = nsFind es x := by
    obtain ⟨o, es', ep', ho, hd, _, hx⟩ := hg
    cases h3.symm.trans ho; cases hd
    exact fun x => (hx x).symm
  obtain ⟨hc, c4⟩ := band hc
  obtain ⟨hc, c3⟩ := band hc
  obtain ⟨c1, c2⟩ := band hc
  have prim : ∀ {x p}, primOf x = some p → (x, p) ∈ primList := fun h => lookup_mem h
  refine { nolimit := hn, g := ⟨mg, hg, fun f x h => ?_, fun x p h => (key x).trans (eq_of_beq (List.all_eq_true.mp c2 _ (prim h))), (key _).trans (eq_of_beq c3), (key _).trans (eq_of_beq c4)⟩, b := ⟨mb, hb, fun x p h => ?_, ?_, ?_⟩
    }
  · have e := congrArg (·[f]?) (eq_of_beq c1)
    rw [List.getElem?_map, List.getElem?_map, h] at e
    obtain ⟨a, e1, e2⟩ := Option.map_eq_some_iff.mp e.symm
    have hlt : f < F.length := hl ▸ (List.getElem?_eq_some_iff.mp h).1
    obtain ⟨o, fd, _, _, g, d, _⟩ := hF f F[f] (List.getElem?_eq_getElem hlt)
    exact ⟨(key x).trans (e2.symm.trans (by rw [ha f a e1])), o, fd, g, d⟩
  · obtain ⟨b1, b2⟩ := band (List.all_eq_true.mp boot_prim _ (prim h))
    exact (hbb x (beq_eq_false_iff_ne.mp (bnot b2))).trans (eq_of_beq b1)
  · exact (hbb _ (by decide)).trans (by decide +kernel)
  · exact (hbb _ (by decide)).trans (by decide +kernel)
theorem post_law (l : OpenLaw) (args : List WData) : l.row.claim.post args (.bool true) args = true := by
  refine postW_of (r := l.row.toRowW) (X := true) ?_ ?_ rfl
  · simp [OpenLaw.row, WShape.has, WShape.arms]
  · simp [OpenLaw.row, WTm.value, PySem.W.same]
theorem goodW_of_post {C : Cfg} {l : OpenLaw} {cl : Str → Option Addr} {mean : ExcName → Option Value} {args : List WData} {s₁ : Shared} {r : Result} {s' : Shared} (hg : s₁.gens = #[])
    (hn : ∀ cls, l.row.claim.raises args cls = false)
    (h : RetP (PostQ C [] s₁ fun v _ => v = .bool true) r s') : GoodW l.row.claim cl mean args s₁ r s' := by
  cases r with
  | error _ => exact h.elim
  | ok f =>
    cases f with
    | ret x =>
      obtain ⟨h', tk, v, m, rfl, rfl, k, co, r⟩ := h
      cases r
      exact ⟨.inl ⟨_, _, _, rfl, hn, .bool true, post_law l args, unshared_nil⟩, k.all, rfl, hg⟩
    | _ => exact h.elim
end Mine
end
section
open PySem PySem.Calls PySem.W PyProof.Rows PySem.SeqAt
set_option maxRecDepth 100000
namespace Mine
noncomputable def s0_0_0 : MS := .assign 2 (.call (.glob 1) [(.var 0), (.var 1), (.var 2), (.var 3)] [] [])
noncomputable def s0_0_1 : MS := .assign 2 (.call (.glob 1) [(.var 0), (.call (.var 4) [(.var 1)] [] []), (.var 2), (.var 3)] ["key"] [(.var 4)])
noncomputable def s0_0_2 : MS := .ite (.cmp .Is (.var 4) (.const .none)) [s0_0_0] [s0_0_1]
noncomputable def s0_0_3 : MS := .expr (.ins (.var 0) (.var 2) (.var 1))
noncomputable def d0_0 : FnDef := { vars := ["a", "x", "lo", "hi", "key"], np := 4, bis := true, body := [s0_0_2, s0_0_3] }
noncomputable def s0_1_0 : MS := .raise
noncomputable def s0_1_1 : MS := .ite (.cmp .Lt (.var 2) (.const (.int 0))) [s0_1_0] []
noncomputable def s0_1_2 : MS := .assign 3 (.prim .len [(.var 0)])
noncomputable def s0_1_3 : MS := .ite (.cmp .Is (.var 3) (.const .none)) [s0_1_2] []
noncomputable def s0_1_4 : MS := .assign 5 (.bin .FloorDiv (.bin .Add (.var 2) (.var 3)) (.const (.int 2)))
noncomputable def s0_1_5 : MS := .assign 3 (.var 5)
noncomputable def s0_1_6 : MS := .assign 2 (.bin .Add (.var 5) (.const (.int 1)))
noncomputable def s0_1_7 : MS := .ite (.cmp .Lt (.var 1) (.item (.var 0) (.var 5))) [s0_1_5] [s0_1_6]
noncomputable def s0_1_8 : MS := .while (.cmp .Lt (.var 2) (.var 3)) [s0_1_4, s0_1_7]
noncomputable def s0_1_9 : MS := .assign 5 (.bin .FloorDiv (.bin .Add (.var 2) (.var 3)) (.const (.int 2)))
noncomputable def s0_1_10 : MS := .assign 3 (.var 5)
noncomputable def s0_1_11 : MS := .assign 2 (.bin .Add (.var 5) (.const (.int 1)))
noncomputable def s0_1_12 : MS := .ite (.cmp .Lt (.var 1) (.call (.var 4) [(.item (.var 0) (.var 5))] [] [])) [s0_1_10] [s0_1_11]
noncomputable def s0_1_13 : MS := .while (.cmp .Lt (.var 2) (.var 3)) [s0_1_9, s0_1_12]
noncomputable def s0_1_14 : MS := .ite (.cmp .Is (.var 4) (.const .none)) [s0_1_8] [s0_1_13]
noncomputable def s0_1_15 : MS := .ret (.var 2)
noncomputable def d0_1 : FnDef := { vars := ["a", "x", "lo", "hi", "key", "mid"], np := 4, bis := true, body := [s0_1_1, s0_1_3, s0_1_14, s0_1_15] }
noncomputable def s0_2_0 : MS := .assign 2 (.call (.glob 3) [(.var 0), (.var 1), (.var 2), (.var 3)] [] [])
noncomputable def s0_2_1 : MS := .assign 2 (.call (.glob 3) [(.var 0), (.call (.var 4) [(.var 1)] [] []), (.var 2), (.var 3)] ["key"] [(.var 4)])
noncomputable def s0_2_2 : MS := .ite (.cmp .Is (.var 4) (.const .none)) [s0_2_0] [s0_2_1]
noncomputable def s0_2_3 : MS := .expr (.ins (.var 0) (.var 2) (.var 1))
noncomputable def d0_2 : FnDef := { vars := ["a", "x", "lo", "hi", "key"], np := 4, bis := true, body := [s0_2_2, s0_2_3] }
noncomputable def s0_3_0 : MS := .raise
noncomputable def s0_3_1 : MS := .ite (.cmp .Lt (.var 2) (.const (.int 0))) [s0_3_0] []
noncomputable def s0_3_2 : MS := .assign 3 (.prim .len [(.var 0)])
noncomputable def s0_3_3 : MS := .ite (.cmp .Is (.var 3) (.const .none)) [s0_3_2] []
noncomputable def s0_3_4 : MS := .assign 5 (.bin .FloorDiv (.bin .Add (.var 2) (.var 3)) (.const (.int 2)))
noncomputable def s0_3_5 : MS := .assign 2 (.bin .Add (.var 5) (.const (.int 1)))
noncomputable def s0_3_6 : MS := .assign 3 (.var 5)
noncomputable def s0_3_7 : MS := .ite (.cmp .Lt (.item (.var 0) (.var 5)) (.var 1)) [s0_3_5] [s0_3_6]
noncomputable def s0_3_8 : MS := .while (.cmp .Lt (.var 2) (.var 3)) [s0_3_4, s0_3_7]
noncomputable def s0_3_9 : MS := .assign 5 (.bin .FloorDiv (.bin .Add (.var 2) (.var 3)) (.const (.int 2)))
noncomputable def s0_3_10 : MS := .assign 2 (.bin .Add (.var 5) (.const (.int 1)))
noncomputable def s0_3_11 : MS := .assign 3 (.var 5)
noncomputable def s0_3_12 : MS := .ite (.cmp .Lt (.call (.var 4) [(.item (.var 0) (.var 5))] [] []) (.var 1)) [s0_3_10] [s0_3_11]
noncomputable def s0_3_13 : MS := .while (.cmp .Lt (.var 2) (.var 3)) [s0_3_9, s0_3_12]
noncomputable def s0_3_14 : MS := .ite (.cmp .Is (.var 4) (.const .none)) [s0_3_8] [s0_3_13]
noncomputable def s0_3_15 : MS := .ret (.var 2)
noncomputable def d0_3 : FnDef := { vars := ["a", "x", "lo", "hi", "key", "mid"], np := 4, bis := true, body := [s0_3_1, s0_3_3, s0_3_14, s0_3_15] }
noncomputable def s0_4_0 : MS := .assign 1 (.const (.bytes []))
noncomputable def s0_4_1 : MS := .assign 2 (.const (.bytes [65, 66, 67, 68, 69, 70, 71, 72, 73, 74, 75, 76, 77, 78, 79, 80]))
noncomputable def s0_4_2 : MS := .assign 0 (.prim .int [(.prim .abs [(.var 0)])])
noncomputable def s0_4_3 : MS := .unpack [0, 3] (.prim .divmod [(.var 0), (.const (.int 16))])
noncomputable def s0_4_4 : MS := .assign 1 (.bin .Add (.slice (.var 2) (.var 3) (.bin .Add (.var 3) (.const (.int 1))) (.const .none)) (.var 1))
noncomputable def s0_4_5 : MS := .while (.tst (.var 0)) [s0_4_3, s0_4_4]
noncomputable def s0_4_6 : MS := .ret (.var 1)
noncomputable def d0_4 : FnDef := { vars := ["num", "val", "AP", "mod"], np := 1, bis := false, body := [s0_4_0, s0_4_1, s0_4_2, s0_4_5, s0_4_6] }
noncomputable def s0_5_0 : MS := .ret (.item (.var 0) (.const (.int 0)))
noncomputable def d0_5 : FnDef := { vars := ["pair"], np := 1, bis := false, body := [s0_5_0] }
end Mine
end
section
namespace Mine
open PySem PySem.Calls PySem.W PyProof.Rows PySem.SeqAt
set_option maxRecDepth 100000
set_option linter.unusedVariables false
section
variable {Γ : Tab} {loc : Loc} {mh : MH} {Q : V → MH → Prop} {QL : List V → MH → Prop} {QB : Bool → MH → Prop} {QS : Fl → Loc → MH → Prop}
theorem wE_const {v : V} : wpE Γ (.const v) loc mh Q = Q v mh := rfl
theorem wE_var {i : Nat} : wpE Γ (.var i) loc mh Q = varW loc[i]? fun v => Q v mh := rfl
theorem wE_glob {f : Nat} : wpE Γ (.glob f) loc mh Q = Q (.fn f) mh := rfl
theorem wE_bin {op : Operator} {l r : ME} : wpE Γ (.bin op l r) loc mh Q = wpE Γ l loc mh fun p m => wpE Γ r loc m fun q m => binW op m p q fun v => Q v m := rfl
theorem wE_neg {e : ME} : wpE Γ (.neg e) loc mh Q = wpE Γ e loc mh fun p m => intW p fun i => Q (.int (-i)) m := rfl
theorem wE_cmp {op : CmpOp} {l r : ME} : wpE Γ (.cmp op l r) loc mh Q = wpE Γ l loc mh fun p m => wpE Γ r loc m fun q m => cmpW op m p q fun b => Q (.bool b) m := rfl
theorem wE_ite {c : MC} {t e : ME} : wpE Γ (.ite c t e) loc mh Q = wpC Γ c loc mh fun b m => match b with
    | true => wpE Γ t loc m Q
    | false => wpE Γ e loc m Q := rfl
theorem wE_list {es : List ME} : wpE Γ (.list es) loc mh Q = wpEs Γ es loc mh fun vs m => vs.length ≤ lim ∧ Q (.list vs) m := rfl
theorem wE_item {o i : ME} : wpE Γ (.item o i) loc mh Q = wpE Γ o loc mh fun p m => wpE Γ i loc m fun q m => itemW m p q fun v => Q v m := rfl
theorem wE_slice {o l u s : ME} : wpE Γ (.slice o l u s) loc mh Q = wpE Γ o loc mh fun p m => wpE Γ l loc m fun a m => wpE Γ u loc m fun b m => wpE Γ s loc m fun c m => partW a fun a => partW b fun b => partW c fun c => sliceW m p a b c fun v => Q v m := rfl
theorem wE_prim {f : Prim} {es : List ME} : wpE Γ (.prim f es) loc mh Q = wpEs Γ es loc mh fun vs m => primW m f vs fun v => Q v m := rfl
theorem wE_app {o e : ME} : wpE Γ (.app o e) loc mh Q = wpE Γ o loc mh fun p m => mutW p fun i => wpE Γ e loc m fun q m => ∃ vs, m[i]? = some vs ∧ (pureV q ∧ vs.length ≤ lim) ∧ Q .none (m.set i (vs ++ [q])) := rfl
theorem wE_ins {o k e : ME} : wpE Γ (.ins o k e) loc mh Q = wpE Γ o loc mh fun p m => mutW p fun i => wpE Γ k loc m fun j m => intW j fun n => wpE Γ e loc m fun q m => ∃ vs, m[i]? = some vs ∧ (pureV q ∧ vs.length ≤ lim ∧ 0 ≤ n ∧ n ≤ vs.length) ∧ Q .none (m.set i (vs.take n.toNat ++ q :: vs.drop n.toNat)) := rfl
theorem wE_call {f : ME} {es : List ME} {ks : List Str} {kes : List ME} : wpE Γ (.call f es ks kes) loc mh Q = wpE Γ f loc mh fun p m => fnW p fun g => wpEs Γ es loc m fun q m => wpEs Γ kes loc m fun r m => r.length = ks.length ∧ Γ g q (ks.zip r) m Q := rfl
theorem wEs_nil : wpEs Γ [] loc mh QL = QL [] mh := rfl
theorem wEs_cons {e : ME} {es : List ME} : wpEs Γ (e :: es) loc mh QL = wpE Γ e loc mh fun v m => wpEs Γ es loc m fun vs m => QL (v :: vs) m := rfl
theorem wC_tst {e : ME} : wpC Γ (.tst e) loc mh QB = wpE Γ e loc mh fun v m => truthW v fun b => QB b m := rfl
theorem wC_not {c : MC} : wpC Γ (.not c) loc mh QB = wpC Γ c loc mh fun b m => QB (!b) m := rfl
theorem wC_bop {op : BoolOp} {cs : List MC} : wpC Γ (.bop op cs) loc mh QB = wpCB Γ op cs loc mh QB := rfl
theorem wC_cmp {op : CmpOp} {l r : ME} : wpC Γ (.cmp op l r) loc mh QB = wpE Γ l loc mh fun p m => wpE Γ r loc m fun q m => cmpW op m p q fun b => QB b m := rfl
theorem wCB_nil {op : BoolOp} : wpCB Γ op [] loc mh QB = QB (stops op false) mh := rfl
theorem wCB_cons {op : BoolOp} {c : MC} {cs : List MC} : wpCB Γ op (c :: cs) loc mh QB = wpC Γ c loc mh fun t m => match stops op t with
    | true => QB t m
    | false => wpCB Γ op cs loc m QB := rfl
theorem st_and {t : Bool} : stops .And t = !t := rfl
theorem st_or {t : Bool} : stops .Or t = t := rfl
theorem sNil (h : QS .next loc mh) : wpSs Γ [] loc mh QS := h
theorem sAssign {x : Nat} {e : ME} {ss : List MS} (h : wpE Γ e loc mh fun v m => wpSs Γ ss (loc.set x (some v)) m QS) : wpSs Γ (.assign x e :: ss) loc mh QS := h
theorem sMut {x : Nat} {es : List ME} {ss : List MS} (h : wpEs Γ es loc mh fun vs m => (pureVs vs ∧ vs.length ≤ lim) ∧ wpSs Γ ss (loc.set x (some (.mut m.length))) (m ++ [vs]) QS) : wpSs Γ (.assignMut x es :: ss) loc mh QS := h
theorem sTup {xs : List Nat} {fl : List Bool} {es : List ME} {ss : List MS} (h : wpT Γ fl es loc mh fun vs m => vs.length = xs.length ∧ wpSs Γ ss (setAll loc xs vs) m QS) : wpSs Γ (.assignTup xs fl es :: ss) loc mh QS := h
theorem sUnpack {xs : List Nat} {e : ME} {ss : List MS} (h : wpE Γ e loc mh fun v m => tupW v fun vs => vs.length = xs.length ∧ wpSs Γ ss (setAll loc xs vs) m QS) : wpSs Γ (.unpack xs e :: ss) loc mh QS := h
theorem sExpr {e : ME} {ss : List MS} (h : wpE Γ e loc mh fun v m => v = .none ∧ wpSs Γ ss loc m QS) : wpSs Γ (.expr e :: ss) loc mh QS := h
theorem sIte {c : MC} {t e ss : List MS} (h : wpC Γ c loc mh fun b m => match b with
    | true => wpSs Γ t loc m (thenW (fun l m => wpSs Γ ss l m QS) QS)
    | false => wpSs Γ e loc m (thenW (fun l m => wpSs Γ ss l m QS) QS)) : wpSs Γ (.ite c t e :: ss) loc mh QS := h
theorem sRet {e : ME} {ss : List MS} (h : wpE Γ e loc mh fun v m => QS (.ret v) loc m) : wpSs Γ (.ret e :: ss) loc mh QS := h
theorem sWhile (I : Nat → Loc → MH → Prop) {c : MC} {b ss : List MS} {k : Nat} (h0 : I k loc mh) (h : ∀ k loc mh, I k loc mh → wpC Γ c loc mh fun t m => match t with
    | true => wpSs Γ b loc m (thenW (fun l m => ∃ j, j < k ∧ I j l m) QS)
    | false => wpSs Γ ss loc m QS) : wpSs Γ (.while c b :: ss) loc mh QS := ⟨I, ⟨k, h0⟩, h⟩
theorem sFor {x : Nat} {e : ME} {b ss : List MS} (h : wpE Γ e loc mh fun v m => notMut v ∧ ∃ vs, iterItems m v = some vs ∧ forW (fun v loc mh R => wpSs Γ b (loc.set x (some v)) mh R) (thenW (fun l m => wpSs Γ ss l m QS) QS) vs loc m) : wpSs Γ (.for x e b :: ss) loc mh QS := h
theorem wNext {K : Loc → MH → Prop} (h : K loc mh) : thenW K QS .next loc mh := h
theorem wRet {K : Loc → MH → Prop} {v : V} (h : QS (.ret v) loc mh) : thenW K QS (.ret v) loc mh := h
theorem forI {g : V → Loc → MH → (Fl → Loc → MH → Prop) → Prop} (I : Nat → Loc → MH → Prop) {vs : List V} (h0 : I 0 loc mh) (h1 : ∀ i v loc mh, vs[i]? = some v → I i loc mh → g v loc mh (thenW (I (i + 1)) QS)) (h2 : ∀ loc mh, I vs.length loc mh → QS .next loc mh) : forW g QS vs loc mh := ⟨I, h0, h1, h2⟩
theorem runF_of {F : List FnDef} {ov : Ov} {n f : Nat} {vs : List V} {kws : List (Str × V)} {d : FnDef} {us : List V} (hd : F[f]? = some d) (hb : bindF d vs kws = some us)
    (h : wpSs (runF F ov n) d.body (entry d us) mh (outW mh.length Q)) : runF F ov (n + 1) f vs kws mh Q := .inr ⟨d, us, hd, hb, h⟩
end
theorem v_some {v : V} {K : V → Prop} : varW (some (some v)) K = K v := rfl
theorem i_int {i : Int} {K : Int → Prop} : intW (.int i) K = K i := rfl
theorem m_mut {i : Nat} {K : Nat → Prop} : mutW (.mut i) K = K i := rfl
theorem f_fn {i : Nat} {K : Nat → Prop} : fnW (.fn i) K = K i := rfl
theorem tp_tup {l : List V} {K : List V → Prop} : tupW (.tup l) K = K l := rfl
section
variable {mh : MH} {Q : V → Prop} {QB : Bool → Prop} {v : V}
theorem b_add {x : Int} : binW .Add mh (.int x) v Q = intW v fun y => Q (.int (x + y)) := rfl
theorem b_addb {x y : List UInt8} : binW .Add mh (.bytes x) (.bytes y) Q = (x.length + y.length ≤ lim ∧ Q (.bytes (x ++ y))) := rfl
theorem b_addl {x : List V} : binW .Add mh (.list x) v Q = itemsW v mh fun y => x.length + y.length ≤ lim ∧ Q (.list (x ++ y)) := rfl
theorem b_sub {x y : Int} : binW .Sub mh (.int x) (.int y) Q = Q (.int (x - y)) := rfl
theorem b_mul {x y : Int} : binW .Mult mh (.int x) (.int y) Q = ((x.natAbs < big ∧ y.natAbs < big) ∧ Q (.int (x * y))) := rfl
theorem b_fd {x y : Int} : binW .FloorDiv mh (.int x) (.int y) Q = ((0 < y ∧ y.natAbs < big) ∧ Q (.int (x / y))) := rfl
theorem b_mod {x y : Int} : binW .Mod mh (.int x) (.int y) Q = (0 < y ∧ Q (.int (x % y))) := rfl
theorem b_pow {x y : Int} : binW .Pow mh (.int x) (.int y) Q = ((x.natAbs < 2 ^ 64 ∧ 0 ≤ y ∧ y ≤ 1000) ∧ Q (.int (x ^ y.toNat))) := rfl
theorem c_lt {x y : Int} : cmpW .Lt mh (.int x) (.int y) QB = brW (x < y) QB := rfl
theorem c_le {x y : Int} : cmpW .LtE mh (.int x) (.int y) QB = brW (x ≤ y) QB := rfl
theorem c_gt {x y : Int} : cmpW .Gt mh (.int x) (.int y) QB = brW (y < x) QB := rfl
theorem c_is {a b : V} : cmpW .Is mh a b QB = (b = .none ∧ brW (a = .none) QB) := rfl
theorem c_isnot {a b : V} : cmpW .IsNot mh a b QB = (b = .none ∧ brW (¬ a = .none) QB) := rfl
theorem br_iff {P P' : Prop} (e : P' ↔ P) (h : brW P QB) : brW P' QB := ⟨fun p => h.1 (e.mp p), fun p => h.2 fun q => p (e.mpr q)⟩
theorem br_t {P A B : Prop} (p : P) (h : A) : (P → A) ∧ (¬ P → B) := ⟨fun _ => h, fun n => (n p).elim⟩
theorem br_f {P A B : Prop} (p : ¬ P) (h : B) : (P → A) ∧ (¬ P → B) := ⟨fun q => (p q).elim, fun _ => h⟩
theorem br_b {P : Prop} {b : Bool} (p : b = true ↔ P) (h : QB b) : brW P QB := by
  cases b
  · exact br_f (fun q => Bool.noConfusion (p.mpr q)) h
  · exact br_t (p.mp rfl) h
theorem c_eqi {x y : Int} (h : brW (x = y) QB) : cmpW .Eq mh (.int x) (.int y) QB := ⟨.inl ⟨_, rfl⟩, br_iff ⟨V.int.inj, congrArg _⟩ h⟩
theorem c_nei {x y : Int} (h : brW (¬ x = y) QB) : cmpW .NotEq mh (.int x) (.int y) QB := ⟨.inl ⟨_, rfl⟩, br_iff (not_congr ⟨V.int.inj, congrArg _⟩) h⟩
theorem t_int {i : Int} : truthW (.int i) QB = brW (¬ i = 0) QB := rfl
theorem t_bool {b : Bool} : truthW (.bool b) QB = QB b := rfl
theorem t_none : truthW .none QB = QB false := rfl
theorem p_int {i : Int} {K : Option Int → Prop} : partW (.int i) K = K (some i) := rfl
theorem p_none {K : Option Int → Prop} : partW .none K = K none := rfl
theorem f_abs {i : Int} : primW mh .abs [.int i] Q = Q (.int i.natAbs) := rfl
theorem f_int {i : Int} : primW mh .int [.int i] Q = Q (.int i) := rfl
theorem f_divmod {x y : Int} : primW mh .divmod [.int x, .int y] Q = ((0 < y ∧ y.natAbs < big) ∧ Q (.tup [.int (x / y), .int (x % y)])) := rfl
theorem f_range {n : Int} : primW mh .range [.int n] Q = Q (.rng 0 n 1) := rfl
theorem f_len {vs : List V} (h : itemsOf mh v = some vs) (hl : vs.length ≤ lim) (q : Q (.int vs.length)) : primW mh .len [v] Q := by
  cases v with
  | list l => exact ⟨vs, h, hl, q⟩
  | «mut» l => exact ⟨vs, h, hl, q⟩
  | _ => cases h
theorem intsOf_ints : ∀ {ns : List Int}, intsOf (ns.map V.int) = some ns
  | [] => rfl
  | n :: r => congrArg (Option.map (n :: ·)) (intsOf_ints (ns := r))
theorem f_sum {ns : List Int} (q : Q (.int ns.sum)) : primW mh .sum [.list (ns.map .int)] Q := ⟨_, rfl, ns, intsOf_ints, q⟩
theorem i_at {o : V} {vs : List V} {k : Nat} {w : V} (ho : itemsOf mh o = some vs) (hv : vs[k]? = some w) (hl : vs.length ≤ lim) (q : Q w) : itemW mh o (.int k) Q := ⟨vs, ho, hl, w, .inl ⟨Int.natCast_nonneg k, hv⟩, q⟩
theorem sl_bytes {l : List UInt8} {lo hi st : Option Int} : sliceW mh (.bytes l) lo hi st Q = ((st = none ∧ nonNeg lo ∧ nonNeg hi ∧ l.length ≤ lim) ∧ Q (.bytes (cutL l lo hi))) := rfl
theorem sl_list {l : List V} {lo hi : Option Int} (hl : l.length ≤ lim) (h1 : nonNeg lo) (h2 : nonNeg hi) (q : Q (.list (cutL l lo hi))) : sliceW mh (.list l) lo hi none Q := ⟨l, rfl, hl, .inl ⟨rfl, h1, h2, q⟩⟩
theorem setAll_nil {l : Loc} {vs : List V} : setAll l [] vs = l := rfl
theorem setAll_cons {l : Loc} {x : Nat} {xs : List Nat} {vs : List V} : setAll l (x :: xs) (v :: vs) = setAll (l.set x (some v)) xs vs := rfl
end
mutual
theorem sub_pure {g : Nat → V} : ∀ {v : V}, pureV v → sub g v = v
  | .list vs, h => congrArg V.list (subs_pure h)
  | .tup vs, h => congrArg V.tup (subs_pure h)
  | .mut _, h => h.elim
  | .none, _ | .bool _, _ | .int _, _ | .bytes _, _ | .fn _, _ | .rng .., _ => rfl
theorem subs_pure {g : Nat → V} : ∀ {vs : List V}, pureVs vs → subs g vs = vs
  | [], _ => rfl
  | v :: r, h => List.cons_eq_cons.mpr ⟨sub_pure h.1, subs_pure h.2⟩
end
theorem outRet {mh : MH} {Q : V → MH → Prop} {v : V} {l : Loc} (h : pureV v) (q : Q v mh) : outW mh.length Q (.ret v) l mh := by
  show Q (sub (frz mh.length mh) v) (mh.take mh.length)
  rw [sub_pure h, List.take_length]; exact q
noncomputable def dg (n : Nat) : List Nat := if h : n = 0 then [] else dg (n / 16) ++ [n % 16]
termination_by n
decreasing_by omega
theorem dg_zero : dg 0 = [] := by rw [dg]; exact dif_pos rfl
theorem dg_pos {n : Nat} (h : n ≠ 0) : dg n = dg (n / 16) ++ [n % 16] := by rw [dg]; exact dif_neg h
noncomputable def apB (ds : List Nat) : List UInt8 := ds.map fun d => (65 + d).toUInt8
theorem apB_app (a b : List Nat) : apB (a ++ b) = apB a ++ apB b := List.map_append ..
structure Std (F : List FnDef) : Prop where
  f0 : F[0]? = some d0_0
  f1 : F[1]? = some d0_1
  f2 : F[2]? = some d0_2
  f3 : F[3]? = some d0_3
  f4 : F[4]? = some d0_4
  f5 : F[5]? = some d0_5
theorem nnN (r : Nat) : nonNeg (some (r : Int)) := fun _ e => by cases e; exact Int.natCast_nonneg r
theorem apCut : ∀ r : Nat, r < 16 → cutL ([65, 66, 67, 68, 69, 70, 71, 72, 73, 74, 75, 76, 77, 78, 79, 80] : List UInt8) (some (r : Int)) (some ((r + 1 : Nat) : Int)) = apB [r] := by decide +kernel
theorem int2ap {F : List FnDef} {ov : Ov} (S : Std F) {n : Nat} {x : Int} {mh : MH} {Q : V → MH → Prop} (hx : x.natAbs < 16 ^ 100) (q : Q (.bytes (apB (dg x.natAbs))) mh) : runF F ov (n + 1) 4 [.int x] [] mh Q := by
  refine runF_of S.f4 (us := [.int x]) rfl ?_
  refine sAssign (sAssign (sAssign ?_))
  show wpSs _ [s0_4_5, s0_4_6] [some (.int x.natAbs), some (.bytes []), some (.bytes [65, 66, 67, 68, 69, 70, 71, 72, 73, 74, 75, 76, 77, 78, 79, 80]), none] mh _
  refine sWhile (fun k loc m => ∃ (y : Nat) (v : List UInt8) (o : Option V), loc = [some (.int y), some (.bytes v), some (.bytes [65, 66, 67, 68, 69, 70, 71, 72, 73, 74, 75, 76, 77, 78, 79, 80]), o] ∧ m = mh ∧ y < 16 ^ k ∧ v.length + k ≤ 100 ∧ apB (dg y) ++ v = apB (dg x.natAbs)) (k := 100) ⟨x.natAbs, [], none, rfl, rfl, hx, Nat.le_refl _, List.append_nil _⟩ ?_
  rintro k _ _ ⟨y, v, o, rfl, rfl, hy, hv, he⟩
  refine ⟨fun h0 => ?_, fun h0 => ?_⟩
  · have h0 : y ≠ 0 := fun e => h0 (congrArg Nat.cast e)
    cases k with
    | zero => exact absurd (Nat.lt_one_iff.mp hy) h0
    | succ k =>
      refine sUnpack ⟨⟨by decide, by decide⟩, rfl, sAssign ?_⟩
      have hr : ((y : Int) % 16) = ((y % 16 : Nat) : Int) := rfl
      have hq : ((y : Int) / 16) = ((y / 16 : Nat) : Int) := rfl
      refine ⟨⟨rfl, nnN (y % 16), nnN (y % 16 + 1), by decide⟩, ?_⟩
      have e := apCut (y % 16) (Nat.mod_lt _ (by decide))
      have hl : (apB [y % 16]).length + v.length ≤ 100 := by
        show 1 + v.length ≤ 100
        omega
      show (cutL _ (some ((y % 16 : Nat) : Int)) (some ((y % 16 + 1 : Nat) : Int))).length + v.length ≤ lim ∧ _
      rw [e]
      refine ⟨Nat.le_trans hl (by decide), sNil (wNext ⟨k, Nat.lt_succ_self k, y / 16, apB [y % 16] ++ v, some (.int ((y % 16 : Nat) : Int)), ?_, rfl, ?_, ?_, ?_⟩)⟩
      · show _ = _
        rw [← e]; rfl
      · rw [Nat.pow_succ] at hy; omega
      · show ([_] ++ v).length + k ≤ 100
        rw [List.length_append, List.length_singleton]; omega
      · rw [← he, dg_pos h0, apB_app, List.append_assoc]
  · have h0 : y = 0 := Int.ofNat.inj (Decidable.not_not.mp h0)
    subst h0
    rw [dg_zero] at he
    rw [← he] at q
    exact sRet (outRet (l := []) trivial q)
theorem law_first {F : List FnDef} {ov : Ov} (S : Std F) {n : Nat} {v : V} {vs : List V} {mh : MH} {Q : V → MH → Prop} (hl : (v :: vs).length ≤ lim) (hp : pureV v) (q : Q v mh) : runF F ov (n + 1) 5 [.list (v :: vs)] [] mh Q :=
  runF_of S.f5 (us := [.list (v :: vs)]) rfl (sRet (i_at (k := 0) rfl rfl hl (outRet hp q)))
open PySem PySem.Calls PySem.W PyProof.Rows PySem.SeqAt
set_option maxRecDepth 100000
set_option linter.unusedVariables false
noncomputable def KeyW (Γ : Tab) (key v : V) (mh : MH) (K : V → MH → Prop) : Prop := (key = .none ∧ K v mh) ∨ ∃ g, key = .fn g ∧ Γ g [v] [] mh K
noncomputable def IsKey (key : V) : Prop := key = .none ∨ ∃ g, key = .fn g
noncomputable def HiP (hi : V) (vs : List V) (h : Nat) : Prop := hi = .int h ∨ (hi = .none ∧ h = vs.length)
structure Bis (mh : MH) (a hv key : V) (vs : List V) (lo hi p : Nat) : Prop where
  it : itemsOf mh a = some vs
  hl : vs.length ≤ 900
  hh : HiP hv vs hi
  h1 : lo ≤ p
  h2 : p ≤ hi
  h3 : hi ≤ vs.length
  key : IsKey key
theorem lim900 {n : Nat} (h : n ≤ 900) : n ≤ lim := Nat.le_trans h (by decide)
theorem getS {vs : List V} {i : Nat} (h : i < vs.length) : ∃ v, vs[i]? = some v := ⟨vs[i], List.getElem?_eq_getElem h⟩
noncomputable def upS : MS := .assign 2 (.bin .Add (.var 5) (.const (.int 1)))
noncomputable def dnS : MS := .assign 3 (.var 5)
noncomputable def midS : MS := .assign 5 (.bin .FloorDiv (.bin .Add (.var 2) (.var 3)) (.const (.int 2)))
noncomputable def BisI (a x key : V) (mh : MH) (lo p hi k : Nat) (loc : Loc) (m : MH) : Prop :=
  ∃ (l h : Nat) (o : Option V), loc = [some a, some x, some (.int l), some (.int h), some key, o] ∧ m = mh ∧ (lo ≤ l ∧ l ≤ p ∧ p ≤ h ∧ h ≤ hi) ∧ h - l = k
theorem sMid {Γ : Tab} {ss : List MS} {mh : MH} {QS : Fl → Loc → MH → Prop} {a x k o : Option V} {l h : Nat} (q : wpSs Γ ss [a, x, some (.int l), some (.int h), k, some (.int ((l + h) / 2 : Nat))] mh QS) : wpSs Γ (midS :: ss) [a, x, some (.int l), some (.int h), k, o] mh QS :=
  sAssign ⟨⟨by decide, by decide⟩, q⟩
theorem bisLoop {Γ : Tab} {tst : MC} {A B : List MS} {mh : MH} {a x key : V} {o : Option V} {lo hi p : Nat} {Q : V → MH → Prop} (f : Bool) (hA : A = cond f [dnS] [upS]) (hB : B = cond f [upS] [dnS]) (h1 : lo ≤ p) (h2 : p ≤ hi)
    (ht : ∀ (l h mid : Nat) (QB : Bool → MH → Prop), lo ≤ mid → mid < hi → QB (decide (mid < p) ^^ f) mh → wpC Γ tst [some a, some x, some (.int l), some (.int h), some key, some (.int mid)] mh QB) (q : Q (.int p) mh) :
    wpSs Γ [.while (.cmp .Lt (.var 2) (.var 3)) [midS, .ite tst A B]] [some a, some x, some (.int lo), some (.int hi), some key, o] mh (thenW (fun l m => wpSs Γ [.ret (.var 2)] l m (outW mh.length Q)) (outW mh.length Q)) := by
  refine sWhile (BisI a x key mh lo p hi) (k := hi - lo) ⟨lo, hi, o, rfl, rfl, ⟨Nat.le_refl _, h1, h2, Nat.le_refl _⟩, rfl⟩ ?_
  rintro k _ m0 ⟨l, h, o, rfl, rfl, ⟨q1, q2, q3, q4⟩, rfl⟩
  refine ⟨fun hlt => ?_, fun hge => ?_⟩
  · have hlt : l < h := Int.ofNat_lt.mp hlt
    have m1 : l ≤ (l + h) / 2 := by omega
    have m2 : (l + h) / 2 < h := by omega
    refine sMid ?_
    generalize (l + h) / 2 = mid at m1 m2
    refine sIte ?_
    refine ht l h mid _ (Nat.le_trans q1 m1) (Nat.lt_of_lt_of_le m2 q4) ?_
    clear ht
    subst hA hB
    by_cases hp : mid < p
    · have hj : h - (mid + 1) < h - l := Nat.sub_lt_sub_left hlt (Nat.lt_succ_of_le m1)
      rw [decide_eq_true hp]
      have fin : ∀ {R : Fl → Loc → MH → Prop} {k : Nat}, h - (mid + 1) < k → wpSs Γ [upS] [some a, some x, some (.int l), some (.int h), some key, some (.int mid)] m0 (thenW (fun l m => wpSs Γ [] l m (thenW (fun l' m' => ∃ j, j < k ∧ BisI a x key m0 lo p hi j l' m') R)) R) := fun hj =>
        ⟨h - (mid + 1), hj, mid + 1, h, some (.int mid), rfl, rfl, ⟨Nat.le_trans q1 (Nat.le_succ_of_le m1), hp, q3, q4⟩, rfl⟩
      cases f <;> exact fin hj
    · have hj : mid - l < h - l := Nat.sub_lt_sub_right m1 m2
      rw [decide_eq_false hp]
      have fin : ∀ {R : Fl → Loc → MH → Prop} {k : Nat}, mid - l < k → wpSs Γ [dnS] [some a, some x, some (.int l), some (.int h), some key, some (.int mid)] m0 (thenW (fun l m => wpSs Γ [] l m (thenW (fun l' m' => ∃ j, j < k ∧ BisI a x key m0 lo p hi j l' m') R)) R) := fun hj =>
        ⟨mid - l, hj, l, mid, some (.int mid), rfl, rfl, ⟨q1, q2, Nat.le_of_not_lt hp, Nat.le_trans (Nat.le_of_lt m2) q4⟩, rfl⟩
      cases f <;> exact fin hj
  · obtain rfl : l = p := Nat.le_antisymm q2 (Nat.le_trans q3 (Nat.le_of_not_lt fun q => hge (Int.ofNat_lt.mpr q)))
    exact sNil (wNext (sRet (outRet (l := []) trivial q)))
theorem bisHead {Γ : Tab} {mh : MH} {a x hv key : V} {vs : List V} {lo hi p : Nat} {ss : List MS} {QS : Fl → Loc → MH → Prop} (B : Bis mh a hv key vs lo hi p) (h : wpSs Γ ss [some a, some x, some (.int lo), some (.int hi), some key, none] mh QS) :
    wpSs Γ (s0_3_1 :: s0_3_3 :: ss) [some a, some x, some (.int lo), some hv, some key, none] mh QS := by
  refine sIte ?_
  refine br_f (Int.not_lt.mpr (Int.natCast_nonneg lo)) ?_
  refine sNil (wNext ?_)
  refine sIte ?_
  refine ⟨rfl, ?_⟩
  rcases B.hh with rfl | ⟨rfl, e⟩
  · refine br_f (fun e => nomatch e) ?_
    exact sNil (wNext h)
  · refine br_t rfl ?_
    refine sAssign ?_
    dsimp only [wE_const, wE_var, wE_glob, wE_bin, wE_neg, wE_cmp, wE_ite, wE_list, wE_item, wE_slice, wE_prim, wE_app, wE_ins, wE_call, wEs_nil, wEs_cons, wC_tst, wC_not, wC_bop, wC_cmp, wCB_nil, wCB_cons, v_some, i_int, m_mut, f_fn, tp_tup, b_add, b_addb, b_addl, b_sub, b_mul, b_fd, b_mod, b_pow, c_lt, c_le, c_gt, c_is, c_isnot, t_int, t_bool, t_none, p_int, p_none, f_abs, f_int, f_divmod, f_range, sl_bytes, st_and, st_or, List.getElem?_cons_succ, List.getElem?_cons_zero, List.set_cons_zero, List.set_cons_succ, List.zip_nil_left, List.zip_cons_cons, brW, setAll_nil, setAll_cons]
    refine f_len B.it (lim900 B.hl) ?_
    exact sNil (wNext (e ▸ h))
noncomputable def LtK (Γ : Tab) (key v x : V) (mh : MH) (P : Prop) : Prop := ∀ QB : Bool → MH → Prop, brW P (fun b => QB b mh) → KeyW Γ key v mh fun kv m => cmpW .Lt m kv x fun b => QB b m
noncomputable def GtK (Γ : Tab) (key v x : V) (mh : MH) (P : Prop) : Prop := ∀ QB : Bool → MH → Prop, brW P (fun b => QB b mh) → KeyW Γ key v mh fun kv m => cmpW .Lt m x kv fun b => QB b m
theorem key_none {Γ : Tab} {v : V} {mh : MH} {K : V → MH → Prop} (h : KeyW Γ .none v mh K) : K v mh := h.elim (·.2) fun ⟨_, e, _⟩ => nomatch e
theorem key_fn {Γ : Tab} {g : Nat} {v : V} {mh : MH} {K : V → MH → Prop} (h : KeyW Γ (.fn g) v mh K) : Γ g [v] [] mh K := h.elim (fun e => nomatch e.1) fun ⟨_, e, h⟩ => by cases e; exact h
theorem xor_f (P : Prop) [Decidable P] : (decide P ^^ false) = true ↔ P := by rw [Bool.xor_false, decide_eq_true_iff]
theorem bisL {F : List FnDef} {ov : Ov} (S : Std F) {n : Nat} {args : List V} {kws : List (Str × V)} {a x hv key : V} {vs : List V} {lo hi p : Nat} {mh : MH} {Q : V → MH → Prop} (hb : bindF d0_3 args kws = some [a, x, .int lo, hv, key])
    (B : Bis mh a hv key vs lo hi p) (hc : ∀ i v, lo ≤ i → i < hi → vs[i]? = some v → LtK (runF F ov n) key v x mh (i < p)) (q : Q (.int p) mh) : runF F ov (n + 1) 3 args kws mh Q := by
  refine runF_of S.f3 hb (bisHead B ?_)
  refine sIte ?_
  refine ⟨rfl, ?_⟩
  have at' : ∀ {mid : Nat}, mid < hi → ∃ v, vs[mid]? = some v := fun h => getS (Nat.lt_of_lt_of_le h B.h3)
  rcases B.key with rfl | ⟨g, rfl⟩
  · refine br_t rfl ?_
    refine bisLoop false rfl rfl B.h1 B.h2 (fun l h mid QB m1 m2 hq => ?_) q
    obtain ⟨v, hv⟩ := at' m2
    exact i_at B.it hv (lim900 B.hl) (key_none (hc mid v m1 m2 hv QB (br_b (xor_f _) hq)))
  · refine br_f (fun e => nomatch e) ?_
    refine bisLoop false rfl rfl B.h1 B.h2 (fun l h mid QB m1 m2 hq => ?_) q
    obtain ⟨v, hv⟩ := at' m2
    exact i_at B.it hv (lim900 B.hl) ⟨rfl, key_fn (hc mid v m1 m2 hv QB (br_b (xor_f _) hq))⟩
theorem xor_t {P P' : Prop} [Decidable P] (h : P' ↔ ¬ P) : (decide P ^^ true) = true ↔ P' := by
  rw [Bool.xor_true, Bool.not_eq_true', decide_eq_false_iff_not]; exact h.symm
theorem bisR {F : List FnDef} {ov : Ov} (S : Std F) {n : Nat} {args : List V} {kws : List (Str × V)} {a x hv key : V} {vs : List V} {lo hi p : Nat} {mh : MH} {Q : V → MH → Prop} (hb : bindF d0_1 args kws = some [a, x, .int lo, hv, key])
    (B : Bis mh a hv key vs lo hi p) (hc : ∀ i v, lo ≤ i → i < hi → vs[i]? = some v → GtK (runF F ov n) key v x mh (p ≤ i)) (q : Q (.int p) mh) : runF F ov (n + 1) 1 args kws mh Q := by
  refine runF_of S.f1 hb (bisHead B ?_)
  refine sIte ?_
  refine ⟨rfl, ?_⟩
  have at' : ∀ {mid : Nat}, mid < hi → ∃ v, vs[mid]? = some v := fun h => getS (Nat.lt_of_lt_of_le h B.h3)
  rcases B.key with rfl | ⟨g, rfl⟩
  · refine br_t rfl ?_
    refine bisLoop true rfl rfl B.h1 B.h2 (fun l h mid QB m1 m2 hq => ?_) q
    obtain ⟨v, hv⟩ := at' m2
    exact i_at B.it hv (lim900 B.hl) (key_none (hc mid v m1 m2 hv QB (br_b (xor_t Nat.not_lt.symm) hq)))
  · refine br_f (fun e => nomatch e) ?_
    refine bisLoop true rfl rfl B.h1 B.h2 (fun l h mid QB m1 m2 hq => ?_) q
    obtain ⟨v, hv⟩ := at' m2
    exact i_at B.it hv (lim900 B.hl) ⟨rfl, key_fn (hc mid v m1 m2 hv QB (br_b (xor_t Nat.not_lt.symm) hq))⟩
theorem insFin {Γ : Tab} {mh : MH} {i p : Nat} {x key : V} {o : Option V} {vs : List V} {Q : V → MH → Prop} (ha : mh[i]? = some vs) (hl : vs.length ≤ 900) (hx : pureV x) (hp : p ≤ vs.length) (q : Q .none (mh.set i (vs.take p ++ x :: vs.drop p))) :
    wpSs Γ [s0_2_3] [some (.mut i), some x, some (.int p), o, some key] mh (outW mh.length Q) := by
  refine sExpr ⟨vs, ha, ⟨hx, lim900 hl, Int.natCast_nonneg p, Int.ofNat_le.mpr hp⟩, rfl, sNil ?_⟩
  show Q .none ((mh.set i _).take mh.length)
  rw [List.take_of_length_le (Nat.le_of_eq (List.length_set ..))]
  exact q
theorem insL {F : List FnDef} {ov : Ov} (S : Std F) {n : Nat} {args : List V} {kws : List (Str × V)} {x hv key : V} {vs : List V} {lo hi p i : Nat} {mh : MH} {Q : V → MH → Prop} (hb : bindF d0_2 args kws = some [.mut i, x, .int lo, hv, key])
    (B : Bis mh (.mut i) hv key vs lo hi p) (hx : pureV x) (hc : ∀ K : V → MH → Prop, (∀ kx, (∀ i v, lo ≤ i → i < hi → vs[i]? = some v → LtK (runF F ov n) key v kx mh (i < p)) → K kx mh) → KeyW (runF F ov (n + 1)) key x mh K)
    (q : Q .none (mh.set i (vs.take p ++ x :: vs.drop p))) : runF F ov (n + 2) 2 args kws mh Q := by
  refine runF_of S.f2 hb ?_
  refine sIte ?_
  refine ⟨rfl, ?_⟩
  have fin := fun {o : Option V} => insFin (Γ := runF F ov (n + 1)) (o := o) (key := key) B.it B.hl hx (Nat.le_trans B.h2 B.h3) q
  rcases B.key with rfl | ⟨g, rfl⟩
  · refine br_t rfl ?_
    refine sAssign ?_
    refine ⟨rfl, ?_⟩
    exact key_none (K := fun kx m => runF F ov (n + 1) 3 [.mut i, kx, .int lo, hv] [] m _) (hc _ fun kx hk => bisL S rfl B hk (sNil (wNext fin)))
  · refine br_f (fun e => nomatch e) ?_
    refine sAssign ?_
    refine ⟨rfl, ?_⟩
    exact key_fn (K := fun kx m => _ ∧ runF F ov (n + 1) 3 [.mut i, kx, .int lo, hv] [(_, .fn g)] m _) (hc _ fun kx hk => ⟨rfl, bisL S rfl B hk (sNil (wNext fin))⟩)
theorem insR {F : List FnDef} {ov : Ov} (S : Std F) {n : Nat} {args : List V} {kws : List (Str × V)} {x hv key : V} {vs : List V} {lo hi p i : Nat} {mh : MH} {Q : V → MH → Prop} (hb : bindF d0_0 args kws = some [.mut i, x, .int lo, hv, key])
    (B : Bis mh (.mut i) hv key vs lo hi p) (hx : pureV x) (hc : ∀ K : V → MH → Prop, (∀ kx, (∀ i v, lo ≤ i → i < hi → vs[i]? = some v → GtK (runF F ov n) key v kx mh (p ≤ i)) → K kx mh) → KeyW (runF F ov (n + 1)) key x mh K)
    (q : Q .none (mh.set i (vs.take p ++ x :: vs.drop p))) : runF F ov (n + 2) 0 args kws mh Q := by
  refine runF_of S.f0 hb ?_
  refine sIte ?_
  refine ⟨rfl, ?_⟩
  have fin := fun {o : Option V} => insFin (Γ := runF F ov (n + 1)) (o := o) (key := key) B.it B.hl hx (Nat.le_trans B.h2 B.h3) q
  rcases B.key with rfl | ⟨g, rfl⟩
  · refine br_t rfl ?_
    refine sAssign ?_
    refine ⟨rfl, ?_⟩
    exact key_none (K := fun kx m => runF F ov (n + 1) 1 [.mut i, kx, .int lo, hv] [] m _) (hc _ fun kx hk => bisR S rfl B hk (sNil (wNext fin)))
  · refine br_f (fun e => nomatch e) ?_
    refine sAssign ?_
    refine ⟨rfl, ?_⟩
    exact key_fn (K := fun kx m => _ ∧ runF F ov (n + 1) 1 [.mut i, kx, .int lo, hv] [(_, .fn g)] m _) (hc _ fun kx hk => ⟨rfl, bisR S rfl B hk (sNil (wNext fin))⟩)
theorem keyW_none {Γ : Tab} {v : V} {mh : MH} {K : V → MH → Prop} (h : K v mh) : KeyW Γ .none v mh K := .inl ⟨rfl, h⟩
theorem keyW_first {F : List FnDef} {ov : Ov} (S : Std F) {n : Nat} {v : V} {vs : List V} {mh : MH} {K : V → MH → Prop} (hl : (v :: vs).length ≤ lim) (hp : pureV v) (h : K v mh) : KeyW (runF F ov (n + 1)) (.fn 5) (.list (v :: vs)) mh K := .inr ⟨5, rfl, law_first S hl hp h⟩
open PySem PySem.Calls PySem.W PyProof.Rows PySem.SeqAt
set_option maxRecDepth 100000
set_option linter.unusedVariables false
theorem compFilt {tst : V → (Bool → Prop) → Prop} {el : V → (V → Prop) → Prop} {vs : List V} {K : List V → Prop} (t : V → Bool) (f : V → V) (ht : ∀ v ∈ vs, ∀ K : Bool → Prop, K (t v) → tst v K) (he : ∀ v ∈ vs, t v = true → ∀ K : V → Prop, K (f v) → el v K)
    (k : K ((vs.filter t).map f)) : compW tst el vs K := by
  refine ⟨fun i out => out = ((vs.take i).filter t).map f, rfl, fun i v out hv e => ht v (List.mem_of_getElem? hv) _ ?_, fun out e => ?_⟩
  · have e : out = ((vs.take i).filter t).map f := e
    dsimp only
    have e2 : vs.take (i + 1) = vs.take i ++ [v] := by rw [List.take_add_one, hv]; rfl
    rw [e2, List.filter_append, List.map_append, ← e]
    cases q : t v with
    | true => exact he v (List.mem_of_getElem? hv) q _ (by rw [List.filter_cons_of_pos q]; rfl)
    | false => show out = _; rw [List.filter_cons_of_neg (by rw [q]; exact Bool.noConfusion)]; exact (List.append_nil _).symm
  · have e : out = ((vs.take vs.length).filter t).map f := e
    rw [List.take_length] at e
    exact e ▸ k
theorem compMap {tst : V → (Bool → Prop) → Prop} {el : V → (V → Prop) → Prop} {vs : List V} {K : List V → Prop} (f : V → V) (ht : ∀ v, ∀ K : Bool → Prop, K true → tst v K) (he : ∀ v ∈ vs, ∀ K : V → Prop, K (f v) → el v K)
    (k : K (vs.map f)) : compW tst el vs K :=
  compFilt (fun _ => true) f (fun v _ => ht v) (fun v h _ => he v h) (by rw [List.filter_eq_self.mpr fun _ _ => rfl]; exact k)
theorem it_rng {mh : MH} {n : Nat} (h : n ≤ 2 ^ 40) : iterItems mh (.rng 0 n 1) = some ((List.range n).map fun (i : Nat) => V.int i) := by
  have h1 : rngSize 0 n 1 = n := by
    unfold rngSize Builtin.Range.rangeSize
    rw [if_pos (by decide)]
    split <;> omega
  have h2 : Builtin.Range.small 0 n 1 = true := small_one (by decide) (by decide) (by omega) (by omega)
  show (if Builtin.Range.small 0 n 1 then some ((List.range (rngSize 0 n 1).toNat).map fun (i : Nat) => V.int (0 + (i : Int) * 1)) else none) = _
  rw [if_pos h2, h1]
  refine congrArg some (List.map_congr_left fun i _ => congrArg V.int ?_)
  rw [Int.mul_one, Int.zero_add]
open PySem PySem.Calls PySem.W PyProof.Rows PySem.SeqAt
set_option maxRecDepth 100000
set_option linter.unusedSimpArgs false
set_option linter.unusedVariables false
noncomputable def pad : Nat → Nat → List Nat
  | 0, _ => []
  | s + 1, m => pad s (m / 16) ++ [m % 16]
theorem pad_len : ∀ (s m : Nat), (pad s m).length = s
  | 0, _ => rfl
  | s + 1, m => by simp [pad, pad_len s]
theorem pad_lt : ∀ (s m : Nat), ∀ d ∈ pad s m, d < 16
  | 0, _, d, h => by simp [pad] at h
  | s + 1, m, d, h => by
    rcases List.mem_append.mp h with h | h
    · exact pad_lt s _ d h
    · have := List.mem_singleton.mp h; omega
theorem dg_add {n : Nat} (hn : n ≠ 0) : ∀ (s m : Nat), m < 16 ^ s → dg (n * 16 ^ s + m) = dg n ++ pad s m
  | 0, m, h => by
    have : m = 0 := by simpa using h
    subst this; simp [pad]
  | s + 1, m, h => by
    rw [Nat.pow_succ] at h
    have hp : 0 < 16 ^ s := Nat.pos_of_ne_zero (by simp)
    have h0 : n * 16 ^ (s + 1) + m ≠ 0 := by
      have : 0 < n * 16 ^ (s + 1) := Nat.mul_pos (Nat.pos_of_ne_zero hn) (Nat.pos_of_ne_zero (by simp))
      omega
    have e : n * 16 ^ (s + 1) = 16 * (n * 16 ^ s) := by rw [Nat.pow_succ]; ac_rfl
    rw [dg_pos h0, e, show (16 * (n * 16 ^ s) + m) / 16 = n * 16 ^ s + m / 16 by omega, show (16 * (n * 16 ^ s) + m) % 16 = m % 16 by omega, dg_add hn s (m / 16) (by omega), pad, List.append_assoc]
theorem dg_one : dg 1 = [1] := by rw [dg_pos (by decide)]; simp [dg_zero]
theorem dg_pad : ∀ (s m : Nat), m < 16 ^ s → pad s m = List.replicate (s - (dg m).length) 0 ++ dg m
  | 0, m, h => by
    have : m = 0 := by simpa using h
    subst this; simp [pad, dg_zero]
  | s + 1, m, h => by
    rw [Nat.pow_succ] at h
    rw [pad, dg_pad s (m / 16) (by omega)]
    by_cases h0 : m = 0
    · subst h0
      simp only [dg_zero, Nat.zero_div, List.append_nil, List.length_nil, Nat.sub_zero, Nat.zero_mod]
      rw [List.replicate_succ']
    · rw [dg_pos h0]
      simp only [List.length_append, List.length_cons, List.length_nil, List.append_assoc]
      rw [show s + 1 - ((dg (m / 16)).length + (0 + 1)) = s - (dg (m / 16)).length by omega]
theorem dg_head (m : Nat) : ∀ d r, dg m = d :: r → d ≠ 0 := by
  induction m using Nat.strongRecOn with
  | ind m ih =>
    intro d r h
    by_cases h0 : m = 0
    · subst h0; rw [dg_zero] at h; cases h
    · rw [dg_pos h0] at h
      by_cases h1 : m / 16 = 0
      · rw [h1, dg_zero] at h
        simp at h
        omega
      · cases e : dg (m / 16) with
        | nil => 
          exfalso
          rw [dg_pos h1] at e
          simp at e
        | cons a b =>
          rw [e] at h
          simp at h
          rw [← h.1]
          exact ih (m / 16) (by omega) a b e
noncomputable def val (ds : List Nat) : Nat := ds.foldl (fun a d => 16 * a + d) 0
theorem foldl_val (ds : List Nat) : ∀ a : Nat, ds.foldl (fun a d => 16 * a + d) a = a * 16 ^ ds.length + val ds := by
  unfold val
  induction ds with
  | nil => intro a; simp
  | cons d ds ih =>
    intro a
    rw [List.foldl_cons, List.foldl_cons, ih, ih (16 * 0 + d), List.length_cons, Nat.pow_succ]
    rw [Nat.add_mul, Nat.add_mul]
    rw [show 16 * a * 16 ^ ds.length = a * (16 ^ ds.length * 16) by ac_rfl]
    omega
theorem val_nil : val [] = 0 := rfl
theorem val_app (a b : List Nat) : val (a ++ b) = val a * 16 ^ b.length + val b := by
  rw [val, List.foldl_append, foldl_val]; rfl
theorem val_cons (d : Nat) (b : List Nat) : val (d :: b) = d * 16 ^ b.length + val b := by
  have := val_app [d] b
  simpa [val] using this
theorem val_lt : ∀ {ds : List Nat}, (∀ d ∈ ds, d < 16) → val ds < 16 ^ ds.length
  | [], _ => by simp [val]
  | d :: ds, h => by
    have h1 := val_lt (ds := ds) (fun x hx => h x (.tail _ hx))
    have h2 := h d (.head _)
    rw [val_cons, List.length_cons, Nat.pow_succ]
    have : d * 16 ^ ds.length ≤ 15 * 16 ^ ds.length := Nat.mul_le_mul_right _ (by omega)
    omega
theorem val_pad : ∀ (s m : Nat), m < 16 ^ s → val (pad s m) = m
  | 0, m, h => by simp at h; subst h; rfl
  | s + 1, m, h => by
    rw [Nat.pow_succ] at h
    rw [pad, val_app, val_pad s (m / 16) (by omega)]
    simp [val]; omega
open PySem PySem.Calls PySem.W PyProof.Rows PySem.SeqAt
set_option maxRecDepth 100000
set_option linter.unusedVariables false
theorem nn {i : Int} (h : 0 ≤ i) : nonNeg (some i) := fun _ e => by cases e; exact h
theorem last_get {mh : MH} {vs : List V} : (mh ++ [vs])[mh.length]? = some vs := List.getElem?_concat_length
theorem last_set {mh : MH} {vs us : List V} : (mh ++ [vs]).set mh.length us = mh ++ [us] := by
  rw [List.set_append_right _ _ (Nat.le_refl _), Nat.sub_self]; rfl
theorem outMut {mh : MH} {vs : List V} {Q : V → MH → Prop} {l : Loc} (q : Q (.list vs) mh) : outW mh.length Q (.ret (.mut mh.length)) l (mh ++ [vs]) := by
  show Q (frz mh.length (mh ++ [vs]) mh.length) ((mh ++ [vs]).take mh.length)
  unfold frz
  rw [decide_eq_false (Nat.lt_irrefl _), last_get, List.take_left']
  exact q
  rfl
theorem hbig {n : Nat} (h : n ≤ 10000000) : n < big := Nat.lt_of_le_of_lt h (by decide)
theorem lim1000 {n : Nat} (h : n ≤ 1000) : n ≤ lim := Nat.le_trans h (by decide)
theorem val_snoc {ds : List Nat} {d : Nat} : val (ds ++ [d]) = 16 * val ds + d := by
  rw [val_app]; simp [val]; omega
theorem mem_zip_self : ∀ {vs : List V} {p : V × V}, p ∈ vs.zip vs → p.1 = p.2 ∧ p.1 ∈ vs
  | [], _, h => nomatch h
  | v :: vs, p, h => (List.mem_cons.mp h).elim (fun e => e ▸ ⟨rfl, .head _⟩) fun h => ⟨(mem_zip_self h).1, .tail _ (mem_zip_self h).2⟩
theorem eqok_list {n : Nat} {vs : List V} (h : ∀ v ∈ vs, eqok n v v) : eqok (n + 1) (.list vs) (.list vs) :=
  .inr ⟨vs, vs, rfl, rfl, .inr fun p hp => (mem_zip_self hp).1 ▸ h _ (mem_zip_self hp).2⟩
theorem eqok_int {n : Nat} {i : Int} : eqok (n + 1) (.int i) (.int i) := .inl ⟨_, rfl⟩
theorem c_nel {mh : MH} {vs ws : List V} {QB : Bool → Prop} (e : vs = ws) (h : ∀ v ∈ vs, eqok 7 v v) (q : QB false) : cmpW .NotEq mh (.list vs) (.list ws) QB := by
  subst e
  exact ⟨eqok_list h, br_f (fun q => q rfl) q⟩
theorem c_eql {mh : MH} {vs ws : List V} {QB : Bool → Prop} (e : vs = ws) (h : ∀ v ∈ vs, eqok 7 v v) (q : QB true) : cmpW .Eq mh (.list vs) (.list ws) QB := by
  subst e
  exact ⟨eqok_list h, br_t rfl q⟩
theorem rng_at {α : Type} {f : Nat → α} {k n : Nat} (hk : k < n) : ((List.range n).map f)[k]? = some (f k) := by rw [List.getElem?_map, List.getElem?_range hk]; rfl
theorem compMapA {α : Type} {tst : V → (Bool → Prop) → Prop} {el : V → (V → Prop) → Prop} {l : List α} {e g : α → V} {K : List V → Prop} (ht : ∀ v, ∀ K : Bool → Prop, K true → tst v K) (he : ∀ a ∈ l, ∀ K : V → Prop, K (g a) → el (e a) K)
    (k : K (l.map g)) : compW tst el (l.map e) K := by
  refine ⟨fun i out => out = (l.take i).map g, rfl, fun i v out hv q => ht v _ ?_, fun out q => ?_⟩
  · have q : out = (l.take i).map g := q
    rw [List.getElem?_map] at hv
    obtain ⟨a, ha, rfl⟩ := Option.map_eq_some_iff.mp hv
    refine he a (List.mem_of_getElem? ha) _ ?_
    show out ++ [g a] = (l.take (i + 1)).map g
    rw [List.take_add_one, ha, List.map_append, ← q]; rfl
  · have q : out = (l.take (l.map e).length).map g := q
    rw [List.length_map, List.take_length] at q
    exact q ▸ k
theorem compFiltA {α : Type} {tst : V → (Bool → Prop) → Prop} {el : V → (V → Prop) → Prop} {l : List α} {e : α → V} {K : List V → Prop} (t : α → Bool) (ht : ∀ a ∈ l, ∀ K : Bool → Prop, K (t a) → tst (e a) K) (he : ∀ a, ∀ K : V → Prop, K (e a) → el (e a) K)
    (k : K ((l.filter t).map e)) : compW tst el (l.map e) K := by
  refine ⟨fun i out => out = ((l.take i).filter t).map e, rfl, fun i v out hv q => ?_, fun out q => ?_⟩
  · have q : out = ((l.take i).filter t).map e := q
    rw [List.getElem?_map] at hv
    obtain ⟨a, ha, rfl⟩ := Option.map_eq_some_iff.mp hv
    refine ht a (List.mem_of_getElem? ha) _ ?_
    dsimp only
    have e2 : l.take (i + 1) = l.take i ++ [a] := by rw [List.take_add_one, ha]; rfl
    rw [e2, List.filter_append, List.map_append, ← q]
    cases q' : t a with
    | true => exact he a _ (by rw [List.filter_cons_of_pos q']; rfl)
    | false => show out = _; rw [List.filter_cons_of_neg (by rw [q']; exact Bool.noConfusion)]; exact (List.append_nil _).symm
  · have q : out = ((l.take (l.map e).length).filter t).map e := q
    rw [List.length_map, List.take_length] at q
    exact q ▸ k
theorem cut_none {α : Type} (l : List α) (p : Nat) : cutL l none (some (p : Int)) = l.take p := rfl
theorem cut_some {α : Type} (l : List α) (p : Nat) : cutL l (some (p : Int)) none = l.drop p := rfl
theorem apB_cut (E : List Nat) : cutL (apB (1 :: E)) (some 1) none = apB E := rfl
theorem sorted_count {α : Type} {P : α → Bool} : ∀ {L : List α}, L.Pairwise (fun a b => P b = true → P a = true) → ∀ i a, L[i]? = some a → (P a = true ↔ i < L.countP P)
  | [], _, i, a, h => by simp at h
  | x :: L, hp, 0, a, h => by
    simp at h; subst h
    obtain ⟨h1, h2⟩ := List.pairwise_cons.mp hp
    by_cases hx : P x = true
    · simp [hx, List.countP_cons]
    · have : L.countP P = 0 := by
        rw [List.countP_eq_zero]; intro b hb hb'; exact hx (h1 b hb hb')
      simp [hx, List.countP_cons, this]
  | x :: L, hp, i + 1, a, h => by
    obtain ⟨h1, h2⟩ := List.pairwise_cons.mp hp
    have h : L[i]? = some a := by simpa using h
    have ih := sorted_count h2 i a h
    by_cases hx : P x = true
    · rw [List.countP_cons, ih]; simp [hx]
    · have h0 : L.countP P = 0 := by
        rw [List.countP_eq_zero]; intro b hb hb'; exact hx (h1 b hb hb')
      rw [List.countP_cons, ih]; simp [hx, h0]
theorem pairwise_lay {α : Type} {R : α → α → Prop} {L : List α} {x : α} {p : Nat} (h : L.Pairwise R) (h1 : ∀ a ∈ L.take p, R a x) (h2 : ∀ b ∈ L.drop p, R x b) : (L.take p ++ x :: L.drop p).Pairwise R := by
  rw [← List.take_append_drop p L, List.pairwise_append] at h
  obtain ⟨q1, q2, q3⟩ := h
  rw [List.pairwise_append, List.pairwise_cons]
  refine ⟨q1, ⟨h2, q2⟩, fun a ha b hb => ?_⟩
  rcases List.mem_cons.mp hb with rfl | hb
  · exact h1 a ha
  · exact q3 a ha b hb
theorem perm_lay {α : Type} (L : List α) (x : α) (p : Nat) : (L.take p ++ x :: L.drop p).Perm (x :: L) := by
  refine List.perm_middle.trans (List.Perm.cons x ?_)
  rw [List.take_append_drop]
theorem take_P {α : Type} {P : α → Bool} {L : List α} (h : L.Pairwise (fun a b => P b = true → P a = true)) : (∀ a ∈ L.take (L.countP P), P a = true) ∧ (∀ a ∈ L.drop (L.countP P), ¬ P a = true) := by
  constructor
  · intro a ha
    obtain ⟨i, hi, e⟩ := List.mem_iff_getElem.mp ha
    rw [List.getElem_take] at e
    have hi' : i < L.countP P := by rw [List.length_take] at hi; omega
    refine (sorted_count h i a ?_).mpr hi'
    rw [← e]; simp
  · intro a ha
    obtain ⟨i, hi, e⟩ := List.mem_iff_getElem.mp ha
    rw [List.getElem_drop] at e
    intro q
    have := (sorted_count h (L.countP P + i) a (by rw [← e]; simp)).mp q
    omega
noncomputable def lay {α : Type} (L : List α) (p : Nat) (x : α) : List α := L.take p ++ x :: L.drop p
theorem lay_map {α β : Type} (f : α → β) (L : List α) (p : Nat) (x : α) : (lay L p x).map f = lay (L.map f) p (f x) := by rw [lay, List.map_append, List.map_cons, List.map_take, List.map_drop]; rfl
open PySem PySem.Calls PySem.W PyProof.Rows PySem.SeqAt
set_option maxRecDepth 100000
set_option linter.unusedVariables false
theorem pow16 (n : Nat) : 0 < 16 ^ n := Nat.pow_pos (by decide)
theorem pad_val : ∀ (n : Nat) (ds : List Nat), ds.length = n → (∀ d ∈ ds, d < 16) → pad n (val ds) = ds
  | 0, ds, e, _ => by rw [List.length_eq_zero_iff.mp e]; rfl
  | n + 1, ds, e, h => by
    have hne : ds ≠ [] := fun q => by rw [q] at e; cases e
    have e1 := List.dropLast_concat_getLast hne
    have hl : ds.dropLast.length = n := by rw [List.length_dropLast, e]; rfl
    have hd : ds.getLast hne < 16 := h _ (List.getLast_mem hne)
    have ih := pad_val n ds.dropLast hl fun d q => h d (List.dropLast_subset ds q)
    rw [← e1, val_snoc, pad, show (16 * val ds.dropLast + ds.getLast hne) / 16 = val ds.dropLast by omega, show (16 * val ds.dropLast + ds.getLast hne) % 16 = ds.getLast hne by omega, ih]
theorem dg_shown {ds : List Nat} (h : ∀ d ∈ ds, d < 16) : dg (16 ^ ds.length + val ds) = 1 :: ds := by
  have := dg_add (n := 1) (by decide) ds.length (val ds) (val_lt h)
  rwa [Nat.one_mul, dg_one, pad_val _ ds rfl h] at this
noncomputable def strip : List Nat → List Nat
  | [] => []
  | d :: r => if d = 0 then strip r else d :: r
theorem strip_rep (l : List Nat) : ∀ n, strip (List.replicate n 0 ++ l) = strip l
  | 0 => rfl
  | n + 1 => (if_pos rfl : strip (0 :: (List.replicate n 0 ++ l)) = _).trans (strip_rep l n)
theorem strip_val {ds : List Nat} (h : ∀ d ∈ ds, d < 16) : dg (val ds) = strip ds := by
  have e := dg_pad ds.length (val ds) (val_lt h)
  rw [pad_val _ ds rfl h] at e
  rw [e, strip_rep, ← e]
  cases q : dg (val ds) with
  | nil => rfl
  | cons d r => exact (if_neg (dg_head _ d r q)).symm
theorem strip_sub {ds : List Nat} : ∀ d ∈ strip ds, d ∈ ds := by
  induction ds with
  | nil => exact fun d h => h
  | cons a r ih =>
    intro d h
    unfold strip at h
    split at h
    · exact .tail _ (ih d h)
    · exact h
theorem strip_len {ds : List Nat} : (strip ds).length ≤ ds.length := by
  induction ds with
  | nil => exact Nat.le_refl _
  | cons a r ih =>
    unfold strip
    split
    · exact Nat.le_succ_of_le ih
    · exact Nat.le_refl _
set_option maxRecDepth 100000
set_option linter.unusedVariables false
/-! powers by the prime 65537 -/
noncomputable abbrev FP : Nat := 65537
theorem mm (a b : Nat) : a * b % 65537 = (a % 65537) * (b % 65537) % 65537 := Nat.mul_mod ..
theorem mcong {a b c d : Nat} (h1 : a % 65537 = b % 65537) (h2 : c % 65537 = d % 65537) : a * c % 65537 = b * d % 65537 := by
  rw [mm a, mm b, h1, h2]
theorem pcong {a b : Nat} (h : a % 65537 = b % 65537) : ∀ n, a ^ n % 65537 = b ^ n % 65537
  | 0 => rfl
  | n + 1 => by rw [Nat.pow_succ, Nat.pow_succ]; exact mcong (pcong h n) h
noncomputable def Gen (g : Nat) : Prop := g ^ 32768 % 65537 = 65536
theorem Gen.full {g : Nat} (h : Gen g) : g ^ 65536 % 65537 = 1 := by
  have e : g ^ 65536 = g ^ 32768 * g ^ 32768 := by rw [← Nat.pow_add]
  rw [e, mm, h]
theorem Gen.mul {g : Nat} (h : Gen g) (k : Nat) : g ^ (65536 * k) % 65537 = 1 := by
  rw [Nat.pow_mul, pcong (b := 1) h.full, Nat.one_pow]
theorem two_odd : ∀ d : Nat, 0 < d → ∃ a m, d = 2 ^ a * (2 * m + 1) := by
  intro d
  induction d using Nat.strongRecOn with
  | ind d ih =>
    intro h
    by_cases e : d % 2 = 1
    · exact ⟨0, d / 2, by rw [Nat.pow_zero, Nat.one_mul]; omega⟩
    · obtain ⟨a, m, q⟩ := ih (d / 2) (by omega) (by omega)
      refine ⟨a + 1, m, ?_⟩
      rw [Nat.pow_succ, Nat.mul_assoc, Nat.mul_comm 2, ← Nat.mul_assoc, ← q]
      omega
theorem neg_odd (m : Nat) : 65536 ^ (2 * m + 1) % 65537 = 65536 := by
  rw [Nat.pow_succ, Nat.pow_mul, mm, pcong (b := 1) (by decide), Nat.one_pow]
theorem Gen.ord {g d : Nat} (h : Gen g) (h0 : 0 < d) (h1 : d < 65536) : g ^ d % 65537 ≠ 1 := by
  intro q
  obtain ⟨a, m, e⟩ := two_odd d h0
  have ha : a ≤ 15 := by
    refine Nat.le_of_not_lt fun w => ?_
    have : 2 ^ 16 ≤ 2 ^ a := Nat.pow_le_pow_right (by decide) w
    have : 2 ^ a * 1 ≤ 2 ^ a * (2 * m + 1) := Nat.mul_le_mul_left _ (by omega)
    omega
  have e2 : d * 2 ^ (15 - a) = 32768 * (2 * m + 1) := by
    have : 2 ^ a * 2 ^ (15 - a) = 32768 := by
      rw [← Nat.pow_add, show a + (15 - a) = 15 by omega]
    rw [e, Nat.mul_right_comm, this]
  have x1 : g ^ (d * 2 ^ (15 - a)) % 65537 = 1 := by rw [Nat.pow_mul, pcong (b := 1) q, Nat.one_pow]
  rw [e2, Nat.pow_mul, pcong (b := 65536) (by rw [h]), neg_odd] at x1
  cases x1
theorem Gen.split {g : Nat} (h : Gen g) (e : Nat) : g ^ e % 65537 = g ^ (e % 65536) % 65537 := by
  have e1 : e = 65536 * (e / 65536) + e % 65536 := (Nat.div_add_mod ..).symm
  have : g ^ e = g ^ (65536 * (e / 65536)) * g ^ (e % 65536) := by rw [← Nat.pow_add, ← e1]
  rw [this, mm, h.mul, Nat.one_mul, Nat.mod_mod]
theorem Gen.inj' {g a b : Nat} (h : Gen g) (hab : a ≤ b) (hb : b < 65536) (q : g ^ a % 65537 = g ^ b % 65537) : a = b := by
  refine Nat.le_antisymm hab (Nat.le_of_not_lt fun w => ?_)
  refine h.ord (d := b - a) (by omega) (by omega) ?_
  have e1 : g ^ (b - a) % 65537 = g ^ (b - a) * g ^ 65536 % 65537 := by rw [mm (g ^ (b - a)), h.full, Nat.mul_one, Nat.mod_mod]
  have e2 : g ^ (b - a) * g ^ 65536 = g ^ b * g ^ (65536 - a) := by rw [← Nat.pow_add, ← Nat.pow_add]; congr 1; omega
  rw [e1, e2, mcong q.symm (rfl : g ^ (65536 - a) % 65537 = _), ← Nat.pow_add, show a + (65536 - a) = 65536 by omega, h.full]
theorem Gen.eq_iff {g : Nat} (h : Gen g) (a b : Nat) : g ^ a % 65537 = g ^ b % 65537 ↔ a % 65536 = b % 65536 := by
  constructor
  · intro q
    rw [h.split a, h.split b] at q
    have ha := Nat.mod_lt a (show 65536 > 0 by decide)
    have hb := Nat.mod_lt b (show 65536 > 0 by decide)
    rcases Nat.le_total (a % 65536) (b % 65536) with w | w
    · exact h.inj' w hb q
    · exact (h.inj' w ha q.symm).symm
  · intro q
    rw [h.split a, h.split b, q]
theorem Gen.pos {g : Nat} (h : Gen g) (e : Nat) : g ^ e % 65537 ≠ 0 := by
  intro q
  have q2 : g ^ (e % 65536) % 65537 = 0 := by rw [← h.split]; exact q
  have hb := Nat.mod_lt e (show 65536 > 0 by decide)
  have : g ^ 65536 % 65537 = 0 := by
    rw [show (65536 : Nat) = e % 65536 + (65536 - e % 65536) by omega, Nat.pow_add, mm, q2, Nat.zero_mul]
  rw [h.full] at this
  cases this
theorem pigeon : ∀ (n : Nat) (f : Nat → Nat), (∀ x, x < n → f x < n) → (∀ x y, x < n → y < n → f x = f y → x = y) → ∀ y, y < n → ∃ x, x < n ∧ f x = y
  | 0, _, _, _, y, h => nomatch h
  | n + 1, f, h1, h2, y, hy => by
    have surj : ∀ y, y < n → ∃ x, x < n + 1 ∧ f x = y := by
      intro y hy
      obtain ⟨x, hx, e⟩ := pigeon n (fun x => if f x = n then f n else f x) (fun x hx => by
        split
        · rename_i e
          have a := h1 n (Nat.lt_succ_self _)
          by_cases w : f n = n
          · exact absurd (h2 x n (by omega) (by omega) (e.trans w.symm)) (by omega)
          · omega
        · have := h1 x (by omega); omega) (fun x z hx hz e => by
        split at e
        · rename_i w
          split at e
          · rename_i w2; exact h2 x z (by omega) (by omega) (w.trans w2.symm)
          · exact absurd (h2 n z (by omega) (by omega) e) (by omega)
        · split at e
          · exact absurd (h2 x n (by omega) (by omega) e) (by omega)
          · exact h2 x z (by omega) (by omega) e) y hy
      split at e
      · exact ⟨n, by omega, e⟩
      · exact ⟨x, by omega, e⟩
    by_cases hn : y < n
    · exact surj y hn
    · obtain rfl : y = n := by omega
      refine Classical.byContradiction fun no => ?_
      have no' : ∀ x, x < y + 1 → f x < y := fun x hx => by
        have := h1 x hx
        have : f x ≠ y := fun e => no ⟨x, hx, e⟩
        omega
      obtain ⟨x, hx, e⟩ := pigeon y f (fun x hx => no' x (by omega)) (fun x z hx hz e => h2 x z (by omega) (by omega) e) (f y) (no' y (by omega))
      exact absurd (h2 x y (by omega) (by omega) e) (by omega)
theorem Gen.log {g n : Nat} (h : Gen g) (h1 : 1 ≤ n) (h2 : n ≤ 65536) : ∃ e, e < 65536 ∧ g ^ e % 65537 = n := by
  obtain ⟨e, he, q⟩ := pigeon 65536 (fun e => g ^ e % 65537 - 1) (fun x hx => by
    have := Nat.mod_lt (g ^ x) (show 65537 > 0 by decide)
    have := h.pos x
    omega) (fun x y hx hy e => by
    have := h.pos x
    have := h.pos y
    have := (h.eq_iff x y).mp (by omega)
    rwa [Nat.mod_eq_of_lt hx, Nat.mod_eq_of_lt hy] at this) (n - 1) (by omega)
  have := h.pos e
  exact ⟨e, he, by omega⟩
theorem gen3 : Gen 3 := by unfold Gen; decide +kernel
theorem gen5 : Gen 5 := by unfold Gen; decide +kernel
theorem fermat {s : Nat} (h1 : 1 ≤ s) (h2 : s ≤ 65536) : s ^ 65536 % 65537 = 1 := by
  obtain ⟨e, _, q⟩ := gen3.log h1 h2
  have : s % 65537 = 3 ^ e % 65537 := by rw [q, Nat.mod_eq_of_lt (by omega)]
  rw [pcong this, ← Nat.pow_mul, Nat.mul_comm, gen3.mul]
theorem gen_base {g s : Nat} (hg : Gen g) (h1 : 1 ≤ s) (h2 : s ≤ 65536) : Gen (g * s ^ 2 % 65537) := by
  unfold Gen
  rw [pcong (b := g * s ^ 2) (Nat.mod_mod ..), Nat.mul_pow, ← Nat.pow_mul, mm, fermat h1 h2, hg]
open PySem PySem.Calls PySem.W PyProof.Rows PySem.SeqAt
set_option maxRecDepth 100000
noncomputable def fns2 : List Str := ["insort_right", "bisect_right", "insort_left", "bisect_left", "Int2AP", "_law_first", "_law_up", "_law_spokes", "_law_wheels", "_law_letter", "_law_logarithm", "_law_power", "_law_spelled", "law"]
noncomputable def s2_6_0 : MS := .assign 0 (.bin .Mod (.bin .Mult (.var 0) (.var 0)) (.const (.int 65537)))
noncomputable def s2_6_1 : MS := .for 2 (.prim .range [(.bin .Mult (.const (.int 4)) (.var 1))]) [s2_6_0]
noncomputable def s2_6_2 : MS := .ret (.var 0)
noncomputable def d2_6 : FnDef := { vars := ["number", "turns", "turn"], np := 2, bis := false, body := [s2_6_1, s2_6_2] }
noncomputable def s2_7_0 : MS := .assign 2 (.call (.glob 6) [(.var 0), (.const (.int 3))] [] [])
noncomputable def s2_7_1 : MS := .assignMut 3 [(.const (.int 1))]
noncomputable def s2_7_2 : MS := .expr (.app (.var 3) (.bin .Mod (.bin .Mult (.item (.var 3) (.neg (.const (.int 1)))) (.var 2)) (.const (.int 65537))))
noncomputable def s2_7_3 : MS := .while (.cmp .Lt (.prim .len [(.var 3)]) (.var 1)) [s2_7_2]
noncomputable def s2_7_4 : MS := .ret (.var 3)
noncomputable def d2_7 : FnDef := { vars := ["base", "size", "root", "spokes"], np := 2, bis := false, body := [s2_7_0, s2_7_1, s2_7_3, s2_7_4] }
noncomputable def s2_8_0 : MS := .assignTup [2, 3] [true, true] [(.list [(.list [(.const (.int 0)), (.const (.int 0))])]), (.list [])]
noncomputable def s2_8_1 : MS := .assignTup [5, 6] [false, false] [(.item (.item (.var 0) (.const (.int 0))) (.var 1)), (.item (.item (.var 0) (.const (.int 1))) (.var 1))]
noncomputable def s2_8_2 : MS := .assign 4 (.list [(.call (.glob 0) [(.var 2), (.list [(.var 5), (.neg (.var 1))]), (.const (.int 0)), (.var 1)] ["key"] [(.glob 5)]), (.call (.glob 2) [(.var 2), (.list [(.var 6), (.var 1)]), (.bin .Add (.var 1) (.const (.int 1))), (.bin .Add (.bin .Mult (.const (.int 2)) (.var 1)) (.const (.int 1)))] ["key"] [(.glob 5)])])
noncomputable def s2_8_3 : MS := .assign 4 (.bin .Add (.var 4) (.list [(.call (.glob 2) [(.var 3), (.var 5), (.const (.int 0)), (.var 1)] [] []), (.call (.glob 0) [(.var 3), (.var 6), (.bin .Add (.var 1) (.const (.int 1)))] [] [])]))
noncomputable def s2_8_4 : MS := .ret (.list [(.list []), (.list [])])
noncomputable def s2_8_5 : MS := .ite (.cmp .NotEq (.var 4) (.list [(.const .none), (.const .none), (.const .none), (.const .none)])) [s2_8_4] []
noncomputable def s2_8_6 : MS := .for 1 (.prim .range [(.prim .len [(.item (.var 0) (.const (.int 0)))])]) [s2_8_1, s2_8_2, s2_8_3, s2_8_5]
noncomputable def s2_8_7 : MS := .ret (.list [(.var 2), (.var 3)])
noncomputable def d2_8 : FnDef := { vars := ["spokes", "turn", "pairs", "bare", "gone", "one", "two"], np := 1, bis := false, body := [s2_8_0, s2_8_6, s2_8_7] }
noncomputable def s2_9_0 : MS := .assign 4 (.prim .len [(.item (.var 1) (.var 2))])
noncomputable def s2_9_1 : MS := .assign 5 (.bin .Mult (.var 2) (.var 4))
noncomputable def s2_9_2 : MS := .assign 6 (.ite (.cmp .Eq (.var 2) (.const (.int 0))) (.var 4) (.const .none))
noncomputable def s2_9_3 : MS := .assign 7 (.list [(.call (.glob 3) [(.item (.var 0) (.const (.int 0))), (.var 3), (.var 5), (.bin .Add (.var 5) (.var 4))] ["key"] [(.glob 5)]), (.call (.glob 1) [(.item (.var 0) (.const (.int 0))), (.var 3), (.var 5), (.bin .Add (.var 5) (.var 4))] ["key"] [(.glob 5)])])
noncomputable def s2_9_4 : MS := .assign 8 (.list [(.call (.glob 3) [(.item (.var 0) (.const (.int 1))), (.var 3), (.var 5), (.var 6)] [] []), (.call (.glob 1) [(.item (.var 0) (.const (.int 1))), (.var 3), (.var 5), (.var 6)] [] [])])
noncomputable def s2_9_5 : MS := .assign 9 (.prim .len [(.comp [3] 11 (.item (.var 1) (.var 2)) [(.cmp .Lt (.var 11) (.var 3))] (.var 11))])
noncomputable def s2_9_6 : MS := .ret (.const (.int 16))
noncomputable def s2_9_7 : MS := .ite (.bop .Or [(.cmp .NotEq (.var 8) (.var 7)), (.cmp .NotEq (.item (.var 7) (.const (.int 0))) (.bin .Add (.var 5) (.var 9))), (.cmp .GtE (.item (.var 7) (.const (.int 0))) (.item (.var 7) (.const (.int 1))))]) [s2_9_6] []
noncomputable def s2_9_8 : MS := .assign 10 (.bin .Mod (.prim .abs [(.item (.item (.item (.var 0) (.const (.int 0))) (.item (.var 7) (.const (.int 0)))) (.const (.int 1)))]) (.const (.int 16)))
noncomputable def s2_9_9 : MS := .ret (.const (.int 16))
noncomputable def s2_9_10 : MS := .ite (.bop .Or [(.cmp .NotEq (.item (.item (.var 1) (.var 2)) (.var 10)) (.var 3)), (.cmp .NotEq (.bin .Sub (.item (.var 7) (.const (.int 1))) (.item (.var 7) (.const (.int 0)))) (.prim .len [(.prim .range [(.var 10), (.var 4), (.const (.int 16))])]))]) [s2_9_9] []
noncomputable def s2_9_11 : MS := .ret (.var 10)
noncomputable def d2_9 : FnDef := { vars := ["wheels", "spokes", "part", "power", "size", "lo", "hi", "told", "again", "less", "letter", "spoke"], np := 4, bis := false, body := [s2_9_0, s2_9_1, s2_9_2, s2_9_3, s2_9_4, s2_9_5, s2_9_7, s2_9_8, s2_9_10, s2_9_11] }
noncomputable def s2_10_0 : MS := .assign 5 (.const (.int 1))
noncomputable def s2_10_1 : MS := .assign 5 (.bin .Mod (.bin .Mult (.var 5) (.var 3)) (.const (.int 65537)))
noncomputable def s2_10_2 : MS := .assign 3 (.bin .Mod (.bin .Mult (.var 3) (.var 3)) (.const (.int 65537)))
noncomputable def s2_10_3 : MS := .for 6 (.prim .range [(.const (.int 16))]) [s2_10_1, s2_10_2]
noncomputable def s2_10_4 : MS := .assign 7 (.list [])
noncomputable def s2_10_5 : MS := .assign 9 (.call (.glob 9) [(.var 0), (.var 1), (.var 2), (.call (.glob 6) [(.var 4), (.bin .Sub (.const (.int 3)) (.var 8))] [] [])] [] [])
noncomputable def s2_10_6 : MS := .assign 4 (.bin .Mod (.bin .Mult (.var 4) (.var 5)) (.const (.int 65537)))
noncomputable def s2_10_7 : MS := .for 6 (.prim .range [(.var 9)]) [s2_10_6]
noncomputable def s2_10_8 : MS := .assign 5 (.call (.glob 6) [(.var 5), (.const (.int 1))] [] [])
noncomputable def s2_10_9 : MS := .assign 7 (.bin .Add (.list [(.var 9)]) (.var 7))
noncomputable def s2_10_10 : MS := .for 8 (.prim .range [(.const (.int 4))]) [s2_10_5, s2_10_7, s2_10_8, s2_10_9]
noncomputable def s2_10_11 : MS := .ret (.var 7)
noncomputable def d2_10 : FnDef := { vars := ["wheels", "spokes", "part", "base", "number", "back", "turn", "letters", "k", "letter"], np := 5, bis := false, body := [s2_10_0, s2_10_3, s2_10_4, s2_10_10, s2_10_11] }
noncomputable def s2_11_0 : MS := .assignMut 2 [(.const (.int 1))]
noncomputable def s2_11_1 : MS := .expr (.app (.var 2) (.bin .Mod (.bin .Mult (.item (.var 2) (.neg (.const (.int 1)))) (.var 0)) (.const (.int 65537))))
noncomputable def s2_11_2 : MS := .while (.cmp .Lt (.prim .len [(.var 2)]) (.const (.int 16))) [s2_11_1]
noncomputable def s2_11_3 : MS := .assign 3 (.const (.int 1))
noncomputable def s2_11_4 : MS := .assign 3 (.bin .Mod (.bin .Mult (.call (.glob 6) [(.var 3), (.const (.int 1))] [] []) (.item (.var 2) (.bin .Sub (.var 4) (.const (.int 65))))) (.const (.int 65537)))
noncomputable def s2_11_5 : MS := .for 4 (.var 1) [s2_11_4]
noncomputable def s2_11_6 : MS := .ret (.var 3)
noncomputable def d2_11 : FnDef := { vars := ["base", "word", "few", "power", "letter"], np := 2, bis := false, body := [s2_11_0, s2_11_2, s2_11_3, s2_11_5, s2_11_6] }
noncomputable def s2_12_0 : MS := .assign 2 (.slice (.var 1) (.const .none) (.const .none) (.const .none))
noncomputable def s2_12_1 : MS := .assign 2 (.slice (.var 2) (.const (.int 1)) (.const .none) (.const .none))
noncomputable def s2_12_2 : MS := .while (.bop .And [(.cmp .NotEq (.var 2) (.list [])), (.cmp .Eq (.item (.var 2) (.const (.int 0))) (.const (.int 0)))]) [s2_12_1]
noncomputable def s2_12_3 : MS := .assign 3 (.list [(.call (.glob 4) [(.bin .Add (.bin .Pow (.const (.int 16)) (.prim .len [(.var 1)])) (.var 0))] [] []), (.call (.glob 4) [(.var 0)] [] []), (.call (.glob 4) [(.neg (.var 0))] [] [])])
noncomputable def s2_12_4 : MS := .ret (.const (.bool false))
noncomputable def s2_12_5 : MS := .ite (.cmp .NotEq (.comp [] 4 (.var 3) [(.not (.tst (.isBytes (.var 4))))] (.var 4)) (.list [])) [s2_12_4] []
noncomputable def s2_12_6 : MS := .ret (.cmp .Eq (.var 3) (.comp [] 5 (.list [(.bin .Add (.list [(.const (.int 1))]) (.var 1)), (.var 2), (.var 2)]) [] (.prim .bytes [(.comp [] 6 (.var 5) [] (.bin .Add (.const (.int 65)) (.var 6)))])))
noncomputable def d2_12 : FnDef := { vars := ["number", "figures", "bare", "words", "word", "due", "figure"], np := 2, bis := false, body := [s2_12_0, s2_12_2, s2_12_3, s2_12_5, s2_12_6] }
noncomputable def s2_13_0 : MS := .assign 1 (.list [(.bin .Mod (.bin .Mult (.const (.int 3)) (.bin .Pow (.bin .Add (.bin .Mod (.prim .sum [(.var 0)]) (.const (.int 65536))) (.const (.int 1))) (.const (.int 2)))) (.const (.int 65537))), (.bin .Mod (.bin .Mult (.const (.int 5)) (.bin .Pow (.bin .Add (.bin .Mod (.prim .sum [(.slice (.var 0) (.const .none) (.const .none) (.const (.int 2)))]) (.const (.int 65536))) (.const (.int 1))) (.const (.int 2)))) (.const (.int 65537)))])
noncomputable def s2_13_1 : MS := .assign 2 (.bin .Add (.const (.int 18)) (.bin .Mod (.prim .sum [(.slice (.var 0) (.const (.int 1)) (.const .none) (.const (.int 2)))]) (.const (.int 6))))
noncomputable def s2_13_2 : MS := .assign 3 (.comp [2] 15 (.var 1) [] (.call (.glob 7) [(.var 15), (.var 2)] [] []))
noncomputable def s2_13_3 : MS := .assign 4 (.prim .sorted [(.comp [3] 17 (.prim .range [(.var 2)]) [] (.list [(.item (.item (.var 3) (.const (.int 0))) (.var 17)), (.var 17)]))])
noncomputable def s2_13_4 : MS := .assign 5 (.prim .sorted [(.comp [3] 17 (.prim .range [(.var 2)]) [] (.list [(.item (.item (.var 3) (.const (.int 1))) (.var 17)), (.neg (.var 17))]))])
noncomputable def s2_13_5 : MS := .assign 6 (.comp [] 16 (.bin .Add (.var 4) (.var 5)) [] (.list [(.item (.var 16) (.const (.int 0))), (.neg (.item (.var 16) (.const (.int 1))))]))
noncomputable def s2_13_6 : MS := .assign 7 (.call (.glob 8) [(.var 3)] [] [])
noncomputable def s2_13_7 : MS := .ret (.const (.bool false))
noncomputable def s2_13_8 : MS := .ite (.cmp .NotEq (.var 7) (.list [(.bin .Add (.var 6) (.list [(.list [(.const (.int 0)), (.const (.int 0))])])), (.comp [] 16 (.var 6) [] (.item (.var 16) (.const (.int 0))))])) [s2_13_7] []
noncomputable def s2_13_9 : MS := .assign 8 (.bin .Add (.list [(.item (.var 1) (.const (.int 1))), (.const (.int 2))]) (.comp [] 18 (.slice (.var 0) (.const .none) (.const (.int 2)) (.const .none)) [] (.bin .Add (.bin .Mod (.var 18) (.const (.int 65536))) (.const (.int 1)))))
noncomputable def s2_13_10 : MS := .assignMut 9 []
noncomputable def s2_13_11 : MS := .assign 11 (.comp2 [1, 3, 7, 10] 19 (.var 8) 13 (.call (.glob 10) [(.var 7), (.var 3), (.var 10), (.item (.var 1) (.var 10)), (.var 19)] [] []))
noncomputable def s2_13_12 : MS := .assign 12 (.const (.int 0))
noncomputable def s2_13_13 : MS := .assign 12 (.bin .Add (.bin .Mult (.const (.int 16)) (.var 12)) (.var 13))
noncomputable def s2_13_14 : MS := .for 13 (.var 11) [s2_13_13]
noncomputable def s2_13_15 : MS := .ret (.const (.bool false))
noncomputable def s2_13_16 : MS := .ite (.not (.tst (.call (.glob 12) [(.var 12), (.var 11)] [] []))) [s2_13_15] []
noncomputable def s2_13_17 : MS := .expr (.app (.var 9) (.slice (.comp [12] 21 (.prim .range [(.prim .len [(.var 8)])]) [] (.bin .Mod (.bin .FloorDiv (.var 12) (.bin .Pow (.const (.int 65536)) (.var 21))) (.const (.int 65536)))) (.const .none) (.const .none) (.neg (.const (.int 1)))))
noncomputable def s2_13_18 : MS := .assign 14 (.slice (.call (.glob 4) [(.bin .Add (.bin .Pow (.const (.int 16)) (.prim .len [(.var 11)])) (.var 12))] [] []) (.const (.int 1)) (.const .none) (.const .none))
noncomputable def s2_13_19 : MS := .ret (.const (.bool false))
noncomputable def s2_13_20 : MS := .ite (.bop .And [(.cmp .Eq (.var 10) (.const (.int 0))), (.cmp .NotEq (.comp [1, 14] 21 (.prim .range [(.prim .len [(.var 8)])]) [] (.call (.glob 11) [(.item (.var 1) (.const (.int 0))), (.slice (.var 14) (.bin .Mult (.const (.int 4)) (.var 21)) (.bin .Add (.bin .Mult (.const (.int 4)) (.var 21)) (.const (.int 4))) (.const .none))] [] [])) (.var 8))]) [s2_13_19] []
noncomputable def s2_13_21 : MS := .for 10 (.list [(.const (.int 0)), (.const (.int 1))]) [s2_13_11, s2_13_12, s2_13_14, s2_13_16, s2_13_17, s2_13_18, s2_13_20]
noncomputable def s2_13_22 : MS := .ret (.cmp .Eq (.comp [9] 20 (.item (.var 9) (.const (.int 1))) [] (.bin .Mod (.bin .Mult (.var 20) (.item (.item (.var 9) (.const (.int 0))) (.const (.int 0)))) (.const (.int 65536)))) (.item (.var 9) (.const (.int 0))))
noncomputable def d2_13 : FnDef := { vars := ["script", "bases", "size", "spokes", "front", "rear", "due", "wheels", "numbers", "told", "part", "letters", "whole", "letter", "word", "base", "pair", "turn", "x", "number", "other", "k"], np := 1, bis := false, body := [s2_13_0, s2_13_1, s2_13_2, s2_13_3, s2_13_4, s2_13_5, s2_13_6, s2_13_8, s2_13_9, s2_13_10, s2_13_21, s2_13_22] }
noncomputable def tab2 : List FnDef := [d0_0, d0_1, d0_2, d0_3, d0_4, d0_5, d2_6, d2_7, d2_8, d2_9, d2_10, d2_11, d2_12, d2_13]
open PySem PySem.Calls PySem.W PyProof.Rows PySem.SeqAt
set_option maxRecDepth 100000
set_option linter.unusedVariables false
theorem std2 : Std tab2 := ⟨rfl, rfl, rfl, rfl, rfl, rfl⟩
noncomputable abbrev iv (l : List Nat) : List V := l.map fun (c : Nat) => V.int c
theorem iv_ints (m : List Nat) : intsOf (iv m) = some (m.map fun (c : Nat) => (c : Int)) := by
  rw [← intsOf_ints, List.map_map]; rfl
theorem iv_pure (m : List Nat) : pureVs (iv m) := pureVs_iff.mpr fun v hv => by
  obtain ⟨c, _, rfl⟩ := List.mem_map.mp hv
  trivial
theorem eq_iv (l : List Nat) : ∀ v ∈ iv l, eqok 7 v v := fun v hv => by
  obtain ⟨c, _, rfl⟩ := List.mem_map.mp hv
  exact eqok_int
theorem sl_any {mh : MH} {a : V} {l : List V} {lo hi : Option Int} {Q : V → Prop} (h : itemsOf mh a = some l) (hl : l.length ≤ lim) (h1 : nonNeg lo) (h2 : nonNeg hi) (q : Q (.list (cutL l lo hi))) : sliceW mh a lo hi none Q := by
  cases a with
  | list us => exact ⟨l, h, hl, .inl ⟨rfl, h1, h2, q⟩⟩
  | «mut» i => exact ⟨l, h, hl, .inl ⟨rfl, h1, h2, q⟩⟩
  | _ => cases h
theorem pow_cast (n : Nat) : ((16 : Int) ^ (n : Int).toNat) = ((16 ^ n : Nat) : Int) := by rw [Int.natCast_pow]; rfl
theorem pow_le20 {n : Nat} (h : n ≤ 20) : 16 ^ n ≤ 16 ^ 20 := Nat.pow_le_pow_right (by decide) h
theorem pow_big {n : Nat} (h : n ≤ 20) : 16 ^ n < big := Nat.lt_of_le_of_lt (pow_le20 h) (by decide)
theorem apB_len {ds : List Nat} : (apB ds).length = ds.length := List.length_map ..
theorem bytes_ints {ds : List Nat} (h : ∀ d ∈ ds, d < 16) : (ds.map fun d : Nat => (65 : Int) + (d : Int)).map (fun n => n.toNat.toUInt8) = apB ds := by
  rw [apB, List.map_map]
  rfl
theorem bytesE {Γ : Tab} {mh : MH} {loc : Loc} {ds : List Nat} {Q : V → MH → Prop} (h5 : loc[5]? = some (some (.list (iv ds)))) (h6 : ∀ v, (capLoc [] 6 v loc)[6]? = some (some v)) (h : ∀ d ∈ ds, d < 16) (hl : ds.length ≤ 21) (q : Q (.bytes (apB ds)) mh) :
    wpE Γ (.prim .bytes [(.comp [] 6 (.var 5) [] (.bin .Add (.const (.int 65)) (.var 6)))]) loc mh Q := by
  have hll : (iv ds).length ≤ lim := by rw [List.length_map]; exact Nat.le_trans hl (by decide)
  show varW loc[5]? _
  rw [h5]
  refine ⟨iv ds, rfl, hll, compMapA (g := fun d : Nat => V.int (65 + (d : Int))) (fun v K hK => ⟨rfl, hK⟩) (fun d hd K hK => ?_) ?_⟩
  · show varW (capLoc [] 6 (V.int (d : Int)) loc)[6]? _
    rw [h6]
    exact ⟨rfl, hK⟩
  · have e : (ds.map fun d : Nat => V.int (65 + (d : Int))) = (ds.map fun d : Nat => (65 : Int) + (d : Int)).map V.int := by rw [List.map_map]; rfl
    refine ⟨_, rfl, ds.map fun d : Nat => (65 : Int) + (d : Int), by rw [e, intsOf_ints], by rw [List.length_map]; exact Nat.le_trans hl (by decide), fun n hn => ?_, ?_⟩
    · obtain ⟨d, hd, rfl⟩ := List.mem_map.mp hn
      have := h d hd
      omega
    · rw [bytes_ints h]; exact q
theorem law_spelled {ov : Ov} {n : Nat} {ds : List Nat} {a : V} {mh : MH} {Q : V → MH → Prop} {x : Int} (h : ∀ d ∈ ds, d < 16) (hl : ds.length ≤ 20) (hx : x = val ds) (ha : itemsOf mh a = some (iv ds)) (q : Q (.bool true) mh) :
    runF tab2 ov (n + 2) 12 [.int x, a] [] mh Q := by
  subst hx
  have hll : (iv ds).length ≤ lim := by rw [List.length_map]; exact Nat.le_trans hl (by decide)
  have hv := val_lt h
  have hp := pow_le20 hl
  have h100 : (16 : Nat) ^ 20 + 16 ^ 20 < 16 ^ 100 := by decide
  refine runF_of (d := d2_12) rfl (us := [.int (val ds), a]) rfl ?_
  have fin : wpSs (runF tab2 ov (n + 1)) [s2_12_3, s2_12_5, s2_12_6] [some (.int (val ds)), some a, some (.list (iv (strip ds))), none, none, none, none] mh (outW mh.length Q) := by
    have hsl := strip_len (ds := ds)
    have hs : ∀ d ∈ strip ds, d < 16 := fun d hd => h d (strip_sub d hd)
    have hsv := strip_val h
    generalize strip ds = bs at *
    refine sAssign ?_
    dsimp only [wE_const, wE_var, wE_glob, wE_bin, wE_neg, wE_cmp, wE_ite, wE_list, wE_item, wE_slice, wE_prim, wE_app, wE_ins, wE_call, wEs_nil, wEs_cons, wC_tst, wC_not, wC_bop, wC_cmp, wCB_nil, wCB_cons, v_some, i_int, m_mut, f_fn, tp_tup, b_add, b_addb, b_addl, b_sub, b_mul, b_fd, b_mod, b_pow, c_lt, c_le, c_gt, c_is, c_isnot, t_int, t_bool, t_none, p_int, p_none, f_abs, f_int, f_divmod, f_range, sl_bytes, st_and, st_or, List.getElem?_cons_succ, List.getElem?_cons_zero, List.set_cons_zero, List.set_cons_succ, List.zip_nil_left, List.zip_cons_cons, brW, setAll_nil, setAll_cons]
    refine f_len ha hll ?_
    rw [List.length_map]
    refine ⟨⟨by decide, Int.natCast_nonneg _, Int.ofNat_le.mpr (Nat.le_trans hl (by decide))⟩, ?_⟩
    rw [pow_cast]
    refine ⟨rfl, int2ap (x := ((16 ^ ds.length + val ds : Nat) : Int)) std2 (by rw [Int.natAbs_natCast]; omega) ?_⟩
    rw [Int.natAbs_natCast, dg_shown h]
    refine ⟨rfl, int2ap (x := ((val ds : Nat) : Int)) std2 (by rw [Int.natAbs_natCast]; omega) ?_⟩
    rw [Int.natAbs_natCast, hsv]
    refine ⟨rfl, int2ap (x := -((val ds : Nat) : Int)) std2 (by rw [Int.natAbs_neg, Int.natAbs_natCast]; omega) ?_⟩
    rw [Int.natAbs_neg, Int.natAbs_natCast, hsv]
    refine ⟨(by decide : 3 ≤ lim), ?_⟩
    refine sIte ?_
    refine ⟨_, rfl, (by decide : 3 ≤ lim), compFilt (fun _ => false) id (fun v hv K hK => ?_) (fun v hv q => Bool.noConfusion q) ?_⟩
    · have hb : ∃ l, v = .bytes l := by
        rcases List.mem_cons.mp hv with e | hv
        · exact ⟨_, e⟩
        rcases List.mem_cons.mp hv with e | hv
        · exact ⟨_, e⟩
        exact ⟨_, List.mem_singleton.mp hv⟩
      obtain ⟨l, rfl⟩ := hb
      exact ⟨rfl, hK⟩
    refine ⟨Nat.zero_le _, c_nel rfl (fun v h => nomatch h) ?_⟩
    refine sNil (wNext (sRet ?_))
    refine ⟨Nat.le_of_lt (by decide : 1 < lim), _, ha, by rw [List.length_map]; show 1 + ds.length ≤ lim; exact Nat.le_trans (Nat.add_le_add_left hl 1) (by decide), ?_⟩
    refine ⟨(by decide : 3 ≤ lim), _, rfl, (by decide : 3 ≤ lim), ?_⟩
    show compW _ _ ([1 :: ds, bs, bs].map fun l => V.list (iv l)) _
    refine compMapA (g := fun l => .bytes (apB l)) (fun v K hK => ⟨rfl, hK⟩) (fun l hm K hK => ?_) ?_
    · have hl2 : (∀ d ∈ l, d < 16) ∧ l.length ≤ 21 := by
        rcases List.mem_cons.mp hm with e | hm
        · rw [e]; exact ⟨fun d hd => (List.mem_cons.mp hd).elim (fun e => e ▸ by decide) (h d), Nat.succ_le_succ hl⟩
        have e : l = bs := (List.mem_cons.mp hm).elim id List.mem_singleton.mp
        rw [e]; exact ⟨hs, by omega⟩
      exact bytesE rfl (fun v => rfl) hl2.1 hl2.2 ⟨rfl, hK⟩
    · refine c_eql rfl (fun v hv => ?_) (outRet (l := []) trivial q)
      have hb : ∃ l, v = .bytes l := by
        rcases List.mem_cons.mp hv with e | hv
        · exact ⟨_, e⟩
        rcases List.mem_cons.mp hv with e | hv
        · exact ⟨_, e⟩
        exact ⟨_, List.mem_singleton.mp hv⟩
      obtain ⟨l, rfl⟩ := hb
      exact .inl ⟨_, rfl⟩
  show wpSs _ [s2_12_0, s2_12_2, s2_12_3, s2_12_5, s2_12_6] [some (.int (val ds)), some a, none, none, none, none, none] mh _
  refine sAssign ?_
  dsimp only [wE_const, wE_var, wE_glob, wE_bin, wE_neg, wE_cmp, wE_ite, wE_list, wE_item, wE_slice, wE_prim, wE_app, wE_ins, wE_call, wEs_nil, wEs_cons, wC_tst, wC_not, wC_bop, wC_cmp, wCB_nil, wCB_cons, v_some, i_int, m_mut, f_fn, tp_tup, b_add, b_addb, b_addl, b_sub, b_mul, b_fd, b_mod, b_pow, c_lt, c_le, c_gt, c_is, c_isnot, t_int, t_bool, t_none, p_int, p_none, f_abs, f_int, f_divmod, f_range, sl_bytes, st_and, st_or, List.getElem?_cons_succ, List.getElem?_cons_zero, List.set_cons_zero, List.set_cons_succ, List.zip_nil_left, List.zip_cons_cons, brW, setAll_nil, setAll_cons]
  refine sl_any ha hll nn0 nn0 ?_
  refine sWhile (fun k loc m => ∃ b : List Nat, loc = [some (.int (val ds)), some a, some (.list (iv b)), none, none, none, none] ∧ m = mh ∧ strip b = strip ds ∧ b.length ≤ ds.length ∧ b.length = k) (k := ds.length) ⟨ds, rfl, rfl, rfl, Nat.le_refl _, rfl⟩ ?_
  rintro k _ _ ⟨b, rfl, rfl, hb, hbl, rfl⟩
  have hbll : (iv b).length ≤ lim := by rw [List.length_map]; exact Nat.le_trans hbl (Nat.le_trans hl (by decide))
  cases b with
  | nil =>
    refine ⟨Nat.zero_le _, c_nel rfl (fun v h => nomatch h) ?_⟩
    rw [← hb] at fin
    exact fin
  | cons d r =>
    refine ⟨Nat.zero_le _, ⟨.inr ⟨_, _, rfl, rfl, .inr fun p (hp : p ∈ ([] : List (V × V))) => nomatch hp⟩, br_t (fun e => nomatch e) ?_⟩⟩
    refine i_at (k := 0) rfl rfl hbll (c_eqi ⟨fun h0 => ?_, fun h0 => ?_⟩)
    · have h0 : d = 0 := Int.ofNat.inj h0
      subst h0
      refine sAssign ?_
      refine ⟨_, rfl, hbll, .inl ⟨rfl, nnN 1, nn0, ?_⟩⟩
      exact ⟨r.length, Nat.lt_succ_self _, r, rfl, rfl, hb, Nat.le_of_succ_le hbl, rfl⟩
    · have h0 : d ≠ 0 := fun e => h0 (congrArg Nat.cast e)
      rw [← hb, strip, if_neg h0] at fin
      exact fin
section
variable {Γ : Tab} {mh : MH} {ov : Ov} {n : Nat}
noncomputable def rv (p : Nat × Int) : V := .list [.int p.1, .int p.2]
theorem iv_at {l : List Nat} {j : Nat} {u : V} (h : (iv l)[j]? = some u) : ∃ w, u = .int (w : Nat) ∧ l[j]? = some w := by
  rw [List.getElem?_map] at h
  obtain ⟨w, hw, rfl⟩ := Option.map_eq_some_iff.mp h
  exact ⟨w, rfl, hw⟩
theorem ltI {x y : Nat} {P : Prop} (h : x < y ↔ P) : LtK Γ .none (.int x) (.int y) mh P := fun QB hb => keyW_none (br_iff (P' := (x : Int) < (y : Int)) (Int.ofNat_lt.trans h) hb)
theorem gtI {x y : Nat} {P : Prop} (h : y < x ↔ P) : GtK Γ .none (.int x) (.int y) mh P := fun QB hb => keyW_none (br_iff (P' := (y : Int) < (x : Int)) (Int.ofNat_lt.trans h) hb)
theorem keyF {q : Nat × Int} {K : V → MH → Prop} (h : K (.int q.1) mh) : KeyW (runF tab2 ov (n + 1)) (.fn 5) (rv q) mh K := keyW_first std2 (by decide : 2 ≤ lim) trivial h
theorem ltF {q : Nat × Int} {y : Nat} {P : Prop} (h : q.1 < y ↔ P) : LtK (runF tab2 ov (n + 1)) (.fn 5) (rv q) (.int y) mh P := fun QB hb => keyF (br_iff (P' := (q.1 : Int) < (y : Int)) (Int.ofNat_lt.trans h) hb)
theorem gtF {q : Nat × Int} {y : Nat} {P : Prop} (h : y < q.1 ↔ P) : GtK (runF tab2 ov (n + 1)) (.fn 5) (rv q) (.int y) mh P := fun QB hb => keyF (br_iff (P' := (y : Int) < (q.1 : Int)) (Int.ofNat_lt.trans h) hb)
end
open PySem PySem.Calls PySem.W PyProof.Rows PySem.SeqAt
set_option maxRecDepth 100000
set_option linter.unusedVariables false
theorem apB_ints {ds : List Nat} (h : ∀ d ∈ ds, d < 16) : (apB ds).map (fun c => V.int (c.toNat : Int)) = iv (ds.map (65 + ·)) := by
  rw [apB, iv, List.map_map, List.map_map]
  refine List.map_congr_left fun d hd => ?_
  have := h d hd
  show V.int (((65 + d).toUInt8.toNat : Nat) : Int) = V.int ((65 + d : Nat) : Int)
  congr 2
  show (65 + d) % 256 = 65 + d
  omega
noncomputable abbrev md (x : Nat) : Nat := x % 65537
theorem md_lt (x : Nat) : md x < 65537 := Nat.mod_lt _ (by decide)
theorem small {x : Nat} (h : x < 65537) : (x : Int).natAbs < big := by rw [Int.natAbs_natCast]; exact Nat.lt_trans h (by decide)
theorem mdI (x y : Nat) : ((x : Int) * (y : Int)) % 65537 = ((md (x * y) : Nat) : Int) := by
  rw [← Int.natCast_mul]; rfl
theorem mulmd {mh : MH} {x y : Nat} {Q : V → Prop} (hx : x < 65537) (hy : y < 65537) (q : Q (.int (md (x * y) : Nat))) : binW .Mult mh (.int x) (.int y) fun v => binW .Mod mh v (.int 65537) Q := by
  refine ⟨⟨small hx, small hy⟩, by decide, ?_⟩
  rw [mdI]
  exact q
theorem up_exp (t : Nat) : 2 ^ (4 * t) = 16 ^ t := by rw [Nat.pow_mul]
theorem sq_exp (x k : Nat) : md (md (x ^ k) * md (x ^ k)) = md (x ^ (k + k)) := by
  show _ % 65537 = _ % 65537
  rw [← mm, ← Nat.pow_add]
theorem mul_exp (x a b : Nat) : md (md (x ^ a) * md (x ^ b)) = md (x ^ (a + b)) := by
  show _ % 65537 = _ % 65537
  rw [← mm, ← Nat.pow_add]
theorem law_up {ov : Ov} {n x t : Nat} {mh : MH} {Q : V → MH → Prop} (hx : x < 65537) (ht : t ≤ 100) (q : Q (.int (md (x ^ 16 ^ t) : Nat)) mh) : runF tab2 ov (n + 1) 6 [.int x, .int t] [] mh Q := by
  refine runF_of (d := d2_6) rfl (us := [.int x, .int t]) rfl ?_
  show wpSs _ [s2_6_1, s2_6_2] [some (.int x), some (.int t), none] mh _
  refine sFor ?_
  refine ⟨⟨by decide, by rw [Int.natAbs_natCast]; exact Nat.lt_of_le_of_lt ht (by decide)⟩, trivial, ?_⟩
  have e4 : (4 : Int) * (t : Int) = ((4 * t : Nat) : Int) := by omega
  rw [e4]
  refine ⟨_, it_rng (by omega), forI (fun i l m => ∃ o, l = [some (.int (md (x ^ 2 ^ i) : Nat)), some (.int t), o] ∧ m = mh) ?_ ?_ ?_⟩
  · refine ⟨none, ?_, rfl⟩
    rw [Nat.pow_zero, Nat.pow_one, show md x = x from Nat.mod_eq_of_lt hx]
  · rintro i v _ _ hv ⟨o, rfl, rfl⟩
    refine sAssign ?_
    dsimp only [wE_const, wE_var, wE_glob, wE_bin, wE_neg, wE_cmp, wE_ite, wE_list, wE_item, wE_slice, wE_prim, wE_app, wE_ins, wE_call, wEs_nil, wEs_cons, wC_tst, wC_not, wC_bop, wC_cmp, wCB_nil, wCB_cons, v_some, i_int, m_mut, f_fn, tp_tup, b_add, b_addb, b_addl, b_sub, b_mul, b_fd, b_mod, b_pow, c_lt, c_le, c_gt, c_is, c_isnot, t_int, t_bool, t_none, p_int, p_none, f_abs, f_int, f_divmod, f_range, sl_bytes, st_and, st_or, List.getElem?_cons_succ, List.getElem?_cons_zero, List.set_cons_zero, List.set_cons_succ, List.zip_nil_left, List.zip_cons_cons, brW, setAll_nil, setAll_cons]
    refine ⟨⟨small (md_lt _), small (md_lt _)⟩, by decide, ?_⟩
    rw [mdI]
    refine sNil (wNext ?_)
    refine ⟨some v, ?_, rfl⟩
    rw [sq_exp, Nat.pow_succ, Nat.mul_two]
    first | done | rfl
  · rintro _ _ ⟨o, rfl, rfl⟩
    refine wNext (sRet ?_)
    rw [List.length_map, List.length_range]
    dsimp only [wE_const, wE_var, wE_glob, wE_bin, wE_neg, wE_cmp, wE_ite, wE_list, wE_item, wE_slice, wE_prim, wE_app, wE_ins, wE_call, wEs_nil, wEs_cons, wC_tst, wC_not, wC_bop, wC_cmp, wCB_nil, wCB_cons, v_some, i_int, m_mut, f_fn, tp_tup, b_add, b_addb, b_addl, b_sub, b_mul, b_fd, b_mod, b_pow, c_lt, c_le, c_gt, c_is, c_isnot, t_int, t_bool, t_none, p_int, p_none, f_abs, f_int, f_divmod, f_range, sl_bytes, st_and, st_or, List.getElem?_cons_succ, List.getElem?_cons_zero, List.set_cons_zero, List.set_cons_succ, List.zip_nil_left, List.zip_cons_cons, brW, setAll_nil, setAll_cons]
    refine outRet (l := []) trivial ?_
    rw [up_exp]
    exact q
noncomputable def sp (r k : Nat) : List Nat := (List.range k).map fun i => md (r ^ i)
theorem sp_len (r k : Nat) : (sp r k).length = k := by rw [sp, List.length_map, List.length_range]
theorem sp_at {r k i : Nat} (h : i < k) : (sp r k)[i]? = some (md (r ^ i)) := by rw [sp, List.getElem?_map, List.getElem?_range h]; rfl
theorem sp_succ (r k : Nat) : sp r (k + 1) = sp r k ++ [md (r ^ k)] := by rw [sp, List.range_succ, List.map_append]; rfl
theorem iv_len (l : List Nat) : (iv l).length = l.length := List.length_map ..
theorem iv_get {l : List Nat} {i w : Nat} (h : l[i]? = some w) : (iv l)[i]? = some (.int (w : Int)) := by rw [List.getElem?_map, h]; rfl
theorem iv_app (l : List Nat) (w : Nat) : iv l ++ [V.int (w : Int)] = iv (l ++ [w]) := by rw [iv, iv, List.map_append]; rfl
theorem i_last {mh : MH} {o : V} {vs : List V} {k : Nat} {w : V} {Q : V → Prop} (ho : itemsOf mh o = some vs) (hk : vs.length = k + 1) (hv : vs[k]? = some w) (hl : vs.length ≤ lim) (q : Q w) : itemW mh o (.int (-1)) Q :=
  ⟨vs, ho, hl, w, .inr ⟨by decide, by omega, by rw [hk, show ((-1 : Int) + ((k + 1 : Nat) : Int)).toNat = k by omega]; exact hv⟩, q⟩
theorem grow {mh : MH} {r k : Nat} {Q : V → MH → Prop} (hr : r < 65537) (hk1 : 1 ≤ k) (hk : k ≤ 100) (q : Q .none (mh ++ [iv (sp r (k + 1))])) :
    itemW (mh ++ [iv (sp r k)]) (.mut mh.length) (.int (-1)) fun v => binW .Mult (mh ++ [iv (sp r k)]) v (.int r) fun v => binW .Mod (mh ++ [iv (sp r k)]) v (.int 65537) fun q' => ∃ vs, (mh ++ [iv (sp r k)])[mh.length]? = some vs ∧ (pureV q' ∧ vs.length ≤ lim) ∧ Q .none ((mh ++ [iv (sp r k)]).set mh.length (vs ++ [q'])) := by
  obtain ⟨j, rfl⟩ : ∃ j, k = j + 1 := ⟨k - 1, by omega⟩
  have hl : (iv (sp r (j + 1))).length = j + 1 := by rw [iv_len, sp_len]
  refine i_last (k := j) last_get hl (iv_get (sp_at (Nat.lt_succ_self j))) (by rw [hl]; exact Nat.le_trans hk (by decide)) ?_
  refine mulmd (md_lt _) hr ?_
  refine ⟨_, last_get, ⟨trivial, by rw [hl]; exact Nat.le_trans hk (by decide)⟩, ?_⟩
  rw [last_set, iv_app]
  rw [sp_succ r (j + 1)] at q
  have e : md (md (r ^ j) * r) = md (r ^ (j + 1)) := by
    have := mul_exp r j 1
    rwa [Nat.pow_one, show md r = r from Nat.mod_eq_of_lt hr] at this
  rw [e]
  exact q
theorem law_spokes {ov : Ov} {n b k : Nat} {mh : MH} {Q : V → MH → Prop} (hb : b < 65537) (h1 : 1 ≤ k) (hk : k ≤ 100) (q : Q (.list (iv (sp (md (b ^ 4096)) k))) mh) : runF tab2 ov (n + 2) 7 [.int b, .int k] [] mh Q := by
  refine runF_of (d := d2_7) rfl (us := [.int b, .int k]) rfl ?_
  show wpSs _ [s2_7_0, s2_7_1, s2_7_3, s2_7_4] [some (.int b), some (.int k), none, none] mh _
  refine sAssign ?_
  refine ⟨rfl, law_up (t := 3) hb (by decide) ?_⟩
  show wpSs _ [s2_7_1, s2_7_3, s2_7_4] [some (.int b), some (.int k), some (.int (md (b ^ 4096) : Nat)), none] mh _
  have hr := md_lt (b ^ 4096)
  generalize md (b ^ 4096) = r at hr q
  refine sMut ?_
  refine ⟨⟨⟨trivial, trivial⟩, (by decide : 1 ≤ lim)⟩, ?_⟩
  refine sWhile (fun j l m => ∃ i, 1 ≤ i ∧ i ≤ k ∧ l = [some (.int b), some (.int k), some (.int r), some (.mut mh.length)] ∧ m = mh ++ [iv (sp r i)] ∧ j = k - i) (k := k - 1) ⟨1, Nat.le_refl _, h1, rfl, rfl, rfl⟩ ?_
  rintro _ _ _ ⟨i, hi1, hik, rfl, rfl, rfl⟩
  have hl : (iv (sp r i)).length = i := by rw [iv_len, sp_len]
  dsimp only [wE_const, wE_var, wE_glob, wE_bin, wE_neg, wE_cmp, wE_ite, wE_list, wE_item, wE_slice, wE_prim, wE_app, wE_ins, wE_call, wEs_nil, wEs_cons, wC_tst, wC_not, wC_bop, wC_cmp, wCB_nil, wCB_cons, v_some, i_int, m_mut, f_fn, tp_tup, b_add, b_addb, b_addl, b_sub, b_mul, b_fd, b_mod, b_pow, c_lt, c_le, c_gt, c_is, c_isnot, t_int, t_bool, t_none, p_int, p_none, f_abs, f_int, f_divmod, f_range, sl_bytes, st_and, st_or, List.getElem?_cons_succ, List.getElem?_cons_zero, List.set_cons_zero, List.set_cons_succ, List.zip_nil_left, List.zip_cons_cons, brW, setAll_nil, setAll_cons]
  refine f_len last_get (by rw [hl]; exact Nat.le_trans (Nat.le_trans hik hk) (by decide)) ?_
  rw [hl]
  rw [c_lt]
  refine br_iff (P' := (i : Int) < (k : Int)) Int.ofNat_lt ⟨fun hlt => ?_, fun hge => ?_⟩
  · refine sExpr ?_
    dsimp only [wE_const, wE_var, wE_glob, wE_bin, wE_neg, wE_cmp, wE_ite, wE_list, wE_item, wE_slice, wE_prim, wE_app, wE_ins, wE_call, wEs_nil, wEs_cons, wC_tst, wC_not, wC_bop, wC_cmp, wCB_nil, wCB_cons, v_some, i_int, m_mut, f_fn, tp_tup, b_add, b_addb, b_addl, b_sub, b_mul, b_fd, b_mod, b_pow, c_lt, c_le, c_gt, c_is, c_isnot, t_int, t_bool, t_none, p_int, p_none, f_abs, f_int, f_divmod, f_range, sl_bytes, st_and, st_or, List.getElem?_cons_succ, List.getElem?_cons_zero, List.set_cons_zero, List.set_cons_succ, List.zip_nil_left, List.zip_cons_cons, brW, setAll_nil, setAll_cons]
    refine grow (Q := fun v m => v = .none ∧ wpSs _ [] _ m _) hr hi1 (Nat.le_trans hik hk) ⟨rfl, sNil (wNext ⟨k - (i + 1), by omega, i + 1, by omega, hlt, rfl, rfl, rfl⟩)⟩
  · obtain rfl : i = k := by omega
    refine sRet ?_
    exact outMut (l := []) q
theorem law_power {ov : Ov} {n b : Nat} {ds : List Nat} {mh : MH} {Q : V → MH → Prop} (hb : b < 65537) (h : ∀ d ∈ ds, d < 16) (q : Q (.int (md (b ^ val ds) : Nat)) mh) : runF tab2 ov (n + 2) 11 [.int b, .bytes (apB ds)] [] mh Q := by
  refine runF_of (d := d2_11) rfl (us := [.int b, .bytes (apB ds)]) rfl ?_
  show wpSs _ [s2_11_0, s2_11_2, s2_11_3, s2_11_5, s2_11_6] [some (.int b), some (.bytes (apB ds)), none, none, none] mh _
  refine sMut ?_
  refine ⟨⟨⟨trivial, trivial⟩, (by decide : 1 ≤ lim)⟩, ?_⟩
  refine sWhile (fun j l m => ∃ i, 1 ≤ i ∧ i ≤ 16 ∧ l = [some (.int b), some (.bytes (apB ds)), some (.mut mh.length), none, none] ∧ m = mh ++ [iv (sp b i)] ∧ j = 16 - i) (k := 15) ⟨1, Nat.le_refl _, by decide, rfl, rfl, rfl⟩ ?_
  rintro _ _ _ ⟨i, hi1, hik, rfl, rfl, rfl⟩
  have hl : (iv (sp b i)).length = i := by rw [iv_len, sp_len]
  dsimp only [wE_const, wE_var, wE_glob, wE_bin, wE_neg, wE_cmp, wE_ite, wE_list, wE_item, wE_slice, wE_prim, wE_app, wE_ins, wE_call, wEs_nil, wEs_cons, wC_tst, wC_not, wC_bop, wC_cmp, wCB_nil, wCB_cons, v_some, i_int, m_mut, f_fn, tp_tup, b_add, b_addb, b_addl, b_sub, b_mul, b_fd, b_mod, b_pow, c_lt, c_le, c_gt, c_is, c_isnot, t_int, t_bool, t_none, p_int, p_none, f_abs, f_int, f_divmod, f_range, sl_bytes, st_and, st_or, List.getElem?_cons_succ, List.getElem?_cons_zero, List.set_cons_zero, List.set_cons_succ, List.zip_nil_left, List.zip_cons_cons, brW, setAll_nil, setAll_cons]
  refine f_len last_get (by rw [hl]; exact Nat.le_trans hik (by decide)) ?_
  rw [hl]
  rw [c_lt]
  refine br_iff (P' := (i : Int) < ((16 : Nat) : Int)) Int.ofNat_lt ⟨fun hlt => ?_, fun hge => ?_⟩
  · refine sExpr ?_
    dsimp only [wE_const, wE_var, wE_glob, wE_bin, wE_neg, wE_cmp, wE_ite, wE_list, wE_item, wE_slice, wE_prim, wE_app, wE_ins, wE_call, wEs_nil, wEs_cons, wC_tst, wC_not, wC_bop, wC_cmp, wCB_nil, wCB_cons, v_some, i_int, m_mut, f_fn, tp_tup, b_add, b_addb, b_addl, b_sub, b_mul, b_fd, b_mod, b_pow, c_lt, c_le, c_gt, c_is, c_isnot, t_int, t_bool, t_none, p_int, p_none, f_abs, f_int, f_divmod, f_range, sl_bytes, st_and, st_or, List.getElem?_cons_succ, List.getElem?_cons_zero, List.set_cons_zero, List.set_cons_succ, List.zip_nil_left, List.zip_cons_cons, brW, setAll_nil, setAll_cons]
    refine grow (Q := fun v m => v = .none ∧ wpSs _ [] _ m _) hb hi1 (Nat.le_trans hik (by decide)) ⟨rfl, sNil (wNext ⟨16 - (i + 1), by omega, i + 1, by omega, hlt, rfl, rfl, rfl⟩)⟩
  · obtain rfl : i = 16 := by omega
    refine sAssign ?_
    refine sFor ?_
    refine ⟨trivial, iv (ds.map (65 + ·)), congrArg some (apB_ints h), forI (fun i l m => ∃ o, l = [some (.int b), some (.bytes (apB ds)), some (.mut mh.length), some (.int (md (b ^ val (ds.take i)) : Nat)), o] ∧ m = mh ++ [iv (sp b 16)]) ?_ ?_ ?_⟩
    · exact ⟨none, rfl, rfl⟩
    · rintro i v _ _ hv ⟨o, rfl, rfl⟩
      obtain ⟨w, rfl, hw⟩ := iv_at hv
      rw [List.getElem?_map] at hw
      obtain ⟨d, hd, rfl⟩ := Option.map_eq_some_iff.mp hw
      have hd16 := h d (List.mem_of_getElem? hd)
      refine sAssign ?_
      refine ⟨rfl, law_up (t := 1) (md_lt _) (by decide) ?_⟩
      show itemW _ (.mut mh.length) (.int (((65 + d : Nat) : Int) - 65)) _
      rw [show ((65 + d : Nat) : Int) - 65 = (d : Int) by omega]
      refine i_at (k := d) last_get (iv_get (sp_at hd16)) (by rw [hl]; decide) ?_
      refine ⟨⟨small (md_lt _), small (md_lt _)⟩, by decide, ?_⟩
      rw [mdI]
      refine sNil (wNext ?_)
      refine ⟨some (.int ((65 + d : Nat) : Int)), ?_, rfl⟩
      have e : md (md (md (b ^ val (ds.take i)) ^ 16 ^ 1) * md (b ^ d)) = md (b ^ val (ds.take (i + 1))) := by
        obtain ⟨hi, e⟩ := List.getElem?_eq_some_iff.mp hd
        have e1 : ds.take (i + 1) = ds.take i ++ [d] := by rw [← e]; exact List.take_succ_eq_append_getElem hi
        have e2 : md (md (b ^ val (ds.take i)) ^ 16 ^ 1) = md (b ^ (16 * val (ds.take i))) := by
          show _ % 65537 = _ % 65537
          rw [pcong (b := b ^ val (ds.take i)) (Nat.mod_mod ..), ← Nat.pow_mul, Nat.mul_comm]
        rw [e2, mul_exp, e1, val_snoc]
      rw [e]
      rfl
    · rintro _ _ ⟨o, rfl, rfl⟩
      refine wNext (sRet ?_)
      dsimp only [wE_const, wE_var, wE_glob, wE_bin, wE_neg, wE_cmp, wE_ite, wE_list, wE_item, wE_slice, wE_prim, wE_app, wE_ins, wE_call, wEs_nil, wEs_cons, wC_tst, wC_not, wC_bop, wC_cmp, wCB_nil, wCB_cons, v_some, i_int, m_mut, f_fn, tp_tup, b_add, b_addb, b_addl, b_sub, b_mul, b_fd, b_mod, b_pow, c_lt, c_le, c_gt, c_is, c_isnot, t_int, t_bool, t_none, p_int, p_none, f_abs, f_int, f_divmod, f_range, sl_bytes, st_and, st_or, List.getElem?_cons_succ, List.getElem?_cons_zero, List.set_cons_zero, List.set_cons_succ, List.zip_nil_left, List.zip_cons_cons, brW, setAll_nil, setAll_cons]
      rw [show (iv (ds.map (65 + ·))).length = ds.length by rw [iv_len, List.length_map], List.take_length]
      show Q (.int _) ((mh ++ _).take mh.length)
      rw [List.take_left]
      exact q
open PySem PySem.Calls PySem.W PyProof.Rows PySem.SeqAt
set_option maxRecDepth 100000
set_option linter.unusedVariables false
noncomputable abbrev Asc2 (S : List Nat) : Prop := S.Pairwise (· ≤ ·)
noncomputable def cl (S : List Nat) (v : Nat) : Nat := S.countP fun a => decide (a < v)
noncomputable def cr (S : List Nat) (v : Nat) : Nat := S.countP fun a => decide (a ≤ v)
section
variable {S : List Nat} {v w j p : Nat}
theorem sorted_below {S : List Nat} (hs : Asc2 S) (x : Nat) : S.Pairwise fun a b => decide (b < x) = true → decide (a < x) = true :=
  hs.imp fun {a b} h q => by simp only [decide_eq_true_eq] at q ⊢; omega
theorem asc_le (hs : Asc2 S) (x : Nat) : S.Pairwise fun a b => decide (b ≤ x) = true → decide (a ≤ x) = true :=
  hs.imp fun {a b} h q => by simp only [decide_eq_true_eq] at q ⊢; omega
theorem lt_iff (hs : Asc2 S) (h : S[j]? = some w) : w < v ↔ j < cl S v := by
  have := sorted_count (sorted_below hs v) j w h
  rwa [decide_eq_true_eq] at this
theorem gt_iff (hs : Asc2 S) (h : S[j]? = some w) : v < w ↔ cr S v ≤ j := by
  have := sorted_count (asc_le hs v) j w h
  rw [decide_eq_true_eq] at this
  exact ⟨fun q => Nat.le_of_not_lt fun q' => absurd (this.mpr q') (Nat.not_le.mpr q), fun q => Nat.lt_of_not_le fun q' => absurd (this.mp q') (Nat.not_lt.mpr q)⟩
theorem cl_len : cl S v ≤ S.length := List.countP_le_length
theorem cr_len : cr S v ≤ S.length := List.countP_le_length
theorem cr_cl : cr S v = cl S v + S.countP fun a => decide (a = v) := by
  unfold cr cl
  induction S with
  | nil => rfl
  | cons a r ih =>
    rw [List.countP_cons, List.countP_cons, List.countP_cons, ih]
    simp only [decide_eq_true_eq]
    split <;> split <;> split <;> omega
end
structure Part (r k : Nat) (P : List (Nat × Int)) : Prop where
  perm : (P.map fun p => (p.1, p.2.natAbs)).Perm ((List.range k).map fun i => (md (r ^ i), i))
  asc : Asc2 (P.map (·.1))
noncomputable def Root (r : Nat) : Prop := ∀ i j, md (r ^ i) = md (r ^ j) ↔ i % 16 = j % 16
theorem rng_cnt : ∀ k, k < 24 → 18 ≤ k → ∀ d : Nat, d < 16 → (((List.range k).countP fun i => decide (i % 16 = d) : Nat) : Int) = rngSize (d : Int) (k : Int) 16 ∧ 0 < (List.range k).countP fun i => decide (i % 16 = d) := by
  unfold rngSize Builtin.Range.rangeSize
  decide +kernel
section
variable {r k : Nat} {P : List (Nat × Int)} (H : Part r k P)
include H
theorem Part.fst : (P.map (·.1)).Perm (sp r k) := by
  have := H.perm.map (·.1)
  rw [List.map_map, List.map_map] at this
  exact this
theorem Part.len : P.length = k := by
  have := H.perm.length_eq
  rwa [List.length_map, List.length_map, List.length_range] at this
theorem Part.at {i : Nat} {p : Nat × Int} (h : P[i]? = some p) : p.1 = md (r ^ p.2.natAbs) ∧ p.2.natAbs < k := by
  have := H.perm.mem_iff.mp (List.mem_map.mpr ⟨p, List.mem_of_getElem? h, rfl⟩)
  obtain ⟨i, hi, e⟩ := List.mem_map.mp this
  have e1 : md (r ^ i) = p.1 := congrArg Prod.fst e
  have e2 : i = p.2.natAbs := congrArg Prod.snd e
  rw [← e2, ← e1]
  exact ⟨rfl, List.mem_range.mp hi⟩
theorem Part.facts (R : Root r) (h18 : 18 ≤ k) (h23 : k ≤ 23) (e : Nat) :
    (((cr (P.map (·.1)) (md (r ^ e)) : Nat) : Int) - (cl (P.map (·.1)) (md (r ^ e)) : Nat) = rngSize (e % 16 : Nat) k 16 ∧ cl (P.map (·.1)) (md (r ^ e)) < cr (P.map (·.1)) (md (r ^ e))) ∧
    ∃ p, P[cl (P.map (·.1)) (md (r ^ e))]? = some p ∧ p.2.natAbs % 16 = e % 16 := by
  have hc : (P.map (·.1)).countP (fun a => decide (a = md (r ^ e))) = (List.range k).countP fun i => decide (i % 16 = e % 16) := by
    rw [H.fst.countP_eq, sp, List.countP_map]
    refine List.countP_congr fun i _ => ?_
    simp only [Function.comp_apply, decide_eq_true_eq]
    exact R i e
  obtain ⟨c1, c2⟩ := rng_cnt k (by omega) h18 (e % 16) (Nat.mod_lt _ (by decide))
  have hcr := cr_cl (S := P.map (·.1)) (v := md (r ^ e))
  rw [hc] at hcr
  have hlt : cl (P.map (·.1)) (md (r ^ e)) < cr (P.map (·.1)) (md (r ^ e)) := by omega
  refine ⟨⟨by rw [← c1]; omega, hlt⟩, ?_⟩
  have hlen := cr_len (S := P.map (·.1)) (v := md (r ^ e))
  rw [List.length_map] at hlen
  have hi : cl (P.map (·.1)) (md (r ^ e)) < P.length := by omega
  refine ⟨P[cl (P.map (·.1)) (md (r ^ e))], List.getElem?_eq_getElem hi, ?_⟩
  have g : (P.map (·.1))[cl (P.map (·.1)) (md (r ^ e))]? = some (P[cl (P.map (·.1)) (md (r ^ e))]).1 := by
    rw [List.getElem?_map, List.getElem?_eq_getElem hi]; rfl
  have g1 := lt_iff (v := md (r ^ e)) H.asc g
  have g2 := gt_iff (v := md (r ^ e)) H.asc g
  have hw : (P[cl (P.map (·.1)) (md (r ^ e))]).1 = md (r ^ e) := by omega
  obtain ⟨q1, q2⟩ := H.at (List.getElem?_eq_getElem hi)
  exact (R _ _).mp (q1.symm.trans hw)
end
open PySem PySem.Calls PySem.W PyProof.Rows PySem.SeqAt
set_option maxRecDepth 100000
set_option linter.unusedVariables false
theorem br_dec {P : Prop} [Decidable P] {QB : Bool → Prop} (q : QB (decide P)) : brW P QB := by
  by_cases h : P
  · rw [decide_eq_true h] at q; exact br_t h q
  · rw [decide_eq_false h] at q; exact br_f h q
theorem ct_lt {mh : MH} {a b : Nat} {QB : Bool → Prop} (q : QB (decide (a < b))) : cmpW .Lt mh (.int (a : Int)) (.int (b : Int)) QB := br_iff (P' := (a : Int) < (b : Int)) Int.ofNat_lt (br_dec q)
theorem mid_at {α : Type} {X L Y : List α} {lo i : Nat} {u : α} (hX : X.length = lo) (h1 : lo ≤ i) (h2 : i < lo + L.length) (h : (X ++ (L ++ Y))[i]? = some u) : L[i - lo]? = some u := by
  rw [List.getElem?_append_right (by omega), hX, List.getElem?_append_left (by omega)] at h
  exact h
theorem mid_get {α : Type} {X L Y : List α} {lo i : Nat} {u : α} (hX : X.length = lo) (h : L[i]? = some u) : (X ++ (L ++ Y))[lo + i]? = some u := by
  have hi := (List.getElem?_eq_some_iff.mp h).1
  rw [List.getElem?_append_right (by omega), hX, Nat.add_sub_cancel_left, List.getElem?_append_left hi]
  exact h
theorem bisM {mh : MH} {a hv key : V} {X L Y : List V} {lo k p : Nat} (ha : itemsOf mh a = some (X ++ (L ++ Y))) (h9 : (X ++ (L ++ Y)).length ≤ 900) (hX : X.length = lo) (hL : L.length = k) (hh : hv = .int ((lo + k : Nat) : Int) ∨ (hv = .none ∧ Y = [])) (hk : IsKey key) (hp : p ≤ k) : Bis mh a hv key (X ++ (L ++ Y)) lo (lo + k) (lo + p) := by
  refine ⟨ha, h9, ?_, Nat.le_add_right .., Nat.add_le_add_left hp _, ?_, hk⟩
  · rcases hh with e | ⟨e, rfl⟩
    · exact .inl e
    · refine .inr ⟨e, ?_⟩
      rw [List.append_nil, List.length_append, hX, hL]
  · rw [List.length_append, List.length_append, hX, hL]; omega
section
variable {X Y X' Y' : List V} {P : List (Nat × Int)} {lo k v n i : Nat} {ov : Ov} {mh : MH} {u : V}
theorem row_get {i : Nat} (h : (P.map rv)[i]? = some u) : ∃ q : Nat × Int, u = rv q ∧ (P.map (·.1))[i]? = some q.1 := by
  rw [List.getElem?_map] at h
  obtain ⟨q, hq, rfl⟩ := Option.map_eq_some_iff.mp h
  exact ⟨q, rfl, by rw [List.getElem?_map, hq]; rfl⟩
theorem ltP (ha : Asc2 (P.map (·.1))) (hX : X.length = lo) (h1 : lo ≤ i) (h2 : i < lo + P.length) (h : (X ++ (P.map rv ++ Y))[i]? = some u) : LtK (runF tab2 ov (n + 1)) (.fn 5) u (.int v) mh (i < lo + cl (P.map (·.1)) v) := by
  obtain ⟨q, rfl, g⟩ := row_get (mid_at hX h1 (by rw [List.length_map]; exact h2) h)
  exact ltF ((lt_iff ha g).trans (by omega))
theorem gtP (ha : Asc2 (P.map (·.1))) (hX : X.length = lo) (h1 : lo ≤ i) (h2 : i < lo + P.length) (h : (X ++ (P.map rv ++ Y))[i]? = some u) : GtK (runF tab2 ov (n + 1)) (.fn 5) u (.int v) mh (lo + cr (P.map (·.1)) v ≤ i) := by
  obtain ⟨q, rfl, g⟩ := row_get (mid_at hX h1 (by rw [List.length_map]; exact h2) h)
  exact gtF ((gt_iff ha g).trans (by omega))
theorem ltB {S : List Nat} (ha : Asc2 S) (hX : X.length = lo) (h1 : lo ≤ i) (h2 : i < lo + S.length) (h : (X ++ (iv S ++ Y))[i]? = some u) : LtK (runF tab2 ov n) .none u (.int v) mh (i < lo + cl S v) := by
  obtain ⟨w, rfl, g⟩ := iv_at (mid_at hX h1 (by rw [iv_len]; exact h2) h)
  exact ltI ((lt_iff ha g).trans (by omega))
theorem gtB {S : List Nat} (ha : Asc2 S) (hX : X.length = lo) (h1 : lo ≤ i) (h2 : i < lo + S.length) (h : (X ++ (iv S ++ Y))[i]? = some u) : GtK (runF tab2 ov n) .none u (.int v) mh (lo + cr S v ≤ i) := by
  obtain ⟨w, rfl, g⟩ := iv_at (mid_at hX h1 (by rw [iv_len]; exact h2) h)
  exact gtI ((gt_iff ha g).trans (by omega))
end
structure Wh (r k pt : Nat) (P : List (Nat × Int)) (W SS : V) : Prop where
  part : Part r k P
  root : Root r
  h18 : 18 ≤ k
  h23 : k ≤ 23
  hpt : pt ≤ 1
  w : ∃ X Y X' Y' : List V, W = .list [.list (X ++ (P.map rv ++ Y)), .list (X' ++ (iv (P.map (·.1)) ++ Y'))] ∧ X.length = pt * k ∧ X'.length = pt * k ∧ (pt = 0 ∨ Y' = []) ∧ (X ++ (P.map rv ++ Y)).length ≤ 900 ∧ (X' ++ (iv (P.map (·.1)) ++ Y')).length ≤ 900
  s : ∃ ss : List V, SS = .list ss ∧ ss[pt]? = some (.list (iv (sp r k))) ∧ ss.length ≤ lim
theorem cntE {op : CmpOp} {t : Nat → Bool} {Γ : Tab} {loc : Loc} {mh : MH} {Q : V → MH → Prop} {S : List Nat} {ss : List V} {pt w : Nat} (h1 : loc[1]? = some (some (.list ss))) (h2 : loc[2]? = some (some (.int pt))) (h3 : ∀ u, (capLoc [3] 11 u loc)[3]? = some (some (.int w))) (h11 : ∀ u, (capLoc [3] 11 u loc)[11]? = some (some u))
    (hss : ss[pt]? = some (.list (iv S))) (hsl : ss.length ≤ lim) (hl : S.length ≤ 900) (ht : ∀ a ∈ S, ∀ QB : Bool → Prop, QB (t a) → cmpW op mh (.int (a : Int)) (.int (w : Int)) QB) (q : Q (.int (S.countP t : Nat)) mh) :
    wpE Γ (.prim .len [(.comp [3] 11 (.item (.var 1) (.var 2)) [(.cmp op (.var 11) (.var 3))] (.var 11))]) loc mh Q := by
  show varW loc[1]? _
  rw [h1]
  show varW loc[2]? _
  rw [h2]
  have hll : (iv S).length ≤ lim := by rw [List.length_map]; exact lim900 hl
  refine i_at (k := pt) rfl hss hsl ?_
  refine ⟨iv S, rfl, hll, compFiltA t (fun a ha K hK => ?_) (fun a K hK => ?_) ?_⟩
  · show varW (capLoc [3] 11 (.int (a : Int)) loc)[11]? _
    rw [h11]
    show varW (capLoc [3] 11 (.int (a : Int)) loc)[3]? _
    rw [h3]
    refine ht a ha _ ?_
    cases q' : t a with
    | true => exact ⟨rfl, q' ▸ hK⟩
    | false => exact ⟨rfl, q' ▸ hK⟩
  · show varW (capLoc [3] 11 (.int (a : Int)) loc)[11]? _
    rw [h11]
    exact ⟨rfl, hK⟩
  · show primW mh .len [.list (iv (S.filter t))] fun v => Q v mh
    refine f_len rfl ?_ ?_
    · rw [List.length_map]; exact Nat.le_trans (List.length_filter_le ..) (lim900 hl)
    · rw [List.length_map, ← List.countP_eq_length_filter]; exact q
theorem lessE {Γ : Tab} {loc : Loc} {mh : MH} {Q : V → MH → Prop} {S : List Nat} {ss : List V} {pt w : Nat} (h1 : loc[1]? = some (some (.list ss))) (h2 : loc[2]? = some (some (.int pt))) (h3 : ∀ u, (capLoc [3] 11 u loc)[3]? = some (some (.int w))) (h11 : ∀ u, (capLoc [3] 11 u loc)[11]? = some (some u))
    (hss : ss[pt]? = some (.list (iv S))) (hsl : ss.length ≤ lim) (hl : S.length ≤ 900) (q : Q (.int (cl S w : Nat)) mh) :
    wpE Γ (.prim .len [(.comp [3] 11 (.item (.var 1) (.var 2)) [(.cmp .Lt (.var 11) (.var 3))] (.var 11))]) loc mh Q :=
  cntE (t := fun a => decide (a < w)) h1 h2 h3 h11 hss hsl hl (fun a _ QB q => ct_lt q) q
theorem law_letter {ov : Ov} {n r k pt e : Nat} {P : List (Nat × Int)} {W SS : V} {mh : MH} {Q : V → MH → Prop} (H : Wh r k pt P W SS) (q : Q (.int (e % 16 : Nat)) mh) :
    runF tab2 ov (n + 3) 9 [W, SS, .int pt, .int (md (r ^ e) : Nat)] [] mh Q := by
  obtain ⟨X, Y, X', Y', rfl, hX, hX', hY', h9, h9'⟩ := H.w
  obtain ⟨ss, rfl, hss, hsl⟩ := H.s
  obtain ⟨⟨f1, f2⟩, p, hp, hpd⟩ := H.part.facts H.root H.h18 H.h23 e
  have hk := H.h23
  have hk18 := H.h18
  have hPl := H.part.len
  have hpt := H.hpt
  have hlo : pt * k ≤ 23 := Nat.le_trans (Nat.mul_le_mul hpt hk) (by decide)
  have hc1 : cl (P.map (·.1)) (md (r ^ e)) ≤ k := by have := cl_len (S := P.map (·.1)) (v := md (r ^ e)); rwa [List.length_map, hPl] at this
  have hc2 : cr (P.map (·.1)) (md (r ^ e)) ≤ k := by have := cr_len (S := P.map (·.1)) (v := md (r ^ e)); rwa [List.length_map, hPl] at this
  have hw := md_lt (r ^ e)
  have hless : (sp r k).countP (fun a => decide (a < md (r ^ e))) = cl (P.map (·.1)) (md (r ^ e)) := (H.part.fst.countP_eq _).symm
  have hd : e % 16 < k := by have := Nat.mod_lt e (show 16 > 0 by decide); omega
  have hdw : (sp r k)[e % 16]? = some (md (r ^ e)) := by rw [sp_at hd, (H.root (e % 16) e).mpr (Nat.mod_mod ..)]
  have asc := H.part.asc
  have hspl : (iv (sp r k)).length = k := by rw [iv_len, sp_len]
  have hrl : (P.map rv).length = k := by rw [List.length_map, hPl]
  have hbl : (iv (P.map (·.1))).length = k := by rw [iv_len, List.length_map, hPl]
  have hp' : (X ++ (P.map rv ++ Y))[pt * k + cl (P.map (·.1)) (md (r ^ e))]? = some (rv p) := mid_get hX (by rw [List.getElem?_map, hp]; rfl)
  have hll1 : (X ++ (P.map rv ++ Y)).length ≤ lim := lim900 h9
  generalize md (r ^ e) = w at *
  generalize hlod : pt * k = lo at *
  have in2 : ∀ u ∈ ([V.int ((lo + cl (P.map (·.1)) w : Nat) : Int), V.int ((lo + cr (P.map (·.1)) w : Nat) : Int)] : List V), eqok 7 u u := fun u hu => (List.mem_cons.mp hu).elim (fun e => e ▸ eqok_int) fun hu => (List.mem_singleton.mp hu) ▸ eqok_int
  have fin : ∀ hv : V, (hv = .int ((lo + k : Nat) : Int) ∨ (hv = .none ∧ Y' = [])) → wpSs (runF tab2 ov (n + 2)) [s2_9_3, s2_9_4, s2_9_5, s2_9_7, s2_9_8, s2_9_10, s2_9_11] [some (.list [.list (X ++ (P.map rv ++ Y)), .list (X' ++ (iv (P.map (·.1)) ++ Y'))]), some (.list ss), some (.int pt), some (.int w), some (.int k), some (.int lo), some hv, none, none, none, none, none] mh (outW mh.length Q) := by
    intro hv hh
    refine sAssign ?_
    refine i_at (k := 0) rfl rfl (by decide : 2 ≤ lim) ?_
    refine ⟨rfl, bisL std2 (n := n + 1) (lo := lo) rfl (bisM rfl h9 hX hrl (.inl rfl) (.inr ⟨5, rfl⟩) hc1) (fun i u h1 h2 h => ltP asc hX h1 (by rw [hPl]; exact h2) h) ?_⟩
    refine i_at (k := 0) rfl rfl (by decide : 2 ≤ lim) ?_
    refine ⟨rfl, bisR std2 (n := n + 1) (lo := lo) rfl (bisM rfl h9 hX hrl (.inl rfl) (.inr ⟨5, rfl⟩) hc2) (fun i u h1 h2 h => gtP asc hX h1 (by rw [hPl]; exact h2) h) ?_⟩
    refine ⟨(by decide : 2 ≤ lim), ?_⟩
    refine sAssign ?_
    refine i_at (k := 1) rfl rfl (by decide : 2 ≤ lim) ?_
    refine ⟨rfl, bisL std2 (n := n + 1) (lo := lo) rfl (bisM rfl h9' hX' hbl hh (.inl rfl) hc1) (fun i u h1 h2 h => ltB asc hX' h1 (by rw [List.length_map, hPl]; exact h2) h) ?_⟩
    refine i_at (k := 1) rfl rfl (by decide : 2 ≤ lim) ?_
    refine ⟨rfl, bisR std2 (n := n + 1) (lo := lo) rfl (bisM rfl h9' hX' hbl hh (.inl rfl) hc2) (fun i u h1 h2 h => gtB asc hX' h1 (by rw [List.length_map, hPl]; exact h2) h) ?_⟩
    refine ⟨(by decide : 2 ≤ lim), ?_⟩
    refine sAssign ?_
    refine lessE rfl rfl (fun u => rfl) (fun u => rfl) hss hsl (by rw [sp_len]; exact Nat.le_trans hk (by decide)) ?_
    rw [show cl (sp r k) w = cl (P.map (·.1)) w from hless]
    refine sIte ?_
    refine c_nel rfl in2 ?_
    refine i_at (k := 0) rfl rfl (by decide : 2 ≤ lim) ?_
    refine c_nei (br_f (fun q => q rfl) ?_)
    refine i_at (k := 0) rfl rfl (by decide : 2 ≤ lim) ?_
    refine i_at (k := 1) rfl rfl (by decide : 2 ≤ lim) ?_
    refine br_f (by omega) ?_
    refine sNil (Γ := runF tab2 ov (n + 2)) (wNext ?_)
    refine sAssign ?_
    refine i_at (k := 0) rfl rfl (by decide : 2 ≤ lim) ?_
    refine i_at (k := 0) rfl rfl (by decide : 2 ≤ lim) ?_
    refine i_at rfl hp' hll1 ?_
    refine i_at (k := 1) rfl rfl (by decide : 2 ≤ lim) ?_
    refine ⟨by decide, ?_⟩
    rw [show ((p.2.natAbs : Nat) : Int) % 16 = ((e % 16 : Nat) : Int) by rw [← hpd]; rfl]
    refine sIte ?_
    refine i_at (k := pt) rfl hss hsl ?_
    refine i_at (k := e % 16) rfl (iv_get hdw) (by rw [hspl]; exact Nat.le_trans hk (by decide)) ?_
    refine c_nei (br_f (fun q => q rfl) ?_)
    refine i_at (k := 1) rfl rfl (by decide : 2 ≤ lim) ?_
    refine i_at (k := 0) rfl rfl (by decide : 2 ≤ lim) ?_
    refine ⟨⟨by decide, by decide⟩, ⟨by decide, by decide, ?_, ?_⟩, c_nei (br_f (fun q => q ?_) ?_)⟩
    · rw [Int.natAbs_natCast]; omega
    · rw [Int.natAbs_natCast]; omega
    · rw [← f1]; omega
    refine sNil (Γ := runF tab2 ov (n + 2)) (wNext (sRet ?_))
    exact outRet (l := []) trivial q
  refine runF_of (d := d2_9) rfl (us := [.list [.list (X ++ (P.map rv ++ Y)), .list (X' ++ (iv (P.map (·.1)) ++ Y'))], .list ss, .int pt, .int w]) rfl ?_
  show wpSs _ [s2_9_0, s2_9_1, s2_9_2, s2_9_3, s2_9_4, s2_9_5, s2_9_7, s2_9_8, s2_9_10, s2_9_11] [some (.list [.list (X ++ (P.map rv ++ Y)), .list (X' ++ (iv (P.map (·.1)) ++ Y'))]), some (.list ss), some (.int pt), some (.int w), none, none, none, none, none, none, none, none] mh _
  refine sAssign ?_
  refine i_at (k := pt) rfl hss hsl ?_
  dsimp only [wE_const, wE_var, wE_glob, wE_bin, wE_neg, wE_cmp, wE_ite, wE_list, wE_item, wE_slice, wE_prim, wE_app, wE_ins, wE_call, wEs_nil, wEs_cons, wC_tst, wC_not, wC_bop, wC_cmp, wCB_nil, wCB_cons, v_some, i_int, m_mut, f_fn, tp_tup, b_add, b_addb, b_addl, b_sub, b_mul, b_fd, b_mod, b_pow, c_lt, c_le, c_gt, c_is, c_isnot, t_int, t_bool, t_none, p_int, p_none, f_abs, f_int, f_divmod, f_range, sl_bytes, st_and, st_or, List.getElem?_cons_succ, List.getElem?_cons_zero, List.set_cons_zero, List.set_cons_succ, List.zip_nil_left, List.zip_cons_cons, brW, setAll_nil, setAll_cons]
  refine f_len rfl (by rw [hspl]; exact Nat.le_trans hk (by decide)) ?_
  rw [hspl]
  refine sAssign ?_
  refine ⟨⟨small (by omega), small (by omega)⟩, ?_⟩
  rw [← Int.natCast_mul, hlod]
  refine sAssign ?_
  refine c_eqi ⟨fun h0 => ?_, fun h0 => ?_⟩
  · have h0 : pt = 0 := Int.ofNat.inj h0
    subst h0
    refine fin (.int k) (.inl ?_)
    rw [← hlod, Nat.zero_mul, Nat.zero_add]
  · have h0 : pt ≠ 0 := fun e => h0 (by rw [e]; rfl)
    exact fin .none (.inr ⟨rfl, hY'.resolve_left h0⟩)
open PySem PySem.Calls PySem.W PyProof.Rows PySem.SeqAt
set_option maxRecDepth 100000
set_option linter.unusedVariables false
theorem Gen.per {g : Nat} (h : Gen g) (x y : Nat) : md (g ^ (x + 65536 * y)) = md (g ^ x) := (h.eq_iff _ _).mpr (Nat.add_mul_mod_self_left ..)
theorem mdpow (b x y : Nat) : md (md (b ^ x) ^ y) = md (b ^ (x * y)) := by
  show _ % 65537 = _ % 65537
  rw [pcong (b := b ^ x) (Nat.mod_mod ..), ← Nat.pow_mul]
theorem it_rngI {mh : MH} {n : Nat} (h : n ≤ 2 ^ 40) : iterItems mh (.rng 0 (n : Int) 1) = some ((List.range n).map fun (i : Nat) => V.int i) := it_rng h
theorem divide {Γ : Tab} {mh : MH} {d x y : Nat} {b : Nat} {QS : Fl → Loc → MH → Prop} {ss : List MS} {l0 l1 l2 l3 o6 l7 l8 : Option V} (hd : d ≤ 16)
    (q : ∀ o6, wpSs Γ ss [l0, l1, l2, l3, some (.int (md (b ^ (x + d * y)) : Nat)), some (.int (md (b ^ y) : Nat)), o6, l7, l8, some (.int d)] mh QS) :
    wpSs Γ (s2_10_7 :: ss) [l0, l1, l2, l3, some (.int (md (b ^ x) : Nat)), some (.int (md (b ^ y) : Nat)), o6, l7, l8, some (.int d)] mh QS := by
  refine sFor ?_
  refine ⟨trivial, _, it_rngI (Nat.le_trans hd (by decide)), forI (fun i l m => ∃ o6, l = [l0, l1, l2, l3, some (.int (md (b ^ (x + i * y)) : Nat)), some (.int (md (b ^ y) : Nat)), o6, l7, l8, some (.int d)] ∧ m = mh) ?_ ?_ ?_⟩
  · exact ⟨o6, by rw [Nat.zero_mul, Nat.add_zero], rfl⟩
  · rintro i v _ _ hv ⟨o, rfl, rfl⟩
    refine sAssign ?_
    dsimp only [wE_const, wE_var, wE_glob, wE_bin, wE_neg, wE_cmp, wE_ite, wE_list, wE_item, wE_slice, wE_prim, wE_app, wE_ins, wE_call, wEs_nil, wEs_cons, wC_tst, wC_not, wC_bop, wC_cmp, wCB_nil, wCB_cons, v_some, i_int, m_mut, f_fn, tp_tup, b_add, b_addb, b_addl, b_sub, b_mul, b_fd, b_mod, b_pow, c_lt, c_le, c_gt, c_is, c_isnot, t_int, t_bool, t_none, p_int, p_none, f_abs, f_int, f_divmod, f_range, sl_bytes, st_and, st_or, List.getElem?_cons_succ, List.getElem?_cons_zero, List.set_cons_zero, List.set_cons_succ, List.zip_nil_left, List.zip_cons_cons, brW, setAll_nil, setAll_cons]
    refine ⟨⟨small (md_lt _), small (md_lt _)⟩, by decide, ?_⟩
    rw [mdI]
    refine sNil (wNext ?_)
    refine ⟨some v, ?_, rfl⟩
    rw [mul_exp, show x + i * y + y = x + (i + 1) * y by rw [Nat.succ_mul, Nat.add_assoc]]
  · rintro _ _ ⟨o, rfl, rfl⟩
    refine wNext ?_
    rw [List.length_map, List.length_range]
    exact q o
section
variable {ov : Ov} {n b k pt e : Nat} {P : List (Nat × Int)} {W SS : V} {mh : MH}
noncomputable def LogI (W SS : V) (pt b e : Nat) (mh : MH) (j : Nat) (l : Loc) (m : MH) : Prop :=
  ∃ L : List Nat, ∃ l3 o6 o8 o9 : Option V, l = [some W, some SS, some (.int pt), l3, some (.int (md (b ^ (16 ^ j * (e / 16 ^ j))) : Nat)), some (.int (md (b ^ (65535 * 16 ^ j)) : Nat)), o6, some (.list (iv L)), o8, o9] ∧ m = mh ∧
    L.length = j ∧ (∀ d ∈ L, d < 16) ∧ val L = e % 16 ^ j
theorem digit_step (e j : Nat) : 16 ^ j * (e / 16 ^ j) + e / 16 ^ j % 16 * (65535 * 16 ^ j) = 16 ^ (j + 1) * (e / 16 ^ (j + 1)) + 65536 * (e / 16 ^ j % 16 * 16 ^ j) := by
  have e1 : e / 16 ^ (j + 1) = e / 16 ^ j / 16 := by rw [Nat.pow_succ, Nat.div_div_eq_div_mul]
  rw [e1, Nat.pow_succ]
  generalize e / 16 ^ j = m
  generalize 16 ^ j = c
  have : m = 16 * (m / 16) + m % 16 := (Nat.div_add_mod ..).symm
  generalize m / 16 = a at *
  generalize m % 16 = d at *
  subst this
  have h1 : c * (16 * a + d) = c * 16 * a + c * d := by rw [Nat.mul_add, Nat.mul_assoc]
  have h2 : d * (65535 * c) = 65535 * (c * d) := by rw [Nat.mul_comm d, Nat.mul_assoc]
  have h3 : 65536 * (d * c) = 65536 * (c * d) := by rw [Nat.mul_comm d]
  rw [h1, h2, h3]
  omega
theorem val_digit (e j : Nat) {L : List Nat} (hl : L.length = j) (hv : val L = e % 16 ^ j) : val (e / 16 ^ j % 16 :: L) = e % 16 ^ (j + 1) := by
  rw [val_cons, hl, hv, Nat.pow_succ, Nat.mod_mul, Nat.mul_comm, Nat.add_comm]
theorem logTurn (hG : Gen b) (H : Wh (md (b ^ 4096)) k pt P W SS) {j : Nat} (hj : j < 4) {l : Loc} {m : MH} {Q : Fl → Loc → MH → Prop} (I : LogI W SS pt b e mh j l m) (hq : ∀ l m, LogI W SS pt b e mh (j + 1) l m → Q .next l m) :
    wpSs (runF tab2 ov (n + 3)) [s2_10_5, s2_10_7, s2_10_8, s2_10_9] (l.set 8 (some (.int (j : Int)))) m Q := by
  obtain ⟨L, l3, o6, o8, o9, rfl, rfl, hL, h16, hv⟩ := I
  refine sAssign ?_
  dsimp only [wE_const, wE_var, wE_glob, wE_bin, wE_neg, wE_cmp, wE_ite, wE_list, wE_item, wE_slice, wE_prim, wE_app, wE_ins, wE_call, wEs_nil, wEs_cons, wC_tst, wC_not, wC_bop, wC_cmp, wCB_nil, wCB_cons, v_some, i_int, m_mut, f_fn, tp_tup, b_add, b_addb, b_addl, b_sub, b_mul, b_fd, b_mod, b_pow, c_lt, c_le, c_gt, c_is, c_isnot, t_int, t_bool, t_none, p_int, p_none, f_abs, f_int, f_divmod, f_range, sl_bytes, st_and, st_or, List.getElem?_cons_succ, List.getElem?_cons_zero, List.set_cons_zero, List.set_cons_succ, List.zip_nil_left, List.zip_cons_cons, brW, setAll_nil, setAll_cons]
  rw [show (3 : Int) - (j : Int) = ((3 - j : Nat) : Int) by omega]
  refine ⟨rfl, law_up (t := 3 - j) (md_lt _) (by omega) ?_⟩
  have ex : md (md (b ^ (16 ^ j * (e / 16 ^ j))) ^ 16 ^ (3 - j)) = md (md (b ^ 4096) ^ (e / 16 ^ j)) := by
    have c : 16 ^ j * 16 ^ (3 - j) = 4096 := by rw [← Nat.pow_add, show j + (3 - j) = 3 by omega]
    rw [mdpow, mdpow, Nat.mul_right_comm, c]
  rw [ex]
  refine ⟨rfl, law_letter (n := n) H ?_⟩
  have hd := Nat.mod_lt (e / 16 ^ j) (show 16 > 0 by decide)
  show wpSs _ (s2_10_7 :: [s2_10_8, s2_10_9]) [some W, some SS, some (.int pt), l3, some (.int (md (b ^ (16 ^ j * (e / 16 ^ j))) : Nat)), some (.int (md (b ^ (65535 * 16 ^ j)) : Nat)), o6, some (.list (iv L)), some (.int (j : Int)), some (.int ((e / 16 ^ j % 16 : Nat) : Int))] m Q
  refine divide (by omega) fun o6 => ?_
  rw [digit_step, hG.per]
  refine sAssign ?_
  refine ⟨rfl, law_up (t := 1) (md_lt _) (by decide) ?_⟩
  rw [mdpow, show 65535 * 16 ^ j * 16 ^ 1 = 65535 * 16 ^ (j + 1) by rw [Nat.mul_assoc, ← Nat.pow_add]]
  refine sAssign ?_
  refine ⟨(by decide : 1 ≤ lim), iv L, rfl, ?_, ?_⟩
  · show 1 + (iv L).length ≤ lim
    rw [iv_len, hL]
    exact Nat.le_trans (Nat.add_le_add_left (Nat.le_of_lt hj) 1) (by decide)
  · refine sNil (Γ := runF tab2 ov (n + 3)) (hq _ _ ⟨e / 16 ^ j % 16 :: L, l3, o6, _, _, rfl, rfl, by rw [List.length_cons, hL], fun d h => ?_, val_digit e j hL hv⟩)
    exact (List.mem_cons.mp h).elim (fun e => e ▸ hd) (h16 d)
theorem law_logarithm {Q : V → MH → Prop} (hG : Gen b) (hb : b < 65537) (H : Wh (md (b ^ 4096)) k pt P W SS) (he : e < 65536) (q : Q (.list (iv (pad 4 e))) mh) :
    runF tab2 ov (n + 4) 10 [W, SS, .int pt, .int b, .int (md (b ^ e) : Nat)] [] mh Q := by
  refine runF_of (d := d2_10) rfl (us := [W, SS, .int pt, .int b, .int (md (b ^ e) : Nat)]) rfl ?_
  show wpSs _ [s2_10_0, s2_10_3, s2_10_4, s2_10_10, s2_10_11] [some W, some SS, some (.int pt), some (.int b), some (.int (md (b ^ e) : Nat)), none, none, none, none, none] mh _
  refine sAssign ?_
  refine sFor ?_
  refine ⟨trivial, _, it_rngI (n := 16) (by decide), forI (fun i l m => ∃ o6, l = [some W, some SS, some (.int pt), some (.int (md (b ^ 2 ^ i) : Nat)), some (.int (md (b ^ e) : Nat)), some (.int (md (b ^ (2 ^ i - 1)) : Nat)), o6, none, none, none] ∧ m = mh) ?_ ?_ ?_⟩
  · refine ⟨none, ?_, rfl⟩
    rw [Nat.pow_zero, Nat.pow_one, show md b = b from Nat.mod_eq_of_lt hb]
    rfl
  · rintro i v _ _ hv ⟨o, rfl, rfl⟩
    have hp : 0 < 2 ^ i := Nat.pow_pos (by decide)
    refine sAssign ?_
    dsimp only [wE_const, wE_var, wE_glob, wE_bin, wE_neg, wE_cmp, wE_ite, wE_list, wE_item, wE_slice, wE_prim, wE_app, wE_ins, wE_call, wEs_nil, wEs_cons, wC_tst, wC_not, wC_bop, wC_cmp, wCB_nil, wCB_cons, v_some, i_int, m_mut, f_fn, tp_tup, b_add, b_addb, b_addl, b_sub, b_mul, b_fd, b_mod, b_pow, c_lt, c_le, c_gt, c_is, c_isnot, t_int, t_bool, t_none, p_int, p_none, f_abs, f_int, f_divmod, f_range, sl_bytes, st_and, st_or, List.getElem?_cons_succ, List.getElem?_cons_zero, List.set_cons_zero, List.set_cons_succ, List.zip_nil_left, List.zip_cons_cons, brW, setAll_nil, setAll_cons]
    refine ⟨⟨small (md_lt _), small (md_lt _)⟩, by decide, ?_⟩
    rw [mdI, mul_exp, show 2 ^ i - 1 + 2 ^ i = 2 ^ (i + 1) - 1 by rw [Nat.pow_succ]; omega]
    refine sAssign ?_
    dsimp only [wE_const, wE_var, wE_glob, wE_bin, wE_neg, wE_cmp, wE_ite, wE_list, wE_item, wE_slice, wE_prim, wE_app, wE_ins, wE_call, wEs_nil, wEs_cons, wC_tst, wC_not, wC_bop, wC_cmp, wCB_nil, wCB_cons, v_some, i_int, m_mut, f_fn, tp_tup, b_add, b_addb, b_addl, b_sub, b_mul, b_fd, b_mod, b_pow, c_lt, c_le, c_gt, c_is, c_isnot, t_int, t_bool, t_none, p_int, p_none, f_abs, f_int, f_divmod, f_range, sl_bytes, st_and, st_or, List.getElem?_cons_succ, List.getElem?_cons_zero, List.set_cons_zero, List.set_cons_succ, List.zip_nil_left, List.zip_cons_cons, brW, setAll_nil, setAll_cons]
    refine ⟨⟨small (md_lt _), small (md_lt _)⟩, by decide, ?_⟩
    rw [mdI, mul_exp, show 2 ^ i + 2 ^ i = 2 ^ (i + 1) by rw [Nat.pow_succ]; omega]
    exact sNil (wNext ⟨some v, rfl, rfl⟩)
  · rintro _ mh' ⟨o, rfl, rfl⟩
    refine wNext ?_
    rw [List.length_map, List.length_range]
    refine sAssign ?_
    refine ⟨Nat.zero_le _, ?_⟩
    refine sFor ?_
    refine ⟨trivial, _, it_rngI (n := 4) (by decide), forI (LogI W SS pt b e mh') ?_ ?_ ?_⟩
    · refine ⟨[], some (.int (md (b ^ 2 ^ 16) : Nat)), o, none, none, ?_, rfl, rfl, (fun _ h => nomatch h), ?_⟩
      · rw [Nat.pow_zero, Nat.div_one, Nat.one_mul]
        rfl
      · rw [Nat.pow_zero, Nat.mod_one]; rfl
    · intro i v l m hv I
      rw [List.getElem?_map] at hv
      obtain ⟨j, hj, rfl⟩ := Option.map_eq_some_iff.mp hv
      obtain ⟨hi, hj⟩ := List.getElem?_eq_some_iff.mp hj
      rw [List.getElem_range] at hj
      rw [List.length_range] at hi
      subst hj
      exact logTurn hG H hi I fun l m h => wNext h
    · rintro l m ⟨L, l3, o6, o8, o9, rfl, rfl, hL, h16, hv⟩
      refine wNext (sRet ?_)
      have hL : L.length = 4 := hL
      have hv : val L = e % 16 ^ 4 := hv
      rw [Nat.mod_eq_of_lt he] at hv
      have : L = pad 4 e := by rw [← hv, pad_val 4 L hL h16]
      refine outRet (l := []) (iv_pure L) ?_
      rw [this]
      exact q
end
open PySem PySem.Calls PySem.W PyProof.Rows PySem.SeqAt
set_option maxRecDepth 100000
set_option linter.unusedVariables false
noncomputable def Rw (a b : Nat × Int) : Prop := a.1 < b.1 ∨ (a.1 = b.1 ∧ b.2 < a.2)
theorem uniq {α : Type} {R : α → α → Prop} (anti : ∀ a b, R a b → R b a → a = b) : ∀ {a b : List α}, a.Perm b → a.Pairwise R → b.Pairwise R → a = b
  | [], b, h, _, _ => (List.nil_perm.mp h).symm
  | x :: a, [], h, _, _ => nomatch h.length_eq
  | x :: a, y :: b, h, ha, hb => by
    obtain ⟨h1, h2⟩ := List.pairwise_cons.mp ha
    obtain ⟨h3, h4⟩ := List.pairwise_cons.mp hb
    have e : x = y := by
      rcases List.mem_cons.mp (h.mem_iff.mpr (.head _) : y ∈ x :: a) with e | q1
      · exact e.symm
      · rcases List.mem_cons.mp (h.mem_iff.mp (.head _) : x ∈ y :: b) with e | q2
        · exact e
        · exact anti _ _ (h1 y q1) (h3 x q2)
    subst e
    rw [uniq anti h.cons_inv h2 h4]
theorem uniqN {a b : List Nat} (h : a.Perm b) (ha : Asc2 a) (hb : Asc2 b) : a = b := uniq (fun _ _ => Nat.le_antisymm) h ha hb
theorem uniqR {a b : List (Nat × Int)} (h : a.Perm b) (ha : a.Pairwise Rw) (hb : b.Pairwise Rw) : a = b :=
  uniq (fun a b q1 q2 => by unfold Rw at q1 q2; omega) h ha hb
theorem Rw.asc {P : List (Nat × Int)} (h : P.Pairwise Rw) : Asc2 (P.map (·.1)) := List.pairwise_map.mpr (h.imp fun {a b} q => by unfold Rw at q; omega)
theorem cl_map (P : List (Nat × Int)) (w : Nat) : cl (P.map (·.1)) w = P.countP fun p => decide (p.1 < w) := List.countP_map
theorem cr_map (P : List (Nat × Int)) (w : Nat) : cr (P.map (·.1)) w = P.countP fun p => decide (p.1 ≤ w) := List.countP_map
section
variable {P : List (Nat × Int)} {w : Nat} {z : Int}
theorem layR (h : P.Pairwise Rw) (hz : ∀ p ∈ P, z < p.2) : (lay P (cr (P.map (·.1)) w) (w, z)).Pairwise Rw := by
  rw [cr_map]
  obtain ⟨t1, t2⟩ := take_P (P := fun p : Nat × Int => decide (p.1 ≤ w)) (L := P) (h.imp fun {a b} q => by unfold Rw at q; simp only [decide_eq_true_eq]; omega)
  refine pairwise_lay h (fun a ha => ?_) fun b hb => ?_
  · have q1 := t1 a ha
    have q2 := hz a (List.mem_of_mem_take ha)
    simp only [decide_eq_true_eq] at q1
    unfold Rw
    dsimp only
    omega
  · have q1 := t2 b hb
    simp only [decide_eq_true_eq] at q1
    unfold Rw
    dsimp only
    omega
theorem layL (h : P.Pairwise Rw) (hz : ∀ p ∈ P, p.2 < z) : (lay P (cl (P.map (·.1)) w) (w, z)).Pairwise Rw := by
  rw [cl_map]
  obtain ⟨t1, t2⟩ := take_P (P := fun p : Nat × Int => decide (p.1 < w)) (L := P) (h.imp fun {a b} q => by unfold Rw at q; simp only [decide_eq_true_eq]; omega)
  refine pairwise_lay h (fun a ha => ?_) fun b hb => ?_
  · have q1 := t1 a ha
    simp only [decide_eq_true_eq] at q1
    unfold Rw
    dsimp only
    omega
  · have q1 := t2 b hb
    have q2 := hz b (List.mem_of_mem_drop hb)
    simp only [decide_eq_true_eq] at q1
    unfold Rw
    dsimp only
    omega
end
section
variable {S : List Nat} {w : Nat}
theorem ascR (h : Asc2 S) : Asc2 (lay S (cr S w) w) := by
  obtain ⟨t1, t2⟩ := take_P (asc_le h w)
  refine pairwise_lay h (fun a ha => ?_) fun b hb => ?_
  · have := t1 a ha; simpa using this
  · have := t2 b hb; simp only [decide_eq_true_eq] at this; omega
theorem ascL (h : Asc2 S) : Asc2 (lay S (cl S w) w) := by
  obtain ⟨t1, t2⟩ := take_P (sorted_below h w)
  refine pairwise_lay h (fun a ha => ?_) fun b hb => ?_
  · have := t1 a ha; simp only [decide_eq_true_eq] at this; omega
  · have := t2 b hb; simp only [decide_eq_true_eq] at this; omega
theorem lay_eq {P : List (Nat × Int)} {p p' : Nat} {z : Int} (h : Asc2 (lay (P.map (·.1)) p' w)) (h' : (lay P p (w, z)).Pairwise Rw) : lay (P.map (·.1)) p' w = (lay P p (w, z)).map (·.1) := by
  refine uniqN ?_ h (Rw.asc h')
  have e : (lay P p (w, z)).map (·.1) = lay (P.map (·.1)) p w := lay_map (fun q : Nat × Int => q.1) P p (w, z)
  rw [e]
  exact (perm_lay ..).trans (perm_lay ..).symm
end
theorem mid_lay {α : Type} {X L Y : List α} {lo p : Nat} {x : α} (hX : X.length = lo) (hp : p ≤ L.length) : (X ++ (L ++ Y)).take (lo + p) ++ x :: (X ++ (L ++ Y)).drop (lo + p) = X ++ (lay L p x ++ Y) := by
  subst hX
  rw [List.take_length_add_append, List.drop_length_add_append, List.take_append_of_le_length hp, List.drop_append_of_le_length hp, lay]
  simp
section
variable {mh : MH} {a b c : List V}
theorem get0 : (mh ++ [a, b])[mh.length]? = some a := by rw [List.getElem?_append_right (Nat.le_refl _), Nat.sub_self]; rfl
theorem get1 : (mh ++ [a, b])[mh.length + 1]? = some b := by rw [List.getElem?_append_right (Nat.le_add_right mh.length 1), Nat.add_sub_cancel_left]; rfl
theorem set0 : (mh ++ [a, b]).set mh.length c = mh ++ [c, b] := by rw [List.set_append_right _ _ (Nat.le_refl _), Nat.sub_self]; rfl
theorem set1 : (mh ++ [a, b]).set (mh.length + 1) c = mh ++ [a, c] := by rw [List.set_append_right _ _ (Nat.le_add_right mh.length 1), Nat.add_sub_cancel_left]; rfl
theorem outTwo {Q : V → MH → Prop} {l : Loc} (q : Q (.list [.list a, .list b]) mh) : outW mh.length Q (.ret (.list [.mut mh.length, .mut (mh.length + 1)])) l (mh ++ [a, b]) := by
  show Q (.list [frz mh.length (mh ++ [a, b]) mh.length, frz mh.length (mh ++ [a, b]) (mh.length + 1)]) ((mh ++ [a, b]).take mh.length)
  have e1 : frz mh.length (mh ++ [a, b]) mh.length = .list a := by
    unfold frz
    rw [decide_eq_false (Nat.lt_irrefl _), get0]; rfl
  have e2 : frz mh.length (mh ++ [a, b]) (mh.length + 1) = .list b := by
    unfold frz
    rw [decide_eq_false (by omega), get1]; rfl
  rw [e1, e2, List.take_left]
  exact q
end
open PySem PySem.Calls PySem.W PyProof.Rows PySem.SeqAt
set_option maxRecDepth 100000
set_option linter.unusedVariables false
structure Lay (r0 r1 i : Nat) (A B : List (Nat × Int)) : Prop where
  pa : A.Perm ((List.range i).map fun t : Nat => (md (r0 ^ t), -(t : Int)))
  pb : B.Perm ((List.range i).map fun t : Nat => (md (r1 ^ t), (t : Int)))
  ra : A.Pairwise Rw
  rb : B.Pairwise Rw
section
variable {r0 r1 i : Nat} {A B : List (Nat × Int)} (H : Lay r0 r1 i A B)
include H
theorem Lay.la : A.length = i := by have := H.pa.length_eq; rwa [List.length_map, List.length_range] at this
theorem Lay.lb : B.length = i := by have := H.pb.length_eq; rwa [List.length_map, List.length_range] at this
theorem Lay.next : Lay r0 r1 (i + 1) (lay A (cr (A.map (·.1)) (md (r0 ^ i))) (md (r0 ^ i), -(i : Int))) (lay B (cl (B.map (·.1)) (md (r1 ^ i))) (md (r1 ^ i), (i : Int))) := by
  refine ⟨?_, ?_, layR H.ra fun p hp => ?_, layL H.rb fun p hp => ?_⟩
  · refine (perm_lay ..).trans ?_
    rw [List.range_succ, List.map_append]
    exact (List.Perm.cons _ H.pa).trans (List.perm_append_singleton ..).symm
  · refine (perm_lay ..).trans ?_
    rw [List.range_succ, List.map_append]
    exact (List.Perm.cons _ H.pb).trans (List.perm_append_singleton ..).symm
  · obtain ⟨t, ht, rfl⟩ := List.mem_map.mp (H.pa.mem_iff.mp hp)
    have := List.mem_range.mp ht
    dsimp only
    omega
  · obtain ⟨t, ht, rfl⟩ := List.mem_map.mp (H.pb.mem_iff.mp hp)
    have := List.mem_range.mp ht
    dsimp only
    omega
end
noncomputable abbrev pairsV (A B : List (Nat × Int)) : List V := A.map rv ++ (B.map rv ++ [rv (0, 0)])
noncomputable abbrev bareV (A B : List (Nat × Int)) : List V := iv (A.map (·.1)) ++ iv (B.map (·.1))
noncomputable def WhI (SS : V) (r0 r1 : Nat) (mh : MH) (i : Nat) (l : Loc) (m : MH) : Prop :=
  ∃ A B : List (Nat × Int), ∃ o1 o4 o5 o6 : Option V, l = [some SS, o1, some (.mut mh.length), some (.mut (mh.length + 1)), o4, o5, o6] ∧ m = mh ++ [pairsV A B, bareV A B] ∧ Lay r0 r1 i A B
theorem lay_rv (P : List (Nat × Int)) (p : Nat) (x : Nat × Int) : lay (P.map rv) p (rv x) = (lay P p x).map rv := (lay_map rv P p x).symm
theorem lay_ivl (l : List Nat) (p w : Nat) : lay (iv l) p (V.int (w : Int)) = iv (lay l p w) := (lay_map (fun (c : Nat) => V.int c) l p w).symm
section
variable {ov : Ov} {n : Nat} {mh : MH} {A B : List (Nat × Int)} {k i w : Nat} {z : Int} {b c : List V} {args : List V} {kws : List (Str × V)} {hv : V} {Q : V → MH → Prop}
theorem insA (hA : A.length = i) (hl : i ≤ 100) (hb : b.length ≤ 200) (ra : Asc2 (A.map (·.1))) (hbi : bindF d0_0 args kws = some [.mut mh.length, rv (w, z), .int 0, .int (i : Int), .fn 5]) (q : Q .none (mh ++ [(lay A (cr (A.map (·.1)) w) (w, z)).map rv ++ b, c])) :
    runF tab2 ov (n + 3) 0 args kws (mh ++ [A.map rv ++ b, c]) Q := by
  have hrl : (A.map rv).length = i := by rw [List.length_map, hA]
  have hc : cr (A.map (·.1)) w ≤ i := by have := cr_len (S := A.map (·.1)) (v := w); rwa [List.length_map, hA] at this
  have h9 : (([] : List V) ++ (A.map rv ++ b)).length ≤ 900 := by rw [List.nil_append, List.length_append, hrl]; omega
  refine insR std2 (n := n + 1) (lo := 0) (hi := 0 + i) (p := 0 + cr (A.map (·.1)) w) (i := mh.length) (vs := [] ++ (A.map rv ++ b)) hbi (bisM (X := []) get0 h9 rfl hrl (.inl (by rw [Nat.zero_add])) (.inr ⟨5, rfl⟩) hc) ⟨trivial, trivial, trivial⟩ (fun K hK => keyF (hK _ fun j u h1 h2 h => gtP (X := []) ra rfl h1 (by rw [hA]; exact h2) h)) ?_
  rw [mid_lay (X := []) (lo := 0) rfl (by rw [hrl]; exact hc), set0, lay_rv]
  exact q
theorem insB (hA : A.length = i + 1) (hB : B.length = i) (hl : i ≤ 100) (rb : Asc2 (B.map (·.1))) (hbi : bindF d0_2 args kws = some [.mut mh.length, rv (w, z), .int ((i + 1 : Nat) : Int), .int ((i + 1 + i : Nat) : Int), .fn 5]) (q : Q .none (mh ++ [pairsV A (lay B (cl (B.map (·.1)) w) (w, z)), c])) :
    runF tab2 ov (n + 3) 2 args kws (mh ++ [pairsV A B, c]) Q := by
  have hrl : (B.map rv).length = i := by rw [List.length_map, hB]
  have hal : (A.map rv).length = i + 1 := by rw [List.length_map, hA]
  have hc : cl (B.map (·.1)) w ≤ i := by have := cl_len (S := B.map (·.1)) (v := w); rwa [List.length_map, hB] at this
  have h9 : (pairsV A B).length ≤ 900 := by rw [List.length_append, List.length_append, hrl, hal]; show i + 1 + (i + 1) ≤ 900; omega
  refine insL std2 (n := n + 1) (lo := i + 1) (hi := i + 1 + i) (p := i + 1 + cl (B.map (·.1)) w) (i := mh.length) (vs := A.map rv ++ (B.map rv ++ [rv (0, 0)])) hbi (bisM get0 h9 hal hrl (.inl rfl) (.inr ⟨5, rfl⟩) hc) ⟨trivial, trivial, trivial⟩ (fun K hK => keyF (hK _ fun j u h1 h2 h => ltP rb hal h1 (by rw [hB]; exact h2) h)) ?_
  rw [mid_lay hal (by rw [hrl]; exact hc), set0, lay_rv]
  exact q
theorem insC {S T : List Nat} (hS : S.length = i) (hl : i ≤ 100) (hT : T.length ≤ 200) (ra : Asc2 S) (hbi : bindF d0_2 args kws = some [.mut (mh.length + 1), .int (w : Int), .int 0, .int (i : Int), .none]) (q : Q .none (mh ++ [b, iv (lay S (cl S w) w) ++ iv T])) :
    runF tab2 ov (n + 2) 2 args kws (mh ++ [b, iv S ++ iv T]) Q := by
  have hrl : (iv S).length = i := by rw [iv_len, hS]
  have hc : cl S w ≤ i := hS ▸ cl_len
  have h9 : (([] : List V) ++ (iv S ++ iv T)).length ≤ 900 := by rw [List.nil_append, List.length_append, hrl, iv_len]; omega
  refine insL std2 (n := n) (lo := 0) (hi := 0 + i) (p := 0 + cl S w) (i := mh.length + 1) (vs := [] ++ (iv S ++ iv T)) hbi (bisM (X := []) get1 h9 rfl hrl (.inl (by rw [Nat.zero_add])) (.inl rfl) hc) trivial (fun K hK => keyW_none (hK _ fun j u h1 h2 h => ltB (X := []) ra rfl h1 (by rw [hS]; exact h2) h)) ?_
  rw [mid_lay (X := []) (lo := 0) rfl (by rw [hrl]; exact hc), set1, lay_ivl]
  exact q
theorem insD {S T : List Nat} (hS : S.length = i + 1) (hT : T.length = i) (hl : i ≤ 100) (rb : Asc2 T) (hbi : bindF d0_0 args kws = some [.mut (mh.length + 1), .int (w : Int), .int ((i + 1 : Nat) : Int), .none, .none]) (q : Q .none (mh ++ [b, iv S ++ iv (lay T (cr T w) w)])) :
    runF tab2 ov (n + 2) 0 args kws (mh ++ [b, iv S ++ iv T]) Q := by
  have hrl : (iv T).length = i := by rw [iv_len, hT]
  have hal : (iv S).length = i + 1 := by rw [iv_len, hS]
  have hc : cr T w ≤ i := hT ▸ cr_len
  have e0 : iv S ++ iv T = iv S ++ (iv T ++ []) := by rw [List.append_nil]
  have h9 : (iv S ++ (iv T ++ [])).length ≤ 900 := by rw [List.append_nil, List.length_append, hrl, hal]; omega
  rw [e0]
  refine insR std2 (n := n) (lo := i + 1) (hi := i + 1 + i) (p := i + 1 + cr T w) (i := mh.length + 1) (vs := iv S ++ (iv T ++ [])) hbi (bisM get1 h9 hal hrl (.inr ⟨rfl, rfl⟩) (.inl rfl) hc) trivial (fun K hK => keyW_none (hK _ fun j u h1 h2 h => gtB rb hal h1 (by rw [hT]; exact h2) h)) ?_
  rw [mid_lay hal (by rw [hrl]; exact hc), set1, lay_ivl, List.append_nil]
  exact q
end
open PySem PySem.Calls PySem.W PyProof.Rows PySem.SeqAt
set_option maxRecDepth 100000
set_option linter.unusedVariables false
section
variable {ov : Ov} {n r0 r1 k i : Nat} {mh m : MH} {l : Loc}
noncomputable abbrev SSv (r0 r1 k : Nat) : V := .list [.list (iv (sp r0 k)), .list (iv (sp r1 k))]
theorem sp_lim {r k : Nat} (hk : k ≤ 100) : (iv (sp r k)).length ≤ lim := by rw [iv_len, sp_len]; exact Nat.le_trans hk (by decide)
theorem wheelTurn {Q : Fl → Loc → MH → Prop} (hi : i < k) (hk : k ≤ 100) (I : WhI (SSv r0 r1 k) r0 r1 mh i l m) (hq : ∀ l m, WhI (SSv r0 r1 k) r0 r1 mh (i + 1) l m → Q .next l m) :
    wpSs (runF tab2 ov (n + 3)) [s2_8_1, s2_8_2, s2_8_3, s2_8_5] (l.set 1 (some (.int (i : Int)))) m Q := by
  obtain ⟨A, B, o1, o4, o5, o6, rfl, rfl, H⟩ := I
  have hi1 : i ≤ 100 := by omega
  have hA := H.la
  have hB := H.lb
  have HN := H.next
  have hA' : (lay A (cr (A.map (·.1)) (md (r0 ^ i))) (md (r0 ^ i), -(i : Int))).length = i + 1 := HN.la
  have eA := lay_eq (z := -(i : Int)) (p := cr (A.map (·.1)) (md (r0 ^ i))) (ascL (w := md (r0 ^ i)) (Rw.asc H.ra)) HN.ra
  have eB := lay_eq (z := (i : Int)) (p := cl (B.map (·.1)) (md (r1 ^ i))) (ascR (w := md (r1 ^ i)) (Rw.asc H.rb)) HN.rb
  refine sTup ?_
  refine i_at (k := 0) rfl rfl (by decide : 2 ≤ lim) ?_
  refine i_at (k := i) rfl (iv_get (sp_at hi)) (sp_lim hk) ?_
  refine i_at (k := 1) rfl rfl (by decide : 2 ≤ lim) ?_
  refine i_at (k := i) rfl (iv_get (sp_at hi)) (sp_lim hk) ?_
  refine ⟨rfl, rfl, ?_⟩
  generalize md (r0 ^ i) = w0 at *
  generalize md (r1 ^ i) = w1 at *
  refine sAssign ?_
  refine ⟨(by decide : 2 ≤ lim), rfl, insA (w := w0) (z := -(i : Int)) (i := i) hA hi1 (by rw [List.length_append, List.length_map, hB]; show i + 1 ≤ 200; omega) (Rw.asc H.ra) rfl ?_⟩
  refine ⟨(by decide : 2 ≤ lim), ⟨by decide, small (by omega)⟩, ?_⟩
  dsimp only [wE_const, wE_var, wE_glob, wE_bin, wE_neg, wE_cmp, wE_ite, wE_list, wE_item, wE_slice, wE_prim, wE_app, wE_ins, wE_call, wEs_nil, wEs_cons, wC_tst, wC_not, wC_bop, wC_cmp, wCB_nil, wCB_cons, v_some, i_int, m_mut, f_fn, tp_tup, b_add, b_addb, b_addl, b_sub, b_mul, b_fd, b_mod, b_pow, c_lt, c_le, c_gt, c_is, c_isnot, t_int, t_bool, t_none, p_int, p_none, f_abs, f_int, f_divmod, f_range, sl_bytes, st_and, st_or, List.getElem?_cons_succ, List.getElem?_cons_zero, List.set_cons_zero, List.set_cons_succ, List.zip_nil_left, List.zip_cons_cons, brW, setAll_nil, setAll_cons]
  rw [show (2 : Int) * (i : Int) + 1 = ((i + 1 + i : Nat) : Int) by omega, show (i : Int) + 1 = ((i + 1 : Nat) : Int) by omega]
  refine ⟨rfl, insB (w := w1) (z := (i : Int)) (i := i) hA' hB hi1 (Rw.asc H.rb) rfl ?_⟩
  refine ⟨(by decide : 2 ≤ lim), ?_⟩
  refine sAssign ?_
  refine ⟨rfl, insC (w := w0) (i := i) (S := A.map (·.1)) (T := B.map (·.1)) (by rw [List.length_map, hA]) hi1 (by rw [List.length_map, hB]; omega) (Rw.asc H.ra) rfl ?_⟩
  rw [eA]
  dsimp only [wE_const, wE_var, wE_glob, wE_bin, wE_neg, wE_cmp, wE_ite, wE_list, wE_item, wE_slice, wE_prim, wE_app, wE_ins, wE_call, wEs_nil, wEs_cons, wC_tst, wC_not, wC_bop, wC_cmp, wCB_nil, wCB_cons, v_some, i_int, m_mut, f_fn, tp_tup, b_add, b_addb, b_addl, b_sub, b_mul, b_fd, b_mod, b_pow, c_lt, c_le, c_gt, c_is, c_isnot, t_int, t_bool, t_none, p_int, p_none, f_abs, f_int, f_divmod, f_range, sl_bytes, st_and, st_or, List.getElem?_cons_succ, List.getElem?_cons_zero, List.set_cons_zero, List.set_cons_succ, List.zip_nil_left, List.zip_cons_cons, brW, setAll_nil, setAll_cons]
  rw [show (i : Int) + 1 = ((i + 1 : Nat) : Int) by omega]
  refine ⟨rfl, insD (w := w1) (i := i) (T := B.map (·.1)) (by rw [List.length_map]; exact hA') (by rw [List.length_map, hB]) hi1 (Rw.asc H.rb) rfl ?_⟩
  rw [eB]
  refine ⟨(by decide : 2 ≤ lim), _, rfl, (by decide : 4 ≤ lim), ?_⟩
  refine sIte ?_
  refine ⟨(by decide : 4 ≤ lim), c_nel rfl (fun v hv => ?_) ?_⟩
  · have : v = .none := by
      rcases List.mem_cons.mp hv with e | hv
      · exact e
      rcases List.mem_cons.mp hv with e | hv
      · exact e
      rcases List.mem_cons.mp hv with e | hv
      · exact e
      exact List.mem_singleton.mp hv
    subst this
    exact .inl rfl
  refine sNil (Γ := runF tab2 ov (n + 3)) (wNext (sNil (Γ := runF tab2 ov (n + 3)) (hq _ _ ⟨_, _, _, _, _, _, rfl, rfl, HN⟩)))
theorem law_wheels {Q : V → MH → Prop} (hk : k ≤ 100) (q : ∀ A B, Lay r0 r1 k A B → Q (.list [.list (pairsV A B), .list (bareV A B)]) mh) : runF tab2 ov (n + 4) 8 [SSv r0 r1 k] [] mh Q := by
  refine runF_of (d := d2_8) rfl (us := [SSv r0 r1 k]) rfl ?_
  show wpSs _ [s2_8_0, s2_8_6, s2_8_7] [some (SSv r0 r1 k), none, none, none, none, none, none] mh _
  refine sTup ?_
  refine ⟨(by decide : 2 ≤ lim), ⟨⟨⟨trivial, trivial, trivial⟩, trivial⟩, (by decide : 1 ≤ lim)⟩, ⟨trivial, Nat.zero_le _⟩, rfl, rfl, ?_⟩
  have e0 : ((mh ++ [[V.list [.int 0, .int 0]]]) ++ [[]]) = mh ++ [pairsV [] [], bareV [] []] := by rw [List.append_assoc]; rfl
  rw [e0, List.length_append]
  refine sFor ?_
  refine i_at (k := 0) rfl rfl (by decide : 2 ≤ lim) ?_
  dsimp only [wE_const, wE_var, wE_glob, wE_bin, wE_neg, wE_cmp, wE_ite, wE_list, wE_item, wE_slice, wE_prim, wE_app, wE_ins, wE_call, wEs_nil, wEs_cons, wC_tst, wC_not, wC_bop, wC_cmp, wCB_nil, wCB_cons, v_some, i_int, m_mut, f_fn, tp_tup, b_add, b_addb, b_addl, b_sub, b_mul, b_fd, b_mod, b_pow, c_lt, c_le, c_gt, c_is, c_isnot, t_int, t_bool, t_none, p_int, p_none, f_abs, f_int, f_divmod, f_range, sl_bytes, st_and, st_or, List.getElem?_cons_succ, List.getElem?_cons_zero, List.set_cons_zero, List.set_cons_succ, List.zip_nil_left, List.zip_cons_cons, brW, setAll_nil, setAll_cons]
  refine f_len rfl (sp_lim hk) ?_
  rw [iv_len, sp_len]
  refine ⟨trivial, _, it_rngI (Nat.le_trans hk (by decide)), forI (WhI (SSv r0 r1 k) r0 r1 mh) ?_ ?_ ?_⟩
  · exact ⟨[], [], none, none, none, none, rfl, rfl, .nil, .nil, .nil, .nil⟩
  · intro i v l m hv I
    rw [List.getElem?_map] at hv
    obtain ⟨j, hj, rfl⟩ := Option.map_eq_some_iff.mp hv
    obtain ⟨hi, hj⟩ := List.getElem?_eq_some_iff.mp hj
    rw [List.getElem_range] at hj
    rw [List.length_range] at hi
    subst hj
    exact wheelTurn hi hk I fun l m h => wNext h
  · rintro l m ⟨A, B, o1, o4, o5, o6, rfl, rfl, H⟩
    rw [List.length_map, List.length_range] at H
    refine wNext (sRet ?_)
    refine ⟨(by decide : 2 ≤ lim), ?_⟩
    exact outTwo (q A B H)
end
open PySem PySem.Calls PySem.W PyProof.Rows PySem.SeqAt
set_option maxRecDepth 100000
set_option linter.unusedVariables false
theorem pickL_map {α β : Type} (f : α → β) (l : List α) (lo hi st : Option Int) : pickL (l.map f) lo hi st = (pickL l lo hi st).map f := by
  unfold pickL
  rw [List.length_map, List.map_filterMap]
  congr 1
  funext i
  exact List.getElem?_map ..
noncomputable abbrev lets (es : List Nat) : List Nat := es.flatMap (pad 4)
theorem lets_lt (es : List Nat) : ∀ d ∈ lets es, d < 16 := fun d h => let ⟨e, _, h⟩ := List.mem_flatMap.mp h; pad_lt 4 e d h
theorem lets_len : ∀ es : List Nat, (lets es).length = 4 * es.length
  | [] => rfl
  | e :: es => by
    have := lets_len es
    show (pad 4 e ++ lets es).length = _
    rw [List.length_append, pad_len, this, List.length_cons]; omega
theorem lets_app (a b : List Nat) : lets (a ++ b) = lets a ++ lets b := List.flatMap_append ..
noncomputable def wh : List Nat → Nat
  | [] => 0
  | e :: r => wh r * 65536 + e
theorem wh_val : ∀ rs : List Nat, (∀ e ∈ rs, e < 65536) → val (lets rs.reverse) = wh rs
  | [], _ => rfl
  | e :: r, h => by
    have e1 : lets [e] = pad 4 e := List.append_nil _
    rw [List.reverse_cons, lets_app, val_app, e1, pad_len, val_pad 4 e (h e (.head _)), wh_val r fun x q => h x (.tail _ q)]
    rfl
theorem wh_digits : ∀ rs : List Nat, (∀ e ∈ rs, e < 65536) → (List.range rs.length).map (fun k => wh rs / 65536 ^ k % 65536) = rs
  | [], _ => rfl
  | e :: r, h => by
    have he := h e (.head _)
    have ih := wh_digits r fun x q => h x (.tail _ q)
    rw [List.length_cons, List.range_succ_eq_map, List.map_cons, List.map_map]
    have e0 : wh (e :: r) / 65536 ^ 0 % 65536 = e := by
      show (wh r * 65536 + e) / 65536 ^ 0 % 65536 = e
      rw [Nat.pow_zero, Nat.div_one]; omega
    have e1 : ((fun k => wh (e :: r) / 65536 ^ k % 65536) ∘ Nat.succ) = fun k => wh r / 65536 ^ k % 65536 := by
      funext k
      show (wh r * 65536 + e) / 65536 ^ (k + 1) % 65536 = _
      rw [Nat.pow_succ, Nat.mul_comm (65536 ^ k), ← Nat.div_div_eq_div_mul, show (wh r * 65536 + e) / 65536 = wh r by omega]
    rw [e0, e1, ih]
theorem whole_digits (es : List Nat) (h : ∀ e ∈ es, e < 65536) : (List.range es.length).map (fun k => val (lets es) / 65536 ^ k % 65536) = es.reverse := by
  have := wh_digits es.reverse fun e q => h e (List.mem_reverse.mp q)
  have e2 := wh_val es.reverse fun e q => h e (List.mem_reverse.mp q)
  rw [List.reverse_reverse] at e2
  rw [← e2, List.length_reverse] at this
  exact this
noncomputable abbrev revIx (n : Nat) : List Nat := sliceRange (sliceBounds none none (some (-1)) n).1 (sliceBounds none none (some (-1)) n).2.1 (sliceBounds none none (some (-1)) n).2.2
theorem revIx_eq : revIx 0 = [] ∧ revIx 1 = [0] ∧ revIx 2 = [1, 0] ∧ revIx 3 = [2, 1, 0] ∧ revIx 4 = [3, 2, 1, 0] := by decide +kernel
theorem pick_ix {α : Type} (l : List α) : pickL l none none (some (-1)) = (revIx l.length).filterMap (l[·]?) := rfl
theorem pick_rev {α : Type} (l : List α) (h : l.length ≤ 4) : pickL l none none (some (-1)) = l.reverse := by
  obtain ⟨q0, q1, q2, q3, q4⟩ := revIx_eq
  rw [pick_ix]
  match l, h with
  | [], _ => rw [show revIx ([] : List α).length = [] from q0]; rfl
  | [a], _ => rw [show revIx [a].length = [0] from q1]; rfl
  | [a, b], _ => rw [show revIx [a, b].length = [1, 0] from q2]; rfl
  | [a, b, c], _ => rw [show revIx [a, b, c].length = [2, 1, 0] from q3]; rfl
  | [a, b, c, d], _ => rw [show revIx [a, b, c, d].length = [3, 2, 1, 0] from q4]; rfl
  | _ :: _ :: _ :: _ :: _ :: _, h => simp at h
theorem lets_cut : ∀ (es : List Nat) (k e : Nat), es[k]? = some e → ((lets es).take (4 * k + 4)).drop (4 * k) = pad 4 e
  | [], _, _, h => nomatch h
  | x :: r, 0, e, h => by
    cases h
    show ((pad 4 x ++ lets r).take 4).drop 0 = _
    rw [List.drop_zero, List.take_append_of_le_length (by rw [pad_len]; exact Nat.le_refl _), List.take_of_length_le (by rw [pad_len]; exact Nat.le_refl _)]
  | x :: r, k + 1, e, h => by
    have ih := lets_cut r k e h
    have hl : (pad 4 x).length = 4 := pad_len 4 x
    show ((pad 4 x ++ lets r).take (4 * (k + 1) + 4)).drop (4 * (k + 1)) = _
    have e1 : (pad 4 x ++ lets r).take (4 * (k + 1) + 4) = pad 4 x ++ (lets r).take (4 * k + 4) := by
      have := List.take_length_add_append (l₁ := pad 4 x) (l₂ := lets r) (4 * k + 4)
      rw [← this, hl]; congr 1; omega
    have e2 : ∀ y, (pad 4 x ++ y).drop (4 * (k + 1)) = y.drop (4 * k) := fun y => by
      have := List.drop_length_add_append (l₁ := pad 4 x) (l₂ := y) (4 * k)
      rw [← this, hl]; congr 1; omega
    rw [e1, e2, ih]
theorem Gen.root {g : Nat} (h : Gen g) : Root (md (g ^ 4096)) := fun i j => by
  rw [mdpow, mdpow]
  refine (h.eq_iff _ _).trans ?_
  omega
theorem due_is {r k : Nat} {f : Nat → Int} {qs : List (Int × Int)} {A : List (Nat × Int)} (hp : qs.Perm ((List.range k).map fun i => (((md (r ^ i) : Nat) : Int), f i))) (hs : qs.Pairwise pLt)
    (pa : A.Perm ((List.range k).map fun i => (md (r ^ i), -(f i)))) (ra : A.Pairwise Rw) : (qs.map fun p => V.list [.int p.1, .int (-p.2)]) = A.map rv := by
  have hn : ∀ p ∈ qs, ((p.1.toNat : Nat) : Int) = p.1 := fun p q => by
    obtain ⟨i, _, rfl⟩ := List.mem_map.mp (hp.mem_iff.mp q)
    rfl
  have e : A = qs.map fun p => (p.1.toNat, -p.2) := by
    refine uniqR (pa.trans ?_) ra ?_
    · have := (hp.map fun p : Int × Int => (p.1.toNat, -p.2)).symm
      rw [List.map_map] at this
      exact this
    · refine List.pairwise_map.mpr (List.Pairwise.imp_of_mem ?_ hs)
      intro a b ha hb q
      have h1 := hn a ha
      have h2 := hn b hb
      unfold pLt at q
      unfold Rw
      dsimp only
      omega
  rw [e, List.map_map]
  refine List.map_congr_left fun p hp => ?_
  show _ = V.list [.int ((p.1.toNat : Nat) : Int), .int (-p.2)]
  rw [hn p hp]
open PySem PySem.Calls PySem.W PyProof.Rows PySem.SeqAt
set_option maxRecDepth 100000
set_option linter.unusedVariables false
section
variable {Γ : Tab} {loc : Loc} {mh : MH} {Q : V → MH → Prop}
theorem baseE {c : Nat} {src : ME} {ns : List Int} (hs : ∀ K : V → MH → Prop, K (.list (ns.map .int)) mh → wpE Γ src loc mh K) (hc : c ≤ 5) (q : ∀ a : Nat, 1 ≤ a → a ≤ 65536 → Q (.int ((md (c * a ^ 2) : Nat) : Int)) mh) :
    wpE Γ (.bin .Mod (.bin .Mult (.const (.int (c : Int))) (.bin .Pow (.bin .Add (.bin .Mod (.prim .sum [src]) (.const (.int 65536))) (.const (.int 1))) (.const (.int 2)))) (.const (.int 65537))) loc mh Q := by
  obtain ⟨a, ea, h1, h2⟩ : ∃ a : Nat, ns.sum % 65536 + 1 = (a : Int) ∧ 1 ≤ a ∧ a ≤ 65536 := ⟨(ns.sum % 65536 + 1).toNat, by omega, by omega, by omega⟩
  refine hs _ ?_
  refine ⟨_, rfl, ns, intsOf_ints, ?_⟩
  refine ⟨by decide, ?_⟩
  dsimp only [wE_const, wE_var, wE_glob, wE_bin, wE_neg, wE_cmp, wE_ite, wE_list, wE_item, wE_slice, wE_prim, wE_app, wE_ins, wE_call, wEs_nil, wEs_cons, wC_tst, wC_not, wC_bop, wC_cmp, wCB_nil, wCB_cons, v_some, i_int, m_mut, f_fn, tp_tup, b_add, b_addb, b_addl, b_sub, b_mul, b_fd, b_mod, b_pow, c_lt, c_le, c_gt, c_is, c_isnot, t_int, t_bool, t_none, p_int, p_none, f_abs, f_int, f_divmod, f_range, sl_bytes, st_and, st_or, List.getElem?_cons_succ, List.getElem?_cons_zero, List.set_cons_zero, List.set_cons_succ, List.zip_nil_left, List.zip_cons_cons, brW, setAll_nil, setAll_cons]
  rw [ea]
  have ha : a ^ 2 ≤ 65536 ^ 2 := Nat.pow_le_pow_left h2 2
  refine ⟨⟨by rw [Int.natAbs_natCast]; exact Nat.lt_of_le_of_lt h2 (by decide), by decide, by decide⟩, ?_⟩
  have e2 : (a : Int) ^ (2 : Int).toNat = ((a ^ 2 : Nat) : Int) := by rw [Int.natCast_pow]; rfl
  rw [e2]
  refine ⟨⟨by rw [Int.natAbs_natCast]; exact Nat.lt_of_le_of_lt hc (by decide), by rw [Int.natAbs_natCast]; exact Nat.lt_of_le_of_lt ha (by decide)⟩, by decide, ?_⟩
  rw [mdI]
  exact q a h1 h2
theorem sizeE {src : ME} {ns : List Int} (hs : ∀ K : V → MH → Prop, K (.list (ns.map .int)) mh → wpE Γ src loc mh K) (q : ∀ k : Nat, 18 ≤ k → k ≤ 23 → Q (.int (k : Int)) mh) :
    wpE Γ (.bin .Add (.const (.int 18)) (.bin .Mod (.prim .sum [src]) (.const (.int 6)))) loc mh Q := by
  obtain ⟨a, ea, h2⟩ : ∃ a : Nat, 18 + ns.sum % 6 = (a : Int) ∧ (18 ≤ a ∧ a ≤ 23) := ⟨(18 + ns.sum % 6).toNat, by omega, by omega, by omega⟩
  refine hs _ ?_
  refine ⟨_, rfl, ns, intsOf_ints, ?_⟩
  refine ⟨by decide, ?_⟩
  show Q (.int (18 + ns.sum % 6)) mh
  rw [ea]
  exact q a h2.1 h2.2
theorem partE {ns : List Int} {o : Option Int} {c : ME} (h0 : loc[0]? = some (some (.list (ns.map .int)))) (hl : ns.length ≤ 63) (hc : ∀ K : V → MH → Prop, K (match o with | none => .none | some i => .int i) mh → wpE Γ c loc mh K) : ∀ K : V → MH → Prop, K (.list ((pickL ns o none (some 2)).map .int)) mh → wpE Γ (.slice (.var 0) c (.const .none) (.const (.int 2))) loc mh K := by
  intro K hK
  show varW loc[0]? _
  rw [h0]
  refine hc _ ?_
  have hll : (ns.map V.int).length ≤ lim := by rw [List.length_map]; exact Nat.le_trans hl (by decide)
  rw [← pickL_map] at hK
  cases o with
  | none => exact ⟨_, rfl, hll, .inr ⟨2, rfl, by decide, hK⟩⟩
  | some i => exact ⟨_, rfl, hll, .inr ⟨2, rfl, by decide, hK⟩⟩
end
section
variable {ov : Ov} {n : Nat} {loc : Loc} {mh : MH} {Q : V → MH → Prop} {r0 r1 k b0 b1 : Nat}
theorem spokesE (h1 : loc[1]? = some (some (.list (iv [b0, b1])))) (h15 : ∀ u, (capLoc [2] 15 u loc)[15]? = some (some u)) (h2 : ∀ u, (capLoc [2] 15 u loc)[2]? = some (some (.int k))) (hb0 : b0 < 65537) (hb1 : b1 < 65537) (hk1 : 1 ≤ k) (hk : k ≤ 100) (q : Q (SSv (md (b0 ^ 4096)) (md (b1 ^ 4096)) k) mh) :
    wpE (runF tab2 ov (n + 2)) (.comp [2] 15 (.var 1) [] (.call (.glob 7) [(.var 15), (.var 2)] [] [])) loc mh Q := by
  show varW loc[1]? _
  rw [h1]
  refine ⟨iv [b0, b1], rfl, (by decide : 2 ≤ lim), compMapA (l := [b0, b1]) (e := fun c : Nat => V.int (c : Int)) (g := fun b => .list (iv (sp (md (b ^ 4096)) k))) (fun v K hK => ⟨rfl, hK⟩) (fun b hb K hK => ?_) q⟩
  have hb' : b < 65537 := by
    rcases List.mem_cons.mp hb with e | hb
    · exact e ▸ hb0
    · exact List.mem_singleton.mp hb ▸ hb1
  show varW (capLoc [2] 15 (.int (b : Int)) loc)[15]? _
  rw [h15]
  show varW (capLoc [2] 15 (.int (b : Int)) loc)[2]? _
  rw [h2]
  exact ⟨rfl, law_spokes hb' hk1 hk ⟨rfl, hK⟩⟩
theorem nodup_idx {f g : Nat → Int} (hg : ∀ i j, g i = g j → i = j) : ((List.range k).map fun i => (f i, g i)).Nodup := by
  refine List.pairwise_map.mpr (List.Pairwise.imp ?_ List.nodup_range)
  intro a b ne e
  exact ne (hg a b (congrArg Prod.snd e))
theorem rowE {c : Nat} {Γ : Tab} {w : ME} {f g : Nat → Int} (h2 : loc[2]? = some (some (.int k))) (hk : 18 ≤ k ∧ k ≤ 23)
    (hf : ∀ i, i < k → ∀ K : V → MH → Prop, K (.int (f i)) mh → wpE Γ (.item (.item (.var 3) (.const (.int (c : Int)))) (.var 17)) (capLoc [3] 17 (.int (i : Int)) loc) mh K) (hw : ∀ i : Nat, ∀ K : V → MH → Prop, K (.int (g i)) mh → wpE Γ w (capLoc [3] 17 (.int (i : Int)) loc) mh K)
    (hg : ∀ i j, g i = g j → i = j) (q : ∀ qs : List (Int × Int), qs.Perm ((List.range k).map fun i => (f i, g i)) → qs.Pairwise pLt → Q (.list (qs.map pairV)) mh) :
    wpE Γ (.prim .sorted [(.comp [3] 17 (.prim .range [(.var 2)]) [] (.list [(.item (.item (.var 3) (.const (.int (c : Int)))) (.var 17)), w]))]) loc mh Q := by
  show varW loc[2]? _
  rw [h2]
  refine ⟨_, it_rngI (Nat.le_trans hk.2 (by decide)), by rw [List.length_map, List.length_range]; exact Nat.le_trans hk.2 (by decide), compMapA (l := List.range k) (e := fun i : Nat => V.int (i : Int)) (g := fun i => pairV (f i, g i)) (fun v K hK => ⟨rfl, hK⟩) (fun i hi K hK => ?_) ?_⟩
  · exact hf i (List.mem_range.mp hi) _ (hw i _ ⟨(by decide : 2 ≤ lim), rfl, hK⟩)
  · refine ⟨_, rfl, (List.range k).map fun i => (f i, g i), by rw [List.map_map]; rfl, ⟨by rw [List.length_map, List.length_range]; omega, by rw [List.length_map, List.length_range]; omega, nodup_idx hg⟩, q⟩
theorem itemsS {Γ : Tab} {S : List Nat} {ss : List V} {c i w : Nat} (h3 : loc[3]? = some (some (.list ss))) (h17 : loc[17]? = some (some (.int (i : Int)))) (hss : ss[c]? = some (.list (iv S))) (hsl : ss.length ≤ lim) (hS : S[i]? = some w) (hl : S.length ≤ 900) (K : V → MH → Prop) (hK : K (.int (w : Int)) mh) :
    wpE Γ (.item (.item (.var 3) (.const (.int (c : Int)))) (.var 17)) loc mh K := by
  show varW loc[3]? _
  rw [h3]
  refine i_at (k := c) rfl hss hsl ?_
  show varW loc[17]? _
  rw [h17]
  exact i_at (k := i) rfl (iv_get hS) (by rw [iv_len]; exact lim900 hl) hK
end
open PySem PySem.Calls PySem.W PyProof.Rows PySem.SeqAt
set_option maxRecDepth 100000
set_option linter.unusedVariables false
theorem logs {b : Nat} (h : Gen b) : ∀ nums : List Nat, (∀ n ∈ nums, 1 ≤ n ∧ n ≤ 65536) → ∃ es : List Nat, nums = es.map (fun e => md (b ^ e)) ∧ ∀ e ∈ es, e < 65536
  | [], _ => ⟨[], rfl, fun _ q => nomatch q⟩
  | n :: r, hn => by
    obtain ⟨es, e1, e2⟩ := logs h r fun x q => hn x (.tail _ q)
    obtain ⟨e, he, q⟩ := h.log (hn n (.head _)).1 (hn n (.head _)).2
    exact ⟨e :: es, by rw [List.map_cons, ← e1]; exact congrArg (· :: r) q.symm, fun x hx => (List.mem_cons.mp hx).elim (fun w => w ▸ he) (e2 x)⟩
theorem logs_two {b0 b1 : Nat} (h0 : Gen b0) {es0 es1 : List Nat} (h : es0.map (fun e => md (b0 ^ e)) = es1.map (fun e => md (b1 ^ e))) (l0 : ∀ e ∈ es0, e < 65536) {c : Nat} (hc : md (b0 ^ c) = md b1) : es1.map (fun e => e * c % 65536) = es0 := by
  refine List.ext_getElem ?_ fun i h1 h2 => ?_
  · have := congrArg List.length h
    rw [List.length_map, List.length_map] at this
    rw [List.length_map, this]
  · rw [List.length_map] at h1
    rw [List.getElem_map]
    have e : (es0.map (fun e => md (b0 ^ e)))[i]? = (es1.map (fun e => md (b1 ^ e)))[i]? := by rw [h]
    rw [List.getElem?_map, List.getElem?_map, List.getElem?_eq_getElem h1, List.getElem?_eq_getElem h2] at e
    have e : md (b0 ^ es0[i]) = md (b1 ^ es1[i]) := Option.some.inj e
    have e2 : md (b1 ^ es1[i]) = md (b0 ^ (es1[i] * c)) := by
      have : b1 % 65537 = b0 ^ c % 65537 := hc.symm
      show _ % 65537 = _ % 65537
      rw [pcong this, ← Nat.pow_mul, Nat.mul_comm]
    have := (h0.eq_iff _ _).mp (e.trans e2)
    rw [Nat.mod_eq_of_lt (l0 _ (List.getElem_mem h2))] at this
    exact this.symm
section
variable {ov : Ov} {n : Nat} {loc : Loc} {mh : MH} {Q : V → MH → Prop} {k b pt c : Nat} {P : List (Nat × Int)} {W SS : V} {bs es : List Nat}
theorem lettersE (h8 : loc[8]? = some (some (.list (iv (es.map fun e => md (b ^ e)))))) (h1 : ∀ u, (capLoc [1, 3, 7, 10] 19 u loc)[1]? = some (some (.list (iv bs)))) (h3 : ∀ u, (capLoc [1, 3, 7, 10] 19 u loc)[3]? = some (some SS)) (h7 : ∀ u, (capLoc [1, 3, 7, 10] 19 u loc)[7]? = some (some W)) (h10 : ∀ u, (capLoc [1, 3, 7, 10] 19 u loc)[10]? = some (some (.int (pt : Int)))) (h19 : ∀ u, (capLoc [1, 3, 7, 10] 19 u loc)[19]? = some (some u))
    (hb : bs[pt]? = some b) (hbl : bs.length ≤ 2) (hG : Gen b) (hlt : b < 65537) (H : Wh (md (b ^ 4096)) k pt P W SS) (he : ∀ e ∈ es, e < 65536) (hl : es.length ≤ 4) (q : Q (.list (iv (lets es))) mh) :
    wpE (runF tab2 ov (n + 4)) (.comp2 [1, 3, 7, 10] 19 (.var 8) 13 (.call (.glob 10) [(.var 7), (.var 3), (.var 10), (.item (.var 1) (.var 10)), (.var 19)] [] [])) loc mh Q := by
  show varW loc[8]? _
  rw [h8]
  refine ⟨_, rfl, fun i out => out = iv (lets (es.take i)), rfl, fun i v out hv hout => ?_, fun out ho => ?_⟩
  · have hout : out = iv (lets (es.take i)) := hout
    subst hout
    obtain ⟨w, rfl, hw⟩ := iv_at hv
    rw [List.getElem?_map] at hw
    obtain ⟨e, hi, rfl⟩ := Option.map_eq_some_iff.mp hw
    obtain ⟨hil, e1⟩ := List.getElem?_eq_some_iff.mp hi
    have et : es.take (i + 1) = es.take i ++ [e] := by rw [← e1]; exact List.take_succ_eq_append_getElem hil
    show varW (capLoc [1, 3, 7, 10] 19 (.int ((md (b ^ e) : Nat) : Int)) loc)[7]? _
    rw [h7]
    show varW (capLoc [1, 3, 7, 10] 19 (.int ((md (b ^ e) : Nat) : Int)) loc)[3]? _
    rw [h3]
    show varW (capLoc [1, 3, 7, 10] 19 (.int ((md (b ^ e) : Nat) : Int)) loc)[10]? _
    rw [h10]
    show varW (capLoc [1, 3, 7, 10] 19 (.int ((md (b ^ e) : Nat) : Int)) loc)[1]? _
    rw [h1]
    show varW (capLoc [1, 3, 7, 10] 19 (.int ((md (b ^ e) : Nat) : Int)) loc)[10]? _
    rw [h10]
    refine i_at (k := pt) rfl (iv_get hb) (by rw [iv_len]; exact Nat.le_trans hbl (by decide)) ?_
    show varW (capLoc [1, 3, 7, 10] 19 (.int ((md (b ^ e) : Nat) : Int)) loc)[19]? _
    rw [h19]
    refine ⟨rfl, law_logarithm (n := n) hG hlt H (he e (List.mem_of_getElem? hi)) ⟨rfl, iv (pad 4 e), rfl, ?_, ?_⟩⟩
    · rw [iv_len, iv_len, lets_len, pad_len, List.length_take]
      have : min i es.length ≤ 4 := Nat.le_trans (Nat.min_le_right ..) hl
      have : lim ≥ 100 := by decide
      omega
    · show iv (lets (es.take i)) ++ iv (pad 4 e) = iv (lets (es.take (i + 1)))
      rw [et, lets_app, iv, iv, iv, List.map_append]
      show _ = _ ++ (pad 4 e ++ []).map _
      rw [List.append_nil]
  · have ho : out = iv (lets (es.take (iv (es.map fun e => md (b ^ e))).length)) := ho
    rw [iv_len, List.length_map, List.take_length] at ho
    rw [ho]
    exact q
theorem wholeDE {Γ : Tab} {nums : List Nat} (h8 : loc[8]? = some (some (.list (iv nums)))) (hn : nums.length = es.length) (h12 : ∀ u, (capLoc [12] 21 u loc)[12]? = some (some (.int ((val (lets es) : Nat) : Int)))) (h21 : ∀ u, (capLoc [12] 21 u loc)[21]? = some (some u)) (he : ∀ e ∈ es, e < 65536) (hl : es.length ≤ 4) (q : Q (.list (iv es)) mh) :
    wpE Γ (.slice (.comp [12] 21 (.prim .range [(.prim .len [(.var 8)])]) [] (.bin .Mod (.bin .FloorDiv (.var 12) (.bin .Pow (.const (.int 65536)) (.var 21))) (.const (.int 65536)))) (.const .none) (.const .none) (.neg (.const (.int 1)))) loc mh Q := by
  show varW loc[8]? _
  rw [h8]
  have hnl : (iv nums).length ≤ lim := by rw [iv_len, hn]; exact Nat.le_trans hl (by decide)
  dsimp only [wE_const, wE_var, wE_glob, wE_bin, wE_neg, wE_cmp, wE_ite, wE_list, wE_item, wE_slice, wE_prim, wE_app, wE_ins, wE_call, wEs_nil, wEs_cons, wC_tst, wC_not, wC_bop, wC_cmp, wCB_nil, wCB_cons, v_some, i_int, m_mut, f_fn, tp_tup, b_add, b_addb, b_addl, b_sub, b_mul, b_fd, b_mod, b_pow, c_lt, c_le, c_gt, c_is, c_isnot, t_int, t_bool, t_none, p_int, p_none, f_abs, f_int, f_divmod, f_range, sl_bytes, st_and, st_or, List.getElem?_cons_succ, List.getElem?_cons_zero, List.set_cons_zero, List.set_cons_succ, List.zip_nil_left, List.zip_cons_cons, brW, setAll_nil, setAll_cons]
  refine f_len rfl hnl ?_
  rw [iv_len, hn]
  refine ⟨_, it_rngI (Nat.le_trans hl (by decide)), by rw [List.length_map, List.length_range]; exact Nat.le_trans hl (by decide), compMapA (l := List.range es.length) (e := fun i : Nat => V.int (i : Int)) (g := fun k : Nat => V.int ((val (lets es) / 65536 ^ k % 65536 : Nat) : Int)) (fun v K hK => ⟨rfl, hK⟩) (fun i hi K hK => ?_) ?_⟩
  · have hi := List.mem_range.mp hi
    show varW (capLoc [12] 21 (.int (i : Int)) loc)[12]? _
    rw [h12]
    show varW (capLoc [12] 21 (.int (i : Int)) loc)[21]? _
    rw [h21]
    refine ⟨⟨by decide, Int.natCast_nonneg _, by omega⟩, ?_⟩
    have e2 : (65536 : Int) ^ ((i : Int)).toNat = ((65536 ^ i : Nat) : Int) := by rw [Int.natCast_pow]; rfl
    rw [e2]
    have hp : 0 < 65536 ^ i := Nat.pow_pos (by decide)
    have hp4 : 65536 ^ i ≤ 65536 ^ 4 := Nat.pow_le_pow_right (by decide) (by omega)
    refine ⟨⟨by omega, by rw [Int.natAbs_natCast]; exact Nat.lt_of_le_of_lt hp4 (by decide)⟩, by decide, rfl, hK⟩
  · have e3 : ((List.range es.length).map fun k : Nat => V.int ((val (lets es) / 65536 ^ k % 65536 : Nat) : Int)) = iv es.reverse := by rw [← whole_digits es he, iv, List.map_map]; rfl
    rw [e3]
    have hrl : (iv es.reverse).length ≤ lim := by rw [iv_len, List.length_reverse]; exact Nat.le_trans hl (by decide)
    refine ⟨_, rfl, hrl, .inr ⟨-1, rfl, by decide, ?_⟩⟩
    show Q (.list (pickL (iv es.reverse) none none (some (-1)))) mh
    rw [iv, pickL_map, pick_rev _ (by rw [List.length_reverse]; exact hl), List.reverse_reverse]
    exact q
end
open PySem PySem.Calls PySem.W PyProof.Rows PySem.SeqAt
set_option maxRecDepth 100000
set_option linter.unusedVariables false
theorem eq_pairs {α : Type} (f g : α → Int) (l : List α) : ∀ v ∈ l.map (fun p => V.list [.int (f p), .int (g p)]), eqok 6 v v := fun v hv => by
  obtain ⟨p, _, rfl⟩ := List.mem_map.mp hv
  exact eqok_list fun u hu => (List.mem_cons.mp hu).elim (fun e => e ▸ eqok_int) fun hu => List.mem_singleton.mp hu ▸ eqok_int
theorem eq_iv6 (l : List Nat) : ∀ v ∈ iv l, eqok 6 v v := fun v hv => by
  obtain ⟨c, _, rfl⟩ := List.mem_map.mp hv
  exact eqok_int
section
variable {Γ : Tab} {loc : Loc} {mh : MH} {Q : V → MH → Prop} {k : Nat} {A B : List (Nat × Int)} {q0 q1 : List (Int × Int)}
theorem dueE (h4 : loc[4]? = some (some (.list (q0.map pairV)))) (h5 : loc[5]? = some (some (.list (q1.map pairV)))) (h16 : ∀ u, (capLoc [] 16 u loc)[16]? = some (some u)) (l0 : q0.length ≤ 100) (l1 : q1.length ≤ 100) (e0 : (q0.map fun p => V.list [.int p.1, .int (-p.2)]) = A.map rv) (e1 : (q1.map fun p => V.list [.int p.1, .int (-p.2)]) = B.map rv)
    (q : Q (.list (A.map rv ++ B.map rv)) mh) : wpE Γ (.comp [] 16 (.bin .Add (.var 4) (.var 5)) [] (.list [(.item (.var 16) (.const (.int 0))), (.neg (.item (.var 16) (.const (.int 1))))])) loc mh Q := by
  show varW loc[4]? _
  rw [h4]
  show varW loc[5]? _
  rw [h5]
  have h1000 : lim ≥ 1000 := by decide
  have hll : (q0.map pairV).length + (q1.map pairV).length ≤ lim := by rw [List.length_map, List.length_map]; omega
  refine ⟨_, rfl, hll, _, rfl, by rw [List.length_append]; exact hll, ?_⟩
  rw [← List.map_append]
  refine compMapA (l := q0 ++ q1) (e := pairV) (g := fun p => V.list [.int p.1, .int (-p.2)]) (fun v K hK => ⟨rfl, hK⟩) (fun p hp K hK => ?_) ?_
  · show varW (capLoc [] 16 (pairV p) loc)[16]? _
    rw [h16]
    refine i_at (k := 0) rfl rfl (by decide : 2 ≤ lim) ?_
    show varW (capLoc [] 16 (pairV p) loc)[16]? _
    rw [h16]
    exact i_at (k := 1) rfl rfl (by decide : 2 ≤ lim) ⟨(by decide : 2 ≤ lim), rfl, hK⟩
  · rw [List.map_append, e0, e1]
    exact q
theorem checkC {QB : Bool → MH → Prop} (h7 : loc[7]? = some (some (.list [.list (pairsV A B), .list (bareV A B)]))) (h6 : loc[6]? = some (some (.list (A.map rv ++ B.map rv)))) (h16 : ∀ u, (capLoc [] 16 u loc)[16]? = some (some u)) (l0 : A.length ≤ 100) (l1 : B.length ≤ 100) (q : QB false mh) :
    wpC Γ (.cmp .NotEq (.var 7) (.list [(.bin .Add (.var 6) (.list [(.list [(.const (.int 0)), (.const (.int 0))])])), (.comp [] 16 (.var 6) [] (.item (.var 16) (.const (.int 0))))])) loc mh QB := by
  show varW loc[7]? _
  rw [h7]
  show varW loc[6]? _
  rw [h6]
  have hl : (A.map rv ++ B.map rv).length ≤ 200 := by rw [List.length_append, List.length_map, List.length_map]; omega
  have h1000 : lim ≥ 1000 := by decide
  refine ⟨(by decide : 2 ≤ lim), (by decide : 1 ≤ lim), _, rfl, by show (A.map rv ++ B.map rv).length + 1 ≤ lim; omega, ?_⟩
  show varW loc[6]? _
  rw [h6]
  refine ⟨_, rfl, by omega, ?_⟩
  rw [← List.map_append]
  refine compMapA (l := A ++ B) (e := rv) (g := fun p => V.int (p.1 : Int)) (fun v K hK => ⟨rfl, hK⟩) (fun p hp K hK => ?_) ?_
  · show varW (capLoc [] 16 (rv p) loc)[16]? _
    rw [h16]
    exact i_at (k := 0) rfl rfl (by decide : 2 ≤ lim) ⟨rfl, hK⟩
  · refine ⟨(by decide : 2 ≤ lim), c_nel ?_ ?_ q⟩
    · have e1 : pairsV A B = (A ++ B).map rv ++ [rv (0, 0)] := by rw [List.map_append, List.append_assoc]
      have e2 : bareV A B = (A ++ B).map fun p => V.int (p.1 : Int) := by
        rw [List.map_append]
        show iv (A.map (·.1)) ++ iv (B.map (·.1)) = _
        rw [iv, iv, List.map_map, List.map_map]
        rfl
      rw [e1, e2]
      rfl
    · intro v hv
      rcases List.mem_cons.mp hv with e | hv
      · subst e
        refine eqok_list fun v hv => ?_
        have e1 : pairsV A B = (A ++ (B ++ [(0, 0)])).map rv := by rw [List.map_append, List.map_append]; rfl
        rw [e1] at hv
        exact eq_pairs (fun p : Nat × Int => (p.1 : Int)) (fun p => p.2) _ v hv
      · have := List.mem_singleton.mp hv
        subst this
        refine eqok_list fun v hv => ?_
        exact (List.mem_append.mp hv).elim (eq_iv6 _ v) (eq_iv6 _ v)
theorem numbersE {ns : List Int} {b0 b1 : Nat} (h0 : loc[0]? = some (some (.list (ns.map .int)))) (h1 : loc[1]? = some (some (.list (iv [b0, b1])))) (h18 : ∀ u, (capLoc [] 18 u loc)[18]? = some (some u)) (hl : ns.length ≤ 63)
    (q : ∀ xs : List Nat, xs.length ≤ 2 → (∀ x ∈ xs, 1 ≤ x ∧ x ≤ 65536) → Q (.list (iv (b1 :: 2 :: xs))) mh) :
    wpE Γ (.bin .Add (.list [(.item (.var 1) (.const (.int 1))), (.const (.int 2))]) (.comp [] 18 (.slice (.var 0) (.const .none) (.const (.int 2)) (.const .none)) [] (.bin .Add (.bin .Mod (.var 18) (.const (.int 65536))) (.const (.int 1))))) loc mh Q := by
  show varW loc[1]? _
  rw [h1]
  refine i_at (k := 1) rfl rfl (by decide : 2 ≤ lim) ⟨(by decide : 2 ≤ lim), ?_⟩
  show varW loc[0]? _
  rw [h0]
  refine ⟨_, rfl, by rw [List.length_map]; exact Nat.le_trans hl (by decide), .inl ⟨rfl, nn0, nnN 2, ?_⟩⟩
  have e0 : cutL (ns.map V.int) none (some 2) = (ns.take 2).map V.int := by rw [List.map_take]; rfl
  rw [e0]
  have h2 : (ns.take 2).length ≤ 2 := by rw [List.length_take]; exact Nat.min_le_left ..
  refine ⟨_, rfl, by rw [List.length_map]; exact Nat.le_trans h2 (by decide), compMapA (l := ns.take 2) (e := V.int) (g := fun x => V.int (((x % 65536 + 1).toNat : Nat) : Int)) (fun v K hK => ⟨rfl, hK⟩) (fun x hx K hK => ?_) ?_⟩
  · show varW (capLoc [] 18 (.int x) loc)[18]? _
    rw [h18]
    refine ⟨by decide, rfl, ?_⟩
    rw [show (((x % 65536 + 1).toNat : Nat) : Int) = x % 65536 + 1 by omega] at hK
    exact hK
  · have q := q ((ns.take 2).map fun x => (x % 65536 + 1).toNat) (by rw [List.length_map]; exact h2) (fun x hx => by
      obtain ⟨y, _, rfl⟩ := List.mem_map.mp hx
      omega)
    refine ⟨_, rfl, ?_, ?_⟩
    · rw [List.length_map]; show 2 + (ns.take 2).length ≤ lim; exact Nat.le_trans (Nat.add_le_add_left h2 2) (by decide)
    · rw [iv, List.map_cons, List.map_cons, List.map_map] at q
      exact q
end
section
variable {ov : Ov} {n : Nat} {loc : Loc} {mh : MH} {b0 b1 : Nat} {es : List Nat}
theorem powersE {Q : V → MH → Prop} {nums : List Nat} (h8 : loc[8]? = some (some (.list (iv nums)))) (hn : nums = es.map fun e => md (b0 ^ e)) (h1 : ∀ u, (capLoc [1, 14] 21 u loc)[1]? = some (some (.list (iv [b0, b1])))) (h14 : ∀ u, (capLoc [1, 14] 21 u loc)[14]? = some (some (.bytes (apB (lets es))))) (h21 : ∀ u, (capLoc [1, 14] 21 u loc)[21]? = some (some u)) (hb : b0 < 65537) (he : ∀ e ∈ es, e < 65536) (hl : es.length ≤ 4) (q : Q (.list (iv nums)) mh) :
    wpE (runF tab2 ov (n + 2)) (.comp [1, 14] 21 (.prim .range [(.prim .len [(.var 8)])]) [] (.call (.glob 11) [(.item (.var 1) (.const (.int 0))), (.slice (.var 14) (.bin .Mult (.const (.int 4)) (.var 21)) (.bin .Add (.bin .Mult (.const (.int 4)) (.var 21)) (.const (.int 4))) (.const .none))] [] [])) loc mh Q := by
  have hnl : nums.length = es.length := by rw [hn, List.length_map]
  show varW loc[8]? _
  rw [h8]
  dsimp only [wE_const, wE_var, wE_glob, wE_bin, wE_neg, wE_cmp, wE_ite, wE_list, wE_item, wE_slice, wE_prim, wE_app, wE_ins, wE_call, wEs_nil, wEs_cons, wC_tst, wC_not, wC_bop, wC_cmp, wCB_nil, wCB_cons, v_some, i_int, m_mut, f_fn, tp_tup, b_add, b_addb, b_addl, b_sub, b_mul, b_fd, b_mod, b_pow, c_lt, c_le, c_gt, c_is, c_isnot, t_int, t_bool, t_none, p_int, p_none, f_abs, f_int, f_divmod, f_range, sl_bytes, st_and, st_or, List.getElem?_cons_succ, List.getElem?_cons_zero, List.set_cons_zero, List.set_cons_succ, List.zip_nil_left, List.zip_cons_cons, brW, setAll_nil, setAll_cons]
  refine f_len rfl (by rw [iv_len, hnl]; exact Nat.le_trans hl (by decide)) ?_
  rw [iv_len, hnl]
  refine ⟨_, it_rngI (Nat.le_trans hl (by decide)), by rw [List.length_map, List.length_range]; exact Nat.le_trans hl (by decide), compMapA (l := List.range es.length) (e := fun i : Nat => V.int (i : Int)) (g := fun i : Nat => V.int ((nums.getD i 0 : Nat) : Int)) (fun v K hK => ⟨rfl, hK⟩) (fun i hi K hK => ?_) ?_⟩
  · have hi := List.mem_range.mp hi
    have hei : es[i]? = some es[i] := List.getElem?_eq_getElem hi
    have hni : nums.getD i 0 = md (b0 ^ es[i]) := by rw [hn, List.getD_eq_getElem?_getD, List.getElem?_map, hei]; rfl
    have hlt := he _ (List.mem_of_getElem? hei)
    have hcut := lets_cut es i _ hei
    generalize es[i] = e at hni hlt hcut hei
    show varW (capLoc [1, 14] 21 (.int (i : Int)) loc)[1]? _
    rw [h1]
    refine i_at (k := 0) rfl rfl (by decide : 2 ≤ lim) ?_
    show varW (capLoc [1, 14] 21 (.int (i : Int)) loc)[14]? _
    rw [h14]
    show varW (capLoc [1, 14] 21 (.int (i : Int)) loc)[21]? _
    rw [h21]
    refine ⟨⟨by decide, small (by omega)⟩, ?_⟩
    refine ⟨⟨by decide, small (by omega)⟩, ?_⟩
    have h1000 : lim ≥ 1000 := by decide
    have hll : (apB (lets es)).length ≤ lim := by rw [apB_len, lets_len]; omega
    refine ⟨⟨rfl, nn (by omega), nn (by omega), hll⟩, ?_⟩
    have ec : cutL (apB (lets es)) (some ((4 : Int) * (i : Int))) (some ((4 : Int) * (i : Int) + 4)) = apB (pad 4 e) := by
      unfold cutL
      show ((apB (lets es)).take ((4 : Int) * (i : Int) + 4).toNat).drop ((4 : Int) * (i : Int)).toNat = _
      rw [show ((4 : Int) * (i : Int) + 4).toNat = 4 * i + 4 by omega, show ((4 : Int) * (i : Int)).toNat = 4 * i by omega]
      unfold apB
      rw [← List.map_take, ← List.map_drop, hcut]
    rw [ec]
    refine ⟨rfl, law_power (n := n) hb (fun d hd => pad_lt 4 e d hd) ?_⟩
    rw [val_pad 4 e hlt]
    rw [hni] at hK
    exact ⟨rfl, hK⟩
  · have e3 : ((List.range es.length).map fun i : Nat => V.int ((nums.getD i 0 : Nat) : Int)) = iv nums := by
      rw [← hnl]
      conv => rhs; rw [← pairs_idx 0 nums, iv, List.map_map]
      rfl
    rw [e3]
    exact q
end
open PySem PySem.Calls PySem.W PyProof.Rows PySem.SeqAt
set_option maxRecDepth 100000
set_option linter.unusedVariables false
theorem b16 : 16 ^ 16 < big := by decide
section
variable {ov : Ov} {n : Nat} {loc : Loc} {mh : MH} {b0 b1 pt : Nat} {es nums : List Nat}
theorem lets16 (hl : es.length ≤ 4) : (lets es).length ≤ 16 := by rw [lets_len]; omega
theorem val16 (hl : es.length ≤ 4) : val (lets es) < 16 ^ 16 := Nat.lt_of_lt_of_le (val_lt (lets_lt es)) (Nat.pow_le_pow_right (by decide) (lets16 hl))
theorem toldE {Γ : Tab} {Q : V → MH → Prop} {told : List V} (h9 : loc[9]? = some (some (.mut 0))) (hm : mh[0]? = some told) (ht : told.length ≤ 2) (h8 : loc[8]? = some (some (.list (iv nums)))) (hn : nums.length = es.length) (h12 : ∀ u, (capLoc [12] 21 u loc)[12]? = some (some (.int ((val (lets es) : Nat) : Int)))) (h21 : ∀ u, (capLoc [12] 21 u loc)[21]? = some (some u)) (he : ∀ e ∈ es, e < 65536) (hl : es.length ≤ 4) (q : Q .none (mh.set 0 (told ++ [.list (iv es)]))) :
    wpE Γ (.app (.var 9) (.slice (.comp [12] 21 (.prim .range [(.prim .len [(.var 8)])]) [] (.bin .Mod (.bin .FloorDiv (.var 12) (.bin .Pow (.const (.int 65536)) (.var 21))) (.const (.int 65536)))) (.const .none) (.const .none) (.neg (.const (.int 1))))) loc mh Q := by
  show varW loc[9]? _
  rw [h9]
  exact wholeDE (nums := nums) h8 hn h12 h21 he hl ⟨told, hm, ⟨iv_pure es, Nat.le_trans ht (by decide)⟩, q⟩
theorem wordE {Q : V → MH → Prop} (h11 : loc[11]? = some (some (.list (iv (lets es))))) (h12 : loc[12]? = some (some (.int ((val (lets es) : Nat) : Int)))) (hl : es.length ≤ 4) (q : Q (.bytes (apB (lets es))) mh) :
    wpE (runF tab2 ov (n + 1)) (.slice (.call (.glob 4) [(.bin .Add (.bin .Pow (.const (.int 16)) (.prim .len [(.var 11)])) (.var 12))] [] []) (.const (.int 1)) (.const .none) (.const .none)) loc mh Q := by
  dsimp only [wE_const, wE_var, wE_glob, wE_bin, wE_neg, wE_cmp, wE_ite, wE_list, wE_item, wE_slice, wE_prim, wE_app, wE_ins, wE_call, wEs_nil, wEs_cons, wC_tst, wC_not, wC_bop, wC_cmp, wCB_nil, wCB_cons, v_some, i_int, m_mut, f_fn, tp_tup, b_add, b_addb, b_addl, b_sub, b_mul, b_fd, b_mod, b_pow, c_lt, c_le, c_gt, c_is, c_isnot, t_int, t_bool, t_none, p_int, p_none, f_abs, f_int, f_divmod, f_range, sl_bytes, st_and, st_or, List.getElem?_cons_succ, List.getElem?_cons_zero, List.set_cons_zero, List.set_cons_succ, List.zip_nil_left, List.zip_cons_cons, brW, setAll_nil, setAll_cons]
  rw [h11, h12]
  dsimp only [wE_const, wE_var, wE_glob, wE_bin, wE_neg, wE_cmp, wE_ite, wE_list, wE_item, wE_slice, wE_prim, wE_app, wE_ins, wE_call, wEs_nil, wEs_cons, wC_tst, wC_not, wC_bop, wC_cmp, wCB_nil, wCB_cons, v_some, i_int, m_mut, f_fn, tp_tup, b_add, b_addb, b_addl, b_sub, b_mul, b_fd, b_mod, b_pow, c_lt, c_le, c_gt, c_is, c_isnot, t_int, t_bool, t_none, p_int, p_none, f_abs, f_int, f_divmod, f_range, sl_bytes, st_and, st_or, List.getElem?_cons_succ, List.getElem?_cons_zero, List.set_cons_zero, List.set_cons_succ, List.zip_nil_left, List.zip_cons_cons, brW, setAll_nil, setAll_cons]
  have hL := lets16 hl
  have hv := val16 hl
  have hp : 16 ^ (lets es).length ≤ 16 ^ 16 := Nat.pow_le_pow_right (by decide) hL
  have hsh := dg_shown (lets_lt es)
  generalize lets es = L at *
  refine f_len rfl (by rw [iv_len]; exact Nat.le_trans hL (by decide)) ?_
  rw [iv_len]
  refine ⟨⟨by decide, Int.natCast_nonneg _, Int.ofNat_le.mpr (Nat.le_trans hL (by decide))⟩, ?_⟩
  rw [pow_cast]
  refine ⟨rfl, int2ap (x := ((16 ^ L.length + val L : Nat) : Int)) std2 ?_ ?_⟩
  · rw [Int.natAbs_natCast]
    have : (16 : Nat) ^ 16 + 16 ^ 16 < 16 ^ 100 := by decide
    omega
  rw [Int.natAbs_natCast, hsh]
  have hl1 : (apB (1 :: L)).length ≤ lim := by rw [apB_len]; exact Nat.le_trans (Nat.succ_le_succ hL) (by decide)
  exact ⟨⟨rfl, nnN 1, nn0, hl1⟩, q⟩
theorem powersC {QB : Bool → MH → Prop} (h8 : loc[8]? = some (some (.list (iv nums)))) (hn : nums = es.map fun e => md (b0 ^ e)) (h1 : ∀ u, (capLoc [1, 14] 21 u loc)[1]? = some (some (.list (iv [b0, b1])))) (h14 : ∀ u, (capLoc [1, 14] 21 u loc)[14]? = some (some (.bytes (apB (lets es))))) (h21 : ∀ u, (capLoc [1, 14] 21 u loc)[21]? = some (some u)) (hb : b0 < 65537) (he : ∀ e ∈ es, e < 65536) (hl : es.length ≤ 4) (q : QB false mh) :
    wpC (runF tab2 ov (n + 2)) (.cmp .NotEq (.comp [1, 14] 21 (.prim .range [(.prim .len [(.var 8)])]) [] (.call (.glob 11) [(.item (.var 1) (.const (.int 0))), (.slice (.var 14) (.bin .Mult (.const (.int 4)) (.var 21)) (.bin .Add (.bin .Mult (.const (.int 4)) (.var 21)) (.const (.int 4))) (.const .none))] [] [])) (.var 8)) loc mh QB := by
  rw [wC_cmp]
  refine powersE (n := n) h8 hn h1 h14 h21 hb he hl ?_
  show varW loc[8]? _
  rw [h8]
  exact c_nel rfl (eq_iv nums) q
theorem lastC {QB : Bool → MH → Prop} (h10 : loc[10]? = some (some (.int (pt : Int)))) (h8 : loc[8]? = some (some (.list (iv nums)))) (hn : pt = 0 → nums = es.map fun e => md (b0 ^ e)) (h1 : ∀ u, (capLoc [1, 14] 21 u loc)[1]? = some (some (.list (iv [b0, b1])))) (h14 : ∀ u, (capLoc [1, 14] 21 u loc)[14]? = some (some (.bytes (apB (lets es))))) (h21 : ∀ u, (capLoc [1, 14] 21 u loc)[21]? = some (some u)) (hb : b0 < 65537) (he : ∀ e ∈ es, e < 65536) (hl : es.length ≤ 4) (q : QB false mh) :
    wpC (runF tab2 ov (n + 2)) (.bop .And [(.cmp .Eq (.var 10) (.const (.int 0))), (.cmp .NotEq (.comp [1, 14] 21 (.prim .range [(.prim .len [(.var 8)])]) [] (.call (.glob 11) [(.item (.var 1) (.const (.int 0))), (.slice (.var 14) (.bin .Mult (.const (.int 4)) (.var 21)) (.bin .Add (.bin .Mult (.const (.int 4)) (.var 21)) (.const (.int 4))) (.const .none))] [] [])) (.var 8))]) loc mh QB := by
  show varW loc[10]? _
  rw [h10]
  refine c_eqi ⟨fun h0 => ?_, fun h0 => q⟩
  have h0 : pt = 0 := Int.ofNat.inj h0
  show wpC (runF tab2 ov (n + 2)) (.cmp .NotEq (.comp [1, 14] 21 (.prim .range [(.prim .len [(.var 8)])]) [] (.call (.glob 11) [(.item (.var 1) (.const (.int 0))), (.slice (.var 14) (.bin .Mult (.const (.int 4)) (.var 21)) (.bin .Add (.bin .Mult (.const (.int 4)) (.var 21)) (.const (.int 4))) (.const .none))] [] [])) (.var 8)) loc mh fun t m => match stops .And t with
    | true => QB t m
    | false => wpCB (runF tab2 ov (n + 2)) .And [] loc m QB
  exact powersC h8 (hn h0) h1 h14 h21 hb he hl q
end
section
variable {ov : Ov} {n : Nat} {told : List V} {sc SS W : V} {k b0 b1 b pt : Nat} {P : List (Nat × Int)} {es nums : List Nat} {Q : Fl → Loc → MH → Prop} {o4 o5 o6 o11 o12 o13 o14 : Option V}
theorem partTurn (hb : [b0, b1][pt]? = some b) (hG : Gen b) (hlt : b < 65537) (H : Wh (md (b ^ 4096)) k pt P W SS) (hn : nums = es.map fun e => md (b ^ e)) (he : ∀ e ∈ es, e < 65536) (hl : es.length ≤ 4) (ht : told.length ≤ 2) (hb0 : b0 < 65537)
    (hq : ∀ o11 o12 o13 o14, Q .next [some sc, some (.list (iv [b0, b1])), some (.int k), some SS, o4, o5, o6, some W, some (.list (iv nums)), some (.mut 0), some (.int (pt : Int)), o11, o12, o13, o14, none, none, none, none, none, none, none] [told ++ [.list (iv es)]]) :
    wpSs (runF tab2 ov (n + 4)) [s2_13_11, s2_13_12, s2_13_14, s2_13_16, s2_13_17, s2_13_18, s2_13_20] [some sc, some (.list (iv [b0, b1])), some (.int k), some SS, o4, o5, o6, some W, some (.list (iv nums)), some (.mut 0), some (.int (pt : Int)), o11, o12, o13, o14, none, none, none, none, none, none, none] [told] Q := by
  have hnl : nums.length = es.length := by rw [hn, List.length_map]
  have hp0 : pt = 0 → nums = es.map fun e => md (b0 ^ e) := fun q => by
    subst q
    have : b0 = b := Option.some.inj hb
    rw [this, hn]
  refine sAssign ?_
  refine lettersE (n := n) (b := b) (es := es) (bs := [b0, b1]) (k := k) (P := P) (by rw [← hn]; rfl) (fun u => rfl) (fun u => rfl) (fun u => rfl) (fun u => rfl) (fun u => rfl) hb (Nat.le_refl 2) hG hlt H he hl ?_
  have h16 := lets_lt es
  have hL := lets16 hl
  refine sAssign ?_
  refine sFor ?_
  refine ⟨trivial, iv (lets es), rfl, ?_⟩
  refine forI (fun i l m => ∃ o13, l = [some sc, some (.list (iv [b0, b1])), some (.int k), some SS, o4, o5, o6, some W, some (.list (iv nums)), some (.mut 0), some (.int (pt : Int)), some (.list (iv (lets es))), some (.int ((val ((lets es).take i) : Nat) : Int)), o13, o14, none, none, none, none, none, none, none] ∧ m = [told]) ?_ ?_ ?_
  · exact ⟨o13, rfl, rfl⟩
  · rintro i v _ _ hv ⟨o, rfl, rfl⟩
    obtain ⟨d, rfl, hd⟩ := iv_at hv
    obtain ⟨hi, e1⟩ := List.getElem?_eq_some_iff.mp hd
    have et : (lets es).take (i + 1) = (lets es).take i ++ [d] := by rw [← e1]; exact List.take_succ_eq_append_getElem hi
    have hvl : val ((lets es).take i) < 16 ^ 16 := Nat.lt_of_lt_of_le (val_lt fun x q => h16 x (List.mem_of_mem_take q)) (Nat.pow_le_pow_right (by decide) (by rw [List.length_take]; omega))
    refine sAssign ?_
    refine ⟨⟨by decide, by rw [Int.natAbs_natCast]; exact Nat.lt_trans hvl b16⟩, ?_⟩
    dsimp only [wE_const, wE_var, wE_glob, wE_bin, wE_neg, wE_cmp, wE_ite, wE_list, wE_item, wE_slice, wE_prim, wE_app, wE_ins, wE_call, wEs_nil, wEs_cons, wC_tst, wC_not, wC_bop, wC_cmp, wCB_nil, wCB_cons, v_some, i_int, m_mut, f_fn, tp_tup, b_add, b_addb, b_addl, b_sub, b_mul, b_fd, b_mod, b_pow, c_lt, c_le, c_gt, c_is, c_isnot, t_int, t_bool, t_none, p_int, p_none, f_abs, f_int, f_divmod, f_range, sl_bytes, st_and, st_or, List.getElem?_cons_succ, List.getElem?_cons_zero, List.set_cons_zero, List.set_cons_succ, List.zip_nil_left, List.zip_cons_cons, brW, setAll_nil, setAll_cons]
    refine sNil (Γ := runF tab2 ov (n + 4)) (wNext ?_)
    refine ⟨some (.int (d : Int)), ?_, rfl⟩
    rw [et, val_snoc]
    rfl
  · rintro _ _ ⟨o, rfl, rfl⟩
    rw [iv_len, List.take_length]
    refine wNext ?_
    refine sIte ?_
    refine ⟨rfl, law_spelled (n := n + 2) (ds := lets es) h16 (Nat.le_trans hL (by decide)) rfl rfl ?_⟩
    refine sNil (Γ := runF tab2 ov (n + 4)) (wNext ?_)
    refine sExpr ?_
    refine toldE (nums := nums) (es := es) (told := told) rfl rfl ht rfl hnl (fun u => rfl) (fun u => rfl) he hl ⟨rfl, ?_⟩
    refine sAssign ?_
    refine wordE (n := n + 3) (es := es) rfl rfl hl ?_
    refine sIte ?_
    refine lastC (n := n + 2) (nums := nums) (es := es) (b0 := b0) (b1 := b1) (pt := pt) rfl rfl hp0 (fun u => rfl) (fun u => rfl) (fun u => rfl) hb0 he hl ?_
    exact sNil (Γ := runF tab2 ov (n + 4)) (wNext (sNil (Γ := runF tab2 ov (n + 4)) (hq _ _ _ _)))
end
open PySem PySem.Calls PySem.W PyProof.Rows PySem.SeqAt
set_option maxRecDepth 100000
set_option linter.unusedVariables false
theorem Lay.part0 {r0 r1 k : Nat} {A B : List (Nat × Int)} (H : Lay r0 r1 k A B) : Part r0 k A := ⟨by
  have := H.pa.map fun p : Nat × Int => (p.1, p.2.natAbs)
  rw [List.map_map] at this
  refine this.trans (List.Perm.of_eq (List.map_congr_left fun i _ => ?_))
  show (md (r0 ^ i), (-(i : Int)).natAbs) = _
  rw [Int.natAbs_neg, Int.natAbs_natCast], Rw.asc H.ra⟩
theorem Lay.part1 {r0 r1 k : Nat} {A B : List (Nat × Int)} (H : Lay r0 r1 k A B) : Part r1 k B := ⟨by
  have := H.pb.map fun p : Nat × Int => (p.1, p.2.natAbs)
  rw [List.map_map] at this
  refine this.trans (List.Perm.of_eq (List.map_congr_left fun i _ => ?_))
  show (md (r1 ^ i), (i : Int).natAbs) = _
  rw [Int.natAbs_natCast], Rw.asc H.rb⟩
noncomputable abbrev WW (A B : List (Nat × Int)) : V := .list [.list (pairsV A B), .list (bareV A B)]
section
variable {b0 b1 k : Nat} {A B : List (Nat × Int)}
theorem wl (H : Lay (md (b0 ^ 4096)) (md (b1 ^ 4096)) k A B) (h23 : k ≤ 23) : (pairsV A B).length ≤ 900 ∧ (bareV A B).length ≤ 900 := by
  have h0 := H.la
  have h1 := H.lb
  refine ⟨?_, ?_⟩
  · rw [List.length_append, List.length_append, List.length_map, List.length_map, h0, h1]
    show k + (k + 1) ≤ 900
    omega
  · rw [List.length_append, iv_len, iv_len, List.length_map, List.length_map, h0, h1]
    omega
theorem wh0 (H : Lay (md (b0 ^ 4096)) (md (b1 ^ 4096)) k A B) (hG : Gen b0) (h18 : 18 ≤ k) (h23 : k ≤ 23) : Wh (md (b0 ^ 4096)) k 0 A (WW A B) (SSv (md (b0 ^ 4096)) (md (b1 ^ 4096)) k) :=
  ⟨H.part0, hG.root, h18, h23, Nat.zero_le 1, ⟨[], B.map rv ++ [rv (0, 0)], [], iv (B.map (·.1)), rfl, (Nat.zero_mul k).symm, (Nat.zero_mul k).symm, .inl rfl, by exact (wl H h23).1, by exact (wl H h23).2⟩, _, rfl, rfl, (by decide : 2 ≤ lim)⟩
theorem wh1 (H : Lay (md (b0 ^ 4096)) (md (b1 ^ 4096)) k A B) (hG : Gen b1) (h18 : 18 ≤ k) (h23 : k ≤ 23) : Wh (md (b1 ^ 4096)) k 1 B (WW A B) (SSv (md (b0 ^ 4096)) (md (b1 ^ 4096)) k) :=
  ⟨H.part1, hG.root, h18, h23, Nat.le_refl 1, ⟨A.map rv, [rv (0, 0)], iv (A.map (·.1)), [], by rw [List.append_nil], by rw [List.length_map, H.la, Nat.one_mul], by rw [iv_len, List.length_map, H.la, Nat.one_mul], .inr rfl, (wl H h23).1, by rw [List.append_nil]; exact (wl H h23).2⟩, _, rfl, rfl, (by decide : 2 ≤ lim)⟩
theorem due_own {r : Nat} {f : Nat → Int} {qs : List (Int × Int)} (hp : qs.Perm ((List.range k).map fun i => (((md (r ^ i) : Nat) : Int), f i))) (hs : qs.Pairwise pLt) :
    ∃ A : List (Nat × Int), A.Perm ((List.range k).map fun i => (md (r ^ i), -(f i))) ∧ A.Pairwise Rw ∧ (qs.map fun p => V.list [.int p.1, .int (-p.2)]) = A.map rv := by
  have hn : ∀ p ∈ qs, ((p.1.toNat : Nat) : Int) = p.1 := fun p q => by
    obtain ⟨i, _, rfl⟩ := List.mem_map.mp (hp.mem_iff.mp q)
    rfl
  have h1 : (qs.map fun p => (p.1.toNat, -p.2)).Perm ((List.range k).map fun i => (md (r ^ i), -(f i))) := by
    have := hp.map fun p : Int × Int => (p.1.toNat, -p.2)
    rw [List.map_map] at this
    exact this
  have h2 : (qs.map fun p => (p.1.toNat, -p.2)).Pairwise Rw := by
    refine List.pairwise_map.mpr (List.Pairwise.imp_of_mem ?_ hs)
    intro a b ha hb q
    have h1 := hn a ha
    have h2 := hn b hb
    unfold pLt at q
    unfold Rw
    dsimp only
    omega
  exact ⟨_, h1, h2, due_is hp hs h1 h2⟩
theorem wE_two {Γ : Tab} {loc : Loc} {mh : MH} {Q : V → MH → Prop} {e1 e2 : ME} (h : wpE Γ e1 loc mh fun v m => wpE Γ e2 loc m fun w m => Q (.list [v, w]) m) : wpE Γ (.list [e1, e2]) loc mh Q := by
  rw [wE_list, wEs_cons]
  simp only [wEs_cons, wEs_nil]
  have e : (2 ≤ lim) = True := eq_true (by decide)
  show wpE Γ e1 loc mh fun v m => wpE Γ e2 loc m fun w m => 2 ≤ lim ∧ Q (.list [v, w]) m
  rw [e]
  simp only [true_and]
  exact h
end
section
variable {ov : Ov} {n : Nat} {ns : List Int} {Q : Fl → Loc → MH → Prop} {rest : List MS}
theorem lawA (hl : ns.length ≤ 63) (hq : ∀ b0 b1 k : Nat, Gen b0 → Gen b1 → b0 < 65537 → b1 < 65537 → 18 ≤ k → k ≤ 23 →
    wpSs (runF tab2 ov (n + 2)) rest [some (.list (ns.map .int)), some (.list (iv [b0, b1])), some (.int k), some (SSv (md (b0 ^ 4096)) (md (b1 ^ 4096)) k), none, none, none, none, none, none, none, none, none, none, none, none, none, none, none, none, none, none] [] Q) :
    wpSs (runF tab2 ov (n + 2)) (s2_13_0 :: s2_13_1 :: s2_13_2 :: rest) [some (.list (ns.map .int)), none, none, none, none, none, none, none, none, none, none, none, none, none, none, none, none, none, none, none, none, none] [] Q := by
  refine sAssign ?_
  refine wE_two ?_
  refine baseE (c := 3) (ns := ns) (src := .var 0) (fun K hK => hK) (by decide) fun a a1 a2 => ?_
  refine baseE (c := 5) (ns := pickL ns none none (some 2)) (partE (o := none) (c := .const .none) rfl hl fun K hK => hK) (by decide) fun b c1 c2 => ?_
  have g0 : Gen (md (3 * a ^ 2)) := gen_base gen3 a1 a2
  have g1 : Gen (md (5 * b ^ 2)) := gen_base gen5 c1 c2
  have l0 := md_lt (3 * a ^ 2)
  have l1 := md_lt (5 * b ^ 2)
  generalize md (3 * a ^ 2) = b0 at *
  generalize md (5 * b ^ 2) = b1 at *
  refine sAssign ?_
  refine sizeE (ns := pickL ns (some 1) none (some 2)) (partE (o := some 1) (c := .const (.int 1)) rfl hl fun K hK => hK) fun k k1 k2 => ?_
  refine sAssign ?_
  refine spokesE (b0 := b0) (b1 := b1) (k := k) rfl (fun u => rfl) (fun u => rfl) l0 l1 (by omega) (by omega) ?_
  exact hq b0 b1 k g0 g1 l0 l1 k1 k2
theorem lawB {sc : V} {b0 b1 k : Nat} (h18 : 18 ≤ k) (h23 : k ≤ 23) (hq : ∀ o4 o5 o6 A B, Lay (md (b0 ^ 4096)) (md (b1 ^ 4096)) k A B →
    wpSs (runF tab2 ov (n + 5)) rest [some sc, some (.list (iv [b0, b1])), some (.int k), some (SSv (md (b0 ^ 4096)) (md (b1 ^ 4096)) k), o4, o5, o6, some (WW A B), none, none, none, none, none, none, none, none, none, none, none, none, none, none] [] Q) :
    wpSs (runF tab2 ov (n + 5)) (s2_13_3 :: s2_13_4 :: s2_13_5 :: s2_13_6 :: s2_13_8 :: rest) [some sc, some (.list (iv [b0, b1])), some (.int k), some (SSv (md (b0 ^ 4096)) (md (b1 ^ 4096)) k), none, none, none, none, none, none, none, none, none, none, none, none, none, none, none, none, none, none] [] Q := by
  generalize md (b0 ^ 4096) = r0 at *
  generalize md (b1 ^ 4096) = r1 at *
  have hsl : ∀ r, (sp r k).length ≤ 900 := fun r => by rw [sp_len]; omega
  refine sAssign ?_
  refine rowE (k := k) (c := 0) (f := fun i => ((md (r0 ^ i) : Nat) : Int)) (g := fun i => (i : Int)) rfl ⟨h18, h23⟩ (fun i hi K hK => itemsS (S := sp r0 k) (ss := [.list (iv (sp r0 k)), .list (iv (sp r1 k))]) (c := 0) rfl rfl rfl (by decide : 2 ≤ lim) (sp_at hi) (hsl r0) K hK) (fun i K hK => hK) (fun i j e => Int.ofNat.inj e) fun q0 p0 s0 => ?_
  refine sAssign ?_
  refine rowE (k := k) (c := 1) (f := fun i => ((md (r1 ^ i) : Nat) : Int)) (g := fun i => -(i : Int)) rfl ⟨h18, h23⟩ (fun i hi K hK => itemsS (S := sp r1 k) (ss := [.list (iv (sp r0 k)), .list (iv (sp r1 k))]) (c := 1) rfl rfl rfl (by decide : 2 ≤ lim) (sp_at hi) (hsl r1) K hK) (fun i K hK => hK) (fun i j e => Int.ofNat.inj (Int.neg_inj.mp e)) fun q1 p1 s1 => ?_
  obtain ⟨A, pa, ra, ea⟩ := due_own p0 s0
  obtain ⟨B, pb, rb, eb⟩ := due_own p1 s1
  have l0 : q0.length = k := by have := p0.length_eq; rwa [List.length_map, List.length_range] at this
  have l1 : q1.length = k := by have := p1.length_eq; rwa [List.length_map, List.length_range] at this
  refine sAssign ?_
  refine dueE (q0 := q0) (q1 := q1) (A := A) (B := B) rfl rfl (fun u => rfl) (by omega) (by omega) ea eb ?_
  refine sAssign ?_
  refine ⟨rfl, law_wheels (n := n + 1) (k := k) (by omega) fun A' B' H => ?_⟩
  have e1 : A' = A := uniqR (H.pa.trans pa.symm) H.ra ra
  have e2 : B' = B := uniqR (H.pb.trans (by
    have e : ((List.range k).map fun i : Nat => (md (r1 ^ i), -(-(i : Int)))) = (List.range k).map fun t : Nat => (md (r1 ^ t), (t : Int)) := List.map_congr_left fun i _ => by rw [Int.neg_neg]
    rw [← e]
    exact pb.symm)) H.rb rb
  subst e1 e2
  refine sIte ?_
  refine checkC (A := A') (B := B') rfl rfl (fun u => rfl) (by rw [H.la]; omega) (by rw [H.lb]; omega) ?_
  exact sNil (Γ := runF tab2 ov (n + 5)) (wNext (hq _ _ _ _ _ H))
end
open PySem PySem.Calls PySem.W PyProof.Rows PySem.SeqAt
set_option maxRecDepth 100000
set_option linter.unusedVariables false
section
variable {ov : Ov} {n : Nat} {Q : Fl → Loc → MH → Prop} {rest : List MS} {sc W SS : V} {b0 b1 k : Nat} {o4 o5 o6 : Option V} {nums es0 es1 : List Nat} {P0 P1 : List (Nat × Int)}
noncomputable abbrev told2 (es0 es1 : List Nat) : List V := [.list (iv es0), .list (iv es1)]
theorem lawC (G0 : Gen b0) (G1 : Gen b1) (l0 : b0 < 65537) (l1 : b1 < 65537) (H0 : Wh (md (b0 ^ 4096)) k 0 P0 W SS) (H1 : Wh (md (b1 ^ 4096)) k 1 P1 W SS) (n0 : nums = es0.map fun e => md (b0 ^ e)) (n1 : nums = es1.map fun e => md (b1 ^ e)) (e0 : ∀ e ∈ es0, e < 65536) (e1 : ∀ e ∈ es1, e < 65536) (hl : nums.length ≤ 4)
    (hq : ∀ o10 o11 o12 o13 o14, wpSs (runF tab2 ov (n + 4)) rest [some sc, some (.list (iv [b0, b1])), some (.int k), some SS, o4, o5, o6, some W, some (.list (iv nums)), some (.mut 0), o10, o11, o12, o13, o14, none, none, none, none, none, none, none] [told2 es0 es1] Q) :
    wpSs (runF tab2 ov (n + 4)) (s2_13_10 :: s2_13_21 :: rest) [some sc, some (.list (iv [b0, b1])), some (.int k), some SS, o4, o5, o6, some W, some (.list (iv nums)), none, none, none, none, none, none, none, none, none, none, none, none, none] [] Q := by
  have hl0 : es0.length ≤ 4 := by rw [n0, List.length_map] at hl; exact hl
  have hl1 : es1.length ≤ 4 := by rw [n1, List.length_map] at hl; exact hl
  refine sMut ?_
  refine ⟨⟨trivial, Nat.zero_le _⟩, ?_⟩
  refine sFor ?_
  refine ⟨(by decide : 2 ≤ lim), trivial, _, rfl, ?_⟩
  refine forI (fun i l m => ∃ o10 o11 o12 o13 o14, l = [some sc, some (.list (iv [b0, b1])), some (.int k), some SS, o4, o5, o6, some W, some (.list (iv nums)), some (.mut 0), o10, o11, o12, o13, o14, none, none, none, none, none, none, none] ∧ m = [(told2 es0 es1).take i]) ?_ ?_ ?_
  · exact ⟨_, _, _, _, _, rfl, rfl⟩
  · rintro i v _ _ hv ⟨o10, o11, o12, o13, o14, rfl, rfl⟩
    match i, hv with
    | 0, hv =>
      have hv : v = .int ((0 : Nat) : Int) := (Option.some.inj hv).symm
      subst hv
      exact partTurn (n := n) (told := []) (b := b0) (pt := 0) (es := es0) rfl G0 l0 H0 n0 e0 hl0 (Nat.zero_le 2) l0 fun o11 o12 o13 o14 => wNext ⟨_, _, _, _, _, rfl, rfl⟩
    | 1, hv =>
      have hv : v = .int ((1 : Nat) : Int) := (Option.some.inj hv).symm
      subst hv
      exact partTurn (n := n) (told := [.list (iv es0)]) (b := b1) (pt := 1) (es := es1) rfl G1 l1 H1 n1 e1 hl1 (by decide : 1 ≤ 2) l0 fun o11 o12 o13 o14 => wNext ⟨_, _, _, _, _, rfl, rfl⟩
    | i + 2, hv => exact nomatch hv
  · rintro _ _ ⟨o10, o11, o12, o13, o14, rfl, rfl⟩
    exact wNext (hq _ _ _ _ _)
theorem lawD {Q : V → MH → Prop} {o10 o11 o12 o13 o14 : Option V} {c : Nat} (G0 : Gen b0) (l1 : b1 < 65537) (n0 : nums = es0.map fun e => md (b0 ^ e)) (n1 : nums = es1.map fun e => md (b1 ^ e)) (e0 : ∀ e ∈ es0, e < 65536) (e1 : ∀ e ∈ es1, e < 65536) (hl : nums.length ≤ 4) (hc : es0[0]? = some c) (hb : nums[0]? = some b1) (q : Q (.bool true) []) :
    wpSs (runF tab2 ov (n + 4)) [s2_13_22] [some sc, some (.list (iv [b0, b1])), some (.int k), some SS, o4, o5, o6, some W, some (.list (iv nums)), some (.mut 0), o10, o11, o12, o13, o14, none, none, none, none, none, none, none] [told2 es0 es1] (outW 0 Q) := by
  have hl0 : es0.length ≤ 4 := by rw [n0, List.length_map] at hl; exact hl
  have hl1 : es1.length ≤ 4 := by rw [n1, List.length_map] at hl; exact hl
  have h4 : 4 ≤ lim := by decide
  have hc65 : c < 65536 := e0 c (List.mem_of_getElem? hc)
  have hcb : md (b0 ^ c) = md b1 := by
    rw [n0, List.getElem?_map, hc] at hb
    have : md (b0 ^ c) = b1 := Option.some.inj hb
    rw [this]; exact (Nat.mod_eq_of_lt l1).symm
  have key := logs_two G0 (n0.symm.trans n1) e0 hcb
  refine sRet ?_
  refine i_at (k := 1) (vs := told2 es0 es1) (w := .list (iv es1)) rfl rfl (by decide : 2 ≤ lim) ?_
  refine ⟨iv es1, rfl, by rw [iv_len]; omega, compMapA (l := es1) (e := fun e : Nat => V.int (e : Int)) (g := fun e : Nat => V.int ((e * c % 65536 : Nat) : Int)) (fun v K hK => ⟨rfl, hK⟩) (fun e he K hK => ?_) ?_⟩
  · have he := e1 e he
    refine i_at (k := 0) (vs := told2 es0 es1) (w := .list (iv es0)) rfl rfl (by decide : 2 ≤ lim) ?_
    refine i_at (k := 0) (vs := iv es0) (w := .int (c : Int)) rfl (iv_get hc) (by rw [iv_len]; omega) ?_
    exact ⟨⟨small (by omega), small (by omega)⟩, by decide, rfl, hK⟩
  · refine i_at (k := 0) (vs := told2 es0 es1) (w := .list (iv es0)) rfl rfl (by decide : 2 ≤ lim) ?_
    refine c_eql (vs := es1.map fun e : Nat => V.int ((e * c % 65536 : Nat) : Int)) (ws := iv es0) ?_ ?_ q
    · rw [← key, iv, List.map_map]; rfl
    · intro v hv
      obtain ⟨x, _, rfl⟩ := List.mem_map.mp hv
      exact eqok_int
end
theorem Gen.ge1 {b : Nat} (h : Gen b) : 1 ≤ b := by
  have := h.pos 1
  rw [Nat.pow_one] at this
  omega
theorem law2_plain {Q : V → MH → Prop} (ns : List Int) (hl : ns.length ≤ 63) (q : Q (.bool true) []) : callW tab2 (runF tab2 nov 20) 13 [.list (ns.map .int)] [] [] Q := by
  refine ⟨d2_13, [.list (ns.map .int)], rfl, rfl, ?_⟩
  show wpSs (runF tab2 nov (18 + 2)) (s2_13_0 :: s2_13_1 :: s2_13_2 :: [s2_13_3, s2_13_4, s2_13_5, s2_13_6, s2_13_8, s2_13_9, s2_13_10, s2_13_21, s2_13_22]) [some (.list (ns.map .int)), none, none, none, none, none, none, none, none, none, none, none, none, none, none, none, none, none, none, none, none, none] [] (outW 0 Q)
  refine lawA hl fun b0 b1 k G0 G1 l0 l1 h18 h23 => ?_
  refine lawB (n := 15) h18 h23 fun o4 o5 o6 A B H => ?_
  refine sAssign ?_
  refine numbersE (ns := ns) (b0 := b0) (b1 := b1) rfl rfl (fun u => rfl) hl fun xs x2 hx => ?_
  have hn : ∀ x ∈ b1 :: 2 :: xs, 1 ≤ x ∧ x ≤ 65536 := fun x q => by
    rcases List.mem_cons.mp q with e | q
    · exact e ▸ ⟨G1.ge1, by omega⟩
    rcases List.mem_cons.mp q with e | q
    · exact e ▸ ⟨by decide, by decide⟩
    exact hx x q
  have hb : (b1 :: 2 :: xs)[0]? = some b1 := rfl
  have hnl : (b1 :: 2 :: xs).length ≤ 4 := by rw [List.length_cons, List.length_cons]; omega
  have hn0 : 0 < (b1 :: 2 :: xs).length := Nat.zero_lt_succ _
  generalize b1 :: 2 :: xs = nums at *
  obtain ⟨es0, n0, e0⟩ := logs G0 nums hn
  obtain ⟨es1, n1, e1⟩ := logs G1 nums hn
  obtain ⟨c, hc⟩ : ∃ c, es0[0]? = some c := ⟨_, List.getElem?_eq_getElem (by rw [n0, List.length_map] at hn0; exact hn0)⟩
  refine lawC (n := 16) G0 G1 l0 l1 (wh0 H G0 h18 h23) (wh1 H G1 h18 h23) n0 n1 e0 e1 hnl fun o10 o11 o12 o13 o14 => ?_
  exact lawD (n := 16) G0 l1 n0 n1 e0 e1 hnl hc hb q
open PySem PySem.W PyProof.Rows
set_option maxRecDepth 100000
set_option maxHeartbeats 8000000
open_top hd2 for PySem.Challenge.rw_pk0060_02
open PySem PySem.W PyProof.Rows PySem.Calls
set_option maxRecDepth 100000
set_option maxHeartbeats 8000000
theorem fr2_0 {P : Params} {C : Cfg} (X : (hd2.heap_39 P).In C.hb) (hf : C.fa 0 = 23) : FnRec C fns2 0 d0_0 :=
  fr_bis (t0 := _) X hf (by rfl) (by rfl) (by rfl) (by rfl) (by rfl) (by decide +kernel) fun s Y => ⟨fun _ _ => kp_binds Y fun _ => rfl, fun _ _ _ => kp_binds Y fun _ => rfl, fun _ _ _ _ => kp_binds Y fun _ => rfl, fun _ _ _ => kp_binds Y fun _ => rfl, fun _ _ _ _ => kp_binds Y fun _ => rfl, fun _ _ _ _ _ => kp_binds Y fun _ => rfl⟩
theorem fr2_1 {P : Params} {C : Cfg} (X : (hd2.heap_39 P).In C.hb) (hf : C.fa 1 = 32) : FnRec C fns2 1 d0_1 :=
  fr_bis (t0 := _) X hf (by rfl) (by rfl) (by rfl) (by rfl) (by rfl) (by decide +kernel) fun s Y => ⟨fun _ _ => kp_binds Y fun _ => rfl, fun _ _ _ => kp_binds Y fun _ => rfl, fun _ _ _ _ => kp_binds Y fun _ => rfl, fun _ _ _ => kp_binds Y fun _ => rfl, fun _ _ _ _ => kp_binds Y fun _ => rfl, fun _ _ _ _ _ => kp_binds Y fun _ => rfl⟩
theorem fr2_2 {P : Params} {C : Cfg} (X : (hd2.heap_39 P).In C.hb) (hf : C.fa 2 = 41) : FnRec C fns2 2 d0_2 :=
  fr_bis (t0 := _) X hf (by rfl) (by rfl) (by rfl) (by rfl) (by rfl) (by decide +kernel) fun s Y => ⟨fun _ _ => kp_binds Y fun _ => rfl, fun _ _ _ => kp_binds Y fun _ => rfl, fun _ _ _ _ => kp_binds Y fun _ => rfl, fun _ _ _ => kp_binds Y fun _ => rfl, fun _ _ _ _ => kp_binds Y fun _ => rfl, fun _ _ _ _ _ => kp_binds Y fun _ => rfl⟩
theorem fr2_3 {P : Params} {C : Cfg} (X : (hd2.heap_39 P).In C.hb) (hf : C.fa 3 = 50) : FnRec C fns2 3 d0_3 :=
  fr_bis (t0 := _) X hf (by rfl) (by rfl) (by rfl) (by rfl) (by rfl) (by decide +kernel) fun s Y => ⟨fun _ _ => kp_binds Y fun _ => rfl, fun _ _ _ => kp_binds Y fun _ => rfl, fun _ _ _ _ => kp_binds Y fun _ => rfl, fun _ _ _ => kp_binds Y fun _ => rfl, fun _ _ _ _ => kp_binds Y fun _ => rfl, fun _ _ _ _ _ => kp_binds Y fun _ => rfl⟩
theorem fr2_4 {P : Params} {C : Cfg} (X : (hd2.heap_39 P).In C.hb) (hf : C.fa 4 = 57) : FnRec C fns2 4 d0_4 :=
  fr_plain X hf (by rfl) (by rfl) (by rfl) (by rfl) (by rfl) (by decide +kernel) fun s _ => BindsTo.of_eq rfl
theorem fr2_5 {P : Params} {C : Cfg} (X : (hd2.heap_39 P).In C.hb) (hf : C.fa 5 = 64) : FnRec C fns2 5 d0_5 :=
  fr_plain X hf (by rfl) (by rfl) (by rfl) (by rfl) (by rfl) (by decide +kernel) fun s _ => BindsTo.of_eq rfl
theorem fr2_6 {P : Params} {C : Cfg} (X : (hd2.heap_39 P).In C.hb) (hf : C.fa 6 = 71) : FnRec C fns2 6 d2_6 :=
  fr_plain X hf (by rfl) (by rfl) (by rfl) (by rfl) (by rfl) (by decide +kernel) fun s _ _ => BindsTo.of_eq rfl
theorem fr2_7 {P : Params} {C : Cfg} (X : (hd2.heap_39 P).In C.hb) (hf : C.fa 7 = 78) : FnRec C fns2 7 d2_7 :=
  fr_plain X hf (by rfl) (by rfl) (by rfl) (by rfl) (by rfl) (by decide +kernel) fun s _ _ => BindsTo.of_eq rfl
theorem fr2_8 {P : Params} {C : Cfg} (X : (hd2.heap_39 P).In C.hb) (hf : C.fa 8 = 85) : FnRec C fns2 8 d2_8 :=
  fr_plain X hf (by rfl) (by rfl) (by rfl) (by rfl) (by rfl) (by decide +kernel) fun s _ => BindsTo.of_eq rfl
theorem fr2_9 {P : Params} {C : Cfg} (X : (hd2.heap_39 P).In C.hb) (hf : C.fa 9 = 90) : FnRec C fns2 9 d2_9 :=
  fr_plain X hf (by rfl) (by rfl) (by rfl) (by rfl) (by rfl) (by decide +kernel) fun s _ _ _ _ => BindsTo.of_eq rfl
theorem fr2_10 {P : Params} {C : Cfg} (X : (hd2.heap_39 P).In C.hb) (hf : C.fa 10 = 97) : FnRec C fns2 10 d2_10 :=
  fr_plain X hf (by rfl) (by rfl) (by rfl) (by rfl) (by rfl) (by decide +kernel) fun s _ _ _ _ _ => BindsTo.of_eq rfl
theorem fr2_11 {P : Params} {C : Cfg} (X : (hd2.heap_39 P).In C.hb) (hf : C.fa 11 = 104) : FnRec C fns2 11 d2_11 :=
  fr_plain X hf (by rfl) (by rfl) (by rfl) (by rfl) (by rfl) (by decide +kernel) fun s _ _ => BindsTo.of_eq rfl
theorem fr2_12 {P : Params} {C : Cfg} (X : (hd2.heap_39 P).In C.hb) (hf : C.fa 12 = 109) : FnRec C fns2 12 d2_12 :=
  fr_plain X hf (by rfl) (by rfl) (by rfl) (by rfl) (by rfl) (by decide +kernel) fun s _ _ => BindsTo.of_eq rfl
theorem fr2_13 {P : Params} {C : Cfg} (X : (hd2.heap_39 P).In C.hb) (hf : C.fa 13 = 114) : FnRec C fns2 13 d2_13 :=
  fr_plain X hf (by rfl) (by rfl) (by rfl) (by rfl) (by rfl) (by decide +kernel) fun s _ => BindsTo.of_eq rfl
noncomputable def addr2 : List Addr := [23, 32, 41, 50, 57, 64, 71, 78, 85, 90, 97, 104, 109, 114]
noncomputable def cfg2 (w : World) (h : Heap) : Cfg := { prog := Challenge.rw_pk0060_02.row.prog, w := w, hb := h, fa := fun f => addr2.getD f 0 }
theorem fr2 {P : Params} {w : World} {h : Heap} (X : (hd2.heap_39 P).In h) : ∀ f d, tab2[f]? = some d → FnRec (cfg2 w h) fns2 f d := fun f d e =>
  Nat.zero_add f ▸ fnRecs (C := cfg2 w h) (fns := fns2) (F := tab2) (i := 0) ⟨fr2_0 X rfl, fr2_1 X rfl, fr2_2 X rfl, fr2_3 X rfl, fr2_4 X rfl, fr2_5 X rfl, fr2_6 X rfl, fr2_7 X rfl, fr2_8 X rfl, fr2_9 X rfl, fr2_10 X rfl, fr2_11 X rfl, fr2_12 X rfl, fr2_13 X rfl, trivial⟩ f d e
theorem cfgOk2 {P : Params} {w : World} {p : Program} {loose : List Str} {mean : ExcName → Option Value} {mg mb : Str → Option Value} {h : Heap} (T : Top p loose mean mg mb h) (X : (hd2.heap_39 P).In h) : CfgOk (cfg2 w h) fns2 :=
  cfgOk_of (C := cfg2 w h) (F := tab2) (as := addr2) (mg := mg) (mb := mb) T.g (X mainGlobals _ rfl) (by rfl) (fun f a e => (List.getD_eq_getElem?_getD ..).trans (by rw [e]; rfl)) (fr2 X) rfl T.b T.builtins T.nolimit
theorem law_at2 {P : Params} {mg : Str → Option Value} {h : Heap} {fa : Addr} (g : h.Ns mainGlobals mg) (X : (hd2.heap_39 P).In h) (hmg : mg "law" = some (.ref fa)) : fa = 114 := by
  obtain ⟨o', es', ep', ho', hd', _, hx⟩ := g
  have h3 := X mainGlobals _ rfl
  rw [h3] at ho'; cases ho'; cases hd'
  have e1 := hx "law"
  rw [hmg] at e1
  have e3 : some (Value.ref 114) = some (Value.ref fa) := e1
  injection e3 with e3
  injection e3 with e3
  exact e3.symm
theorem law2 : Challenge.rw_pk0060_02.Holds := hd2 (by
  intro w s₀ s₁ mg mb G Y fa o pm cd doc dV kV ho hd hcd hD hmg hg args vals as hpre hlay hrd hwl hlo
  have KX := kIn_of Y
  refine Ground.open G ?_
  intro T B D TE TW
  have hfa : fa = 114 := law_at2 T.g KX hmg
  clear hmg
  wrow_args hpre hlay hrd hwl hlo
  rename_i ns _ _ _ _ _ _ _ l xs _ hL _ _ _ hI _ hlen _
  refine enter_call ?_
  subst hfa
  have co : Co { cfg2 w s₁.heap with ξ := [] } [] [] s₁.heap := ⟨fun _ _ e => e, (fun _ q => nomatch q), ⟨rfl, .nil, (fun _ _ _ e => nomatch e)⟩, (fun _ q => nomatch q), (fun _ q => nomatch q), (fun _ q => nomatch q)⟩
  have r : VAll { cfg2 w s₁.heap with ξ := [] } s₁.heap [] [.list (ns.map .int)] [.ref l] := .cons (.list (xs := xs) hL (fun q => nomatch q) (ints_rel hI)) .nil
  exact codeAny_mono (fnCode (C := cfg2 w s₁.heap) (F := tab2) (fns := fns2) (n := 20) (f := 13) (cfgOk2 T KX) (fr2 KX) (tabOk (ov := nov) (cfgOk2 T KX) (fr2 KX) nov_ok rfl 20) (law2_plain (Q := fun v _ => v = .bool true) ns (by omega) rfl) ⟨by decide, fun _ => rfl, rfl, by decide, by decide⟩ co r rfl .nil) (fun _ _ g => GoodW.toG (goodW_of_post (l := Challenge.rw_pk0060_02) hg (fun _ => rfl) g)))
end Mine
end
set_option maxRecDepth 100000 in
set_option maxHeartbeats 8000000 in
theorem PySem.Challenge.cw_pk0060_02_holds : PySem.Challenge.rw_pk0060_02.Holds :=
  Mine.law2
