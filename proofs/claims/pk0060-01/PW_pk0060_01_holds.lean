import PyProof.Rows.All
import Wide.All
import OpenK.AllK
import Wide.FinOn
import Lean
import PySem.Challenge.RW_pk0060_01
set_option Elab.async false
set_option genSizeOf false
set_option genSizeOfSpec false
set_option genInjectivity false
section
open PySem PySem.Calls PySem.W PyProof.Rows
set_option maxRecDepth 100000
namespace Mine
set_option genInjectivity true in
inductive V where
  | none
  | bool (b : Bool)
  | int (i : Int)
  | str (l : List Nat)
  | bytes (l : List UInt8)
  | list (vs : List V)
  | tup (vs : List V)
  | mut (i : Nat)
  | fn (f : Nat)
  | rng (a b c : Int)
noncomputable abbrev MH := List (List V)
structure Cfg where
  prog : Program
  w : World
  hb : Heap
  fa : Nat → Addr
  ξ : List Addr := []
mutual
noncomputable def VRel (C : Cfg) (h : Heap) (ρ : List Addr) : V → Value → Prop
  | .none, x => x = .none
  | .bool b, x => x = .bool b
  | .int i, x => ∃ t, x = .int i t
  | .str l, x => ∃ t, x = .str ⟨l.toArray⟩ t
  | .bytes l, x => ∃ t, x = .bytes l.toArray t
  | .list vs, x => ∃ a, ∃ xs : List Value, x = .ref a ∧ h.IsList a xs.toArray ∧ a ∉ ρ ++ C.ξ ∧ VAll C h ρ vs xs
  | .tup vs, x => ∃ a, ∃ xs : List Value, x = .ref a ∧ h.IsTuple a xs.toArray ∧ a ∉ ρ ++ C.ξ ∧ VAll C h ρ vs xs
  | .mut i, x => ∃ a, x = .ref a ∧ ρ[i]? = some a
  | .fn f, x => x = .ref (C.fa f) ∧ ∃ o fd, C.hb.get? (C.fa f) = some o ∧ o.data = .func fd
  | .rng a b c, x => ∃ r t u v, x = .ref r ∧ IsRange h r a b c t u v ∧ r ∉ ρ ++ C.ξ
noncomputable def VAll (C : Cfg) (h : Heap) (ρ : List Addr) : List V → List Value → Prop
  | [], xs => xs = []
  | v :: vs, xs => ∃ y ys, xs = y :: ys ∧ VRel C h ρ v y ∧ VAll C h ρ vs ys
end
section
variable {C : Cfg} {h : Heap} {ρ : List Addr}
theorem VRel.none : VRel C h ρ .none .none := rfl
theorem VRel.bool (b : Bool) : VRel C h ρ (.bool b) (.bool b) := rfl
theorem VRel.int (i : Int) (t : Tok) : VRel C h ρ (.int i) (.int i t) := ⟨t, rfl⟩
theorem VRel.str (l : List Nat) (t : Tok) : VRel C h ρ (.str l) (.str ⟨l.toArray⟩ t) := ⟨t, rfl⟩
theorem VRel.bytes (l : List UInt8) (t : Tok) : VRel C h ρ (.bytes l) (.bytes l.toArray t) := ⟨t, rfl⟩
theorem VRel.list {a : Addr} {vs : List V} {xs : List Value} (x : h.IsList a xs.toArray) (n : a ∉ ρ ++ C.ξ) (r : VAll C h ρ vs xs) : VRel C h ρ (.list vs) (.ref a) := ⟨a, xs, rfl, x, n, r⟩
theorem VRel.tup {a : Addr} {vs : List V} {xs : List Value} (x : h.IsTuple a xs.toArray) (n : a ∉ ρ ++ C.ξ) (r : VAll C h ρ vs xs) : VRel C h ρ (.tup vs) (.ref a) := ⟨a, xs, rfl, x, n, r⟩
theorem VRel.mut {i : Nat} {a : Addr} (e : ρ[i]? = some a) : VRel C h ρ (.mut i) (.ref a) := ⟨a, rfl, e⟩
theorem VRel.fn {f : Nat} {o : Obj} {fd : FuncData} (e : C.hb.get? (C.fa f) = some o) (d : o.data = .func fd) : VRel C h ρ (.fn f) (.ref (C.fa f)) := ⟨rfl, o, fd, e, d⟩
theorem VRel.rng {a : Addr} {x y z : Int} {t u v : Tok} (r : IsRange h a x y z t u v) (n : a ∉ ρ ++ C.ξ) : VRel C h ρ (.rng x y z) (.ref a) := ⟨a, t, u, v, rfl, r, n⟩
theorem VAll.nil : VAll C h ρ [] [] := rfl
theorem VAll.cons {v : V} {x : Value} {vs : List V} {xs : List Value} (a : VRel C h ρ v x) (b : VAll C h ρ vs xs) : VAll C h ρ (v :: vs) (x :: xs) := ⟨x, xs, rfl, a, b⟩
end
noncomputable def Keep (X : List Addr) (h h' : Heap) : Prop := ∀ a o, h.get? a = some o → a ∉ X → h'.get? a = some o
theorem Keep.refl {X : List Addr} {h : Heap} : Keep X h h := fun _ _ e _ => e
theorem Keep.trans {X : List Addr} {h h' h'' : Heap} (x : Keep X h h') (y : Keep X h' h'') : Keep X h h'' := fun a o e n => y a o (x a o e n) n
theorem Keep.of_all {X : List Addr} {h h' : Heap} (k : ∀ b o, h.get? b = some o → h'.get? b = some o) : Keep X h h' := fun a o e _ => k a o e
theorem Keep.push {X : List Addr} {h : Heap} (o : Obj) : Keep X h (h.push o) := fun _ _ e _ => Heap.get?_push_of_some o e
theorem Keep.mono {X Y : List Addr} {h h' : Heap} (x : Keep X h h') (hs : ∀ a ∈ X, a ∈ Y) : Keep Y h h' := fun a o e n => x a o e fun q => n (hs a q)
theorem Keep.all {h h' : Heap} (x : Keep [] h h') : ∀ b o, h.get? b = some o → h'.get? b = some o := fun b o e => x b o e (fun q => nomatch q)
noncomputable def isD (o : Obj) : Prop := (∃ xs n, o.data = .seq xs n) ∨ (o.cls = .type "range" ∧ ∃ vs, o.data = .fields vs)
noncomputable def KeepD (X : List Addr) (h h' : Heap) : Prop := ∀ a o, h.get? a = some o → isD o → a ∉ X → h'.get? a = some o
theorem Keep.d {X : List Addr} {h h' : Heap} (x : Keep X h h') : KeepD X h h' := fun a o e _ n => x a o e n
theorem KeepD.mono {X Y : List Addr} {h h' : Heap} (x : KeepD X h h') (hs : ∀ a ∈ X, a ∈ Y) : KeepD Y h h' := fun a o e d n => x a o e d fun q => n (hs a q)
mutual
noncomputable def pureV : V → Prop
  | .mut _ => False
  | .list vs => pureVs vs
  | .tup vs => pureVs vs
  | _ => True
noncomputable def pureVs : List V → Prop
  | [] => True
  | v :: r => pureV v ∧ pureVs r
end
mutual
noncomputable def sub (g : Nat → V) : V → V
  | .mut i => g i
  | .list vs => .list (subs g vs)
  | .tup vs => .tup (subs g vs)
  | v => v
noncomputable def subs (g : Nat → V) : List V → List V
  | [] => []
  | v :: r => sub g v :: subs g r
end
mutual
theorem sub_mut : ∀ v : V, sub .mut v = v
  | .list vs => congrArg V.list (subs_mut vs)
  | .tup vs => congrArg V.tup (subs_mut vs)
  | .none | .bool _ | .int _ | .str _ | .bytes _ | .mut _ | .fn _ | .rng .. => rfl
theorem subs_mut : ∀ vs : List V, subs .mut vs = vs
  | [] => rfl
  | v :: r => List.cons_eq_cons.mpr ⟨sub_mut v, subs_mut r⟩
end
section
variable {C C' : Cfg} {h h' : Heap} {ρ ρ' : List Addr} {P : Prop} {g : Nat → V} (ho : ∀ a o, h.get? a = some o → isD o → a ∉ ρ ++ C.ξ → h'.get? a = some o ∧ a ∉ ρ' ++ C'.ξ) (hm : ∀ (i : Nat) (a : Addr), ρ[i]? = some a → VRel C' h' ρ' (g i) (.ref a) ∨ P) (hb : C'.hb = C.hb) (hf : C'.fa = C.fa)
include ho hm hb hf
mutual
theorem VRel.sub : ∀ (v : V) (x : Value), (P → pureV v) → VRel C h ρ v x → VRel C' h' ρ' (sub g v) x
  | .none, _, _, r => r
  | .bool _, _, _, r => r
  | .int _, _, _, r => r
  | .str _, _, _, r => r
  | .bytes _, _, _, r => r
  | .list vs, _, p, ⟨a, xs, e, ⟨o, g, c, m, d⟩, n, r⟩ => let ⟨q1, q2⟩ := ho a o g (.inl ⟨_, _, d⟩) n; ⟨a, xs, e, ⟨o, q1, c, m, d⟩, q2, VAll.sub vs xs p r⟩
  | .tup vs, _, p, ⟨a, xs, e, ⟨o, g, c, m, d⟩, n, r⟩ => let ⟨q1, q2⟩ := ho a o g (.inl ⟨_, _, d⟩) n; ⟨a, xs, e, ⟨o, q1, c, m, d⟩, q2, VAll.sub vs xs p r⟩
  | .mut i, _, p, ⟨a, e, r⟩ => e ▸ (hm i a r).resolve_right p
  | .fn f, _, _, ⟨e, o, fd, g, d⟩ => ⟨hf ▸ e, o, fd, by rw [hb, hf]; exact g, d⟩
  | .rng .., _, _, ⟨a, t, u, v, e, g, n⟩ => let ⟨q1, q2⟩ := ho a _ g (.inr ⟨rfl, _, rfl⟩) n; ⟨a, t, u, v, e, q1, q2⟩
theorem VAll.sub : ∀ (vs : List V) (xs : List Value), (P → pureVs vs) → VAll C h ρ vs xs → VAll C' h' ρ' (subs g vs) xs
  | [], _, _, r => r
  | v :: vs, _, p, ⟨y, ys, e, a, r⟩ => ⟨y, ys, e, VRel.sub v y (fun q => (p q).1) a, VAll.sub vs ys (fun q => (p q).2) r⟩
end
end
section
variable {C C' : Cfg} {h h' : Heap} {ρ ρ' : List Addr} {P : Prop} (ho : ∀ a o, h.get? a = some o → isD o → a ∉ ρ ++ C.ξ → h'.get? a = some o ∧ a ∉ ρ' ++ C'.ξ) (hm : ∀ (i : Nat) (a : Addr), ρ[i]? = some a → ρ'[i]? = some a ∨ P) (hb : C'.hb = C.hb) (hf : C'.fa = C.fa)
include ho hm hb hf
theorem VRel.map (v : V) (x : Value) (p : P → pureV v) (r : VRel C h ρ v x) : VRel C' h' ρ' v x := sub_mut v ▸ r.sub (g := .mut) ho (fun i a e => (hm i a e).imp .mut id) hb hf v x p
theorem VAll.map (vs : List V) (xs : List Value) (p : P → pureVs vs) (r : VAll C h ρ vs xs) : VAll C' h' ρ' vs xs := subs_mut vs ▸ r.sub (g := .mut) ho (fun i a e => (hm i a e).imp .mut id) hb hf vs xs p
end
section
variable {C : Cfg} {h h' : Heap} {ρ δ : List Addr} {D : Addr} {v : V} {x : Value} {vs : List V} {xs : List Value}
theorem VRel.keepX (k : KeepD (ρ ++ C.ξ) h h') (r : VRel C h ρ v x) : VRel C h' ρ v x := VRel.map (P := False) (fun a o e d n => ⟨k a o e d n, n⟩) (fun _ _ e => .inl e) rfl rfl v x False.elim r
theorem VAll.keepX (k : KeepD (ρ ++ C.ξ) h h') (r : VAll C h ρ vs xs) : VAll C h' ρ vs xs := VAll.map (P := False) (fun a o e d n => ⟨k a o e d n, n⟩) (fun _ _ e => .inl e) rfl rfl vs xs False.elim r
theorem VRel.keep (k : KeepD ρ h h') (r : VRel C h ρ v x) : VRel C h' ρ v x := r.keepX (k.mono fun _ q => List.mem_append.mpr (.inl q))
theorem VAll.keep (k : KeepD ρ h h') (r : VAll C h ρ vs xs) : VAll C h' ρ vs xs := r.keepX (k.mono fun _ q => List.mem_append.mpr (.inl q))
theorem mem_more {ρ δ ξ : List Addr} {a : Addr} (h : a ∈ (ρ ++ δ) ++ ξ) : a ∈ ρ ++ ξ ∨ a ∈ δ := by
  rcases List.mem_append.mp h with h | h
  · rcases List.mem_append.mp h with h | h
    · exact .inl (List.mem_append.mpr (.inl h))
    · exact .inr h
  · exact .inl (List.mem_append.mpr (.inr h))
theorem app_more {i : Nat} {a : Addr} (e : ρ[i]? = some a) : (ρ ++ δ)[i]? = some a := by rw [List.getElem?_append_left (List.getElem?_eq_some_iff.mp e).1]; exact e
theorem VRel.more (k : ∀ a ∈ δ, ∀ o, h.get? a ≠ some o) (r : VRel C h ρ v x) : VRel C h (ρ ++ δ) v x := VRel.map (P := False) (fun a o e _ n => ⟨e, fun q => (mem_more q).elim n fun q => k a q o e⟩) (fun _ _ e => .inl (app_more e)) rfl rfl v x False.elim r
theorem VAll.more (k : ∀ a ∈ δ, ∀ o, h.get? a ≠ some o) (r : VAll C h ρ vs xs) : VAll C h (ρ ++ δ) vs xs := VAll.map (P := False) (fun a o e _ n => ⟨e, fun q => (mem_more q).elim n fun q => k a q o e⟩) (fun _ _ e => .inl (app_more e)) rfl rfl vs xs False.elim r
theorem less_not {a : Addr} {ξ : List Addr} (n : a ∉ (ρ ++ δ) ++ ξ) : a ∉ ρ ++ ξ := fun q => n ((List.mem_append.mp q).elim (fun q => List.mem_append.mpr (.inl (List.mem_append.mpr (.inl q)))) fun q => List.mem_append.mpr (.inr q))
theorem VRel.less (p : pureV v) (r : VRel C h (ρ ++ δ) v x) : VRel C h ρ v x := VRel.map (P := True) (fun _ _ e _ n => ⟨e, less_not n⟩) (fun _ _ _ => .inr trivial) rfl rfl v x (fun _ => p) r
theorem VAll.less (p : pureVs vs) (r : VAll C h (ρ ++ δ) vs xs) : VAll C h ρ vs xs := VAll.map (P := True) (fun _ _ e _ n => ⟨e, less_not n⟩) (fun _ _ _ => .inr trivial) rfl rfl vs xs (fun _ => p) r
noncomputable def Cfg.with (C : Cfg) (D : Addr) : Cfg := { C with ξ := D :: C.ξ }
theorem with_not {a : Addr} (n : a ∉ ρ ++ (C.with D).ξ) : a ∉ ρ ++ C.ξ := fun q => n ((List.mem_append.mp q).elim (fun q => List.mem_append.mpr (.inl q)) fun q => List.mem_append.mpr (.inr (.tail _ q)))
theorem VRel.into (k : ∀ o, h.get? D ≠ some o) (r : VRel C h ρ v x) : VRel (C.with D) h ρ v x :=
  VRel.map (C' := C.with D) (P := False) (fun a o e _ n => ⟨e, fun q => (List.mem_append.mp q).elim (fun q => n (List.mem_append.mpr (.inl q))) fun q => (List.mem_cons.mp q).elim (fun w => k o (w ▸ e)) fun q => n (List.mem_append.mpr (.inr q))⟩) (fun _ _ e => .inl e) rfl rfl v x False.elim r
theorem VRel.out (r : VRel (C.with D) h ρ v x) : VRel C h ρ v x := VRel.map (C := C.with D) (P := False) (fun _ _ e _ n => ⟨e, with_not n⟩) (fun _ _ e => .inl e) rfl rfl v x False.elim r
theorem VAll.into (k : ∀ o, h.get? D ≠ some o) (r : VAll C h ρ vs xs) : VAll (C.with D) h ρ vs xs :=
  VAll.map (C' := C.with D) (P := False) (fun a o e _ n => ⟨e, fun q => (List.mem_append.mp q).elim (fun q => n (List.mem_append.mpr (.inl q))) fun q => (List.mem_cons.mp q).elim (fun w => k o (w ▸ e)) fun q => n (List.mem_append.mpr (.inr q))⟩) (fun _ _ e => .inl e) rfl rfl vs xs False.elim r
theorem VAll.out (r : VAll (C.with D) h ρ vs xs) : VAll C h ρ vs xs := VAll.map (C := C.with D) (P := False) (fun _ _ e _ n => ⟨e, with_not n⟩) (fun _ _ e => .inl e) rfl rfl vs xs False.elim r
end
section
variable {C : Cfg} {h : Heap} {ρ : List Addr}
theorem VAll.length : ∀ {vs : List V} {xs : List Value}, VAll C h ρ vs xs → vs.length = xs.length
  | [], _, r => by cases r; rfl
  | _ :: _, _, ⟨_, _, e, _, r⟩ => by cases e; exact congrArg _ (VAll.length r)
theorem VAll.append : ∀ {vs ws : List V} {xs ys : List Value}, VAll C h ρ vs xs → VAll C h ρ ws ys → VAll C h ρ (vs ++ ws) (xs ++ ys)
  | [], _, _, _, e, q => by cases e; exact q
  | _ :: _, _, _, _, ⟨_, _, e, a, r⟩, q => by cases e; exact .cons a (VAll.append r q)
theorem VAll.take : ∀ (n : Nat) {vs : List V} {xs : List Value}, VAll C h ρ vs xs → VAll C h ρ (vs.take n) (xs.take n)
  | 0, [], _, e => by cases e; exact .nil
  | 0, _ :: _, _, _ => .nil
  | _ + 1, [], _, e => by cases e; exact .nil
  | n + 1, _ :: _, _, ⟨_, _, e, a, r⟩ => by cases e; exact .cons a (VAll.take n r)
theorem VAll.drop : ∀ (n : Nat) {vs : List V} {xs : List Value}, VAll C h ρ vs xs → VAll C h ρ (vs.drop n) (xs.drop n)
  | 0, _, _, r => r
  | _ + 1, [], _, e => by cases e; exact .nil
  | n + 1, _ :: _, _, ⟨_, _, e, _, r⟩ => by cases e; exact VAll.drop n r
theorem VAll.get : ∀ {n : Nat} {vs : List V} {xs : List Value} {v : V}, VAll C h ρ vs xs → vs[n]? = some v → ∃ x, xs[n]? = some x ∧ VRel C h ρ v x
  | _, [], _, _, _, e => by cases e
  | 0, _ :: _, _, _, ⟨_, _, q, a, _⟩, e => by cases q; cases e; exact ⟨_, rfl, a⟩
  | n + 1, _ :: _, _, _, ⟨_, _, q, _, r⟩, e => by cases q; exact VAll.get (n := n) r e
theorem VAll.get' : ∀ {n : Nat} {vs : List V} {xs : List Value} {x : Value}, VAll C h ρ vs xs → xs[n]? = some x → ∃ v, vs[n]? = some v ∧ VRel C h ρ v x
  | _, [], _, _, r, e => by cases r; cases e
  | 0, _ :: _, _, _, ⟨_, _, q, a, _⟩, e => by cases q; cases e; exact ⟨_, rfl, a⟩
  | n + 1, _ :: _, _, _, ⟨_, _, q, _, r⟩, e => by cases q; exact VAll.get' (n := n) r e
theorem VAll.reverse : ∀ {vs : List V} {xs : List Value}, VAll C h ρ vs xs → VAll C h ρ vs.reverse xs.reverse
  | [], _, e => by cases e; exact .nil
  | _ :: _, _, ⟨_, _, e, a, r⟩ => by cases e; rw [List.reverse_cons, List.reverse_cons]; exact VAll.append (VAll.reverse r) (.cons a .nil)
end
structure MRel (C : Cfg) (h : Heap) (ρ : List Addr) (mh : MH) : Prop where
  len : ρ.length = mh.length
  nodup : ρ.Nodup
  at' : ∀ (i : Nat) (a : Addr) (vs : List V), ρ[i]? = some a → mh[i]? = some vs → ∃ (xs : List Value) (n : Nat), h.get? a = some (listOf xs.toArray n) ∧ VAll C h ρ vs xs
structure Co (C : Cfg) (ρ : List Addr) (mh : MH) (h : Heap) : Prop where
  up : ∀ a o, C.hb.get? a = some o → h.get? a = some o
  new : ∀ a ∈ ρ, C.hb.get? a = none
  m : MRel C h ρ mh
  pure : ∀ vs ∈ mh, pureVs vs
  live : ∀ a ∈ C.ξ, ∃ o, h.get? a = some o
  apart : ∀ a ∈ C.ξ, a ∉ ρ ∧ C.hb.get? a = none
section
variable {C : Cfg} {ρ : List Addr} {mh : MH} {h h' : Heap}
theorem Co.mem_list (x : Co C ρ mh h) {a : Addr} (ha : a ∈ ρ) : ∃ (xs : List Value) (n : Nat), h.get? a = some (listOf xs.toArray n) := by
  obtain ⟨i, hi, rfl⟩ := List.getElem_of_mem ha
  have hl : i < mh.length := x.m.len ▸ hi
  obtain ⟨xs, n, g, _⟩ := x.m.at' i ρ[i] mh[i] (List.getElem?_eq_getElem hi) (List.getElem?_eq_getElem hl)
  exact ⟨xs, n, g⟩
theorem Co.old (x : Co C ρ mh h) {a : Addr} (ha : a ∈ ρ ++ C.ξ) : ∃ o, h.get? a = some o :=
  (List.mem_append.mp ha).elim (fun q => let ⟨_, _, g⟩ := x.mem_list q; ⟨_, g⟩) (x.live a)
theorem Co.fresh (x : Co C ρ mh h) {a : Addr} (ha : h.objs.size ≤ a) : a ∉ ρ ++ C.ξ := fun q =>
  let ⟨_, ho⟩ := x.old q; absurd (Heap.lt_size ho) (Nat.not_lt.mpr ha)
theorem Co.keepX {X : List Addr} (x : Co C ρ mh h) (k : Keep X h h') (hb : ∀ b ∈ X, C.hb.get? b = none) (hd : ∀ b ∈ X, (∀ o, h.get? b = some o → ¬ isD o) ∨ b ∈ C.ξ) (hl : ∀ b ∈ X, b ∈ C.ξ → ∃ o, h'.get? b = some o) : Co C ρ mh h' := by
  have kd : KeepD (ρ ++ C.ξ) h h' := fun a o e d n => k a o e fun q => (hd a q).elim (fun f => f o e d) fun f => n (List.mem_append.mpr (.inr f))
  refine ⟨fun a o e => k a o (x.up a o e) fun q => ?_, x.new, ⟨x.m.len, x.m.nodup, fun i a vs e1 e2 => ?_⟩, x.pure, fun a ha => ?_, x.apart⟩
  · rw [hb a q] at e; cases e
  · obtain ⟨xs, n, g, r⟩ := x.m.at' i a vs e1 e2
    exact ⟨xs, n, k a _ g fun q => (hd a q).elim (fun f => f _ g (.inl ⟨_, _, rfl⟩)) fun f => (x.apart a f).1 (List.mem_of_getElem? e1), r.keepX kd⟩
  · obtain ⟨o, ho⟩ := x.live a ha
    by_cases q : a ∈ X
    · exact hl a q ha
    · exact ⟨o, k a o ho q⟩
theorem Co.keepAll (x : Co C ρ mh h) (k : ∀ b o, h.get? b = some o → h'.get? b = some o) : Co C ρ mh h' :=
  x.keepX (X := []) (.of_all k) (fun _ q => nomatch q) (fun _ q => nomatch q) (fun _ q => nomatch q)
theorem mem_one {a b : Addr} (h : a ∈ [b]) : a = b := List.mem_singleton.mp h
theorem Co.one {b : Addr} (x : Co C ρ mh h) (hs : ∀ a o, h.get? a = some o → a ≠ b → h'.get? a = some o) (hb : C.hb.get? b = none) (hd : ∀ o, h.get? b = some o → ¬ isD o) (hl : ∃ o, h'.get? b = some o) : Co C ρ mh h' :=
  x.keepX (X := [b]) (fun a o e n => hs a o e fun q => n (q ▸ .head _)) (fun c hc => mem_one hc ▸ hb) (fun c hc => .inl (mem_one hc ▸ hd)) (fun c hc _ => mem_one hc ▸ hl)
theorem Co.mutate {i : Nat} {a : Addr} {vs' : List V} {xs' : List Value} {n' : Nat} (x : Co C ρ mh h) (hi : ρ[i]? = some a) (hs : Heap.SameBut a h h')
    (hg : h'.get? a = some (listOf xs'.toArray n')) (hv : VAll C h ρ vs' xs') (hp : pureVs vs') : Co C ρ (mh.set i vs') h' := by
  have ha : a ∈ ρ := List.mem_of_getElem? hi
  have k : Keep ρ h h' := fun b o e n => (hs.2 b fun q => n (q ▸ ha)).trans e
  refine ⟨fun b o e => (hs.2 b ?_).trans (x.up b o e), x.new, ⟨x.m.len.trans (List.length_set ..).symm, x.m.nodup, fun j b vs e1 e2 => ?_⟩, fun vs hm => (List.mem_or_eq_of_mem_set hm).elim (x.pure vs) (· ▸ hp), fun b hb => ?_, x.apart⟩
  · rintro rfl; rw [x.new b ha] at e; cases e
  · by_cases hij : i = j
    · subst hij
      rw [hi] at e1; cases e1
      rw [List.getElem?_set_self (x.m.len ▸ (List.getElem?_eq_some_iff.mp hi).1)] at e2
      cases e2
      exact ⟨xs', n', hg, hv.keep k.d⟩
    · rw [List.getElem?_set_ne hij] at e2
      obtain ⟨xs, n, g, r⟩ := x.m.at' j b vs e1 e2
      have hab : b ≠ a := by
        rintro rfl
        exact hij ((List.getElem_inj x.m.nodup).mp ((List.getElem?_eq_some_iff.mp hi).2.trans (List.getElem?_eq_some_iff.mp e1).2.symm))
      exact ⟨xs, n, (hs.2 b hab).trans g, r.keep k.d⟩
  · obtain ⟨o, ho⟩ := x.live b hb
    exact ⟨o, (hs.2 b fun q => (x.apart b hb).1 (q ▸ ha)).trans ho⟩
end
noncomputable def Post (C : Cfg) (ρ : List Addr) (s : Shared) (mh' : MH) (v : V) (x : Value) (s' : Shared) : Prop :=
  ∃ h' tk, s' = { s with heap := h', toks := tk } ∧ Keep ρ s.heap h' ∧ Co C ρ mh' h' ∧ VRel C h' ρ v x
noncomputable def PostQ (C : Cfg) (ρ : List Addr) (s : Shared) (Q : V → MH → Prop) (x : Value) (s' : Shared) : Prop :=
  ∃ h' tk v m, s' = { s with heap := h', toks := tk } ∧ Q v m ∧ Keep ρ s.heap h' ∧ Co C ρ m h' ∧ VRel C h' ρ v x
noncomputable def PostL (C : Cfg) (ρ : List Addr) (s : Shared) (Q : List V → MH → Prop) (xs : List Value) (s' : Shared) : Prop :=
  ∃ h' tk vs m, s' = { s with heap := h', toks := tk } ∧ Q vs m ∧ Keep ρ s.heap h' ∧ Co C ρ m h' ∧ VAll C h' ρ vs xs
noncomputable def PostB (C : Cfg) (ρ : List Addr) (s : Shared) (Q : Bool → MH → Prop) (b : Bool) (s' : Shared) : Prop :=
  ∃ h' tk m, s' = { s with heap := h', toks := tk } ∧ Q b m ∧ Keep ρ s.heap h' ∧ Co C ρ m h'
noncomputable def NoE : Value → Shared → Prop := fun _ _ => False
noncomputable abbrev WP (C : Cfg) (A : Around) {α : Type} (t : Sem α) (Q : α → Shared → Prop) (s : Shared) : Prop := wpAny (model C.prog C.w) A t Q NoE s
theorem wp_e {C : Cfg} {A : Around} {α : Type} {t : Sem α} {Q : α → Shared → Prop} {E : Value → Shared → Prop} {s : Shared} (h : WP C A t Q s) : wpAny (model C.prog C.w) A t Q E s :=
  wpAny_mono h (fun _ _ q => q) fun _ _ f => f.elim
theorem WP.mono {C : Cfg} {A : Around} {α : Type} {t : Sem α} {Q R : α → Shared → Prop} {s : Shared} (h : WP C A t Q s) (k : ∀ a s', Q a s' → R a s') : WP C A t R s := wpAny_mono h k fun _ _ f => f
noncomputable def topK : Nat := 21
structure Rm (k : Nat) (A : Around) : Prop where
  le : k ≤ topK
  fr : topK ≤ k → A.frames = some []
  hh : A.handled = none
  depth : A.depth + k < recursionLimit
  units : A.units + 100 + 8 * k < cLine
theorem Rm.mono {k j : Nat} {A : Around} (x : Rm k A) (h : j ≤ k) : Rm j A := ⟨Nat.le_trans h x.le, fun q => x.fr (Nat.le_trans q h), x.hh, by have := x.depth; omega, by have := x.units; omega⟩
theorem Rm.deeper {k : Nat} {A : Around} {env : Env} (x : Rm (k + 1) A) : Rm k (A.deeper env) := ⟨Nat.le_of_succ_le x.le, fun q => absurd q (Nat.not_le.mpr x.le), x.hh, by have := x.depth; show A.depth + 1 + k < _; omega, by have := x.units; show A.units + 3 + 100 + 8 * k < _; omega⟩
theorem Rm.u20 {k : Nat} {A : Around} (x : Rm k A) : A.units + 20 < cLine := by have := x.units; omega
theorem Rm.u0 {k : Nat} {A : Around} (x : Rm k A) : A.units < cLine := by have := x.units; omega
section
variable {C : Cfg} {A : Around} {ρ : List Addr} {mh : MH} {s : Shared} {Q : V → MH → Prop} {v : V} {x : Value}
theorem PostQ.tok {n : Nat} (q : Q v mh) (co : Co C ρ mh s.heap) (r : VRel C s.heap ρ v x) : PostQ C ρ s Q x { s with toks := n } := ⟨s.heap, n, v, mh, rfl, q, .refl, co, r⟩
theorem PostQ.pure (q : Q v mh) (co : Co C ρ mh s.heap) (r : VRel C s.heap ρ v x) : PostQ C ρ s Q x s := ⟨s.heap, s.toks, v, mh, rfl, q, .refl, co, r⟩
theorem PostQ.grow {h' : Heap} {tk : Nat} (q : Q v mh) (co : Co C ρ mh s.heap) (k : ∀ b o, s.heap.get? b = some o → h'.get? b = some o) (r : VRel C h' ρ v x) : PostQ C ρ s Q x { s with heap := h', toks := tk } :=
  ⟨h', tk, v, mh, rfl, q, .of_all k, co.keepAll k, r⟩
theorem PostQ.trans {h₁ : Heap} {tk₁ : Nat} {s' : Shared} (k : Keep ρ s.heap h₁) (p : PostQ C ρ { s with heap := h₁, toks := tk₁ } Q x s') : PostQ C ρ s Q x s' :=
  let ⟨h', tk, v, m, e, q, k', co, r⟩ := p; ⟨h', tk, v, m, e, q, k.trans k', co, r⟩
theorem PostL.trans {Q : List V → MH → Prop} {xs : List Value} {h₁ : Heap} {tk₁ : Nat} {s' : Shared} (k : Keep ρ s.heap h₁) (p : PostL C ρ { s with heap := h₁, toks := tk₁ } Q xs s') : PostL C ρ s Q xs s' :=
  let ⟨h', tk, v, m, e, q, k', co, r⟩ := p; ⟨h', tk, v, m, e, q, k.trans k', co, r⟩
theorem PostB.trans {Q : Bool → MH → Prop} {b : Bool} {h₁ : Heap} {tk₁ : Nat} {s' : Shared} (k : Keep ρ s.heap h₁) (p : PostB C ρ { s with heap := h₁, toks := tk₁ } Q b s') : PostB C ρ s Q b s' :=
  let ⟨h', tk, m, e, q, k', co⟩ := p; ⟨h', tk, m, e, q, k.trans k', co⟩
end
end Mine
end
section
open PySem PySem.Calls PySem.W PyProof.Rows PySem.SeqAt
set_option maxRecDepth 100000
set_option linter.unusedVariables false
namespace Mine
noncomputable def itemsOf (mh : MH) : V → Option (List V)
  | .list vs => some vs
  | .mut i => mh[i]?
  | _ => none
noncomputable def derefV (mh : MH) (v : V) : V := match itemsOf mh v with | some vs => .list vs | none => v
section
variable {C : Cfg} {A : Around} {ρ : List Addr} {mh : MH} {s : Shared}
theorem items_rel {v : V} {x : Value} {vs : List V} (co : Co C ρ mh s.heap) (h : itemsOf mh v = some vs) (r : VRel C s.heap ρ v x) :
    ∃ a xs, x = .ref a ∧ s.heap.IsList a (List.toArray xs) ∧ VAll C s.heap ρ vs xs := by
  cases v with
  | list us => obtain ⟨a, xs, rfl, hl, _, r⟩ := r; cases h; exact ⟨_, _, rfl, hl, r⟩
  | «mut» i =>
    obtain ⟨a, rfl, e⟩ := r
    obtain ⟨xs, n, g, r⟩ := co.m.at' i _ vs e h
    exact ⟨a, xs, rfl, ⟨_, g, rfl, n, rfl⟩, r⟩
  | _ => cases h
end
noncomputable def flatOk (a b : V) : Prop := match a with
  | .none => b = .none
  | .bool _ => ∃ q, b = .bool q
  | .int _ => ∃ q, b = .int q
  | .str _ => ∃ q, b = .str q
  | .bytes _ => ∃ q, b = .bytes q
  | _ => False
noncomputable def eqok : Nat → V → V → Prop
  | 0, a, b => flatOk a b
  | n + 1, a, b => flatOk a b ∨ ∃ as bs, a = .list as ∧ b = .list bs ∧ (as.length ≠ bs.length ∨ ∀ p ∈ as.zip bs, eqok n p.1 p.2)
noncomputable def Says (K : Bool → Prop) (P : Prop) : Prop := ∀ e, (e = true ↔ P) → K e
theorem says_of {K : Bool → Prop} {P : Prop} {e : Bool} (h : K e) (k : e = true ↔ P) : Says K P := fun _ k' => (Bool.eq_iff_iff.mpr (k.trans k'.symm)) ▸ h
section
variable {C : Cfg} {ρ : List Addr} {s : Shared} {A : Around}
theorem list_inj {a : Addr} {h : Heap} {xs ys : List Value} (x : h.IsList a xs.toArray) (y : h.IsList a ys.toArray) : xs = ys := by
  obtain ⟨o, ho, _, k, hd⟩ := x
  obtain ⟨o', ho', _, k', hd'⟩ := y
  cases ho.symm.trans ho'
  exact congrArg Array.toList (Data.seq.inj (hd.symm.trans hd')).1
theorem flat_inj {h : Heap} {a b : V} {x : Value} (f : flatOk a b) (ra : VRel C h ρ a x) (rb : VRel C h ρ b x) : a = b := by
  cases a with
  | none => exact f.symm
  | bool p => obtain ⟨q, rfl⟩ := f; cases ra.symm.trans rb; rfl
  | int p => obtain ⟨q, rfl⟩ := f; obtain ⟨t, rfl⟩ := ra; obtain ⟨u, e⟩ := rb; cases e; rfl
  | str p => obtain ⟨q, rfl⟩ := f; obtain ⟨t, rfl⟩ := ra; obtain ⟨u, e⟩ := rb; cases e; rfl
  | bytes p => obtain ⟨q, rfl⟩ := f; obtain ⟨t, rfl⟩ := ra; obtain ⟨u, e⟩ := rb; cases e; rfl
  | _ => exact f.elim
theorem all_inj {h : Heap} {P : V → V → Prop} (hp : ∀ a b x, P a b → VRel C h ρ a x → VRel C h ρ b x → a = b) :
    ∀ (as bs : List V) (xs : List Value), as.length = bs.length → (∀ p ∈ as.zip bs, P p.1 p.2) → VAll C h ρ as xs → VAll C h ρ bs xs → as = bs
  | [], [], _, _, _, _, _ => rfl
  | [], _ :: _, _, hl, _, _, _ => nomatch hl
  | _ :: _, [], _, hl, _, _, _ => nomatch hl
  | a :: as, b :: bs, xs, hl, hz, r, q => by
    obtain ⟨y, ys, rfl, ra, r⟩ := r
    obtain ⟨_, _, e, rb, q⟩ := q
    cases e
    rw [hp a b y (hz (a, b) (.head _)) ra rb, all_inj hp as bs ys (Nat.succ.inj hl) (fun p m => hz p (.tail _ m)) r q]
theorem rel_inj {h : Heap} : ∀ (n : Nat) (a b : V) (x : Value), eqok n a b → VRel C h ρ a x → VRel C h ρ b x → a = b
  | 0, _, _, _, f, ra, rb => flat_inj f ra rb
  | n + 1, _, _, _, .inl f, ra, rb => flat_inj f ra rb
  | n + 1, a, b, x, .inr f, ra, rb => by
    obtain ⟨as, bs, rfl, rfl, hz⟩ := f
    obtain ⟨l, xs, rfl, hl, _, r⟩ := ra
    obtain ⟨_, ys, e, hl', _, r'⟩ := rb
    cases e
    cases list_inj hl hl'
    have hlen := r.length.trans r'.length.symm
    rw [all_inj (rel_inj n) as bs xs hlen (hz.resolve_left fun q => q hlen) r r']
theorem flat_says {a b : V} {x y : Value} (f : flatOk a b) (ra : VRel C s.heap ρ a x) (rb : VRel C s.heap ρ b y) : Says (EqAt A s x y) (a = b) ∧ Says (RcAt A s x y) (a = b) ∧ Says (fun e => RcNeAt A s x y (!e)) (a = b) := by
  cases a with
  | none =>
    cases f; cases ra; cases rb
    have k : true = true ↔ V.none = V.none := iff_of_true rfl rfl
    exact ⟨says_of (.same _) k, says_of .none_none k, says_of .none_none k⟩
  | bool p =>
    obtain ⟨q, rfl⟩ := f; cases ra; cases rb
    have k : (p == q) = true ↔ V.bool p = V.bool q := beq_iff_eq.trans ⟨congrArg _, V.bool.inj⟩
    exact ⟨says_of (.bool_bool p q) k, says_of (.bool_bool p q) k, says_of (.bool_bool p q) k⟩
  | int p =>
    obtain ⟨q, rfl⟩ := f; obtain ⟨t, rfl⟩ := ra; obtain ⟨u, rfl⟩ := rb
    have k : (p == q) = true ↔ V.int p = V.int q := beq_iff_eq.trans ⟨congrArg _, V.int.inj⟩
    exact ⟨says_of (.int_int p t q u) k, says_of (.int_int p t q u) k, says_of (.int_int p t q u) k⟩
  | str p =>
    obtain ⟨q, rfl⟩ := f; obtain ⟨t, rfl⟩ := ra; obtain ⟨u, rfl⟩ := rb
    have k : ((⟨p.toArray⟩ : Str) == ⟨q.toArray⟩) = true ↔ V.str p = V.str q := beq_iff_eq.trans ⟨fun e => congrArg (fun z : Str => V.str z.cps.toList) e, fun e => by cases e; rfl⟩
    exact ⟨says_of (.str_str _ t _ u) k, says_of (.str_str _ t _ u) k, says_of (.str_str _ t _ u) k⟩
  | bytes p =>
    obtain ⟨q, rfl⟩ := f; obtain ⟨t, rfl⟩ := ra; obtain ⟨u, rfl⟩ := rb
    have k : (p.toArray.toList == q.toArray.toList) = true ↔ V.bytes p = V.bytes q := beq_iff_eq.trans ⟨congrArg V.bytes, V.bytes.inj⟩
    exact ⟨says_of (e := decide (p = q)) (fun prog w E Q h => eqBool_bytes h) (decide_eq_true_iff.trans ⟨congrArg _, V.bytes.inj⟩), says_of (fun prog w E Q h => eq_bytes h) k, says_of (fun prog w E Q h => ne_bytes h) k⟩
  | _ => exact f.elim
theorem zip_get {P : V → V → Prop} {a b : List V} {x y : V} {j : Nat} (h : ∀ p ∈ a.zip b, P p.1 p.2) (e1 : a[j]? = some x) (e2 : b[j]? = some y) : P x y :=
  h (x, y) (List.mem_of_getElem? (i := j) (List.getElem?_zip_eq_some.mpr ⟨e1, e2⟩))
theorem says_list {n : Nat} {as bs : List V} {l m : Addr} {xs ys : List Value} (hz : as.length ≠ bs.length ∨ ∀ p ∈ as.zip bs, eqok n p.1 p.2) (hl : s.heap.IsList l xs.toArray) (r : VAll C s.heap ρ as xs)
    (hl' : s.heap.IsList m ys.toArray) (r' : VAll C s.heap ρ bs ys) (hu : A.units < cLine) (ih : ∀ (a b : V) (x y : Value), eqok n a b → VRel C s.heap ρ a x → VRel C s.heap ρ b y → Says (EqAt A.in1 s x y) (a = b)) :
    Says (RcAt A s (.ref l) (.ref m)) (as = bs) ∧ Says (fun e => RcNeAt A s (.ref l) (.ref m) (!e)) (as = bs) := by
  classical
  have hx := r.length
  have hy := r'.length
  by_cases hlen : as.length = bs.length
  · have hz := hz.resolve_left fun q => q hlen
    have hsz : xs.toArray.size = ys.toArray.size := by rw [List.size_toArray, List.size_toArray, ← hx, ← hy, hlen]
    have he : ∀ j (h1 : j < xs.toArray.size) (h2 : j < ys.toArray.size), EqAt A.in1 s xs.toArray[j] ys.toArray[j] (decide (as[j]? = bs[j]?)) := fun j h1 h2 => by
      obtain ⟨v, e1, q1⟩ := r.get' (n := j) (List.getElem?_eq_getElem h1)
      obtain ⟨w, e2, q2⟩ := r'.get' (n := j) (List.getElem?_eq_getElem h2)
      refine ih _ _ _ _ (zip_get hz e1 e2) q1 q2 _ (decide_eq_true_iff.trans ?_)
      rw [e1, e2]; exact ⟨Option.some.inj, congrArg _⟩
    have k : (List.range xs.toArray.size).all (fun j => decide (as[j]? = bs[j]?)) = true ↔ as = bs := by
      rw [List.all_eq_true]
      refine ⟨fun q => List.ext_getElem? fun j => ?_, fun e j _ => decide_eq_true (by rw [e])⟩
      by_cases hj : j < xs.toArray.size
      · exact of_decide_eq_true (q j (List.mem_range.mpr hj))
      · rw [List.size_toArray, ← hx] at hj
        rw [List.getElem?_eq_none (Nat.le_of_not_lt hj), List.getElem?_eq_none (hlen ▸ Nat.le_of_not_lt hj)]
    exact ⟨says_of (RcAt.lists hl hl' hsz hu he) k, says_of (RcNeAt.lists hl hl' hsz hu he) k⟩
  · have hsz : (xs.toArray.size != ys.toArray.size) = true := by rw [List.size_toArray, List.size_toArray, ← hx, ← hy]; exact bne_iff_ne.mpr hlen
    have k : false = true ↔ as = bs := ⟨(fun q => nomatch q), fun q => absurd (congrArg List.length q) hlen⟩
    exact ⟨says_of (RcAt.lists_lengths hl hl' hsz hu) k, says_of (K := fun e => RcNeAt A s (.ref l) (.ref m) (!e)) (e := false) (RcNeAt.lists_lengths hl hl' hsz hu) k⟩
theorem says_list_eq {K : Bool → Prop} {as bs : List V} (h : Says K (as = bs)) : Says K (V.list as = V.list bs) := fun e k => h e (k.trans ⟨V.list.inj, congrArg _⟩)
theorem eqAt_ : ∀ (n : Nat) (A : Around) (a b : V) (x y : Value), A.units + n < cLine → eqok n a b → VRel C s.heap ρ a x → VRel C s.heap ρ b y → Says (EqAt A s x y) (a = b)
  | 0, _, _, _, _, _, _, f, ra, rb => (flat_says f ra rb).1
  | n + 1, _, _, _, _, _, _, .inl f, ra, rb => (flat_says f ra rb).1
  | n + 1, A, a, b, x, y, hu, .inr f, ra, rb => by
    obtain ⟨as, bs, rfl, rfl, hz⟩ := f
    have ra' := ra
    obtain ⟨l, xs, rfl, hl, _, r⟩ := ra
    obtain ⟨k, ys, rfl, hl', hn', r'⟩ := rb
    by_cases hlm : l = k
    · subst hlm
      rw [rel_inj (n + 1) (.list as) (.list bs) _ (.inr ⟨as, bs, rfl, rfl, hz⟩) ra' ⟨l, ys, rfl, hl', hn', r'⟩]
      exact says_of (.same _) (iff_of_true rfl rfl)
    · exact fun e q => EqAt.of_refs hlm (says_list_eq (says_list hz hl r hl' r' (Nat.lt_of_le_of_lt (Nat.le_add_right ..) hu) (fun a b x y => eqAt_ n A.in1 a b x y (by show A.units + 1 + n < _; omega))).1 e q)
end
end Mine
end
section
open PySem PySem.Calls PySem.W PyProof.Rows PySem.SeqAt
open PySem.AutoSeq1 (wpAny_loadPart')
set_option maxRecDepth 100000
set_option linter.unusedVariables false
namespace Mine
noncomputable def lim : Nat := 1048576
noncomputable def big : Nat := 2 ^ 128
theorem lim_le {n : Nat} (h : n ≤ lim) : n ≤ sizeLine := by rw [sizeLine_eq]; exact Nat.le_trans h (by decide)
/-! kinds of values -/
section
variable (v : V)
noncomputable def intW (K : Int → Prop) : Prop := match v with | .int i => K i | _ => False
noncomputable def strW (K : List Nat → Prop) : Prop := match v with | .str l => K l | _ => False
noncomputable def bytesW (K : List UInt8 → Prop) : Prop := match v with | .bytes l => K l | _ => False
noncomputable def tupW (K : List V → Prop) : Prop := match v with | .tup l => K l | _ => False
noncomputable def listW (K : List V → Prop) : Prop := match v with | .list l => K l | _ => False
noncomputable def mutW (K : Nat → Prop) : Prop := match v with | .mut l => K l | _ => False
noncomputable def fnW (K : Nat → Prop) : Prop := match v with | .fn l => K l | _ => False
noncomputable def itemsW (mh : MH) (K : List V → Prop) : Prop := ∃ vs, itemsOf mh v = some vs ∧ K vs
variable {v}
theorem intW_inv {K : Int → Prop} (h : intW v K) : ∃ i, v = .int i ∧ K i := by cases v <;> first | exact ⟨_, rfl, h⟩ | exact h.elim
theorem strW_inv {K : List Nat → Prop} (h : strW v K) : ∃ i, v = .str i ∧ K i := by cases v <;> first | exact ⟨_, rfl, h⟩ | exact h.elim
theorem bytesW_inv {K : List UInt8 → Prop} (h : bytesW v K) : ∃ i, v = .bytes i ∧ K i := by cases v <;> first | exact ⟨_, rfl, h⟩ | exact h.elim
theorem tupW_inv {K : List V → Prop} (h : tupW v K) : ∃ i, v = .tup i ∧ K i := by cases v <;> first | exact ⟨_, rfl, h⟩ | exact h.elim
theorem listW_inv {K : List V → Prop} (h : listW v K) : ∃ i, v = .list i ∧ K i := by cases v <;> first | exact ⟨_, rfl, h⟩ | exact h.elim
theorem mutW_inv {K : Nat → Prop} (h : mutW v K) : ∃ i, v = .mut i ∧ K i := by cases v <;> first | exact ⟨_, rfl, h⟩ | exact h.elim
theorem fnW_inv {K : Nat → Prop} (h : fnW v K) : ∃ i, v = .fn i ∧ K i := by cases v <;> first | exact ⟨_, rfl, h⟩ | exact h.elim
end
noncomputable def binW (op : Operator) (mh : MH) (a b : V) (Q : V → Prop) : Prop :=
  match op with
  | .Add => (match a with
    | .int x => intW b fun y => Q (.int (x + y))
    | .str x => strW b fun y => x.length + y.length ≤ lim ∧ Q (.str (x ++ y))
    | .bytes x => bytesW b fun y => x.length + y.length ≤ lim ∧ Q (.bytes (x ++ y))
    | .list x => itemsW b mh fun y => x.length + y.length ≤ lim ∧ Q (.list (x ++ y))
    | _ => False)
  | .Sub => intW a fun x => intW b fun y => Q (.int (x - y))
  | .Mult => (match a with
    | .int x => intW b fun y => (x.natAbs < big ∧ y.natAbs < big) ∧ Q (.int (x * y))
    | .str x => intW b fun n => (0 ≤ n ∧ n ≤ 100 ∧ x.length ≤ 100) ∧ Q (.str (List.replicate n.toNat x).flatten)
    | .list x => intW b fun n => (0 ≤ n ∧ n ≤ 100 ∧ x.length ≤ 100) ∧ Q (.list (List.replicate n.toNat x).flatten)
    | _ => False)
  | .FloorDiv => intW a fun x => intW b fun y => (0 < y ∧ y.natAbs < big) ∧ Q (.int (x / y))
  | .Mod => intW a fun x => intW b fun y => 0 < y ∧ Q (.int (x % y))
  | .Pow => intW a fun x => intW b fun y => (x.natAbs < 2 ^ 64 ∧ 0 ≤ y ∧ y ≤ 1000) ∧ Q (.int (x ^ y.toNat))
  | _ => False
theorem intBits_le {x : Int} {k : Nat} (h : x.natAbs < 2 ^ k) : Builtin.Int.intBits x ≤ k := by
  unfold Builtin.Int.intBits
  split
  · exact Nat.zero_le _
  · rename_i h0
    exact (Nat.log2_lt fun q => h0 (by rw [Int.natAbs_eq_zero.mp q]; rfl)).mpr h
theorem mulOk {x y : Int} (hx : x.natAbs < big) (hy : y.natAbs < big) : IntMulOk x y := by
  have h3 := Nat.add_le_add (intBits_le (k := 128) hx) (intBits_le (k := 128) hy)
  have h5 : (bitsLine : Int) = 134217728 := rfl
  have : Builtin.Int.intTooBig (Builtin.Int.intBits x + Builtin.Int.intBits y) = false := decide_eq_false fun q => by rw [h5] at q; omega
  unfold IntMulOk
  simp [this]
theorem foldl_append_flatten {α : Type} (l : List (List α)) (acc : Array α) : (l.map List.toArray).foldl (· ++ ·) acc = acc ++ l.flatten.toArray := by
  induction l generalizing acc with
  | nil => exact Array.append_empty.symm
  | cons x r ih => simp [ih]
theorem foldl_replicate {α : Type} (n : Nat) (l : List α) : (List.replicate n l.toArray).foldl (· ++ ·) #[] = (List.replicate n l).flatten.toArray := by
  have := foldl_append_flatten (List.replicate n l) #[]
  rw [List.map_replicate, Array.empty_append] at this; exact this
theorem replicate_flatten_nil {α : Type} (n : Nat) : (List.replicate n ([] : List α)).flatten = [] := by
  induction n with
  | zero => rfl
  | succ n ih => exact ih
theorem list_mulW (l : Addr) (items : Array Value) (n : Nat) (x : Int) (u : Tok) (dd : Option Addr) (sl : Array (Option Value)) (hc0 : ¬(!Builtin.List.listFitsIndex x) = true) (hc1 : ¬items.size * x.toNat > (2 ^ 63 - 1) / 8) (hc2 : ¬Builtin.List.listTooLong (items.size * x.toNat) = true) :
    Meets (Builtin.«list.__mul__» ⟨[.ref l, .int x u], []⟩) (fun _ R s => s.heap.get? l = some { cls := .type "list", dict := dd, data := .seq items n, slots := sl } ∧ R (.ok (.ret (Value.ref s.heap.objs.size))) { s with heap := s.heap.push { cls := Value.type "list", data := Data.seq (List.foldl (fun x1 x2 => x1 ++ x2) #[] (List.replicate (if items.isEmpty = true then 0 else x.toNat) items)) }, toks := s.toks }) :=
  .of_wp fun prog w A R s h => by
    obtain ⟨hp, g, d, tk, os⟩ := s; obtain ⟨hl, h⟩ := h
    have hsz := PySem.AutoListH.joined_fits hc2
    wp_walk using wpAny_loadPart' hl
    refine wpAny_ite_false (decide_eq_false (Nat.not_lt.mpr hsz)) ?_; wp_walk; exact ⟨_, rfl, h⟩
theorem int_rmulW (a : Int) (t : Tok) (l : Addr) (items : Array Value) (n : Nat) (dd : Option Addr) (sl : Array (Option Value)) :
    Meets (Builtin.«int.__rmul__» ⟨[.int a t, .ref l], []⟩) (fun _ R s => s.heap.get? l = some { cls := .type "list", dict := dd, data := .seq items n, slots := sl } ∧ R (.ok (.ret Value.notImplemented)) s) :=
  .of_wp fun prog w A R s h => by obtain ⟨hp, g, d, tk, os⟩ := s; obtain ⟨hl, h⟩ := h; wp_walk using wpAny_loadPart' hl, wpAny_load hl; exact ⟨_, rfl, h⟩
section
variable {C : Cfg} {A : Around} {ρ : List Addr} {mh : MH} {s : Shared} {Q : V → MH → Prop}
theorem rel_new {vs : List V} {xs : List Value} {n : Nat} (co : Co C ρ mh s.heap) (r : VAll C s.heap ρ vs xs) :
    VRel C (s.heap.push { cls := .type "list", data := .seq xs.toArray n }) ρ (.list vs) (.ref s.heap.objs.size) :=
  .list ⟨_, Heap.get?_push_size _ rfl, rfl, n, rfl⟩ (co.fresh (Nat.le_refl _)) (r.keep (Keep.push _).d)
theorem rel_newT {vs : List V} {xs : List Value} {n : Nat} (co : Co C ρ mh s.heap) (r : VAll C s.heap ρ vs xs) :
    VRel C (s.heap.push { cls := .type "tuple", data := .seq xs.toArray n }) ρ (.tup vs) (.ref s.heap.objs.size) :=
  .tup ⟨_, Heap.get?_push_size _ rfl, rfl, n, rfl⟩ (co.fresh (Nat.le_refl _)) (r.keep (Keep.push _).d)
theorem up_push {h : Heap} (o : Obj) : ∀ b ob, h.get? b = some ob → (h.push o).get? b = some ob := fun _ _ e => Heap.get?_push_of_some o e
theorem newList_ {vs : List V} {xs : List Value} (q : Q (.list vs) mh) (co : Co C ρ mh s.heap) (r : VAll C s.heap ρ vs xs) (hl : vs.length ≤ lim) :
    WP C A (newList xs) (PostQ C ρ s Q) s :=
  wpAny_newObj_type (PostQ.grow q co (up_push _) (rel_new co r)) (by show xs.toArray.size ≤ sizeLine; rw [List.size_toArray, ← r.length]; exact lim_le hl)
theorem VAll.flat_rep {h : Heap} {vs : List V} {xs : List Value} (r : VAll C h ρ vs xs) : ∀ n : Nat, VAll C h ρ (List.replicate n vs).flatten (List.replicate n xs).flatten
  | 0 => .nil
  | n + 1 => r.append (VAll.flat_rep r n)
theorem add_lists_ {l b : Addr} {vs ws : List V} {xs ys : List Value} (q0 : Q (.list (vs ++ ws)) mh) (co : Co C ρ mh s.heap) (hl : s.heap.IsList l xs.toArray) (hb : s.heap.IsList b ys.toArray) (r : VAll C s.heap ρ vs xs) (q : VAll C s.heap ρ ws ys) (hz : vs.length + ws.length ≤ lim) :
    WP C A (binaryOp .Add (.ref l) (.ref b)) (PostQ C ρ s Q) s := by
  obtain ⟨⟨cls, dd, data, sl⟩, ho, hc, n, hd⟩ := id hl
  obtain ⟨⟨cls2, dd2, data2, sl2⟩, ho2, hc2, n2, hd2⟩ := id hb
  cases hc; cases hd; cases hc2; cases hd2
  have hz' : xs.toArray.size + ys.toArray.size ≤ sizeLine := by rw [List.size_toArray, List.size_toArray, ← r.length, ← q.length]; exact lim_le hz
  refine concat_meets ⟨_, ho, rfl⟩ ⟨_, ho2, rfl⟩ noFill_list_add seq_list_add PySem.F.slot_list_add PySem.F.entry_list_add (PySem.F.args_list_add_2 _ _) (list_addW l b xs.toArray ys.toArray n n2 dd dd2 sl sl2 hz') ⟨ho, ho2, ?_⟩
  rw [List.append_toArray]
  exact PostQ.grow q0 co (up_push _) (rel_new co (r.append q))
theorem mul_list_ {l : Addr} {vs : List V} {xs : List Value} {n : Int} {u : Tok} (q0 : Q (.list (List.replicate n.toNat vs).flatten) mh) (co : Co C ρ mh s.heap) (hl : s.heap.IsList l xs.toArray) (r : VAll C s.heap ρ vs xs) (h0 : 0 ≤ n) (h1 : n ≤ 100) (h2 : vs.length ≤ 100) :
    WP C A (binaryOp .Mult (.ref l) (.int n u)) (PostQ C ρ s Q) s := by
  obtain ⟨⟨cls, dd, data, sl⟩, ho, hc, k, hd⟩ := id hl
  cases hc; cases hd
  have hm : xs.toArray.size * n.toNat ≤ 100 * 100 := Nat.mul_le_mul (by rw [List.size_toArray, ← r.length]; exact h2) (by omega)
  refine wpAny_binaryOp_repeat_ref (T := "list") (U := "int") (by decide) ⟨_, ho, rfl⟩ (fun s' => typeIs_int s' n u) noFill_list_mul F.fills_int_mul F.slot_int_rmul repeat_list F.slot_int_index.lookup
    (call_meets F.slot_int_rmul (typeIs_int s n u) F.entry_int_rmul (F.args_int_rmul_2 _ _) (int_rmulW n u l xs.toArray k dd sl)
      ⟨ho, rfl, ⟨_, ho, rfl⟩, call_meets F.slot_list_mul ⟨_, ho, rfl⟩ F.entry_list_mul (F.args_list_mul_2 _ _)
        (list_mulW l xs.toArray k n u dd sl (by simp [Builtin.List.listFitsIndex]; omega) (by omega) (by simp only [Builtin.List.listTooLong, sizeLine_eq, decide_eq_true_eq]; omega)) ⟨ho, ?_⟩⟩)
  have e : List.foldl (fun x1 x2 => x1 ++ x2) #[] (List.replicate (if xs.toArray.isEmpty = true then 0 else n.toNat) xs.toArray) = (List.replicate n.toNat xs).flatten.toArray := by
    cases xs with
    | nil => rw [replicate_flatten_nil]; rfl
    | cons x t => exact foldl_replicate _ _
  rw [e]
  exact PostQ.grow q0 co (up_push _) (rel_new co (r.flat_rep n.toNat))
theorem txt_mul {l : List Nat} {n : Int} (h0 : 0 ≤ n) : Txt.mul ⟨l.toArray⟩ n = ⟨(List.replicate n.toNat l).flatten.toArray⟩ := by
  unfold Txt.mul
  by_cases h1 : n < 1
  · have : n = 0 := by omega
    subst this
    rfl
  · rw [if_neg h1]
    by_cases h2 : (n == 1 || Str.length ⟨l.toArray⟩ == 0) = true
    · rw [if_pos h2]
      rw [Bool.or_eq_true, beq_iff_eq, beq_iff_eq] at h2
      rcases h2 with rfl | h2
      · show _ = (⟨(l ++ []).toArray⟩ : Str)
        rw [List.append_nil]
      · have h2 : l.toArray.size = 0 := h2
        rw [List.size_toArray] at h2
        have : l = [] := List.length_eq_zero_iff.mp h2
        subst this
        rw [replicate_flatten_nil]
    · rw [if_neg h2, foldl_replicate]
theorem big_log {y : Int} (h0 : 0 < y) (h : y.natAbs < big) : (y.natAbs).log2 < 128 := (Nat.log2_lt (by omega)).mpr h
theorem tooLong_no {n : Nat} (h : n ≤ 10000) : Builtin.Str.tooLong n = false := by
  simp only [Builtin.Str.tooLong, sizeLine_eq, decide_eq_false_iff_not]; omega
theorem binop_ {op : Operator} {a b : V} {x y : Value} (h : binW op mh a b fun v => Q v mh) (co : Co C ρ mh s.heap) (ra : VRel C s.heap ρ a x) (rb : VRel C s.heap ρ b y) :
    WP C A (binaryOp op x y) (PostQ C ρ s Q) s := by
  cases op with
  | Add =>
    cases a with
    | int i =>
      obtain ⟨j, rfl, h⟩ := intW_inv h
      obtain ⟨t, rfl⟩ := ra; obtain ⟨u, rfl⟩ := rb
      exact PyProof.Rows.add_int (PostQ.tok h co (.int _ _))
    | str p =>
      obtain ⟨q, rfl, hz, h⟩ := strW_inv h
      obtain ⟨t, rfl⟩ := ra; obtain ⟨u, rfl⟩ := rb
      refine PyProof.Rows.add_str (fun t' tk => ?_) (lim_le hz)
      have e : (⟨p.toArray⟩ : Str) ++ ⟨q.toArray⟩ = ⟨(p ++ q).toArray⟩ := Str.ext' (by show p.toArray ++ q.toArray = _; rw [List.append_toArray])
      rw [e]; exact PostQ.tok h co (.str _ _)
    | bytes p =>
      obtain ⟨q, rfl, hz, h⟩ := bytesW_inv h
      obtain ⟨t, rfl⟩ := ra; obtain ⟨u, rfl⟩ := rb
      refine KBy.add_bytes (by have := lim_le hz; rw [sizeLine_eq] at this; exact this) fun t' k => ?_
      rw [List.append_toArray]; exact PostQ.tok h co (.bytes _ _)
    | list vs =>
      obtain ⟨ws, hy, hz, h⟩ := h
      obtain ⟨l, us, rfl, hl, _, r⟩ := ra
      obtain ⟨m, ys, rfl, hm, q⟩ := items_rel co hy rb
      exact add_lists_ h co hl hm r q hz
    | _ => exact h.elim
  | Sub =>
    obtain ⟨i, rfl, h⟩ := intW_inv h; obtain ⟨j, rfl, h⟩ := intW_inv h
    obtain ⟨t, rfl⟩ := ra; obtain ⟨u, rfl⟩ := rb
    exact PyProof.Rows.sub_int (PostQ.tok h co (.int _ _))
  | Mult =>
    cases a with
    | int i =>
      obtain ⟨j, rfl, hz, h⟩ := intW_inv h
      obtain ⟨t, rfl⟩ := ra; obtain ⟨u, rfl⟩ := rb
      exact PyProof.Rows.mul_int (PostQ.tok h co (.int _ _)) (mulOk hz.1 hz.2)
    | str p =>
      obtain ⟨n, rfl, hz, h⟩ := intW_inv h
      obtain ⟨t, rfl⟩ := ra; obtain ⟨u, rfl⟩ := rb
      have hp : Str.length ⟨p.toArray⟩ ≤ 100 := hz.2.2
      refine SB.mul ⟨by simp; omega, fun h1 h2 => ?_, fun h1 h2 => tooLong_no (Nat.mul_le_mul hp (by omega : n.toNat ≤ 100))⟩ fun t' k => ?_
      · have : (100 : Int) ≤ (2 ^ 63 - 1) / n := by
          rw [Int.le_ediv_iff_mul_le (by omega)]; omega
        omega
      · rw [txt_mul hz.1]; exact PostQ.tok h co (.str _ _)
    | list vs =>
      obtain ⟨n, rfl, hz, h⟩ := intW_inv h
      obtain ⟨l, us, rfl, hl, _, r⟩ := ra; obtain ⟨u, rfl⟩ := rb
      exact mul_list_ h co hl r hz.1 hz.2.1 hz.2.2
    | _ => exact h.elim
  | FloorDiv =>
    obtain ⟨i, rfl, h⟩ := intW_inv h; obtain ⟨j, rfl, hz, h⟩ := intW_inv h
    obtain ⟨t, rfl⟩ := ra; obtain ⟨u, rfl⟩ := rb
    refine PyProof.Rows.floordiv_int (by omega) ?_ (.inl (PyProof.noPylong_of_log2 (Nat.lt_of_lt_of_le (big_log hz.1 hz.2) (by decide))))
    rw [Int.fdiv_eq_ediv_of_nonneg _ (by omega)]
    exact PostQ.tok h co (.int _ _)
  | Mod =>
    obtain ⟨i, rfl, h⟩ := intW_inv h; obtain ⟨j, rfl, hz, h⟩ := intW_inv h
    obtain ⟨t, rfl⟩ := ra; obtain ⟨u, rfl⟩ := rb
    refine PyProof.Rows.mod_int' (by omega) ?_
    rw [Int.fmod_eq_emod_of_nonneg _ (by omega)]
    exact PostQ.tok h co (.int _ _)
  | Pow =>
    obtain ⟨i, rfl, h⟩ := intW_inv h; obtain ⟨j, rfl, hz, h⟩ := intW_inv h
    obtain ⟨t, rfl⟩ := ra; obtain ⟨u, rfl⟩ := rb
    exact PyProof.Rows.pow_int_small hz.2.1 (by omega) hz.1 (PostQ.tok h co (.int _ _))
  | _ => exact h.elim
end
end Mine
end
section
open PySem PySem.Calls PySem.W PyProof.Rows PySem.SeqAt
open PySem.AutoSeq1 (wpAny_loadPart')
open PySem.MeetsSeq3
set_option maxRecDepth 100000
set_option linter.unusedVariables false
namespace Mine
noncomputable def lexI (e : Bool) : List Int → List Int → Bool
  | [], [] => e
  | [], _ :: _ => true
  | _ :: _, [] => false
  | x :: xs, y :: ys => if x = y then lexI e xs ys else decide (x < y)
theorem ints_end {items : Array Value} {i : Nat} (h : IntsAre (items.toList.drop i) []) : items.size ≤ i := by
  generalize hq : items.toList.drop i = l at h
  cases h
  simpa using hq
theorem ints_more {items : Array Value} {i : Nat} {x : Int} {xs : List Int} (h : IntsAre (items.toList.drop i) (x :: xs)) : ∃ t, i < items.size ∧ items[i]? = some (.int x t) ∧ IntsAre (items.toList.drop (i + 1)) xs := by
  generalize hq : items.toList.drop i = l at h
  cases h with
  | cons _ t r =>
    have hlt : i < items.toList.length := by
      rcases Nat.lt_or_ge i items.toList.length with h' | h'
      · exact h'
      · rw [List.drop_of_length_le h'] at hq; cases hq
    rw [List.drop_eq_getElem_cons hlt] at hq
    injection hq with h1 h2
    refine ⟨t, by simpa using hlt, ?_, h2 ▸ r⟩
    have : items[i]'(by simpa using hlt) = .int x t := by simpa using h1
    rw [Array.getElem?_eq_getElem (by simpa using hlt), this]
theorem lt_loop (l b : Addr) (items items2 : Array Value) (n n2 : Nat) (dd dd2 : Option Addr) (sl sl2 : Array (Option Value)) : ∀ (xs ys : List Int) (i : Nat), IntsAre (items.toList.drop i) xs → IntsAre (items2.toList.drop i) ys → i ≤ items.size → i ≤ items2.size →
    Meets (Builtin.«list.__eq__.loop» ⟨[.ref l, .ref b, rawInt i, rawInt 0], []⟩)
      (fun A R s => s.heap.get? l = some { cls := .type "list", dict := dd, data := .seq items n, slots := sl } ∧ s.heap.get? b = some { cls := .type "list", dict := dd2, data := .seq items2 n2, slots := sl2 } ∧
        R (.ok (.ret (.bool (lexI false xs ys)))) s) := by
  intro xs
  induction xs with
  | nil =>
    intro ys i h1 h2 hi1 hi2 prog w A R s h
    obtain ⟨hp, g, d, tk, os⟩ := s; obtain ⟨hl, hb, h⟩ := h
    have e1 := ints_end h1
    have hs1 : items.size = i := by omega
    have q1 : items[((i : Nat) : Int).toNat]? = none := by simp; omega
    wp_walk using wpAny_loadPart' hl, wpAny_loadPart' hb
    rw [q1]
    wp_walk using wpAny_loadPart' hl, wpAny_loadPart' hb
    show R (.ok (.ret (.bool (decide (items.size < items2.size))))) _
    cases ys with
    | nil =>
      have e2 := ints_end h2
      have hs2 : items2.size = i := by omega
      rw [hs1, hs2]
      simpa [lexI] using h
    | cons y ys =>
      obtain ⟨t, hlt, _, _⟩ := ints_more h2
      have : decide (items.size < items2.size) = true := by rw [decide_eq_true_eq]; omega
      rw [this]
      simpa [lexI] using h
  | cons x xs ih =>
    intro ys i h1 h2 hi1 hi2 prog w A R s h
    obtain ⟨hp, g, d, tk, os⟩ := s; obtain ⟨hl, hb, h⟩ := h
    obtain ⟨t, hlt, q1, r1⟩ := ints_more h1
    have q1' : items[((i : Nat) : Int).toNat]? = some (.int x t) := by simpa using q1
    cases ys with
    | nil =>
      have e2 := ints_end h2
      have hs2 : items2.size = i := by omega
      have q2 : items2[((i : Nat) : Int).toNat]? = none := by simp; omega
      wp_walk using wpAny_loadPart' hl, wpAny_loadPart' hb
      rw [q1', q2]
      wp_walk using wpAny_loadPart' hl, wpAny_loadPart' hb
      show R (.ok (.ret (.bool (decide (items.size < items2.size))))) _
      have : decide (items.size < items2.size) = false := by rw [decide_eq_false_iff_not]; omega
      rw [this]
      simpa [lexI] using h
    | cons y ys =>
      obtain ⟨u, hlt2, q2, r2⟩ := ints_more h2
      have q2' : items2[((i : Nat) : Int).toNat]? = some (.int y u) := by simpa using q2
      have hc : ((i : Int) + 1) = ((i + 1 : Nat) : Int) := by push_cast; rfl
      wp_walk using wpAny_loadPart' hl, wpAny_loadPart' hb
      rw [q1', q2']
      refine wpAny_bind (EqAt.int_int x t y u prog w _ _ ?_)
      by_cases hxy : x = y
      · have hb' : (x == y) = true := by simpa using hxy
        rw [hb']
        wp_walk
        rw [hc]
        exact ⟨plainId_quiet plain_eq_loop _, codeAny_builtin entry_eq_loop (by
          rw [Around.under_plainId plain_eq_loop _]
          exact ih ys (i + 1) r1 r2 hlt hlt2 prog w A R _ ⟨hl, hb, by simpa [lexI, hxy] using h⟩)⟩
      · have hb' : (x == y) = false := by simpa using hxy
        rw [hb']
        wp_walk using wpAny_loadPart' hl, wpAny_loadPart' hb
        rw [q1', q2']
        show wpAny _ _ (compareOp .Lt (.int x t) (.int y u) >>= fun v => ret v) _ _ _
        refine wpAny_bind (PyProof.Rows.lt_int ?_)
        wp_walk
        simpa [lexI, hxy] using h
theorem le_loop (l b : Addr) (items items2 : Array Value) (n n2 : Nat) (dd dd2 : Option Addr) (sl sl2 : Array (Option Value)) : ∀ (xs ys : List Int) (i : Nat), IntsAre (items.toList.drop i) xs → IntsAre (items2.toList.drop i) ys → i ≤ items.size → i ≤ items2.size →
    Meets (Builtin.«list.__eq__.loop» ⟨[.ref l, .ref b, rawInt i, rawInt 1], []⟩)
      (fun A R s => s.heap.get? l = some { cls := .type "list", dict := dd, data := .seq items n, slots := sl } ∧ s.heap.get? b = some { cls := .type "list", dict := dd2, data := .seq items2 n2, slots := sl2 } ∧
        R (.ok (.ret (.bool (lexI true xs ys)))) s) := by
  intro xs
  induction xs with
  | nil =>
    intro ys i h1 h2 hi1 hi2 prog w A R s h
    obtain ⟨hp, g, d, tk, os⟩ := s; obtain ⟨hl, hb, h⟩ := h
    have e1 := ints_end h1
    have hs1 : items.size = i := by omega
    have q1 : items[((i : Nat) : Int).toNat]? = none := by simp; omega
    wp_walk using wpAny_loadPart' hl, wpAny_loadPart' hb
    rw [q1]
    wp_walk using wpAny_loadPart' hl, wpAny_loadPart' hb
    show R (.ok (.ret (.bool (decide (items.size ≤ items2.size))))) _
    cases ys with
    | nil =>
      have e2 := ints_end h2
      have hs2 : items2.size = i := by omega
      rw [hs1, hs2]
      simpa [lexI] using h
    | cons y ys =>
      obtain ⟨t, hlt, _, _⟩ := ints_more h2
      have : decide (items.size ≤ items2.size) = true := by rw [decide_eq_true_eq]; omega
      rw [this]
      simpa [lexI] using h
  | cons x xs ih =>
    intro ys i h1 h2 hi1 hi2 prog w A R s h
    obtain ⟨hp, g, d, tk, os⟩ := s; obtain ⟨hl, hb, h⟩ := h
    obtain ⟨t, hlt, q1, r1⟩ := ints_more h1
    have q1' : items[((i : Nat) : Int).toNat]? = some (.int x t) := by simpa using q1
    cases ys with
    | nil =>
      have e2 := ints_end h2
      have hs2 : items2.size = i := by omega
      have q2 : items2[((i : Nat) : Int).toNat]? = none := by simp; omega
      wp_walk using wpAny_loadPart' hl, wpAny_loadPart' hb
      rw [q1', q2]
      wp_walk using wpAny_loadPart' hl, wpAny_loadPart' hb
      show R (.ok (.ret (.bool (decide (items.size ≤ items2.size))))) _
      have : decide (items.size ≤ items2.size) = false := by rw [decide_eq_false_iff_not]; omega
      rw [this]
      simpa [lexI] using h
    | cons y ys =>
      obtain ⟨u, hlt2, q2, r2⟩ := ints_more h2
      have q2' : items2[((i : Nat) : Int).toNat]? = some (.int y u) := by simpa using q2
      have hc : ((i : Int) + 1) = ((i + 1 : Nat) : Int) := by push_cast; rfl
      wp_walk using wpAny_loadPart' hl, wpAny_loadPart' hb
      rw [q1', q2']
      refine wpAny_bind (EqAt.int_int x t y u prog w _ _ ?_)
      by_cases hxy : x = y
      · have hb' : (x == y) = true := by simpa using hxy
        rw [hb']
        wp_walk
        rw [hc]
        exact ⟨plainId_quiet plain_eq_loop _, codeAny_builtin entry_eq_loop (by
          rw [Around.under_plainId plain_eq_loop _]
          exact ih ys (i + 1) r1 r2 hlt hlt2 prog w A R _ ⟨hl, hb, by simpa [lexI, hxy] using h⟩)⟩
      · have hb' : (x == y) = false := by simpa using hxy
        rw [hb']
        wp_walk using wpAny_loadPart' hl, wpAny_loadPart' hb
        rw [q1', q2']
        show wpAny _ _ (compareOp .LtE (.int x t) (.int y u) >>= fun v => ret v) _ _ _
        refine wpAny_bind (PyProof.Rows.le_int ?_)
        wp_walk
        have e2 : decide (x ≤ y) = decide (x < y) := by rw [Bool.eq_iff_iff]; simp only [decide_eq_true_eq]; omega
        rw [e2]
        simpa [lexI, hxy] using h
theorem list_lt (l b : Addr) (items items2 : Array Value) (n n2 : Nat) (dd dd2 : Option Addr) (sl sl2 : Array (Option Value)) (xs ys : List Int) (h1 : IntsAre items.toList xs) (h2 : IntsAre items2.toList ys) :
    Meets (Builtin.«list.__lt__» ⟨[.ref l, .ref b], []⟩)
      (fun A R s => s.heap.get? l = some { cls := .type "list", dict := dd, data := .seq items n, slots := sl } ∧ s.heap.get? b = some { cls := .type "list", dict := dd2, data := .seq items2 n2, slots := sl2 } ∧
        R (.ok (.ret (.bool (lexI false xs ys)))) s) := by
  intro prog w A R s h
  obtain ⟨hp, g, d, tk, os⟩ := s; obtain ⟨hl, hb, h⟩ := h
  have f3 := AutoSeq1.sub_list_list
  wp_walk using wpAny_loadPart' hl, wpAny_loadPart' hb
  exact ⟨plainId_quiet plain_eq_loop _, codeAny_builtin entry_eq_loop (by
    rw [Around.under_plainId plain_eq_loop _]
    exact lt_loop l b items items2 n n2 dd dd2 sl sl2 xs ys 0 h1 h2 (Nat.zero_le _) (Nat.zero_le _) prog w A R _ ⟨hl, hb, h⟩)⟩
theorem lt_lists {prog : Program} {w : World} {A : Around} {E : Value → Shared → Prop} {s : Shared} {l b : Addr} {items items2 : Array Value} {xs ys : List Int} {Q : Value → Shared → Prop} (hl : s.heap.IsList l items) (hb : s.heap.IsList b items2) (h1 : IntsAre items.toList xs) (h2 : IntsAre items2.toList ys) (hu : A.units < cLine)
    (h : Q (.bool (lexI false xs ys)) s) : wpAny (model prog w) A (compareOp .Lt (.ref l) (.ref b)) Q E s := by
  obtain ⟨⟨cls, dd, data, sl⟩, ho, hc, n, hd⟩ := id hl
  obtain ⟨⟨cls2, dd2, data2, sl2⟩, ho2, hc2, n2, hd2⟩ := id hb
  simp only at hc hd hc2 hd2
  subst hc hd hc2 hd2
  exact richCompare_meets_room (op := .Lt) ⟨_, ho, rfl⟩ ⟨_, ho2, rfl⟩ PySem.F.slot_list_lt PySem.F.entry_list_lt (PySem.F.args_list_lt_2 _ _) (list_lt l b items items2 n n2 dd dd2 sl sl2 xs ys h1 h2)
    ⟨ho, ho2, show Value.bool (lexI false xs ys) ≠ Value.notImplemented ∧ Q (.bool (lexI false xs ys)) s from ⟨(fun x => nomatch x), h⟩⟩ hu
theorem list_le (l b : Addr) (items items2 : Array Value) (n n2 : Nat) (dd dd2 : Option Addr) (sl sl2 : Array (Option Value)) (xs ys : List Int) (h1 : IntsAre items.toList xs) (h2 : IntsAre items2.toList ys) :
    Meets (Builtin.«list.__le__» ⟨[.ref l, .ref b], []⟩)
      (fun A R s => s.heap.get? l = some { cls := .type "list", dict := dd, data := .seq items n, slots := sl } ∧ s.heap.get? b = some { cls := .type "list", dict := dd2, data := .seq items2 n2, slots := sl2 } ∧
        R (.ok (.ret (.bool (lexI true xs ys)))) s) := by
  intro prog w A R s h
  obtain ⟨hp, g, d, tk, os⟩ := s; obtain ⟨hl, hb, h⟩ := h
  have f3 := AutoSeq1.sub_list_list
  wp_walk using wpAny_loadPart' hl, wpAny_loadPart' hb
  exact ⟨plainId_quiet plain_eq_loop _, codeAny_builtin entry_eq_loop (by
    rw [Around.under_plainId plain_eq_loop _]
    exact le_loop l b items items2 n n2 dd dd2 sl sl2 xs ys 0 h1 h2 (Nat.zero_le _) (Nat.zero_le _) prog w A R _ ⟨hl, hb, h⟩)⟩
theorem le_lists {prog : Program} {w : World} {A : Around} {E : Value → Shared → Prop} {s : Shared} {l b : Addr} {items items2 : Array Value} {xs ys : List Int} {Q : Value → Shared → Prop} (hl : s.heap.IsList l items) (hb : s.heap.IsList b items2) (h1 : IntsAre items.toList xs) (h2 : IntsAre items2.toList ys) (hu : A.units < cLine)
    (h : Q (.bool (lexI true xs ys)) s) : wpAny (model prog w) A (compareOp .LtE (.ref l) (.ref b)) Q E s := by
  obtain ⟨⟨cls, dd, data, sl⟩, ho, hc, n, hd⟩ := id hl
  obtain ⟨⟨cls2, dd2, data2, sl2⟩, ho2, hc2, n2, hd2⟩ := id hb
  simp only at hc hd hc2 hd2
  subst hc hd hc2 hd2
  exact richCompare_meets_room (op := .LtE) ⟨_, ho, rfl⟩ ⟨_, ho2, rfl⟩ PySem.F.slot_list_le PySem.F.entry_list_le (PySem.F.args_list_le_2 _ _) (list_le l b items items2 n n2 dd dd2 sl sl2 xs ys h1 h2)
    ⟨ho, ho2, show Value.bool (lexI true xs ys) ≠ Value.notImplemented ∧ Q (.bool (lexI true xs ys)) s from ⟨(fun x => nomatch x), h⟩⟩ hu
noncomputable def intsOf : List V → Option (List Int)
  | [] => some []
  | .int i :: r => (intsOf r).map (i :: ·)
  | _ :: _ => none
section
variable {C : Cfg} {ρ : List Addr}
theorem intsOf_rel {h : Heap} : ∀ {vs : List V} {xs : List Value} {ns : List Int}, intsOf vs = some ns → VAll C h ρ vs xs → IntsAre xs ns
  | [], _, _, e, r => by cases e; cases r; exact .nil
  | v :: vs, _, ns, e, ⟨x, xs, q, r, t⟩ => by
    cases q
    cases v with
    | int i =>
      obtain ⟨u, rfl⟩ := r
      obtain ⟨ms, e2, rfl⟩ := Option.map_eq_some_iff.mp e
      exact .cons i u (intsOf_rel e2 t)
    | _ => cases e
end
end Mine
end
section
open PySem PySem.Calls PySem.W PyProof.Rows PySem.SeqAt
set_option maxRecDepth 100000
set_option linter.unusedVariables false
namespace Mine
noncomputable def brW (P : Prop) (Q : Bool → Prop) : Prop := (P → Q true) ∧ (¬ P → Q false)
theorem brW_dec {P : Prop} [Decidable P] {Q : Bool → Prop} (h : brW P Q) : Q (decide P) := by
  by_cases p : P
  · rw [decide_eq_true p]; exact h.1 p
  · rw [decide_eq_false p]; exact h.2 p
theorem brW_says {P : Prop} {K : Bool → Prop} {Q : Bool → Prop} (h : brW P Q) (k : Says K P) : ∃ b, Q b ∧ K b := by
  by_cases p : P
  · exact ⟨true, h.1 p, k _ (iff_of_true rfl p)⟩
  · exact ⟨false, h.2 p, k _ ⟨(fun q => nomatch q), fun q => absurd q p⟩⟩
noncomputable def lexW (e : Bool) (mh : MH) (a b : V) (Q : Bool → Prop) : Prop := itemsW a mh fun as => itemsW b mh fun bs => ∃ xs ys, intsOf as = some xs ∧ intsOf bs = some ys ∧ Q (lexI e xs ys)
noncomputable def cmpW (op : CmpOp) (mh : MH) (a b : V) (Q : Bool → Prop) : Prop :=
  match op with
  | .Lt => (match a with
    | .int x => intW b fun y => brW (x < y) Q
    | .str x => strW b fun y => brW (x < y) Q
    | .list x => lexW false mh (.list x) b Q
    | _ => False)
  | .LtE => (match a with
    | .int x => intW b fun y => brW (x ≤ y) Q
    | .list x => lexW true mh (.list x) b Q
    | _ => False)
  | .Gt => intW a fun x => intW b fun y => brW (y < x) Q
  | .GtE => intW a fun x => intW b fun y => brW (y ≤ x) Q
  | .Eq => eqok 8 (derefV mh a) (derefV mh b) ∧ brW (derefV mh a = derefV mh b) Q
  | .NotEq => eqok 8 (derefV mh a) (derefV mh b) ∧ brW (¬ derefV mh a = derefV mh b) Q
  | .Is => b = .none ∧ brW (a = .none) Q
  | .IsNot => b = .none ∧ brW (¬ a = .none) Q
  | .In => itemsW b mh fun vs => (∀ v ∈ vs, eqok 8 v a) ∧ brW (∃ v ∈ vs, v = a) Q
  | _ => False
section
variable {C : Cfg} {A : Around} {ρ : List Addr} {mh : MH} {s : Shared}
theorem VRel.plain_none {a : V} {x : Value} {h : Heap} (r : VRel C h ρ a x) : plainIs x .none = true ∧ ((x == Value.none) = true ↔ a = .none) := by
  cases a with
  | none => cases r; exact ⟨rfl, iff_of_true rfl rfl⟩
  | bool b => cases r; exact ⟨rfl, (fun q => nomatch q), (fun q => nomatch q)⟩
  | int i => obtain ⟨_, rfl⟩ := r; exact ⟨rfl, (fun q => nomatch q), (fun q => nomatch q)⟩
  | str l => obtain ⟨_, rfl⟩ := r; exact ⟨rfl, (fun q => nomatch q), (fun q => nomatch q)⟩
  | bytes l => obtain ⟨_, rfl⟩ := r; exact ⟨rfl, (fun q => nomatch q), (fun q => nomatch q)⟩
  | list l => obtain ⟨_, _, rfl, _⟩ := r; exact ⟨rfl, (fun q => nomatch q), (fun q => nomatch q)⟩
  | tup l => obtain ⟨_, _, rfl, _⟩ := r; exact ⟨rfl, (fun q => nomatch q), (fun q => nomatch q)⟩
  | «mut» i => obtain ⟨_, rfl, _⟩ := r; exact ⟨rfl, (fun q => nomatch q), (fun q => nomatch q)⟩
  | fn f => cases r.1; exact ⟨rfl, (fun q => nomatch q), (fun q => nomatch q)⟩
  | rng a b c => obtain ⟨_, _, _, _, rfl, _⟩ := r; exact ⟨rfl, (fun q => nomatch q), (fun q => nomatch q)⟩
theorem deref_list {a : V} {as : List V} (h : derefV mh a = .list as) : itemsOf mh a = some as := by
  unfold derefV at h
  cases e : itemsOf mh a with
  | some vs => rw [e] at h; cases h; rfl
  | none => rw [e] at h; cases h; exact e.symm
theorem deref_flat {a : V} (h : ∀ l, derefV mh a ≠ .list l) : derefV mh a = a := by
  cases e : itemsOf mh a with
  | some vs => exact absurd (by unfold derefV; rw [e]) (h vs)
  | none => unfold derefV; rw [e]
theorem flat_not {a b : V} (h : flatOk a b) : (∀ l, a ≠ .list l) ∧ (∀ l, b ≠ .list l) := by
  cases a with
  | none => cases h; exact ⟨(fun _ q => nomatch q), (fun _ q => nomatch q)⟩
  | bool _ => obtain ⟨_, rfl⟩ := h; exact ⟨(fun _ q => nomatch q), (fun _ q => nomatch q)⟩
  | int _ => obtain ⟨_, rfl⟩ := h; exact ⟨(fun _ q => nomatch q), (fun _ q => nomatch q)⟩
  | str _ => obtain ⟨_, rfl⟩ := h; exact ⟨(fun _ q => nomatch q), (fun _ q => nomatch q)⟩
  | bytes _ => obtain ⟨_, rfl⟩ := h; exact ⟨(fun _ q => nomatch q), (fun _ q => nomatch q)⟩
  | _ => exact h.elim
theorem eq_deref {a b : V} {x y : Value} (ha : eqok 8 (derefV mh a) (derefV mh b)) (co : Co C ρ mh s.heap) (ra : VRel C s.heap ρ a x) (rb : VRel C s.heap ρ b y) (hu : A.units + 20 < cLine) :
    Says (RcAt A s x y) (derefV mh a = derefV mh b) ∧ Says (fun e => RcNeAt A s x y (!e)) (derefV mh a = derefV mh b) := by
  rcases ha with f | ⟨as, bs, e1, e2, hz⟩
  · have n := flat_not f
    rw [deref_flat n.1, deref_flat n.2] at f ⊢
    exact (flat_says f ra rb).2
  · rw [e1, e2]
    obtain ⟨l, xs, rfl, hl, r⟩ := items_rel co (deref_list e1) ra
    obtain ⟨m, ys, rfl, hm, q⟩ := items_rel co (deref_list e2) rb
    have := says_list hz hl r hm q (Nat.lt_of_le_of_lt (Nat.le_add_right ..) hu) (fun a b x y => eqAt_ 7 A.in1 a b x y (by show A.units + 1 + 7 < cLine; omega))
    exact ⟨says_list_eq this.1, says_list_eq this.2⟩
theorem deref_all {l : Addr} {vs : List V} {ys : List Value} {a : V} {x : Value} {Q : Value → Shared → Prop} {Q' : Bool → Prop} (hl : s.heap.IsList l ys.toArray) (r : VAll C s.heap ρ vs ys) (hall : ∀ v ∈ vs, eqok 8 v a) (ra : VRel C s.heap ρ a x)
    (hu : A.units + 20 < cLine) (hq : brW (∃ v ∈ vs, v = a) Q') (h : ∀ b, Q' b → Q (.bool b) s) : WP C A (compareOp .In x (.ref l)) Q s := by
  classical
  have key : ∀ y, y ∈ ys.toArray → EqAt A.in1 s y x (decide (VRel C s.heap ρ a y)) := by
    intro y hy
    obtain ⟨j, hj⟩ := List.getElem?_of_mem (List.mem_toArray.mp hy)
    obtain ⟨v, e1, q1⟩ := r.get' hj
    have ek := hall v (List.mem_of_getElem? e1)
    exact eqAt_ 8 A.in1 v a y x (by show A.units + 1 + 8 < cLine; omega) ek q1 ra _ (decide_eq_true_iff.trans ⟨fun q => rel_inj 8 v a y ek q1 q, fun q => q ▸ q1⟩)
  refine in_listAt _ hl key ?_
  have hk : Says (fun e => (ys.toArray.any fun y => decide (VRel C s.heap ρ a y)) = e) (∃ v ∈ vs, v = a) := by
    refine fun e he => Bool.eq_iff_iff.mpr (Iff.trans ?_ he.symm)
    rw [List.any_toArray, List.any_eq_true]
    constructor
    · rintro ⟨y, hy, e⟩
      obtain ⟨j, hj⟩ := List.getElem?_of_mem hy
      obtain ⟨v, e1, q1⟩ := r.get' hj
      have hv := List.mem_of_getElem? e1
      exact ⟨v, hv, rel_inj 8 v a y (hall v hv) q1 (of_decide_eq_true e)⟩
    · rintro ⟨v, hv, rfl⟩
      obtain ⟨j, hj⟩ := List.getElem?_of_mem hv
      obtain ⟨y, e1, q1⟩ := r.get hj
      exact ⟨y, List.mem_of_getElem? e1, decide_eq_true q1⟩
  obtain ⟨b, hb, hk⟩ := brW_says hq hk
  rw [hk]; exact h b hb
noncomputable def Ans (s : Shared) (Q : Bool → Prop) (r : Value) (s' : Shared) : Prop := ∃ b, r = .bool b ∧ s' = s ∧ Q b
theorem Ans.dec {P : Prop} [Decidable P] {Q : Bool → Prop} (h : brW P Q) : Ans s Q (.bool (decide P)) s := ⟨_, rfl, rfl, brW_dec h⟩
theorem lex_ {e : Bool} {a b : V} {x y : Value} {Q : Bool → Prop} {op : CmpOp} (h : lexW e mh a b Q) (co : Co C ρ mh s.heap) (ra : VRel C s.heap ρ a x) (rb : VRel C s.heap ρ b y)
    (k : ∀ (l m : Addr) (xs ys : Array Value) (as bs : List Int), s.heap.IsList l xs → s.heap.IsList m ys → IntsAre xs.toList as → IntsAre ys.toList bs → Ans s Q (.bool (lexI e as bs)) s → WP C A (compareOp op (.ref l) (.ref m)) (Ans s Q) s) :
    WP C A (compareOp op x y) (Ans s Q) s := by
  obtain ⟨as, e1, bs, e2, xs, ys, e3, e4, q⟩ := h
  obtain ⟨l, us, rfl, hl, r1⟩ := items_rel co e1 ra
  obtain ⟨m, ws, rfl, hm, r2⟩ := items_rel co e2 rb
  exact k l m _ _ _ _ hl hm (intsOf_rel e3 r1) (intsOf_rel e4 r2) ⟨_, rfl, rfl, q⟩
theorem cmpop_ {k : Nat} {op : CmpOp} {a b : V} {x y : Value} {Q : Bool → Prop} (h : cmpW op mh a b Q) (co : Co C ρ mh s.heap) (ra : VRel C s.heap ρ a x) (rb : VRel C s.heap ρ b y) (hA : Rm k A) :
    WP C A (compareOp op x y) (Ans s Q) s := by
  cases op with
  | Lt =>
    cases a with
    | int i =>
      obtain ⟨j, rfl, h⟩ := intW_inv h
      obtain ⟨t, rfl⟩ := ra; obtain ⟨u, rfl⟩ := rb
      exact PyProof.Rows.lt_int (.dec h)
    | str i =>
      obtain ⟨j, rfl, h⟩ := strW_inv h
      obtain ⟨t, rfl⟩ := ra; obtain ⟨u, rfl⟩ := rb
      exact PyProof.Rows.lt_str (.dec h)
    | list vs => exact lex_ h co ra rb fun l m xs ys as bs h1 h2 h3 h4 q => lt_lists h1 h2 h3 h4 hA.u0 q
    | _ => exact h.elim
  | LtE =>
    cases a with
    | int i =>
      obtain ⟨j, rfl, h⟩ := intW_inv h
      obtain ⟨t, rfl⟩ := ra; obtain ⟨u, rfl⟩ := rb
      exact PyProof.Rows.le_int (.dec h)
    | list vs => exact lex_ h co ra rb fun l m xs ys as bs h1 h2 h3 h4 q => le_lists h1 h2 h3 h4 hA.u0 q
    | _ => exact h.elim
  | Gt =>
    obtain ⟨i, rfl, h⟩ := intW_inv h; obtain ⟨j, rfl, h⟩ := intW_inv h
    obtain ⟨t, rfl⟩ := ra; obtain ⟨u, rfl⟩ := rb
    exact PyProof.Rows.gt_int (.dec h)
  | GtE =>
    obtain ⟨i, rfl, h⟩ := intW_inv h; obtain ⟨j, rfl, h⟩ := intW_inv h
    obtain ⟨t, rfl⟩ := ra; obtain ⟨u, rfl⟩ := rb
    exact PyProof.Rows.ge_int (.dec h)
  | Eq =>
    obtain ⟨b, hb, k⟩ := brW_says h.2 (eq_deref h.1 co ra rb hA.u20).1
    exact k C.prog C.w NoE _ ⟨_, rfl, rfl, hb⟩
  | NotEq =>
    obtain ⟨b, hb, k⟩ := brW_says (Q := fun b => Q (!b)) ⟨fun p => h.2.2 (fun n => n p), fun p => h.2.1 p⟩ (eq_deref h.1 co ra rb hA.u20).2
    exact k C.prog C.w NoE _ ⟨_, rfl, rfl, hb⟩
  | Is =>
    obtain ⟨rfl, h⟩ := h
    cases rb
    obtain ⟨b, hb, rfl⟩ := brW_says (K := fun e => (x == Value.none) = e) h (fun e he => Bool.eq_iff_iff.mpr (ra.plain_none.2.trans he.symm))
    exact wpAny_is_plain ra.plain_none.1 ⟨_, rfl, rfl, hb⟩
  | IsNot =>
    obtain ⟨rfl, h⟩ := h
    cases rb
    obtain ⟨b, hb, rfl⟩ := brW_says (K := fun e => (!(x == Value.none)) = e) h (fun e he => Bool.eq_iff_iff.mpr (by rw [he, Bool.not_eq_true', ← Bool.not_eq_true, ra.plain_none.2]))
    exact wpAny_isNot_plain ra.plain_none.1 ⟨_, rfl, rfl, hb⟩
  | In =>
    obtain ⟨vs, hi, hall, h⟩ := h
    obtain ⟨l, ys, rfl, hl, r⟩ := items_rel co hi rb
    exact deref_all hl r hall ra hA.u20 h fun b hb => ⟨b, rfl, rfl, hb⟩
  | _ => exact h.elim
end
end Mine
end
section
open PySem PySem.Calls PySem.W PyProof.Rows PySem.SeqAt
set_option maxRecDepth 100000
set_option linter.unusedVariables false
namespace Mine
noncomputable def truthW (v : V) (Q : Bool → Prop) : Prop := match v with
  | .none => Q false
  | .bool b => Q b
  | .int i => brW (¬ i = 0) Q
  | _ => False
noncomputable def cutL {α : Type} (l : List α) (lo hi : Option Int) : List α := (match hi with | none => l | some b => l.take b.toNat).drop (lo.getD 0).toNat
noncomputable def pickL {α : Type} (l : List α) (lo hi st : Option Int) : List α :=
  (sliceRange (sliceBounds lo hi st l.length).1 (sliceBounds lo hi st l.length).2.1 (sliceBounds lo hi st l.length).2.2).filterMap (l[·]?)
noncomputable def nonNeg (o : Option Int) : Prop := ∀ i, o = some i → 0 ≤ i
theorem nn0 : nonNeg none := fun _ e => nomatch e
theorem nn1 {i : Int} (h : 0 ≤ i) : nonNeg (some i) := fun _ e => by cases e; exact h
noncomputable def itemW (mh : MH) (o i : V) (Q : V → Prop) : Prop := intW i fun k => itemsW o mh fun vs => vs.length ≤ lim ∧ ∃ v, ((0 ≤ k ∧ vs[k.toNat]? = some v) ∨ (k < 0 ∧ 0 ≤ k + vs.length ∧ vs[(k + vs.length).toNat]? = some v)) ∧ Q v
noncomputable def partW (v : V) (K : Option Int → Prop) : Prop := match v with
  | .none => K none
  | .int i => K (some i)
  | _ => False
noncomputable def sliceL (mh : MH) (o : V) (lo hi st : Option Int) (Q : V → Prop) : Prop := itemsW o mh fun vs => vs.length ≤ lim ∧ ((st = none ∧ nonNeg lo ∧ nonNeg hi ∧ Q (.list (cutL vs lo hi))) ∨ (∃ k, st = some k ∧ k ≠ 0 ∧ Q (.list (pickL vs lo hi st))))
noncomputable def sliceW (mh : MH) (o : V) (lo hi st : Option Int) (Q : V → Prop) : Prop :=
  match o with
  | .bytes l => (st = none ∧ nonNeg lo ∧ nonNeg hi ∧ l.length ≤ lim) ∧ Q (.bytes (cutL l lo hi))
  | .str l => (st = none ∧ nonNeg lo ∧ nonNeg hi ∧ l.length ≤ lim) ∧ Q (.str (cutL l lo hi))
  | .list l => sliceL mh (.list l) lo hi st Q
  | .mut l => sliceL mh (.mut l) lo hi st Q
  | _ => False
theorem clip_eq {n : Nat} {i : Int} (h : 0 ≤ i) : clipAt n i = min i.toNat n := by
  obtain ⟨m, rfl⟩ := Int.eq_ofNat_of_zero_le h
  exact clipAt_nat n m
theorem drop_min {α : Type} (l : List α) (a : Nat) : l.drop (min a l.length) = l.drop a := by
  rcases Nat.le_total a l.length with h | h
  · rw [Nat.min_eq_left h]
  · rw [Nat.min_eq_right h, List.drop_of_length_le (Nat.le_refl _), List.drop_of_length_le h]
theorem take_min {α : Type} (l : List α) (a : Nat) : l.take (min a l.length) = l.take a := by
  rcases Nat.le_total a l.length with h | h
  · rw [Nat.min_eq_left h]
  · rw [Nat.min_eq_right h, List.take_of_length_le (Nat.le_refl _), List.take_of_length_le h]
theorem cut_drop {α : Type} (l : List α) (a b : Nat) : (l.drop (min a l.length)).take (b - min a l.length) = (l.take b).drop a := by
  rw [List.drop_take, drop_min]
  rcases Nat.le_total a l.length with h | h
  · rw [Nat.min_eq_left h]
  · rw [List.drop_of_length_le h, List.take_nil, List.take_nil]
theorem cut_eq {α : Type} (l : List α) (lo hi : Option Int) (h1 : nonNeg lo) (h2 : nonNeg hi) :
    (l.drop (lo.elim 0 (clipAt l.length))).take (hi.elim l.length (clipAt l.length) - lo.elim 0 (clipAt l.length)) = cutL l lo hi := by
  have e1 : lo.elim 0 (clipAt l.length) = min (lo.getD 0).toNat l.length := by
    cases lo with
    | none => exact (Nat.zero_min _).symm
    | some a => exact clip_eq (h1 a rfl)
  rw [e1]
  cases hi with
  | none =>
    show (l.drop _).take (l.length - _) = l.drop _
    rw [cut_drop, List.take_length]
  | some b =>
    show (l.drop _).take (clipAt l.length b - _) = (l.take b.toNat).drop _
    rw [clip_eq (h2 b rfl), cut_drop, take_min]
theorem cutL_len {α : Type} (l : List α) (lo hi : Option Int) : (cutL l lo hi).length ≤ l.length := by
  unfold cutL
  rw [List.length_drop]
  refine Nat.le_trans (Nat.sub_le ..) ?_
  cases hi with
  | none => exact Nat.le_refl _
  | some b => rw [List.length_take]; exact Nat.min_le_right ..
section
variable {C : Cfg} {A : Around} {ρ : List Addr} {mh : MH} {s : Shared} {Q : V → MH → Prop}
theorem VAll.cut {h : Heap} {vs : List V} {xs : List Value} (r : VAll C h ρ vs xs) (lo hi : Option Int) : VAll C h ρ (cutL vs lo hi) (cutL xs lo hi) := by
  unfold cutL
  cases hi with
  | none => exact r.drop _
  | some b => exact (r.take _).drop _
theorem VAll.filt {h : Heap} {vs : List V} {xs : List Value} (r : VAll C h ρ vs xs) : ∀ is : List Nat, VAll C h ρ (is.filterMap (vs[·]?)) (is.filterMap (xs[·]?))
  | [] => .nil
  | i :: is => by
    cases e : vs[i]? with
    | none =>
      have e' : xs[i]? = none := List.getElem?_eq_none (r.length ▸ List.getElem?_eq_none_iff.mp e)
      rw [List.filterMap_cons_none e, List.filterMap_cons_none e']
      exact VAll.filt r is
    | some v =>
      obtain ⟨x, e', q⟩ := r.get e
      rw [List.filterMap_cons_some e, List.filterMap_cons_some e']
      exact .cons q (VAll.filt r is)
theorem VAll.pick {h : Heap} {vs : List V} {xs : List Value} (r : VAll C h ρ vs xs) (lo hi st : Option Int) : VAll C h ρ (pickL vs lo hi st) (pickL xs lo hi st) := by
  unfold pickL
  rw [r.length]
  exact r.filt _
theorem truthy_ {a : V} {x : Value} {K : Bool → Prop} (h : truthW a K) (ra : VRel C s.heap ρ a x) : WP C A (truthy x) (fun r s' => s' = s ∧ K r) s := by
  cases a with
  | none => cases ra; exact truthy_none ⟨rfl, h⟩
  | bool b => cases ra; exact wpAny_truthy_bool ⟨rfl, h⟩
  | int i => obtain ⟨t, rfl⟩ := ra; exact PyProof.Rows.truthy_int ⟨rfl, by rw [show (i != 0) = decide (¬ i = 0) from Bool.eq_iff_iff.mpr (bne_iff_ne.trans decide_eq_true_iff.symm)]; exact brW_dec h⟩
  | _ => exact h.elim
theorem not_slice_sub {slice : Expr} {o i : Value} (hs : ∀ l u st p, slice ≠ .Slice l u st p) : subscripted slice false o i = operate [o, i] (getItem o i) := by
  cases slice <;> first | rfl | exact absurd rfl (hs _ _ _ _)
theorem slice_sub {l u st : Option Expr} {p : Pos} {o i : Value} : ∃ ops, subscripted (.Slice l u st p) false o i = operate ops (getItem o i) := by
  cases st <;> exact ⟨_, rfl⟩
theorem arr_get {xs : List Value} {n : Nat} {x : Value} (e : xs[n]? = some x) : xs.toArray[n]? = some x := by rw [List.getElem?_toArray]; exact e
theorem item_ {value slice : Expr} {o i : V} {x y : Value} (h : itemW mh o i fun v => Q v mh) (co : Co C ρ mh s.heap) (ra : VRel C s.heap ρ o x) (rb : VRel C s.heap ρ i y) (hs : ∀ l u st p, slice ≠ .Slice l u st p) :
    WP C A (subscriptTail value slice x y) (PostQ C ρ s Q) s := by
  obtain ⟨k, rfl, vs, hi, hlim, v, hv, h⟩ := intW_inv h
  obtain ⟨u, rfl⟩ := rb
  obtain ⟨l, xs, rfl, hl, r⟩ := items_rel co hi ra
  refine tail_any hl.typeIs slot_list_getitem.lookup ?_ (not_slice_sub hs)
  have hxl : xs.length ≤ 1048576 := r.length ▸ hlim
  rcases hv with ⟨h0, hv⟩ | ⟨h0, h1, hv⟩
  · obtain ⟨x, e, q⟩ := r.get hv
    have hk : k.toNat < xs.length := (List.getElem?_eq_some_iff.mp e).1
    exact wpAny_getItem_list hl h0 (by omega) (arr_get e) (PostQ.pure h co q)
  · obtain ⟨x, e, q⟩ := r.get hv
    have hlen := r.length
    exact wpAny_getItem_list_neg hl h0 (by rw [List.size_toArray]; omega) (by omega) (arr_get (by rw [List.size_toArray, ← hlen]; exact e)) (PostQ.pure h co q)
theorem part_rel {h : Heap} {a : V} {x : Value} {K : Option Int → Prop} (e : partW a K) (r : VRel C h ρ a x) : ∃ p, IsPart x p ∧ K p := by
  cases a with
  | none => cases r; exact ⟨none, .none, e⟩
  | int i => obtain ⟨t, rfl⟩ := r; exact ⟨some i, .int i t, e⟩
  | _ => exact e.elim
theorem part_value {x : Value} {p : Option Int} (h : IsPart x p) : ∃ l' : Option (Int × Tok), x = partValue l' ∧ l'.map (·.1) = p := by
  cases h with
  | none => exact ⟨none, rfl, rfl⟩
  | int i u => exact ⟨some (i, u), rfl, rfl⟩
theorem str_idx (lo hi : Option Int) (n : Nat) : Builtin.Str.strSliceIndices lo hi 1 n = sliceRange (sliceBounds lo hi none n).1 (sliceBounds lo hi none n).2.1 1 := by
  cases lo <;> cases hi <;> rfl
theorem clip_le (n : Nat) (i : Int) : clipAt n i ≤ n := by have := clipAt_cast n i; omega
theorem str_slice_made {l : List Nat} {t : Tok} {lo hi : Option Int} (h1 : nonNeg lo) (h2 : nonNeg hi) (l' u' : Option (Int × Tok)) (e1 : l'.map (·.1) = lo) (e2 : u'.map (·.1) = hi) {R : Value → Shared → Prop} {s : Shared} (hz : l.length ≤ lim)
    (hR : ∀ t' k, R (.str ⟨(cutL l lo hi).toArray⟩ t') { s with toks := k }) : (sliceMade ⟨l.toArray⟩ t l' u' none).post R s := by
  have e3 : slicePicked ⟨l.toArray⟩ l' u' none = sliceRange (sliceBounds lo hi none l.length).1 (sliceBounds lo hi none l.length).2.1 1 := by
    unfold slicePicked; rw [e1, e2]; exact str_idx lo hi l.length
  have key : (slicePicked ⟨l.toArray⟩ l' u' none).filterMap (l.toArray[·]?) = cutL l lo hi := by
    rw [e3, sliceBounds_plain]
    simp only [sliceRange_one, pick_run]
    exact cut_eq l lo hi h1 h2
  unfold sliceMade
  split
  · rename_i hc
    rw [Bool.and_eq_true, beq_iff_eq, beq_iff_eq] at hc
    have hc := hc.2
    rw [e3, sliceBounds_plain] at hc
    simp only [sliceRange_one, List.length_map, List.length_range] at hc
    have hl0 : Str.length ⟨l.toArray⟩ = l.length := List.size_toArray ..
    have hhi : hi.elim l.length (clipAt l.length) ≤ l.length := by cases hi with | none => exact Nat.le_refl _ | some b => exact clip_le ..
    have hlo : lo.elim 0 (clipAt l.length) ≤ l.length := by cases lo with | none => exact Nat.zero_le _ | some b => exact clip_le ..
    have hlen : cutL l lo hi = l := by
      rw [← cut_eq l lo hi h1 h2, show lo.elim 0 (clipAt l.length) = 0 by omega]
      exact List.take_of_length_le (by rw [List.drop_zero]; omega)
    have := hR t s.toks
    rw [hlen] at this
    exact this
  · refine ⟨?_, ?_⟩
    · show ((slicePicked ⟨l.toArray⟩ l' u' none).filterMap (l.toArray[·]?)).toArray.size ≤ sizeLine
      rw [key, List.size_toArray]
      exact Nat.le_trans (cutL_len _ _ _) (lim_le hz)
    · show R (.str ⟨((slicePicked ⟨l.toArray⟩ l' u' none).filterMap (l.toArray[·]?)).toArray⟩ s.toks) _
      rw [key]; exact hR _ _
theorem slice_list {value : Expr} {el eu es : Option Expr} {p : Pos} {o : V} {lo hi st : Option Int} {x vl vu vs : Value} (h : sliceL mh o lo hi st fun v => Q v mh) (co : Co C ρ mh s.heap) (ra : VRel C s.heap ρ o x) (pl : IsPart vl lo) (pu : IsPart vu hi) (ps : IsPart vs st) :
    WP C A (subscriptTail value (.Slice el eu es p) x (.ref s.heap.objs.size)) (PostQ C ρ s Q) { s with heap := s.heap.push { cls := .type "slice", data := .fields #[vl, vu, vs] } } := by
  obtain ⟨us, hi', hlim, h⟩ := h
  obtain ⟨l, xs, rfl, hl, r⟩ := items_rel co hi' ra
  obtain ⟨ops, hops⟩ := slice_sub (l := el) (u := eu) (st := es) (p := p) (o := .ref l) (i := .ref s.heap.objs.size)
  have kp := up_push (h := s.heap) { cls := .type "slice", data := .fields #[vl, vu, vs] }
  have hsz : xs.toArray.size ≤ sizeLine := by rw [List.size_toArray, ← r.length]; exact lim_le hlim
  have main : ∀ {ws : List V}, st ≠ some 0 → Q (.list ws) mh → VAll C s.heap ρ ws (slicePick xs.toArray lo hi st).toList → WP C A (subscriptTail value (.Slice el eu es p) (.ref l) (.ref s.heap.objs.size)) (PostQ C ρ s Q) { s with heap := s.heap.push { cls := .type "slice", data := .fields #[vl, vu, vs] } } := by
    intro ws st0 q r'
    refine tail_any (Heap.IsList.typeIs (s := { s with heap := _ }) (hl.push _)) slot_list_getitem.lookup (wpAny_getItem_list_slice (hl.push _) (Heap.IsSliceOf.new ..) pl pu ps st0 ?_ hsz) hops
    have q' := rel_new (s := { s with heap := s.heap.push { cls := .type "slice", data := .fields #[vl, vu, vs] } }) (n := 0) (co.keepAll kp) (r'.keep (Keep.of_all kp).d)
    rw [Array.toArray_toList] at q'
    exact PostQ.grow q co (fun b o e => up_push _ b o (kp b o e)) q'
  rcases h with ⟨rfl, n1, n2, q⟩ | ⟨k, rfl, hk, q⟩
  · refine main (fun e => nomatch e) q ?_
    rw [slicePick_plain]
    have := r.cut lo hi
    rw [← cut_eq xs lo hi n1 n2] at this
    simpa using this
  · exact main (fun e => hk (Option.some.inj e)) q (by have := r.pick lo hi (some k); simpa [slicePick, pickL] using this)
theorem slice_ {value : Expr} {el eu es : Option Expr} {p : Pos} {o : V} {lo hi st : Option Int} {x vl vu vs : Value} (h : sliceW mh o lo hi st fun v => Q v mh) (co : Co C ρ mh s.heap) (ra : VRel C s.heap ρ o x) (pl : IsPart vl lo) (pu : IsPart vu hi) (ps : IsPart vs st) :
    WP C A (subscriptTail value (.Slice el eu es p) x (.ref s.heap.objs.size)) (PostQ C ρ s Q) { s with heap := s.heap.push { cls := .type "slice", data := .fields #[vl, vu, vs] } } := by
  cases o with
  | list l => exact slice_list h co ra pl pu ps
  | «mut» l => exact slice_list h co ra pl pu ps
  | bytes l =>
    obtain ⟨⟨rfl, h1, h2, h3⟩, h⟩ := h
    obtain ⟨t, rfl⟩ := ra; cases ps
    obtain ⟨ops, hops⟩ := slice_sub (l := el) (u := eu) (st := es) (p := p) (o := .bytes l.toArray t) (i := .ref s.heap.objs.size)
    refine tail_any (typeIs_bytes _ _ _) FB.slot_bytes_getitem.lookup (getItem_meets (typeIs_bytes _ _ _) (by decide) FB.slot_bytes_getitem FB.entry_bytes_getitem (FB.args_bytes_getitem_2 _ _) (KBc.meets_slice2 _ _ _ pl pu)
      ⟨Heap.IsSliceOf.new _ _ _ _, Nat.le_trans (KBc.size_picked_le _ _ _) (by rw [List.size_toArray]; exact lim_le h3), fun t' k => ?_⟩) hops
    rw [KBc.picked_eq, List.size_toArray, cut_eq _ _ _ h1 h2]
    exact PostQ.grow h co (up_push _) (.bytes _ _)
  | str l =>
    obtain ⟨⟨rfl, h1, h2, h3⟩, h⟩ := h
    obtain ⟨t, rfl⟩ := ra; cases ps
    obtain ⟨ops, hops⟩ := slice_sub (l := el) (u := eu) (st := es) (p := p) (o := .str ⟨l.toArray⟩ t) (i := .ref s.heap.objs.size)
    obtain ⟨l', rfl, e1⟩ := part_value pl
    obtain ⟨u', rfl, e2⟩ := part_value pu
    exact tail_any (typeIs_str _ _ _) F.slot_str_getitem.lookup (wpAny_getItem_str_slice (l := l') (u := u') (st := none) ⟨_, Heap.get?_push_size _ rfl, rfl, rfl⟩ rfl (str_slice_made h1 h2 l' u' e1 e2 h3 fun t' k => PostQ.grow h co (up_push _) (.str _ _))) hops
  | _ => exact h.elim
end
end Mine
end
section
open PySem PySem.Calls PySem.W PyProof.Rows PySem.SeqAt
open PySem.AutoSeq1 (wpAny_loadPart')
set_option maxRecDepth 100000
set_option linter.unusedVariables false
namespace Mine
inductive Prim where
  | len | abs | int | divmod | range | sum
  | bytes
  | sorted | list
deriving DecidableEq
noncomputable def Prim.val : Prim → Value
  | .len => .builtin "len"
  | .abs => .builtin "abs"
  | .int => .type "int"
  | .divmod => .builtin "divmod"
  | .range => .type "range"
  | .sum => .builtin "sum"
  | .bytes => .type "bytes"
  | .sorted => .builtin "sorted"
  | .list => .type "list"
noncomputable def rngSize (a b c : Int) : Int := Builtin.Range.rangeSize a b c
noncomputable def arg1 (args : List V) (K : V → Prop) : Prop := match args with
  | [] => False
  | v :: r => (match r with
    | [] => K v
    | _ :: _ => False)
noncomputable def arg2 (args : List V) (K : V → V → Prop) : Prop := match args with
  | [] => False
  | v :: r => arg1 r (K v)
theorem arg1_inv {args : List V} {K : V → Prop} (h : arg1 args K) : ∃ v, args = [v] ∧ K v := by
  cases args with
  | nil => exact h.elim
  | cons v r =>
    cases r with
    | nil => exact ⟨v, rfl, h⟩
    | cons _ _ => exact h.elim
theorem arg2_inv {args : List V} {K : V → V → Prop} (h : arg2 args K) : ∃ v w, args = [v, w] ∧ K v w := by
  cases args with
  | nil => exact h.elim
  | cons v r => obtain ⟨w, rfl, h⟩ := arg1_inv h; exact ⟨v, w, rfl, h⟩
noncomputable def lenL (mh : MH) (v : V) (Q : V → Prop) : Prop := itemsW v mh fun vs => vs.length ≤ lim ∧ Q (.int vs.length)
noncomputable def lenW (mh : MH) (v : V) (Q : V → Prop) : Prop := match v with
  | .str l => l.length ≤ lim ∧ Q (.int l.length)
  | .list l => lenL mh (.list l) Q
  | .mut l => lenL mh (.mut l) Q
  | _ => False
noncomputable def primW (mh : MH) (f : Prim) (args : List V) (Q : V → Prop) : Prop :=
  match f with
  | .len => arg1 args fun v => lenW mh v Q
  | .abs => arg1 args fun v => intW v fun i => Q (.int i.natAbs)
  | .int => arg1 args fun v => intW v fun i => Q (.int i)
  | .divmod => arg2 args fun v w => intW v fun x => intW w fun y => (0 < y ∧ y.natAbs < big) ∧ Q (.tup [.int (x / y), .int (x % y)])
  | .range => (match args with
    | [] => False
    | v :: r => intW v fun n => (match r with
      | [] => Q (.rng 0 n 1)
      | w :: r => intW w fun b => (match r with
        | [] => Q (.rng n b 1)
        | u :: r => intW u fun c => (match r with
          | [] => (0 < c ∧ c.natAbs < 2 ^ 40) ∧ Q (.rng n b c)
          | _ :: _ => False))))
  | .sum => arg1 args fun v => itemsW v mh fun vs => ∃ ns, intsOf vs = some ns ∧ Q (.int ns.sum)
  | .bytes => arg1 args fun v => itemsW v mh fun vs => ∃ ns : List Int, intsOf vs = some ns ∧ ns.length ≤ lim ∧ (∀ n ∈ ns, 0 ≤ n ∧ n < 256) ∧ Q (.bytes (ns.map fun n => n.toNat.toUInt8))
  | .sorted => arg1 args fun v => itemsW v mh fun vs => ∃ ns : List Int, intsOf vs = some ns ∧ ns.length < 64 ∧ ∀ ns' : List Int, ns'.Perm ns → ns'.Pairwise (· ≤ ·) → Q (.list (ns'.map .int))
  | .list => arg1 args fun v => bytesW v fun l => l.length ≤ lim ∧ Q (.list (l.map fun c => .int (c.toNat : Int)))
section
variable {C : Cfg} {A : Around} {ρ : List Addr} {mh : MH} {s : Shared} {Q : V → MH → Prop}
theorem rel_at {h' : Heap} {a : Addr} {vs : List V} {xs : Array Value} (co : Co C ρ mh s.heap) (ha : s.heap.objs.size ≤ a) (hl : h'.IsList a xs) (r : VAll C h' ρ vs xs.toList) : VRel C h' ρ (.list vs) (.ref a) :=
  .list (xs := xs.toList) (by rw [Array.toArray_toList]; exact hl) (co.fresh ha) r
theorem ints_rel {h : Heap} : ∀ {xs : List Value} {ns : List Int}, IntsAre xs ns → VAll C h ρ (ns.map .int) xs
  | _, _, .nil => .nil
  | _, _, .cons n t r => .cons (.int n t) (ints_rel r)
theorem sum_ {l : Addr} {xs : List Value} {ns : List Int} (q : Q (.int ns.sum) mh) (co : Co C ρ mh s.heap) (hh : A.handled = none) (hl : s.heap.IsList l xs.toArray) (hi : IntsAre xs ns) : WP C A (call (.builtin "sum") [.ref l]) (PostQ C ρ s Q) s := by
  obtain ⟨ys, hx⟩ := hi.allInts.items
  have hn : numsOf xs.toArray.toList = ns := hi.numsOf
  rw [hx] at hl hn
  rw [nums_intItems] at hn
  refine sum_intListG hh hl fun h' tk t' hk => ?_
  rw [preSum_eq, List.take_of_length_le (by simp), hn]
  exact PostQ.grow q co hk (.int _ _)
theorem len_list {v : V} {x : Value} (h : lenL mh v fun u => Q u mh) (co : Co C ρ mh s.heap) (ra : VRel C s.heap ρ v x) : WP C A (call (.builtin "len") [x]) (PostQ C ρ s Q) s := by
  obtain ⟨vs, hi, hz, h⟩ := h
  obtain ⟨l, ys, rfl, hl, q⟩ := items_rel co hi ra
  have hz' : vs.length ≤ 1048576 := hz
  refine call_len_list hl (by rw [List.size_toArray, ← q.length]; omega) ?_
  rw [List.size_toArray, ← q.length]
  exact PostQ.tok h co (.int _ _)
theorem len_ {v : V} {x : Value} (h : lenW mh v fun u => Q u mh) (co : Co C ρ mh s.heap) (ra : VRel C s.heap ρ v x) : WP C A (call (.builtin "len") [x]) (PostQ C ρ s Q) s := by
  cases v with
  | str l =>
    obtain ⟨t, rfl⟩ := ra
    have hz : l.length ≤ 1048576 := h.1
    refine PyProof.Rows.len_str (by show ¬ ((l.toArray.size : Nat) : Int) ≥ 2 ^ 63; rw [List.size_toArray]; omega) ?_
    exact PostQ.tok h.2 co (.int _ _)
  | list l => exact len_list h co ra
  | «mut» l => exact len_list h co ra
  | _ => exact h.elim
theorem range_ {x y z : Int} {t u v : Tok} {tk : Nat} (h : Q (.rng x y z) mh) (co : Co C ρ mh s.heap) : PostQ C ρ s Q (.ref s.heap.objs.size) { s with heap := s.heap.push { cls := .type "range", data := .fields #[.int x t, .int y u, .int z v] }, toks := tk } :=
  PostQ.grow h co (up_push _) (.rng (IsRange.new ..) (co.fresh (Nat.le_refl _)))
theorem perm_sorted_eq : ∀ {a b : List Int}, a.Perm b → a.Pairwise (· ≤ ·) → b.Pairwise (· ≤ ·) → a = b
  | [], b, p, _, _ => (List.nil_perm.mp p).symm
  | x :: a, b, p, ha, hb => by
    cases b with
    | nil => exact absurd p List.not_perm_cons_nil
    | cons y b =>
      obtain ⟨hxa, hap⟩ := List.pairwise_cons.mp ha
      obtain ⟨hyb, hbp⟩ := List.pairwise_cons.mp hb
      have e : x = y := by
        rcases List.mem_cons.mp (p.mem_iff.mp (.head _) : x ∈ y :: b) with e | h1
        · exact e
        · rcases List.mem_cons.mp (p.mem_iff.mpr (.head _) : y ∈ x :: a) with e | h2
          · exact e.symm
          · exact Int.le_antisymm (hxa _ h2) (hyb _ h1)
      subst e
      rw [perm_sorted_eq ((List.perm_cons x).mp p) hap hbp]
theorem extend_bytes {R : Result → Shared → Prop} (hh : A.handled = none) (x : Array UInt8) (t : Tok) (S : Addr) (res : Value) (c₀ : Nat) (hS : s.heap.get? S = some { cls := .type "list", data := .seq #[] c₀ })
    (hR : ∀ h' tk acc' c', (∀ b o, b ≠ S → s.heap.get? b = some o → h'.get? b = some o) → h'.get? S = some { cls := .type "list", dict := none, data := .seq acc' c', slots := #[] } →
      ItemsOf (fun i v => ∃ c u, x[i]? = some c ∧ v = .int (c.toNat : Int) u) acc' x.size → R (.ok (.ret res)) { s with heap := h', toks := tk }) (hn : x.size ≤ sizeLine) :
    wpAny (model C.prog C.w) A.in1 (Builtin.List.listExtendWith (.ref S) (.bytes x t) res)
      (fun fin s' => match fin with | .done f => R (.ok f) s' | .again c' => c'.quiet = true ∧ codeAny (model C.prog C.w) A c' R s') (fun e s' => R (.error e) s') s := by
  have hSI : S ≠ s.heap.objs.size := Nat.ne_of_lt (Heap.lt_size hS)
  have hSf : S ∉ [s.heap.objs.size] := fun hm => hSI (List.mem_singleton.mp hm)
  unfold Builtin.List.listExtendWith
  refine wpAny_bind (wpAny_typeOf (T := "bytes") (v := .bytes x t) rfl ?_)
  have h1 : Builtin.List.listSameRef (.ref S) (.bytes x t) = false := rfl
  have h2 : (Value.type "bytes" == Value.type "list") = false := by decide
  have h3 : (Value.type "bytes" == Value.type "tuple") = false := by decide
  simp only [h1, h2, h3, Bool.or_false, Bool.false_eq_true, if_false]
  refine wpAny_bind (KBw.pyIter_bytes ?_)
  refine wpAny_bind (wpAny_holding ?_)
  unfold Builtin.List.listLengthHint
  refine wpAny_bind (wpAny_specialOf (T := "bytes") (v := .bytes x t) rfl FB.slot_bytes_len.lookup ?_)
  wp_delta
  refine wpAny_bind (wpAny_isInstance (T := "bytes") (v := .bytes x t) (b := true) rfl (by rw [isSubtype_type]; kernel_rfl) ?_)
  show wpAny _ _ (typeOf (Value.bytes x t) >>= _) _ _ _
  refine wpAny_bind (wpAny_typeOf (T := "bytes") (v := .bytes x t) rfl ?_)
  refine wpAny_pure ?_
  rw [if_neg (by decide)]
  refine wpAny_pure ⟨plainId_quiet F.plain_extend_loop _, codeAny_extend_loopS (KBw.walks (A := A.in1) hh _ x t).toS hn _ hSf _ x.size 0 _ _ _ rfl (Nat.zero_le _) ⟨_, Heap.get?_push_size _ rfl, rfl, rfl⟩ (Heap.get?_push_of_some _ hS) (ItemsOf.nil _) fun s' acc' c' hm hS' hacc => ?_⟩
  rw [Moved.eq_with hm]
  refine hR s'.heap s'.toks acc' c' (fun b ob hb e => hm.heap b ob (fun hmem => ?_) (Heap.get?_push_of_some _ e)) hS' hacc
  rcases List.mem_cons.mp hmem with e' | hmem
  · exact hb e'
  · exact absurd (Heap.lt_size e) (by rw [List.mem_singleton.mp hmem]; exact Nat.lt_irrefl _)
theorem list_init_bytes {R : Result → Shared → Prop} (hh : A.handled = none) (x : Array UInt8) (t : Tok) (S : Addr) (hS : s.heap.get? S = some { cls := .type "list", data := .seq #[] })
    (hR : ∀ h' tk acc' c', (∀ b o, b ≠ S → s.heap.get? b = some o → h'.get? b = some o) → h'.get? S = some { cls := .type "list", dict := none, data := .seq acc' c', slots := #[] } →
      ItemsOf (fun i v => ∃ c u, x[i]? = some c ∧ v = .int (c.toNat : Int) u) acc' x.size → R (.ok (.ret .none)) { s with heap := h', toks := tk }) (hn : x.size ≤ sizeLine) :
    wpAny (model C.prog C.w) A.in1 (Builtin.«list.__init__» ⟨[.ref S, .bytes x t], []⟩)
      (fun fin s' => match fin with | .done f => R (.ok f) s' | .again c' => c'.quiet = true ∧ codeAny (model C.prog C.w) A c' R s') (fun e s' => R (.error e) s') s := by
  show wpAny _ _ (do let old ← Builtin.List.listItems (.ref S); Builtin.List.listUpdate (.ref S) (fun _ => #[]); letGo old.toList.reverse; Builtin.List.listExtendWith (.ref S) (.bytes x t) .none) _ _ s
  refine wpAny_bind ?_
  unfold Builtin.List.listItems
  refine wpAny_bind (wpAny_seqItems hS rfl (wpAny_pure ?_))
  show wpAny _ _ (updateSeq S (fun _ => #[]) >>= fun _ => letGo (#[] : Array Value).toList.reverse >>= fun _ => Builtin.List.listExtendWith (.ref S) (.bytes x t) .none) _ _ s
  refine wpAny_bind (wpAny_updateSeq hS rfl ?_)
  have hS₂ := Heap.get?_update_self (Obj.mapSeq (fun _ => (#[] : Array Value))) hS rfl
  have oth : ∀ b o, b ≠ S → s.heap.get? b = some o → (s.heap.update S (Obj.mapSeq (fun _ => (#[] : Array Value)))).get? b = some o :=
    fun b o hb e => (Heap.get?_update_other _ _ (Ne.symm hb)).trans e
  refine wpAny_bind (wpAny_letGo ?_)
  refine extend_bytes (C := C) (hn := hn) hh x t S .none _ hS₂ fun h' tk acc' c' hk hS' hacc => ?_
  exact hR h' tk acc' c' (fun b o hb e => hk b o hb (oth b o hb e)) hS' hacc
theorem call_list_bytes {R : Value → Shared → Prop} (hh : A.handled = none) (x : Array UInt8) (t : Tok)
    (hQ : ∀ h' tk acc' c', (∀ b o, s.heap.get? b = some o → h'.get? b = some o) →
      h'.get? s.heap.objs.size = some { cls := .type "list", dict := none, data := .seq acc' c', slots := #[] } → ItemsOf (fun i v => ∃ c u, x[i]? = some c ∧ v = .int (c.toNat : Int) u) acc' x.size → R (.ref s.heap.objs.size) { s with heap := h', toks := tk }) (hn : x.size ≤ sizeLine) :
    WP C A (call (.type "list") [.bytes x t]) R s := by
  refine callType_codes (Q₁ := fun obj s₁ => obj = .ref s.heap.objs.size ∧ s₁ = { s with heap := s.heap.push { cls := .type "list", data := .seq #[] } }) F.called_list (F.typeCall_list_1 _) F.entry_list_init
    (code_list_new _ ⟨rfl, rfl⟩) fun obj s₁ h₁ => ?_
  obtain ⟨rfl, rfl⟩ := h₁
  have hS : (s.heap.push { cls := .type "list", data := .seq #[] }).get? s.heap.objs.size = some { cls := .type "list", data := .seq #[] } := Heap.get?_push_size _ rfl
  refine ⟨⟨_, hS, rfl⟩, F.args_list_init_2 _ _, list_init_bytes (C := C) (A := A.in1) (hn := hn) hh x t _ hS fun h' tk acc' c' hk hS' hacc => ?_⟩
  exact ⟨rfl, hQ h' tk acc' c' (fun b o e => hk b o (Nat.ne_of_lt (Heap.lt_size e)) (Heap.get?_push_of_some _ e)) hS' hacc⟩
theorem items_ints {h : Heap} : ∀ (l : List UInt8) (xs : List Value), xs.length = l.length → (∀ (j : Nat) (v : Value), xs[j]? = some v → ∃ (c : UInt8) (u : Tok), l[j]? = some c ∧ v = Value.int (c.toNat : Int) u) → VAll C h ρ (l.map fun c => V.int (c.toNat : Int)) xs
  | [], xs, hl, _ => by cases List.length_eq_zero_iff.mp hl; exact .nil
  | c :: l, [], hl, _ => nomatch hl
  | c :: l, x :: xs, hl, hx => by
    obtain ⟨c', u, e1, rfl⟩ := hx 0 x rfl
    cases e1
    exact .cons (.int _ _) (items_ints l xs (Nat.succ.inj hl) fun j v e => hx (j + 1) v e)
theorem prim_ {f : Prim} {args : List V} {xs : List Value} (h : primW mh f args fun v => Q v mh) (co : Co C ρ mh s.heap) (r : VAll C s.heap ρ args xs) (hh : A.handled = none) :
    WP C A (call f.val xs) (PostQ C ρ s Q) s := by
  cases f with
  | len =>
    obtain ⟨v, rfl, h⟩ := arg1_inv h
    obtain ⟨x, _, rfl, ra, rfl⟩ := r
    exact len_ h co ra
  | abs =>
    obtain ⟨v, rfl, h⟩ := arg1_inv h
    obtain ⟨x, _, rfl, ra, rfl⟩ := r
    obtain ⟨i, rfl, h⟩ := intW_inv h
    obtain ⟨t, rfl⟩ := ra
    refine PyProof.Rows.call_abs_int fun u tk => ?_
    have : (if i < 0 then -i else i) = (i.natAbs : Int) := by split <;> omega
    rw [this]
    exact PostQ.tok h co (.int _ _)
  | int =>
    obtain ⟨v, rfl, h⟩ := arg1_inv h
    obtain ⟨x, _, rfl, ra, rfl⟩ := r
    obtain ⟨i, rfl, h⟩ := intW_inv h
    obtain ⟨t, rfl⟩ := ra
    exact call_int_int (PostQ.pure h co (.int _ _))
  | divmod =>
    obtain ⟨v, w, rfl, h⟩ := arg2_inv h
    obtain ⟨x, _, rfl, ra, y, _, rfl, rb, rfl⟩ := r
    obtain ⟨i, rfl, h⟩ := intW_inv h
    obtain ⟨j, rfl, hz, h⟩ := intW_inv h
    obtain ⟨t, rfl⟩ := ra; obtain ⟨u, rfl⟩ := rb
    refine divmod_int (by omega) ?_ (.inl (PyProof.noPylong_of_log2 (Nat.lt_of_lt_of_le (big_log hz.1 hz.2) (by decide))))
    rw [Int.fdiv_eq_ediv_of_nonneg _ (by omega), Int.fmod_eq_emod_of_nonneg _ (by omega)]
    exact PostQ.grow h co (up_push _) (rel_newT co (xs := [_, _]) (.cons (.int _ _) (.cons (.int _ _) .nil)))
  | range =>
    cases args with
    | nil => exact h.elim
    | cons v r1 =>
      obtain ⟨x, ys, rfl, ra, r⟩ := r
      obtain ⟨i, rfl, h⟩ := intW_inv h
      obtain ⟨t, rfl⟩ := ra
      cases r1 with
      | nil => cases r; exact call_range_1 (range_ h co)
      | cons w r1 =>
        obtain ⟨y, zs, rfl, rb, r⟩ := r
        obtain ⟨j, rfl, h⟩ := intW_inv h
        obtain ⟨u, rfl⟩ := rb
        cases r1 with
        | nil => cases r; exact call_range_2 (range_ h co)
        | cons z r1 =>
          obtain ⟨z, _, rfl, rc, r⟩ := r
          obtain ⟨c, rfl, h⟩ := intW_inv h
          obtain ⟨w, rfl⟩ := rc
          cases r1 with
          | nil => cases r; exact call_range_3 (by omega) (range_ h.2 co) (.inl (PyProof.noPylong_of_log2 (Nat.lt_of_lt_of_le (big_log h.1.1 (Nat.lt_trans h.1.2 (by decide))) (by decide))))
          | cons _ _ => exact h.elim
  | sum =>
    obtain ⟨v, rfl, vs, hi, ns, hn, h⟩ := arg1_inv h
    obtain ⟨x, _, rfl, ra, rfl⟩ := r
    obtain ⟨l, ys, rfl, hl, q⟩ := items_rel co hi ra
    exact sum_ h co hh hl (intsOf_rel hn q)
  | bytes =>
    obtain ⟨v, rfl, vs, hi, ns, hn, hz, hall, h⟩ := arg1_inv h
    obtain ⟨x, _, rfl, ra, rfl⟩ := r
    obtain ⟨l, ys, rfl, hl, q⟩ := items_rel co hi ra
    have hI := intsOf_rel hn q
    refine call_bytes_ints hl hI hall (by rw [hI.length]; exact lim_le hz) hh fun h' t k hk => ?_
    exact PostQ.grow h co hk (.bytes _ _)
  | sorted =>
    obtain ⟨v, rfl, vs, hi, ns, hn, hz, h⟩ := arg1_inv h
    obtain ⟨x, _, rfl, ra, rfl⟩ := r
    obtain ⟨l, ys, rfl, hl, q⟩ := items_rel co hi ra
    have hI := intsOf_rel hn q
    refine sorted_ints hl hI (by rw [hI.length]; exact hz) fun out ns' a1 a2 a3 => ?_
    obtain ⟨e, he⟩ := sortedAll_at s.heap ys out
    exact PostQ.grow (h ns' a2 a3) co (fun b o e => sortedAll_old e) (rel_at co (Nat.le_succ _) ⟨_, he, rfl, e, rfl⟩ (ints_rel a1))
  | list =>
    obtain ⟨v, rfl, h⟩ := arg1_inv h
    obtain ⟨x, _, rfl, ra, rfl⟩ := r
    obtain ⟨l, rfl, hz, h⟩ := bytesW_inv h
    obtain ⟨t, rfl⟩ := ra
    refine call_list_bytes hh _ _ (fun h' tk acc' c' hk hS hacc => ?_) (by rw [List.size_toArray]; exact lim_le hz)
    exact PostQ.grow h co hk (rel_at co (Nat.le_refl _) ⟨_, hS, rfl, c', rfl⟩ (items_ints l _ (by simpa using hacc.1) fun j v e => by simpa using hacc.2 j v (by simpa using e)))
end
end Mine
end
section
open PySem PySem.Calls PySem.W PyProof.Rows PySem.SeqAt
set_option maxRecDepth 100000
set_option linter.unusedVariables false
namespace Mine
mutual
inductive ME where
  | const (v : V)
  | var (i : Nat)
  | glob (f : Nat)
  | bin (op : Operator) (l r : ME)
  | neg (e : ME)
  | cmp (op : CmpOp) (l r : ME)
  | bop (op : BoolOp) (es : List ME)
  | ite (c : MC) (t e : ME)
  | list (es : List ME)
  | item (o i : ME)
  | slice (o l u s : ME)
  | prim (f : Prim) (es : List ME)
  | isBytes (e : ME)
  | app (o e : ME)
  | ins (o i e : ME)
  | call (f : ME) (es : List ME) (ks : List Str) (kes : List ME)
  | comp (caps : List Nat) (x : Nat) (it : ME) (ifs : List MC) (elt : ME)
inductive MC where
  | tst (e : ME)
  | not (c : MC)
  | bop (op : BoolOp) (cs : List MC)
  | cmp (op : CmpOp) (l r : ME)
end
inductive MS where
  | assign (x : Nat) (e : ME)
  | assignMut (x : Nat) (es : List ME)
  | assignTup (xs : List Nat) (fl : List Bool) (es : List ME)
  | unpack (xs : List Nat) (e : ME)
  | expr (e : ME)
  | ite (c : MC) (t e : List MS)
  | while (c : MC) (b : List MS)
  | for (x : Nat) (e : ME) (b : List MS)
  | forU (xs : List Nat) (e : ME) (b : List MS)
  | ret (e : ME)
  | raise
  | refused (a b : List ME)
  | tryR (e : ME)
noncomputable abbrev Loc := List (Option V)
noncomputable abbrev Tab := Nat → List V → List (Str × V) → MH → (V → MH → Prop) → Prop
noncomputable def iterItems (mh : MH) : V → Option (List V)
  | .list vs => some vs
  | .mut i => mh[i]?
  | .rng a b c => if Builtin.Range.small a b c then some ((List.range (rngSize a b c).toNat).map fun (i : Nat) => .int (a + (i : Int) * c)) else none
  | .bytes l => some (l.map fun c => .int (c.toNat : Int))
  | .str l => if l.all (· < 128) then some (l.map fun c => .str [c]) else none
  | _ => none
noncomputable def notMut : V → Prop
  | .mut _ => False
  | _ => True
noncomputable def capGo (caps : List Nat) : Nat → Loc → Loc
  | _, [] => []
  | i, o :: r => (if caps.contains i then o else none) :: capGo caps (i + 1) r
noncomputable def capLoc (caps : List Nat) (x : Nat) (v : V) (loc : Loc) : Loc := (capGo caps 0 loc).set x (some v)
noncomputable def compW (tst : V → (Bool → Prop) → Prop) (el : V → (V → Prop) → Prop) (vs : List V) (K : List V → Prop) : Prop :=
  ∃ J : Nat → List V → Prop, J 0 [] ∧ (∀ i v out, vs[i]? = some v → J i out → tst v fun b => match b with
    | true => el v fun y => J (i + 1) (out ++ [y])
    | false => J (i + 1) out) ∧ ∀ out, J vs.length out → K out
noncomputable def varW (o : Option (Option V)) (K : V → Prop) : Prop := match o with
  | some q => (match q with
    | some v => K v
    | none => False)
  | none => False
noncomputable def stops (op : BoolOp) (t : Bool) : Bool := match op with
  | .And => !t
  | .Or => t
noncomputable def joinW (mh : MH) (q : V) (K : V → Prop) : Prop := itemsW q mh fun vs => ∃ ls : List (List Nat), vs = ls.map .str ∧ ls.flatten.length ≤ lim ∧ K (.str ls.flatten)
mutual
noncomputable def wpE (Γ : Tab) : ME → Loc → MH → (V → MH → Prop) → Prop
  | .const v, _, mh, Q => Q v mh
  | .var i, loc, mh, Q => varW loc[i]? fun v => Q v mh
  | .glob f, _, mh, Q => Q (.fn f) mh
  | .bin op l r, loc, mh, Q => wpE Γ l loc mh fun p m => wpE Γ r loc m fun q m => binW op m p q fun v => Q v m
  | .neg e, loc, mh, Q => wpE Γ e loc mh fun p m => intW p fun i => Q (.int (-i)) m
  | .cmp op l r, loc, mh, Q => wpE Γ l loc mh fun p m => wpE Γ r loc m fun q m => cmpW op m p q fun b => Q (.bool b) m
  | .bop op es, loc, mh, Q => wpB Γ op es loc mh Q
  | .ite c t e, loc, mh, Q => wpC Γ c loc mh fun b m => match b with
    | true => wpE Γ t loc m Q
    | false => wpE Γ e loc m Q
  | .list es, loc, mh, Q => wpEs Γ es loc mh fun vs m => vs.length ≤ lim ∧ Q (.list vs) m
  | .item o i, loc, mh, Q => wpE Γ o loc mh fun p m => wpE Γ i loc m fun q m => itemW m p q fun v => Q v m
  | .slice o l u s, loc, mh, Q => wpE Γ o loc mh fun p m => wpE Γ l loc m fun a m => wpE Γ u loc m fun b m => wpE Γ s loc m fun c m => partW a fun a => partW b fun b => partW c fun c => sliceW m p a b c fun v => Q v m
  | .prim f es, loc, mh, Q => wpEs Γ es loc mh fun vs m => primW m f vs fun v => Q v m
  | .isBytes e, loc, mh, Q => wpE Γ e loc mh fun v m => bytesW v fun _ => Q (.bool true) m
  | .app o e, loc, mh, Q => wpE Γ o loc mh fun p m => mutW p fun i => wpE Γ e loc m fun q m => ∃ vs, m[i]? = some vs ∧ (pureV q ∧ vs.length ≤ lim) ∧ Q .none (m.set i (vs ++ [q]))
  | .ins o k e, loc, mh, Q => wpE Γ o loc mh fun p m => mutW p fun i => wpE Γ k loc m fun j m => intW j fun n => wpE Γ e loc m fun q m => ∃ vs, m[i]? = some vs ∧ (pureV q ∧ vs.length ≤ lim ∧ 0 ≤ n ∧ n ≤ vs.length) ∧ Q .none (m.set i (vs.take n.toNat ++ q :: vs.drop n.toNat))
  | .call f es ks kes, loc, mh, Q => wpE Γ f loc mh fun p m => fnW p fun g => wpEs Γ es loc m fun q m => wpEs Γ kes loc m fun r m => r.length = ks.length ∧ Γ g q (ks.zip r) m Q
  | .comp caps x it ifs elt, loc, mh, Q => wpE Γ it loc mh fun p m => ∃ vs, iterItems m p = some vs ∧ vs.length ≤ lim ∧
      compW (fun v K => wpI Γ ifs (capLoc caps x v loc) m fun b m' => m' = m ∧ K b) (fun v K => wpE Γ elt (capLoc caps x v loc) m fun y m' => m' = m ∧ K y) vs fun ys => Q (.list ys) m
noncomputable def wpEs (Γ : Tab) : List ME → Loc → MH → (List V → MH → Prop) → Prop
  | [], _, mh, Q => Q [] mh
  | e :: es, loc, mh, Q => wpE Γ e loc mh fun v m => wpEs Γ es loc m fun vs m => Q (v :: vs) m
noncomputable def wpB (Γ : Tab) (op : BoolOp) : List ME → Loc → MH → (V → MH → Prop) → Prop
  | [], _, _, _ => False
  | e :: es, loc, mh, Q => wpE Γ e loc mh fun v m => match es.isEmpty with
    | true => Q v m
    | false => truthW v fun t => match stops op t with
      | true => Q v m
      | false => wpB Γ op es loc m Q
noncomputable def wpC (Γ : Tab) : MC → Loc → MH → (Bool → MH → Prop) → Prop
  | .tst e, loc, mh, Q => wpE Γ e loc mh fun v m => truthW v fun b => Q b m
  | .not c, loc, mh, Q => wpC Γ c loc mh fun b m => Q (!b) m
  | .bop op cs, loc, mh, Q => wpCB Γ op cs loc mh Q
  | .cmp op l r, loc, mh, Q => wpE Γ l loc mh fun p m => wpE Γ r loc m fun q m => cmpW op m p q fun b => Q b m
noncomputable def wpCB (Γ : Tab) (op : BoolOp) : List MC → Loc → MH → (Bool → MH → Prop) → Prop
  | [], _, mh, Q => Q (stops op false) mh
  | c :: cs, loc, mh, Q => wpC Γ c loc mh fun t m => match stops op t with
    | true => Q t m
    | false => wpCB Γ op cs loc m Q
noncomputable def wpI (Γ : Tab) : List MC → Loc → MH → (Bool → MH → Prop) → Prop
  | [], _, mh, Q => Q true mh
  | c :: cs, loc, mh, Q => wpC Γ c loc mh fun t m => match t with
    | true => wpI Γ cs loc m Q
    | false => Q false m
end
inductive Fl where
  | next
  | ret (v : V)
noncomputable def thenW (K : Loc → MH → Prop) (Q : Fl → Loc → MH → Prop) : Fl → Loc → MH → Prop
  | .next, l, m => K l m
  | .ret v, l, m => Q (.ret v) l m
noncomputable def whileW (c : Loc → MH → (Bool → MH → Prop) → Prop) (b : Loc → MH → (Fl → Loc → MH → Prop) → Prop) (Q : Fl → Loc → MH → Prop) (loc : Loc) (mh : MH) : Prop :=
  ∃ I : Nat → Loc → MH → Prop, (∃ k, I k loc mh) ∧ ∀ k loc mh, I k loc mh → c loc mh fun t m => match t with
    | true => b loc m (thenW (fun l m => ∃ j, j < k ∧ I j l m) Q)
    | false => Q .next loc m
noncomputable def forW (b : V → Loc → MH → (Fl → Loc → MH → Prop) → Prop) (Q : Fl → Loc → MH → Prop) (vs : List V) (loc : Loc) (mh : MH) : Prop :=
  ∃ I : Nat → Loc → MH → Prop, I 0 loc mh ∧ (∀ i v loc mh, vs[i]? = some v → I i loc mh → b v loc mh (thenW (I (i + 1)) Q)) ∧ ∀ loc mh, I vs.length loc mh → Q .next loc mh
noncomputable def setAll : Loc → List Nat → List V → Loc
  | loc, [], _ => loc
  | loc, x :: xs, vs => (match vs with
    | [] => loc
    | v :: vs => setAll (loc.set x (some v)) xs vs)
noncomputable def wpT (Γ : Tab) : List Bool → List ME → Loc → MH → (List V → MH → Prop) → Prop
  | [], es, _, mh, Q => es = [] ∧ Q [] mh
  | b :: fl, es, loc, mh, Q => (match es with
    | [] => False
    | e :: es => (match b with
      | false => wpE Γ e loc mh fun v m => wpT Γ fl es loc m fun vs m => Q (v :: vs) m
      | true => (match e with
        | .list es' => wpEs Γ es' loc mh fun us m => (pureVs us ∧ us.length ≤ lim) ∧ wpT Γ fl es loc (m ++ [us]) fun vs m' => Q (.mut m.length :: vs) m'
        | _ => False)))
mutual
noncomputable def wpS (Γ : Tab) : MS → Loc → MH → (Fl → Loc → MH → Prop) → Prop
  | .assign x e, loc, mh, Q => wpE Γ e loc mh fun v m => Q .next (loc.set x (some v)) m
  | .assignMut x es, loc, mh, Q => wpEs Γ es loc mh fun vs m => (pureVs vs ∧ vs.length ≤ lim) ∧ Q .next (loc.set x (some (.mut m.length))) (m ++ [vs])
  | .assignTup xs fl es, loc, mh, Q => wpT Γ fl es loc mh fun vs m => vs.length = xs.length ∧ Q .next (setAll loc xs vs) m
  | .unpack xs e, loc, mh, Q => wpE Γ e loc mh fun v m => tupW v fun vs => vs.length = xs.length ∧ Q .next (setAll loc xs vs) m
  | .expr e, loc, mh, Q => wpE Γ e loc mh fun v m => v = .none ∧ Q .next loc m
  | .ite c t e, loc, mh, Q => wpC Γ c loc mh fun b m => match b with
    | true => wpSs Γ t loc m Q
    | false => wpSs Γ e loc m Q
  | .while c b, loc, mh, Q => whileW (wpC Γ c) (wpSs Γ b) Q loc mh
  | .for x e b, loc, mh, Q => wpE Γ e loc mh fun v m => notMut v ∧ ∃ vs, iterItems m v = some vs ∧ forW (fun v loc mh R => wpSs Γ b (loc.set x (some v)) mh R) Q vs loc m
  | .forU xs e b, loc, mh, Q => wpE Γ e loc mh fun v m => notMut v ∧ ∃ vs, iterItems m v = some vs ∧ forW (fun v loc mh R => listW v fun us => us.length = xs.length ∧ wpSs Γ b (setAll loc xs us) mh R) Q vs loc m
  | .ret e, loc, mh, Q => wpE Γ e loc mh fun v m => Q (.ret v) loc m
  | .raise, _, _, _ => False
  | .refused a b, loc, mh, Q => wpEs Γ a loc mh fun vs m => 0 = 0 ∧ 8 = 8 ∧ Γ 999 (.mut m.length :: vs) [] m fun _ m => wpEs Γ b loc m fun vs m => 0 = 0 ∧ 8 = 8 ∧ Γ 999 (.mut m.length :: vs) [] m fun _ m => Q .next loc m
  | .tryR _, _, _, _ => False
noncomputable def wpSs (Γ : Tab) : List MS → Loc → MH → (Fl → Loc → MH → Prop) → Prop
  | [], loc, mh, Q => Q .next loc mh
  | s :: ss, loc, mh, Q => wpS Γ s loc mh (thenW (fun l m => wpSs Γ ss l m Q) Q)
end
/-! the matching of a text's tree with the mini language's -/
structure TX where
  vars : List Str
  fns : List Str
noncomputable def primList : List (Str × Prim) := [("len", .len), ("abs", .abs), ("int", .int), ("divmod", .divmod), ("range", .range), ("sum", .sum)
  , ("bytes", .bytes)
  , ("sorted", .sorted), ("list", .list)
  ]
noncomputable def primOf (x : Str) : Option Prim := primList.lookup x
noncomputable def optB {α : Type} (o : Option α) (p : α → Bool) : Bool := match o with
  | some a => p a
  | none => false
theorem optB_inv {α : Type} {o : Option α} {p : α → Bool} (h : optB o p = true) : ∃ a, p a = true := by
  cases o with
  | none => cases h
  | some a => exact ⟨a, h⟩
noncomputable def constOf : V → Option Const
  | .none => some .none
  | .bool b => some (.bool b)
  | .int i => some (.int i)
  | .str l => some (.str ⟨l.toArray⟩)
  | .bytes l => some (.bytes l)
  | _ => none
/-! what stands at the head of a tree -/
section
variable (e : Expr)
noncomputable def vConst : Option {q : Const × Nat × Pos // e = .Constant q.1 q.2.1 q.2.2} := if h : e.ctorIdx = 19 then some (Expr.Constant.elim (motive_1 := fun e => {q : Const × Nat × Pos // e = .Constant q.1 q.2.1 q.2.2}) e h fun a b c => ⟨(a, b, c), rfl⟩) else none
noncomputable def vName : Option {q : Str × Pos // e = .Name q.1 q.2} := if h : e.ctorIdx = 23 then some (Expr.Name.elim (motive_1 := fun e => {q : Str × Pos // e = .Name q.1 q.2}) e h fun a b => ⟨(a, b), rfl⟩) else none
noncomputable def vBin : Option {q : Expr × Operator × Expr × Pos // e = .BinOp q.1 q.2.1 q.2.2.1 q.2.2.2} := if h : e.ctorIdx = 2 then some (Expr.BinOp.elim (motive_1 := fun e => {q : Expr × Operator × Expr × Pos // e = .BinOp q.1 q.2.1 q.2.2.1 q.2.2.2}) e h fun a b c d => ⟨(a, b, c, d), rfl⟩) else none
noncomputable def vUn : Option {q : UnaryOp × Expr × Pos // e = .UnaryOp q.1 q.2.1 q.2.2} := if h : e.ctorIdx = 3 then some (Expr.UnaryOp.elim (motive_1 := fun e => {q : UnaryOp × Expr × Pos // e = .UnaryOp q.1 q.2.1 q.2.2}) e h fun a b c => ⟨(a, b, c), rfl⟩) else none
noncomputable def vCmp : Option {q : Expr × List CmpOp × List Expr × Pos // e = .Compare q.1 q.2.1 q.2.2.1 q.2.2.2} := if h : e.ctorIdx = 15 then some (Expr.Compare.elim (motive_1 := fun e => {q : Expr × List CmpOp × List Expr × Pos // e = .Compare q.1 q.2.1 q.2.2.1 q.2.2.2}) e h fun a b c d => ⟨(a, b, c, d), rfl⟩) else none
noncomputable def vBop : Option {q : BoolOp × List Expr × Pos // e = .BoolOp q.1 q.2.1 q.2.2} := if h : e.ctorIdx = 0 then some (Expr.BoolOp.elim (motive_1 := fun e => {q : BoolOp × List Expr × Pos // e = .BoolOp q.1 q.2.1 q.2.2}) e h fun a b c => ⟨(a, b, c), rfl⟩) else none
noncomputable def vIf : Option {q : Expr × Expr × Expr × Pos // e = .IfExp q.1 q.2.1 q.2.2.1 q.2.2.2} := if h : e.ctorIdx = 5 then some (Expr.IfExp.elim (motive_1 := fun e => {q : Expr × Expr × Expr × Pos // e = .IfExp q.1 q.2.1 q.2.2.1 q.2.2.2}) e h fun a b c d => ⟨(a, b, c, d), rfl⟩) else none
noncomputable def vList : Option {q : List Expr × Pos // e = .List q.1 q.2} := if h : e.ctorIdx = 24 then some (Expr.List.elim (motive_1 := fun e => {q : List Expr × Pos // e = .List q.1 q.2}) e h fun a b => ⟨(a, b), rfl⟩) else none
noncomputable def vTuple : Option {q : List Expr × Nat × Pos // e = .Tuple q.1 q.2.1 q.2.2} := if h : e.ctorIdx = 25 then some (Expr.Tuple.elim (motive_1 := fun e => {q : List Expr × Nat × Pos // e = .Tuple q.1 q.2.1 q.2.2}) e h fun a b c => ⟨(a, b, c), rfl⟩) else none
noncomputable def vSub : Option {q : Expr × Expr × Pos // e = .Subscript q.1 q.2.1 q.2.2} := if h : e.ctorIdx = 21 then some (Expr.Subscript.elim (motive_1 := fun e => {q : Expr × Expr × Pos // e = .Subscript q.1 q.2.1 q.2.2}) e h fun a b c => ⟨(a, b, c), rfl⟩) else none
noncomputable def vSlice : Option {q : Option Expr × Option Expr × Option Expr × Pos // e = .Slice q.1 q.2.1 q.2.2.1 q.2.2.2} := if h : e.ctorIdx = 26 then some (Expr.Slice.elim (motive_1 := fun e => {q : Option Expr × Option Expr × Option Expr × Pos // e = .Slice q.1 q.2.1 q.2.2.1 q.2.2.2}) e h fun a b c d => ⟨(a, b, c, d), rfl⟩) else none
noncomputable def vCall : Option {q : Expr × List Expr × List Keyword × Pos // e = .Call q.1 q.2.1 q.2.2.1 q.2.2.2} := if h : e.ctorIdx = 16 then some (Expr.Call.elim (motive_1 := fun e => {q : Expr × List Expr × List Keyword × Pos // e = .Call q.1 q.2.1 q.2.2.1 q.2.2.2}) e h fun a b c d => ⟨(a, b, c, d), rfl⟩) else none
noncomputable def vAttr : Option {q : Expr × Str × Pos // e = .Attribute q.1 q.2.1 q.2.2} := if h : e.ctorIdx = 20 then some (Expr.Attribute.elim (motive_1 := fun e => {q : Expr × Str × Pos // e = .Attribute q.1 q.2.1 q.2.2}) e h fun a b c => ⟨(a, b, c), rfl⟩) else none
noncomputable def vComp : Option {q : Expr × List Comprehension × Scope × Pos // e = .ListComp q.1 q.2.1 q.2.2.1 q.2.2.2} := if h : e.ctorIdx = 8 then some (Expr.ListComp.elim (motive_1 := fun e => {q : Expr × List Comprehension × Scope × Pos // e = .ListComp q.1 q.2.1 q.2.2.1 q.2.2.2}) e h fun a b c d => ⟨(a, b, c, d), rfl⟩) else none
end
section
variable {α : Type} (l : List α)
noncomputable def v0 : Option {q : Unit // l = []} := match l with | [] => some ⟨(), rfl⟩ | _ :: _ => none
noncomputable def vCons : Option {q : α × List α // l = q.1 :: q.2} := match l with | [] => none | a :: r => some ⟨(a, r), rfl⟩
noncomputable def v1 : Option {q : α // l = [q]} := match l with | [] => none | a :: r => (match r with | [] => some ⟨a, rfl⟩ | _ :: _ => none)
noncomputable def v2 : Option {q : α × α // l = [q.1, q.2]} := match l with | [] => none | a :: r => (match r with | [] => none | b :: r => (match r with | [] => some ⟨(a, b), rfl⟩ | _ :: _ => none))
end
/-! the same, with what is asked of the parts -/
section
variable {e : Expr}
noncomputable def nameN (e : Expr) (k : Str → Bool) : Bool := optB (vName e) fun q => k q.1.1
theorem nameN_inv {k : Str → Bool} (h : nameN e k = true) : ∃ x p, e = .Name x p ∧ k x = true := by
  obtain ⟨⟨⟨x, p⟩, r⟩, h⟩ := optB_inv h
  exact ⟨x, p, r, h⟩
noncomputable def constN (e : Expr) (k : Const → Bool) : Bool := optB (vConst e) fun q => k q.1.1
theorem constN_inv {k : Const → Bool} (h : constN e k = true) : ∃ c n p, e = .Constant c n p ∧ k c = true := by
  obtain ⟨⟨⟨c, n, p⟩, r⟩, h⟩ := optB_inv h
  exact ⟨c, n, p, r, h⟩
noncomputable def unN (e : Expr) (k : UnaryOp → Expr → Bool) : Bool := optB (vUn e) fun q => k q.1.1 q.1.2.1
theorem unN_inv {k : UnaryOp → Expr → Bool} (h : unN e k = true) : ∃ o a p, e = .UnaryOp o a p ∧ k o a = true := by
  obtain ⟨⟨⟨o, a, p⟩, r⟩, h⟩ := optB_inv h
  exact ⟨o, a, p, r, h⟩
noncomputable def cmpN (e : Expr) (k : Expr → List CmpOp → List Expr → Bool) : Bool := optB (vCmp e) fun q => k q.1.1 q.1.2.1 q.1.2.2.1
theorem cmpN_inv {k : Expr → List CmpOp → List Expr → Bool} (h : cmpN e k = true) : ∃ a o b p, e = .Compare a o b p ∧ k a o b = true := by
  obtain ⟨⟨⟨a, o, b, p⟩, r⟩, h⟩ := optB_inv h
  exact ⟨a, o, b, p, r, h⟩
noncomputable def bopN (e : Expr) (k : BoolOp → List Expr → Bool) : Bool := optB (vBop e) fun q => k q.1.1 q.1.2.1
theorem bopN_inv {k : BoolOp → List Expr → Bool} (h : bopN e k = true) : ∃ o a p, e = .BoolOp o a p ∧ k o a = true := by
  obtain ⟨⟨⟨o, a, p⟩, r⟩, h⟩ := optB_inv h
  exact ⟨o, a, p, r, h⟩
noncomputable def listN (e : Expr) (k : List Expr → Bool) : Bool := optB (vList e) fun q => k q.1.1
theorem listN_inv {k : List Expr → Bool} (h : listN e k = true) : ∃ l p, e = .List l p ∧ k l = true := by
  obtain ⟨⟨⟨l, p⟩, r⟩, h⟩ := optB_inv h
  exact ⟨l, p, r, h⟩
noncomputable def tupN (e : Expr) (k : List Expr → Bool) : Bool := optB (vTuple e) fun q => k q.1.1
theorem tupN_inv {k : List Expr → Bool} (h : tupN e k = true) : ∃ l n p, e = .Tuple l n p ∧ k l = true := by
  obtain ⟨⟨⟨l, n, p⟩, r⟩, h⟩ := optB_inv h
  exact ⟨l, n, p, r, h⟩
noncomputable def subN (e : Expr) (k : Expr → Expr → Bool) : Bool := optB (vSub e) fun q => k q.1.1 q.1.2.1
theorem subN_inv {k : Expr → Expr → Bool} (h : subN e k = true) : ∃ a b p, e = .Subscript a b p ∧ k a b = true := by
  obtain ⟨⟨⟨a, b, p⟩, r⟩, h⟩ := optB_inv h
  exact ⟨a, b, p, r, h⟩
noncomputable def sliceN (e : Expr) (k : Option Expr → Option Expr → Option Expr → Bool) : Bool := optB (vSlice e) fun q => k q.1.1 q.1.2.1 q.1.2.2.1
theorem sliceN_inv {k : Option Expr → Option Expr → Option Expr → Bool} (h : sliceN e k = true) : ∃ a b c p, e = .Slice a b c p ∧ k a b c = true := by
  obtain ⟨⟨⟨a, b, c, p⟩, r⟩, h⟩ := optB_inv h
  exact ⟨a, b, c, p, r, h⟩
noncomputable def callA (e : Expr) (k : Expr → List Expr → List Keyword → Pos → Bool) : Bool := optB (vCall e) fun q => k q.1.1 q.1.2.1 q.1.2.2.1 q.1.2.2.2
theorem callA_inv {k : Expr → List Expr → List Keyword → Pos → Bool} (h : callA e k = true) : ∃ f as ks p, e = .Call f as ks p ∧ k f as ks p = true := by
  obtain ⟨⟨⟨f, as, ks, p⟩, r⟩, h⟩ := optB_inv h
  exact ⟨f, as, ks, p, r, h⟩
noncomputable def attrN (e : Expr) (k : Expr → Str → Pos → Bool) : Bool := optB (vAttr e) fun q => k q.1.1 q.1.2.1 q.1.2.2
theorem attrN_inv {k : Expr → Str → Pos → Bool} (h : attrN e k = true) : ∃ o n p, e = .Attribute o n p ∧ k o n p = true := by
  obtain ⟨⟨⟨o, n, p⟩, r⟩, h⟩ := optB_inv h
  exact ⟨o, n, p, r, h⟩
noncomputable def compA (e : Expr) (k : Expr → List Comprehension → Scope → Bool) : Bool := optB (vComp e) fun q => k q.1.1 q.1.2.1 q.1.2.2.1
theorem compA_inv {k : Expr → List Comprehension → Scope → Bool} (h : compA e k = true) : ∃ a g s p, e = .ListComp a g s p ∧ k a g s = true := by
  obtain ⟨⟨⟨a, g, s, p⟩, r⟩, h⟩ := optB_inv h
  exact ⟨a, g, s, p, r, h⟩
end
section
variable {α : Type} {l : List α}
noncomputable def oneN (l : List α) (k : α → Bool) : Bool := optB (v1 l) fun q => k q.1
theorem oneN_inv {k : α → Bool} (h : oneN l k = true) : ∃ a, l = [a] ∧ k a = true := by
  obtain ⟨⟨a, r⟩, h⟩ := optB_inv h
  exact ⟨a, r, h⟩
noncomputable def twoL (l : List α) (k : α → α → Bool) : Bool := optB (v2 l) fun q => k q.1.1 q.1.2
theorem twoL_inv {k : α → α → Bool} (h : twoL l k = true) : ∃ a b, l = [a, b] ∧ k a b = true := by
  obtain ⟨⟨⟨a, b⟩, r⟩, h⟩ := optB_inv h
  exact ⟨a, b, r, h⟩
noncomputable def nilN (l : List α) (b : Bool) : Bool := optB (v0 l) fun _ => b
theorem nilN_inv {b : Bool} (h : nilN l b = true) : l = [] ∧ b = true := by
  obtain ⟨⟨_, r⟩, h⟩ := optB_inv h
  exact ⟨r, h⟩
noncomputable def consN (l : List α) (k : α → List α → Bool) : Bool := optB (vCons l) fun q => k q.1.1 q.1.2
theorem consN_inv {k : α → List α → Bool} (h : consN l k = true) : ∃ a r, l = a :: r ∧ k a r = true := by
  obtain ⟨⟨⟨a, b⟩, r⟩, h⟩ := optB_inv h
  exact ⟨a, b, r, h⟩
end
theorem band {a b : Bool} (h : (a && b) = true) : a = true ∧ b = true := (Bool.and_eq_true a b).mp h
theorem bnot {a : Bool} (h : (!a) = true) : a = false := (Bool.not_eq_true' a).mp h
noncomputable def isSlice (e : Expr) : Bool := e.ctorIdx == 26
noncomputable def isSet (e : Expr) : Bool := e.ctorIdx == 7
noncomputable def isStar (e : Expr) : Bool := e.ctorIdx == 22
noncomputable def isLC (e : Expr) : Bool := e.ctorIdx == 8
noncomputable def isSD (e : Expr) : Bool := e.ctorIdx == 9 || e.ctorIdx == 10
noncomputable def isTup (e : Expr) : Bool := e.ctorIdx == 25
noncomputable def simpleBase (e : Expr) : Bool := e.ctorIdx == 23 || e.ctorIdx == 19
noncomputable def plainTest (e : Expr) : Bool := !(e.ctorIdx == 3 || e.ctorIdx == 0 || e.ctorIdx == 5 || e.ctorIdx == 15)
noncomputable def compScopeOk (X : TX) (sc : List (Str × NameKind)) (scope : Scope) (caps : List Nat) : Bool :=
  scope.kind == .function &&
  scope.names.all (fun p => p.2 != .cell && p.2 != .globalExplicit) &&
  scope.names.all (fun p => scope.names.lookup p.1 == some p.2) &&
  scope.names.all (fun p => p.2 != .free || (sc.lookup p.1 == some .cell || sc.lookup p.1 == some .free)) &&
  caps.all (fun i => optB X.vars[i]? fun x => scope.names.lookup x == some .free)
noncomputable def kwNames : List Keyword → Option (List Str)
  | [] => some []
  | ⟨o, _, _⟩ :: r => (match o with
    | some k => (kwNames r).map (k :: ·)
    | none => none)
noncomputable def isNC : ME → Bool
  | .const v => (match v with | .none => true | _ => false)
  | _ => false
noncomputable def gName (sc : List (Str × NameKind)) (x : Str) : Bool := sc.lookup x == some .globalImplicit
noncomputable def notDebug (x : Str) : Bool := !(x == ("__debug__" : Str))
noncomputable def isLoc (sc : List (Str × NameKind)) (x : Str) : Bool := sc.lookup x == some .local || sc.lookup x == some .cell
noncomputable def callN (e' : Expr) (k : Str → List Expr → Bool) : Bool := callA e' fun f as ks _ => nilN ks (nameN f fun n => k n as)
noncomputable def twoN (as : List Expr) (k : Expr → Str → Bool) : Bool := twoL as fun a b => nameN b fun y => k a y
theorem callN_inv {e' : Expr} {k : Str → List Expr → Bool} (h : callN e' k = true) : ∃ n p as pos, e' = .Call (.Name n p) as [] pos ∧ k n as = true := by
  obtain ⟨f, as, ks, pos, e0, g0⟩ := callA_inv h
  clear h
  subst e0
  have h := g0; clear g0
  obtain ⟨e0, g0⟩ := nilN_inv h
  clear h
  subst e0
  have h := g0; clear g0
  obtain ⟨n, p, e0, g0⟩ := nameN_inv h
  clear h
  subst e0
  have h := g0; clear g0
  exact ⟨n, p, as, pos, rfl, h⟩
theorem twoN_inv {as : List Expr} {k : Expr → Str → Bool} (h : twoN as k = true) : ∃ a b q, as = [a, .Name b q] ∧ k a b = true := by
  obtain ⟨a, b, e0, g0⟩ := twoL_inv h
  clear h
  subst e0
  have h := g0; clear g0
  obtain ⟨n, p, e0, g0⟩ := nameN_inv h
  clear h
  subst e0
  have h := g0; clear g0
  exact ⟨a, n, p, rfl, h⟩
noncomputable def methB (n : Str) (e' : Expr) (k : Expr → List Expr → Bool) : Bool := callA e' fun f as ks p => nilN ks (attrN f fun o m q => n == m && simpleBase o && q.endLine == p.line && as.all (fun e => !isStar e) && k o as)
mutual
noncomputable def mtE (X : TX) (sc : List (Str × NameKind)) : ME → Expr → Bool
  | .const v, e' => optB (vConst e') fun q => constOf v == some q.1.1
  | .var i, e' => optB (vName e') fun q => X.vars[i]? == some q.1.1 && notDebug q.1.1
  | .glob f, e' => optB (vName e') fun q => X.fns[f]? == some q.1.1 && gName sc q.1.1 && notDebug q.1.1
  | .bin op l r, e' => optB (vBin e') fun q => op == q.1.2.1 && mtE X sc l q.1.1 && mtE X sc r q.1.2.2.1
  | .neg e, e' => optB (vUn e') fun q => q.1.1 == .USub && mtE X sc e q.1.2.1
  | .cmp op l r, e' => cmpN e' fun a os bs => oneN os fun o => oneN bs fun b => op == o && !isSet b && mtE X sc l a && mtE X sc r b
  | .bop op es, e' => optB (vBop e') fun q => op == q.1.1 && mtEs X sc es q.1.2.1
  | .ite c t e, e' => optB (vIf e') fun q => mtC X sc c q.1.1 && mtE X sc t q.1.2.1 && mtE X sc e q.1.2.2.1
  | .list es, e' => optB (vList e') fun q => mtEs X sc es q.1.1
  | .slice o l u s, e' => subN e' fun b i => sliceN i fun x y z => mtE X sc o b && (match x with | none => isNC l | some a => mtE X sc l a) && (match y with | none => isNC u | some a => mtE X sc u a) && (match z with | none => isNC s | some a => mtE X sc s a)
  | .item o i, e' => optB (vSub e') fun q => !isSlice q.1.2.1 && mtE X sc o q.1.1 && mtE X sc i q.1.2.1
  | .prim f es, e' => callN e' fun n as => primOf n == some f && gName sc n && !es.isEmpty && mtEs X sc es as
  | .isBytes e, e' => callN e' fun n as => twoN as fun a b => n == ("isinstance" : Str) && b == ("bytes" : Str) && gName sc n && gName sc b && !isStar a && mtE X sc e a
  | .app o e, e' => methB "append" e' fun b as => oneN as fun a => mtE X sc o b && mtE X sc e a
  | .ins o i e, e' => methB "insert" e' fun b as => twoL as fun a c => mtE X sc o b && mtE X sc i a && mtE X sc e c
  | .call f es ks kes, e' => callA e' fun f' as kws _ => nameN f' (fun _ => true) && (!es.isEmpty && kwNames kws == some ks && mtE X sc f f' && mtEs X sc es as && mtK X sc kes kws)
  | .comp caps x it ifs elt, e' => compA e' fun el gs sco => oneN gs fun g => nameN g.target fun n => g.is_async == 0 && X.vars[x]? == some n && sco.names.lookup n == some .local && compScopeOk X sc sco caps && !isSet g.iter &&
      mtE X sc it g.iter && mtCs X sco.names ifs g.ifs && mtE X sco.names elt el
termination_by structural e => e
noncomputable def mtEs (X : TX) (sc : List (Str × NameKind)) : List ME → List Expr → Bool
  | [], l => l.isEmpty
  | e :: es, l => consN l fun a r => !isStar a && mtE X sc e a && mtEs X sc es r
termination_by structural e => e
noncomputable def mtK (X : TX) (sc : List (Str × NameKind)) : List ME → List Keyword → Bool
  | [], l => l.isEmpty
  | e :: es, l => consN l fun a r => mtE X sc e a.value && mtK X sc es r
termination_by structural e => e
noncomputable def mtC (X : TX) (sc : List (Str × NameKind)) : MC → Expr → Bool
  | .not c, e' => optB (vUn e') fun q => q.1.1 == .Not && mtC X sc c q.1.2.1
  | .bop op cs, e' => optB (vBop e') fun q => op == q.1.1 && mtCs X sc cs q.1.2.1
  | .cmp op l r, e' => cmpN e' fun a os bs => oneN os fun o => oneN bs fun b => op == o && !isSet b && mtE X sc l a && mtE X sc r b
  | .tst e, e' => plainTest e' && mtE X sc e e'
termination_by structural e => e
noncomputable def mtCs (X : TX) (sc : List (Str × NameKind)) : List MC → List Expr → Bool
  | [], l => l.isEmpty
  | c :: cs, l => consN l fun a r => mtC X sc c a && mtCs X sc cs r
termination_by structural e => e
end
noncomputable def mtO (X : TX) (sc : List (Str × NameKind)) (e : ME) (o : Option Expr) : Bool := match o with
  | none => isNC e
  | some a => mtE X sc e a
noncomputable def varsM (X : TX) (sc : List (Str × NameKind)) : List Nat → List Expr → Bool
  | [], l => l.isEmpty
  | x :: xs, l => consN l fun a r => nameN a fun n => X.vars[x]? == some n && isLoc sc n && varsM X sc xs r
section
variable (s : Stmt)
noncomputable def vAsg : Option {q : Expr × Expr × Pos // s = .Assign [q.1] q.2.1 q.2.2} := if h : s.ctorIdx = 5 then Stmt.Assign.elim (motive_2 := fun s => Option {q : Expr × Expr × Pos // s = .Assign [q.1] q.2.1 q.2.2}) s h fun ts a b => (match ts with | [] => none | t :: r => (match r with | [] => some ⟨(t, a, b), rfl⟩ | _ :: _ => none)) else none
noncomputable def vExprS : Option {q : Expr × Pos // s = .Expr q.1 q.2} := if h : s.ctorIdx = 24 then Stmt.Expr.elim (motive_2 := fun s => Option {q : Expr × Pos // s = .Expr q.1 q.2}) s h fun a b => some ⟨(a, b), rfl⟩ else none
noncomputable def vIfS : Option {q : Expr × List Stmt × List Stmt × Pos // s = .If q.1 q.2.1 q.2.2.1 q.2.2.2} := if h : s.ctorIdx = 12 then Stmt.If.elim (motive_2 := fun s => Option {q : Expr × List Stmt × List Stmt × Pos // s = .If q.1 q.2.1 q.2.2.1 q.2.2.2}) s h fun a b c d => some ⟨(a, b, c, d), rfl⟩ else none
noncomputable def vWhile : Option {q : Expr × List Stmt × Pos // s = .While q.1 q.2.1 [] q.2.2} := if h : s.ctorIdx = 11 then Stmt.While.elim (motive_2 := fun s => Option {q : Expr × List Stmt × Pos // s = .While q.1 q.2.1 [] q.2.2}) s h fun a b c d => (match c with | [] => some ⟨(a, b, d), rfl⟩ | _ :: _ => none) else none
noncomputable def vFor : Option {q : Expr × Expr × List Stmt × Pos // s = .For q.1 q.2.1 q.2.2.1 [] q.2.2.2} := if h : s.ctorIdx = 9 then Stmt.For.elim (motive_2 := fun s => Option {q : Expr × Expr × List Stmt × Pos // s = .For q.1 q.2.1 q.2.2.1 [] q.2.2.2}) s h fun t a b c d => (match c with | [] => some ⟨(t, a, b, d), rfl⟩ | _ :: _ => none) else none
noncomputable def vRaise : Option {q : Expr × Pos // s = .Raise (some q.1) none q.2} := if h : s.ctorIdx = 16 then Stmt.Raise.elim (motive_2 := fun s => Option {q : Expr × Pos // s = .Raise (some q.1) none q.2}) s h fun a b c => (match a with | none => none | some e => (match b with | none => some ⟨(e, c), rfl⟩ | some _ => none)) else none
noncomputable def vTry : Option {q : List Stmt × List ExceptHandler × Pos // s = .Try q.1 q.2.1 [] [] q.2.2} := if h : s.ctorIdx = 17 then Stmt.Try.elim (motive_2 := fun s => Option {q : List Stmt × List ExceptHandler × Pos // s = .Try q.1 q.2.1 [] [] q.2.2}) s h fun a b c d e => (match c with | [] => (match d with | [] => some ⟨(a, b, e), rfl⟩ | _ :: _ => none) | _ :: _ => none) else none
noncomputable def vRet : Option {q : Expr × Pos // s = .Return (some q.1) q.2} := if h : s.ctorIdx = 3 then Stmt.Return.elim (motive_2 := fun s => Option {q : Expr × Pos // s = .Return (some q.1) q.2}) s h fun a b => (match a with | none => none | some e => some ⟨(e, b), rfl⟩) else none
end
section
variable {s : Stmt}
noncomputable def asgN (s : Stmt) (k : Expr → Expr → Bool) : Bool := optB (vAsg s) fun q => k q.1.1 q.1.2.1
theorem asgN_inv {k : Expr → Expr → Bool} (h : asgN s k = true) : ∃ t e p, s = .Assign [t] e p ∧ k t e = true := by
  obtain ⟨⟨⟨t, e, p⟩, r⟩, h⟩ := optB_inv h
  exact ⟨t, e, p, r, h⟩
noncomputable def forN (s : Stmt) (k : Expr → Expr → List Stmt → Bool) : Bool := optB (vFor s) fun q => k q.1.1 q.1.2.1 q.1.2.2.1
theorem forN_inv {k : Expr → Expr → List Stmt → Bool} (h : forN s k = true) : ∃ t e b p, s = .For t e b [] p ∧ k t e b = true := by
  obtain ⟨⟨⟨t, e, b, p⟩, r⟩, h⟩ := optB_inv h
  exact ⟨t, e, b, p, r, h⟩
noncomputable def ifN (s : Stmt) (k : Expr → List Stmt → List Stmt → Bool) : Bool := optB (vIfS s) fun q => k q.1.1 q.1.2.1 q.1.2.2.1
theorem ifN_inv {k : Expr → List Stmt → List Stmt → Bool} (h : ifN s k = true) : ∃ c t e p, s = .If c t e p ∧ k c t e = true := by
  obtain ⟨⟨⟨c, t, e, p⟩, r⟩, h⟩ := optB_inv h
  exact ⟨c, t, e, p, r, h⟩
noncomputable def exprN (s : Stmt) (k : Expr → Bool) : Bool := optB (vExprS s) fun q => k q.1.1
theorem exprN_inv {k : Expr → Bool} (h : exprN s k = true) : ∃ e p, s = .Expr e p ∧ k e = true := by
  obtain ⟨⟨⟨e, p⟩, r⟩, h⟩ := optB_inv h
  exact ⟨e, p, r, h⟩
noncomputable def retN (s : Stmt) (k : Expr → Bool) : Bool := optB (vRet s) fun q => k q.1.1
theorem retN_inv {k : Expr → Bool} (h : retN s k = true) : ∃ e p, s = .Return (some e) p ∧ k e = true := by
  obtain ⟨⟨⟨e, p⟩, r⟩, h⟩ := optB_inv h
  exact ⟨e, p, r, h⟩
noncomputable def raiN (s : Stmt) (k : Expr → Bool) : Bool := optB (vRaise s) fun q => k q.1.1
theorem raiN_inv {k : Expr → Bool} (h : raiN s k = true) : ∃ e p, s = .Raise (some e) none p ∧ k e = true := by
  obtain ⟨⟨⟨e, p⟩, r⟩, h⟩ := optB_inv h
  exact ⟨e, p, r, h⟩
noncomputable def tryN (s : Stmt) (k : List Stmt → List ExceptHandler → Bool) : Bool := optB (vTry s) fun q => k q.1.1 q.1.2.1
theorem tryN_inv {k : List Stmt → List ExceptHandler → Bool} (h : tryN s k = true) : ∃ b hs p, s = .Try b hs [] [] p ∧ k b hs = true := by
  obtain ⟨⟨⟨b, hs, p⟩, r⟩, h⟩ := optB_inv h
  exact ⟨b, hs, p, r, h⟩
end
noncomputable def raiseM (sc : List (Str × NameKind)) (s' : Stmt) : Bool := raiN s' fun e => callN e fun n as => n == ("ValueError" : Str) && gName sc n && oneN as fun a => constN a fun c => match c with | .str _ => true | _ => false
noncomputable def handM (sc : List (Str × NameKind)) : ExceptHandler → Bool
  | .ExceptHandler t n b _ => (match t with
    | none => false
    | some t => n.isNone && nameN t (fun x => x == ("ValueError" : Str) && gName sc x) && oneN b fun r => retN r fun e => constN e fun c => c == .bool true)
mutual
noncomputable def mtS (X : TX) (sc : List (Str × NameKind)) : MS → Stmt → Bool
  | .assign x e, s' => asgN s' fun t a => nameN t fun n => X.vars[x]? == some n && isLoc sc n && !isSD a && mtE X sc e a
  | .assignMut x es, s' => asgN s' fun t a => nameN t fun n => listN a fun l => X.vars[x]? == some n && isLoc sc n && mtEs X sc es l
  | .assignTup xs _ es, s' => asgN s' fun t a => tupN t fun ts => tupN a fun u => varsM X sc xs ts && decide (xs.Nodup ∧ xs.length ≤ 100) && mtEs X sc es u && (!u.all (constantsAlone 8) || u.all (foldedForSure 8))
  | .unpack xs e, s' => asgN s' fun t a => tupN t fun ts => varsM X sc xs ts && decide xs.Nodup && !isTup a && mtE X sc e a
  | .expr e, s' => optB (vExprS s') fun q => mtE X sc e q.1.1 && !isLC q.1.1 && !isSD q.1.1
  | .ite c t e, s' => optB (vIfS s') fun q => mtC X sc c q.1.1 && mtSs X sc t q.1.2.1 && mtSs X sc e q.1.2.2.1
  | .while c b, s' => optB (vWhile s') fun q => mtC X sc c q.1.1 && mtSs X sc b q.1.2.1
  | .for x e b, s' => forN s' fun t a b' => nameN t fun n => X.vars[x]? == some n && isLoc sc n && !isSet a && mtE X sc e a && mtSs X sc b b'
  | .forU xs e b, s' => forN s' fun t a b' => tupN t fun ts => varsM X sc xs ts && decide xs.Nodup && !isSet a && mtE X sc e a && mtSs X sc b b'
  | .ret e, s' => optB (vRet s') fun q => mtE X sc e q.1.1
  | .refused a b, s' => ifN s' fun c _ el => nilN el (bopN c fun op us => op == .Or && twoL us fun u v => unN u (fun o x => o == .Not && mtE X sc (.call (.glob 8) a [] []) x) && unN v fun o y => o == .Not && mtE X sc (.call (.glob 8) b [] []) y)
  | .tryR e, s' => tryN s' fun b hs => oneN hs (fun h => handM sc h) && oneN b fun st => exprN st fun x => mtE X sc e x
  | .raise, s' => true
    && raiseM sc s'
termination_by structural e => e
noncomputable def mtSs (X : TX) (sc : List (Str × NameKind)) : List MS → List Stmt → Bool
  | [], l => l.isEmpty
  | s :: ss, l => consN l fun a r => mtS X sc s a && mtSs X sc ss r
termination_by structural e => e
end
section
variable {X : TX} {sc : List (Str × NameKind)}
theorem mtEs_inv {e : ME} {es : List ME} {l : List Expr} (h : mtEs X sc (e :: es) l = true) : ∃ a r, l = a :: r ∧ isStar a = false ∧ mtE X sc e a = true ∧ mtEs X sc es r = true := by
  obtain ⟨a, r, e, h⟩ := consN_inv h
  exact ⟨a, r, e, bnot (band (band h).1).1, (band (band h).1).2, (band h).2⟩
theorem mtK_inv {e : ME} {es : List ME} {l : List Keyword} (h : mtK X sc (e :: es) l = true) : ∃ a r, l = a :: r ∧ mtE X sc e a.value = true ∧ mtK X sc es r = true := by
  obtain ⟨a, r, e, h⟩ := consN_inv h
  exact ⟨a, r, e, band h⟩
theorem mtCs_inv {e : MC} {es : List MC} {l : List Expr} (h : mtCs X sc (e :: es) l = true) : ∃ a r, l = a :: r ∧ mtC X sc e a = true ∧ mtCs X sc es r = true := by
  obtain ⟨a, r, e, h⟩ := consN_inv h
  exact ⟨a, r, e, band h⟩
theorem mtSs_inv {st : MS} {ss : List MS} {l : List Stmt} (h : mtSs X sc (st :: ss) l = true) : ∃ a r, l = a :: r ∧ mtS X sc st a = true ∧ mtSs X sc ss r = true := by
  obtain ⟨a, r, e, h⟩ := consN_inv h
  exact ⟨a, r, e, band h⟩
theorem varsM_inv {x : Nat} {xs : List Nat} {l : List Expr} (h : varsM X sc (x :: xs) l = true) : ∃ n p r, l = .Name n p :: r ∧ X.vars[x]? = some n ∧ isLoc sc n = true ∧ varsM X sc xs r = true := by
  obtain ⟨a, r, e0, g0⟩ := consN_inv h
  clear h
  subst e0
  have h := g0; clear g0
  obtain ⟨n, p, e0, g0⟩ := nameN_inv h
  clear h
  subst e0
  have h := g0; clear g0
  exact ⟨n, p, r, rfl, eq_of_beq (band (band h).1).1, (band (band h).1).2, (band h).2⟩
theorem cmpM_inv {op : CmpOp} {p q : Expr → Bool} {e' : Expr} (h : cmpN e' (fun a os bs => oneN os fun o => oneN bs fun b => op == o && !isSet b && p a && q b) = true) : ∃ a b pos, e' = .Compare a [op] [b] pos ∧ isSet b = false ∧ p a = true ∧ q b = true := by
  obtain ⟨a, os, bs, pos, e0, g0⟩ := cmpN_inv h
  clear h
  subst e0
  have h := g0; clear g0
  obtain ⟨o, e0, g0⟩ := oneN_inv h
  clear h
  subst e0
  have h := g0; clear g0
  obtain ⟨b, e0, g0⟩ := oneN_inv h
  clear h
  subst e0
  have h := g0; clear g0
  obtain ⟨h, h4⟩ := band h
  obtain ⟨h, h3⟩ := band h
  obtain ⟨h1, h2⟩ := band h
  exact ⟨a, b, pos, by rw [eq_of_beq h1], bnot h2, h3, h4⟩
theorem compM_inv {caps : List Nat} {x : Nat} {it elt : ME} {ifs : List MC} {e' : Expr} (hm : mtE X sc (.comp caps x it ifs elt) e' = true) :
    ∃ elt' it' ifs' x' px scope pos, e' = .ListComp elt' [⟨.Name x' px, it', ifs', 0⟩] scope pos ∧ X.vars[x]? = some x' ∧ scope.names.lookup x' = some .local ∧ compScopeOk X sc scope caps = true ∧ isSet it' = false ∧ mtE X sc it it' = true ∧ mtCs X scope.names ifs ifs' = true ∧ mtE X scope.names elt elt' = true := by
  obtain ⟨elt', gs, scope, pos, e0, g0⟩ := compA_inv hm
  clear hm
  subst e0
  have h := g0; clear g0
  obtain ⟨⟨tg, it', ifs', as⟩, e0, g0⟩ := oneN_inv h
  clear h
  subst e0
  have h := g0; clear g0
  obtain ⟨x', px, e, h⟩ := nameN_inv h
  obtain ⟨h, helt⟩ := band h
  obtain ⟨h, hifs⟩ := band h
  obtain ⟨h, hit⟩ := band h
  obtain ⟨h, hset⟩ := band h
  obtain ⟨h, hsc⟩ := band h
  obtain ⟨h, hl⟩ := band h
  obtain ⟨ha, hx⟩ := band h
  have e : tg = .Name x' px := e
  have ha : as = 0 := eq_of_beq ha
  subst ha
  subst e
  exact ⟨elt', it', ifs', x', px, scope, pos, rfl, eq_of_beq hx, eq_of_beq hl, hsc, bnot hset, hit, hifs, helt⟩
theorem sliceM_inv {o l u s : ME} {e' : Expr} (h : mtE X sc (.slice o l u s) e' = true) : ∃ b x y z p1 p2, e' = .Subscript b (.Slice x y z p1) p2 ∧ mtE X sc o b = true ∧ mtO X sc l x = true ∧ mtO X sc u y = true ∧ mtO X sc s z = true := by
  obtain ⟨b, i, p2, e0, g0⟩ := subN_inv h
  clear h
  subst e0
  have h := g0; clear g0
  obtain ⟨x, y, z, p1, e0, g0⟩ := sliceN_inv h
  clear h
  subst e0
  have h := g0; clear g0
  obtain ⟨h, h4⟩ := band h
  obtain ⟨h, h3⟩ := band h
  obtain ⟨h1, h2⟩ := band h
  exact ⟨b, x, y, z, p1, p2, rfl, h1, h2, h3, h4⟩
theorem callM_inv {f : ME} {es : List ME} {ks : List Str} {kes : List ME} {e' : Expr} (h : mtE X sc (.call f es ks kes) e' = true) : ∃ x p as kws pos, e' = .Call (.Name x p) as kws pos ∧ es.isEmpty = false ∧ kwNames kws = some ks ∧ mtE X sc f (.Name x p) = true ∧ mtEs X sc es as = true ∧ mtK X sc kes kws = true := by
  obtain ⟨f', as, kws, pos, e0, g0⟩ := callA_inv h
  clear h
  subst e0
  have h := g0; clear g0
  obtain ⟨h0, h⟩ := band h
  obtain ⟨x, p, e0, g0⟩ := nameN_inv h0
  clear h0
  subst e0
  have _ := g0; clear g0
  obtain ⟨h, h5⟩ := band h
  obtain ⟨h, h4⟩ := band h
  obtain ⟨h, h3⟩ := band h
  obtain ⟨h1, h2⟩ := band h
  exact ⟨x, p, as, kws, pos, rfl, bnot h1, eq_of_beq h2, h3, h4, h5⟩
theorem asgM_inv {x : Nat} {e : ME} {s' : Stmt} (h : mtS X sc (.assign x e) s' = true) : ∃ n p a pos, s' = .Assign [.Name n p] a pos ∧ X.vars[x]? = some n ∧ isLoc sc n = true ∧ isSD a = false ∧ mtE X sc e a = true := by
  replace h : asgN s' (fun t a => nameN t fun n => X.vars[x]? == some n && isLoc sc n && !isSD a && mtE X sc e a) = true := h
  obtain ⟨t, a, pos, e0, g0⟩ := asgN_inv h
  clear h
  subst e0
  have h := g0; clear g0
  obtain ⟨n, p, e0, g0⟩ := nameN_inv h
  clear h
  subst e0
  have h := g0; clear g0
  obtain ⟨h, h4⟩ := band h
  obtain ⟨h, h3⟩ := band h
  obtain ⟨h1, h2⟩ := band h
  exact ⟨n, p, a, pos, rfl, eq_of_beq h1, h2, bnot h3, h4⟩
theorem mutM_inv {x : Nat} {es : List ME} {s' : Stmt} (h : mtS X sc (.assignMut x es) s' = true) : ∃ n p l lp pos, s' = .Assign [.Name n p] (.List l lp) pos ∧ X.vars[x]? = some n ∧ isLoc sc n = true ∧ mtEs X sc es l = true := by
  replace h : asgN s' (fun t a => nameN t fun n => listN a fun l => X.vars[x]? == some n && isLoc sc n && mtEs X sc es l) = true := h
  obtain ⟨t, a, pos, e0, g0⟩ := asgN_inv h
  clear h
  subst e0
  have h := g0; clear g0
  obtain ⟨n, p, e0, g0⟩ := nameN_inv h
  clear h
  subst e0
  have h := g0; clear g0
  obtain ⟨l, lp, e0, g0⟩ := listN_inv h
  clear h
  subst e0
  have h := g0; clear g0
  obtain ⟨h, h3⟩ := band h
  obtain ⟨h1, h2⟩ := band h
  exact ⟨n, p, l, lp, pos, rfl, eq_of_beq h1, h2, h3⟩
theorem tupM_inv {xs : List Nat} {fl : List Bool} {es : List ME} {s' : Stmt} (h : mtS X sc (.assignTup xs fl es) s' = true) : ∃ ts n1 p1 us n2 p2 pos, s' = .Assign [.Tuple ts n1 p1] (.Tuple us n2 p2) pos ∧ varsM X sc xs ts = true ∧ (xs.Nodup ∧ xs.length ≤ 100) ∧ mtEs X sc es us = true ∧ (!us.all (constantsAlone 8) || us.all (foldedForSure 8)) = true := by
  replace h : asgN s' (fun t a => tupN t fun ts => tupN a fun u => varsM X sc xs ts && decide (xs.Nodup ∧ xs.length ≤ 100) && mtEs X sc es u && (!u.all (constantsAlone 8) || u.all (foldedForSure 8))) = true := h
  obtain ⟨t, a, pos, e0, g0⟩ := asgN_inv h
  clear h
  subst e0
  have h := g0; clear g0
  obtain ⟨ts, n1, p1, e0, g0⟩ := tupN_inv h
  clear h
  subst e0
  have h := g0; clear g0
  obtain ⟨us, n2, p2, e0, g0⟩ := tupN_inv h
  clear h
  subst e0
  have h := g0; clear g0
  obtain ⟨h, h4⟩ := band h
  obtain ⟨h, h3⟩ := band h
  obtain ⟨h1, h2⟩ := band h
  exact ⟨ts, n1, p1, us, n2, p2, pos, rfl, h1, of_decide_eq_true h2, h3, h4⟩
theorem unpM_inv {xs : List Nat} {e : ME} {s' : Stmt} (h : mtS X sc (.unpack xs e) s' = true) : ∃ ts n1 p1 a pos, s' = .Assign [.Tuple ts n1 p1] a pos ∧ varsM X sc xs ts = true ∧ xs.Nodup ∧ isTup a = false ∧ mtE X sc e a = true := by
  replace h : asgN s' (fun t a => tupN t fun ts => varsM X sc xs ts && decide xs.Nodup && !isTup a && mtE X sc e a) = true := h
  obtain ⟨t, a, pos, e0, g0⟩ := asgN_inv h
  clear h
  subst e0
  have h := g0; clear g0
  obtain ⟨ts, n1, p1, e0, g0⟩ := tupN_inv h
  clear h
  subst e0
  have h := g0; clear g0
  obtain ⟨h, h4⟩ := band h
  obtain ⟨h, h3⟩ := band h
  obtain ⟨h1, h2⟩ := band h
  exact ⟨ts, n1, p1, a, pos, rfl, h1, of_decide_eq_true h2, bnot h3, h4⟩
theorem forM_inv {x : Nat} {e : ME} {b : List MS} {s' : Stmt} (h : mtS X sc (.for x e b) s' = true) : ∃ n p a b' pos, s' = .For (.Name n p) a b' [] pos ∧ X.vars[x]? = some n ∧ isLoc sc n = true ∧ isSet a = false ∧ mtE X sc e a = true ∧ mtSs X sc b b' = true := by
  replace h : forN s' (fun t a b' => nameN t fun n => X.vars[x]? == some n && isLoc sc n && !isSet a && mtE X sc e a && mtSs X sc b b') = true := h
  obtain ⟨t, a, b', pos, e0, g0⟩ := forN_inv h
  clear h
  subst e0
  have h := g0; clear g0
  obtain ⟨n, p, e0, g0⟩ := nameN_inv h
  clear h
  subst e0
  have h := g0; clear g0
  obtain ⟨h, h5⟩ := band h
  obtain ⟨h, h4⟩ := band h
  obtain ⟨h, h3⟩ := band h
  obtain ⟨h1, h2⟩ := band h
  exact ⟨n, p, a, b', pos, rfl, eq_of_beq h1, h2, bnot h3, h4, h5⟩
theorem forUM_inv {xs : List Nat} {e : ME} {b : List MS} {s' : Stmt} (h : mtS X sc (.forU xs e b) s' = true) : ∃ ts n1 p1 a b' pos, s' = .For (.Tuple ts n1 p1) a b' [] pos ∧ varsM X sc xs ts = true ∧ xs.Nodup ∧ isSet a = false ∧ mtE X sc e a = true ∧ mtSs X sc b b' = true := by
  replace h : forN s' (fun t a b' => tupN t fun ts => varsM X sc xs ts && decide xs.Nodup && !isSet a && mtE X sc e a && mtSs X sc b b') = true := h
  obtain ⟨t, a, b', pos, e0, g0⟩ := forN_inv h
  clear h
  subst e0
  have h := g0; clear g0
  obtain ⟨ts, n1, p1, e0, g0⟩ := tupN_inv h
  clear h
  subst e0
  have h := g0; clear g0
  obtain ⟨h, h5⟩ := band h
  obtain ⟨h, h4⟩ := band h
  obtain ⟨h, h3⟩ := band h
  obtain ⟨h1, h2⟩ := band h
  exact ⟨ts, n1, p1, a, b', pos, rfl, h1, of_decide_eq_true h2, bnot h3, h4, h5⟩
theorem notM_inv {p : Expr → Bool} {u : Expr} (h : unN u (fun o x => o == .Not && p x) = true) : ∃ x pos, u = .UnaryOp .Not x pos ∧ p x = true := by
  obtain ⟨o, x, pos, e0, g0⟩ := unN_inv h
  clear h
  subst e0
  have h := g0; clear g0
  exact ⟨x, pos, by rw [eq_of_beq (band h).1], (band h).2⟩
theorem refM_inv {a b : List ME} {s' : Stmt} (h : mtS X sc (.refused a b) s' = true) : ∃ x1 p1 x2 p2 bp t pos, s' = .If (.BoolOp .Or [.UnaryOp .Not x1 p1, .UnaryOp .Not x2 p2] bp) t [] pos ∧ mtE X sc (.call (.glob 8) a [] []) x1 = true ∧ mtE X sc (.call (.glob 8) b [] []) x2 = true := by
  replace h : ifN s' (fun c _ el => nilN el (bopN c fun op us => op == .Or && twoL us fun u v => unN u (fun o x => o == .Not && mtE X sc (.call (.glob 8) a [] []) x) && unN v fun o y => o == .Not && mtE X sc (.call (.glob 8) b [] []) y)) = true := h
  obtain ⟨c, t, e, pos, e0, g0⟩ := ifN_inv h
  clear h
  subst e0
  have h := g0; clear g0
  obtain ⟨e0, g0⟩ := nilN_inv h
  clear h
  subst e0
  have h := g0; clear g0
  obtain ⟨op, us, bp, e0, g0⟩ := bopN_inv h
  clear h
  subst e0
  have h := g0; clear g0
  obtain ⟨h1, g⟩ := band h
  clear h
  have h1 : op = .Or := eq_of_beq h1
  subst h1
  have h := g; clear g
  obtain ⟨u, v, e0, g0⟩ := twoL_inv h
  clear h
  subst e0
  have h := g0; clear g0
  obtain ⟨h1, h2⟩ := band h
  obtain ⟨x1, p1, e0, g0⟩ := notM_inv h1
  clear h1
  subst e0
  have h1 := g0; clear g0
  obtain ⟨x2, p2, e0, g0⟩ := notM_inv h2
  clear h2
  subst e0
  have h2 := g0; clear g0
  exact ⟨x1, p1, x2, p2, bp, t, pos, rfl, h1, h2⟩
end
end Mine
end
section
open PySem PySem.Calls PySem.W PyProof.Rows PySem.SeqAt
set_option maxRecDepth 100000
set_option linter.unusedVariables false
namespace Mine
noncomputable def ItSt (C : Cfg) (ρ : List Addr) (h : Heap) (v : V) (I : Addr) (i : Nat) : Prop :=
  match v with
  | .list vs => ∃ ax, h.IsListIter I ax i ∧ VRel C h ρ (.list vs) (.ref ax)
  | .mut j => ∃ ax, h.IsListIter I ax i ∧ ρ[j]? = some ax
  | .rng a b c => IsRangeIter h I (a + (i : Nat) * c) (rngSize a b c - (i : Nat)) c
  | .bytes l => ∃ t, KBw.IsBytesIter h I l.toArray t i
  | .str l => ∃ t, h.IsStrIter I "str_ascii_iterator" ⟨l.toArray⟩ t i
  | _ => False
section
variable {C C' : Cfg} {A : Around} {ρ ρ' : List Addr} {mh : MH} {s : Shared} {h h' : Heap} {v : V} {I : Addr} {i : Nat}
theorem ItSt.map (x : ItSt C ρ h v I i) (e : ∀ o, h.get? I = some o → h'.get? I = some o) (l : ∀ vs ax, VRel C h ρ (.list vs) (.ref ax) → VRel C' h' ρ' (.list vs) (.ref ax)) (m : ∀ (j : Nat) (ax : Addr), ρ[j]? = some ax → ρ'[j]? = some ax) : ItSt C' ρ' h' v I i := by
  cases v with
  | list vs => obtain ⟨ax, ⟨o, ho, r⟩, b⟩ := x; exact ⟨ax, ⟨o, e o ho, r⟩, l vs ax b⟩
  | «mut» j => obtain ⟨ax, ⟨o, ho, r⟩, b⟩ := x; exact ⟨ax, ⟨o, e o ho, r⟩, m j ax b⟩
  | rng a b c => exact e _ x
  | bytes l => obtain ⟨t, o, ho, r⟩ := x; exact ⟨t, o, e o ho, r⟩
  | str l => obtain ⟨t, o, ho, r⟩ := x; exact ⟨t, o, e o ho, r⟩
  | _ => exact x.elim
theorem ItSt.keep (x : ItSt C ρ h v I i) (e : ∀ o, h.get? I = some o → h'.get? I = some o) (k : KeepD ρ h h') : ItSt C ρ h' v I i := x.map e (fun _ _ r => r.keep k) fun _ _ r => r
theorem ItSt.keepX (x : ItSt C ρ h v I i) (e : ∀ o, h.get? I = some o → h'.get? I = some o) (k : KeepD (ρ ++ C.ξ) h h') : ItSt C ρ h' v I i := x.map e (fun _ _ r => r.keepX k) fun _ _ r => r
theorem ItSt.more {δ : List Addr} (x : ItSt C ρ h v I i) (k : ∀ a ∈ δ, ∀ o, h.get? a ≠ some o) : ItSt C (ρ ++ δ) h v I i := x.map (fun _ e => e) (fun _ _ r => r.more k) fun _ _ e => app_more e
theorem ItSt.into {D : Addr} (x : ItSt C ρ h v I i) (k : ∀ o, h.get? D ≠ some o) : ItSt (C.with D) ρ h v I i := x.map (fun _ e => e) (fun _ _ r => r.into k) fun _ _ r => r
theorem not_d_fields {o : Obj} {T : String} {vs : Array Value} (hc : o.cls = .type T) (hd : o.data = .fields vs) (hT : T ≠ "range") : ¬ isD o := by
  rintro (⟨xs, n, q⟩ | ⟨q, _⟩)
  · rw [hd] at q; cases q
  · rw [hc] at q; injection q with q; exact hT q
theorem ItSt.obj' (x : ItSt C ρ h v I i) : ∃ o vs, h.get? I = some o ∧ o.data = .fields vs ∧ ¬ isD o := by
  cases v with
  | list vs => obtain ⟨ax, ⟨o, ho, hc, hd⟩, b⟩ := x; exact ⟨o, _, ho, hd, not_d_fields hc hd (by decide)⟩
  | «mut» j => obtain ⟨ax, ⟨o, ho, hc, hd⟩, b⟩ := x; exact ⟨o, _, ho, hd, not_d_fields hc hd (by decide)⟩
  | rng a b c => exact ⟨_, _, x, rfl, not_d_fields rfl rfl (by decide)⟩
  | bytes l => obtain ⟨t, o, ho, hc, hd⟩ := x; exact ⟨o, _, ho, hd, not_d_fields hc hd (by decide)⟩
  | str l => obtain ⟨t, o, ho, hc, hd⟩ := x; exact ⟨o, _, ho, hd, not_d_fields hc hd (by decide)⟩
  | _ => exact x.elim
theorem ItSt.obj (x : ItSt C ρ h v I i) : ∃ o, h.get? I = some o ∧ ¬ isD o := let ⟨o, _, a, _, b⟩ := x.obj'; ⟨o, a, b⟩
theorem rng_items {a b c : Int} {vs : List V} (h : iterItems mh (.rng a b c) = some vs) : Builtin.Range.small a b c = true ∧ vs = (List.range (rngSize a b c).toNat).map fun (i : Nat) => .int (a + (i : Int) * c) := by
  unfold iterItems at h
  by_cases hs : Builtin.Range.small a b c = true
  · dsimp only at h; rw [if_pos hs] at h; cases h; exact ⟨hs, rfl⟩
  · dsimp only at h; rw [if_neg hs] at h; cases h
theorem str_items {l : List Nat} {vs : List V} (h : iterItems mh (.str l) = some vs) : l.all (· < 128) = true ∧ vs = l.map fun c => .str [c] := by
  unfold iterItems at h
  by_cases hs : l.all (· < 128) = true
  · dsimp only at h; rw [if_pos hs] at h; cases h; exact ⟨hs, rfl⟩
  · dsimp only at h; rw [if_neg hs] at h; cases h
theorem iter_start {x : Value} {vs : List V} (h : iterItems mh v = some vs) (co : Co C ρ mh s.heap) (r : VRel C s.heap ρ v x) :
    WP C A (pyIter x) (fun it s' => ∃ h', it = .ref s.heap.objs.size ∧ s' = { s with heap := h' } ∧ (∀ b o, s.heap.get? b = some o → h'.get? b = some o) ∧ ItSt C ρ h' v s.heap.objs.size 0) s := by
  cases v with
  | list us =>
    have r' := r
    obtain ⟨a, xs, rfl, hl, _⟩ := r
    exact wpAny_pyIter_list hl ⟨_, rfl, rfl, up_push _, _, ⟨_, Heap.get?_push_size _ rfl, rfl, rfl⟩, r'.keep (Keep.push _).d⟩
  | «mut» j =>
    obtain ⟨a, rfl, e⟩ := r
    obtain ⟨xs, n, g, r⟩ := co.m.at' j _ vs e h
    exact wpAny_pyIter_list ⟨_, g, rfl, n, rfl⟩ ⟨_, rfl, rfl, up_push _, _, ⟨_, Heap.get?_push_size _ rfl, rfl, rfl⟩, e⟩
  | rng a b c =>
    obtain ⟨_, _, _, _, rfl, hr, hn⟩ := r
    refine wpAny_pyIter_range hr (rng_items h).1 ⟨_, rfl, rfl, up_push _, ?_⟩
    show IsRangeIter _ _ _ _ _
    simpa [rngSize] using Heap.get?_push_size s.heap rfl
  | bytes l => obtain ⟨t, rfl⟩ := r; exact KBw.pyIter_bytes ⟨_, rfl, rfl, up_push _, t, _, Heap.get?_push_size _ rfl, rfl, rfl⟩
  | str l => obtain ⟨t, rfl⟩ := r; exact wpAny_pyIter_ascii (by simpa using (str_items h).1) ⟨_, rfl, rfl, up_push _, t, _, Heap.get?_push_size _ rfl, rfl, rfl⟩
  | _ => cases h
theorem iter_self {Q : Value → Shared → Prop} (st : ItSt C ρ s.heap v I i) (h : Q (.ref I) s) : WP C A (pyIter (.ref I)) Q s := by
  cases v with
  | list vs => obtain ⟨ax, a, b⟩ := st; exact wpAny_pyIter_listiter a h
  | «mut» j => obtain ⟨ax, a, b⟩ := st; exact wpAny_pyIter_listiter a h
  | rng a b c => exact wpAny_pyIter_rangeiter st h
  | bytes l => obtain ⟨t, a⟩ := st; exact KBw.pyIter_self a h
  | str l => obtain ⟨t, a⟩ := st; exact wpAny_pyIter_striter_ascii a h
  | _ => exact st.elim
theorem map_at {α : Type} {l : List α} {f : α → V} {u : V} (hu : (l.map f)[i]? = some u) : ∃ a, l[i]? = some a ∧ u = f a := by
  rw [List.getElem?_map, Option.map_eq_some_iff] at hu
  exact let ⟨a, h, e⟩ := hu; ⟨a, h, e.symm⟩
theorem arr_at {α : Type} {l : List α} {a : α} (e : l[i]? = some a) : l.toArray[i]? = some a := by rw [List.getElem?_toArray]; exact e
theorem iter_next {u : V} {vs : List V} (h : iterItems mh v = some vs) (hu : vs[i]? = some u) (co : Co C ρ mh s.heap) (st : ItSt C ρ s.heap v I i) :
    WP C A (pyNext (.ref I)) (fun r s' => ∃ w h' tk, r = some w ∧ s' = { s with heap := h', toks := tk } ∧ Heap.SameBut I s.heap h' ∧ ItSt C ρ h' v I (i + 1) ∧ VRel C h' ρ u w) s := by
  obtain ⟨oI, hoI, hdI⟩ := st.obj
  have kd : ∀ {h'}, Heap.SameBut I s.heap h' → KeepD ρ s.heap h' := fun hs a o e d _ => (hs.2 a (by rintro rfl; rw [hoI] at e; cases e; exact hdI d)).trans e
  cases v with
  | list us =>
    obtain ⟨ax, a, b⟩ := st
    cases h
    have b' := b
    obtain ⟨_, xs, e, hl, hn, q⟩ := b
    cases e
    obtain ⟨w, e, qw⟩ := q.get hu
    exact wpAny_pyNext_list_item a hl (arr_at e) fun h' a' hs => ⟨w, h', s.toks, rfl, rfl, hs, ⟨ax, a', b'.keep (kd hs)⟩, qw.keep (kd hs)⟩
  | «mut» j =>
    obtain ⟨ax, a, b⟩ := st
    obtain ⟨xs, n, g, q⟩ := co.m.at' j ax vs b h
    obtain ⟨w, e, qw⟩ := q.get hu
    exact wpAny_pyNext_list_item a (⟨_, g, rfl, n, rfl⟩ : s.heap.IsList ax xs.toArray) (arr_at e) fun h' a' hs => ⟨w, h', s.toks, rfl, rfl, hs, ⟨ax, a', b⟩, qw.keep (kd hs)⟩
  | rng a b c =>
    obtain ⟨_, rfl⟩ := rng_items h
    obtain ⟨j, hj, rfl⟩ := map_at hu
    obtain ⟨hi, e⟩ := List.getElem?_eq_some_iff.mp hj
    rw [List.getElem_range] at e
    subst e
    rw [List.length_range] at hi
    refine wpAny_pyNext_range_item st (by omega) fun h' a' hs => ⟨_, h', _, rfl, rfl, hs, ?_, .int _ _⟩
    show IsRangeIter _ _ _ _ _
    have e1 : a + ((i + 1 : Nat) : Int) * c = a + (i : Int) * c + c := by rw [Int.natCast_add, Int.add_mul, Int.natCast_one, Int.one_mul, Int.add_assoc]
    have e2 : rngSize a b c - ((i + 1 : Nat) : Int) = rngSize a b c - (i : Int) - 1 := by omega
    rw [e1, e2]; exact a'
  | bytes l =>
    obtain ⟨t, a⟩ := st
    cases h
    obtain ⟨c, hc, rfl⟩ := map_at hu
    exact KBw.next_item a (c := c) (arr_at hc) fun h' a' hs => ⟨_, h', _, rfl, rfl, hs, ⟨t, a'⟩, .int _ _⟩
  | str l =>
    obtain ⟨t, a⟩ := st
    obtain ⟨_, rfl⟩ := str_items h
    obtain ⟨c, hc, rfl⟩ := map_at hu
    exact wpAny_pyNext_ascii_item a (c := c) (arr_at hc) fun h' a' hs => ⟨_, h', _, rfl, rfl, hs, ⟨t, a'⟩, .str [c] _⟩
  | _ => exact st.elim
theorem iter_end {vs : List V} (h : iterItems mh v = some vs) (co : Co C ρ mh s.heap) (hh : A.handled = none) (st : ItSt C ρ s.heap v I vs.length) :
    WP C A (pyNext (.ref I)) (fun r s' => ∃ h', r = none ∧ s' = { s with heap := h' } ∧ Heap.ExtBut I s.heap h') s := by
  cases v with
  | list us =>
    obtain ⟨ax, a, b⟩ := st
    cases h
    obtain ⟨_, xs, e, hl, hn, q⟩ := b
    cases e
    exact wpAny_pyNext_list_end hh a hl (by simp [q.length]) fun h' hs => ⟨h', rfl, rfl, hs⟩
  | «mut» j =>
    obtain ⟨ax, a, b⟩ := st
    obtain ⟨xs, n, g, q⟩ := co.m.at' j ax vs b h
    exact wpAny_pyNext_list_end hh a (⟨_, g, rfl, n, rfl⟩ : s.heap.IsList ax xs.toArray) (by simp [q.length]) fun h' hs => ⟨h', rfl, rfl, hs⟩
  | rng a b c =>
    obtain ⟨_, rfl⟩ := rng_items h
    refine wpAny_pyNext_range_end hh st ?_ fun h' hs => ⟨h', rfl, rfl, hs⟩
    rw [List.length_map, List.length_range]
    omega
  | bytes l =>
    obtain ⟨t, a⟩ := st
    cases h
    exact KBw.next_end hh a (by simp) fun h' hs => ⟨h', rfl, rfl, hs⟩
  | str l =>
    obtain ⟨t, a⟩ := st
    obtain ⟨_, rfl⟩ := str_items h
    exact wpAny_pyNext_ascii_end hh a (by simp) fun h' hs => ⟨h', rfl, rfl, hs⟩
  | _ => exact st.elim
end
/-! frames -/
noncomputable def Bound (env : Env) (h : Heap) (x : Str) (w : Value) : Prop :=
  (env.kindOf x = some .local ∧ ∃ m, h.Ns env.locals m ∧ m x = some w) ∨ (env.kindOf x = some .cell ∧ ∃ c, env.cells.lookup x = some c ∧ h.IsCell c (some w))
structure EnvOk (env : Env) (sc : List (Str × NameKind)) : Prop where
  kind : env.scope.kind = .function
  glob : env.globals = mainGlobals
  blt : env.builtins = builtinsNs
  kinds : ∀ x k, sc.lookup x = some k → k ≠ .free → env.kindOf x = some k
  free : ∀ x, sc.lookup x = some .free → env.kindOf x = some .cell
  cells : ∀ x, (sc.lookup x = some .cell ∨ sc.lookup x = some .free) → ∃ c, env.cells.lookup x = some c
noncomputable def FrR (C : Cfg) (X : TX) (env : Env) (loc : Loc) (ρ : List Addr) (h : Heap) : Prop :=
  ∀ (i : Nat) (v : V), loc[i]? = some (some v) → ∃ x w, X.vars[i]? = some x ∧ Bound env h x w ∧ VRel C h ρ v w
theorem ns_data {h : Heap} {a : Addr} {m : Str → Option Value} {o : Obj} (hn : h.Ns a m) (e : h.get? a = some o) : ∃ es ep, o.data = .dict es ep := by
  obtain ⟨o', es, ep, ho, hd, _⟩ := hn
  cases ho.symm.trans e; exact ⟨es, ep, hd⟩
theorem ns_not_list {h : Heap} {a : Addr} {m : Str → Option Value} {xs : Array Value} {n : Nat} (hn : h.Ns a m) (e : h.get? a = some (listOf xs n)) : False := nomatch ns_data hn e
theorem cell_not_list {h : Heap} {a : Addr} {v : Option Value} {xs : Array Value} {n : Nat} (hn : h.IsCell a v) (e : h.get? a = some (listOf xs n)) : False := by
  obtain ⟨o, ho, hd⟩ := hn
  cases ho.symm.trans e; cases hd
theorem ns_not_d {h : Heap} {a : Addr} {m : Str → Option Value} {o : Obj} (hn : h.Ns a m) (e : h.get? a = some o) : ¬ isD o := by
  obtain ⟨es, ep, hd⟩ := ns_data hn e
  rintro (⟨xs, n, q⟩ | ⟨_, vs, q⟩) <;> cases hd.symm.trans q
theorem cell_not_d {h : Heap} {a : Addr} {v : Option Value} {o : Obj} (hn : h.IsCell a v) (e : h.get? a = some o) : ¬ isD o := by
  obtain ⟨o', ho, hd⟩ := hn
  cases ho.symm.trans e
  rintro (⟨xs, n, q⟩ | ⟨_, vs, q⟩) <;> cases hd.symm.trans q
section
variable {C : Cfg} {A : Around} {ρ : List Addr} {mh : MH} {s : Shared} {env : Env}
theorem Bound.keep {h h' : Heap} {x : Str} {w : Value} (co : Co C ρ mh h) (k : Keep ρ h h') (b : Bound env h x w) : Bound env h' x w := by
  rcases b with ⟨hk, m, hn, hm⟩ | ⟨hk, c, hc, hi⟩
  · obtain ⟨o, es, ep, ho, r⟩ := id hn
    exact .inl ⟨hk, m, ⟨o, es, ep, k _ _ ho fun q => let ⟨_, _, g⟩ := co.mem_list q; ns_not_list hn g, r⟩, hm⟩
  · obtain ⟨o, ho, hd⟩ := id hi
    exact .inr ⟨hk, c, hc, o, k _ _ ho fun q => let ⟨_, _, g⟩ := co.mem_list q; cell_not_list hi g, hd⟩
theorem FrR.keep {h h' : Heap} {X : TX} {loc : Loc} (co : Co C ρ mh h) (k : Keep ρ h h') (f : FrR C X env loc ρ h) : FrR C X env loc ρ h' := fun i v e =>
  let ⟨x, w, a, b, c⟩ := f i v e; ⟨x, w, a, b.keep co k, c.keep k.d⟩
theorem Bound.load {x : Str} {w : Value} {Q : Value → Shared → Prop} (hk : env.scope.kind = .function) (b : Bound env s.heap x w) (h : Q w s) : WP C A (loadName env x) Q s := by
  rcases b with ⟨hl, m, hn, hm⟩ | ⟨hl, c, hc, hi⟩
  · exact wpAny_loadName_local hk hl hn hm h
  · exact wpAny_loadName_cell hk hl hc hi h
end
end Mine
end
section
open PySem PySem.Calls PySem.W PyProof.Rows PySem.SeqAt
set_option maxRecDepth 100000
set_option linter.unusedVariables false
namespace Mine
structure CfgOk (C : Cfg) (fns : List Str) : Prop where
  g : ∃ mg, C.hb.Ns mainGlobals mg ∧ (∀ (f : Nat) (x : Str), fns[f]? = some x → mg x = some (.ref (C.fa f)) ∧ ∃ o fd, C.hb.get? (C.fa f) = some o ∧ o.data = .func fd) ∧ (∀ x p, primOf x = some p → mg x = none) ∧ mg "isinstance" = none ∧ mg "bytes" = none
  b : ∃ mb, C.hb.Ns builtinsNs mb ∧ (∀ x p, primOf x = some p → mb x = some p.val) ∧ mb "isinstance" = some (.builtin "isinstance") ∧ mb "bytes" = some (.type "bytes")
  nolimit : C.hb.NoLimit
  ve : (∃ mg, C.hb.Ns mainGlobals mg ∧ mg "ValueError" = none) ∧ ∃ mb, C.hb.Ns builtinsNs mb ∧ mb "ValueError" = some (.type "ValueError")
theorem CfgOk.ext {C : Cfg} {fns : List Str} {ξ : List Addr} (K : CfgOk C fns) : CfgOk { C with ξ := ξ } fns := { K with }
section
variable {C : Cfg} {A : Around} {ρ : List Addr} {mh : MH} {s : Shared} {env : Env} {fns : List Str} {sc : List (Str × NameKind)}
theorem no_debug {x : Str} (h : notDebug x = true) : (x == ("__debug__" : Str)) = false := (Bool.not_eq_true' _).mp h
theorem load_fn {f : Nat} {x : Str} {pos : Pos} {Q : V → MH → Prop} (q : Q (.fn f) mh) (K : CfgOk C fns) (hf : fns[f]? = some x) (ho : EnvOk env sc) (hx : sc.lookup x = some .globalImplicit) (hd : (x == ("__debug__" : Str)) = false) (co : Co C ρ mh s.heap) :
    WP C A (eval (.Name x pos) env) (PostQ C ρ s Q) s := by
  obtain ⟨mg, hg, hfn, _⟩ := K.g
  obtain ⟨e, o, fd, h1, h2⟩ := hfn f x hf
  refine Name_function_global ho.kind (ho.kinds x _ hx (by decide)) (loadGlobal_global (mg := mg) ?_ e (PostQ.pure q co (.fn h1 h2))) hd
  rw [ho.glob]; exact hg.keeps co.up
theorem load_bi {x : Str} {w : Value} {pos : Pos} {Q : Value → Shared → Prop} (ho : EnvOk env sc) (hx : sc.lookup x = some .globalImplicit) (hd : (x == ("__debug__" : Str)) = false) (co : Co C ρ mh s.heap)
    (hg : ∃ mg, C.hb.Ns mainGlobals mg ∧ mg x = none) (hb : ∃ mb, C.hb.Ns builtinsNs mb ∧ mb x = some w) (h : Q w s) : WP C A (eval (.Name x pos) env) Q s := by
  obtain ⟨mg, hg, hm⟩ := hg
  obtain ⟨mb, hb, hv⟩ := hb
  refine Name_function_global ho.kind (ho.kinds x _ hx (by decide)) (loadGlobal_builtin (mg := mg) (mb := mb) ?_ hm ?_ hv h) hd
  · rw [ho.glob]; exact hg.keeps co.up
  · rw [ho.blt]; exact hb.keeps co.up
theorem prim_debug {p : Prim} {x : Str} (hp : primOf x = some p) : (x == ("__debug__" : Str)) = false := by
  cases hq : x == ("__debug__" : Str) with
  | false => rfl
  | true =>
    have : primOf ("__debug__" : Str) = none := by rfl
    rw [eq_of_beq hq, this] at hp; cases hp
theorem load_prim {p : Prim} {x : Str} {pos : Pos} {Q : Value → Shared → Prop} (K : CfgOk C fns) (hp : primOf x = some p) (ho : EnvOk env sc) (hx : sc.lookup x = some .globalImplicit) (co : Co C ρ mh s.heap) (h : Q p.val s) :
    WP C A (eval (.Name x pos) env) Q s :=
  load_bi ho hx (prim_debug hp) co (let ⟨mg, hg, _, hm, _⟩ := K.g; ⟨mg, hg, hm x p hp⟩) (let ⟨mb, hb, hv, _⟩ := K.b; ⟨mb, hb, hv x p hp⟩) h
theorem load_isi {pos : Pos} {Q : Value → Shared → Prop} (K : CfgOk C fns) (ho : EnvOk env sc) (hx : sc.lookup ("isinstance" : Str) = some .globalImplicit) (co : Co C ρ mh s.heap) (h : Q (.builtin "isinstance") s) :
    WP C A (eval (.Name ("isinstance" : Str) pos) env) Q s :=
  load_bi ho hx (by decide) co (let ⟨mg, hg, _, _, hm, _⟩ := K.g; ⟨mg, hg, hm⟩) (let ⟨mb, hb, _, hv, _⟩ := K.b; ⟨mb, hb, hv⟩) h
theorem starEach_cons {e : Expr} {rest : List Expr} (h : isStar e = false) : starEach (e :: rest) env = (false, eval e env) :: starEach rest env := by
  cases e <;> first | rfl | exact Bool.noConfusion h
theorem any_star {pos : Pos} : ∀ {es : List Expr}, (es.all fun e => !isStar e) = true → (backTo pos (starEach es env)).any (·.1) = false
  | [], _ => rfl
  | e :: es, h => by
    simp only [List.all_cons, Bool.and_eq_true, Bool.not_eq_true'] at h
    rw [starEach_cons h.1]
    exact any_star (es := es) h.2
theorem method_call {o' : Expr} {n : Str} {apos pos : Pos} {args : List Expr} {Q : Value → Shared → Prop} (hb : simpleBase o' = true) (hp : (apos.endLine == pos.line) = true) (hs : (args.all fun e => !isStar e) = true) (hl : args.length < 10)
    (h : WP C A (eval o' env) (fun ov s₁ => ∃ id, (∀ pl (Q' : Value × List Value → Shared → Prop), Q' (.builtin id, [ov]) s₁ → WP C A (getMethod ov n pl) Q' s₁) ∧ WP C A (callWith pos (.builtin id) [ov] (backTo pos (starEach args env)) []) Q s₁) s) :
    WP C A (eval (.Call (.Attribute o' n apos) args [] pos) env) Q s := by
  have hbase : ∀ whole, attributeBase o' n env whole = whole := by
    intro whole
    cases o' <;> first | rfl | exact Bool.noConfusion hb
  show wpAny _ A (do
    let ov ← attributeBase o' n env (eval o' env)
    standAt apos.atName
    methodCall o' n apos pos env ov (args.length + 0) (backTo pos (starEach args env)) (backToKw pos (keywordEach [] env))) _ _ s
  rw [hbase]
  refine wpAny_bind (wpAny_mono h (fun ov s₁ h₁ => ?_) fun _ _ e => e)
  obtain ⟨id, hg, hc⟩ := h₁
  refine wpAny_bind (wpAny_standAt ?_)
  unfold methodCall
  have hform : methodCallForm (args.length + 0) (backTo pos (starEach args env)) (backToKw pos (keywordEach [] env)) = true := by
    unfold methodCallForm
    have h1 : ((backTo pos (starEach args env)).all fun x => !x.1) = true := by
      have := any_star (env := env) (pos := pos) hs
      rw [List.all_eq_not_any_not]
      simpa using this
    have h2 : (backToKw pos (keywordEach [] env)) = [] := rfl
    rw [h1, h2]
    simp
    omega
  rw [hform]
  refine wpAny_bind (wpAny_holding ?_)
  unfold calleeOf
  rw [if_pos rfl]
  refine hg _ _ ?_
  refine wpAny_bind ?_
  unfold methodCallPos
  rw [if_pos (by rw [hp]; rfl)]
  exact wpAny_pure hc
theorem mem_one' {α : Type} {a b : α} (h : a ∈ [b]) : b = a := (List.mem_singleton.mp h).symm
theorem pureVs_iff : ∀ {vs : List V}, pureVs vs ↔ ∀ v ∈ vs, pureV v
  | [] => ⟨(fun _ _ h => nomatch h), fun _ => trivial⟩
  | _ :: _ => ⟨fun h v m => (List.mem_cons.mp m).elim (fun e => e ▸ h.1) fun m => pureVs_iff.mp h.2 v m, fun h => ⟨h _ (.head _), pureVs_iff.mpr fun v m => h v (.tail _ m)⟩⟩
theorem append_ {i : Nat} {a : Addr} {vs : List V} {v : V} {x : Value} {Q : V → MH → Prop} (q0 : Q .none (mh.set i (vs ++ [v]))) (co : Co C ρ mh s.heap) (hi : ρ[i]? = some a) (hm : mh[i]? = some vs) (r : VRel C s.heap ρ v x) (hp : pureV v) (hl : vs.length ≤ lim) :
    WP C A (call (.builtin "list.append") [.ref a, x]) (PostQ C ρ s Q) s := by
  obtain ⟨xs, n, g, q⟩ := co.m.at' i a vs hi hm
  refine append_at g (fun h' hs ho' => ?_) (by rw [List.size_toArray, ← q.length]; exact lim_le hl)
  have ha : a ∈ ρ := List.mem_of_getElem? hi
  have e : xs.toArray.push x = (xs ++ [x]).toArray := List.push_toArray ..
  rw [e] at ho'
  have hpv : pureVs (vs ++ [v]) := pureVs_iff.mpr fun w m => (List.mem_append.mp m).elim (pureVs_iff.mp (co.pure vs (List.mem_of_getElem? hm)) w) fun m => mem_one' m ▸ hp
  exact ⟨h', s.toks, _, _, rfl, q0, fun b o e hb => (hs.2 b fun q => hb (q ▸ ha)).trans e, co.mutate hi hs ho' (q.append (.cons r .nil)) hpv, .none⟩
theorem insert_ {i : Nat} {a : Addr} {vs : List V} {v : V} {x : Value} {j : Int} {t : Tok} {Q : V → MH → Prop} (q0 : Q .none (mh.set i (vs.take j.toNat ++ v :: vs.drop j.toNat))) (co : Co C ρ mh s.heap) (hi : ρ[i]? = some a) (hm : mh[i]? = some vs) (r : VRel C s.heap ρ v x) (hp : pureV v) (hl : vs.length ≤ lim) (h0 : 0 ≤ j) (h1 : j ≤ vs.length) :
    WP C A (call (.builtin "list.insert") [.ref a, .int j t, x]) (PostQ C ρ s Q) s := by
  obtain ⟨xs, n, g, q⟩ := co.m.at' i a vs hi hm
  have hlim : vs.length ≤ 1048576 := hl
  have hf : Builtin.List.listFitsIndex j = true := by simp [Builtin.List.listFitsIndex]; omega
  refine call_meets PySem.F.slot_list_insert ⟨_, g, rfl⟩ PySem.F.entry_list_insert (PySem.F.args_list_insert_3 _ _ _) (PySem.AutoSeq1.list_insert_list_int_val_1 a _ n j t x (by simp [hf]) (by rw [List.size_toArray, ← q.length]; exact lim_le hl)) ⟨g, ?_⟩
  have ha : a ∈ ρ := List.mem_of_getElem? hi
  have hk : (if j < 0 then (j + (xs.toArray.size : Int)).toNat else min j.toNat xs.toArray.size) = j.toNat := by
    rw [if_neg (by omega), List.size_toArray, ← q.length]; omega
  have e : (xs.toArray.extract 0 (if j < 0 then (j + (xs.toArray.size : Int)).toNat else min j.toNat xs.toArray.size)).push x ++ xs.toArray.extract (if j < 0 then (j + (xs.toArray.size : Int)).toNat else min j.toNat xs.toArray.size) = (xs.take j.toNat ++ x :: xs.drop j.toNat).toArray := by
    rw [hk, kl_ins_eq]
  have u := IsL.update g (fun ys : Array Value => (ys.extract 0 (if j < 0 then (j + (ys.size : Int)).toNat else min j.toNat ys.size)).push x ++ ys.extract (if j < 0 then (j + (ys.size : Int)).toNat else min j.toNat ys.size))
  simp only [e] at u
  have hpv : pureVs (vs.take j.toNat ++ v :: vs.drop j.toNat) := by
    have h0 := pureVs_iff.mp (co.pure vs (List.mem_of_getElem? hm))
    refine pureVs_iff.mpr fun w hw => (List.mem_append.mp hw).elim (fun m => h0 w (List.mem_of_mem_take m)) fun m => (List.mem_cons.mp m).elim (fun e => e ▸ hp) fun m => h0 w (List.mem_of_mem_drop m)
  exact ⟨_, s.toks, _, _, rfl, q0, fun b o e hb => ((Heap.SameBut.update s.heap a _).2 b fun q => hb (q ▸ ha)).trans e, co.mutate hi (Heap.SameBut.update ..) u ((q.take _).append (.cons r (q.drop _))) hpv, .none⟩
noncomputable def freeCells (env : Env) : List (Str × NameKind) → List (Str × Addr) → List (Str × Addr)
  | [], acc => acc
  | (n, k) :: r, acc => if k == .free then freeCells env r ((n, (env.cells.lookup n).getD 0) :: acc) else freeCells env r acc
theorem closure_go {names : List (Str × NameKind)} (f : Str × NameKind → List (Str × Addr) → Sem (ForInStep (List (Str × Addr))))
    (hf : ∀ n k acc, f (n, k) acc = if k == .free then (do let a ← cellOf env n; pure (.yield ((n, a) :: acc))) else pure (.yield acc))
    (h : ∀ p ∈ names, p.2 = .free → ∃ c, env.cells.lookup p.1 = some c) (acc : List (Str × Addr)) : forIn names acc f = pure (freeCells env names acc) := by
  induction names generalizing acc with
  | nil => rfl
  | cons p r ih =>
    obtain ⟨n, k⟩ := p
    rw [List.forIn_cons, hf]
    by_cases hk : k = .free
    · subst hk
      obtain ⟨c, hc⟩ := h (n, .free) (.head _) rfl
      have e : cellOf env n = pure c := by unfold cellOf; rw [hc]
      simp only [beq_self_eq_true, if_true, e, pure_bind]
      rw [ih fun q hq => h q (.tail _ hq)]
      simp [freeCells, hc]
    · have hb : (k == NameKind.free) = false := by simpa using hk
      simp only [hb, Bool.false_eq_true, if_false, pure_bind]
      rw [ih fun q hq => h q (.tail _ hq)]
      simp [freeCells, hb]
theorem closure_eq {scope : Scope} (h : ∀ p ∈ scope.names, p.2 = .free → ∃ c, env.cells.lookup p.1 = some c) : closureFor scope env = pure (freeCells env scope.names []) := by
  simp only [closureFor]
  rw [closure_go (env := env) _ (fun n k acc => by cases hk : k == NameKind.free <;> simp [hk]) h]
  rfl
theorem freeCells_ok : ∀ (names : List (Str × NameKind)) (acc : List (Str × Addr)), (∀ p ∈ names, p.2 = .free → ∃ c, env.cells.lookup p.1 = some c) → (∀ p ∈ acc, env.cells.lookup p.1 = some p.2) →
    (∀ p ∈ freeCells env names acc, env.cells.lookup p.1 = some p.2) ∧ (∀ p ∈ acc, p ∈ freeCells env names acc) ∧ (∀ x, (x, NameKind.free) ∈ names → ∃ c, (x, c) ∈ freeCells env names acc)
  | [], acc, _, h2 => ⟨h2, fun _ h => h, fun _ h => nomatch h⟩
  | (n, k) :: r, acc, h1, h2 => by
    unfold freeCells
    by_cases hk : k = .free
    · subst hk
      obtain ⟨c, hc⟩ := h1 (n, .free) (.head _) rfl
      simp only [beq_self_eq_true, if_true]
      obtain ⟨a, b, d⟩ := freeCells_ok r ((n, (env.cells.lookup n).getD 0) :: acc) (fun p hp => h1 p (.tail _ hp)) (by
        intro p hp
        rcases List.mem_cons.mp hp with rfl | hp
        · simp [hc]
        · exact h2 p hp)
      refine ⟨a, fun p hp => b p (.tail _ hp), fun x hx => ?_⟩
      rcases List.mem_cons.mp hx with e | hx
      · cases e; exact ⟨_, b _ (.head _)⟩
      · exact d x hx
    · have hb : (k == NameKind.free) = false := by simpa using hk
      simp only [hb, Bool.false_eq_true, if_false]
      obtain ⟨a, b, d⟩ := freeCells_ok r acc (fun p hp => h1 p (.tail _ hp)) h2
      refine ⟨a, b, fun x hx => ?_⟩
      rcases List.mem_cons.mp hx with e | hx
      · cases e; exact absurd rfl hk
      · exact d x hx
theorem lookup_of_mem {cl : List (Str × Addr)} {x : Str} {c : Addr} (h : ∀ p ∈ cl, p.1 = x → p.2 = c) (hm : ∃ c', (x, c') ∈ cl) : cl.lookup x = some c := by
  induction cl with
  | nil => obtain ⟨_, hm⟩ := hm; cases hm
  | cons p r ih =>
    obtain ⟨n, a⟩ := p
    rw [List.lookup_cons]
    cases hb : x == n with
    | true =>
      have : n = x := (by simpa using hb : x = n).symm
      have e : a = c := h (n, a) (.head _) this
      rw [e]
    | false =>
      refine ih (fun p hp => h p (.tail _ hp)) ?_
      obtain ⟨c', hm⟩ := hm
      rcases List.mem_cons.mp hm with e | hm
      · cases e; simp at hb
      · exact ⟨c', hm⟩
theorem mem_of_lookupK {names : List (Str × NameKind)} {x : Str} {k : NameKind} (h : names.lookup x = some k) : (x, k) ∈ names := by
  induction names with
  | nil => cases h
  | cons p r ih =>
    obtain ⟨n, a⟩ := p
    rw [List.lookup_cons] at h
    cases hb : x == n with
    | true => rw [hb] at h; cases h; rw [(by simpa using hb : x = n)]; exact .head _
    | false => rw [hb] at h; exact .tail _ (ih h)
theorem lookup_relabel {names : List (Str × NameKind)} {x : Str} {k : NameKind} (h : names.lookup x = some k) :
    (names.map fun (n, k) => if (k == NameKind.free && env.scope.kind == .function && env.kindOf n == some .cell) then (n, NameKind.cell) else (n, k)).lookup x =
      some (if (k == NameKind.free && env.scope.kind == .function && env.kindOf x == some .cell) then NameKind.cell else k) := by
  induction names with
  | nil => cases h
  | cons p r ih =>
    obtain ⟨n, a⟩ := p
    rw [List.lookup_cons] at h
    rw [List.map_cons]
    cases hb : x == n with
    | true =>
      rw [hb] at h; cases h
      have : x = n := by simpa using hb
      subst this
      show List.lookup x ((if (k == NameKind.free && env.scope.kind == .function && env.kindOf x == some .cell) = true then (x, NameKind.cell) else (x, k)) :: _) = _
      by_cases hc : (k == NameKind.free && env.scope.kind == .function && env.kindOf x == some .cell) = true
      · rw [if_pos hc, if_pos hc, List.lookup_cons]; simp
      · rw [if_neg hc, if_neg hc, List.lookup_cons]; simp
    | false =>
      rw [hb] at h
      show List.lookup x ((if (a == NameKind.free && env.scope.kind == .function && env.kindOf n == some .cell) = true then (n, NameKind.cell) else (n, a)) :: _) = _
      by_cases hc : (a == NameKind.free && env.scope.kind == .function && env.kindOf n == some .cell) = true
      · rw [if_pos hc, List.lookup_cons, hb]; exact ih h
      · rw [if_neg hc, List.lookup_cons, hb]; exact ih h
structure CompSc (X : TX) (env : Env) (sc : List (Str × NameKind)) (scope : Scope) (caps : List Nat) : Prop where
  kind : scope.kind = .function
  nocell : ∀ y ∈ scope.names, y.2 ≠ .cell
  names : ∀ y ∈ scope.names, scope.names.lookup y.1 = some y.2
  free : ∀ y ∈ scope.names, y.2 = .free → sc.lookup y.1 = some .cell ∨ sc.lookup y.1 = some .free
  caps : ∀ i ∈ caps, ∃ x, X.vars[i]? = some x ∧ scope.names.lookup x = some .free
theorem compSc_of {X : TX} {scope : Scope} {caps : List Nat} (h : compScopeOk X sc scope caps = true) : CompSc X env sc scope caps := by
  unfold compScopeOk at h
  simp only [Bool.and_eq_true, List.all_eq_true, beq_iff_eq, bne_iff_ne, ne_eq, Bool.or_eq_true] at h
  obtain ⟨⟨⟨⟨h1, h2⟩, h3⟩, h4⟩, h5⟩ := h
  refine ⟨h1, fun y hy => (h2 y hy).1, h3, fun y hy e => ?_, fun i hi => ?_⟩
  · rcases h4 y hy with q | q
    · exact absurd e (by simpa using q)
    · exact q
  · have := h5 i hi
    cases e : X.vars[i]? with
    | none => rw [e] at this; cases this
    | some x => rw [e] at this; exact ⟨x, rfl, eq_of_beq this⟩
theorem CompSc.cellsOk {X : TX} {scope : Scope} {caps : List Nat} (S : CompSc X env sc scope caps) (ho : EnvOk env sc) : ∀ p ∈ scope.names, p.2 = .free → ∃ c, env.cells.lookup p.1 = some c :=
  fun p hp e => ho.cells _ (S.free p hp e)
theorem CompSc.envOk {X : TX} {scope : Scope} {caps : List Nat} {Cl : Addr} (S : CompSc X env sc scope caps) (ho : EnvOk env sc) : EnvOk (compEnvC scope (freeCells env scope.names []) Cl env) scope.names := by
  have hfree : ∀ x, scope.names.lookup x = some .free → env.kindOf x = some .cell := by
    intro x hx
    rcases S.free _ (mem_of_lookupK hx) rfl with q | q
    · exact ho.kinds x _ q (by decide)
    · exact ho.free x q
  refine ⟨S.kind, ho.glob, ho.blt, fun x k hx hk => ?_, fun x hx => ?_, fun x hx => ?_⟩
  · have := lookup_relabel (env := env) hx
    have hb : (k == NameKind.free) = false := by simpa using hk
    rw [hb] at this
    exact this
  · have := lookup_relabel (env := env) hx
    have hc : (NameKind.free == NameKind.free && env.scope.kind == .function && env.kindOf x == some .cell) = true := by rw [hfree x hx, ho.kind]; rfl
    rw [if_pos hc] at this
    exact this
  · rcases hx with hx | hx
    · exact absurd rfl (S.nocell _ (mem_of_lookupK hx))
    · obtain ⟨c, hc⟩ := S.cellsOk ho _ (mem_of_lookupK hx) rfl
      obtain ⟨a, _, d⟩ := freeCells_ok (env := env) scope.names [] (S.cellsOk ho) (fun _ h => nomatch h)
      exact ⟨c, lookup_of_mem (fun p hp e => by have := a p hp; rw [e, hc] at this; exact (Option.some.inj this).symm) (d x (mem_of_lookupK hx))⟩
theorem capGo_get {caps : List Nat} : ∀ {loc : Loc} {k i : Nat} {v : V}, (capGo caps k loc)[i]? = some (some v) → caps.contains (k + i) = true ∧ loc[i]? = some (some v)
  | [], _, _, _, h => by simp [capGo] at h
  | o :: r, k, 0, v, h => by
    simp only [capGo, List.getElem?_cons_zero, Option.some.injEq] at h
    split at h
    · rename_i hc; subst h; exact ⟨hc, rfl⟩
    · cases h
  | o :: r, k, i + 1, v, h => by
    simp only [capGo, List.getElem?_cons_succ] at h
    have := capGo_get (loc := r) h
    have e : k + 1 + i = k + (i + 1) := by omega
    rw [e] at this
    simpa using this
theorem CompSc.frame {X : TX} {scope : Scope} {caps : List Nat} {Cl : Addr} {loc : Loc} {x : Nat} {x' : Str} {u : V} {w : Value} {m : Str → Option Value} {h₂ h : Heap} (S : CompSc X env sc scope caps) (ho : EnvOk env sc)
    (hx : X.vars[x]? = some x') (hl : scope.names.lookup x' = some .local) (fr : FrR C X env loc ρ h₂) (kc : ∀ c v, h₂.IsCell c v → h.IsCell c v) (kd : KeepD ρ h₂ h) (hn : h.Ns Cl m) (hm : m x' = some w) (hu : VRel C h ρ u w) :
    FrR C X (compEnvC scope (freeCells env scope.names []) Cl env) (capLoc caps x u loc) ρ h := by
  intro i v e
  unfold capLoc at e
  by_cases hi : i = x
  · subst hi
    have hlt : i < (capGo caps 0 loc).length := by
      have := (List.getElem?_eq_some_iff.mp e).1
      simpa using this
    rw [List.getElem?_set_self hlt] at e
    cases e
    exact ⟨x', w, hx, .inl ⟨by have := lookup_relabel_local (env := env) hl; exact this, m, hn, hm⟩, hu⟩
  · rw [List.getElem?_set_ne (Ne.symm hi)] at e
    obtain ⟨hc, e⟩ := capGo_get e
    obtain ⟨y, w', hy, hb, hv⟩ := fr i v e
    obtain ⟨y', hy', hf⟩ := S.caps i (by simpa using hc)
    rw [hy] at hy'; cases hy'
    have hk : env.kindOf y = some .cell := by
      rcases S.free _ (mem_of_lookupK hf) rfl with q | q
      · exact ho.kinds y _ q (by decide)
      · exact ho.free y q
    rcases hb with ⟨q, _⟩ | ⟨_, c, hc', hcell⟩
    · rw [hk] at q; cases q
    · refine ⟨y, w', hy, .inr ⟨(S.envOk (Cl := Cl) ho).free y hf, c, ?_, kc c _ hcell⟩, hv.keep kd⟩
      obtain ⟨a, _, d⟩ := freeCells_ok (env := env) scope.names [] (S.cellsOk ho) (fun _ h => nomatch h)
      exact lookup_of_mem (fun p hp e => by have := a p hp; rw [e, hc'] at this; exact (Option.some.inj this).symm) (d y (mem_of_lookupK hf))
end
end Mine
end
section
open PySem PySem.Calls PySem.W PyProof.Rows PySem.SeqAt
set_option maxRecDepth 100000
set_option linter.unusedVariables false
namespace Mine
section
variable {C : Cfg} {A : Around} {ρ : List Addr} {mh : MH} {s : Shared} {env : Env} {fns : List Str} {sc : List (Str × NameKind)}
noncomputable abbrev testsOf (ifs : List Expr) (cenv : Env) : Sem Bool :=
  forIn ifs true fun c r => if r = true then do let ok ← isTrue c cenv (eval c cenv); pure (ForInStep.yield ok) else pure (ForInStep.yield r)
theorem get_none_of {h : Heap} {a : Addr} (ha : h.objs.size ≤ a) : ∀ o, h.get? a ≠ some o := fun _ e => absurd (Heap.lt_size e) (Nat.not_lt.mpr ha)
theorem none_of {h : Heap} {a : Addr} (q : ∀ o, h.get? a ≠ some o) : h.get? a = none := Option.eq_none_iff_forall_ne_some.mpr q
theorem Co.base_none {h : Heap} {D : Addr} (co : Co C ρ mh h) (hD : ∀ o, h.get? D ≠ some o) : C.hb.get? D = none := none_of fun o e => hD o (co.up D o e)
theorem Co.rho_none {h : Heap} {D : Addr} (co : Co C ρ mh h) (hD : ∀ o, h.get? D ≠ some o) : D ∉ ρ := fun q => let ⟨_, _, g⟩ := co.mem_list q; hD _ g
theorem Co.into {h : Heap} {D : Addr} (co : Co C ρ mh h) (hD : ∀ o, h.get? D ≠ some o) {h' : Heap} (k : ∀ b o, h.get? b = some o → h'.get? b = some o) (hl : ∃ o, h'.get? D = some o) : Co (C.with D) ρ mh h' := by
  refine ⟨fun a o e => k a o (co.up a o e), co.new, ⟨co.m.len, co.m.nodup, fun i a vs e1 e2 => ?_⟩, co.pure, fun a ha => ?_, fun a ha => ?_⟩
  · obtain ⟨xs, n, g, r⟩ := co.m.at' i a vs e1 e2
    exact ⟨xs, n, k _ _ g, (r.into hD).keep (Keep.of_all k).d⟩
  · rcases List.mem_cons.mp ha with rfl | ha
    · exact hl
    · obtain ⟨o, ho⟩ := co.live a ha; exact ⟨o, k a o ho⟩
  · rcases List.mem_cons.mp ha with rfl | ha
    · exact ⟨co.rho_none hD, co.base_none hD⟩
    · exact co.apart a ha
theorem Co.out {h : Heap} {D : Addr} (co : Co (C.with D) ρ mh h) : Co C ρ mh h :=
  ⟨co.up, co.new, ⟨co.m.len, co.m.nodup, fun i a vs e1 e2 => let ⟨xs, n, g, r⟩ := co.m.at' i a vs e1 e2; ⟨xs, n, g, r.out⟩⟩, co.pure, fun a ha => co.live a (.tail _ ha), fun a ha => co.apart a (.tail _ ha)⟩
structure CI (C : Cfg) (ρ : List Addr) (mh : MH) (h₀ : Heap) (v : V) (I D Cl : Addr) (i : Nat) (oi : List V) (ys : List Value) (n : Nat) (h : Heap) : Prop where
  co : Co (C.with D) ρ mh h
  st : ItSt (C.with D) ρ h v I i
  ns : ∃ m, h.Ns Cl m
  acc : h.get? D = some (listOf ys.toArray n)
  all : VAll (C.with D) h ρ oi ys
  keep : ∀ b o, h₀.get? b = some o → b ≠ I → b ∉ ρ → h.get? b = some o
structure CN (C : Cfg) (ρ : List Addr) (h₀ : Heap) (I D Cl : Addr) : Prop where
  hD : ∀ o, h₀.get? D ≠ some o
  hC : ∀ o, h₀.get? Cl ≠ some o
  ic : I ≠ Cl
  id : I ≠ D
  dc : D ≠ Cl
  bi : C.hb.get? I = none
  bd : C.hb.get? D = none
  bc : C.hb.get? Cl = none
  ri : I ∉ ρ
  rd : D ∉ ρ
  rc : Cl ∉ ρ
variable {h₀ h h' : Heap} {v : V} {I D Cl : Addr} {i n : Nat} {oi : List V} {ys : List Value}
theorem CI.step (x : CI C ρ mh h₀ v I D Cl i oi ys n h) (N : CN C ρ h₀ I D Cl) (k : Keep ρ h h') (co : Co (C.with D) ρ mh h') : CI C ρ mh h₀ v I D Cl i oi ys n h' :=
  ⟨co, x.st.keep (fun o e => k I o e N.ri) k.d, let ⟨m, o, es, ep, ho, r⟩ := x.ns; ⟨m, o, es, ep, k Cl o ho N.rc, r⟩, k D _ x.acc N.rd, x.all.keep k.d, fun b o e h1 h2 => k b o (x.keep b o e h1 h2) h2⟩
theorem CI.moved (x : CI C ρ mh h₀ v I D Cl i oi ys n h) (N : CN C ρ h₀ I D Cl) (hs : ∀ a o, h.get? a = some o → a ≠ I → h'.get? a = some o) (st : ItSt (C.with D) ρ h' v I (i + 1)) : CI C ρ mh h₀ v I D Cl (i + 1) oi ys n h' := by
  obtain ⟨o', h1, h2⟩ := x.st.obj
  have nI : ∀ o, h.get? I = some o → ¬ isD o := fun o e => by cases h1.symm.trans e; exact h2
  have kd : KeepD ρ h h' := fun a o e d _ => hs a o e (by rintro rfl; exact nI o e d)
  obtain ⟨m, o, es, ep, ho, r⟩ := x.ns
  obtain ⟨oI, hoI, _⟩ := st.obj
  exact ⟨x.co.one (b := I) hs N.bi nI ⟨oI, hoI⟩, st, ⟨m, o, es, ep, hs _ _ ho (Ne.symm N.ic), r⟩, hs _ _ x.acc (Ne.symm N.id), x.all.keep kd, fun b o e h1 h2 => hs b o (x.keep b o e h1 h2) h1⟩
theorem CI.named {m : Str → Option Value} (x : CI C ρ mh h₀ v I D Cl i oi ys n h) (N : CN C ρ h₀ I D Cl) (hs : Heap.SameBut Cl h h') (ns : h'.Ns Cl m) : CI C ρ mh h₀ v I D Cl i oi ys n h' := by
  obtain ⟨m0, ns0⟩ := x.ns
  have nC : ∀ o, h.get? Cl = some o → ¬ isD o := fun o e => ns_not_d ns0 e
  have kd : KeepD ρ h h' := fun a o e d _ => (hs.2 a (by rintro rfl; exact nC o e d)).trans e
  obtain ⟨o, _, _, ho, _⟩ := id ns
  exact ⟨x.co.one (b := Cl) (fun a o e ne => (hs.2 a ne).trans e) N.bc nC ⟨o, ho⟩, x.st.keep (fun o e => (hs.2 I N.ic).trans e) kd, ⟨m, ns⟩, (hs.2 D N.dc).trans x.acc, x.all.keep kd,
    fun b o e h1 h2 => (hs.2 b (by rintro rfl; exact N.hC o e)).trans (x.keep b o e h1 h2)⟩
theorem CI.laid {y : V} {w : Value} {n' : Nat} (x : CI C ρ mh h₀ v I D Cl i oi ys n h) (N : CN C ρ h₀ I D Cl) (hs : Heap.SameBut D h h') (ho : h'.get? D = some (listOf (ys ++ [w]).toArray n')) (r : VRel (C.with D) h ρ y w) : CI C ρ mh h₀ v I D Cl i (oi ++ [y]) (ys ++ [w]) n' h' := by
  have kd : KeepD (ρ ++ (C.with D).ξ) h h' := fun a o e _ nn => (hs.2 a (by rintro rfl; exact nn (List.mem_append.mpr (.inr (.head _))))).trans e
  obtain ⟨m, o, es, ep, hoN, rN⟩ := x.ns
  refine ⟨x.co.keepX (X := [D]) (fun a o e nn => (hs.2 a fun q => nn (q ▸ .head _)).trans e) (fun b hb => mem_one hb ▸ N.bd) (fun b hb => .inr (mem_one hb ▸ .head _)) (fun b hb _ => mem_one hb ▸ ⟨_, ho⟩), x.st.keepX (fun o e => (hs.2 I N.id).trans e) kd,
    ⟨m, o, es, ep, (hs.2 Cl (Ne.symm N.dc)).trans hoN, rN⟩, ho, (x.all.keepX kd).append (.cons (r.keepX kd) .nil), fun b o e h1 h2 => (hs.2 b (by rintro rfl; exact N.hD o e)).trans (x.keep b o e h1 h2)⟩
noncomputable def CSt (C : Cfg) (ρ : List Addr) (mh : MH) (s : Shared) (v : V) (I D Cl : Addr) (vs : List V) (J : Nat → List V → Prop) (k : Nat) (s' : Shared) : Prop :=
  ∃ h' tk i oi ys n, s' = { s with heap := h', toks := tk } ∧ i ≤ vs.length ∧ k = vs.length + 1 - i ∧ J i oi ∧ oi.length ≤ i ∧ CI C ρ mh s.heap v I D Cl i oi ys n h'
theorem comp_loop {X : TX} {scope : Scope} {caps : List Nat} {loc : Loc} {tst : V → (Bool → Prop) → Prop} {el : V → (V → Prop) → Prop} {K : List V → Prop} {v : V} {vs : List V} {x : Nat} {x' : Str} {px pos : Pos} {elt' iter' : Expr} {ifs' : List Expr} {I : Addr}
    {RR : Value → Addr → Result → Shared → Prop}
    (hit : iterItems mh v = some vs) (hgo : compW tst el vs K) (hlim : vs.length ≤ lim) (S : CompSc X env sc scope caps) (ho : EnvOk env sc) (hx : X.vars[x]? = some x') (hl : scope.names.lookup x' = some .local)
    (co : Co C ρ mh s.heap) (fr : FrR C X env loc ρ s.heap) (st : ItSt C ρ s.heap v I 0) (hI : C.hb.get? I = none) (hIξ : I ∉ C.ξ) (hh : A.handled = none)
    (htest : ∀ D u K' h tk Cl, tst u K' → Co (C.with D) ρ mh h → FrR (C.with D) X (compEnvC scope (freeCells env scope.names []) Cl env) (capLoc caps x u loc) ρ h →
      WP C A (testsOf ifs' (compEnvC scope (freeCells env scope.names []) Cl env)) (PostB (C.with D) ρ { s with heap := h, toks := tk } fun b m => m = mh ∧ K' b) { s with heap := h, toks := tk })
    (helt : ∀ D u K' h tk Cl, el u K' → Co (C.with D) ρ mh h → FrR (C.with D) X (compEnvC scope (freeCells env scope.names []) Cl env) (capLoc caps x u loc) ρ h →
      WP C A (eval elt' (compEnvC scope (freeCells env scope.names []) Cl env)) (PostQ (C.with D) ρ { s with heap := h, toks := tk } fun y m => m = mh ∧ K' y) { s with heap := h, toks := tk })
    (hRR : ∀ D Cl h' tk m outs, K outs → s.heap.get? D = none → s.heap.get? Cl = none → D ≠ Cl → Co C ρ mh h' → VRel C h' ρ (.list outs) (.ref D) → h'.Ns Cl m → Keep (I :: ρ) s.heap h' → RR (.ref D) Cl (.ok .next) { s with heap := h', toks := tk }) {D Cl : Addr} {h₁ : Heap} {tk₁ : Nat} (N : CN C ρ s.heap I D Cl) (hDe : s.heap.objs.size ≤ D) (ci₀ : CI C ρ mh s.heap v I D Cl 0 [] [] 0 h₁) :
    codeAny (model C.prog C.w) A (.compLoop (.ListComp elt' [⟨.Name x' px, iter', ifs', 0⟩] scope pos) 0 (.ref I) (.ref D) (compEnvC scope (freeCells env scope.names []) Cl env)) (RR (.ref D) Cl) { s with heap := h₁, toks := tk₁ } := by
  obtain ⟨oI, vI, hoI, hdI, hnI⟩ := st.obj'
  obtain ⟨J, hJ0, hJ, hJe⟩ := hgo
  refine codeAny_compLoop_tests (CSt C ρ mh s v I D Cl vs J) ?_ (vs.length + 1)
    ⟨h₁, _, 0, [], [], 0, rfl, Nat.zero_le _, rfl, hJ0, Nat.le_refl _, ci₀⟩
  rintro k s' ⟨H, tk, i, oi, ys, n, rfl, hi, rfl, hrest, hoi, ci⟩
  by_cases hlt : i < vs.length
  · have hu : vs[i]? = some vs[i] := List.getElem?_eq_getElem hlt
    generalize vs[i] = u at hu
    have hrest := hJ i u oi hu hrest
    refine wp_e ((iter_next (C := C.with D) (A := A) hit hu ci.co ci.st).mono ?_)
    rintro r s₁ ⟨w, Ha, tka, rfl, rfl, hsa, sta, rw⟩
    have ca := ci.moved N (fun a o e ne => (hsa.2 a ne).trans e) sta
    obtain ⟨m, nsA⟩ := ca.ns
    refine wpAny_assign_Name (wpAny_storeName_local (lookup_relabel_local hl) nsA (fun Hb nsb hsb => ?_) (by simp [compEnvC, relabel, S.kind]))
    change Heap.SameBut Cl Ha Hb at hsb
    have cb := ca.named N hsb nsb
    have kdB : KeepD ρ Ha Hb := fun a o e d _ => (hsb.2 a (by rintro rfl; exact ns_not_d nsA e d)).trans e
    have kdS : KeepD ρ s.heap Hb := fun a o e d nn => cb.keep a o e (by rintro rfl; cases hoI.symm.trans e; exact hnI d) nn
    have frB : FrR (C.with D) X (compEnvC scope (freeCells env scope.names []) Cl env) (capLoc caps x u loc) ρ Hb := by
      refine S.frame (C := C.with D) ho hx hl (fun j v e => let ⟨y, w, a, b, c⟩ := fr j v e; ⟨y, w, a, b, c.into N.hD⟩) (fun c v hc => ?_) kdS nsb (if_pos rfl) (rw.keep kdB)
      obtain ⟨o, ho', hd⟩ := id hc
      refine ⟨o, cb.keep c o ho' ?_ fun q => let ⟨_, _, g⟩ := co.mem_list q; cell_not_list hc g, hd⟩
      rintro rfl; cases hoI.symm.trans ho'; cases hdI.symm.trans hd
    refine wp_e ((htest D u _ Hb _ Cl hrest cb.co frB).mono ?_)
    rintro b s₃ ⟨Hc, tkc, _, rfl, ⟨rfl, hb⟩, kC, coC⟩
    have cc := cb.step N kC coC
    cases b with
    | false => exact ⟨_, by omega, Hc, tkc, i + 1, oi, ys, n, rfl, hlt, rfl, hb, by omega, cc⟩
    | true =>
      refine wp_e ((helt D u _ Hc tkc Cl hb coC (frB.keep cb.co kC)).mono ?_)
      rintro w' s₄ ⟨Hd, tkd, y, _, rfl, ⟨rfl, hy⟩, kD, coD, rD⟩
      have cd := cc.step N kD coD
      refine append_at cd.acc (fun He hse hoe => ?_) (by rw [List.size_toArray, ← ci.all.length]; exact lim_le (Nat.le_trans (Nat.le_trans hoi hi) hlim))
      rw [List.push_toArray] at hoe
      exact ⟨_, by omega, He, tkd, i + 1, oi ++ [y], ys ++ [w'], n + 1, rfl, hlt, rfl, hy, by rw [List.length_append, List.length_singleton]; omega, cd.laid N hse hoe rD⟩
  · obtain rfl : i = vs.length := Nat.le_antisymm hi (Nat.le_of_not_lt hlt)
    refine wp_e ((iter_end (C := C.with D) (A := A) hit ci.co hh ci.st).mono ?_)
    rintro r s₁ ⟨Ha, rfl, rfl, hsa⟩
    obtain ⟨o', h1, h2⟩ := ci.st.obj
    have nIH : ∀ o, H.get? I = some o → ¬ isD o := fun o e => by cases h1.symm.trans e; exact h2
    have kH : ∀ a o, H.get? a = some o → a ≠ I → Ha.get? a = some o := fun a o e ne => hsa a o ne e
    have kdA : KeepD ρ H Ha := fun a o e d _ => kH a o e (by rintro rfl; exact nIH o e d)
    have coA : Co C ρ mh Ha :=
      (ci.co.keepX (X := [I]) (fun a o e nn => kH a o e fun q => nn (q ▸ .head _)) (fun b hb => mem_one hb ▸ hI) (fun b hb => .inl (mem_one hb ▸ nIH)) (fun b hb hb' => by
        rw [mem_one hb] at hb'
        exact (List.mem_cons.mp hb').elim (fun q => absurd q N.id) fun q => absurd q hIξ)).out
    have accA : Ha.get? D = some (listOf ys.toArray n) := kH D _ ci.acc (Ne.symm N.id)
    obtain ⟨m, oN, es, ep, hoN, rN⟩ := ci.ns
    exact hRR D Cl Ha _ m oi (hJe oi hrest) (none_of N.hD) (none_of N.hC) N.dc coA (.list ⟨_, accA, rfl, n, rfl⟩ (co.fresh hDe) (ci.all.keep kdA).out) ⟨oN, es, ep, kH Cl oN hoN (Ne.symm N.ic), rN⟩
      fun b o e nn => kH b o (ci.keep b o e (fun q => nn (q ▸ .head _)) fun q => nn (.tail _ q)) fun q => nn (q ▸ .head _)
theorem comp_core {X : TX} {scope : Scope} {caps : List Nat} {loc : Loc} {tst : V → (Bool → Prop) → Prop} {el : V → (V → Prop) → Prop} {K : List V → Prop} {v : V} {vs : List V} {x : Nat} {x' : Str} {px pos : Pos} {elt' iter' : Expr} {ifs' : List Expr} {I : Addr}
    {RR : Value → Addr → Result → Shared → Prop}
    (hit : iterItems mh v = some vs) (hgo : compW tst el vs K) (hlim : vs.length ≤ lim) (S : CompSc X env sc scope caps) (ho : EnvOk env sc) (hx : X.vars[x]? = some x') (hl : scope.names.lookup x' = some .local)
    (co : Co C ρ mh s.heap) (fr : FrR C X env loc ρ s.heap) (st : ItSt C ρ s.heap v I 0) (hI : C.hb.get? I = none) (hIξ : I ∉ C.ξ) (hh : A.handled = none)
    (htest : ∀ D u K' h tk Cl, tst u K' → Co (C.with D) ρ mh h → FrR (C.with D) X (compEnvC scope (freeCells env scope.names []) Cl env) (capLoc caps x u loc) ρ h →
      WP C A (testsOf ifs' (compEnvC scope (freeCells env scope.names []) Cl env)) (PostB (C.with D) ρ { s with heap := h, toks := tk } fun b m => m = mh ∧ K' b) { s with heap := h, toks := tk })
    (helt : ∀ D u K' h tk Cl, el u K' → Co (C.with D) ρ mh h → FrR (C.with D) X (compEnvC scope (freeCells env scope.names []) Cl env) (capLoc caps x u loc) ρ h →
      WP C A (eval elt' (compEnvC scope (freeCells env scope.names []) Cl env)) (PostQ (C.with D) ρ { s with heap := h, toks := tk } fun y m => m = mh ∧ K' y) { s with heap := h, toks := tk })
    (hRR : ∀ D Cl h' tk m outs, K outs → s.heap.get? D = none → s.heap.get? Cl = none → D ≠ Cl → Co C ρ mh h' → VRel C h' ρ (.list outs) (.ref D) → h'.Ns Cl m → Keep (I :: ρ) s.heap h' → RR (.ref D) Cl (.ok .next) { s with heap := h', toks := tk }) :
    WP C A (newList []) (fun acc s₃ => WP C A (newFunctionEnv scope env.globals (freeCells env scope.names []) [] env.qual none .none (some env)) (fun cenv s₄ =>
      codeAny (model C.prog C.w) A (.compStart (.ListComp elt' [⟨.Name x' px, iter', ifs', 0⟩] scope pos) 0 (.ref I) acc { cenv with scope := relabel scope env }) (RR acc cenv.locals) s₄) s₃) s := by
  refine wpAny_newObj_type (wpAny_newFunctionEnv S.nocell (fun y hy => nomatch hy) (fun h₁ hns₁ hsb₁ => ?_) S.kind)
  have hC := Heap.size_push s.heap { cls := .type "list", dict := none, data := .seq ([] : List Value).toArray }
  have hDn : ∀ o, s.heap.get? s.heap.objs.size ≠ some o := get_none_of (Nat.le_refl _)
  have hCn : ∀ o, s.heap.get? (s.heap.push { cls := .type "list", dict := none, data := .seq ([] : List Value).toArray }).objs.size ≠ some o := get_none_of (by rw [hC]; exact Nat.le_succ _)
  have hDC : s.heap.objs.size ≠ (s.heap.push { cls := .type "list", dict := none, data := .seq ([] : List Value).toArray }).objs.size := by rw [hC]; exact Nat.ne_of_lt (Nat.lt_succ_self _)
  have old : ∀ b o, s.heap.get? b = some o → h₁.get? b = some o := fun b o e =>
    hsb₁.extBut b o (by rintro rfl; exact hCn o e) (Heap.get?_push_of_some _ (Heap.get?_push_of_some _ e))
  have hacc : h₁.get? s.heap.objs.size = some (listOf #[] 0) := hsb₁.extBut _ _ hDC (Heap.get?_push_of_some _ (Heap.get?_push_size _ rfl))
  obtain ⟨oI, vI, hoI, hdI, hnI⟩ := st.obj'
  have N : CN C ρ s.heap I s.heap.objs.size _ := ⟨hDn, hCn, (by rintro rfl; exact hCn _ hoI), (by rintro rfl; exact hDn _ hoI), hDC, hI, co.base_none hDn, co.base_none hCn, (fun q => by obtain ⟨xs, n, g⟩ := co.mem_list q; cases hoI.symm.trans g; cases hdI), co.rho_none hDn, co.rho_none hCn⟩
  have st₁ : ItSt (C.with s.heap.objs.size) ρ h₁ v I 0 := (st.into hDn).keep (fun o e => old I o e) (Keep.of_all old).d
  have loop := comp_loop (px := px) (pos := pos) (iter' := iter') (elt' := elt') (h₁ := h₁) (tk₁ := s.toks + ([] : List (Str × Value)).length) hit hgo hlim S ho hx hl co fr st hI hIξ hh htest helt hRR N (Nat.le_refl _) ⟨co.into hDn old ⟨_, hacc⟩, st₁, ⟨_, hns₁⟩, hacc, .nil, fun b o e _ _ => old b o e⟩
  exact codeAny_compStart_list loop (wp_e (iter_self (C := C.with s.heap.objs.size) (s := { s with heap := h₁, toks := s.toks + ([] : List (Str × Value)).length }) st₁ loop))
end
end Mine
end
section
open PySem PySem.Calls PySem.W PyProof.Rows PySem.SeqAt
set_option maxRecDepth 100000
set_option linter.unusedVariables false
namespace Mine
structure FrE (C : Cfg) (h : Heap) (env : Env) : Prop where
  kind : env.scope.kind ≠ .module
  fr : env.frame = some env.locals
  ns : ∃ m, h.Ns env.locals m
  new : C.hb.get? env.locals = none
  xi : env.locals ∉ C.ξ
noncomputable def RefP (C : Cfg) (ρ : List Addr) (mh : MH) (env : Env) (s : Shared) (x : Value) (s' : Shared) : Prop :=
  x = .bool true ∧ ∃ h' tk, s' = { s with heap := h', toks := tk } ∧ (∀ a o, s.heap.get? a = some o → a ∉ ρ → a ≠ env.locals → h'.get? a = some o) ∧ (∀ o, s.heap.get? env.locals = some o → ∃ sl, h'.get? env.locals = some { o with slots := sl }) ∧ Co C ρ mh h'
structure TabOk (C : Cfg) (Γ : Tab) (k : Nat) : Prop where
  sound : ∀ (ξ : List Addr) (f : Nat) (vs : List V) (kws : List (Str × V)) (mh : MH) (Q : V → MH → Prop), Γ f vs kws mh Q →
    ∀ (A : Around) (s : Shared) (ρ : List Addr) (xs : List Value) (kxs : List (Str × Value)), Rm k A → Co { C with ξ := ξ } ρ mh s.heap → VAll { C with ξ := ξ } s.heap ρ vs xs →
      kws.map (·.1) = kxs.map (·.1) → VAll { C with ξ := ξ } s.heap ρ (kws.map (·.2)) (kxs.map (·.2)) → WP C A (call (.ref (C.fa f)) xs kxs) (PostQ { C with ξ := ξ } ρ s Q) s
  ref : ∀ (vs : List V) (kws : List (Str × V)) (mh : MH) (Q : V → MH → Prop), Γ 999 (.mut mh.length :: vs) kws mh Q → kws = [] ∧ k + 1 = topK ∧ Q (.bool true) mh ∧
    ∀ (ξ : List Addr) (A : Around) (s : Shared) (ρ : List Addr) (xs : List Value) (env : Env), Rm k A → Co { C with ξ := ξ } ρ mh s.heap → VAll { C with ξ := ξ } s.heap ρ vs xs →
      A.frames = some [env] → FrE { C with ξ := ξ } s.heap env → WP C A (call (.ref (C.fa 8)) xs []) (RefP { C with ξ := ξ } ρ mh env s) s
theorem TabOk.ext {C : Cfg} {Γ : Tab} {k : Nat} {ξ : List Addr} (t : TabOk C Γ k) : TabOk { C with ξ := ξ } Γ k := { t with }
structure Cx (C : Cfg) (X : TX) (Γ : Tab) (k : Nat) (A : Around) (env : Env) (sc : List (Str × NameKind)) (loc : Loc) (ρ : List Addr) (mh : MH) (h : Heap) : Prop where
  K : CfgOk C X.fns
  ho : EnvOk env sc
  rm : Rm k A
  tab : TabOk C Γ k
  co : Co C ρ mh h
  fr : FrR C X env loc ρ h
section
variable {C : Cfg} {X : TX} {Γ : Tab} {k : Nat} {A : Around} {env : Env} {sc : List (Str × NameKind)} {loc : Loc} {ρ : List Addr} {mh mh' : MH} {s : Shared}
theorem Cx.step {h h' : Heap} (c : Cx C X Γ k A env sc loc ρ mh h) (q : Keep ρ h h') (co : Co C ρ mh' h') : Cx C X Γ k A env sc loc ρ mh' h' := ⟨c.K, c.ho, c.rm, c.tab, co, c.fr.keep c.co q⟩
theorem WP.go {t : Sem Value} {R : Value → Shared → Prop} {Q : V → MH → Prop} (h : WP C A t (PostQ C ρ s Q) s) (n : ∀ x h₁ tk₁ v m, Q v m → Keep ρ s.heap h₁ → Co C ρ m h₁ → VRel C h₁ ρ v x → R x { s with heap := h₁, toks := tk₁ }) : WP C A t R s :=
  h.mono fun x _ ⟨h₁, tk₁, v, m, e, q, k, co, r⟩ => e ▸ n x h₁ tk₁ v m q k co r
theorem WP.goL {t : Sem (List Value)} {R : List Value → Shared → Prop} {Q : List V → MH → Prop} (h : WP C A t (PostL C ρ s Q) s) (n : ∀ x h₁ tk₁ v m, Q v m → Keep ρ s.heap h₁ → Co C ρ m h₁ → VAll C h₁ ρ v x → R x { s with heap := h₁, toks := tk₁ }) : WP C A t R s :=
  h.mono fun x _ ⟨h₁, tk₁, v, m, e, q, k, co, r⟩ => e ▸ n x h₁ tk₁ v m q k co r
theorem WP.goB {t : Sem Bool} {R : Bool → Shared → Prop} {Q : Bool → MH → Prop} (h : WP C A t (PostB C ρ s Q) s) (n : ∀ b h₁ tk₁ m, Q b m → Keep ρ s.heap h₁ → Co C ρ m h₁ → R b { s with heap := h₁, toks := tk₁ }) : WP C A t R s :=
  h.mono fun b _ ⟨h₁, tk₁, m, e, q, k, co⟩ => e ▸ n b h₁ tk₁ m q k co
theorem WP.back {t : Sem Value} {Q : V → MH → Prop} {h₁ : Heap} {tk₁ : Nat} {s₁ : Shared} (q : Keep ρ s.heap h₁) (h : WP C A t (PostQ C ρ { s with heap := h₁, toks := tk₁ } Q) s₁) : WP C A t (PostQ C ρ s Q) s₁ := h.mono fun _ _ p => p.trans q
theorem WP.backL {t : Sem (List Value)} {Q : List V → MH → Prop} {h₁ : Heap} {tk₁ : Nat} {s₁ : Shared} (q : Keep ρ s.heap h₁) (h : WP C A t (PostL C ρ { s with heap := h₁, toks := tk₁ } Q) s₁) : WP C A t (PostL C ρ s Q) s₁ := h.mono fun _ _ p => p.trans q
theorem WP.backB {t : Sem Bool} {Q : Bool → MH → Prop} {h₁ : Heap} {tk₁ : Nat} {s₁ : Shared} (q : Keep ρ s.heap h₁) (h : WP C A t (PostB C ρ { s with heap := h₁, toks := tk₁ } Q) s₁) : WP C A t (PostB C ρ s Q) s₁ := h.mono fun _ _ p => p.trans q
end
noncomputable def OkE (X : TX) (Γ : Tab) (e : ME) : Prop := ∀ {C : Cfg} {k : Nat} {A : Around} {env : Env} {sc : List (Str × NameKind)} {loc : Loc} {ρ : List Addr} {mh : MH} {s : Shared} {Q : V → MH → Prop} {e' : Expr},
  Cx C X Γ k A env sc loc ρ mh s.heap → mtE X sc e e' = true → wpE Γ e loc mh Q → WP C A (eval e' env) (PostQ C ρ s Q) s
noncomputable def OkEs (X : TX) (Γ : Tab) (es : List ME) : Prop := ∀ {C : Cfg} {k : Nat} {A : Around} {env : Env} {sc : List (Str × NameKind)} {loc : Loc} {ρ : List Addr} {mh : MH} {s : Shared} {Q : List V → MH → Prop},
  Cx C X Γ k A env sc loc ρ mh s.heap → wpEs Γ es loc mh Q →
    (∀ {es' pos}, mtEs X sc es es' = true → WP C A (spliced (backTo pos (starEach es' env))) (PostL C ρ s Q) s) ∧
    (∀ {ks pos}, mtK X sc es ks = true → WP C A (evalAll ((backToKw pos (keywordEach ks env)).map (·.2))) (PostL C ρ s Q) s)
noncomputable def OkC (X : TX) (Γ : Tab) (c : MC) : Prop := ∀ {C : Cfg} {k : Nat} {A : Around} {env : Env} {sc : List (Str × NameKind)} {loc : Loc} {ρ : List Addr} {mh : MH} {s : Shared} {Q : Bool → MH → Prop} {c' : Expr},
  Cx C X Γ k A env sc loc ρ mh s.heap → mtC X sc c c' = true → wpC Γ c loc mh Q → WP C A (isTrue c' env (eval c' env)) (PostB C ρ s Q) s
noncomputable def OkCs (X : TX) (Γ : Tab) (cs : List MC) : Prop := ∀ {C : Cfg} {k : Nat} {A : Around} {env : Env} {sc : List (Str × NameKind)} {loc : Loc} {ρ : List Addr} {mh : MH} {s : Shared} {Q : Bool → MH → Prop} {cs' : List Expr},
  Cx C X Γ k A env sc loc ρ mh s.heap → mtCs X sc cs cs' = true →
    (∀ {op pos whole}, wpCB Γ op cs loc mh Q → WP C A (isTrue (.BoolOp op cs' pos) env whole) (PostB C ρ s Q) s) ∧
    (wpI Γ cs loc mh Q → WP C A (testsOf cs' env) (PostB C ρ s Q) s)
noncomputable def OkB (X : TX) (Γ : Tab) (es : List ME) : Prop := ∀ {C : Cfg} {k : Nat} {A : Around} {env : Env} {sc : List (Str × NameKind)} {loc : Loc} {ρ : List Addr} {mh : MH} {s : Shared} {Q : V → MH → Prop} {op : BoolOp} {es' : List Expr} {pos : Pos},
  Cx C X Γ k A env sc loc ρ mh s.heap → mtEs X sc es es' = true → wpB Γ op es loc mh Q → WP C A (eval (.BoolOp op es' pos) env) (PostQ C ρ s Q) s
section
variable {X : TX} {Γ : Tab}
theorem okE_const {v : V} : OkE X Γ (.const v) := by
  intro C k A env sc loc ρ mh s Q e' cx hm he
  obtain ⟨⟨⟨c, n, pos⟩, rfl⟩, h⟩ := optB_inv hm
  have h := eq_of_beq h
  cases v with
  | none => cases h; exact Constant_none (PostQ.pure he cx.co .none)
  | bool b => cases h; exact Constant_bool (PostQ.pure he cx.co (.bool _))
  | int i => cases h; exact wpAny_Constant_int (PostQ.tok he cx.co (.int _ _))
  | str l => cases h; exact wpAny_Constant_str (PostQ.tok he cx.co (.str _ _))
  | bytes l => cases h; exact Constant_bytes (PostQ.tok he cx.co (.bytes _ _))
  | _ => cases h
theorem varW_inv {o : Option (Option V)} {K : V → Prop} (h : varW o K) : ∃ v, o = some (some v) ∧ K v := by
  cases o with
  | none => exact h.elim
  | some q =>
    cases q with
    | none => exact h.elim
    | some v => exact ⟨v, rfl, h⟩
theorem okE_var {i : Nat} : OkE X Γ (.var i) := by
  intro C k A env sc loc ρ mh s Q e' cx hm he
  obtain ⟨⟨⟨x, pos⟩, rfl⟩, h⟩ := optB_inv hm
  obtain ⟨hx, hd⟩ := band h
  obtain ⟨v, e, q⟩ := varW_inv he
  obtain ⟨x', w, hx', hb, hv⟩ := cx.fr i _ e
  cases (eq_of_beq hx).symm.trans hx'
  exact wpAny_Name (hb.load cx.ho.kind (PostQ.pure q cx.co hv)) (no_debug hd)
theorem okE_glob {i : Nat} : OkE X Γ (.glob i) := by
  intro C k A env sc loc ρ mh s Q e' cx hm he
  obtain ⟨⟨⟨x, pos⟩, rfl⟩, h⟩ := optB_inv hm
  obtain ⟨h, hd⟩ := band h
  obtain ⟨hx, hl⟩ := band h
  exact load_fn he cx.K (eq_of_beq hx) cx.ho (eq_of_beq hl) (no_debug hd) cx.co
theorem okE_bin {op : Operator} {l r : ME} (L : OkE X Γ l) (R : OkE X Γ r) : OkE X Γ (.bin op l r) := by
  intro C k A env sc loc ρ mh s Q e' cx hm he
  obtain ⟨⟨⟨l', op', r', pos⟩, rfl⟩, h⟩ := optB_inv hm
  obtain ⟨h, hr⟩ := band h
  obtain ⟨hop, hl⟩ := band h
  cases eq_of_beq hop
  exact wpAny_BinOp ((L cx hl he).go fun x h₁ tk₁ v₁ m₁ q₁ k₁ co₁ r₁ => (R (cx.step k₁ co₁) hr q₁).go fun y h₂ tk₂ v₂ m₂ q₂ k₂ co₂ r₂ => WP.back (k₁.trans k₂) (binop_ q₂ co₂ (r₁.keep k₂.d) r₂))
theorem okE_neg {l : ME} (L : OkE X Γ l) : OkE X Γ (.neg l) := by
  intro C k A env sc loc ρ mh s Q e' cx hm he
  obtain ⟨⟨⟨op, l', pos⟩, rfl⟩, h⟩ := optB_inv hm
  obtain ⟨ho, hl⟩ := band h
  cases eq_of_beq ho
  refine wpAny_UnaryOp ((L cx hl he).go fun x h₁ tk₁ v₁ m₁ q₁ k₁ co₁ r₁ => ?_)
  obtain ⟨i, rfl, q⟩ := intW_inv q₁
  obtain ⟨t, rfl⟩ := r₁
  exact WP.back k₁ (PyProof.Rows.neg_int (PostQ.tok q co₁ (.int _ _)))
theorem marks_of {op : CmpOp} {r : Expr} (h : isSet r = false) : behindInMarks op r = false := by
  cases r <;> first | rfl | exact Bool.noConfusion h
theorem okE_cmp {op : CmpOp} {l r : ME} (L : OkE X Γ l) (R : OkE X Γ r) : OkE X Γ (.cmp op l r) := by
  intro C k A env sc loc ρ mh s Q e' cx hm he
  obtain ⟨l', r', pos, rfl, hs, hl, hr⟩ := cmpM_inv hm
  refine wpAny_Compare1 ((L cx hl he).go fun x h₁ tk₁ v₁ m₁ q₁ k₁ co₁ r₁ => (R (cx.step k₁ co₁) hr q₁).go fun y h₂ tk₂ v₂ m₂ q₂ k₂ co₂ r₂ => ?_) (marks_of hs)
  refine (cmpop_ q₂ co₂ (r₁.keep k₂.d) r₂ cx.rm).mono ?_
  rintro _ _ ⟨b, rfl, rfl, q⟩
  exact ⟨h₂, tk₂, _, _, rfl, q, k₁.trans k₂, co₂, .bool _⟩
theorem okC_cmp {op : CmpOp} {l r : ME} (L : OkE X Γ l) (R : OkE X Γ r) : OkC X Γ (.cmp op l r) := by
  intro C k A env sc loc ρ mh s Q e' cx hm he
  obtain ⟨l', r', pos, rfl, hs, hl, hr⟩ := cmpM_inv hm
  refine wpAny_isTrue_Compare1 ((L cx hl he).go fun x h₁ tk₁ v₁ m₁ q₁ k₁ co₁ r₁ => (R (cx.step k₁ co₁) hr q₁).go fun y h₂ tk₂ v₂ m₂ q₂ k₂ co₂ r₂ => ?_) (marks_of hs)
  refine (cmpop_ q₂ co₂ (r₁.keep k₂.d) r₂ cx.rm).mono ?_
  rintro _ _ ⟨b, rfl, rfl, q⟩
  exact wpAny_truthy_bool ⟨h₂, tk₂, _, rfl, q, k₁.trans k₂, co₂⟩
theorem okC_not {c : MC} (L : OkC X Γ c) : OkC X Γ (.not c) := by
  intro C k A env sc loc ρ mh s Q e' cx hm he
  obtain ⟨⟨⟨op, l', pos⟩, rfl⟩, h⟩ := optB_inv hm
  obtain ⟨ho, hl⟩ := band h
  cases eq_of_beq ho
  exact isTrue_not ((L cx hl he).goB fun b h₁ tk₁ m₁ q₁ k₁ co₁ => ⟨h₁, tk₁, _, rfl, q₁, k₁, co₁⟩)
theorem isTrue_plainTest {e' : Expr} {env : Env} {whole : Sem Value} (h : plainTest e' = true) : isTrue e' env whole = (do let v ← whole; standAt e'.pos; holding [v] (truthy v)) := by
  cases e' <;> first | rfl | exact Bool.noConfusion h
theorem okC_tst {e : ME} (L : OkE X Γ e) : OkC X Γ (.tst e) := by
  intro C k A env sc loc ρ mh s Q e' cx hm he
  obtain ⟨hp, hl⟩ := band hm
  refine isTrue_plain ((L cx hl he).go fun x h₁ tk₁ v₁ m₁ q₁ k₁ co₁ r₁ => ?_) (isTrue_plainTest hp)
  refine (truthy_ q₁ r₁).mono ?_
  rintro b _ ⟨rfl, q⟩
  exact ⟨h₁, tk₁, _, rfl, q, k₁, co₁⟩
theorem okC_bop {op : BoolOp} {cs : List MC} (L : OkCs X Γ cs) : OkC X Γ (.bop op cs) := by
  intro C k A env sc loc ρ mh s Q e' cx hm he
  obtain ⟨⟨⟨op', cs', pos⟩, rfl⟩, h⟩ := optB_inv hm
  obtain ⟨ho, hl⟩ := band h
  cases eq_of_beq ho
  exact (L cx hl).1 he
theorem okCs_nil : OkCs X Γ [] := by
  intro C k A env sc loc ρ mh s Q e' cx hm
  cases List.isEmpty_iff.mp hm
  refine ⟨fun {op pos whole} he => ?_, fun he => wpAny_pure ⟨_, _, _, rfl, he, .refl, cx.co⟩⟩
  cases op
  · exact isTrue_and_nil ⟨_, _, _, rfl, he, .refl, cx.co⟩
  · exact isTrue_or_nil ⟨_, _, _, rfl, he, .refl, cx.co⟩
theorem tests_false {es : List Expr} {C : Cfg} {A : Around} {env : Env} {Q : Bool → Shared → Prop} {s : Shared} (h : Q false s) :
    WP C A (forIn es false fun c r => if r = true then do let ok ← isTrue c env (eval c env); pure (ForInStep.yield ok) else pure (ForInStep.yield r)) Q s := by
  induction es with
  | nil => exact wpAny_pure h
  | cons e es ih =>
    rw [List.forIn_cons]
    simp only [Bool.false_eq_true, if_false, pure_bind]
    exact ih
theorem okCs_cons {c : MC} {cs : List MC} (L : OkC X Γ c) (R : OkCs X Γ cs) : OkCs X Γ (c :: cs) := by
  intro C k A env sc loc ρ mh s Q e' cx hm
  obtain ⟨c', cs', rfl, h1, h2⟩ := mtCs_inv hm
  refine ⟨fun {op pos whole} he => ?_, fun he => ?_⟩
  · cases op
    · refine isTrue_and ((L cx h1 he).goB fun b h₁ tk₁ m₁ q₁ k₁ co₁ => ?_)
      cases b
      · exact ⟨h₁, tk₁, _, rfl, q₁, k₁, co₁⟩
      · exact WP.backB k₁ ((R (cx.step k₁ co₁) h2).1 q₁)
    · refine isTrue_or ((L cx h1 he).goB fun b h₁ tk₁ m₁ q₁ k₁ co₁ => ?_)
      cases b
      · exact WP.backB k₁ ((R (cx.step k₁ co₁) h2).1 q₁)
      · exact ⟨h₁, tk₁, _, rfl, q₁, k₁, co₁⟩
  · unfold testsOf
    rw [List.forIn_cons]
    simp only [if_true, bind_assoc, pure_bind]
    refine wpAny_bind ((L cx h1 he).goB fun b h₁ tk₁ m₁ q₁ k₁ co₁ => ?_)
    cases b
    · exact tests_false ⟨h₁, tk₁, _, rfl, q₁, k₁, co₁⟩
    · exact WP.backB k₁ ((R (cx.step k₁ co₁) h2).2 q₁)
theorem okE_ite {c : MC} {t e : ME} (Cc : OkC X Γ c) (T : OkE X Γ t) (E : OkE X Γ e) : OkE X Γ (.ite c t e) := by
  intro C k A env sc loc ρ mh s Q e' cx hm he
  obtain ⟨⟨⟨c', t', e'', pos⟩, rfl⟩, h⟩ := optB_inv hm
  obtain ⟨h, h3⟩ := band h
  obtain ⟨h1, h2⟩ := band h
  refine IfExp_ ((Cc cx h1 he).goB fun b h₁ tk₁ m₁ q₁ k₁ co₁ => ?_)
  cases b
  · exact WP.back k₁ (E (cx.step k₁ co₁) h3 q₁)
  · exact WP.back k₁ (T (cx.step k₁ co₁) h2 q₁)
theorem okEs_nil : OkEs X Γ [] := by
  intro C k A env sc loc ρ mh s Q cx he
  refine ⟨fun {es' pos} hm => ?_, fun {ks pos} hm => ?_⟩
  · cases List.isEmpty_iff.mp hm; exact args_nil ⟨_, _, _, _, rfl, he, .refl, cx.co, .nil⟩
  · cases List.isEmpty_iff.mp hm; exact wpAny_evalAll_nil ⟨_, _, _, _, rfl, he, .refl, cx.co, .nil⟩
theorem okEs_cons {e : ME} {es : List ME} (L : OkE X Γ e) (R : OkEs X Γ es) : OkEs X Γ (e :: es) := by
  intro C k A env sc loc ρ mh s Q cx he
  refine ⟨fun {es' pos} hm => ?_, fun {ks pos} hm => ?_⟩
  · obtain ⟨e', r', rfl, h1, h2, h3⟩ := mtEs_inv hm
    exact args_cons ((L cx h2 he).go fun x h₁ tk₁ v₁ m₁ q₁ k₁ co₁ r₁ => ((R (cx.step k₁ co₁) q₁).1 h3).goL fun xs h₂ tk₂ v₂ m₂ q₂ k₂ co₂ r₂ =>
      ⟨h₂, tk₂, _, _, rfl, q₂, k₁.trans k₂, co₂, .cons (r₁.keep k₂.d) r₂⟩) (starEach_cons h1)
  · obtain ⟨⟨n, e', p⟩, r', rfl, h2, h3⟩ := mtK_inv hm
    exact wpAny_evalAll_cons (wpAny_bind ((L cx h2 he).go fun x h₁ tk₁ v₁ m₁ q₁ k₁ co₁ r₁ => wpAny_bind (wpAny_standAt (wpAny_pure (((R (cx.step k₁ co₁) q₁).2 h3).goL fun xs h₂ tk₂ v₂ m₂ q₂ k₂ co₂ r₂ =>
      ⟨h₂, tk₂, _, _, rfl, q₂, k₁.trans k₂, co₂, .cons (r₁.keep k₂.d) r₂⟩)))))
theorem okB_nil : OkB X Γ [] := by
  intro C k A env sc loc ρ mh s Q op es' pos cx hm he
  exact he.elim
theorem okB_cons {e : ME} {es : List ME} (L : OkE X Γ e) (R : OkB X Γ es) : OkB X Γ (e :: es) := by
  intro C k A env sc loc ρ mh s Q op es' pos cx hm he
  obtain ⟨e', r', rfl, h1, h2, h3⟩ := mtEs_inv hm
  cases es with
  | nil =>
    cases List.isEmpty_iff.mp h3
    exact BoolOp_one (L cx h2 he)
  | cons e2 es =>
    obtain ⟨e2', r2', rfl, _⟩ := mtEs_inv h3
    cases op
    · refine BoolOp_and ((L cx h2 he).go fun x h₁ tk₁ v₁ m₁ q₁ k₁ co₁ r₁ => ?_)
      refine (truthy_ q₁ r₁).mono ?_
      rintro r s' ⟨rfl, q⟩
      cases r
      · exact ⟨h₁, tk₁, _, _, rfl, q, k₁, co₁, r₁⟩
      · exact WP.back k₁ (R (cx.step k₁ co₁) h3 q)
    · refine BoolOp_or ((L cx h2 he).go fun x h₁ tk₁ v₁ m₁ q₁ k₁ co₁ r₁ => ?_)
      refine (truthy_ q₁ r₁).mono ?_
      rintro r s' ⟨rfl, q⟩
      cases r
      · exact WP.back k₁ (R (cx.step k₁ co₁) h3 q)
      · exact ⟨h₁, tk₁, _, _, rfl, q, k₁, co₁, r₁⟩
theorem okE_bop {op : BoolOp} {es : List ME} (L : OkB X Γ es) : OkE X Γ (.bop op es) := by
  intro C k A env sc loc ρ mh s Q e' cx hm he
  obtain ⟨⟨⟨op', cs', pos⟩, rfl⟩, h⟩ := optB_inv hm
  obtain ⟨ho, hl⟩ := band h
  cases eq_of_beq ho
  exact L cx hl he
theorem okE_list {es : List ME} (L : OkEs X Γ es) : OkE X Γ (.list es) := by
  intro C k A env sc loc ρ mh s Q e' cx hm he
  obtain ⟨⟨⟨es', pos⟩, rfl⟩, h⟩ := optB_inv hm
  exact List_ (((L cx he).1 h).goL fun xs h₁ tk₁ v₁ m₁ q₁ k₁ co₁ r₁ => WP.back k₁ (newList_ q₁.2 co₁ r₁ q₁.1))
theorem okE_item {o i : ME} (L : OkE X Γ o) (R : OkE X Γ i) : OkE X Γ (.item o i) := by
  intro C k A env sc loc ρ mh s Q e' cx hm he
  obtain ⟨⟨⟨l', r', pos⟩, rfl⟩, h⟩ := optB_inv hm
  obtain ⟨h, hr⟩ := band h
  obtain ⟨hs, hl⟩ := band h
  exact Subscript_ ((L cx hl he).go fun x h₁ tk₁ v₁ m₁ q₁ k₁ co₁ r₁ => (R (cx.step k₁ co₁) hr q₁).go fun y h₂ tk₂ v₂ m₂ q₂ k₂ co₂ r₂ =>
    WP.back (k₁.trans k₂) (item_ q₂ co₂ (r₁.keep k₂.d) r₂ (by rintro l u st p rfl; cases hs)))
theorem okPart {l : ME} (L : OkE X Γ l) {C : Cfg} {k : Nat} {A : Around} {env : Env} {sc : List (Str × NameKind)} {loc : Loc} {ρ : List Addr} {mh : MH} {s : Shared} {Q : V → MH → Prop} {o : Option Expr}
    (cx : Cx C X Γ k A env sc loc ρ mh s.heap) (hm : mtO X sc l o = true) (he : wpE Γ l loc mh Q) : WP C A (evalPart o env) (PostQ C ρ s Q) s := by
  cases o with
  | some e' => exact L cx hm he
  | none =>
    cases l with
    | const v =>
      cases v with
      | none => exact wpAny_pure (PostQ.pure he cx.co .none)
      | _ => cases hm
    | _ => cases hm
theorem okE_slice {o l u t : ME} (O : OkE X Γ o) (L : OkE X Γ l) (U : OkE X Γ u) (S : OkE X Γ t) : OkE X Γ (.slice o l u t) := by
  intro C k A env sc loc ρ mh s Q e' cx hm he
  obtain ⟨o', l', u', s', p, pos, rfl, h1, h2, h3, h4⟩ := sliceM_inv hm
  refine Subscript_ ((O cx h1 he).go fun x h₁ tk₁ v₁ m₁ q₁ k₁ co₁ r₁ => wpAny_Slice ((okPart L (cx.step k₁ co₁) h2 q₁).go fun y h₂ tk₂ v₂ m₂ q₂ k₂ co₂ r₂ =>
    (okPart U ((cx.step k₁ co₁).step k₂ co₂) h3 q₂).go fun z h₃ tk₃ v₃ m₃ q₃ k₃ co₃ r₃ => (okPart S (((cx.step k₁ co₁).step k₂ co₂).step k₃ co₃) h4 q₃).go fun w h₄ tk₄ v₄ m₄ q₄ k₄ co₄ r₄ => ?_))
  obtain ⟨pa, ha, q⟩ := part_rel q₄ r₂
  obtain ⟨pb, hb, q⟩ := part_rel q r₃
  obtain ⟨pc, hc, q⟩ := part_rel q r₄
  exact WP.back (((k₁.trans k₂).trans k₃).trans k₄) (slice_ q co₄ (((r₁.keep k₂.d).keep k₃.d).keep k₄.d) ha hb hc)
end
end Mine
end
section
open PySem PySem.Calls PySem.W PyProof.Rows PySem.SeqAt
set_option maxRecDepth 100000
set_option linter.unusedVariables false
namespace Mine
theorem mtEs_star {X : TX} {sc : List (Str × NameKind)} : ∀ {es : List ME} {es' : List Expr}, mtEs X sc es es' = true → (es'.all fun e => !isStar e) = true
  | [], es', h => by cases List.isEmpty_iff.mp h; rfl
  | e :: es, es', h => by
    obtain ⟨e', r', rfl, h1, h2, h3⟩ := mtEs_inv h
    rw [List.all_cons, h1, mtEs_star h3]; rfl
section
variable {X : TX} {Γ : Tab}
theorem callWith_prim {C : Cfg} {A : Around} {s : Shared} {f : Prim} {pos : Pos} {args : List (Bool × Sem Value)} {R : Value → Shared → Prop} (hplain : args.any (·.1) = false)
    (h : WP C A (evalArgs f.val true args []) (fun a s₁ => WP C A (call f.val a.pos a.kw) R s₁) s) : WP C A (callWith pos f.val [] args []) R s := by
  cases f with
  | len => exact callWith_builtin (id := "len") hplain h
  | abs => exact callWith_builtin (id := "abs") hplain h
  | int => exact PyProof.Rows.callWith_type (T := "int") hplain h
  | divmod => exact callWith_builtin (id := "divmod") hplain h
  | range => exact PyProof.Rows.callWith_type (T := "range") hplain h
  | sum => exact callWith_builtin (id := "sum") hplain h
  | bytes => exact PyProof.Rows.callWith_type (T := "bytes") hplain h
  | sorted => exact callWith_builtin (id := "sorted") hplain h
  | list => exact PyProof.Rows.callWith_type (T := "list") hplain h
theorem okE_prim {f : Prim} {es : List ME} (L : OkEs X Γ es) : OkE X Γ (.prim f es) := by
  intro C k A env sc loc ρ mh s Q e' cx hm he
  obtain ⟨x, p, es', pos, rfl, h⟩ := callN_inv hm
  obtain ⟨h, hm⟩ := band h
  obtain ⟨h, hne⟩ := band h
  obtain ⟨hp, hx⟩ := band h
  refine Call_ (load_prim cx.K (eq_of_beq hp) cx.ho (eq_of_beq hx) cx.co (callWith_prim (any_star (mtEs_star hm)) ?_))
  have ih := (L cx he).1 hm (pos := pos)
  cases es with
  | nil => cases hne
  | cons e1 es =>
    obtain ⟨e1', r', rfl, h, _⟩ := mtEs_inv hm
    rw [starEach_cons h] at ih ⊢
    exact evalArgs_plain (x := eval e1' env) (rest := backTo pos (starEach r' env)) (WP.goL ih fun xs h₁ tk₁ v₁ m₁ q₁ k₁ co₁ r₁ => WP.back k₁ (prim_ q₁ co₁ r₁ cx.rm.hh))
theorem isB_inv {X : TX} {sc : List (Str × NameKind)} {e : ME} {e' : Expr} (hm : mtE X sc (.isBytes e) e' = true) :
    ∃ p e1 q pos, e' = .Call (.Name "isinstance" p) [e1, .Name "bytes" q] [] pos ∧ gName sc "isinstance" = true ∧ gName sc "bytes" = true ∧ isStar e1 = false ∧ mtE X sc e e1 = true := by
  obtain ⟨x, p, as, pos, rfl, h⟩ := callN_inv hm
  clear hm
  obtain ⟨e1, y, q, rfl, h⟩ := twoN_inv h
  obtain ⟨h, hm⟩ := band h
  obtain ⟨h, hs⟩ := band h
  obtain ⟨h, hy⟩ := band h
  obtain ⟨h, hx⟩ := band h
  obtain ⟨h1, h2⟩ := band h
  cases eq_of_beq h1; cases eq_of_beq h2
  exact ⟨p, e1, q, pos, rfl, hx, hy, bnot hs, hm⟩
theorem okE_isBytes {e : ME} (L : OkE X Γ e) : OkE X Γ (.isBytes e) := by
  intro C k A env sc loc ρ mh s Q e' cx hm he
  obtain ⟨p, e1, q, pos, rfl, hx, hy, hs, hm⟩ := isB_inv hm
  refine Call_ (load_isi cx.K cx.ho (eq_of_beq hx) cx.co (callWith_builtin (any_star (by rw [List.all_cons, hs]; rfl)) ?_))
  rw [starEach_cons hs]
  refine evalArgs_plain (x := eval e1 env) (spliced_cons ((L cx hm he).go fun x h₁ tk₁ v₁ m₁ q₁ k₁ co₁ r₁ => ?_))
  obtain ⟨l, rfl, hq⟩ := bytesW_inv q₁
  obtain ⟨t, rfl⟩ := r₁
  exact args_cons (load_bi (w := .type "bytes") cx.ho (eq_of_beq hy) (show (("bytes" : Str) == ("__debug__" : Str)) = false by decide) co₁ (let ⟨mg, hg, _, _, _, hb⟩ := cx.K.g; ⟨mg, hg, hb⟩) (let ⟨mb, hb, _, _, hi⟩ := cx.K.b; ⟨mb, hb, hi⟩)
    (args_nil (call_isinstance (isinstance_true (Tx := "bytes") F.isi_meta_bytes F.isi_self_bytes) ⟨rfl, ⟨h₁, tk₁, _, _, rfl, hq, k₁, co₁, .bool _⟩⟩)))
theorem methB_inv {n : Str} {e' : Expr} {k : Expr → List Expr → Bool} (h : methB n e' k = true) : ∃ o apos args pos, e' = .Call (.Attribute o n apos) args [] pos ∧ simpleBase o = true ∧ (apos.endLine == pos.line) = true ∧ (args.all fun e => !isStar e) = true ∧ k o args = true := by
  obtain ⟨fn, es', kws, pos, rfl, h⟩ := callA_inv h
  obtain ⟨rfl, h⟩ := nilN_inv h
  obtain ⟨o, m, apos, rfl, h⟩ := attrN_inv h
  obtain ⟨h, h5⟩ := band h
  obtain ⟨h, h4⟩ := band h
  obtain ⟨h, h3⟩ := band h
  obtain ⟨h1, h2⟩ := band h
  cases eq_of_beq h1
  exact ⟨o, apos, es', pos, rfl, h2, h3, h4, h5⟩
theorem star1 {a : Expr} {r : List Expr} (h : ((a :: r).all fun e => !isStar e) = true) : isStar a = false ∧ (r.all fun e => !isStar e) = true := by
  rw [List.all_cons] at h
  exact ⟨bnot (band h).1, (band h).2⟩
theorem okE_app {o e : ME} (O : OkE X Γ o) (L : OkE X Γ e) : OkE X Γ (.app o e) := by
  intro C k A env sc loc ρ mh s Q e' cx hm he
  obtain ⟨o', apos, args, pos, rfl, hb, hp, hs, h⟩ := methB_inv hm
  obtain ⟨e'', rfl, h⟩ := oneN_inv h
  obtain ⟨ho, hm⟩ := band h
  refine method_call hb hp hs (Nat.lt_add_left 8 (Nat.lt_succ_self 1)) ((O cx ho he).go fun x h₁ tk₁ v₁ m₁ q₁ k₁ co₁ r₁ => ?_)
  obtain ⟨i, rfl, q₁⟩ := mutW_inv q₁
  obtain ⟨a, rfl, hi⟩ := r₁
  obtain ⟨xs, n, g⟩ := co₁.mem_list (List.mem_of_getElem? hi)
  refine ⟨"list.append", fun pl Q' hq => getMethod_list_append g rfl rfl hq, callWith_builtin (any_star hs) ?_⟩
  rw [starEach_cons (star1 hs).1]
  refine evalArgs_plain (x := eval e'' env) (spliced_cons ((L (cx.step k₁ co₁) hm q₁).go fun y h₂ tk₂ v₂ m₂ q₂ k₂ co₂ r₂ => args_nil ?_))
  obtain ⟨vs, hv, ⟨hp, hl⟩, q⟩ := q₂
  exact WP.back (k₁.trans k₂) (append_ q co₂ hi hv r₂ hp hl)
theorem okE_ins {o i e : ME} (O : OkE X Γ o) (I : OkE X Γ i) (L : OkE X Γ e) : OkE X Γ (.ins o i e) := by
  intro C k A env sc loc ρ mh s Q e' cx hm he
  obtain ⟨o', apos, args, pos, rfl, hb, hp, hs, h⟩ := methB_inv hm
  obtain ⟨i', e'', rfl, h⟩ := twoL_inv h
  obtain ⟨h, hm⟩ := band h
  obtain ⟨ho, hi'⟩ := band h
  refine method_call hb hp hs (Nat.lt_add_left 7 (Nat.lt_succ_self 2)) ((O cx ho he).go fun x h₁ tk₁ v₁ m₁ q₁ k₁ co₁ r₁ => ?_)
  obtain ⟨i, rfl, q₁⟩ := mutW_inv q₁
  obtain ⟨a, rfl, hi⟩ := r₁
  obtain ⟨xs, n, g⟩ := co₁.mem_list (List.mem_of_getElem? hi)
  refine ⟨"list.insert", fun pl Q' hq => getMethod_builtin (T := "list") ⟨_, g, rfl⟩ F.plainAttrs_list PySem.F.slot_list_insert PySem.F.type_list_insert (fun b eb => by cases eb; exact ⟨_, g, rfl⟩) hq, callWith_builtin (any_star hs) ?_⟩
  rw [starEach_cons (star1 hs).1]
  refine evalArgs_plain (x := eval i' env) (spliced_cons ((I (cx.step k₁ co₁) hi' q₁).go fun y h₂ tk₂ v₂ m₂ q₂ k₂ co₂ r₂ => ?_))
  obtain ⟨j, rfl, q₂⟩ := intW_inv q₂
  obtain ⟨t, rfl⟩ := r₂
  refine args_cons ((L ((cx.step k₁ co₁).step k₂ co₂) hm q₂).go fun z h₃ tk₃ v₃ m₃ q₃ k₃ co₃ r₃ => args_nil ?_) (starEach_cons (star1 (star1 hs).2).1)
  obtain ⟨vs, hv, ⟨hp, hl, h0, h1⟩, q⟩ := q₃
  exact WP.back ((k₁.trans k₂).trans k₃) (insert_ q co₃ hi hv r₃ hp hl h0 h1)
theorem kw_names {pos : Pos} {env : Env} : ∀ {kws : List Keyword} {ks : List Str}, kwNames kws = some ks → (backToKw pos (keywordEach kws env)).all (·.1.isSome) = true ∧ (backToKw pos (keywordEach kws env)).filterMap (·.1) = ks
  | [], ks, h => by cases h; exact ⟨rfl, rfl⟩
  | ⟨some n, e, p⟩ :: r, ks, h => by
    obtain ⟨ks', h', rfl⟩ := Option.map_eq_some_iff.mp (show (kwNames r).map (n :: ·) = some ks from h)
    obtain ⟨h1, h2⟩ := kw_names (pos := pos) (env := env) h'
    constructor
    · show (true && _) = true
      rw [Bool.true_and]; exact h1
    · show n :: _ = _
      exact congrArg _ h2
  | ⟨none, e, p⟩ :: r, ks, h => nomatch (show none = some ks from h)
theorem call_core {f : ME} {es : List ME} {ks : List Str} {kes : List ME} (F : OkE X Γ f) (L : OkEs X Γ es) (K : OkEs X Γ kes) {C : Cfg} {k : Nat} {A : Around} {env : Env} {sc : List (Str × NameKind)} {loc : Loc} {ρ : List Addr} {mh : MH} {s : Shared} {e' : Expr}
    {P : Nat → List V → List (Str × V) → MH → Prop} {R : Value → Shared → Prop} {E : Value → Shared → Prop} (cx : Cx C X Γ k A env sc loc ρ mh s.heap) (hm : mtE X sc (.call f es ks kes) e' = true)
    (he : wpE Γ f loc mh fun p m => fnW p fun g => wpEs Γ es loc m fun q m => wpEs Γ kes loc m fun r m => r.length = ks.length ∧ P g q (ks.zip r) m)
    (go : ∀ g q kws m h tk xs kxs, P g q kws m → Keep ρ s.heap h → Co C ρ m h → VAll C h ρ q xs → kws.map (·.1) = kxs.map (·.1) → VAll C h ρ (kws.map (·.2)) (kxs.map (·.2)) → wpAny (model C.prog C.w) A (call (.ref (C.fa g)) xs kxs) R E { s with heap := h, toks := tk }) :
    wpAny (model C.prog C.w) A (eval e' env) R E s := by
  obtain ⟨x, p, es', kws, pos, rfl, hne, hks, hf, hm, hmk⟩ := callM_inv hm
  refine wpAny_Call_Name_kw (wp_e ((F cx hf he).go fun x h₁ tk₁ v₁ m₁ q₁ k₁ co₁ r₁ => ?_))
  obtain ⟨g, rfl, q₁⟩ := fnW_inv q₁
  obtain ⟨rfl, o, fd, h1, h2⟩ := r₁
  have cx₁ := cx.step k₁ co₁
  have ih := (L cx₁ q₁ (s := { s with heap := h₁, toks := tk₁ })).1 hm (pos := pos)
  cases es with
  | nil => cases hne
  | cons e1 es =>
    obtain ⟨e1', r', rfl, h, _⟩ := mtEs_inv hm
    rw [starEach_cons h] at ih ⊢
    obtain ⟨hn1, hn2⟩ := kw_names (pos := pos) (env := env) hks
    refine callWith_function_kw (o := o) (fd := fd) (evalArgs_kw (x := eval e1' env) (rest := backTo pos (starEach r' env)) hn1 (wp_e (WP.goL ih fun xs h₂ tk₂ v₂ m₂ q₂ k₂ co₂ r₂ => ?_)))
    refine wp_e (((K (cx₁.step k₂ co₂) q₂ (s := { s with heap := h₂, toks := tk₂ })).2 hmk (pos := pos)).goL fun kxs h₃ tk₃ v₃ m₃ q₃ k₃ co₃ r₃ => ⟨⟨co₃.up _ _ h1, h2⟩, ?_⟩)
    rw [hn2]
    have hl1 : ks.length = v₃.length := q₃.1.symm
    have hl2 : ks.length = kxs.length := hl1.trans r₃.length
    refine go g _ _ _ _ tk₃ xs (ks.zip kxs) q₃.2 ((k₁.trans k₂).trans k₃) co₃ (r₂.keep k₃.d) ?_ ?_
    · rw [List.map_fst_zip (Nat.le_of_eq hl1), List.map_fst_zip (Nat.le_of_eq hl2)]
    · rw [List.map_snd_zip (Nat.le_of_eq hl1.symm), List.map_snd_zip (Nat.le_of_eq hl2.symm)]; exact r₃
theorem okE_call {f : ME} {es : List ME} {ks : List Str} {kes : List ME} (F : OkE X Γ f) (L : OkEs X Γ es) (K : OkEs X Γ kes) : OkE X Γ (.call f es ks kes) := by
  intro C k A env sc loc ρ mh s Q e' cx hm he
  exact call_core F L K cx hm (P := fun g q kws m => Γ g q kws m Q) he fun g q kws m h tk xs kxs p k₁ co r hk rk =>
    WP.back k₁ (cx.tab.sound C.ξ g _ _ _ _ p A _ ρ xs kxs cx.rm co r hk rk)
theorem Cx.comp {C : Cfg} {k : Nat} {A : Around} {env : Env} {sc : List (Str × NameKind)} {loc : Loc} {ρ : List Addr} {mh mh' : MH} {h h' : Heap} {scope : Scope} {caps : List Nat} {Cl D : Addr} {loc' : Loc} (cx : Cx C X Γ k A env sc loc ρ mh h)
    (S : CompSc X env sc scope caps) (co : Co (C.with D) ρ mh' h') (fr : FrR (C.with D) X (compEnvC scope (freeCells env scope.names []) Cl env) loc' ρ h') :
    Cx (C.with D) X Γ k A (compEnvC scope (freeCells env scope.names []) Cl env) scope.names loc' ρ mh' h' :=
  ⟨cx.K.ext, S.envOk cx.ho, cx.rm, cx.tab.ext, co, fr⟩
theorem nobase {C : Cfg} {ρ : List Addr} {mh : MH} {h : Heap} {a : Addr} (co : Co C ρ mh h) (e : h.get? a = none) : C.hb.get? a = none :=
  co.base_none fun o h => nomatch e.symm.trans h
theorem noxi {C : Cfg} {ρ : List Addr} {mh : MH} {h : Heap} {a : Addr} (co : Co C ρ mh h) (e : h.get? a = none) : a ∉ C.ξ := fun q => let ⟨_, ho⟩ := co.live _ q; nomatch e.symm.trans ho
theorem comp_any {caps : List Nat} {x : Nat} {it : ME} {ifs : List MC} {elt : ME} (L : OkE X Γ it) (T : OkCs X Γ ifs) (El : OkE X Γ elt) {C : Cfg} {k : Nat} {A : Around} {env : Env} {sc : List (Str × NameKind)} {loc : Loc} {ρ : List Addr} {mh : MH} {s : Shared}
    {K : List V → MH → Prop} {elt' it' : Expr} {x' : Str} {px pos pos' : Pos} {ifs' : List Expr} {scope : Scope} {use : Option (Value → Sem Unit)} {R : Value → Shared → Prop}
    (cx : Cx C X Γ k A env sc loc ρ mh s.heap) (hx : X.vars[x]? = some x') (hl : scope.names.lookup x' = some .local) (hsc : compScopeOk X sc scope caps = true) (hset : isSet it' = false) (hit : mtE X sc it it' = true) (hifs : mtCs X scope.names ifs ifs' = true) (helt : mtE X scope.names elt elt' = true)
    (he : wpE Γ it loc mh fun p m => ∃ vs, iterItems m p = some vs ∧ vs.length ≤ lim ∧
      compW (fun v K => wpI Γ ifs (capLoc caps x v loc) m fun b m' => m' = m ∧ K b) (fun v K => wpE Γ elt (capLoc caps x v loc) m fun y m' => m' = m ∧ K y) vs fun ys => K ys m)
    (fin : ∀ D Cl h' tk m outs m1, K outs m1 → D ≠ Cl → s.heap.get? D = none → s.heap.get? Cl = none → Co C ρ m1 h' → VRel C h' ρ (.list outs) (.ref D) → h'.Ns Cl m → Keep ρ s.heap h' → compPost (model C.prog C.w) A NoE use R (.ref D) Cl (.ok .next) { s with heap := h', toks := tk }) :
    WP C A (comprehension (.ListComp elt' [⟨.Name x' px, it', ifs', 0⟩] scope pos) scope env pos' (newList []) false (eval it' env) use) R s := by
  have S : CompSc X env sc scope caps := compSc_of hsc
  refine wpAny_comprehension_free (cl := freeCells env scope.names []) rfl (fun x => by cases it' <;> first | rfl | exact Bool.noConfusion hset) (closure_eq (S.cellsOk cx.ho)) S.kind (fun y hy e => (S.names y hy).trans (by rw [e])) ?_
  refine (L cx hit he).go fun x₁ h₁ tk₁ a m1 q₁ k₁ co₁ r₁ => ?_
  obtain ⟨vs, ei, hlim, eg⟩ := q₁
  refine wpAny_mono (iter_start ei co₁ r₁ (s := { s with heap := h₁, toks := tk₁ })) ?_ fun _ _ f => f
  rintro itv s₂ ⟨h₂, rfl, rfl, up, st⟩
  dsimp only at up st ⊢
  have co₂ : Co C ρ m1 h₂ := co₁.keepAll up
  have k₂ : Keep ρ h₁ h₂ := .of_all up
  have hI₁ : h₁.get? h₁.objs.size = none := Heap.get?_none_of_le (Nat.le_refl _)
  have none_of : ∀ a, h₂.get? a = none → s.heap.get? a = none := fun a ha => by
    cases e : s.heap.get? a with
    | none => rfl
    | some o =>
      by_cases q : a ∈ ρ
      · obtain ⟨xs, n, g⟩ := co₂.mem_list q; cases ha.symm.trans g
      · cases ha.symm.trans (up a o (k₁ a o e q))
  have cx₂ := (cx.step k₁ co₁).step k₂ co₂
  refine comp_core (C := C) (s := { s with heap := h₂, toks := tk₁ }) (mh := m1) (loc := loc) (vs := vs) (I := h₁.objs.size) ei eg hlim S cx.ho hx hl co₂ cx₂.fr st (nobase co₁ hI₁) (noxi co₁ hI₁) cx.rm.hh ?_ ?_ ?_
  · intro D u K' h tk Cl ht co fr
    exact (T (cx.comp S co fr) hifs (s := { s with heap := h, toks := tk })).2 ht
  · intro D u K' h tk Cl ht co fr
    exact El (cx.comp S co fr) helt ht (s := { s with heap := h, toks := tk })
  · intro D Cl h' tk m outs hK hD hC hDC co' r' ns kp
    refine fin D Cl h' tk m outs m1 hK hDC (none_of D hD) (none_of Cl hC) co' r' ns fun a o e n => kp a o (up a o (k₁ a o e n)) fun q => ?_
    rcases List.mem_cons.mp q with rfl | q
    · cases hI₁.symm.trans (k₁ _ o e n)
    · exact n q
theorem okE_comp {caps : List Nat} {x : Nat} {it : ME} {ifs : List MC} {elt : ME} (L : OkE X Γ it) (T : OkCs X Γ ifs) (El : OkE X Γ elt) : OkE X Γ (.comp caps x it ifs elt) := by
  intro C k A env sc loc ρ mh s Q e' cx hm he
  obtain ⟨elt', it', ifs', x', px, scope, pos, rfl, hx, hl, hsc, hset, hit, hifs, helt⟩ := compM_inv hm
  rw [eval_ListComp]
  refine comp_any (K := fun ys m => Q (.list ys) m) L T El cx hx hl hsc hset hit hifs helt he ?_
  intro D Cl h' tk m outs m1 hK hDC hD hC co' r' ns kp
  refine ⟨m, ns, fun h'' hs => ?_⟩
  have nd : ∀ o, h'.get? Cl = some o → ¬ isD o := fun o e => ns_not_d ns e
  have kk : ∀ a o, h'.get? a = some o → a ≠ Cl → h''.get? a = some o := fun a o e n => (hs.2 a n).trans e
  refine ⟨h'', tk, _, _, rfl, hK, fun a o e n => kk a o (kp a o e n) ?_, ?_, ?_⟩
  · rintro rfl; cases hC.symm.trans e
  · exact co'.keepX (X := [Cl]) (fun a o e n => kk a o e fun q => n (q ▸ .head _)) (fun b hb => mem_one hb ▸ nobase cx.co hC) (fun b hb => .inl (mem_one hb ▸ nd)) (fun b hb hb' => absurd (mem_one hb ▸ hb') (noxi cx.co hC))
  · exact r'.keep fun a o e d n => kk a o e (by rintro rfl; exact nd o e d)
end
mutual
theorem okE (X : TX) (Γ : Tab) : ∀ e : ME, OkE X Γ e
  | .const v => okE_const
  | .var i => okE_var
  | .glob f => okE_glob
  | .bin op l r => okE_bin (okE X Γ l) (okE X Γ r)
  | .neg e => okE_neg (okE X Γ e)
  | .cmp op l r => okE_cmp (okE X Γ l) (okE X Γ r)
  | .bop op es => okE_bop (okB X Γ es)
  | .ite c t e => okE_ite (okC X Γ c) (okE X Γ t) (okE X Γ e)
  | .list es => okE_list (okEs X Γ es)
  | .item o i => okE_item (okE X Γ o) (okE X Γ i)
  | .slice o l u s => okE_slice (okE X Γ o) (okE X Γ l) (okE X Γ u) (okE X Γ s)
  | .prim f es => okE_prim (okEs X Γ es)
  | .isBytes e => okE_isBytes (okE X Γ e)
  | .app o e => okE_app (okE X Γ o) (okE X Γ e)
  | .ins o i e => okE_ins (okE X Γ o) (okE X Γ i) (okE X Γ e)
  | .call f es ks kes => okE_call (okE X Γ f) (okEs X Γ es) (okEs X Γ kes)
  | .comp caps x it ifs elt => okE_comp (okE X Γ it) (okCs X Γ ifs) (okE X Γ elt)
theorem okEs (X : TX) (Γ : Tab) : ∀ es : List ME, OkEs X Γ es
  | [] => okEs_nil
  | e :: es => okEs_cons (okE X Γ e) (okEs X Γ es)
theorem okB (X : TX) (Γ : Tab) : ∀ es : List ME, OkB X Γ es
  | [] => okB_nil
  | e :: es => okB_cons (okE X Γ e) (okB X Γ es)
theorem okC (X : TX) (Γ : Tab) : ∀ c : MC, OkC X Γ c
  | .tst e => okC_tst (okE X Γ e)
  | .not c => okC_not (okC X Γ c)
  | .bop op cs => okC_bop (okCs X Γ cs)
  | .cmp op l r => okC_cmp (okE X Γ l) (okE X Γ r)
theorem okCs (X : TX) (Γ : Tab) : ∀ cs : List MC, OkCs X Γ cs
  | [] => okCs_nil
  | c :: cs => okCs_cons (okC X Γ c) (okCs X Γ cs)
end
end Mine
end
section
open PySem PySem.Calls PySem.W PyProof.Rows PySem.SeqAt
set_option maxRecDepth 100000
set_option linter.unusedVariables false
namespace Mine
structure FC where
  C : Cfg
  X : TX
  Γ : Tab
  k : Nat
  A : Around
  env : Env
  sc : List (Str × NameKind)
  h₀ : Heap
  ρ₀ : List Addr
noncomputable def own (F : FC) (ρ : List Addr) : List Addr := F.env.locals :: F.env.cells.map (·.2) ++ ρ
structure FS (F : FC) : Prop where
  base : ∀ a o, F.C.hb.get? a = some o → F.h₀.get? a = some o
  xi : ∀ a ∈ F.C.ξ, ∃ o, F.h₀.get? a = some o
  loc₀ : F.h₀.get? F.env.locals = none
  cell₀ : ∀ x c, (x, c) ∈ F.env.cells → F.h₀.get? c = none
  inj : F.env.cells.Pairwise fun x y => x.2 ≠ y.2
  names : F.X.vars.Nodup
  top : F.k + 1 = topK → F.A.frames = some [F.env]
  frm : F.env.frame = some F.env.locals
structure Fx (F : FC) (loc : Loc) (ρ : List Addr) (mh : MH) (h : Heap) : Prop where
  cx : Cx F.C F.X F.Γ F.k F.A F.env F.sc loc ρ mh h
  keep : Keep F.ρ₀ F.h₀ h
  new : ∃ δ, ρ = F.ρ₀ ++ δ ∧ ∀ a ∈ δ, F.h₀.get? a = none
  ns : ∃ m, h.Ns F.env.locals m
  cells : ∀ x c, (x, c) ∈ F.env.cells → ∃ v, h.IsCell c v
  st : FS F
section
variable {C : Cfg} {X : TX} {env : Env} {loc : Loc} {ρ : List Addr} {mh mh' : MH} {s : Shared} {h h' : Heap} {F : FC}
theorem nono {h : Heap} {a : Addr} {o : Obj} (e : h.get? a = none) (q : h.get? a = some o) : False := nomatch e.symm.trans q
theorem none_keep {h h' : Heap} {a : Addr} (co : Co C ρ mh h') (k : Keep ρ h h') (e : h'.get? a = none) : h.get? a = none := by
  cases q : h.get? a with
  | none => rfl
  | some o => exact (nono e (k a o q fun m => by obtain ⟨_, _, g⟩ := co.mem_list m; exact nono e g)).elim
theorem Co.add {a : Addr} {xs : List Value} {n : Nat} {vs : List V} (co : Co C ρ mh h) (up : ∀ b o, h.get? b = some o → h'.get? b = some o) (hn : h.get? a = none) (hg : h'.get? a = some (listOf xs.toArray n)) (r : VAll C h ρ vs xs) (p : pureVs vs) :
    Co C (ρ ++ [a]) (mh ++ [vs]) h' := by
  have fresh : ∀ b ∈ [a], ∀ o, h.get? b ≠ some o := fun b hb o e => nono (mem_one hb ▸ hn) e
  have haρ : a ∉ ρ := fun q => by obtain ⟨xs, n, g⟩ := co.mem_list q; exact nono hn g
  refine ⟨fun b o e => up b o (co.up b o e), fun b hb => ?_, ⟨by rw [List.length_append, List.length_append, co.m.len]; rfl, ?_, fun i b us e1 e2 => ?_⟩, fun us hu => ?_, fun b hb => ?_, fun b hb => ⟨fun q => ?_, (co.apart b hb).2⟩⟩
  · exact (List.mem_append.mp hb).elim (co.new b) fun q => mem_one q ▸ nobase co hn
  · rw [List.nodup_append]
    exact ⟨co.m.nodup, List.nodup_cons.mpr ⟨List.not_mem_nil, .nil⟩, fun x hx y hy => by rw [mem_one hy]; rintro rfl; exact haρ hx⟩
  · by_cases hi : i < ρ.length
    · rw [List.getElem?_append_left hi] at e1
      rw [List.getElem?_append_left (co.m.len ▸ hi)] at e2
      obtain ⟨ys, m, g, q⟩ := co.m.at' i b us e1 e2
      exact ⟨ys, m, up _ _ g, (q.more fresh).keep (Keep.of_all up).d⟩
    · have hge := Nat.le_of_not_lt hi
      rw [List.getElem?_append_right hge] at e1
      rw [List.getElem?_append_right (co.m.len ▸ hge), ← co.m.len] at e2
      generalize i - ρ.length = j at e1 e2
      cases j with
      | succ j => cases e1
      | zero => cases e1; cases e2; exact ⟨xs, n, hg, (r.more fresh).keep (Keep.of_all up).d⟩
  · exact (List.mem_append.mp hu).elim (co.pure us) fun q => (List.mem_singleton.mp q) ▸ p
  · obtain ⟨o, ho⟩ := co.live b hb; exact ⟨o, up b o ho⟩
  · obtain ⟨o, ho⟩ := co.live b hb
    exact (List.mem_append.mp q).elim (co.apart b hb).1 fun q => nono hn (mem_one q ▸ ho)
namespace Fx
theorem rho_old (fx : Fx F loc ρ mh h) {a : Addr} {o : Obj} (e : F.h₀.get? a = some o) (n : a ∉ F.ρ₀) : a ∉ ρ := fun q => by
  obtain ⟨δ, rfl, hd⟩ := fx.new
  exact (List.mem_append.mp q).elim n fun q => nono (hd a q) e
theorem none_of (fx : Fx F loc ρ mh h) {a : Addr} (e : h.get? a = none) : F.h₀.get? a = none := by
  cases q : F.h₀.get? a with
  | none => rfl
  | some o =>
    refine (nono e (fx.keep a o q fun hm => ?_)).elim
    obtain ⟨δ, hρ, hd⟩ := fx.new
    obtain ⟨xs, n, g⟩ := fx.cx.co.mem_list (a := a) (hρ ▸ List.mem_append.mpr (.inl hm))
    exact nono e g
theorem locals_not (fx : Fx F loc ρ mh h) : F.env.locals ∉ ρ := fun q => by
  obtain ⟨xs, n, g⟩ := fx.cx.co.mem_list q
  obtain ⟨m, hn⟩ := fx.ns
  exact ns_not_list hn g
theorem cell_not (fx : Fx F loc ρ mh h) {x : Str} {c : Addr} (hc : (x, c) ∈ F.env.cells) : c ∉ ρ := fun q => by
  obtain ⟨xs, n, g⟩ := fx.cx.co.mem_list q
  obtain ⟨v, hv⟩ := fx.cells x c hc
  exact cell_not_list hv g
theorem cell_ne (fx : Fx F loc ρ mh h) {x : Str} {c : Addr} (hc : (x, c) ∈ F.env.cells) : c ≠ F.env.locals := by
  rintro rfl
  obtain ⟨v, o, ho, hd⟩ := fx.cells x _ hc
  obtain ⟨m, o', es, ep, ho', hd', _⟩ := fx.ns
  cases ho.symm.trans ho'; cases hd.symm.trans hd'
theorem base_none (fx : Fx F loc ρ mh h) {a : Addr} (e : F.h₀.get? a = none) : F.C.hb.get? a = none := by
  cases q : F.C.hb.get? a with
  | none => rfl
  | some o => exact (nono e (fx.st.base a o q)).elim
theorem xi_not (fx : Fx F loc ρ mh h) {a : Addr} (e : F.h₀.get? a = none) : a ∉ F.C.ξ := fun q => let ⟨_, ho⟩ := fx.st.xi a q; nono e ho
theorem step (fx : Fx F loc ρ mh h) (q : Keep ρ h h') (co : Co F.C ρ mh' h') : Fx F loc ρ mh' h' := by
  refine ⟨fx.cx.step q co, fun a o e n => q a o (fx.keep a o e n) (fx.rho_old e n), fx.new, ?_, fun x c hc => ?_, fx.st⟩
  · obtain ⟨m, o, es, ep, ho, r⟩ := fx.ns
    exact ⟨m, o, es, ep, q _ _ ho fx.locals_not, r⟩
  · obtain ⟨v, o, ho, r⟩ := fx.cells x c hc
    exact ⟨v, o, q _ _ ho (fx.cell_not hc), r⟩
theorem add {a : Addr} {xs : List Value} {n : Nat} {vs : List V} (fx : Fx F loc ρ mh h) (up : ∀ b o, h.get? b = some o → h'.get? b = some o) (hn : h.get? a = none) (hg : h'.get? a = some (listOf xs.toArray n))
    (r : VAll F.C h ρ vs xs) (p : pureVs vs) : Fx F loc (ρ ++ [a]) (mh ++ [vs]) h' := by
  have f1 := fx.step (.of_all up) (fx.cx.co.keepAll up)
  refine ⟨⟨f1.cx.K, f1.cx.ho, f1.cx.rm, f1.cx.tab, fx.cx.co.add up hn hg r p, fun i v e => ?_⟩, f1.keep, ?_, f1.ns, f1.cells, f1.st⟩
  · obtain ⟨x, w, ha, hb, hc⟩ := fx.cx.fr i v e
    exact ⟨x, w, ha, hb.keep fx.cx.co (.of_all up), (hc.more (δ := [a]) fun b hb o e => nono (mem_one hb ▸ hn) e).keep (Keep.of_all up).d⟩
  · obtain ⟨δ, hρ, hd⟩ := fx.new
    exact ⟨δ ++ [a], by rw [hρ, List.append_assoc], fun b hb => (List.mem_append.mp hb).elim (hd b) fun q => mem_one q ▸ fx.none_of hn⟩
theorem fresh_own (fx : Fx F loc ρ mh h) {b : Addr} (e : h.get? b = none) : b ∉ own F ρ := fun q => by
  rcases List.mem_append.mp q with q | q
  · rcases List.mem_cons.mp q with rfl | q
    · obtain ⟨m, o, es, ep, ho, _⟩ := fx.ns; exact nono e ho
    · obtain ⟨⟨x, c⟩, hm, rfl⟩ := List.mem_map.mp q
      obtain ⟨v, o, ho, _⟩ := fx.cells x c hm
      exact nono e ho
  · obtain ⟨xs, n, g⟩ := fx.cx.co.mem_list q; exact nono e g
theorem own_nil {b : Addr} {ρ : List Addr} (h : b ∉ own F ρ) : b ∉ own F [] := fun q => h ((List.mem_append.mp q).elim (fun q => List.mem_append.mpr (.inl q)) fun q => nomatch q)
theorem own_d (fx : Fx F loc ρ mh h) {b : Addr} {o : Obj} (q : b ∈ own F []) (e : h.get? b = some o) : ¬ isD o := by
  rcases List.mem_append.mp q with q | q
  · rcases List.mem_cons.mp q with rfl | q
    · obtain ⟨m, hm⟩ := fx.ns; exact ns_not_d hm e
    · obtain ⟨⟨x, c⟩, hm, rfl⟩ := List.mem_map.mp q
      obtain ⟨v, hv⟩ := fx.cells x c hm
      exact cell_not_d hv e
  · cases q
theorem own_cell {x : Str} {c : Addr} (hc : (x, c) ∈ F.env.cells) : c ∈ own F ρ := List.mem_append.mpr (.inl (.tail _ (List.mem_map.mpr ⟨_, hc, rfl⟩)))
theorem own_loc : F.env.locals ∈ own F ρ := .head _
theorem chg {b : Addr} {loc' : Loc} (fx : Fx F loc ρ mh h) (q : ∀ a o, h.get? a = some o → a ≠ b → h'.get? a = some o) (hb : F.h₀.get? b = none) (hd : ∀ o, h.get? b = some o → ¬ isD o)
    (ns : ∃ m, h'.Ns F.env.locals m) (cells : ∀ x c, (x, c) ∈ F.env.cells → ∃ v, h'.IsCell c v) (fr : KeepD ρ h h' → FrR F.C F.X F.env loc' ρ h') : Fx F loc' ρ mh h' := by
  have kd : KeepD ρ h h' := fun a o e d _ => q a o e (by rintro rfl; exact hd o e d)
  refine ⟨⟨fx.cx.K, fx.cx.ho, fx.cx.rm, fx.cx.tab, fx.cx.co.keepX (X := [b]) (fun a o e n => q a o e fun m => n (m ▸ .head _)) (fun c hc => mem_one hc ▸ fx.base_none hb) (fun c hc => .inl (mem_one hc ▸ hd)) (fun c hc hx => absurd (mem_one hc ▸ hx) (fx.xi_not hb)), fr kd⟩,
    fun a o e n => q a o (fx.keep a o e n) (by rintro rfl; exact nono hb e), fx.new, ns, cells, fx.st⟩
theorem chgI {b : Addr} (fx : Fx F loc ρ mh h) (q : ∀ a o, h.get? a = some o → a ≠ b → h'.get? a = some o) (hb : F.h₀.get? b = none) (hd : ∀ o, h.get? b = some o → ¬ isD o) (ho : b ∉ own F []) : Fx F loc ρ mh h' := by
  have nsk : ∀ {m}, h.Ns F.env.locals m → h'.Ns F.env.locals m := fun ⟨o, es, ep, e, r⟩ => ⟨o, es, ep, q _ _ e (by rintro rfl; exact ho own_loc), r⟩
  have ck : ∀ {x c v}, (x, c) ∈ F.env.cells → h.IsCell c v → h'.IsCell c v := fun hc ⟨o, e, hdd⟩ => ⟨o, q _ _ e (by rintro rfl; exact ho (own_cell hc)), hdd⟩
  refine fx.chg q hb hd (let ⟨m, hn⟩ := fx.ns; ⟨m, nsk hn⟩) (fun x c hc => let ⟨v, hv⟩ := fx.cells x c hc; ⟨v, ck hc hv⟩) fun kd i v e => ?_
  obtain ⟨x, w, h1, h2, h3⟩ := fx.cx.fr i v e
  exact ⟨x, w, h1, h2.elim (fun ⟨hk, m, hn, hm⟩ => .inl ⟨hk, m, nsk hn, hm⟩) fun ⟨hk, c, hc, hi⟩ => .inr ⟨hk, c, hc, ck (mem_of_lookup hc) hi⟩, h3.keep kd⟩
theorem refr (fx : Fx F loc ρ mh h) (q : ∀ a o, h.get? a = some o → a ∉ ρ → a ≠ F.env.locals → h'.get? a = some o) (sl : ∀ o, h.get? F.env.locals = some o → ∃ sl, h'.get? F.env.locals = some { o with slots := sl }) (co : Co F.C ρ mh' h') : Fx F loc ρ mh' h' := by
  have ns : ∀ {m}, h.Ns F.env.locals m → h'.Ns F.env.locals m := fun ⟨o, es, ep, ho, hd, r⟩ => let ⟨_, e⟩ := sl o ho; ⟨_, es, ep, e, hd, r⟩
  have ck : ∀ {x c v}, (x, c) ∈ F.env.cells → h.IsCell c v → h'.IsCell c v := fun hc ⟨o, e, hd⟩ => ⟨o, q _ _ e (fx.cell_not hc) (fx.cell_ne hc), hd⟩
  have kd : KeepD ρ h h' := fun a o e d n => q a o e n (by rintro rfl; obtain ⟨m, hm⟩ := fx.ns; exact ns_not_d hm e d)
  refine ⟨⟨fx.cx.K, fx.cx.ho, fx.cx.rm, fx.cx.tab, co, fun i v e => ?_⟩, fun a o e n => q a o (fx.keep a o e n) (fx.rho_old e n) (by rintro rfl; exact nono fx.st.loc₀ e), fx.new, let ⟨m, hm⟩ := fx.ns; ⟨m, ns hm⟩, fun x c hc => let ⟨v, hv⟩ := fx.cells x c hc; ⟨v, ck hc hv⟩, fx.st⟩
  obtain ⟨x, w, h1, h2, h3⟩ := fx.cx.fr i v e
  exact ⟨x, w, h1, h2.elim (fun ⟨hk, m, hn, hm⟩ => .inl ⟨hk, m, ns hn, hm⟩) fun ⟨hk, c, hc, hi⟩ => .inr ⟨hk, c, hc, ck (mem_of_lookup hc) hi⟩, h3.keep kd⟩
theorem set_get {i j : Nat} {v u : V} {loc : Loc} (e : (loc.set i (some v))[j]? = some (some u)) : (j = i ∧ u = v) ∨ (j ≠ i ∧ loc[j]? = some (some u)) := by
  by_cases h : i = j
  · subst h
    rw [List.getElem?_set_self (List.length_set (as := loc) (i := i) ▸ (List.getElem?_eq_some_iff.mp e).1)] at e
    cases e; exact .inl ⟨rfl, rfl⟩
  · rw [List.getElem?_set_ne h] at e
    exact .inr ⟨Ne.symm h, e⟩
theorem name_ne {X : TX} (hn : X.vars.Nodup) {i j : Nat} {x y : Str} (h1 : X.vars[i]? = some x) (h2 : X.vars[j]? = some y) (hij : j ≠ i) : y ≠ x := by
  rintro rfl
  obtain ⟨hi, e1⟩ := List.getElem?_eq_some_iff.mp h1
  obtain ⟨hj, e2⟩ := List.getElem?_eq_some_iff.mp h2
  exact hij ((List.getElem_inj hn).mp (e2.trans e1.symm))
theorem ns_at {h : Heap} {a : Addr} {m m' : Str → Option Value} (x : h.Ns a m) (y : h.Ns a m') (n : Str) : m n = m' n := by
  obtain ⟨o1, es1, ep1, ho1, hd1, r1⟩ := x
  obtain ⟨o2, es2, ep2, ho2, hd2, r2⟩ := y
  cases ho1.symm.trans ho2
  cases hd1.symm.trans hd2
  exact (r1.2 n).symm.trans (r2.2 n)
theorem store {i : Nat} {x : Str} {v : V} {w : Value} {Q : Unit → Shared → Prop} (fx : Fx F loc ρ mh s.heap) (hx : F.X.vars[i]? = some x) (hk : F.sc.lookup x = some .local ∨ F.sc.lookup x = some .cell) (r : VRel F.C s.heap ρ v w)
    (k : ∀ h' tk, Fx F (loc.set i (some v)) ρ mh h' → KeepD ρ s.heap h' → Keep (own F []) s.heap h' → Q () { s with heap := h', toks := tk }) : WP F.C F.A (storeName F.env x w) Q s := by
  rcases hk with hk | hk
  · obtain ⟨m, hm⟩ := fx.ns
    have hkd : F.env.kindOf x = some .local := fx.cx.ho.kinds x _ hk (by decide)
    refine wpAny_storeName_local hkd hm (fun h' hn hs => k h' _ ?_ (fun a o e d _ => (hs.2 a (by rintro rfl; exact ns_not_d hm e d)).trans e) fun a o e n => (hs.2 a fun q => n (q ▸ own_loc)).trans e) (by rw [fx.cx.ho.kind]; rfl)
    refine fx.chg (fun a o e n => (hs.2 a n).trans e) fx.st.loc₀ (fun o e => ns_not_d hm e) ⟨_, hn⟩ (fun y c hc => let ⟨v', hv⟩ := fx.cells y c hc; ⟨v', hv.sameBut hs (fx.cell_ne hc)⟩) fun kd j u e => ?_
    rcases set_get e with ⟨rfl, rfl⟩ | ⟨hj, e⟩
    · exact ⟨x, w, hx, .inl ⟨hkd, _, hn, if_pos rfl⟩, r.keep kd⟩
    · obtain ⟨y, w', h1, h2, h3⟩ := fx.cx.fr j u e
      refine ⟨y, w', h1, h2.elim (fun ⟨hk', m', hn', hm'⟩ => .inl ⟨hk', _, hn, ?_⟩) fun ⟨hk', c, hc, hi⟩ => .inr ⟨hk', c, hc, hi.sameBut hs (fx.cell_ne (mem_of_lookup hc))⟩, h3.keep kd⟩
      rw [if_neg (name_ne fx.st.names hx h1 hj)]
      exact (ns_at hm hn' y).trans hm'
  · have hkd : F.env.kindOf x = some .cell := fx.cx.ho.kinds x _ hk (by decide)
    obtain ⟨c, hc⟩ := fx.cx.ho.cells x (.inl hk)
    have hmem := mem_of_lookup hc
    obtain ⟨v₀, hv₀⟩ := fx.cells x c hmem
    refine wpAny_storeName_cell fx.cx.ho.kind hkd hc hv₀ fun h' hn hs => k h' s.toks ?_ (fun a o e d _ => (hs.2 a (by rintro rfl; exact cell_not_d hv₀ e d)).trans e) fun a o e n => (hs.2 a fun q => n (q ▸ own_cell hmem)).trans e
    refine fx.chg (fun a o e n => (hs.2 a n).trans e) (fx.st.cell₀ x c hmem) (fun o e => cell_not_d hv₀ e) (let ⟨m, hm⟩ := fx.ns; ⟨m, hm.sameBut hs (Ne.symm (fx.cell_ne hmem))⟩) (fun y c' hc' => ?_) fun kd j u e => ?_
    · by_cases q : c' = c
      · exact q ▸ ⟨_, hn⟩
      · obtain ⟨v', hv⟩ := fx.cells y c' hc'
        exact ⟨v', hv.sameBut hs q⟩
    · rcases set_get e with ⟨rfl, rfl⟩ | ⟨hj, e⟩
      · exact ⟨x, w, hx, .inr ⟨hkd, c, hc, hn⟩, r.keep kd⟩
      · obtain ⟨y, w', h1, h2, h3⟩ := fx.cx.fr j u e
        exact ⟨y, w', h1, h2.elim (fun ⟨hk', m', hn', hm'⟩ => .inl ⟨hk', m', hn'.sameBut hs (Ne.symm (fx.cell_ne hmem)), hm'⟩) fun ⟨hk', c', hc', hi⟩ => .inr ⟨hk', c', hc', hi.sameBut hs fun q => name_ne fx.st.names hx h1 hj (name_of_addr fx.st.inj (mem_of_lookup hc') (q ▸ hmem))⟩, h3.keep kd⟩
end Fx
end
end Mine
end
section
open PySem PySem.Calls PySem.W PyProof.Rows PySem.SeqAt
set_option maxRecDepth 100000
set_option linter.unusedVariables false
namespace Mine
noncomputable def FlR (C : Cfg) (h : Heap) (ρ : List Addr) (f : Flow) : Fl → Prop
  | .next => f = .next
  | .ret v => ∃ x, f = .ret x ∧ VRel C h ρ v x
noncomputable def SPost (F : FC) (ρ : List Addr) (s : Shared) (Q : Fl → Loc → MH → Prop) (f : Flow) (s' : Shared) : Prop :=
  ∃ h' tk δ fl loc' mh', s' = { s with heap := h', toks := tk } ∧ Q fl loc' mh' ∧ Keep (own F ρ) s.heap h' ∧ (∀ a ∈ δ, s.heap.get? a = none) ∧ Fx F loc' (ρ ++ δ) mh' h' ∧ FlR F.C h' (ρ ++ δ) f fl
noncomputable def OkS (st : MS) : Prop := ∀ {F : FC} {loc : Loc} {ρ : List Addr} {mh : MH} {s : Shared} {Q : Fl → Loc → MH → Prop} {st' : Stmt},
  Fx F loc ρ mh s.heap → mtS F.X F.sc st st' = true → wpS F.Γ st loc mh Q → WP F.C F.A (exec st' F.env) (SPost F ρ s Q) s
noncomputable def OkSs (st : List MS) : Prop := ∀ {F : FC} {loc : Loc} {ρ : List Addr} {mh : MH} {s : Shared} {Q : Fl → Loc → MH → Prop} {st' : List Stmt},
  Fx F loc ρ mh s.heap → mtSs F.X F.sc st st' = true → wpSs F.Γ st loc mh Q → WP F.C F.A (execs st' F.env) (SPost F ρ s Q) s
section
variable {F : FC} {loc loc₁ : Loc} {ρ δ : List Addr} {mh mh₁ : MH} {s : Shared} {h h' h₁ h₂ : Heap} {Q : Fl → Loc → MH → Prop}
theorem mem_own {b : Addr} {ρ : List Addr} (h : b ∈ ρ) : b ∈ own F ρ := List.mem_append.mpr (.inr h)
theorem own_app {b : Addr} (h : b ∈ own F (ρ ++ δ)) : b ∈ own F ρ ∨ b ∈ δ :=
  (List.mem_append.mp h).elim (fun q => .inl (List.mem_append.mpr (.inl q))) fun q => (List.mem_append.mp q).elim (fun q => .inl (mem_own q)) .inr
theorem own_sub {b : Addr} (h : b ∈ own F []) : b ∈ own F ρ := (List.mem_append.mp h).elim (fun q => List.mem_append.mpr (.inl q)) fun q => nomatch q
theorem own_l {b : Addr} (h : b ∈ own F ρ) : b ∈ own F (ρ ++ δ) := (List.mem_append.mp h).elim (fun q => List.mem_append.mpr (.inl q)) fun q => mem_own (List.mem_append.mpr (.inl q))
theorem Keep.own (q : Keep ρ h h') : Keep (own F ρ) h h' := q.mono fun _ m => mem_own m
theorem Keep.own0 (q : Keep (Mine.own F []) h h') : Keep (Mine.own F ρ) h h' := q.mono fun _ m => own_sub m
theorem keep_trans (k₁ : Keep (own F ρ) h h₁) (n₁ : ∀ a ∈ δ, h.get? a = none) (k₂ : Keep (own F (ρ ++ δ)) h₁ h₂) : Keep (own F ρ) h h₂ := fun a o e n =>
  k₂ a o (k₁ a o e n) fun q => (own_app q).elim n fun q => nono (n₁ a q) e
theorem fresh_trans {δ₂ : List Addr} (k₁ : Keep (own F ρ) h h₁) (n₁ : ∀ a ∈ δ, h.get? a = none) (f₁ : Fx F loc₁ (ρ ++ δ) mh₁ h₁) (n₂ : ∀ a ∈ δ₂, h₁.get? a = none) : ∀ a ∈ δ ++ δ₂, h.get? a = none := fun a ha =>
  (List.mem_append.mp ha).elim (n₁ a) fun q => by
    cases e : h.get? a with
    | none => rfl
    | some o => exact (nono (n₂ a q) (k₁ a o e fun m => f₁.fresh_own (n₂ a q) (own_l m))).elim
theorem SPost.trans {tk₁ : Nat} {δ₁ : List Addr} {f : Flow} {s' : Shared} (k₁ : Keep (own F ρ) s.heap h₁) (n₁ : ∀ a ∈ δ₁, s.heap.get? a = none) (f₁ : Fx F loc₁ (ρ ++ δ₁) mh₁ h₁)
    (p : SPost F (ρ ++ δ₁) { s with heap := h₁, toks := tk₁ } Q f s') : SPost F ρ s Q f s' := by
  obtain ⟨h', tk, δ, fl, l, m, rfl, q, kk, nn, fx, fr⟩ := p
  rw [List.append_assoc] at fx fr
  exact ⟨h', tk, δ₁ ++ δ, fl, l, m, rfl, q, keep_trans k₁ n₁ kk, fresh_trans k₁ n₁ f₁ nn, fx, fr⟩
theorem SPost.same {tk₁ : Nat} (q : Q .next loc mh) (k₁ : Keep (own F ρ) s.heap h₁) (f₁ : Fx F loc ρ mh h₁) : SPost F ρ s Q .next { s with heap := h₁, toks := tk₁ } :=
  ⟨h₁, tk₁, [], _, _, _, rfl, q, k₁, (fun _ q => nomatch q), (List.append_nil ρ).symm ▸ f₁, rfl⟩
theorem WP.backS {t : Sem Flow} {tk₁ : Nat} {s₁ : Shared} (k₁ : Keep (own F ρ) s.heap h₁) (f₁ : Fx F loc₁ ρ mh₁ h₁) (h : WP F.C F.A t (SPost F ρ { s with heap := h₁, toks := tk₁ } Q) s₁) :
    WP F.C F.A t (SPost F ρ s Q) s₁ := h.mono fun _ _ p => SPost.trans (δ₁ := []) (tk₁ := tk₁) k₁ (fun _ q => nomatch q) ((List.append_nil ρ).symm ▸ f₁) ((List.append_nil ρ).symm ▸ p)
theorem okSs_nil : OkSs [] := by
  intro F loc ρ mh s Q st' fx hm he
  cases List.isEmpty_iff.mp hm
  exact wpAny_execs_nil (SPost.same he .refl fx)
theorem okSs_cons {st : MS} {ss : List MS} (L : OkS st) (R : OkSs ss) : OkSs (st :: ss) := by
  intro F loc ρ mh s Q st' fx hm he
  obtain ⟨s1, r1, rfl, h1, h2⟩ := mtSs_inv hm
  refine wpAny_execs_cons ((L fx h1 he).mono ?_)
  rintro f s' ⟨h₁, tk₁, δ₁, fl, l, m, rfl, q, k₁, n₁, f₁, fr⟩
  cases fl with
  | next =>
    cases fr
    exact (R (s := { s with heap := h₁, toks := tk₁ }) f₁ h2 q).mono fun _ _ p => SPost.trans k₁ n₁ f₁ p
  | ret v =>
    obtain ⟨x, rfl, r⟩ := fr
    exact ⟨h₁, tk₁, δ₁, _, _, _, rfl, q, k₁, n₁, f₁, x, rfl, r⟩
theorem okS_ret {e : ME} : OkS (.ret e) := by
  intro F loc ρ mh s Q st' fx hm he
  obtain ⟨⟨⟨e', pos⟩, rfl⟩, h⟩ := optB_inv hm
  refine wpAny_Return_some ((okE F.X F.Γ e fx.cx h he).go fun w h₁ tk₁ v₁ m₁ q₁ k₁ co₁ r₁ => ?_)
  exact ⟨h₁, tk₁, [], _, _, _, rfl, q₁, k₁.own, (fun _ q => nomatch q), (List.append_nil ρ).symm ▸ fx.step k₁ co₁, _, rfl, (List.append_nil ρ).symm ▸ r₁⟩
theorem swaps_none {e' : Expr} {l : Nat} {env : Env} (hl : isLC e' = false) (hm : isSD e' = false) (t : Option Expr) : swapsWith e' t l env = pure false := by
  cases e' <;> first | rfl | exact Bool.noConfusion hl | exact Bool.noConfusion hm
theorem isLC_inv {e : Expr} (h : isLC e = true) : ∃ a b c d, e = .ListComp a b c d := by
  cases e <;> first | exact Bool.noConfusion h | exact ⟨_, _, _, _, rfl⟩
theorem okS_expr {e : ME} : OkS (.expr e) := by
  intro F loc ρ mh s Q st' fx hm he
  obtain ⟨⟨⟨e', pos⟩, rfl⟩, h⟩ := optB_inv hm
  obtain ⟨h, h3⟩ := band h
  obtain ⟨h1, h2⟩ := band h
  refine wpAny_Expr ((okE F.X F.Γ e fx.cx h1 he).go fun w h₁ tk₁ v₁ m₁ q₁ k₁ co₁ r₁ => ?_) (by rw [interactive, fx.cx.ho.kind]; rfl) (swaps_none (bnot h2) (bnot h3) none)
  obtain ⟨e, q⟩ := q₁
  cases e; cases r₁
  exact SPost.same q k₁.own (fx.step k₁ co₁)
theorem okS_ite {c : MC} {t e : List MS} (T : OkSs t) (E : OkSs e) : OkS (.ite c t e) := by
  intro F loc ρ mh s Q st' fx hm he
  obtain ⟨⟨⟨c', t', e', pos⟩, rfl⟩, h⟩ := optB_inv hm
  obtain ⟨h, h3⟩ := band h
  obtain ⟨h1, h2⟩ := band h
  refine wpAny_If ((okC F.X F.Γ c fx.cx h1 he).goB fun b h₁ tk₁ m₁ q₁ k₁ co₁ => ?_)
  have f₁ := fx.step k₁ co₁
  cases b
  · exact WP.backS k₁.own f₁ (E (s := { s with heap := h₁, toks := tk₁ }) f₁ h3 q₁)
  · exact WP.backS k₁.own f₁ (T (s := { s with heap := h₁, toks := tk₁ }) f₁ h2 q₁)
theorem okS_while {c : MC} {b : List MS} (B : OkSs b) : OkS (.while c b) := by
  intro F loc ρ mh s Q st' fx hm he
  obtain ⟨⟨⟨c', b', pos⟩, rfl⟩, h⟩ := optB_inv hm
  obtain ⟨h1, h2⟩ := band h
  obtain ⟨I, ⟨n, hn⟩, hI⟩ := he
  refine wpAny_While (codeAny_whileLoop (fun n s' => ∃ h₁ tk₁ δ₁ loc₁ mh₁, s' = { s with heap := h₁, toks := tk₁ } ∧ Keep (own F ρ) s.heap h₁ ∧ (∀ a ∈ δ₁, s.heap.get? a = none) ∧ Fx F loc₁ (ρ ++ δ₁) mh₁ h₁ ∧
    I n loc₁ mh₁) ?_ n ⟨s.heap, s.toks, [], loc, mh, rfl, .refl, (fun _ q => nomatch q), (List.append_nil ρ).symm ▸ fx, hn⟩)
  rintro n s' ⟨h₁, tk₁, δ₁, loc₁, mh₁, rfl, k₁, n₁, f₁, hw⟩
  refine wp_e (WP.goB (okC F.X F.Γ c (s := { s with heap := h₁, toks := tk₁ }) f₁.cx h1 (hI n loc₁ mh₁ hw)) fun b h₂ tk₂ m₂ q₂ k₂ co₂ => ?_)
  have f₂ := f₁.step k₂ co₂
  have k₁₂ : Keep (own F ρ) s.heap h₂ := keep_trans k₁ n₁ k₂.own
  cases b
  · exact wpAny_execs_nil ⟨h₂, tk₂, δ₁, _, _, _, rfl, q₂, k₁₂, n₁, f₂, rfl⟩
  · refine wp_e ((B (s := { s with heap := h₂, toks := tk₂ }) f₂ h2 q₂).mono ?_)
    rintro f s' ⟨h₃, tk₃, δ₃, fl, l3, m3, rfl, q₃, k₃, n₃, fx₃, fr⟩
    rw [List.append_assoc] at fx₃ fr
    have kk := keep_trans k₁₂ n₁ k₃
    have nn := fresh_trans k₁₂ n₁ f₂ n₃
    cases fl with
    | next => cases fr; obtain ⟨j, hj, q₃⟩ := q₃; exact ⟨j, hj, h₃, tk₃, δ₁ ++ δ₃, l3, m3, rfl, kk, nn, fx₃, q₃⟩
    | ret v => obtain ⟨x, rfl, r⟩ := fr; exact ⟨h₃, tk₃, δ₁ ++ δ₃, _, _, _, rfl, q₃, kk, nn, fx₃, x, rfl, r⟩
theorem okS_raise : OkS .raise := fun _ _ he => he.elim
theorem kind_or {sc : List (Str × NameKind)} {x : Str} (h : isLoc sc x = true) : sc.lookup x = some .local ∨ sc.lookup x = some .cell :=
  ((Bool.or_eq_true _ _).mp h).imp eq_of_beq eq_of_beq
theorem mtE_listcomp {X : TX} {sc : List (Str × NameKind)} {e : ME} {a : Expr} {b : List Comprehension} {c : Scope} {d : Pos} (h : mtE X sc e (.ListComp a b c d) = true) : ∃ caps x it ifs elt, e = .comp caps x it ifs elt := by
  cases e <;> first | exact Bool.noConfusion h | exact ⟨_, _, _, _, _, rfl⟩
theorem swaps_lc {a : Expr} {b : List Comprehension} {c : Scope} {d : Pos} {x : Str} {p : Pos} {l : Nat} {env : Env} : ∃ r : Bool, swapsWith (.ListComp a b c d) (some (.Name x p)) l env = pure r := ⟨_, rfl⟩
theorem okS_assign {x : Nat} {e : ME} : OkS (.assign x e) := by
  intro F loc ρ mh s Q st' fx hm he
  obtain ⟨x', px, e', pos, rfl, hx', hk, hsd, hm⟩ := asgM_inv hm
  have hk' := kind_or hk
  have plain : swapsWith e' (some (.Name x' px)) pos.line F.env = pure false → WP F.C F.A (exec (.Assign [.Name x' px] e' pos) F.env) (SPost F ρ s Q) s := fun hs =>
    wpAny_Assign_Name ((okE F.X F.Γ e fx.cx hm he).go fun w h₁ tk₁ v₁ m₁ q₁ k₁ co₁ r₁ => Fx.store (s := { s with heap := h₁, toks := tk₁ }) (fx.step k₁ co₁) hx' hk' r₁ fun h₂ tk₂ f₂ _ ko =>
      SPost.same q₁ (k₁.own.trans ko.own0) f₂) hs
  cases hl : isLC e' with
  | false => exact plain (swaps_none hl hsd _)
  | true =>
    obtain ⟨el, gs, scp, pp, rfl⟩ := isLC_inv hl
    obtain ⟨r, hr⟩ := swaps_lc (a := el) (b := gs) (c := scp) (d := pp) (x := x') (p := px) (l := pos.line) (env := F.env)
    cases r with
    | false => exact plain hr
    | true =>
      obtain ⟨caps, y, it, ifs, elt, rfl⟩ := mtE_listcomp hm
      obtain ⟨elt', it', ifs', y', py, scope, pos', e2, hy, hl, hsc, hset, hit, hifs, helt⟩ := compM_inv hm
      cases e2
      rw [exec_Assign_Name_used _ _ _ _ hr]
      refine wpAny_bind (wpAny_standAt (wpAny_bind ?_))
      show wpAny _ F.A (do let _ ← comprehension _ _ F.env _ (newList []) false (eval it' F.env) (some (assign (.Name x' px) F.env))) _ _ s
      refine wpAny_bind (WP.mono (comp_any (use := some (assign (.Name x' px) F.env)) (R := fun _ s' => SPost F ρ s Q .next s') (okE F.X F.Γ it) (okCs F.X F.Γ ifs) (okE F.X F.Γ elt) fx.cx hy hl hsc hset hit hifs helt he ?_)
        fun _ s' hq => wpAny_pure (wpAny_pure hq))
      intro D Cl h' tk m outs m1 hK hDC hD hC co' r' ns kp
      show wpAny _ F.A (assign (.Name x' px) F.env (.ref D)) _ _ _
      have hCo := fx.fresh_own hC
      refine wpAny_assign_Name (Fx.store (s := { s with heap := h', toks := tk }) (fx.step kp co') hx' hk' r' fun h₂ tk₂ f₂ kd ko => ?_)
      have nsC : h₂.Ns Cl m := by
        obtain ⟨o, es, ep, ho, r⟩ := ns
        exact ⟨o, es, ep, ko _ _ ho (Fx.own_nil hCo), r⟩
      refine ⟨m, nsC, fun h'' hs => ?_⟩
      refine SPost.same hK (fun a o e n => ?_) (f₂.chgI (b := Cl) (fun a o e n => (hs.2 a n).trans e) (fx.none_of hC) (fun o e => ns_not_d nsC e) (Fx.own_nil hCo))
      refine (hs.2 a ?_).trans (ko a o (kp a o e fun q => n (mem_own q)) fun q => n (own_sub q))
      rintro rfl; exact nono hC e
theorem mut_here {C : Cfg} {ρ : List Addr} {mh : MH} {h h' : Heap} {a : Addr} (co : Co C ρ mh h) : VRel C h' (ρ ++ [a]) (.mut mh.length) (.ref a) :=
  .mut (by rw [← co.m.len]; exact List.getElem?_concat_length)
theorem newMut {xs : List Value} {vs : List V} {R : Value → Shared → Prop} (fx : Fx F loc ρ mh s.heap) (r : VAll F.C s.heap ρ vs xs) (hc : pureVs vs ∧ vs.length ≤ lim)
    (k : ∀ h' a, (∀ b o, s.heap.get? b = some o → h'.get? b = some o) → s.heap.get? a = none → Fx F loc (ρ ++ [a]) (mh ++ [vs]) h' → VRel F.C h' (ρ ++ [a]) (.mut mh.length) (.ref a) → R (.ref a) { s with heap := h' }) : WP F.C F.A (newList xs) R s := by
  have up : ∀ b o, s.heap.get? b = some o → (s.heap.push { cls := .type "list", data := .seq xs.toArray }).get? b = some o := fun b o e => Heap.get?_push_of_some _ e
  refine wpAny_newObj_type ?_ (by show xs.toArray.size ≤ sizeLine; rw [List.size_toArray, ← r.length]; exact lim_le hc.2)
  exact k _ _ up (Heap.get?_none_of_le (Nat.le_refl _)) (fx.add (a := s.heap.objs.size) (h' := s.heap.push { cls := .type "list", data := .seq xs.toArray }) (n := 0) up (Heap.get?_none_of_le (Nat.le_refl _)) (Heap.get?_push_size _ rfl) r hc.1) (mut_here fx.cx.co)
theorem okS_assignMut {x : Nat} {es : List ME} : OkS (.assignMut x es) := by
  intro F loc ρ mh s Q st' fx hm he
  obtain ⟨x', px, es', lp, pos, rfl, hx, hk, hm⟩ := mutM_inv hm
  refine wpAny_Assign_Name (List_ (((okEs F.X F.Γ es fx.cx he).1 hm).goL fun xs h₁ tk₁ v₁ m₁ q₁ k₁ co₁ r₁ => ?_))
  refine newMut (s := { s with heap := h₁, toks := tk₁ }) (fx.step k₁ co₁) r₁ q₁.1 fun h₂ a up hn f₂ ra => ?_
  refine Fx.store (s := { s with heap := h₂, toks := tk₁ }) f₂ (hx) (kind_or hk) ra fun h₃ tk₃ f₃ _ ko => ?_
  exact ⟨h₃, tk₃, [a], _, _, _, rfl, q₁.2, fun b o e n => ko b o (up b o (k₁ b o e fun q => n (mem_own q))) fun q => n (own_sub q), fun b hb => mem_one hb ▸ none_keep co₁ k₁ hn, f₃, rfl⟩
end
end Mine
end
section
open PySem PySem.Calls PySem.W PyProof.Rows PySem.SeqAt
set_option maxRecDepth 100000
set_option linter.unusedVariables false
namespace Mine
noncomputable def TPost (F : FC) (loc : Loc) (ρ : List Addr) (s : Shared) (Q : List V → MH → Prop) (xs : List Value) (s' : Shared) : Prop :=
  ∃ h' tk δ vs mh', s' = { s with heap := h', toks := tk } ∧ Q vs mh' ∧ Keep ρ s.heap h' ∧ (∀ a ∈ δ, s.heap.get? a = none) ∧ Fx F loc (ρ ++ δ) mh' h' ∧ VAll F.C h' (ρ ++ δ) vs xs
theorem TPost.front {F : FC} {loc : Loc} {ρ : List Addr} {s s' : Shared} {δ₁ : List Addr} {h₁ : Heap} {tk₁ : Nat} {Q : List V → MH → Prop} {v : V} {x : Value} {xs : List Value} (k₁ : Keep ρ s.heap h₁) (f : ∀ b, h₁.get? b = none → s.heap.get? b = none) (n₁ : ∀ a ∈ δ₁, s.heap.get? a = none)
    (r : VRel F.C h₁ (ρ ++ δ₁) v x) (p : TPost F loc (ρ ++ δ₁) { s with heap := h₁, toks := tk₁ } (fun vs m => Q (v :: vs) m) xs s') : TPost F loc ρ s Q (x :: xs) s' := by
  obtain ⟨h₂, tk₂, δ, vs, m, rfl, q, k₂, n₂, f₂, r₂⟩ := p
  have n₂ : ∀ a ∈ δ, h₁.get? a = none := n₂
  have r' := (r.more fun b hb o e => nono (n₂ b hb) e).keep ((k₂.mono fun b q => List.mem_append.mpr (.inl q)).d)
  have := VAll.cons r' r₂
  rw [List.append_assoc] at f₂ this
  exact ⟨h₂, tk₂, δ₁ ++ δ, _, _, rfl, q, fun a o e n => k₂ a o (k₁ a o e n) fun q => (List.mem_append.mp q).elim n fun q => nono (n₁ a q) e, fun b hb => (List.mem_append.mp hb).elim (n₁ b) fun q => f b (n₂ b q), f₂, this⟩
theorem okT {F : FC} {loc : Loc} : ∀ (fl : List Bool) (es : List ME) {ρ : List Addr} {mh : MH} {s : Shared} {Q : List V → MH → Prop} {es' : List Expr} {pos : Pos},
    Fx F loc ρ mh s.heap → mtEs F.X F.sc es es' = true → wpT F.Γ fl es loc mh Q → WP F.C F.A (spliced (backTo pos (starEach es' F.env))) (TPost F loc ρ s Q) s
  | [], es, ρ, mh, s, Q, es', pos, fx, hm, he => by
    obtain ⟨rfl, q⟩ := he
    cases List.isEmpty_iff.mp hm
    exact args_nil ⟨s.heap, s.toks, [], _, _, rfl, q, .refl, (fun _ q => nomatch q), (List.append_nil ρ).symm ▸ fx, .nil⟩
  | b :: fl, [], ρ, mh, s, Q, es', pos, fx, hm, he => he.elim
  | b :: fl, e :: es, ρ, mh, s, Q, es', pos, fx, hm, he => by
    obtain ⟨e', r', rfl, h1, h2, h3⟩ := mtEs_inv hm
    clear hm
    cases b with
    | false =>
      refine args_cons ((okE F.X F.Γ e fx.cx h2 he).go fun x h₁ tk₁ v₁ m₁ q₁ k₁ co₁ r₁ => ?_) (starEach_cons h1)
      exact (okT fl es (s := { s with heap := h₁, toks := tk₁ }) (fx.step k₁ co₁) h3 q₁).mono fun _ _ p => TPost.front (δ₁ := []) k₁ (fun b hb => none_keep co₁ k₁ hb) (fun _ q => nomatch q) ((List.append_nil ρ).symm ▸ r₁) ((List.append_nil ρ).symm ▸ p)
    | true =>
      cases e with
      | list es2 =>
        obtain ⟨⟨⟨es3, p3⟩, rfl⟩, hm3⟩ := optB_inv h2
        refine args_cons (List_ (((okEs F.X F.Γ es2 fx.cx he).1 hm3).goL fun xs h₁ tk₁ v₁ m₁ q₁ k₁ co₁ r₁ => ?_)) (starEach_cons h1)
        refine newMut (s := { s with heap := h₁, toks := tk₁ }) (fx.step k₁ co₁) r₁ q₁.1 fun h₂ a up hn f₂ ra => ?_
        have fr : ∀ b, h₁.get? b = none → s.heap.get? b = none := fun b hb => none_keep co₁ k₁ hb
        exact (okT fl es (s := { s with heap := h₂, toks := tk₁ }) f₂ h3 q₁.2).mono fun _ _ p => TPost.front (fun b o e n => up b o (k₁ b o e n)) (fun b hb => fr b (by cases e : h₁.get? b with | none => rfl | some o => exact (nono hb (up b o e)).elim)) (fun b hb => mem_one hb ▸ fr a hn) ra p
      | _ => exact he.elim
noncomputable def Setr (C : Cfg) (A : Around) (env : Env) (st : Value → Sem Unit) (n : Str) : Prop := ∀ (w : Value) (Q : Unit → Shared → Prop) (s : Shared), WP C A (storeName env n w) Q s → WP C A (st w) Q s
noncomputable def Tg (F : FC) : List Nat → List Str → List (Value → Sem Unit) → Prop
  | [], xs, sts => xs = [] ∧ sts = []
  | i :: is, xs, sts => ∃ x xs' st sts', xs = x :: xs' ∧ sts = st :: sts' ∧ F.X.vars[i]? = some x ∧ (F.sc.lookup x = some .local ∨ F.sc.lookup x = some .cell) ∧ Setr F.C F.A F.env st x ∧ Tg F is xs' sts'
noncomputable def namesT (ts : List Expr) : List Str := ts.filterMap fun | .Name id _ => some id | _ => none
section
variable {F : FC} {loc : Loc} {ρ : List Addr} {mh : MH} {s : Shared}
theorem Tg.app : ∀ {is : List Nat} {xs : List Str} {sts : List (Value → Sem Unit)} {js : List Nat} {ys : List Str} {tts : List (Value → Sem Unit)}, Tg F is xs sts → Tg F js ys tts → Tg F (is ++ js) (xs ++ ys) (sts ++ tts)
  | [], _, _, _, _, _, ⟨a, b⟩, h => a ▸ b ▸ h
  | i :: is, _, _, _, _, _, ⟨x, xs', st, sts', e1, e2, h1, h2, h3, h4⟩, h => ⟨x, _, st, _, congrArg (· ++ _) e1, congrArg (· ++ _) e2, h1, h2, h3, Tg.app h4 h⟩
theorem Tg.rev : ∀ {is : List Nat} {xs : List Str} {sts : List (Value → Sem Unit)}, Tg F is xs sts → Tg F is.reverse xs.reverse sts.reverse
  | [], _, _, ⟨a, b⟩ => a ▸ b ▸ ⟨rfl, rfl⟩
  | i :: is, _, _, ⟨x, xs', st, sts', e1, e2, h1, h2, h3, h4⟩ => by
    rw [e1, e2, List.reverse_cons, List.reverse_cons, List.reverse_cons]
    exact (Tg.rev h4).app ⟨x, [], st, [], rfl, rfl, h1, h2, h3, rfl, rfl⟩
theorem Tg.len : ∀ {is : List Nat} {xs : List Str} {sts : List (Value → Sem Unit)}, Tg F is xs sts → is.length = sts.length ∧ xs.length = is.length
  | [], _, _, ⟨a, b⟩ => a ▸ b ▸ ⟨rfl, rfl⟩
  | i :: is, _, _, ⟨x, xs', st, sts', e1, e2, h1, h2, h3, h4⟩ => e1 ▸ e2 ▸ ⟨congrArg (· + 1) (Tg.len h4).1, congrArg (· + 1) (Tg.len h4).2⟩
theorem varsM_tg : ∀ {is : List Nat} {ts : List Expr}, varsM F.X F.sc is ts = true → Tg F is (namesT ts) ((assignEach ts F.env).map (·.2)) ∧ Tg F is (namesT ts) ((namesT ts).map fun n => bindName F.env n) ∧ (assignEach ts F.env).length = is.length ∧ (assignEach ts F.env).findIdx? (·.1) = none ∧ ts.length = is.length
  | [], ts, h => by cases List.isEmpty_iff.mp h; exact ⟨⟨rfl, rfl⟩, ⟨rfl, rfl⟩, rfl, rfl, rfl⟩
  | i :: is, ts, h => by
    obtain ⟨x, px, ts', rfl, hx, hk, h3⟩ := varsM_inv h
    obtain ⟨a, b, c, d, e⟩ := varsM_tg h3
    refine ⟨⟨x, _, _, _, rfl, rfl, hx, kind_or hk, fun w Q s h => wpAny_assign_Name h, a⟩, ⟨x, _, _, _, rfl, rfl, hx, kind_or hk, fun w Q s h => wpAny_bindName h, b⟩, congrArg (· + 1) c, ?_, congrArg (· + 1) e⟩
    show ((false, assign (.Name x px) F.env) :: assignEach ts' F.env).findIdx? (·.1) = none
    rw [List.findIdx?_cons, d]
    rfl
noncomputable def NPost (F : FC) (loc : Loc) (ρ : List Addr) (mh : MH) (s : Shared) (_ : Unit) (s' : Shared) : Prop := ∃ h' tk, s' = { s with heap := h', toks := tk } ∧ Keep (own F []) s.heap h' ∧ Fx F loc ρ mh h'
theorem stores : ∀ {is : List Nat} {xs : List Str} {sts : List (Value → Sem Unit)}, Tg F is xs sts → ∀ {vs : List V} {ws : List Value} {loc : Loc} {s : Shared}, Fx F loc ρ mh s.heap → VAll F.C s.heap ρ vs ws → vs.length = is.length →
    WP F.C F.A (assignInOrder sts ws) (NPost F (setAll loc is vs) ρ mh s) s
  | [], _, _, ⟨_, e2⟩, [], ws, loc, s, fx, r, hl => by
    cases e2; cases r
    exact wpAny_pure ⟨s.heap, s.toks, rfl, .refl, fx⟩
  | [], _, _, _, _ :: _, _, _, _, _, _, hl => nomatch hl
  | i :: is, _, _, _, [], _, _, _, _, _, hl => nomatch hl
  | i :: is, _, _, ⟨x, xs', st, sts', _, e2, h1, h2, h3, tg⟩, v :: vs, ws, loc, s, fx, r, hl => by
    obtain ⟨w, ws', rfl, r1, r2⟩ := r
    rw [e2, assignInOrder]
    refine wpAny_bind (wpAny_holding (h3 _ _ _ (fx.store h1 h2 r1 fun h' tk f' kd ko => ?_)))
    refine (stores tg (s := { s with heap := h', toks := tk }) f' (r2.keep kd) (Nat.succ.inj hl)).mono ?_
    rintro _ s' ⟨h₂, tk₂, rfl, k₂, f₂⟩
    exact ⟨h₂, tk₂, rfl, ko.trans k₂, f₂⟩
theorem setAll_app : ∀ {is : List Nat} {vs : List V} {loc : Loc} {i : Nat} {v : V}, is.length = vs.length → setAll loc (is ++ [i]) (vs ++ [v]) = (setAll loc is vs).set i (some v)
  | [], [], _, _, _, _ => rfl
  | [], _ :: _, _, _, _, h => nomatch h
  | _ :: _, [], _, _, _, h => nomatch h
  | j :: is, u :: vs, loc, i, v, h => setAll_app (loc := loc.set j (some u)) (Nat.succ.inj h)
theorem setAll_set : ∀ {is : List Nat} {vs : List V} {loc : Loc} {i : Nat} {v : V}, i ∉ is → setAll (loc.set i (some v)) is vs = (setAll loc is vs).set i (some v)
  | [], vs, loc, i, v, _ => rfl
  | _ :: _, [], loc, i, v, _ => rfl
  | j :: is, u :: vs, loc, i, v, h => by
    show setAll ((loc.set i (some v)).set j (some u)) is vs = (setAll (loc.set j (some u)) is vs).set i (some v)
    rw [List.set_comm _ _ (by rintro rfl; exact h (.head _))]
    exact setAll_set fun q => h (.tail _ q)
theorem setAll_rev : ∀ {is : List Nat} {vs : List V} {loc : Loc}, is.Nodup → is.length = vs.length → setAll loc is.reverse vs.reverse = setAll loc is vs
  | [], [], _, _, _ => rfl
  | [], _ :: _, _, _, h => nomatch h
  | _ :: _, [], _, _, h => nomatch h
  | j :: is, u :: vs, loc, nd, h => by
    obtain ⟨n1, n2⟩ := List.nodup_cons.mp nd
    have hl : is.length = vs.length := Nat.succ.inj h
    rw [List.reverse_cons, List.reverse_cons, setAll_app (by rw [List.length_reverse, List.length_reverse, hl]), setAll_rev n2 hl]
    exact (setAll_set n1).symm
theorem names_full {f : Expr → Option Str} : ∀ {ts : List Expr}, (∀ t x, f t = some x → ∃ p, t = .Name x p) → (ts.filterMap f).length = ts.length → ts.filterMap f = namesT ts
  | [], _, _ => rfl
  | t :: ts, hf, h => by
    cases e : f t with
    | none =>
      rw [List.filterMap_cons_none e] at h
      exact absurd (Nat.lt_of_lt_of_eq (Nat.lt_succ_self _) h.symm) (Nat.not_lt.mpr (List.length_filterMap_le f ts))
    | some x =>
      obtain ⟨p, rfl⟩ := hf t x e
      rw [List.filterMap_cons_some e] at h ⊢
      rw [names_full hf (ts := ts) (Nat.succ.inj h)]; rfl
theorem swapped_cases {env : Env} {ts es' : List Expr} {k1 k2 : Nat} {p1 p2 : Pos} (hc : es'.all (constantsAlone 8) = false ∨ es'.all (foldedForSure 8) = true) :
    swappedStores [.Tuple ts k1 p1] (.Tuple es' k2 p2) env = pure none ∨ swappedStores [.Tuple ts k1 p1] (.Tuple es' k2 p2) env = pure (some (namesT ts)) := by
  unfold swappedStores
  dsimp only
  split
  · exact .inl rfl
  split
  · exact .inl rfl
  split
  · exact .inl rfl
  · rename_i hn
    split
    · exact .inl rfl
    · rename_i h1
      split
      · rename_i h2
        rcases hc with hc | hc
        · rw [hc] at h2; cases h2
        · exact absurd hc h1
      · right
        rw [Bool.not_eq_true, Bool.or_eq_false_iff] at hn
        have hn := hn.1
        rw [bne_eq_false_iff_eq] at hn
        rw [names_full (fun t x e => by cases t <;> first | exact ⟨_, by cases (Option.ite_none_right_eq_some.mp e).2; rfl⟩ | exact nomatch e) hn]
theorem okS_assignTup {xs : List Nat} {fl : List Bool} {es : List ME} : OkS (.assignTup xs fl es) := by
  intro F loc ρ mh s Q st' fx hm he
  obtain ⟨ts, k1, p1, es', k2, p2, pos, rfl, hv, ⟨nd, h100⟩, hm, hc⟩ := tupM_inv hm
  have hc : es'.all (constantsAlone 8) = false ∨ es'.all (foldedForSure 8) = true := ((Bool.or_eq_true _ _).mp hc).imp bnot id
  obtain ⟨tg1, tg2, hn1, hn2, hn3⟩ := varsM_tg hv
  have tup : ∀ {R : Value → Shared → Prop}, (∀ t h' tk δ ws vs m1, vs.length = xs.length → Q .next (setAll loc xs vs) m1 → Keep ρ s.heap h' → (∀ a ∈ δ, s.heap.get? a = none) → Fx F loc (ρ ++ δ) m1 h' → VAll F.C h' (ρ ++ δ) vs ws → h'.IsTuple t ws.toArray → R (.ref t) { s with heap := h', toks := tk }) → WP F.C F.A (eval (.Tuple es' k2 p2) F.env) R s := by
    intro R hq
    refine Tuple_ ((okT fl es fx hm he).mono ?_)
    rintro ws s' ⟨h₁, tk₁, δ, vs, m1, rfl, ⟨hl, q⟩, k₁, n₁, f₁, r₁⟩
    refine wpAny_newObj_type ?_ ?_
    · have up : ∀ b o, h₁.get? b = some o → (h₁.push { cls := .type "tuple", data := .seq ws.toArray }).get? b = some o := fun b o e => Heap.get?_push_of_some _ e
      exact hq _ _ tk₁ δ ws vs m1 hl q (k₁.trans (.of_all up)) n₁ (f₁.step (.of_all up) (f₁.cx.co.keepAll up)) (r₁.keep (Keep.of_all up).d) ⟨_, Heap.get?_push_size _ rfl, rfl, 0, rfl⟩
    · show ws.toArray.size ≤ sizeLine
      rw [List.size_toArray, ← r₁.length, hl]
      exact lim_le (Nat.le_trans h100 (by decide))
  have fin : ∀ {h' : Heap} {tk : Nat} {δ : List Addr} {ws : List Value} {h₂ : Heap} {sts : Sem Unit} {loc₂ : Loc} {m1 : MH} {vs : List V}, Q .next loc₂ m1 → Keep ρ s.heap h' → (∀ a ∈ δ, s.heap.get? a = none) → Fx F loc (ρ ++ δ) m1 h' → Heap.ExtBut h'.objs.size h' h₂ → VAll F.C h' (ρ ++ δ) vs ws →
      (∀ {s' : Shared}, Fx F loc (ρ ++ δ) m1 s'.heap → VAll F.C s'.heap (ρ ++ δ) vs ws → WP F.C F.A sts (NPost F loc₂ (ρ ++ δ) m1 s') s') →
      WP F.C F.A sts (fun _ s' => SPost F ρ s Q .next s') { s with heap := h₂, toks := tk } := by
    intro h' tk δ ws h₂ sts loc₂ m1 vs q k₁ n₁ f₁ ext r hst
    have up : ∀ b o, h'.get? b = some o → h₂.get? b = some o := fun b o e => ext b o (Nat.ne_of_lt (Heap.lt_size e)) e
    refine (hst (s' := { s with heap := h₂, toks := tk }) (f₁.step (.of_all up) (f₁.cx.co.keepAll up)) (r.keep (Keep.of_all up).d)).mono ?_
    rintro _ s'' ⟨h₃, tk₃, rfl, k₃, f₃⟩
    exact ⟨h₃, tk₃, δ, _, _, _, rfl, q, fun a o e n => k₃ a o (up a o (k₁ a o e fun q => n (mem_own q))) fun q => n (own_sub q), n₁, f₃, rfl⟩
  rcases swapped_cases (env := F.env) (ts := ts) (es' := es') (k1 := k1) (k2 := k2) (p1 := p1) (p2 := p2) hc with hw | hw
  · refine Assign_Tuple (tup fun t h' tk δ ws vs m1 hl q k₁ n₁ f₁ r ht => ?_) rfl hw
    refine wpAny_assign_Tuple fx.cx.rm.hh ht (by rw [hn1, List.size_toArray, ← r.length, hl]) hn2 fun h₂ ext => ?_
    rw [List.toList_toArray]
    exact fin q k₁ n₁ f₁ ext r (fun f r => stores tg1 f r hl)
  · refine Assign_Tuple_swapped (names := namesT ts) (tup fun t h' tk δ ws vs m1 hl q k₁ n₁ f₁ r ht => ?_) rfl hw
    rw [show (namesT ts).length = ws.toArray.size by rw [tg2.len.2, List.size_toArray, ← r.length, hl]]
    refine wpAny_unpackItems_tuple fx.cx.rm.hh ht fun h₂ ext => ?_
    rw [List.toList_toArray]
    have tgr := tg2.rev
    rw [← List.map_reverse] at tgr
    rw [← setAll_rev nd hl.symm] at q
    exact fin q k₁ n₁ f₁ ext r (fun f r => stores tgr f r.reverse (by rw [List.length_reverse, List.length_reverse, hl]))
theorem swapsSole {e' : Expr} {ts : List Expr} {k1 : Nat} {p1 : Pos} {l : Nat} {env : Env} : swapsWithSole [.Tuple ts k1 p1] e' l env = pure false := by
  cases e' <;> rfl
theorem swapNone {e' : Expr} {ts : List Expr} {k1 : Nat} {p1 : Pos} {env : Env} (h : isTup e' = false) : swappedStores [.Tuple ts k1 p1] e' env = pure none := by
  cases e' <;> first | rfl | exact Bool.noConfusion h
theorem unpacked {is : List Nat} {xs : List Str} {sts : List (Value → Sem Unit)} {vs : List V} {ws : List Value} {h₂ : Heap}
    (fx : Fx F loc ρ mh s.heap) (tg : Tg F is xs sts) (r : VAll F.C s.heap ρ vs ws) (hl : vs.length = is.length) (ext : Heap.ExtBut s.heap.objs.size s.heap h₂) :
    WP F.C F.A (assignInOrder sts ws) (NPost F (setAll loc is vs) ρ mh s) { s with heap := h₂ } := by
  have up : ∀ b o, s.heap.get? b = some o → h₂.get? b = some o := fun b o e => ext b o (Nat.ne_of_lt (Heap.lt_size e)) e
  refine (stores tg (s := { s with heap := h₂ }) (fx.step (.of_all up) (fx.cx.co.keepAll up)) (r.keep (Keep.of_all up).d) hl).mono ?_
  rintro _ s' ⟨h₃, tk₃, rfl, k₃, f₃⟩
  exact ⟨h₃, tk₃, rfl, (Keep.of_all up).trans k₃, f₃⟩
theorem okS_unpack {xs : List Nat} {e : ME} : OkS (.unpack xs e) := by
  intro F loc ρ mh s Q st' fx hm he
  obtain ⟨ts, k1, p1, e', pos, rfl, hv, nd, ht, hm⟩ := unpM_inv hm
  obtain ⟨tg1, tg2, hn1, hn2, hn3⟩ := varsM_tg hv
  refine Assign_Tuple ((okE F.X F.Γ e fx.cx hm he).go fun w h₁ tk₁ v₁ m₁ q₁ k₁ co₁ r₁ => ?_) swapsSole (swapNone ht)
  obtain ⟨vs, rfl, hl, q⟩ := tupW_inv q₁
  obtain ⟨t, ws, rfl, ht, hnn, r⟩ := r₁
  refine wpAny_assign_Tuple fx.cx.rm.hh ht (by rw [hn1, List.size_toArray, ← r.length, hl]) hn2 fun h₂ ext => ?_
  rw [List.toList_toArray]
  refine (unpacked (s := { s with heap := h₁, toks := tk₁ }) (fx.step k₁ co₁) tg1 r hl ext).mono ?_
  rintro _ s' ⟨h₃, tk₃, rfl, k₃, f₃⟩
  exact SPost.same q (k₁.own.trans k₃.own0) f₃
end
end Mine
end
section
open PySem PySem.Calls PySem.W PyProof.Rows PySem.SeqAt
set_option maxRecDepth 100000
set_option linter.unusedVariables false
namespace Mine
theorem items_notMut {v : V} {mh mh' : MH} (h : notMut v) : iterItems mh v = iterItems mh' v := by
  cases v <;> first | rfl | exact h.elim
section
variable {F : FC} {loc : Loc} {ρ : List Addr} {mh : MH} {s : Shared} {Q : Fl → Loc → MH → Prop}
structure LI (F : FC) (ρ : List Addr) (s : Shared) (J : Nat → Loc → MH → Prop) (a : V) (I : Addr) (i : Nat) (loc : Loc) (mh : MH) (δ : List Addr) (h : Heap) : Prop where
  keep : Keep (own F ρ) s.heap h
  new : ∀ a ∈ δ, s.heap.get? a = none
  not : I ∉ δ
  fx : Fx F loc (ρ ++ δ) mh h
  it : ItSt F.C (ρ ++ δ) h a I i
  rest : J i loc mh
theorem for_core {e : ME} {target e' : Expr} {b' : List Stmt} {pos : Pos} {g : V → Loc → MH → (Fl → Loc → MH → Prop) → Prop}
    (fx : Fx F loc ρ mh s.heap) (hset : isSet e' = false) (hm : mtE F.X F.sc e e' = true) (he : wpE F.Γ e loc mh fun v m => notMut v ∧ ∃ vs, iterItems m v = some vs ∧ forW g Q vs loc m)
    (turn : ∀ {a vs m1 u loc₁ ρ₁ mh₁ w I i R} {s₁ : Shared}, notMut a → iterItems m1 a = some vs → g u loc₁ mh₁ R → u ∈ vs → Fx F loc₁ ρ₁ mh₁ s₁.heap → VRel F.C s₁.heap ρ₁ u w → ItSt F.C ρ₁ s₁.heap a I i →
      WP F.C F.A (letOwnedTupleGo target (.ref I) w) (fun _ s' => WP F.C F.A (assign target F.env w) (fun _ s'' => WP F.C F.A (execs b' F.env) (SPost F ρ₁ s₁ R) s'') s') s₁) :
    WP F.C F.A (exec (.For target e' b' [] pos) F.env) (SPost F ρ s Q) s := by
  refine wpAny_For ((okE F.X F.Γ e fx.cx hm he).go fun xv h₁ tk₁ a m1 q₁ k₁ co₁ r₁ => ?_) (fun x => by cases e' <;> first | rfl | exact Bool.noConfusion hset)
  obtain ⟨hnm, vs, ei, J, hJ0, hJ, hJe⟩ := q₁
  refine WP.mono (iter_start ei co₁ r₁ (s := { s with heap := h₁, toks := tk₁ })) ?_
  rintro itv s₂ ⟨h₂, rfl, rfl, up, st⟩
  dsimp only at up st ⊢
  have f₁ := fx.step k₁ co₁
  have hI₁ : h₁.get? h₁.objs.size = none := Heap.get?_none_of_le (Nat.le_refl _)
  generalize h₁.objs.size = I at hI₁ st ⊢
  have hI₀ := f₁.none_of hI₁
  have hIo := f₁.fresh_own hI₁
  have hIs : s.heap.get? I = none := none_keep co₁ k₁ hI₁
  have f₂ := f₁.step (.of_all up) (f₁.cx.co.keepAll up)
  rw [← List.append_nil ρ] at f₂ st
  clear f₁
  refine codeAny_forLoop_any (fun n s' => ∃ h tk δ i loc₁ mh₁, s' = { s with heap := h, toks := tk } ∧ i ≤ vs.length ∧ n = vs.length + 1 - i ∧ LI F ρ s J a I i loc₁ mh₁ δ h) ?_ (vs.length + 1)
    ⟨h₂, tk₁, [], 0, loc, m1, rfl, Nat.zero_le _, rfl, (k₁.trans (.of_all up)).own, (fun _ q => nomatch q), (fun q => nomatch q), f₂, st, hJ0⟩
  rintro n s' ⟨h, tk, δ, i, loc₁, mh₁, rfl, hi, rfl, li⟩
  have hIo' : I ∉ own F (ρ ++ δ) := fun q => (own_app q).elim hIo li.not
  have nI : ∀ o, h.get? I = some o → ¬ isD o := fun o e => by obtain ⟨o', h1, h2⟩ := li.it.obj; cases h1.symm.trans e; exact h2
  by_cases hlt : i < vs.length
  · have hu : vs[i]? = some vs[i] := List.getElem?_eq_getElem hlt
    have humem : vs[i] ∈ vs := List.getElem_mem hlt
    generalize vs[i] = u at hu humem
    have hrest := hJ i u _ _ hu li.rest
    refine wp_e (WP.mono (iter_next (s := { s with heap := h, toks := tk }) (A := F.A) ((items_notMut hnm).trans ei) hu li.fx.cx.co li.it) ?_)
    rintro r s₁ ⟨w, ha, tka, rfl, rfl, hsa, sta, rw⟩
    have fa := li.fx.chgI (b := I) (fun a o e ne => (hsa.2 a ne).trans e) hI₀ nI (Fx.own_nil hIo')
    have ka : Keep (own F ρ) s.heap ha := fun a o e n => (hsa.2 a (by rintro rfl; exact nono hIs e)).trans (li.keep a o e n)
    refine wp_e ((turn (s₁ := { s with heap := ha, toks := tka }) hnm ei hrest humem fa rw sta).mono fun _ s₂ h2 => wp_e (h2.mono fun _ s₃ h3 => wp_e (h3.mono ?_)))
    rintro f s₄ ⟨hb, tkb, δb, fl, l3, m3, rfl, q3, kb, nb, fb, frb⟩
    have nn := li.new
    have nb' := fresh_trans ka nn fa nb
    have kb' := keep_trans ka nn kb
    cases fl with
    | next =>
      cases frb
      obtain ⟨oI, hoI, _⟩ := sta.obj
      have kd : KeepD ((ρ ++ δ) ++ δb) ha hb := fun a o e d n => kb a o e fun q => (List.mem_append.mp q).elim (fun q => fa.own_d (List.mem_append.mpr (.inl q)) e d) fun q => n (List.mem_append.mpr (.inl q))
      have stb := (sta.more fun b hb' o e => nono (nb b hb') e).keep (fun o e => kb I o e hIo') kd
      rw [List.append_assoc] at fb stb
      exact ⟨vs.length - i, Nat.sub_lt_sub_right (Nat.le_of_lt hlt) (Nat.lt_succ_self _), hb, tkb, δ ++ δb, i + 1, l3, m3, rfl, hlt, (Nat.add_sub_add_right vs.length 1 i).symm, kb', nb', fun q => (List.mem_append.mp q).elim li.not fun q => nono (nb I q) hoI, fb, stb, q3⟩
    | ret v =>
      obtain ⟨x, rfl, r⟩ := frb
      rw [List.append_assoc] at fb r
      exact ⟨hb, tkb, δ ++ δb, _, _, _, rfl, q3, kb', nb', fb, x, rfl, r⟩
  · obtain rfl : i = vs.length := Nat.le_antisymm hi (Nat.le_of_not_lt hlt)
    refine wp_e (WP.mono (iter_end (s := { s with heap := h, toks := tk }) (A := F.A) ((items_notMut hnm).trans ei) li.fx.cx.co fx.cx.rm.hh li.it) ?_)
    rintro r s₁ ⟨ha, rfl, rfl, hsa⟩
    have hrest := hJe _ _ li.rest
    have fa := li.fx.chgI (b := I) (fun a o e ne => hsa a o ne e) hI₀ nI (Fx.own_nil hIo')
    exact wpAny_execs_nil ⟨ha, tk, δ, _, _, _, rfl, hrest, fun a o e n => hsa a o (by rintro rfl; exact nono hIs e) (li.keep a o e n), li.new, fa, rfl⟩
theorem okS_for {x : Nat} {e : ME} {b : List MS} (B : OkSs b) : OkS (.for x e b) := by
  intro F loc ρ mh s Q st' fx hm he
  obtain ⟨x', px, e', b', pos, rfl, hx, hk, hset, hm, hb⟩ := forM_inv hm
  refine for_core fx hset hm he ?_
  intro a vs m1 u loc₁ ρ₁ mh₁ w I i R s₁ _ _ eg _ f r _
  exact wpAny_pure (wpAny_assign_Name (f.store hx (kind_or hk) r fun h' tk f' kd ko => WP.backS (tk₁ := tk) ko.own0 f' (B (s := { s₁ with heap := h', toks := tk }) f' hb eg)))
theorem okS_forU {xs : List Nat} {e : ME} {b : List MS} (B : OkSs b) : OkS (.forU xs e b) := by
  intro F loc ρ mh s Q st' fx hm he
  obtain ⟨ts, k1, p1, e', b', pos, rfl, hv, nd, hset, hm, hb⟩ := forUM_inv hm
  refine for_core fx hset hm he ?_
  intro a vs m1 u loc₁ ρ₁ mh₁ w I i R s₁ hnm ei eg hu f r st
  obtain ⟨tg1, tg2, hn1, hn2, hn3⟩ := varsM_tg hv
  obtain ⟨us, rfl, hlen, q⟩ := listW_inv eg
  obtain ⟨l, ws, rfl, hl, hnn, r⟩ := r
  have hit : ∃ ax, s₁.heap.IsListIter I ax i := by
    cases a with
    | list vs' => obtain ⟨ax, q, _⟩ := st; exact ⟨ax, q⟩
    | rng x y z =>
      obtain ⟨_, rfl⟩ := rng_items ei
      obtain ⟨_, _, e⟩ := List.mem_map.mp hu
      cases e
    | bytes l =>
      cases ei
      obtain ⟨_, _, e⟩ := List.mem_map.mp hu
      cases e
    | str l =>
      obtain ⟨_, rfl⟩ := str_items ei
      obtain ⟨_, _, e⟩ := List.mem_map.mp hu
      cases e
    | «mut» j => exact hnm.elim
    | _ => exact st.elim
  obtain ⟨ax, hit⟩ := hit
  refine wpAny_letOwnedTupleGo_listiter hit ?_
  rw [arm_assign_Tuple]
  refine wpAny_bind (wpAny_standAt ?_)
  unfold unpack
  have hn4 : (assignEach ts F.env).length = ws.toArray.size := by rw [hn1, List.size_toArray, ← r.length, hlen]
  rw [hn2, hn4]
  refine wpAny_bind (wpAny_holding (kun_itemsOf f.cx.rm.hh hl fun h₂ ext => ?_))
  rw [List.toList_toArray]
  refine (unpacked f tg1 r hlen ext).mono ?_
  rintro _ s' ⟨h₃, tk₃, rfl, k₃, f₃⟩
  exact WP.backS (tk₁ := tk₃) k₃.own0 f₃ (B (s := { s₁ with heap := h₃, toks := tk₃ }) f₃ hb q)
end
theorem ref_step {F : FC} {loc : Loc} {ρ : List Addr} {mh : MH} {s : Shared} {a : List ME} {c1 : Expr} (fx : Fx F loc ρ mh s.heap) (hm : mtE F.X F.sc (.call (.glob 8) a [] []) c1 = true) {K : MH → Prop} (he : wpEs F.Γ a loc mh fun vs m => 0 = 0 ∧ 8 = 8 ∧ F.Γ 999 (.mut m.length :: vs) [] m fun _ m => K m)
    {R : Bool → Shared → Prop} (k : ∀ h₁ tk₁ m, K m → Fx F loc ρ m h₁ → Keep (own F ρ) s.heap h₁ → R true { s with heap := h₁, toks := tk₁ }) : WP F.C F.A (isTrue c1 F.env (eval c1 F.env)) R s := by
  have hp : plainTest c1 = true := by obtain ⟨⟨⟨_, _, _, _⟩, rfl⟩, _⟩ := optB_inv hm; rfl
  refine isTrue_plain ?_ (isTrue_plainTest hp)
  refine call_core okE_glob (okEs F.X F.Γ a) (okEs F.X F.Γ []) fx.cx hm (P := fun g q kws m => g = 8 ∧ F.Γ 999 (.mut m.length :: q) kws m fun _ m => K m) he ?_
  rintro g q kws m h tk xs kxs ⟨rfl, p⟩ k₁ co r hk _
  obtain ⟨rfl, htop, hK, ref⟩ := fx.cx.tab.ref _ _ _ _ p
  cases List.map_eq_nil_iff.mp hk.symm
  have f₁ := fx.step k₁ co
  have hE : FrE F.C h F.env := ⟨(by rw [fx.cx.ho.kind]; exact fun e => (nomatch e)), fx.st.frm, f₁.ns, fx.base_none fx.st.loc₀, fx.xi_not fx.st.loc₀⟩
  refine (ref F.C.ξ F.A { s with heap := h, toks := tk } ρ xs F.env fx.cx.rm co r (fx.st.top htop) hE).mono ?_
  rintro _ _ ⟨rfl, h', tk', rfl, q1, q2, co'⟩
  exact wpAny_truthy_bool (k h' tk' m hK (f₁.refr q1 q2 co') fun a o e n => q1 a o (k₁ a o e fun q => n (mem_own q)) (fun q => n (mem_own q)) (by rintro rfl; exact n Fx.own_loc))
theorem okS_refused {a b : List ME} : OkS (.refused a b) := by
  intro F loc ρ mh s Q st' fx hm he
  obtain ⟨x1, p1, x2, p2, bp, t, pos, rfl, h1, h2⟩ := refM_inv hm
  refine wpAny_If (isTrue_or (isTrue_not (ref_step fx h1 he fun h₁ tk₁ m₁ he₁ f₁ k₁ => ?_)))
  refine isTrue_or (isTrue_not (ref_step (s := { s with heap := h₁, toks := tk₁ }) f₁ h2 he₁ fun h₂ tk₂ m₂ he₂ f₂ k₂ => ?_))
  exact isTrue_or_nil (wpAny_execs_nil (SPost.same he₂ (k₁.trans k₂) f₂))
mutual
theorem okS : ∀ st : MS, OkS st
  | .assign x e => okS_assign
  | .assignMut x es => okS_assignMut
  | .assignTup xs fl es => okS_assignTup
  | .unpack xs e => okS_unpack
  | .expr e => okS_expr
  | .ite c t e => okS_ite (okSs t) (okSs e)
  | .while c b => okS_while (okSs b)
  | .for x e b => okS_for (okSs b)
  | .forU xs e b => okS_forU (okSs b)
  | .ret e => okS_ret
  | .raise => okS_raise
  | .refused a b => okS_refused
  | .tryR e => fun _ _ he => he.elim
theorem okSs : ∀ ss : List MS, OkSs ss
  | [] => okSs_nil
  | s :: ss => okSs_cons (okS s) (okSs ss)
end
end Mine
end
section
open PySem PySem.Calls PySem.W PyProof.Rows PySem.SeqAt
set_option maxRecDepth 100000
set_option linter.unusedVariables false
namespace Mine
structure FnDef where
  vars : List Str
  np : Nat
  bis : Bool
  body : List MS
noncomputable def keyOf (kws : List (Str × V)) : Option V := match kws with
  | [] => some .none
  | p :: r => (match r with
    | [] => (match p.1 == ("key" : Str) with | true => some p.2 | false => none)
    | _ :: _ => none)
noncomputable def dfl (n : Nat) : List V := ([.int 0, .none] : List V).drop (n - 2)
noncomputable def bindF (d : FnDef) (vs : List V) (kws : List (Str × V)) : Option (List V) := match d.bis with
  | true => (match decide (2 ≤ vs.length ∧ vs.length ≤ 4) with | true => (keyOf kws).map fun k => vs ++ (dfl vs.length ++ [k]) | false => none)
  | false => (match kws.isEmpty && vs.length == d.np with | true => some vs | false => none)
noncomputable def entry (d : FnDef) (us : List V) : Loc := us.map some ++ List.replicate (d.vars.length - us.length) none
noncomputable def frz (n : Nat) (mh : MH) (i : Nat) : V := match decide (i < n) with
  | true => .mut i
  | false => .list ((mh[i]?).getD [])
noncomputable def outW (n : Nat) (Q : V → MH → Prop) : Fl → Loc → MH → Prop
  | .next, _, m => Q .none (m.take n)
  | .ret v, _, m => Q (sub (frz n m) v) (m.take n)
noncomputable def callW (F : List FnDef) (Γ : Tab) (f : Nat) (vs : List V) (kws : List (Str × V)) (mh : MH) (Q : V → MH → Prop) : Prop :=
  ∃ d us, F[f]? = some d ∧ bindF d vs kws = some us ∧ wpSs Γ d.body (entry d us) mh (outW mh.length Q)
noncomputable abbrev Ov := Nat → Tab
noncomputable def runF (F : List FnDef) (ov : Ov) : Nat → Tab
  | 0 => fun _ _ _ _ _ => False
  | n + 1 => fun f vs kws mh Q => ov n f vs kws mh Q ∨ callW F (runF F ov n) f vs kws mh Q
noncomputable def nov : Ov := fun _ _ _ _ _ _ => False
noncomputable def fnChk (fns : List Str) (d : FnDef) (fd : FuncData) (body : List Stmt) (n : Nat) : Bool :=
  !fd.scope.isCoroutine && !fd.scope.isGenerator && fd.closure.isEmpty && fd.globals == mainGlobals && fd.builtins == builtinsNs && fd.scope.kind == .function &&
  fd.scope.names.all (fun p => p.2 != .free) && decide (((cellsFrom 0 fd.scope.names []).map (·.1)).Nodup) && mtSs ⟨d.vars, fns⟩ fd.scope.names d.body body && decide d.vars.Nodup && decide (n ≤ d.vars.length) &&
  (d.vars.take n).all (isLoc fd.scope.names)
noncomputable def Binds (C : Cfg) (d : FnDef) (fd : FuncData) (n : Nat) : Prop :=
  ∀ (ξ : List Addr) (ρ : List Addr) (s : Shared) (vs : List V) (kws : List (Str × V)) (xs : List Value) (kxs : List (Str × Value)) (us : List V), (∀ a o, C.hb.get? a = some o → s.heap.get? a = some o) → bindF d vs kws = some us →
    VAll { C with ξ := ξ } s.heap ρ vs xs → kws.map (·.1) = kxs.map (·.1) → VAll { C with ξ := ξ } s.heap ρ (kws.map (·.2)) (kxs.map (·.2)) →
    us.length = n ∧ ∃ ws, VAll { C with ξ := ξ } s.heap ρ us ws ∧ BindsTo s fd ⟨xs, kxs⟩ ((d.vars.take n).zip ws)
noncomputable def FnRec (C : Cfg) (fns : List Str) (f : Nat) (d : FnDef) : Prop :=
  ∃ (o : Obj) (fd : FuncData) (body : List Stmt) (n : Nat), C.hb.get? (C.fa f) = some o ∧ o.data = .func fd ∧ fd.body = .stmts body ∧ C.hb.CodeRec fd.code fd.qualname ∧ fnChk fns d fd body n = true ∧ Binds C d fd n
section
variable {C : Cfg} {h : Heap} {ρ δ : List Addr} {mh : MH}
theorem Co.less (co : Co C (ρ ++ δ) mh h) : Co C ρ (mh.take ρ.length) h := by
  refine ⟨co.up, fun a ha => co.new a (List.mem_append.mpr (.inl ha)), ⟨?_, ?_, fun i a vs e1 e2 => ?_⟩, fun vs hv => co.pure vs (List.mem_of_mem_take hv), co.live, fun a ha => ⟨fun q => (co.apart a ha).1 (List.mem_append.mpr (.inl q)), (co.apart a ha).2⟩⟩
  · rw [List.length_take, ← co.m.len, List.length_append, Nat.min_eq_left (Nat.le_add_right ..)]
  · exact (List.nodup_append.mp co.m.nodup).1
  · have hi : i < ρ.length := (List.getElem?_eq_some_iff.mp e1).1
    rw [List.getElem?_take_of_lt hi] at e2
    obtain ⟨xs, n, g, r⟩ := co.m.at' i a vs (app_more e1) e2
    exact ⟨xs, n, g, r.less (co.pure vs (List.mem_of_getElem? e2))⟩
theorem VRel.froz {v : V} {x : Value} (co : Co C (ρ ++ δ) mh h) (r : VRel C h (ρ ++ δ) v x) : VRel C h ρ (Mine.sub (frz ρ.length mh) v) x := by
  refine r.sub (P := False) (fun a o e _ n => ⟨e, less_not n⟩) (fun i a e => .inl ?_) rfl rfl v x False.elim
  unfold frz
  by_cases hi : i < ρ.length
  · rw [decide_eq_true hi]
    rw [List.getElem?_append_left hi] at e
    exact .mut e
  · rw [decide_eq_false hi]
    have hl : i < mh.length := by rw [← co.m.len]; exact (List.getElem?_eq_some_iff.mp e).1
    obtain ⟨xs, n, g, r⟩ := co.m.at' i a mh[i] e (List.getElem?_eq_getElem hl)
    show VRel C h ρ (.list ((mh[i]?).getD [])) _
    rw [List.getElem?_eq_getElem hl]
    rw [List.getElem?_append_right (Nat.le_of_not_lt hi)] at e
    have hd : a ∈ δ := List.mem_of_getElem? e
    exact .list ⟨_, g, rfl, n, rfl⟩ (fun q => (List.mem_append.mp q).elim (fun q => (List.nodup_append.mp co.m.nodup).2.2 a q a hd rfl) fun q => (co.apart a q).1 (List.mem_append.mpr (.inr hd))) (r.less (co.pure _ (List.getElem_mem hl)))
end
/-! binding the parameters -/
theorem bindL_other {kf : Str → Option NameKind} : ∀ {bs : List (Str × Value)} {m : Str → Option Value} {x : Str}, x ∉ bs.map (·.1) → bindL kf bs m x = m x
  | [], _, _, _ => rfl
  | (n, v) :: r, m, x, h => by
    unfold bindL
    rw [bindL_other fun q => h (.tail _ q)]
    split
    · exact if_neg fun q : x = n => h (by rw [q]; exact .head _)
    · rfl
theorem bindC_other {kf : Str → Option NameKind} : ∀ {bs : List (Str × Value)} {m : Str → Option Value} {x : Str}, x ∉ bs.map (·.1) → bindC kf bs m x = m x
  | [], _, _, _ => rfl
  | (n, v) :: r, m, x, h => by
    unfold bindC
    rw [bindC_other fun q => h (.tail _ q)]
    split
    · rfl
    · exact if_neg fun q : x = n => h (by rw [q]; exact .head _)
theorem bindL_at {kf : Str → Option NameKind} : ∀ {bs : List (Str × Value)} {m : Str → Option Value} {x : Str} {w : Value}, (bs.map (·.1)).Nodup → (x, w) ∈ bs → kf x = some .local → bindL kf bs m x = some w
  | (n, v) :: r, m, x, w, nd, hm, hk => by
    obtain ⟨n1, n2⟩ := List.nodup_cons.mp nd
    unfold bindL
    rcases List.mem_cons.mp hm with e | hm
    · cases e
      rw [bindL_other n1, if_pos hk]
      exact if_pos rfl
    · exact bindL_at n2 hm hk
theorem bindC_at {kf : Str → Option NameKind} : ∀ {bs : List (Str × Value)} {m : Str → Option Value} {x : Str} {w : Value}, (bs.map (·.1)).Nodup → (x, w) ∈ bs → kf x = some .cell → bindC kf bs m x = some w
  | (n, v) :: r, m, x, w, nd, hm, hk => by
    obtain ⟨n1, n2⟩ := List.nodup_cons.mp nd
    unfold bindC
    rcases List.mem_cons.mp hm with e | hm
    · cases e
      rw [bindC_other n1, if_neg (by rw [hk]; decide)]
      exact if_pos rfl
    · exact bindC_at n2 hm hk
theorem lookup_nodup {α : Type} : ∀ {l : List (Str × α)} {x : Str} {c : α}, (l.map (·.1)).Nodup → (x, c) ∈ l → l.lookup x = some c
  | (y, d) :: r, x, c, nd, h => by
    obtain ⟨a, b⟩ := List.nodup_cons.mp nd
    rw [List.lookup_cons]
    rcases List.mem_cons.mp h with e | h
    · cases e; rw [beq_self_eq_true]
    · rw [beq_eq_false_iff_ne.mpr fun q : x = y => a (q ▸ List.mem_map.mpr ⟨_, h, rfl⟩)]
      exact lookup_nodup b h
theorem zip_mem {C : Cfg} {h : Heap} {ρ : List Addr} : ∀ {us : List V} {ws : List Value} {vars : List Str} {i : Nat} {v : V}, VAll C h ρ us ws → us.length ≤ vars.length → us[i]? = some v → ∃ x w, vars[i]? = some x ∧ (x, w) ∈ (vars.take us.length).zip ws ∧ VRel C h ρ v w
  | [], _, _, _, _, _, _, e => nomatch e
  | _ :: _, _, [], _, _, _, hl, _ => nomatch hl
  | u :: us, _, x :: vars, 0, v, ⟨w, ws, e1, r, _⟩, _, e => by cases e; cases e1; exact ⟨x, w, rfl, .head _, r⟩
  | u :: us, _, x :: vars, i + 1, v, ⟨w, ws, e1, _, r⟩, hl, e => by
    cases e1
    obtain ⟨y, w, h1, h2, h3⟩ := zip_mem r (vars := vars) (i := i) (Nat.le_of_succ_le_succ hl) e
    exact ⟨y, w, h1, .tail _ h2, h3⟩
theorem entry_get {d : FnDef} {us : List V} {i : Nat} {v : V} (e : (entry d us)[i]? = some (some v)) : us[i]? = some v := by
  unfold entry at e
  by_cases hi : i < us.length
  · rw [List.getElem?_append_left (by rw [List.length_map]; exact hi), List.getElem?_map] at e
    obtain ⟨u, e1, e2⟩ := Option.map_eq_some_iff.mp e
    cases e2; exact e1
  · rw [List.getElem?_append_right (by rw [List.length_map]; exact Nat.le_of_not_lt hi)] at e
    cases List.eq_of_mem_replicate (List.mem_of_getElem? e)
noncomputable def RetP (Q : Value → Shared → Prop) (r : Result) (s' : Shared) : Prop :=
  match r with
  | .ok f => (match f with | .ret v => Q v s' | _ => False)
  | .error _ => False
theorem fnEnter {C : Cfg} {fns : List Str} {Γ : Tab} {n : Nat} (K : CfgOk C fns) (tab : TabOk C Γ n) {ξ : List Addr} {f : Nat} {vs : List V} {kws : List (Str × V)} {mh : MH} {A : Around} {s : Shared} {ρ : List Addr} {xs : List Value} {kxs : List (Str × Value)} {d : FnDef} {us : List V}
    (hF : FnRec C fns f d) (hus : bindF d vs kws = some us) (rm : Rm (n + 1) A) (co : Co { C with ξ := ξ } ρ mh s.heap) (r : VAll { C with ξ := ξ } s.heap ρ vs xs) (hk : kws.map (·.1) = kxs.map (·.1)) (rk : VAll { C with ξ := ξ } s.heap ρ (kws.map (·.2)) (kxs.map (·.2)))
    {R : Result → Shared → Prop} (go : ∀ sc body env h' tk', mtSs ⟨d.vars, fns⟩ sc d.body body = true → (∀ b o, s.heap.get? b = some o → h'.get? b = some o) → Fx ⟨{ C with ξ := ξ }, ⟨d.vars, fns⟩, Γ, n, A.deeper env, env, sc, s.heap, ρ⟩ (entry d us) ρ mh h' →
      codeAny (model C.prog C.w) A (.func body env) R { s with heap := h', toks := tk' }) :
    codeAny (model C.prog C.w) A (.call (.ref (C.fa f)) ⟨xs, kxs⟩) R s := by
  obtain ⟨o, fd, body, j, ho, hod, hbody, hcode, hc, hbind⟩ := hF
  obtain ⟨hn, ws, rw, hb⟩ := hbind ξ ρ s vs kws xs kxs us co.up hus r hk rk
  cases hn
  obtain ⟨hc, hnm⟩ := band hc
  obtain ⟨hc, hlen⟩ := band hc
  obtain ⟨hc, hnd⟩ := band hc
  obtain ⟨hc, hmt⟩ := band hc
  obtain ⟨hc, hkeys⟩ := band hc
  obtain ⟨hc, hnofree⟩ := band hc
  obtain ⟨hc, hkind⟩ := band hc
  obtain ⟨hc, hbl⟩ := band hc
  obtain ⟨hc, hgl⟩ := band hc
  obtain ⟨hc, hcl⟩ := band hc
  obtain ⟨hco, hgen⟩ := band hc
  have hkind : fd.scope.kind = .function := eq_of_beq hkind
  have hlen : us.length ≤ d.vars.length := of_decide_eq_true hlen
  have hnd : d.vars.Nodup := of_decide_eq_true hnd
  have hnm : ∀ x ∈ d.vars.take us.length, fd.scope.names.lookup x = some .local ∨ fd.scope.names.lookup x = some .cell := fun x hx => kind_or (List.all_eq_true.mp hnm x hx)
  have hnofree : ∀ x, fd.scope.names.lookup x ≠ some .free := fun x hx => by cases List.all_eq_true.mp hnofree _ (mem_of_lookupK hx)
  refine codeAny_call_function (Nat.lt_of_le_of_lt (Nat.le_add_right ..) rm.depth) (co.up _ _ ho) hod (bnot hco) (bnot hgen) hbody (hcode.keeps co.up) (hb _ _ _ _ ?_)
  rw [List.isEmpty_iff.mp hcl]
  have hks : ((d.vars.take us.length).zip ws).map (·.1) = d.vars.take us.length := List.map_fst_zip (by rw [List.length_take, ← rw.length]; exact Nat.min_le_left ..)
  have cellS : ∀ {x} (m : Nat), fd.scope.names.lookup x = some .cell → ((cellsFrom m fd.scope.names []).lookup x).isSome = true := fun m q => cellsFrom_some _ _ _ (.inl q)
  refine wpAny_newFunctionEnv_cells hkind (fun x hx => (hnm x.1 (hks ▸ List.mem_map.mpr ⟨x, hx, rfl⟩)).imp id fun q => ⟨q, cellS _ q⟩) fun env henv s' ic => ?_
  obtain ⟨h', tk', rfl⟩ := ic.toInCall.same
  have up : ∀ b o, s.heap.get? b = some o → h'.get? b = some o := ic.toInCall.keep
  have hL : env.locals = s.heap.objs.size := by rw [henv]; rfl
  have hcells : env.cells = cellsFrom (s.heap.objs.size + 1) fd.scope.names [] := by rw [henv]; rfl
  have hkf : ∀ x, env.kindOf x = fd.scope.names.lookup x := fun x => by rw [henv]; rfl
  have hknd : (env.cells.map (·.1)).Nodup := by rw [hcells, cellsFrom_names fd.scope.names _ 0 [] [] rfl]; exact of_decide_eq_true hkeys
  have hnd' : (((d.vars.take us.length).zip ws).map (·.1)).Nodup := by rw [hks]; exact hnd.sublist (List.take_sublist ..)
  have eo : EnvOk env fd.scope.names := ⟨by rw [henv]; exact hkind, by rw [henv]; exact eq_of_beq hgl, by rw [henv]; exact eq_of_beq hbl, fun x k hx hk => (hkf x).trans hx, fun x hx => absurd hx (hnofree x), fun x hx => Option.isSome_iff_exists.mp (hcells ▸ cellS _ (hx.resolve_right (hnofree x)))⟩
  have fr : FrR { C with ξ := ξ } ⟨d.vars, fns⟩ env (entry d us) ρ h' := fun i v e => by
    obtain ⟨x, w, h1, h2, h3⟩ := zip_mem rw hlen (entry_get e)
    refine ⟨x, w, h1, (hnm x (hks ▸ List.mem_map.mpr ⟨_, h2, rfl⟩)).imp (fun q => ⟨(hkf x).trans q, _, ic.toInCall.ns, bindL_at hnd' h2 ((hkf x).trans q)⟩) fun q => ?_, h3.keep (Keep.of_all up).d⟩
    obtain ⟨c, hc⟩ := eo.cells x (.inl q)
    exact ⟨(hkf x).trans q, c, hc, bindC_at hnd' h2 ((hkf x).trans q) ▸ ic.cell x c hc⟩
  refine ⟨K.nolimit.keeps fun b o e => up b o (co.up b o e), go fd.scope.names body env h' tk' hmt up ?_⟩
  exact ⟨⟨K.ext, eo, rm.deeper, tab.ext, co.keepAll up, fr⟩, .of_all up, ⟨[], (List.append_nil ρ).symm, fun _ q => nomatch q⟩, ⟨_, ic.toInCall.ns⟩, fun x c hc => ⟨_, ic.cell x c (lookup_nodup hknd hc)⟩,
    { base := co.up, xi := co.live, loc₀ := Heap.get?_none_of_le (Nat.le_of_eq hL.symm), cell₀ := fun x c hc => Heap.get?_none_of_le (hL ▸ Nat.le_of_lt (ic.above x c hc)), inj := ic.apart, names := hnd
      , top := fun e => Around.frames_deeper (rm.fr (Nat.le_of_eq e.symm)), frm := by rw [henv]; rfl
    }⟩
theorem fnCode {C : Cfg} {F : List FnDef} {fns : List Str} {Γ : Tab} {n : Nat} (K : CfgOk C fns) (hF : ∀ f d, F[f]? = some d → FnRec C fns f d) (tab : TabOk C Γ n)
    {ξ : List Addr} {f : Nat} {vs : List V} {kws : List (Str × V)} {mh : MH} {Q : V → MH → Prop} {A : Around} {s : Shared} {ρ : List Addr} {xs : List Value} {kxs : List (Str × Value)} (h : callW F Γ f vs kws mh Q)
    (rm : Rm (n + 1) A) (co : Co { C with ξ := ξ } ρ mh s.heap) (r : VAll { C with ξ := ξ } s.heap ρ vs xs) (hk : kws.map (·.1) = kxs.map (·.1)) (rk : VAll { C with ξ := ξ } s.heap ρ (kws.map (·.2)) (kxs.map (·.2))) :
    codeAny (model C.prog C.w) A (.call (.ref (C.fa f)) ⟨xs, kxs⟩) (RetP (PostQ { C with ξ := ξ } ρ s Q)) s := by
  obtain ⟨d, us, hd, hus, hex⟩ := h
  refine fnEnter K tab (hF f d hd) hus rm co r hk rk fun sc body env h' tk' hmt up fx => ?_
  refine codeAny_func (wp_e ((okSs d.body (s := { s with heap := h', toks := tk' }) fx hmt hex).mono ?_))
  rintro f s'' ⟨h₂, tk₂, δ, fl, l, m, rfl, q, k₂, n₂, f₂, fr⟩
  have hρ : mh.length = ρ.length := co.m.len.symm
  have fin : ∀ {v : V} {x : Value}, Q v (m.take mh.length) → VRel { C with ξ := ξ } h₂ ρ v x → PostQ { C with ξ := ξ } ρ s Q x { s with heap := h₂, toks := tk₂ } := fun q r => ⟨h₂, tk₂, _, _, rfl, q, f₂.keep, hρ ▸ f₂.cx.co.less, r⟩
  cases fl with
  | next => cases fr; exact fin q .none
  | ret v => obtain ⟨x, rfl, r⟩ := fr; exact fin q (hρ ▸ r.froz f₂.cx.co)
theorem tabOk {C : Cfg} {F : List FnDef} {fns : List Str} {ov : Ov} (K : CfgOk C fns) (hF : ∀ f d, F[f]? = some d → FnRec C fns f d) (hov : ∀ k, TabOk C (ov k) (k + 1)) (hl : F[999]? = none) : ∀ n, TabOk C (runF F ov n) n
  | 0 =>
    { sound := fun ξ f vs kws mh Q h => h.elim
      , ref := fun vs kws mh Q h => h.elim
    }
  | n + 1 =>
    { sound := fun ξ f vs kws mh Q h A s ρ xs kxs rm co r hk rk => by
        rcases h with h | h
        · exact (hov n).sound ξ f vs kws mh Q h A s ρ xs kxs rm co r hk rk
        · refine wpAny_call (codeAny_mono (fnCode K hF (tabOk K hF hov hl n) h rm co r hk rk) fun r s' q => ?_)
          cases r with
          | error e => exact q.elim
          | ok f => cases f <;> first | exact q | exact q.elim
      , ref := fun vs kws mh Q h => h.elim ((hov n).ref vs kws mh Q) fun ⟨_, _, h, _⟩ => nomatch hl.symm.trans h
    }
theorem nov_ok {C : Cfg} (k : Nat) : TabOk C (nov k) (k + 1) :=
  { sound := fun ξ f vs kws mh Q h => h.elim
    , ref := fun vs kws mh Q h => h.elim
  }
/-! the parts of a function's record -/
noncomputable def AllN : Nat → (List Value → Prop) → Prop
  | 0, P => P []
  | n + 1, P => ∀ x, AllN n fun l => P (x :: l)
theorem allN : ∀ {n : Nat} {P : List Value → Prop}, AllN n P → ∀ xs : List Value, xs.length = n → P xs
  | 0, _, h, [], _ => h
  | n + 1, _, h, x :: xs, e => allN (h x) xs (Nat.succ.inj e)
theorem bind_plain {C : Cfg} {d : FnDef} {fd : FuncData} (hbis : d.bis = false) (hb : ∀ s : Shared, AllN d.np fun xs => BindsTo s fd ⟨xs, []⟩ ((d.vars.take d.np).zip xs)) : Binds C d fd d.np := by
  intro ξ ρ s vs kws xs kxs us up hus r hk rk
  unfold bindF at hus
  rw [hbis] at hus
  cases e : kws.isEmpty && vs.length == d.np with
  | false => rw [e] at hus; cases hus
  | true =>
    rw [e] at hus
    cases hus
    obtain ⟨e1, e2⟩ := band e
    cases List.isEmpty_iff.mp e1
    cases List.map_eq_nil_iff.mp hk.symm
    exact ⟨eq_of_beq e2, xs, r, allN (hb s) xs (r.length ▸ eq_of_beq e2)⟩
structure BisB (fd : FuncData) (ns : List Str) (t0 : Tok) (s : Shared) : Prop where
  b20 : ∀ a x, BindsTo s fd ⟨[a, x], []⟩ (ns.zip [a, x, .int 0 t0, .none, .none])
  b30 : ∀ a x lo, BindsTo s fd ⟨[a, x, lo], []⟩ (ns.zip [a, x, lo, .none, .none])
  b40 : ∀ a x lo hi, BindsTo s fd ⟨[a, x, lo, hi], []⟩ (ns.zip [a, x, lo, hi, .none])
  b21 : ∀ a x k, BindsTo s fd ⟨[a, x], [(("key" : Str), k)]⟩ (ns.zip [a, x, .int 0 t0, .none, k])
  b31 : ∀ a x lo k, BindsTo s fd ⟨[a, x, lo], [(("key" : Str), k)]⟩ (ns.zip [a, x, lo, .none, k])
  b41 : ∀ a x lo hi k, BindsTo s fd ⟨[a, x, lo, hi], [(("key" : Str), k)]⟩ (ns.zip [a, x, lo, hi, k])
noncomputable def dflV (t0 : Tok) (n : Nat) : List Value := [Value.int 0 t0, .none].drop (n - 2)
theorem BisB.any {fd : FuncData} {ns : List Str} {t0 : Tok} {s : Shared} (B : BisB fd ns t0 s) : ∀ xs : List Value, 2 ≤ xs.length → xs.length ≤ 4 → BindsTo s fd ⟨xs, []⟩ (ns.zip (xs ++ (dflV t0 xs.length ++ [.none]))) ∧ ∀ k, BindsTo s fd ⟨xs, [(("key" : Str), k)]⟩ (ns.zip (xs ++ (dflV t0 xs.length ++ [k])))
  | a :: x :: [], _, _ => ⟨B.b20 a x, B.b21 a x⟩
  | a :: x :: lo :: [], _, _ => ⟨B.b30 a x lo, B.b31 a x lo⟩
  | a :: x :: lo :: hi :: [], _, _ => ⟨B.b40 a x lo hi, B.b41 a x lo hi⟩
  | _ :: _ :: _ :: _ :: _ :: _, _, h => absurd h (Nat.not_le.mpr (Nat.le_add_left 5 _))
  | [_], h, _ => absurd h (show ¬ 2 ≤ 1 by decide)
  | [], h, _ => absurd h (show ¬ 2 ≤ 0 by decide)
theorem dfl_len {n : Nat} (h1 : 2 ≤ n) (h2 : n ≤ 4) : n + (2 - (n - 2) + 1) = 5 := by omega
theorem bind_bis {C : Cfg} {d : FnDef} {fd : FuncData} {t0 : Tok} (hbis : d.bis = true) (hb : ∀ s : Shared, (∀ a o, C.hb.get? a = some o → s.heap.get? a = some o) → BisB fd (d.vars.take 5) t0 s) : Binds C d fd 5 := by
  intro ξ ρ s vs kws xs kxs us up hus r hk rk
  unfold bindF at hus
  rw [hbis] at hus
  cases e : decide (2 ≤ vs.length ∧ vs.length ≤ 4) with
  | false => rw [e] at hus; cases hus
  | true =>
    rw [e] at hus
    obtain ⟨h1, h2⟩ := of_decide_eq_true e
    obtain ⟨k, ek, e2⟩ := Option.map_eq_some_iff.mp hus
    cases e2
    have B := (hb s up).any xs (r.length ▸ h1) (r.length ▸ h2)
    have rd : VAll { C with ξ := ξ } s.heap ρ (dfl vs.length) (dflV t0 xs.length) := by
      rw [← r.length]
      exact VAll.drop _ (.cons (.int 0 t0) (.cons .none .nil))
    have hl : (vs ++ (dfl vs.length ++ [k])).length = 5 := by
      rw [List.length_append, List.length_append, dfl, List.length_drop]
      exact dfl_len h1 h2
    refine ⟨hl, ?_⟩
    cases kws with
    | nil =>
      cases List.map_eq_nil_iff.mp hk.symm
      cases ek
      exact ⟨_, r.append (rd.append (.cons .none .nil)), B.1⟩
    | cons p kr =>
      cases kr with
      | cons _ _ => cases ek
      | nil =>
        obtain ⟨n, v⟩ := p
        cases hn : n == ("key" : Str) with
        | false => rw [keyOf] at ek; dsimp only at ek; rw [hn] at ek; cases ek
        | true =>
          rw [keyOf] at ek
          dsimp only at ek
          rw [hn] at ek
          cases ek
          cases eq_of_beq hn
          cases kxs with
          | nil => cases hk
          | cons q kr =>
            obtain ⟨n', w⟩ := q
            obtain ⟨e1, e2⟩ := List.cons.inj hk
            cases e1
            cases List.map_eq_nil_iff.mp e2.symm
            obtain ⟨w', _, e3, rk, _⟩ := rk
            cases e3
            exact ⟨_, r.append (rd.append (.cons rk .nil)), B.2 w⟩
theorem fr_plain {K : Frag} {C : Cfg} {fns : List Str} {f : Nat} {a : Addr} {d : FnDef} {o : Obj} {fd : FuncData} {body : List Stmt} (X : K.In C.hb) (hf : C.fa f = a) (ho : K.lookup a = some o) (hod : o.data = .func fd) (hb : fd.body = .stmts body)
    (hcode : codeIn K fd.code fd.qualname = true) (hbis : d.bis = false) (hc : fnChk fns d fd body d.np = true)
    (hbind : ∀ s : Shared, AllN d.np fun xs => BindsTo s fd ⟨xs, []⟩ ((d.vars.take d.np).zip xs)) : FnRec C fns f d :=
  ⟨o, fd, body, _, hf ▸ X _ _ ho, hod, hb, codeRec_of X hcode, hc, bind_plain hbis hbind⟩
theorem fr_bis {K : Frag} {C : Cfg} {fns : List Str} {f : Nat} {a : Addr} {d : FnDef} {o : Obj} {fd : FuncData} {body : List Stmt} {t0 : Tok} (X : K.In C.hb) (hf : C.fa f = a) (ho : K.lookup a = some o) (hod : o.data = .func fd) (hb : fd.body = .stmts body)
    (hcode : codeIn K fd.code fd.qualname = true) (hbis : d.bis = true) (hc : fnChk fns d fd body 5 = true)
    (hbind : ∀ s : Shared, K.In s.heap → BisB fd (d.vars.take 5) t0 s) : FnRec C fns f d :=
  ⟨o, fd, body, _, hf ▸ X _ _ ho, hod, hb, codeRec_of X hcode, hc, bind_bis hbis fun s k => hbind s fun a o e => k _ _ (X a o e)⟩
noncomputable def FnRecs (C : Cfg) (fns : List Str) : Nat → List FnDef → Prop
  | _, [] => True
  | i, d :: r => FnRec C fns i d ∧ FnRecs C fns (i + 1) r
theorem fnRecs {C : Cfg} {fns : List Str} : ∀ {F : List FnDef} {i : Nat}, FnRecs C fns i F → ∀ f d, F[f]? = some d → FnRec C fns (i + f) d
  | [], _, _, _, _, h => nomatch h
  | d :: r, i, h, 0, _, e => by cases e; exact h.1
  | d :: r, i, h, f + 1, d', e => by
    have := fnRecs h.2 f d' e
    rw [Nat.add_assoc, Nat.add_comm 1] at this
    exact this
theorem boot_prim : primList.all (fun q => bootBuiltins q.1 == some q.2.val && !(q.1 == ("__name__" : Str))) = true := by decide +kernel
theorem lookup_mem {α β : Type} [BEq α] [LawfulBEq α] : ∀ {l : List (α × β)} {a : α} {b : β}, l.lookup a = some b → (a, b) ∈ l
  | [], _, _, h => nomatch h
  | (x, y) :: r, a, b, h => by
    rw [List.lookup_cons] at h
    cases e : a == x with
    | true => rw [e] at h; cases h; cases eq_of_beq e; exact .head _
    | false => rw [e] at h; exact .tail _ (lookup_mem h)
noncomputable def cfgChk (es : Array DictEntry) (fns : List Str) (as : List Addr) : Bool :=
  nsFind es "ValueError" == none &&
  (fns.map (nsFind es) == as.map fun a => some (.ref a)) && primList.all (fun q => nsFind es q.1 == none) && nsFind es "isinstance" == none && nsFind es "bytes" == none
theorem cfgOk_of {C : Cfg} {F : List FnDef} {fns : List Str} {as : List Addr} {mg mb : Str → Option Value} {cls : Value} {dd : Option Addr} {es : Array DictEntry} {ep : Nat} {sl : Array (Option Value)}
    (hg : C.hb.Ns mainGlobals mg) (h3 : C.hb.get? mainGlobals = some { cls := cls, dict := dd, data := .dict es ep, slots := sl }) (hc : cfgChk es fns as = true) (ha : ∀ f a, as[f]? = some a → C.fa f = a) (hF : ∀ f d, F[f]? = some d → FnRec C fns f d) (hl : F.length = fns.length)
    (hb : C.hb.Ns builtinsNs mb) (hbb : ∀ x : Str, x ≠ "__name__" → mb x = bootBuiltins x) (hn : C.hb.NoLimit) : CfgOk C fns := by
  have key : ∀ x, mg x = nsFind es x := by
    obtain ⟨o, es', ep', ho, hd, _, hx⟩ := hg
    cases h3.symm.trans ho; cases hd
    exact fun x => (hx x).symm
  obtain ⟨hc, c4⟩ := band hc
  obtain ⟨hc, c3⟩ := band hc
  obtain ⟨c1, c2⟩ := band hc
  obtain ⟨ve, c1⟩ := band c1
  have prim : ∀ {x p}, primOf x = some p → (x, p) ∈ primList := fun h => lookup_mem h
  refine { nolimit := hn, g := ⟨mg, hg, fun f x h => ?_, fun x p h => (key x).trans (eq_of_beq (List.all_eq_true.mp c2 _ (prim h))), (key _).trans (eq_of_beq c3), (key _).trans (eq_of_beq c4)⟩, b := ⟨mb, hb, fun x p h => ?_, ?_, ?_⟩
             , ve := ⟨⟨mg, hg, (key _).trans (eq_of_beq ve)⟩, mb, hb, ?_⟩
    }
  · have e := congrArg (·[f]?) (eq_of_beq c1)
    rw [List.getElem?_map, List.getElem?_map, h] at e
    obtain ⟨a, e1, e2⟩ := Option.map_eq_some_iff.mp e.symm
    have hlt : f < F.length := hl ▸ (List.getElem?_eq_some_iff.mp h).1
    obtain ⟨o, fd, _, _, g, d, _⟩ := hF f F[f] (List.getElem?_eq_getElem hlt)
    exact ⟨(key x).trans (e2.symm.trans (by rw [ha f a e1])), o, fd, g, d⟩
  · obtain ⟨b1, b2⟩ := band (List.all_eq_true.mp boot_prim _ (prim h))
    exact (hbb x (beq_eq_false_iff_ne.mp (bnot b2))).trans (eq_of_beq b1)
  · exact (hbb _ (by decide)).trans (by decide +kernel)
  · exact (hbb _ (by decide)).trans (by decide +kernel)
  · exact (hbb _ (by decide)).trans (by decide +kernel)
theorem post_law (l : OpenLaw) (args : List WData) : l.row.claim.post args (.bool true) args = true := by
  refine postW_of (r := l.row.toRowW) (X := true) ?_ ?_ rfl
  · simp [OpenLaw.row, WShape.has, WShape.arms]
  · simp [OpenLaw.row, WTm.value, PySem.W.same]
theorem goodW_of_post {C : Cfg} {l : OpenLaw} {cl : Str → Option Addr} {mean : ExcName → Option Value} {args : List WData} {s₁ : Shared} {r : Result} {s' : Shared} (hg : s₁.gens = #[])
    (hn : ∀ cls, l.row.claim.raises args cls = false)
    (h : RetP (PostQ C [] s₁ fun v _ => v = .bool true) r s') : GoodW l.row.claim cl mean args s₁ r s' := by
  cases r with
  | error _ => exact h.elim
  | ok f =>
    cases f with
    | ret x =>
      obtain ⟨h', tk, v, m, rfl, rfl, k, co, r⟩ := h
      cases r
      exact ⟨.inl ⟨_, _, _, rfl, hn, .bool true, post_law l args, unshared_nil⟩, k.all, rfl, hg⟩
    | _ => exact h.elim
end Mine
end
section
open PySem PySem.Calls PySem.W PyProof.Rows PySem.SeqAt
set_option maxRecDepth 100000
namespace Mine
noncomputable def s0_0_0 : MS := .assign 2 (.call (.glob 1) [(.var 0), (.var 1), (.var 2), (.var 3)] [] [])
noncomputable def s0_0_1 : MS := .assign 2 (.call (.glob 1) [(.var 0), (.call (.var 4) [(.var 1)] [] []), (.var 2), (.var 3)] ["key"] [(.var 4)])
noncomputable def s0_0_2 : MS := .ite (.cmp .Is (.var 4) (.const .none)) [s0_0_0] [s0_0_1]
noncomputable def s0_0_3 : MS := .expr (.ins (.var 0) (.var 2) (.var 1))
noncomputable def d0_0 : FnDef := { vars := ["a", "x", "lo", "hi", "key"], np := 4, bis := true, body := [s0_0_2, s0_0_3] }
noncomputable def s0_1_0 : MS := .raise
noncomputable def s0_1_1 : MS := .ite (.cmp .Lt (.var 2) (.const (.int 0))) [s0_1_0] []
noncomputable def s0_1_2 : MS := .assign 3 (.prim .len [(.var 0)])
noncomputable def s0_1_3 : MS := .ite (.cmp .Is (.var 3) (.const .none)) [s0_1_2] []
noncomputable def s0_1_4 : MS := .assign 5 (.bin .FloorDiv (.bin .Add (.var 2) (.var 3)) (.const (.int 2)))
noncomputable def s0_1_5 : MS := .assign 3 (.var 5)
noncomputable def s0_1_6 : MS := .assign 2 (.bin .Add (.var 5) (.const (.int 1)))
noncomputable def s0_1_7 : MS := .ite (.cmp .Lt (.var 1) (.item (.var 0) (.var 5))) [s0_1_5] [s0_1_6]
noncomputable def s0_1_8 : MS := .while (.cmp .Lt (.var 2) (.var 3)) [s0_1_4, s0_1_7]
noncomputable def s0_1_9 : MS := .assign 5 (.bin .FloorDiv (.bin .Add (.var 2) (.var 3)) (.const (.int 2)))
noncomputable def s0_1_10 : MS := .assign 3 (.var 5)
noncomputable def s0_1_11 : MS := .assign 2 (.bin .Add (.var 5) (.const (.int 1)))
noncomputable def s0_1_12 : MS := .ite (.cmp .Lt (.var 1) (.call (.var 4) [(.item (.var 0) (.var 5))] [] [])) [s0_1_10] [s0_1_11]
noncomputable def s0_1_13 : MS := .while (.cmp .Lt (.var 2) (.var 3)) [s0_1_9, s0_1_12]
noncomputable def s0_1_14 : MS := .ite (.cmp .Is (.var 4) (.const .none)) [s0_1_8] [s0_1_13]
noncomputable def s0_1_15 : MS := .ret (.var 2)
noncomputable def d0_1 : FnDef := { vars := ["a", "x", "lo", "hi", "key", "mid"], np := 4, bis := true, body := [s0_1_1, s0_1_3, s0_1_14, s0_1_15] }
noncomputable def s0_2_0 : MS := .assign 2 (.call (.glob 3) [(.var 0), (.var 1), (.var 2), (.var 3)] [] [])
noncomputable def s0_2_1 : MS := .assign 2 (.call (.glob 3) [(.var 0), (.call (.var 4) [(.var 1)] [] []), (.var 2), (.var 3)] ["key"] [(.var 4)])
noncomputable def s0_2_2 : MS := .ite (.cmp .Is (.var 4) (.const .none)) [s0_2_0] [s0_2_1]
noncomputable def s0_2_3 : MS := .expr (.ins (.var 0) (.var 2) (.var 1))
noncomputable def d0_2 : FnDef := { vars := ["a", "x", "lo", "hi", "key"], np := 4, bis := true, body := [s0_2_2, s0_2_3] }
noncomputable def s0_3_0 : MS := .raise
noncomputable def s0_3_1 : MS := .ite (.cmp .Lt (.var 2) (.const (.int 0))) [s0_3_0] []
noncomputable def s0_3_2 : MS := .assign 3 (.prim .len [(.var 0)])
noncomputable def s0_3_3 : MS := .ite (.cmp .Is (.var 3) (.const .none)) [s0_3_2] []
noncomputable def s0_3_4 : MS := .assign 5 (.bin .FloorDiv (.bin .Add (.var 2) (.var 3)) (.const (.int 2)))
noncomputable def s0_3_5 : MS := .assign 2 (.bin .Add (.var 5) (.const (.int 1)))
noncomputable def s0_3_6 : MS := .assign 3 (.var 5)
noncomputable def s0_3_7 : MS := .ite (.cmp .Lt (.item (.var 0) (.var 5)) (.var 1)) [s0_3_5] [s0_3_6]
noncomputable def s0_3_8 : MS := .while (.cmp .Lt (.var 2) (.var 3)) [s0_3_4, s0_3_7]
noncomputable def s0_3_9 : MS := .assign 5 (.bin .FloorDiv (.bin .Add (.var 2) (.var 3)) (.const (.int 2)))
noncomputable def s0_3_10 : MS := .assign 2 (.bin .Add (.var 5) (.const (.int 1)))
noncomputable def s0_3_11 : MS := .assign 3 (.var 5)
noncomputable def s0_3_12 : MS := .ite (.cmp .Lt (.call (.var 4) [(.item (.var 0) (.var 5))] [] []) (.var 1)) [s0_3_10] [s0_3_11]
noncomputable def s0_3_13 : MS := .while (.cmp .Lt (.var 2) (.var 3)) [s0_3_9, s0_3_12]
noncomputable def s0_3_14 : MS := .ite (.cmp .Is (.var 4) (.const .none)) [s0_3_8] [s0_3_13]
noncomputable def s0_3_15 : MS := .ret (.var 2)
noncomputable def d0_3 : FnDef := { vars := ["a", "x", "lo", "hi", "key", "mid"], np := 4, bis := true, body := [s0_3_1, s0_3_3, s0_3_14, s0_3_15] }
noncomputable def s0_4_0 : MS := .assign 1 (.const (.bytes []))
noncomputable def s0_4_1 : MS := .assign 2 (.const (.bytes [65, 66, 67, 68, 69, 70, 71, 72, 73, 74, 75, 76, 77, 78, 79, 80]))
noncomputable def s0_4_2 : MS := .assign 0 (.prim .int [(.prim .abs [(.var 0)])])
noncomputable def s0_4_3 : MS := .unpack [0, 3] (.prim .divmod [(.var 0), (.const (.int 16))])
noncomputable def s0_4_4 : MS := .assign 1 (.bin .Add (.slice (.var 2) (.var 3) (.bin .Add (.var 3) (.const (.int 1))) (.const .none)) (.var 1))
noncomputable def s0_4_5 : MS := .while (.tst (.var 0)) [s0_4_3, s0_4_4]
noncomputable def s0_4_6 : MS := .ret (.var 1)
noncomputable def d0_4 : FnDef := { vars := ["num", "val", "AP", "mod"], np := 1, bis := false, body := [s0_4_0, s0_4_1, s0_4_2, s0_4_5, s0_4_6] }
noncomputable def s0_5_0 : MS := .ret (.item (.var 0) (.const (.int 0)))
noncomputable def d0_5 : FnDef := { vars := ["pair"], np := 1, bis := false, body := [s0_5_0] }
end Mine
end
section
namespace Mine
open PySem PySem.Calls PySem.W PyProof.Rows PySem.SeqAt
set_option maxRecDepth 100000
set_option linter.unusedVariables false
section
variable {Γ : Tab} {loc : Loc} {mh : MH} {Q : V → MH → Prop} {QL : List V → MH → Prop} {QB : Bool → MH → Prop} {QS : Fl → Loc → MH → Prop}
theorem wE_const {v : V} : wpE Γ (.const v) loc mh Q = Q v mh := rfl
theorem wE_var {i : Nat} : wpE Γ (.var i) loc mh Q = varW loc[i]? fun v => Q v mh := rfl
theorem wE_glob {f : Nat} : wpE Γ (.glob f) loc mh Q = Q (.fn f) mh := rfl
theorem wE_bin {op : Operator} {l r : ME} : wpE Γ (.bin op l r) loc mh Q = wpE Γ l loc mh fun p m => wpE Γ r loc m fun q m => binW op m p q fun v => Q v m := rfl
theorem wE_neg {e : ME} : wpE Γ (.neg e) loc mh Q = wpE Γ e loc mh fun p m => intW p fun i => Q (.int (-i)) m := rfl
theorem wE_cmp {op : CmpOp} {l r : ME} : wpE Γ (.cmp op l r) loc mh Q = wpE Γ l loc mh fun p m => wpE Γ r loc m fun q m => cmpW op m p q fun b => Q (.bool b) m := rfl
theorem wE_ite {c : MC} {t e : ME} : wpE Γ (.ite c t e) loc mh Q = wpC Γ c loc mh fun b m => match b with
    | true => wpE Γ t loc m Q
    | false => wpE Γ e loc m Q := rfl
theorem wE_list {es : List ME} : wpE Γ (.list es) loc mh Q = wpEs Γ es loc mh fun vs m => vs.length ≤ lim ∧ Q (.list vs) m := rfl
theorem wE_item {o i : ME} : wpE Γ (.item o i) loc mh Q = wpE Γ o loc mh fun p m => wpE Γ i loc m fun q m => itemW m p q fun v => Q v m := rfl
theorem wE_slice {o l u s : ME} : wpE Γ (.slice o l u s) loc mh Q = wpE Γ o loc mh fun p m => wpE Γ l loc m fun a m => wpE Γ u loc m fun b m => wpE Γ s loc m fun c m => partW a fun a => partW b fun b => partW c fun c => sliceW m p a b c fun v => Q v m := rfl
theorem wE_prim {f : Prim} {es : List ME} : wpE Γ (.prim f es) loc mh Q = wpEs Γ es loc mh fun vs m => primW m f vs fun v => Q v m := rfl
theorem wE_app {o e : ME} : wpE Γ (.app o e) loc mh Q = wpE Γ o loc mh fun p m => mutW p fun i => wpE Γ e loc m fun q m => ∃ vs, m[i]? = some vs ∧ (pureV q ∧ vs.length ≤ lim) ∧ Q .none (m.set i (vs ++ [q])) := rfl
theorem wE_ins {o k e : ME} : wpE Γ (.ins o k e) loc mh Q = wpE Γ o loc mh fun p m => mutW p fun i => wpE Γ k loc m fun j m => intW j fun n => wpE Γ e loc m fun q m => ∃ vs, m[i]? = some vs ∧ (pureV q ∧ vs.length ≤ lim ∧ 0 ≤ n ∧ n ≤ vs.length) ∧ Q .none (m.set i (vs.take n.toNat ++ q :: vs.drop n.toNat)) := rfl
theorem wE_call {f : ME} {es : List ME} {ks : List Str} {kes : List ME} : wpE Γ (.call f es ks kes) loc mh Q = wpE Γ f loc mh fun p m => fnW p fun g => wpEs Γ es loc m fun q m => wpEs Γ kes loc m fun r m => r.length = ks.length ∧ Γ g q (ks.zip r) m Q := rfl
theorem wEs_nil : wpEs Γ [] loc mh QL = QL [] mh := rfl
theorem wEs_cons {e : ME} {es : List ME} : wpEs Γ (e :: es) loc mh QL = wpE Γ e loc mh fun v m => wpEs Γ es loc m fun vs m => QL (v :: vs) m := rfl
theorem wC_tst {e : ME} : wpC Γ (.tst e) loc mh QB = wpE Γ e loc mh fun v m => truthW v fun b => QB b m := rfl
theorem wC_not {c : MC} : wpC Γ (.not c) loc mh QB = wpC Γ c loc mh fun b m => QB (!b) m := rfl
theorem wC_bop {op : BoolOp} {cs : List MC} : wpC Γ (.bop op cs) loc mh QB = wpCB Γ op cs loc mh QB := rfl
theorem wC_cmp {op : CmpOp} {l r : ME} : wpC Γ (.cmp op l r) loc mh QB = wpE Γ l loc mh fun p m => wpE Γ r loc m fun q m => cmpW op m p q fun b => QB b m := rfl
theorem wCB_nil {op : BoolOp} : wpCB Γ op [] loc mh QB = QB (stops op false) mh := rfl
theorem wCB_cons {op : BoolOp} {c : MC} {cs : List MC} : wpCB Γ op (c :: cs) loc mh QB = wpC Γ c loc mh fun t m => match stops op t with
    | true => QB t m
    | false => wpCB Γ op cs loc m QB := rfl
theorem st_and {t : Bool} : stops .And t = !t := rfl
theorem st_or {t : Bool} : stops .Or t = t := rfl
theorem sNil (h : QS .next loc mh) : wpSs Γ [] loc mh QS := h
theorem sAssign {x : Nat} {e : ME} {ss : List MS} (h : wpE Γ e loc mh fun v m => wpSs Γ ss (loc.set x (some v)) m QS) : wpSs Γ (.assign x e :: ss) loc mh QS := h
theorem sMut {x : Nat} {es : List ME} {ss : List MS} (h : wpEs Γ es loc mh fun vs m => (pureVs vs ∧ vs.length ≤ lim) ∧ wpSs Γ ss (loc.set x (some (.mut m.length))) (m ++ [vs]) QS) : wpSs Γ (.assignMut x es :: ss) loc mh QS := h
theorem sTup {xs : List Nat} {fl : List Bool} {es : List ME} {ss : List MS} (h : wpT Γ fl es loc mh fun vs m => vs.length = xs.length ∧ wpSs Γ ss (setAll loc xs vs) m QS) : wpSs Γ (.assignTup xs fl es :: ss) loc mh QS := h
theorem sUnpack {xs : List Nat} {e : ME} {ss : List MS} (h : wpE Γ e loc mh fun v m => tupW v fun vs => vs.length = xs.length ∧ wpSs Γ ss (setAll loc xs vs) m QS) : wpSs Γ (.unpack xs e :: ss) loc mh QS := h
theorem sExpr {e : ME} {ss : List MS} (h : wpE Γ e loc mh fun v m => v = .none ∧ wpSs Γ ss loc m QS) : wpSs Γ (.expr e :: ss) loc mh QS := h
theorem sIte {c : MC} {t e ss : List MS} (h : wpC Γ c loc mh fun b m => match b with
    | true => wpSs Γ t loc m (thenW (fun l m => wpSs Γ ss l m QS) QS)
    | false => wpSs Γ e loc m (thenW (fun l m => wpSs Γ ss l m QS) QS)) : wpSs Γ (.ite c t e :: ss) loc mh QS := h
theorem sRet {e : ME} {ss : List MS} (h : wpE Γ e loc mh fun v m => QS (.ret v) loc m) : wpSs Γ (.ret e :: ss) loc mh QS := h
theorem sWhile (I : Nat → Loc → MH → Prop) {c : MC} {b ss : List MS} {k : Nat} (h0 : I k loc mh) (h : ∀ k loc mh, I k loc mh → wpC Γ c loc mh fun t m => match t with
    | true => wpSs Γ b loc m (thenW (fun l m => ∃ j, j < k ∧ I j l m) QS)
    | false => wpSs Γ ss loc m QS) : wpSs Γ (.while c b :: ss) loc mh QS := ⟨I, ⟨k, h0⟩, h⟩
theorem sFor {x : Nat} {e : ME} {b ss : List MS} (h : wpE Γ e loc mh fun v m => notMut v ∧ ∃ vs, iterItems m v = some vs ∧ forW (fun v loc mh R => wpSs Γ b (loc.set x (some v)) mh R) (thenW (fun l m => wpSs Γ ss l m QS) QS) vs loc m) : wpSs Γ (.for x e b :: ss) loc mh QS := h
theorem wNext {K : Loc → MH → Prop} (h : K loc mh) : thenW K QS .next loc mh := h
theorem wRet {K : Loc → MH → Prop} {v : V} (h : QS (.ret v) loc mh) : thenW K QS (.ret v) loc mh := h
theorem forI {g : V → Loc → MH → (Fl → Loc → MH → Prop) → Prop} (I : Nat → Loc → MH → Prop) {vs : List V} (h0 : I 0 loc mh) (h1 : ∀ i v loc mh, vs[i]? = some v → I i loc mh → g v loc mh (thenW (I (i + 1)) QS)) (h2 : ∀ loc mh, I vs.length loc mh → QS .next loc mh) : forW g QS vs loc mh := ⟨I, h0, h1, h2⟩
theorem runF_of {F : List FnDef} {ov : Ov} {n f : Nat} {vs : List V} {kws : List (Str × V)} {d : FnDef} {us : List V} (hd : F[f]? = some d) (hb : bindF d vs kws = some us)
    (h : wpSs (runF F ov n) d.body (entry d us) mh (outW mh.length Q)) : runF F ov (n + 1) f vs kws mh Q := .inr ⟨d, us, hd, hb, h⟩
end
theorem v_some {v : V} {K : V → Prop} : varW (some (some v)) K = K v := rfl
theorem i_int {i : Int} {K : Int → Prop} : intW (.int i) K = K i := rfl
theorem s_str {i : List Nat} {K : List Nat → Prop} : strW (.str i) K = K i := rfl
theorem m_mut {i : Nat} {K : Nat → Prop} : mutW (.mut i) K = K i := rfl
theorem f_fn {i : Nat} {K : Nat → Prop} : fnW (.fn i) K = K i := rfl
theorem tp_tup {l : List V} {K : List V → Prop} : tupW (.tup l) K = K l := rfl
section
variable {mh : MH} {Q : V → Prop} {QB : Bool → Prop} {v : V}
theorem b_add {x : Int} : binW .Add mh (.int x) v Q = intW v fun y => Q (.int (x + y)) := rfl
theorem b_adds {x : List Nat} : binW .Add mh (.str x) v Q = strW v fun y => x.length + y.length ≤ lim ∧ Q (.str (x ++ y)) := rfl
theorem b_addb {x y : List UInt8} : binW .Add mh (.bytes x) (.bytes y) Q = (x.length + y.length ≤ lim ∧ Q (.bytes (x ++ y))) := rfl
theorem b_addl {x : List V} : binW .Add mh (.list x) v Q = itemsW v mh fun y => x.length + y.length ≤ lim ∧ Q (.list (x ++ y)) := rfl
theorem b_sub {x y : Int} : binW .Sub mh (.int x) (.int y) Q = Q (.int (x - y)) := rfl
theorem b_mul {x y : Int} : binW .Mult mh (.int x) (.int y) Q = ((x.natAbs < big ∧ y.natAbs < big) ∧ Q (.int (x * y))) := rfl
theorem b_muls {x : List Nat} {n : Int} : binW .Mult mh (.str x) (.int n) Q = ((0 ≤ n ∧ n ≤ 100 ∧ x.length ≤ 100) ∧ Q (.str (List.replicate n.toNat x).flatten)) := rfl
theorem b_mull {x : List V} {n : Int} : binW .Mult mh (.list x) (.int n) Q = ((0 ≤ n ∧ n ≤ 100 ∧ x.length ≤ 100) ∧ Q (.list (List.replicate n.toNat x).flatten)) := rfl
theorem b_fd {x y : Int} : binW .FloorDiv mh (.int x) (.int y) Q = ((0 < y ∧ y.natAbs < big) ∧ Q (.int (x / y))) := rfl
theorem b_mod {x y : Int} : binW .Mod mh (.int x) (.int y) Q = (0 < y ∧ Q (.int (x % y))) := rfl
theorem b_pow {x y : Int} : binW .Pow mh (.int x) (.int y) Q = ((x.natAbs < 2 ^ 64 ∧ 0 ≤ y ∧ y ≤ 1000) ∧ Q (.int (x ^ y.toNat))) := rfl
theorem c_lt {x y : Int} : cmpW .Lt mh (.int x) (.int y) QB = brW (x < y) QB := rfl
theorem c_lts {x y : List Nat} : cmpW .Lt mh (.str x) (.str y) QB = brW (x < y) QB := rfl
theorem c_ltl {x : List V} : cmpW .Lt mh (.list x) v QB = lexW false mh (.list x) v QB := rfl
theorem c_le {x y : Int} : cmpW .LtE mh (.int x) (.int y) QB = brW (x ≤ y) QB := rfl
theorem c_gt {x y : Int} : cmpW .Gt mh (.int x) (.int y) QB = brW (y < x) QB := rfl
theorem c_is {a b : V} : cmpW .Is mh a b QB = (b = .none ∧ brW (a = .none) QB) := rfl
theorem c_isnot {a b : V} : cmpW .IsNot mh a b QB = (b = .none ∧ brW (¬ a = .none) QB) := rfl
theorem br_iff {P P' : Prop} (e : P' ↔ P) (h : brW P QB) : brW P' QB := ⟨fun p => h.1 (e.mp p), fun p => h.2 fun q => p (e.mpr q)⟩
theorem br_t {P A B : Prop} (p : P) (h : A) : (P → A) ∧ (¬ P → B) := ⟨fun _ => h, fun n => (n p).elim⟩
theorem br_f {P A B : Prop} (p : ¬ P) (h : B) : (P → A) ∧ (¬ P → B) := ⟨fun q => (p q).elim, fun _ => h⟩
theorem br_b {P : Prop} {b : Bool} (p : b = true ↔ P) (h : QB b) : brW P QB := by
  cases b
  · exact br_f (fun q => Bool.noConfusion (p.mpr q)) h
  · exact br_t (p.mp rfl) h
theorem c_eqi {x y : Int} (h : brW (x = y) QB) : cmpW .Eq mh (.int x) (.int y) QB := ⟨.inl ⟨_, rfl⟩, br_iff ⟨V.int.inj, congrArg _⟩ h⟩
theorem c_eqs {x y : List Nat} (h : brW (x = y) QB) : cmpW .Eq mh (.str x) (.str y) QB := ⟨.inl ⟨_, rfl⟩, br_iff ⟨V.str.inj, congrArg _⟩ h⟩
theorem c_nei {x y : Int} (h : brW (¬ x = y) QB) : cmpW .NotEq mh (.int x) (.int y) QB := ⟨.inl ⟨_, rfl⟩, br_iff (not_congr ⟨V.int.inj, congrArg _⟩) h⟩
theorem c_nes {x y : List Nat} (h : brW (¬ x = y) QB) : cmpW .NotEq mh (.str x) (.str y) QB := ⟨.inl ⟨_, rfl⟩, br_iff (not_congr ⟨V.str.inj, congrArg _⟩) h⟩
theorem t_int {i : Int} : truthW (.int i) QB = brW (¬ i = 0) QB := rfl
theorem t_bool {b : Bool} : truthW (.bool b) QB = QB b := rfl
theorem t_none : truthW .none QB = QB false := rfl
theorem p_int {i : Int} {K : Option Int → Prop} : partW (.int i) K = K (some i) := rfl
theorem p_none {K : Option Int → Prop} : partW .none K = K none := rfl
theorem f_abs {i : Int} : primW mh .abs [.int i] Q = Q (.int i.natAbs) := rfl
theorem f_int {i : Int} : primW mh .int [.int i] Q = Q (.int i) := rfl
theorem f_divmod {x y : Int} : primW mh .divmod [.int x, .int y] Q = ((0 < y ∧ y.natAbs < big) ∧ Q (.tup [.int (x / y), .int (x % y)])) := rfl
theorem f_range {n : Int} : primW mh .range [.int n] Q = Q (.rng 0 n 1) := rfl
theorem f_lens {l : List Nat} : primW mh .len [.str l] Q = (l.length ≤ lim ∧ Q (.int l.length)) := rfl
theorem f_len {vs : List V} (h : itemsOf mh v = some vs) (hl : vs.length ≤ lim) (q : Q (.int vs.length)) : primW mh .len [v] Q := by
  cases v with
  | list l => exact ⟨vs, h, hl, q⟩
  | «mut» l => exact ⟨vs, h, hl, q⟩
  | _ => cases h
theorem intsOf_ints : ∀ {ns : List Int}, intsOf (ns.map V.int) = some ns
  | [] => rfl
  | n :: r => congrArg (Option.map (n :: ·)) (intsOf_ints (ns := r))
theorem f_sum {ns : List Int} (q : Q (.int ns.sum)) : primW mh .sum [.list (ns.map .int)] Q := ⟨_, rfl, ns, intsOf_ints, q⟩
theorem i_at {o : V} {vs : List V} {k : Nat} {w : V} (ho : itemsOf mh o = some vs) (hv : vs[k]? = some w) (hl : vs.length ≤ lim) (q : Q w) : itemW mh o (.int k) Q := ⟨vs, ho, hl, w, .inl ⟨Int.natCast_nonneg k, hv⟩, q⟩
theorem sl_bytes {l : List UInt8} {lo hi st : Option Int} : sliceW mh (.bytes l) lo hi st Q = ((st = none ∧ nonNeg lo ∧ nonNeg hi ∧ l.length ≤ lim) ∧ Q (.bytes (cutL l lo hi))) := rfl
theorem sl_str {l : List Nat} {lo hi st : Option Int} : sliceW mh (.str l) lo hi st Q = ((st = none ∧ nonNeg lo ∧ nonNeg hi ∧ l.length ≤ lim) ∧ Q (.str (cutL l lo hi))) := rfl
theorem sl_list {l : List V} {lo hi : Option Int} (hl : l.length ≤ lim) (h1 : nonNeg lo) (h2 : nonNeg hi) (q : Q (.list (cutL l lo hi))) : sliceW mh (.list l) lo hi none Q := ⟨l, rfl, hl, .inl ⟨rfl, h1, h2, q⟩⟩
theorem setAll_nil {l : Loc} {vs : List V} : setAll l [] vs = l := rfl
theorem setAll_cons {l : Loc} {x : Nat} {xs : List Nat} {vs : List V} : setAll l (x :: xs) (v :: vs) = setAll (l.set x (some v)) xs vs := rfl
end
mutual
theorem sub_pure {g : Nat → V} : ∀ {v : V}, pureV v → sub g v = v
  | .list vs, h => congrArg V.list (subs_pure h)
  | .tup vs, h => congrArg V.tup (subs_pure h)
  | .mut _, h => h.elim
  | .none, _ | .bool _, _ | .int _, _ | .str _, _ | .bytes _, _ | .fn _, _ | .rng .., _ => rfl
theorem subs_pure {g : Nat → V} : ∀ {vs : List V}, pureVs vs → subs g vs = vs
  | [], _ => rfl
  | v :: r, h => List.cons_eq_cons.mpr ⟨sub_pure h.1, subs_pure h.2⟩
end
theorem outRet {mh : MH} {Q : V → MH → Prop} {v : V} {l : Loc} (h : pureV v) (q : Q v mh) : outW mh.length Q (.ret v) l mh := by
  show Q (sub (frz mh.length mh) v) (mh.take mh.length)
  rw [sub_pure h, List.take_length]; exact q
noncomputable def dg (n : Nat) : List Nat := if h : n = 0 then [] else dg (n / 16) ++ [n % 16]
termination_by n
decreasing_by omega
theorem dg_zero : dg 0 = [] := by rw [dg]; exact dif_pos rfl
theorem dg_pos {n : Nat} (h : n ≠ 0) : dg n = dg (n / 16) ++ [n % 16] := by rw [dg]; exact dif_neg h
noncomputable def apB (ds : List Nat) : List UInt8 := ds.map fun d => (65 + d).toUInt8
theorem apB_app (a b : List Nat) : apB (a ++ b) = apB a ++ apB b := List.map_append ..
structure Std (F : List FnDef) : Prop where
  f0 : F[0]? = some d0_0
  f1 : F[1]? = some d0_1
  f2 : F[2]? = some d0_2
  f3 : F[3]? = some d0_3
  f4 : F[4]? = some d0_4
  f5 : F[5]? = some d0_5
theorem nnN (r : Nat) : nonNeg (some (r : Int)) := fun _ e => by cases e; exact Int.natCast_nonneg r
theorem apCut : ∀ r : Nat, r < 16 → cutL ([65, 66, 67, 68, 69, 70, 71, 72, 73, 74, 75, 76, 77, 78, 79, 80] : List UInt8) (some (r : Int)) (some ((r + 1 : Nat) : Int)) = apB [r] := by decide +kernel
theorem int2ap {F : List FnDef} {ov : Ov} (S : Std F) {n : Nat} {x : Int} {mh : MH} {Q : V → MH → Prop} (hx : x.natAbs < 16 ^ 100) (q : Q (.bytes (apB (dg x.natAbs))) mh) : runF F ov (n + 1) 4 [.int x] [] mh Q := by
  refine runF_of S.f4 (us := [.int x]) rfl ?_
  refine sAssign (sAssign (sAssign ?_))
  show wpSs _ [s0_4_5, s0_4_6] [some (.int x.natAbs), some (.bytes []), some (.bytes [65, 66, 67, 68, 69, 70, 71, 72, 73, 74, 75, 76, 77, 78, 79, 80]), none] mh _
  refine sWhile (fun k loc m => ∃ (y : Nat) (v : List UInt8) (o : Option V), loc = [some (.int y), some (.bytes v), some (.bytes [65, 66, 67, 68, 69, 70, 71, 72, 73, 74, 75, 76, 77, 78, 79, 80]), o] ∧ m = mh ∧ y < 16 ^ k ∧ v.length + k ≤ 100 ∧ apB (dg y) ++ v = apB (dg x.natAbs)) (k := 100) ⟨x.natAbs, [], none, rfl, rfl, hx, Nat.le_refl _, List.append_nil _⟩ ?_
  rintro k _ _ ⟨y, v, o, rfl, rfl, hy, hv, he⟩
  refine ⟨fun h0 => ?_, fun h0 => ?_⟩
  · have h0 : y ≠ 0 := fun e => h0 (congrArg Nat.cast e)
    cases k with
    | zero => exact absurd (Nat.lt_one_iff.mp hy) h0
    | succ k =>
      refine sUnpack ⟨⟨by decide, by decide⟩, rfl, sAssign ?_⟩
      have hr : ((y : Int) % 16) = ((y % 16 : Nat) : Int) := rfl
      have hq : ((y : Int) / 16) = ((y / 16 : Nat) : Int) := rfl
      refine ⟨⟨rfl, nnN (y % 16), nnN (y % 16 + 1), by decide⟩, ?_⟩
      have e := apCut (y % 16) (Nat.mod_lt _ (by decide))
      have hl : (apB [y % 16]).length + v.length ≤ 100 := by
        show 1 + v.length ≤ 100
        omega
      show (cutL _ (some ((y % 16 : Nat) : Int)) (some ((y % 16 + 1 : Nat) : Int))).length + v.length ≤ lim ∧ _
      rw [e]
      refine ⟨Nat.le_trans hl (by decide), sNil (wNext ⟨k, Nat.lt_succ_self k, y / 16, apB [y % 16] ++ v, some (.int ((y % 16 : Nat) : Int)), ?_, rfl, ?_, ?_, ?_⟩)⟩
      · show _ = _
        rw [← e]; rfl
      · rw [Nat.pow_succ] at hy; omega
      · show ([_] ++ v).length + k ≤ 100
        rw [List.length_append, List.length_singleton]; omega
      · rw [← he, dg_pos h0, apB_app, List.append_assoc]
  · have h0 : y = 0 := Int.ofNat.inj (Decidable.not_not.mp h0)
    subst h0
    rw [dg_zero] at he
    rw [← he] at q
    exact sRet (outRet (l := []) trivial q)
theorem law_first {F : List FnDef} {ov : Ov} (S : Std F) {n : Nat} {v : V} {vs : List V} {mh : MH} {Q : V → MH → Prop} (hl : (v :: vs).length ≤ lim) (hp : pureV v) (q : Q v mh) : runF F ov (n + 1) 5 [.list (v :: vs)] [] mh Q :=
  runF_of S.f5 (us := [.list (v :: vs)]) rfl (sRet (i_at (k := 0) rfl rfl hl (outRet hp q)))
open PySem PySem.Calls PySem.W PyProof.Rows PySem.SeqAt
set_option maxRecDepth 100000
set_option linter.unusedVariables false
noncomputable def KeyW (Γ : Tab) (key v : V) (mh : MH) (K : V → MH → Prop) : Prop := (key = .none ∧ K v mh) ∨ ∃ g, key = .fn g ∧ Γ g [v] [] mh K
noncomputable def IsKey (key : V) : Prop := key = .none ∨ ∃ g, key = .fn g
noncomputable def HiP (hi : V) (vs : List V) (h : Nat) : Prop := hi = .int h ∨ (hi = .none ∧ h = vs.length)
structure Bis (mh : MH) (a hv key : V) (vs : List V) (lo hi p : Nat) : Prop where
  it : itemsOf mh a = some vs
  hl : vs.length ≤ 900
  hh : HiP hv vs hi
  h1 : lo ≤ p
  h2 : p ≤ hi
  h3 : hi ≤ vs.length
  key : IsKey key
theorem lim900 {n : Nat} (h : n ≤ 900) : n ≤ lim := Nat.le_trans h (by decide)
theorem getS {vs : List V} {i : Nat} (h : i < vs.length) : ∃ v, vs[i]? = some v := ⟨vs[i], List.getElem?_eq_getElem h⟩
noncomputable def upS : MS := .assign 2 (.bin .Add (.var 5) (.const (.int 1)))
noncomputable def dnS : MS := .assign 3 (.var 5)
noncomputable def midS : MS := .assign 5 (.bin .FloorDiv (.bin .Add (.var 2) (.var 3)) (.const (.int 2)))
noncomputable def BisI (a x key : V) (mh : MH) (lo p hi k : Nat) (loc : Loc) (m : MH) : Prop :=
  ∃ (l h : Nat) (o : Option V), loc = [some a, some x, some (.int l), some (.int h), some key, o] ∧ m = mh ∧ (lo ≤ l ∧ l ≤ p ∧ p ≤ h ∧ h ≤ hi) ∧ h - l = k
theorem sMid {Γ : Tab} {ss : List MS} {mh : MH} {QS : Fl → Loc → MH → Prop} {a x k o : Option V} {l h : Nat} (q : wpSs Γ ss [a, x, some (.int l), some (.int h), k, some (.int ((l + h) / 2 : Nat))] mh QS) : wpSs Γ (midS :: ss) [a, x, some (.int l), some (.int h), k, o] mh QS :=
  sAssign ⟨⟨by decide, by decide⟩, q⟩
theorem bisLoop {Γ : Tab} {tst : MC} {A B : List MS} {mh : MH} {a x key : V} {o : Option V} {lo hi p : Nat} {Q : V → MH → Prop} (f : Bool) (hA : A = cond f [dnS] [upS]) (hB : B = cond f [upS] [dnS]) (h1 : lo ≤ p) (h2 : p ≤ hi)
    (ht : ∀ (l h mid : Nat) (QB : Bool → MH → Prop), lo ≤ mid → mid < hi → QB (decide (mid < p) ^^ f) mh → wpC Γ tst [some a, some x, some (.int l), some (.int h), some key, some (.int mid)] mh QB) (q : Q (.int p) mh) :
    wpSs Γ [.while (.cmp .Lt (.var 2) (.var 3)) [midS, .ite tst A B]] [some a, some x, some (.int lo), some (.int hi), some key, o] mh (thenW (fun l m => wpSs Γ [.ret (.var 2)] l m (outW mh.length Q)) (outW mh.length Q)) := by
  refine sWhile (BisI a x key mh lo p hi) (k := hi - lo) ⟨lo, hi, o, rfl, rfl, ⟨Nat.le_refl _, h1, h2, Nat.le_refl _⟩, rfl⟩ ?_
  rintro k _ m0 ⟨l, h, o, rfl, rfl, ⟨q1, q2, q3, q4⟩, rfl⟩
  refine ⟨fun hlt => ?_, fun hge => ?_⟩
  · have hlt : l < h := Int.ofNat_lt.mp hlt
    have m1 : l ≤ (l + h) / 2 := by omega
    have m2 : (l + h) / 2 < h := by omega
    refine sMid ?_
    generalize (l + h) / 2 = mid at m1 m2
    refine sIte ?_
    refine ht l h mid _ (Nat.le_trans q1 m1) (Nat.lt_of_lt_of_le m2 q4) ?_
    clear ht
    subst hA hB
    by_cases hp : mid < p
    · have hj : h - (mid + 1) < h - l := Nat.sub_lt_sub_left hlt (Nat.lt_succ_of_le m1)
      rw [decide_eq_true hp]
      have fin : ∀ {R : Fl → Loc → MH → Prop} {k : Nat}, h - (mid + 1) < k → wpSs Γ [upS] [some a, some x, some (.int l), some (.int h), some key, some (.int mid)] m0 (thenW (fun l m => wpSs Γ [] l m (thenW (fun l' m' => ∃ j, j < k ∧ BisI a x key m0 lo p hi j l' m') R)) R) := fun hj =>
        ⟨h - (mid + 1), hj, mid + 1, h, some (.int mid), rfl, rfl, ⟨Nat.le_trans q1 (Nat.le_succ_of_le m1), hp, q3, q4⟩, rfl⟩
      cases f <;> exact fin hj
    · have hj : mid - l < h - l := Nat.sub_lt_sub_right m1 m2
      rw [decide_eq_false hp]
      have fin : ∀ {R : Fl → Loc → MH → Prop} {k : Nat}, mid - l < k → wpSs Γ [dnS] [some a, some x, some (.int l), some (.int h), some key, some (.int mid)] m0 (thenW (fun l m => wpSs Γ [] l m (thenW (fun l' m' => ∃ j, j < k ∧ BisI a x key m0 lo p hi j l' m') R)) R) := fun hj =>
        ⟨mid - l, hj, l, mid, some (.int mid), rfl, rfl, ⟨q1, q2, Nat.le_of_not_lt hp, Nat.le_trans (Nat.le_of_lt m2) q4⟩, rfl⟩
      cases f <;> exact fin hj
  · obtain rfl : l = p := Nat.le_antisymm q2 (Nat.le_trans q3 (Nat.le_of_not_lt fun q => hge (Int.ofNat_lt.mpr q)))
    exact sNil (wNext (sRet (outRet (l := []) trivial q)))
theorem bisHead {Γ : Tab} {mh : MH} {a x hv key : V} {vs : List V} {lo hi p : Nat} {ss : List MS} {QS : Fl → Loc → MH → Prop} (B : Bis mh a hv key vs lo hi p) (h : wpSs Γ ss [some a, some x, some (.int lo), some (.int hi), some key, none] mh QS) :
    wpSs Γ (s0_3_1 :: s0_3_3 :: ss) [some a, some x, some (.int lo), some hv, some key, none] mh QS := by
  refine sIte ?_
  refine br_f (Int.not_lt.mpr (Int.natCast_nonneg lo)) ?_
  refine sNil (wNext ?_)
  refine sIte ?_
  refine ⟨rfl, ?_⟩
  rcases B.hh with rfl | ⟨rfl, e⟩
  · refine br_f (fun e => nomatch e) ?_
    exact sNil (wNext h)
  · refine br_t rfl ?_
    refine sAssign ?_
    dsimp only [wE_const, wE_var, wE_glob, wE_bin, wE_neg, wE_cmp, wE_ite, wE_list, wE_item, wE_slice, wE_prim, wE_app, wE_ins, wE_call, wEs_nil, wEs_cons, wC_tst, wC_not, wC_bop, wC_cmp, wCB_nil, wCB_cons, v_some, i_int, s_str, m_mut, f_fn, tp_tup, b_add, b_adds, b_addb, b_addl, b_sub, b_mul, b_muls, b_mull, b_fd, b_mod, b_pow, c_lt, c_lts, c_ltl, c_le, c_gt, c_is, c_isnot, t_int, t_bool, t_none, p_int, p_none, f_abs, f_int, f_divmod, f_range, f_lens, sl_bytes, sl_str, st_and, st_or, List.getElem?_cons_succ, List.getElem?_cons_zero, List.set_cons_zero, List.set_cons_succ, List.zip_nil_left, List.zip_cons_cons, brW, setAll_nil, setAll_cons]
    refine f_len B.it (lim900 B.hl) ?_
    exact sNil (wNext (e ▸ h))
noncomputable def LtK (Γ : Tab) (key v x : V) (mh : MH) (P : Prop) : Prop := ∀ QB : Bool → MH → Prop, brW P (fun b => QB b mh) → KeyW Γ key v mh fun kv m => cmpW .Lt m kv x fun b => QB b m
noncomputable def GtK (Γ : Tab) (key v x : V) (mh : MH) (P : Prop) : Prop := ∀ QB : Bool → MH → Prop, brW P (fun b => QB b mh) → KeyW Γ key v mh fun kv m => cmpW .Lt m x kv fun b => QB b m
theorem key_none {Γ : Tab} {v : V} {mh : MH} {K : V → MH → Prop} (h : KeyW Γ .none v mh K) : K v mh := h.elim (·.2) fun ⟨_, e, _⟩ => nomatch e
theorem key_fn {Γ : Tab} {g : Nat} {v : V} {mh : MH} {K : V → MH → Prop} (h : KeyW Γ (.fn g) v mh K) : Γ g [v] [] mh K := h.elim (fun e => nomatch e.1) fun ⟨_, e, h⟩ => by cases e; exact h
theorem xor_f (P : Prop) [Decidable P] : (decide P ^^ false) = true ↔ P := by rw [Bool.xor_false, decide_eq_true_iff]
theorem bisL {F : List FnDef} {ov : Ov} (S : Std F) {n : Nat} {args : List V} {kws : List (Str × V)} {a x hv key : V} {vs : List V} {lo hi p : Nat} {mh : MH} {Q : V → MH → Prop} (hb : bindF d0_3 args kws = some [a, x, .int lo, hv, key])
    (B : Bis mh a hv key vs lo hi p) (hc : ∀ i v, lo ≤ i → i < hi → vs[i]? = some v → LtK (runF F ov n) key v x mh (i < p)) (q : Q (.int p) mh) : runF F ov (n + 1) 3 args kws mh Q := by
  refine runF_of S.f3 hb (bisHead B ?_)
  refine sIte ?_
  refine ⟨rfl, ?_⟩
  have at' : ∀ {mid : Nat}, mid < hi → ∃ v, vs[mid]? = some v := fun h => getS (Nat.lt_of_lt_of_le h B.h3)
  rcases B.key with rfl | ⟨g, rfl⟩
  · refine br_t rfl ?_
    refine bisLoop false rfl rfl B.h1 B.h2 (fun l h mid QB m1 m2 hq => ?_) q
    obtain ⟨v, hv⟩ := at' m2
    exact i_at B.it hv (lim900 B.hl) (key_none (hc mid v m1 m2 hv QB (br_b (xor_f _) hq)))
  · refine br_f (fun e => nomatch e) ?_
    refine bisLoop false rfl rfl B.h1 B.h2 (fun l h mid QB m1 m2 hq => ?_) q
    obtain ⟨v, hv⟩ := at' m2
    exact i_at B.it hv (lim900 B.hl) ⟨rfl, key_fn (hc mid v m1 m2 hv QB (br_b (xor_f _) hq))⟩
theorem xor_t {P P' : Prop} [Decidable P] (h : P' ↔ ¬ P) : (decide P ^^ true) = true ↔ P' := by
  rw [Bool.xor_true, Bool.not_eq_true', decide_eq_false_iff_not]; exact h.symm
theorem bisR {F : List FnDef} {ov : Ov} (S : Std F) {n : Nat} {args : List V} {kws : List (Str × V)} {a x hv key : V} {vs : List V} {lo hi p : Nat} {mh : MH} {Q : V → MH → Prop} (hb : bindF d0_1 args kws = some [a, x, .int lo, hv, key])
    (B : Bis mh a hv key vs lo hi p) (hc : ∀ i v, lo ≤ i → i < hi → vs[i]? = some v → GtK (runF F ov n) key v x mh (p ≤ i)) (q : Q (.int p) mh) : runF F ov (n + 1) 1 args kws mh Q := by
  refine runF_of S.f1 hb (bisHead B ?_)
  refine sIte ?_
  refine ⟨rfl, ?_⟩
  have at' : ∀ {mid : Nat}, mid < hi → ∃ v, vs[mid]? = some v := fun h => getS (Nat.lt_of_lt_of_le h B.h3)
  rcases B.key with rfl | ⟨g, rfl⟩
  · refine br_t rfl ?_
    refine bisLoop true rfl rfl B.h1 B.h2 (fun l h mid QB m1 m2 hq => ?_) q
    obtain ⟨v, hv⟩ := at' m2
    exact i_at B.it hv (lim900 B.hl) (key_none (hc mid v m1 m2 hv QB (br_b (xor_t Nat.not_lt.symm) hq)))
  · refine br_f (fun e => nomatch e) ?_
    refine bisLoop true rfl rfl B.h1 B.h2 (fun l h mid QB m1 m2 hq => ?_) q
    obtain ⟨v, hv⟩ := at' m2
    exact i_at B.it hv (lim900 B.hl) ⟨rfl, key_fn (hc mid v m1 m2 hv QB (br_b (xor_t Nat.not_lt.symm) hq))⟩
theorem insFin {Γ : Tab} {mh : MH} {i p : Nat} {x key : V} {o : Option V} {vs : List V} {Q : V → MH → Prop} (ha : mh[i]? = some vs) (hl : vs.length ≤ 900) (hx : pureV x) (hp : p ≤ vs.length) (q : Q .none (mh.set i (vs.take p ++ x :: vs.drop p))) :
    wpSs Γ [s0_2_3] [some (.mut i), some x, some (.int p), o, some key] mh (outW mh.length Q) := by
  refine sExpr ⟨vs, ha, ⟨hx, lim900 hl, Int.natCast_nonneg p, Int.ofNat_le.mpr hp⟩, rfl, sNil ?_⟩
  show Q .none ((mh.set i _).take mh.length)
  rw [List.take_of_length_le (Nat.le_of_eq (List.length_set ..))]
  exact q
theorem insL {F : List FnDef} {ov : Ov} (S : Std F) {n : Nat} {args : List V} {kws : List (Str × V)} {x hv key : V} {vs : List V} {lo hi p i : Nat} {mh : MH} {Q : V → MH → Prop} (hb : bindF d0_2 args kws = some [.mut i, x, .int lo, hv, key])
    (B : Bis mh (.mut i) hv key vs lo hi p) (hx : pureV x) (hc : ∀ K : V → MH → Prop, (∀ kx, (∀ i v, lo ≤ i → i < hi → vs[i]? = some v → LtK (runF F ov n) key v kx mh (i < p)) → K kx mh) → KeyW (runF F ov (n + 1)) key x mh K)
    (q : Q .none (mh.set i (vs.take p ++ x :: vs.drop p))) : runF F ov (n + 2) 2 args kws mh Q := by
  refine runF_of S.f2 hb ?_
  refine sIte ?_
  refine ⟨rfl, ?_⟩
  have fin := fun {o : Option V} => insFin (Γ := runF F ov (n + 1)) (o := o) (key := key) B.it B.hl hx (Nat.le_trans B.h2 B.h3) q
  rcases B.key with rfl | ⟨g, rfl⟩
  · refine br_t rfl ?_
    refine sAssign ?_
    refine ⟨rfl, ?_⟩
    exact key_none (K := fun kx m => runF F ov (n + 1) 3 [.mut i, kx, .int lo, hv] [] m _) (hc _ fun kx hk => bisL S rfl B hk (sNil (wNext fin)))
  · refine br_f (fun e => nomatch e) ?_
    refine sAssign ?_
    refine ⟨rfl, ?_⟩
    exact key_fn (K := fun kx m => _ ∧ runF F ov (n + 1) 3 [.mut i, kx, .int lo, hv] [(_, .fn g)] m _) (hc _ fun kx hk => ⟨rfl, bisL S rfl B hk (sNil (wNext fin))⟩)
theorem insR {F : List FnDef} {ov : Ov} (S : Std F) {n : Nat} {args : List V} {kws : List (Str × V)} {x hv key : V} {vs : List V} {lo hi p i : Nat} {mh : MH} {Q : V → MH → Prop} (hb : bindF d0_0 args kws = some [.mut i, x, .int lo, hv, key])
    (B : Bis mh (.mut i) hv key vs lo hi p) (hx : pureV x) (hc : ∀ K : V → MH → Prop, (∀ kx, (∀ i v, lo ≤ i → i < hi → vs[i]? = some v → GtK (runF F ov n) key v kx mh (p ≤ i)) → K kx mh) → KeyW (runF F ov (n + 1)) key x mh K)
    (q : Q .none (mh.set i (vs.take p ++ x :: vs.drop p))) : runF F ov (n + 2) 0 args kws mh Q := by
  refine runF_of S.f0 hb ?_
  refine sIte ?_
  refine ⟨rfl, ?_⟩
  have fin := fun {o : Option V} => insFin (Γ := runF F ov (n + 1)) (o := o) (key := key) B.it B.hl hx (Nat.le_trans B.h2 B.h3) q
  rcases B.key with rfl | ⟨g, rfl⟩
  · refine br_t rfl ?_
    refine sAssign ?_
    refine ⟨rfl, ?_⟩
    exact key_none (K := fun kx m => runF F ov (n + 1) 1 [.mut i, kx, .int lo, hv] [] m _) (hc _ fun kx hk => bisR S rfl B hk (sNil (wNext fin)))
  · refine br_f (fun e => nomatch e) ?_
    refine sAssign ?_
    refine ⟨rfl, ?_⟩
    exact key_fn (K := fun kx m => _ ∧ runF F ov (n + 1) 1 [.mut i, kx, .int lo, hv] [(_, .fn g)] m _) (hc _ fun kx hk => ⟨rfl, bisR S rfl B hk (sNil (wNext fin))⟩)
theorem keyW_none {Γ : Tab} {v : V} {mh : MH} {K : V → MH → Prop} (h : K v mh) : KeyW Γ .none v mh K := .inl ⟨rfl, h⟩
theorem keyW_first {F : List FnDef} {ov : Ov} (S : Std F) {n : Nat} {v : V} {vs : List V} {mh : MH} {K : V → MH → Prop} (hl : (v :: vs).length ≤ lim) (hp : pureV v) (h : K v mh) : KeyW (runF F ov (n + 1)) (.fn 5) (.list (v :: vs)) mh K := .inr ⟨5, rfl, law_first S hl hp h⟩
open PySem PySem.Calls PySem.W PyProof.Rows PySem.SeqAt
set_option maxRecDepth 100000
set_option linter.unusedVariables false
theorem compFilt {tst : V → (Bool → Prop) → Prop} {el : V → (V → Prop) → Prop} {vs : List V} {K : List V → Prop} (t : V → Bool) (f : V → V) (ht : ∀ v ∈ vs, ∀ K : Bool → Prop, K (t v) → tst v K) (he : ∀ v ∈ vs, t v = true → ∀ K : V → Prop, K (f v) → el v K)
    (k : K ((vs.filter t).map f)) : compW tst el vs K := by
  refine ⟨fun i out => out = ((vs.take i).filter t).map f, rfl, fun i v out hv e => ht v (List.mem_of_getElem? hv) _ ?_, fun out e => ?_⟩
  · have e : out = ((vs.take i).filter t).map f := e
    dsimp only
    have e2 : vs.take (i + 1) = vs.take i ++ [v] := by rw [List.take_add_one, hv]; rfl
    rw [e2, List.filter_append, List.map_append, ← e]
    cases q : t v with
    | true => exact he v (List.mem_of_getElem? hv) q _ (by rw [List.filter_cons_of_pos q]; rfl)
    | false => show out = _; rw [List.filter_cons_of_neg (by rw [q]; exact Bool.noConfusion)]; exact (List.append_nil _).symm
  · have e : out = ((vs.take vs.length).filter t).map f := e
    rw [List.take_length] at e
    exact e ▸ k
theorem compMap {tst : V → (Bool → Prop) → Prop} {el : V → (V → Prop) → Prop} {vs : List V} {K : List V → Prop} (f : V → V) (ht : ∀ v, ∀ K : Bool → Prop, K true → tst v K) (he : ∀ v ∈ vs, ∀ K : V → Prop, K (f v) → el v K)
    (k : K (vs.map f)) : compW tst el vs K :=
  compFilt (fun _ => true) f (fun v _ => ht v) (fun v h _ => he v h) (by rw [List.filter_eq_self.mpr fun _ _ => rfl]; exact k)
theorem it_str {mh : MH} {l : List Nat} (h : ∀ c ∈ l, c < 128) : iterItems mh (.str l) = some (l.map fun c => .str [c]) :=
  if_pos (List.all_eq_true.mpr fun c hc => decide_eq_true (h c hc))
theorem it_rng {mh : MH} {n : Nat} (h : n ≤ 2 ^ 40) : iterItems mh (.rng 0 n 1) = some ((List.range n).map fun (i : Nat) => V.int i) := by
  have h1 : rngSize 0 n 1 = n := by
    unfold rngSize Builtin.Range.rangeSize
    rw [if_pos (by decide)]
    split <;> omega
  have h2 : Builtin.Range.small 0 n 1 = true := small_one (by decide) (by decide) (by omega) (by omega)
  show (if Builtin.Range.small 0 n 1 then some ((List.range (rngSize 0 n 1).toNat).map fun (i : Nat) => V.int (0 + (i : Int) * 1)) else none) = _
  rw [if_pos h2, h1]
  refine congrArg some (List.map_congr_left fun i _ => congrArg V.int ?_)
  rw [Int.mul_one, Int.zero_add]
open PySem PySem.Calls PySem.W PyProof.Rows PySem.SeqAt
set_option maxRecDepth 100000
set_option linter.unusedSimpArgs false
set_option linter.unusedVariables false
noncomputable def pad : Nat → Nat → List Nat
  | 0, _ => []
  | s + 1, m => pad s (m / 16) ++ [m % 16]
theorem pad_len : ∀ (s m : Nat), (pad s m).length = s
  | 0, _ => rfl
  | s + 1, m => by simp [pad, pad_len s]
theorem dg_add {n : Nat} (hn : n ≠ 0) : ∀ (s m : Nat), m < 16 ^ s → dg (n * 16 ^ s + m) = dg n ++ pad s m
  | 0, m, h => by
    have : m = 0 := by simpa using h
    subst this; simp [pad]
  | s + 1, m, h => by
    rw [Nat.pow_succ] at h
    have hp : 0 < 16 ^ s := Nat.pos_of_ne_zero (by simp)
    have h0 : n * 16 ^ (s + 1) + m ≠ 0 := by
      have : 0 < n * 16 ^ (s + 1) := Nat.mul_pos (Nat.pos_of_ne_zero hn) (Nat.pos_of_ne_zero (by simp))
      omega
    have e : n * 16 ^ (s + 1) = 16 * (n * 16 ^ s) := by rw [Nat.pow_succ]; ac_rfl
    rw [dg_pos h0, e, show (16 * (n * 16 ^ s) + m) / 16 = n * 16 ^ s + m / 16 by omega, show (16 * (n * 16 ^ s) + m) % 16 = m % 16 by omega, dg_add hn s (m / 16) (by omega), pad, List.append_assoc]
theorem dg_one : dg 1 = [1] := by rw [dg_pos (by decide)]; simp [dg_zero]
theorem dg_pad : ∀ (s m : Nat), m < 16 ^ s → pad s m = List.replicate (s - (dg m).length) 0 ++ dg m
  | 0, m, h => by
    have : m = 0 := by simpa using h
    subst this; simp [pad, dg_zero]
  | s + 1, m, h => by
    rw [Nat.pow_succ] at h
    rw [pad, dg_pad s (m / 16) (by omega)]
    by_cases h0 : m = 0
    · subst h0
      simp only [dg_zero, Nat.zero_div, List.append_nil, List.length_nil, Nat.sub_zero, Nat.zero_mod]
      rw [List.replicate_succ']
    · rw [dg_pos h0]
      simp only [List.length_append, List.length_cons, List.length_nil, List.append_assoc]
      rw [show s + 1 - ((dg (m / 16)).length + (0 + 1)) = s - (dg (m / 16)).length by omega]
theorem dg_head (m : Nat) : ∀ d r, dg m = d :: r → d ≠ 0 := by
  induction m using Nat.strongRecOn with
  | ind m ih =>
    intro d r h
    by_cases h0 : m = 0
    · subst h0; rw [dg_zero] at h; cases h
    · rw [dg_pos h0] at h
      by_cases h1 : m / 16 = 0
      · rw [h1, dg_zero] at h
        simp at h
        omega
      · cases e : dg (m / 16) with
        | nil => 
          exfalso
          rw [dg_pos h1] at e
          simp at e
        | cons a b =>
          rw [e] at h
          simp at h
          rw [← h.1]
          exact ih (m / 16) (by omega) a b e
noncomputable def val (ds : List Nat) : Nat := ds.foldl (fun a d => 16 * a + d) 0
theorem foldl_val (ds : List Nat) : ∀ a : Nat, ds.foldl (fun a d => 16 * a + d) a = a * 16 ^ ds.length + val ds := by
  unfold val
  induction ds with
  | nil => intro a; simp
  | cons d ds ih =>
    intro a
    rw [List.foldl_cons, List.foldl_cons, ih, ih (16 * 0 + d), List.length_cons, Nat.pow_succ]
    rw [Nat.add_mul, Nat.add_mul]
    rw [show 16 * a * 16 ^ ds.length = a * (16 ^ ds.length * 16) by ac_rfl]
    omega
theorem val_nil : val [] = 0 := rfl
theorem val_app (a b : List Nat) : val (a ++ b) = val a * 16 ^ b.length + val b := by
  rw [val, List.foldl_append, foldl_val]; rfl
theorem val_cons (d : Nat) (b : List Nat) : val (d :: b) = d * 16 ^ b.length + val b := by
  have := val_app [d] b
  simpa [val] using this
theorem val_lt : ∀ {ds : List Nat}, (∀ d ∈ ds, d < 16) → val ds < 16 ^ ds.length
  | [], _ => by simp [val]
  | d :: ds, h => by
    have h1 := val_lt (ds := ds) (fun x hx => h x (.tail _ hx))
    have h2 := h d (.head _)
    rw [val_cons, List.length_cons, Nat.pow_succ]
    have : d * 16 ^ ds.length ≤ 15 * 16 ^ ds.length := Nat.mul_le_mul_right _ (by omega)
    omega
open PySem PySem.Calls PySem.W PyProof.Rows PySem.SeqAt
set_option maxRecDepth 100000
noncomputable def fns1 : List Str := ["insort_right", "bisect_right", "insort_left", "bisect_left", "Int2AP", "_law_first", "_law_last", "_law_put", "_law_refused", "_law_spelled", "_law_shown", "_law_members", "law"]
noncomputable def s1_6_0 : MS := .ret (.bin .Mod (.item (.var 0) (.const (.int 0))) (.const (.int 16)))
noncomputable def d1_6 : FnDef := { vars := ["pair"], np := 1, bis := false, body := [s1_6_0] }
noncomputable def s1_7_0 : MS := .assign 3 (.bin .Pow (.const (.int 16)) (.var 2))
noncomputable def s1_7_1 : MS := .ret (.bin .Add (.bin .Mult (.bin .Add (.bin .Mult (.bin .FloorDiv (.var 0) (.var 3)) (.const (.int 16))) (.var 1)) (.var 3)) (.bin .Mod (.var 0) (.var 3)))
noncomputable def d1_7 : FnDef := { vars := ["number", "figure", "behind", "cut"], np := 3, bis := false, body := [s1_7_0, s1_7_1] }
noncomputable def s1_8_0 : MS := .tryR (.call (.var 0) [(.var 1), (.var 2), (.var 3), (.var 4)] ["key"] [(.var 5)])
noncomputable def s1_8_1 : MS := .ret (.const (.bool false))
noncomputable def d1_8 : FnDef := { vars := ["act", "row", "item", "down", "up", "key"], np := 6, bis := false, body := [s1_8_0, s1_8_1] }
noncomputable def s1_9_0 : MS := .assign 2 (.slice (.var 1) (.const .none) (.const .none) (.const .none))
noncomputable def s1_9_1 : MS := .assign 2 (.slice (.var 2) (.const (.int 1)) (.const .none) (.const .none))
noncomputable def s1_9_2 : MS := .while (.bop .And [(.cmp .NotEq (.var 2) (.list [])), (.cmp .Eq (.item (.var 2) (.const (.int 0))) (.const (.int 0)))]) [s1_9_1]
noncomputable def s1_9_3 : MS := .assign 3 (.list [(.call (.glob 4) [(.bin .Add (.bin .Pow (.const (.int 16)) (.prim .len [(.var 1)])) (.var 0))] [] []), (.call (.glob 4) [(.var 0)] [] []), (.call (.glob 4) [(.neg (.var 0))] [] [])])
noncomputable def s1_9_4 : MS := .ret (.const (.bool false))
noncomputable def s1_9_5 : MS := .ite (.cmp .NotEq (.comp [] 4 (.var 3) [(.not (.tst (.isBytes (.var 4))))] (.var 4)) (.list [])) [s1_9_4] []
noncomputable def s1_9_6 : MS := .ret (.cmp .Eq (.var 3) (.comp [] 5 (.list [(.bin .Add (.list [(.const (.int 1))]) (.var 1)), (.var 2), (.var 2)]) [] (.prim .bytes [(.comp [] 6 (.var 5) [] (.bin .Add (.const (.int 65)) (.var 6)))])))
noncomputable def d1_9 : FnDef := { vars := ["number", "figures", "bare", "words", "word", "due", "figure"], np := 2, bis := false, body := [s1_9_0, s1_9_2, s1_9_3, s1_9_5, s1_9_6] }
noncomputable def s1_10_0 : MS := .ret (.slice (.prim .list [(.call (.glob 4) [(.bin .Add (.bin .Pow (.const (.int 16)) (.var 1)) (.var 0))] [] [])]) (.const (.int 1)) (.const .none) (.const .none))
noncomputable def d1_10 : FnDef := { vars := ["number", "size"], np := 2, bis := false, body := [s1_10_0] }
noncomputable def s1_11_0 : MS := .assign 2 (.comp [1] 4 (.prim .range [(.prim .len [(.var 1)])]) [(.cmp .Eq (.item (.var 1) (.var 4)) (.const (.int 66)))] (.var 4))
noncomputable def s1_11_1 : MS := .assignMut 3 []
noncomputable def s1_11_2 : MS := .assign 5 (.ite (.cmp .Eq (.bin .Mod (.var 4) (.const (.int 2))) (.const (.int 0))) (.call (.glob 3) [(.var 2), (.var 4)] [] []) (.call (.glob 1) [(.var 2), (.var 4)] [] []))
noncomputable def s1_11_3 : MS := .expr (.app (.var 3) (.bin .Sub (.bin .Add (.bin .Mult (.const (.int 16)) (.var 5)) (.item (.var 0) (.prim .len [(.var 3)]))) (.const (.int 65))))
noncomputable def s1_11_4 : MS := .ite (.cmp .Eq (.item (.var 1) (.var 4)) (.const (.int 65))) [s1_11_2, s1_11_3] []
noncomputable def s1_11_5 : MS := .for 4 (.prim .range [(.prim .len [(.var 1)])]) [s1_11_4]
noncomputable def s1_11_6 : MS := .ret (.var 3)
noncomputable def d1_11 : FnDef := { vars := ["small", "tall", "ends", "members", "k", "part"], np := 2, bis := false, body := [s1_11_0, s1_11_1, s1_11_5, s1_11_6] }
noncomputable def s1_12_0 : MS := .assign 1 (.bin .Add (.slice (.var 0) (.const .none) (.const (.int 5)) (.const .none)) (.list [(.const (.int 37)), (.const (.int 129)), (.const (.int 82)), (.const (.int 99)), (.const (.int 133)), (.const (.int 33)), (.const (.int 37)), (.const (.int 80)), (.const (.int 177))]))
noncomputable def s1_12_1 : MS := .assignTup [4, 5, 6, 7, 8] [true, true, true, true, false] [(.list []), (.list []), (.list []), (.list []), (.list [])]
noncomputable def s1_12_2 : MS := .assignTup [9, 10] [false, false] [(.const (.int 0)), (.const (.int 1118481))]
noncomputable def s1_12_3 : MS := .assign 11 (.bin .Mod (.item (.var 1) (.var 2)) (.const (.int 96)))
noncomputable def s1_12_4 : MS := .assignTup [22, 23] [false, false] [(.bin .FloorDiv (.var 11) (.const (.int 16))), (.bin .Mod (.var 11) (.const (.int 16)))]
noncomputable def s1_12_5 : MS := .assign 12 (.call (.glob 10) [(.var 9), (.var 2)] [] [])
noncomputable def s1_12_6 : MS := .assign 13 (.call (.glob 10) [(.var 10), (.bin .Add (.var 2) (.const (.int 6)))] [] [])
noncomputable def s1_12_7 : MS := .assign 14 (.comp [13] 27 (.prim .range [(.prim .len [(.var 13)])]) [(.cmp .Eq (.item (.var 13) (.var 27)) (.const (.int 66)))] (.var 27))
noncomputable def s1_12_8 : MS := .assign 15 (.ite (.cmp .Gt (.var 22) (.const (.int 0))) (.bin .Add (.bin .Sub (.item (.var 14) (.bin .Sub (.var 22) (.const (.int 1)))) (.var 22)) (.const (.int 1))) (.const (.int 0)))
noncomputable def s1_12_9 : MS := .assign 16 (.ite (.cmp .Lt (.var 22) (.const (.int 5))) (.bin .Sub (.item (.var 14) (.var 22)) (.var 22)) (.const .none))
noncomputable def s1_12_10 : MS := .assign 17 (.prim .len [(.comp [11] 29 (.var 4) [(.cmp .Lt (.var 29) (.var 11))] (.var 29))])
noncomputable def s1_12_11 : MS := .assign 18 (.prim .len [(.comp [11] 29 (.var 4) [(.cmp .LtE (.var 29) (.var 11))] (.var 29))])
noncomputable def s1_12_12 : MS := .assign 19 (.list [(.call (.glob 3) [(.var 12), (.bin .Add (.const (.int 65)) (.var 23)), (.var 15), (.var 16)] [] []), (.call (.glob 1) [(.var 12), (.bin .Add (.const (.int 65)) (.var 23)), (.var 15), (.var 16)] [] [])])
noncomputable def s1_12_13 : MS := .assign 20 (.list [(.call (.glob 3) [(.var 7), (.var 11)] ["key"] [(.glob 5)]), (.call (.glob 1) [(.var 7), (.var 11)] ["key"] [(.glob 5)])])
noncomputable def s1_12_14 : MS := .ret (.const (.bool false))
noncomputable def s1_12_15 : MS := .ite (.bop .Or [(.cmp .NotEq (.var 19) (.list [(.var 17), (.var 18)])), (.cmp .NotEq (.var 20) (.list [(.var 17), (.var 18)]))]) [s1_12_14] []
noncomputable def s1_12_16 : MS := .assign 21 (.bin .Sub (.neg (.const (.int 1))) (.prim .abs [(.item (.var 1) (.var 2))]))
noncomputable def s1_12_17 : MS := .refused [(.var 24), (.var 6), (.var 23), (.var 21), (.var 16), (.const .none)] [(.var 24), (.var 7), (.var 25), (.var 21), (.var 16), (.glob 6)]
noncomputable def s1_12_18 : MS := .forU [24, 25] (.list [(.list [(.glob 3), (.var 23)]), (.list [(.glob 1), (.var 23)]), (.list [(.glob 2), (.list [(.var 11), (.var 2)])]), (.list [(.glob 0), (.list [(.var 11), (.var 2)])])]) [s1_12_17]
noncomputable def s1_12_19 : MS := .assignTup [28, 25] [false, false] [(.var 17), (.list [(.var 11), (.var 2)])]
noncomputable def s1_12_20 : MS := .assign 26 (.list [(.call (.glob 2) [(.var 5), (.var 11)] [] []), (.call (.glob 2) [(.var 6), (.var 23), (.var 15), (.var 16)] [] []), (.call (.glob 2) [(.var 7), (.var 25), (.var 15), (.var 16)] ["key"] [(.glob 6)])])
noncomputable def s1_12_21 : MS := .assignTup [28, 25] [false, false] [(.var 18), (.list [(.var 11), (.neg (.var 2))])]
noncomputable def s1_12_22 : MS := .assign 26 (.list [(.call (.glob 0) [(.var 5), (.var 11)] [] []), (.call (.glob 0) [(.var 6), (.var 23), (.var 15), (.var 16)] [] []), (.call (.glob 0) [(.var 7), (.var 25), (.var 15), (.var 16)] ["key"] [(.glob 6)])])
noncomputable def s1_12_23 : MS := .ite (.cmp .Eq (.bin .Mod (.bin .FloorDiv (.item (.var 1) (.var 2)) (.const (.int 96))) (.const (.int 2))) (.const (.int 1))) [s1_12_19, s1_12_20] [s1_12_21, s1_12_22]
noncomputable def s1_12_24 : MS := .expr (.app (.var 4) (.var 11))
noncomputable def s1_12_25 : MS := .assign 8 (.bin .Add (.bin .Add (.slice (.var 8) (.const .none) (.var 28) (.const .none)) (.list [(.var 25)])) (.slice (.var 8) (.var 28) (.const .none) (.const .none)))
noncomputable def s1_12_26 : MS := .assign 9 (.call (.glob 7) [(.var 9), (.var 23), (.bin .Sub (.var 2) (.var 28))] [] [])
noncomputable def s1_12_27 : MS := .assign 10 (.call (.glob 7) [(.var 10), (.const (.int 0)), (.bin .Sub (.bin .Add (.var 2) (.const (.int 6))) (.item (.var 14) (.var 22)))] [] [])
noncomputable def s1_12_28 : MS := .ret (.const (.bool false))
noncomputable def s1_12_29 : MS := .ite (.bop .Or [(.cmp .NotEq (.var 26) (.list [(.const .none), (.const .none), (.const .none)])), (.cmp .NotEq (.var 7) (.var 8)), (.not (.tst (.call (.glob 9) [(.var 9), (.var 6)] [] [])))]) [s1_12_28] []
noncomputable def s1_12_30 : MS := .for 2 (.prim .range [(.prim .len [(.var 1)])]) [s1_12_3, s1_12_4, s1_12_5, s1_12_6, s1_12_7, s1_12_8, s1_12_9, s1_12_10, s1_12_11, s1_12_12, s1_12_13, s1_12_15, s1_12_16, s1_12_18, s1_12_23, s1_12_24, s1_12_25, s1_12_26, s1_12_27, s1_12_29]
noncomputable def s1_12_31 : MS := .assign 3 (.call (.glob 11) [(.call (.glob 10) [(.var 9), (.prim .len [(.var 4)])] [] []), (.call (.glob 10) [(.var 10), (.bin .Add (.prim .len [(.var 4)]) (.const (.int 6)))] [] [])] [] [])
noncomputable def s1_12_32 : MS := .ret (.bop .And [(.cmp .Eq (.var 3) (.prim .sorted [(.var 4)])), (.cmp .Eq (.var 5) (.var 3)), (.call (.glob 9) [(.const (.int 0)), (.list [])] [] [])])
noncomputable def d1_12 : FnDef := { vars := ["script", "numbers", "turn", "members", "values", "plain", "letters", "row", "due", "low", "high", "value", "small", "tall", "ends", "lo", "hi", "left", "right", "told", "over", "down", "part", "letter", "act", "item", "gone", "k", "place", "one"], np := 1, bis := false, body := [s1_12_0, s1_12_1, s1_12_2, s1_12_30, s1_12_31, s1_12_32] }
noncomputable def tab1 : List FnDef := [d0_0, d0_1, d0_2, d0_3, d0_4, d0_5, d1_6, d1_7, d1_8, d1_9, d1_10, d1_11, d1_12]
open PySem PySem.Calls PySem.W PyProof.Rows PySem.SeqAt
set_option maxRecDepth 100000
set_option linter.unusedVariables false
noncomputable def cut (h : Heap) : List Addr → Heap
  | [] => h
  | a :: r => (cut h r).update a fun o => { o with data := .freed }
theorem cut_out {h : Heap} {a : Addr} : ∀ {l : List Addr}, a ∉ l → (cut h l).get? a = h.get? a
  | [], _ => rfl
  | b :: r, n => (Heap.get?_update_other _ _ fun e : b = a => n (e ▸ .head _)).trans (cut_out fun q => n (.tail _ q))
theorem cut_in {h : Heap} {a : Addr} : ∀ {l : List Addr}, a ∈ l → (cut h l).get? a = none
  | b :: r, q => by
    by_cases e : b = a
    · subst e
      show ((cut h r).update b _).get? b = none
      cases hx : ((cut h r).update b fun o => { o with data := .freed }).get? b with
      | none => rfl
      | some o =>
        obtain ⟨h1, h2⟩ := Heap.get?_some_iff.mp hx
        simp only [Heap.update, Array.getElem?_modify, if_true] at h1
        obtain ⟨o', _, rfl⟩ := Option.map_eq_some_iff.mp h1
        cases h2
    · exact (Heap.get?_update_other _ _ e).trans (cut_in ((List.mem_cons.mp q).resolve_left (Ne.symm e)))
theorem cut_stays {h : Heap} {l : List Addr} : (cut h l).StaysIn h := fun a o e => by
  by_cases q : a ∈ l
  · rw [cut_in q] at e; cases e
  · rw [cut_out q] at e; exact e
noncomputable def locs (l : List Env) : List Addr := l.map (·.locals)
section
variable {C : Cfg} {ρ : List Addr} {mh : MH} {h h' : Heap} {l : List Env} {s : Shared} {env : Env}
theorem FrE.keep (x : FrE C h env) (k : ∀ o, h.get? env.locals = some o → h'.get? env.locals = some o) : FrE C h' env :=
  ⟨x.kind, x.fr, let ⟨m, o, es, ep, ho, r⟩ := x.ns; ⟨m, o, es, ep, k o ho, r⟩, x.new, x.xi⟩
theorem FrE.notρ (x : FrE C h env) (co : Co C ρ mh h) : env.locals ∉ ρ := fun q => by
  obtain ⟨xs, n, g⟩ := co.mem_list q
  obtain ⟨m, hn⟩ := x.ns
  exact ns_not_list hn g
theorem funFrames {base : Heap} (hb : ∀ env ∈ l, base.get? env.locals = none) (hl : ∀ env ∈ l, FrE C h env) : h.FunFrames base l := by
  induction l with
  | nil => trivial
  | cons env r ih =>
    have x := hl env (.head _)
    obtain ⟨m, o, es, ep, ho, hd, _⟩ := x.ns
    exact ⟨x.kind, ⟨_, o, x.fr, hb env (.head _), ho, fun vs q => by rw [hd] at q; cases q⟩, ih (fun e q => hb e (.tail _ q)) fun e q => hl e (.tail _ q)⟩
theorem Co.cut (co : Co C ρ mh h) (hl : ∀ env ∈ l, FrE C h env) : Co C ρ mh (cut h (locs l)) := by
  have nd : ∀ a ∈ locs l, ∀ o, h.get? a = some o → ¬ isD o := fun a ha o e => by
    obtain ⟨env, q, rfl⟩ := List.mem_map.mp ha
    obtain ⟨m, hm⟩ := (hl env q).ns
    exact ns_not_d hm e
  have kd : ∀ a o, h.get? a = some o → isD o → (Mine.cut h (locs l)).get? a = some o := fun a o e d => (cut_out fun q => nd a q o e d).trans e
  have up : ∀ a o, h.get? a = some o → a ∉ locs l → (Mine.cut h (locs l)).get? a = some o := fun a o e n => (cut_out n).trans e
  refine ⟨fun a o e => up a o (co.up a o e) fun q => ?_, co.new, ⟨co.m.len, co.m.nodup, fun i a vs e1 e2 => ?_⟩, co.pure, fun a ha => ?_, co.apart⟩
  · obtain ⟨env, q', rfl⟩ := List.mem_map.mp q
    exact nomatch (hl env q').new.symm.trans e
  · obtain ⟨xs, n, g, r⟩ := co.m.at' i a vs e1 e2
    exact ⟨xs, n, kd a _ g (.inl ⟨_, _, rfl⟩), r.keepX fun a o e d _ => kd a o e d⟩
  · obtain ⟨o, ho⟩ := co.live a ha
    exact ⟨o, up a o ho fun q => by obtain ⟨env, q', rfl⟩ := List.mem_map.mp q; exact (hl env q').xi ha⟩
structure ExcH (C : Cfg) (ρ : List Addr) (mh : MH) (l : List Env) (h : Heap) (e : Addr) (h' : Heap) : Prop where
  ex : ∃ base t, Heap.FlyingW base l e (.type "ValueError") t h' ∧ (∀ a o, h.get? a = some o → a ∉ ρ → a ∉ locs l → base.get? a = some o) ∧ Co C ρ mh base
  sl : ∀ a ∈ locs l, ∀ o, h.get? a = some o → ∃ sl, h'.get? a = some { o with slots := sl }
noncomputable def ExcR (C : Cfg) (ρ : List Addr) (mh : MH) (l : List Env) (s : Shared) (r : Result) (s' : Shared) : Prop :=
  ∃ e h' tk, r = .error (.ref e) ∧ s' = { s with heap := h', toks := tk } ∧ ExcH C ρ mh l s.heap e h'
theorem Fx.frE {F : FC} {loc : Loc} (fx : Fx F loc ρ mh h) : FrE F.C h F.env :=
  ⟨(by rw [fx.cx.ho.kind]; exact fun e => (nomatch e)), fx.st.frm, fx.ns, fx.base_none fx.st.loc₀, fx.xi_not fx.st.loc₀⟩
theorem exc_leave {F : FC} {loc : Loc} {s₀ s₁ : Shared} {e : Addr} {h' : Heap} {tk : Nat} {A : Around} (hA : F.A = A.deeper F.env) (fx : Fx F loc ρ mh s₁.heap) (h0 : F.h₀ = s₀.heap) (hs : s₁ = { s₀ with heap := s₁.heap, toks := s₁.toks }) (hfr : A.frames = some l)
    (hρ : F.ρ₀ = ρ) (hl : ∀ env ∈ l, FrE F.C s₀.heap env) (hk : ∀ env ∈ l, env.locals ∉ ρ) (x : ExcH F.C ρ mh (F.env :: l) s₁.heap e h') :
    wpAny (model F.C.prog F.C.w) F.A (leaving F.env (.ref e)) (fun _ s'' => ExcR F.C ρ mh l s₀ (.error (.ref e)) s'') (fun e' s'' => ExcR F.C ρ mh l s₀ (.error e') s'') { s₁ with heap := h', toks := tk } := by
  obtain ⟨⟨base, t, fl, hb, co⟩, sl⟩ := x
  have keep : ∀ a o, s₀.heap.get? a = some o → a ∉ ρ → s₁.heap.get? a = some o := fun a o e n => fx.keep a o (h0 ▸ e) (hρ ▸ n)
  refine wpAny_leaves_onW (base := base) (outer := l) (hA ▸ Around.frames_deeper hfr) fx.st.frm fl fun h'' fl' up => ?_
  refine ⟨e, h'', tk, rfl, by rw [hs], ⟨base, t, fl', fun a o ea n n' => hb a o (keep a o ea n) n fun q => (List.mem_cons.mp q).elim (fun q => ?_) n', co⟩, fun a ha o ea => ?_⟩
  · rw [q] at ea
    exact nono fx.st.loc₀ (h0 ▸ ea)
  · obtain ⟨env, q, rfl⟩ := List.mem_map.mp ha
    obtain ⟨m, o', es, ep, ho', hd, _⟩ := (hl env q).ns
    cases ho'.symm.trans ea
    obtain ⟨sl1, h1⟩ := sl _ (.tail _ ha) o (keep _ _ ea (hk env q))
    obtain ⟨sl2, h2⟩ := up _ _ h1 fun vs q => by rw [show ({ o with slots := sl1 } : Obj).data = o.data from rfl, hd] at q; cases q
    exact ⟨sl2, h2⟩
theorem raise_inv {sc : List (Str × NameKind)} {s' : Stmt} (h : raiseM sc s' = true) : ∃ np l k p cpos pos, s' = .Raise (some (.Call (.Name "ValueError" np) [.Constant (.str l) k p] [] cpos)) none pos ∧ sc.lookup ("ValueError" : Str) = some .globalImplicit := by
  obtain ⟨e, pos, e0, g⟩ := raiN_inv h
  clear h; subst e0
  obtain ⟨n, np, as, cpos, e0, h⟩ := callN_inv g
  clear g; subst e0
  obtain ⟨q, g⟩ := band h
  clear h
  obtain ⟨a, e0, g1⟩ := oneN_inv g
  clear g; subst e0
  obtain ⟨c, k, p, e0, g⟩ := constN_inv g1
  clear g1; subst e0
  obtain ⟨h1, h2⟩ := band q
  clear q
  have h1 : n = ("ValueError" : Str) := eq_of_beq h1
  subst h1
  cases c with
  | str l => exact ⟨_, _, _, _, _, _, rfl, eq_of_beq h2⟩
  | _ => exact Bool.noConfusion g
theorem load_ve {A : Around} {fns : List Str} {sc : List (Str × NameKind)} {pos : Pos} {Q : Value → Shared → Prop} (K : CfgOk C fns) (ho : EnvOk env sc) (hx : sc.lookup ("ValueError" : Str) = some .globalImplicit) (co : Co C ρ mh s.heap) (h : Q (.type "ValueError") s) :
    WP C A (eval (.Name ("ValueError" : Str) pos) env) Q s :=
  load_bi ho hx (by decide) co K.ve.1 K.ve.2 h
noncomputable def Γ0 : Tab := fun _ _ _ _ _ => False
theorem Γ0_ok {k : Nat} : TabOk C Γ0 k := { sound := fun ξ f vs kws mh Q h => h.elim, ref := fun vs kws mh Q h => h.elim }
theorem mtIf_inv {X : TX} {sc : List (Str × NameKind)} {c : MC} {t e : List MS} {s' : Stmt} (h : mtS X sc (.ite c t e) s' = true) : ∃ c' t' e' pos, s' = .If c' t' e' pos ∧ mtC X sc c c' = true ∧ mtSs X sc t t' = true ∧ mtSs X sc e e' = true := by
  obtain ⟨⟨⟨c', t', e', pos⟩, rfl⟩, h⟩ := optB_inv h
  obtain ⟨h, h3⟩ := band h
  obtain ⟨h1, h2⟩ := band h
  exact ⟨c', t', e', pos, rfl, h1, h2, h3⟩
theorem bis_raise {fns : List Str} {n f : Nat} {d : FnDef} {a x hv key : V} {lo : Int} {rest : List MS} {vs : List V} {kws : List (Str × V)} {A : Around} {xs : List Value} {kxs : List (Str × Value)} (K : CfgOk C fns) (hF : FnRec C fns f d)
    (hd : d.body = .ite (.cmp .Lt (.var 2) (.const (.int 0))) [.raise] [] :: rest) (hlo : lo < 0) (hus : bindF d vs kws = some [a, x, .int lo, hv, key]) (rm : Rm (n + 1) A) (co : Co C ρ mh s.heap) (r : VAll C s.heap ρ vs xs)
    (hk : kws.map (·.1) = kxs.map (·.1)) (rk : VAll C s.heap ρ (kws.map (·.2)) (kxs.map (·.2))) (hfr : A.frames = some l) (hl : ∀ env ∈ l, FrE C s.heap env) :
    codeAny (model C.prog C.w) A (.call (.ref (C.fa f)) ⟨xs, kxs⟩) (ExcR C ρ mh l s) s := by
  refine fnEnter (ξ := C.ξ) K (Γ0_ok (k := n)) hF hus rm co r hk rk fun sc body env h₁ tk₁ hmt up fx => codeAny_func ?_
  rw [hd] at hmt
  obtain ⟨st, body', rfl, hst, _⟩ := mtSs_inv hmt
  obtain ⟨c', t', e', pos, rfl, hc, ht, _⟩ := mtIf_inv hst
  obtain ⟨rs, t'', rfl, hrs, _⟩ := mtSs_inv ht
  obtain ⟨np, txt, k, p, cpos, rpos, rfl, hsc⟩ := raise_inv hrs
  refine wpAny_execs_cons (wpAny_If (wp_e ((okC _ _ _ (s := { s with heap := h₁, toks := tk₁ }) fx.cx hc (Q := fun b m => b = true ∧ m = mh) ⟨fun _ => ⟨rfl, rfl⟩, fun q => absurd hlo q⟩).goB fun b h₂ tk₂ m₂ q₂ k₂ co₂ => ?_)))
  obtain ⟨rfl, rfl⟩ := q₂
  have f₂ := fx.step k₂ co₂
  refine wpAny_execs_cons (Raise_madeB PySem.F.excCall_ValueError PySem.F.excRaise_ValueError f₂.cx.rm.hh (wp_e (load_ve (s := { s with heap := h₂, toks := tk₂ }) f₂.cx.K f₂.cx.ho hsc co₂ ⟨rfl, ?_⟩)))
  refine args_cons (wpAny_Constant_str (args_nil ⟨(by decide : 1 ≤ sizeLine), fun h₃ e made => ?_⟩))
  have hl₂ : ∀ e' ∈ env :: l, FrE C h₂ e' := fun e' q => (List.mem_cons.mp q).elim (fun q => q ▸ f₂.frE) fun q => (hl e' q).keep fun o ho => k₂ _ o (up _ o ho) ((hl e' q).notρ co)
  refine wpAny_leaves_madeW (base := cut h₂ (locs (env :: l))) (h := h₂) (outer := l) (Around.frames_deeper hfr) fx.st.frm cut_stays (funFrames (fun e' q => cut_in (List.mem_map.mpr ⟨e', q, rfl⟩)) hl₂) made.of fun h₄ t fl _ _ upS => ?_
  refine ⟨e, h₄, _, rfl, rfl, ⟨_, _, fl, fun a o ea na n' => (cut_out fun q => ?_).trans (k₂ a o (up a o ea) na), co₂.cut hl₂⟩, fun a ha o ea => ?_⟩
  · exact (List.mem_cons.mp q).elim (fun q => by rw [q] at ea; exact nono fx.st.loc₀ ea) n'
  · obtain ⟨e', q, rfl⟩ := List.mem_map.mp ha
    obtain ⟨m, o', es, ep, ho', hd', _⟩ := (hl e' q).ns
    cases ho'.symm.trans ea
    exact upS _ _ (made.keeps _ _ (k₂ _ o (up _ o ea) ((hl e' q).notρ co))) fun vs q => nomatch hd'.symm.trans q
end
open PySem PySem.Calls PySem.W PyProof.Rows PySem.SeqAt
set_option maxRecDepth 100000
set_option linter.unusedVariables false
theorem call_plain {X : TX} {sc : List (Str × NameKind)} {f : ME} {es : List ME} {ks : List Str} {kes : List ME} {e' : Expr} (h : mtE X sc (.call f es ks kes) e' = true) : isLC e' = false ∧ isSD e' = false := by
  obtain ⟨⟨⟨_, _, _, _⟩, rfl⟩, _⟩ := optB_inv h
  exact ⟨rfl, rfl⟩
noncomputable def low (d : FnDef) : Prop := ∃ rest, d.body = .ite (.cmp .Lt (.var 2) (.const (.int 0))) [.raise] [] :: rest
section
variable {C : Cfg} {ρ : List Addr} {mh : MH} {l : List Env} {s : Shared}
theorem asg_raise {F : FC} {loc : Loc} {fns : List Str} {A : Around} {s₀ s₁ : Shared} {gb n : Nat} {d : FnDef} {f : ME} {es : List ME} {ks : List Str} {kes : List ME} {e' : Expr} {a hv key : V} {lo : Int} {R : Value → Shared → Prop}
    (K : CfgOk F.C fns) (hF : FnRec F.C fns gb d) (hd : low d) (hlo : lo < 0) (hA : F.A = A.deeper F.env) (fx : Fx F loc ρ mh s₁.heap) (h0 : F.h₀ = s₀.heap) (hs : s₁ = { s₀ with heap := s₁.heap, toks := s₁.toks }) (hfr : A.frames = some l) (hk : F.k = n + 1)
    (hρ : F.ρ₀ = ρ) (co₀ : Co F.C ρ mh s₀.heap) (hl : ∀ env ∈ l, FrE F.C s₀.heap env) (hm : mtE F.X F.sc (.call f es ks kes) e' = true)
    (he : wpE F.Γ f loc mh fun p m => fnW p fun g => wpEs F.Γ es loc m fun q m => wpEs F.Γ kes loc m fun r m => r.length = ks.length ∧ g = gb ∧ m = mh ∧ ∃ kx, bindF d q (ks.zip r) = some [a, kx, .int lo, hv, key]) :
    wpAny (model F.C.prog F.C.w) F.A (eval e' F.env) R (fun e s' => wpAny (model F.C.prog F.C.w) F.A (leaving F.env e) (fun _ s'' => ExcR F.C ρ mh l s₀ (.error e) s'') (fun e' s'' => ExcR F.C ρ mh l s₀ (.error e') s'') s') s₁ := by
  refine call_core (okE F.X F.Γ f) (okEs F.X F.Γ es) (okEs F.X F.Γ kes) fx.cx hm (P := fun g q kws m => g = gb ∧ m = mh ∧ ∃ kx, bindF d q kws = some [a, kx, .int lo, hv, key]) he ?_
  rintro g q kws m h tk xs kxs ⟨rfl, rfl, kx, hb⟩ k₁ co r hk' rk
  obtain ⟨rest, hd⟩ := hd
  have f₁ := fx.step k₁ co
  have hl₁ : ∀ e' ∈ F.env :: l, FrE F.C h e' := fun e' q => (List.mem_cons.mp q).elim (fun q => q ▸ f₁.frE) fun q => (hl e' q).keep fun o ho => f₁.keep _ o (h0 ▸ ho) (hρ ▸ (hl e' q).notρ co₀)
  refine wpAny_call (codeAny_mono (bis_raise (n := n) K hF hd hlo hb (hk ▸ fx.cx.rm) co r hk' rk (l := F.env :: l) (hA ▸ Around.frames_deeper hfr) hl₁) ?_)
  rintro _ _ ⟨e, h', tk', rfl, rfl, x⟩
  exact exc_leave (s₁ := { s₁ with heap := h, toks := tk }) hA f₁ h0 (by rw [hs]) hfr hρ hl (fun e' q => (hl e' q).notρ co₀) x
theorem ins_raise {fns : List Str} {Γ : Tab} {n f gb : Nat} {d db : FnDef} {a x hv key : V} {lo : Int} {rest : List MS} {vs : List V} {kws : List (Str × V)} {A : Around} {xs : List Value} {kxs : List (Str × Value)} (K : CfgOk C fns) (tab : TabOk C Γ (n + 1)) (hF : FnRec C fns f d)
    (hd : d.body = .ite (.cmp .Is (.var 4) (.const .none)) [.assign 2 (.call (.glob gb) [.var 0, .var 1, .var 2, .var 3] [] [])] [.assign 2 (.call (.glob gb) [.var 0, .call (.var 4) [.var 1] [] [], .var 2, .var 3] ["key"] [.var 4])] :: rest) (hv5 : d.vars.length = 5)
    (hFb : FnRec C fns gb db) (hdb : low db) (hbb : db.bis = true) (hlo : lo < 0) (hus : bindF d vs kws = some [a, x, .int lo, hv, key]) (hkey : key = .none ∨ ∃ g, key = .fn g ∧ ∀ K : V → MH → Prop, (∀ v, K v mh) → Γ g [x] [] mh K) (rm : Rm (n + 2) A) (co : Co C ρ mh s.heap) (r : VAll C s.heap ρ vs xs)
    (hk : kws.map (·.1) = kxs.map (·.1)) (rk : VAll C s.heap ρ (kws.map (·.2)) (kxs.map (·.2))) (hfr : A.frames = some l) (hl : ∀ env ∈ l, FrE C s.heap env) :
    codeAny (model C.prog C.w) A (.call (.ref (C.fa f)) ⟨xs, kxs⟩) (ExcR C ρ mh l s) s := by
  refine fnEnter (ξ := C.ξ) K tab hF hus rm co r hk rk fun sc body env h₁ tk₁ hmt up fx => codeAny_func ?_
  rw [hd] at hmt
  have hen : entry d [a, x, .int lo, hv, key] = [some a, some x, some (.int lo), some hv, some key] := by
    unfold entry
    rw [hv5]; rfl
  rw [hen] at fx
  obtain ⟨st, body', rfl, hst, _⟩ := mtSs_inv hmt
  obtain ⟨c', t', e', pos, rfl, hc, ht, he⟩ := mtIf_inv hst
  have bnd : ∀ {q : List V} {kws : List (Str × V)} {k kx : V}, q = [a, kx, .int lo, hv] → keyOf kws = some k → bindF db q kws = some [a, kx, .int lo, hv, k] := by
    intro q kws k kx e1 e2
    subst e1
    unfold bindF
    rw [hbb]
    show (keyOf kws).map _ = _
    rw [e2]; rfl
  refine wpAny_execs_cons (wpAny_If (wp_e ((okC _ _ _ (s := { s with heap := h₁, toks := tk₁ }) fx.cx hc (Q := fun b m => (b = true ↔ key = .none) ∧ m = mh) ⟨rfl, fun q => ⟨⟨fun _ => q, fun _ => rfl⟩, rfl⟩, fun q => ⟨⟨fun e => Bool.noConfusion e, fun e => (q e).elim⟩, rfl⟩⟩).goB fun b h₂ tk₂ m₂ q₂ k₂ co₂ => ?_)))
  obtain ⟨hbk, rfl⟩ := q₂
  have f₂ := fx.step k₂ co₂
  cases b with
  | true =>
    obtain rfl := hbk.mp rfl
    obtain ⟨as, t'', rfl, has, _⟩ := mtSs_inv ht
    obtain ⟨x', px, ev, ap, rfl, _, _, _, hm⟩ := asgM_inv has
    obtain ⟨p1, p2⟩ := call_plain hm
    refine wpAny_execs_cons (wpAny_Assign_Name ?_ (swaps_none p1 p2 _))
    exact asg_raise (s₀ := s) (s₁ := { s with heap := h₂, toks := tk₂ }) K hFb hdb hlo rfl f₂ rfl rfl hfr rfl rfl co hl hm ⟨rfl, rfl, rfl, _, bnd rfl rfl⟩
  | false =>
    obtain ⟨g, rfl, hg⟩ := hkey.resolve_left fun e => Bool.noConfusion (hbk.mpr e)
    obtain ⟨as, t'', rfl, has, _⟩ := mtSs_inv he
    obtain ⟨x', px, ev, ap, rfl, _, _, _, hm⟩ := asgM_inv has
    obtain ⟨p1, p2⟩ := call_plain hm
    refine wpAny_execs_cons (wpAny_Assign_Name ?_ (swaps_none p1 p2 _))
    refine asg_raise (a := a) (hv := hv) (key := .fn g) (s₀ := s) (s₁ := { s with heap := h₂, toks := tk₂ }) K hFb hdb hlo rfl f₂ rfl rfl hfr rfl rfl co hl hm ?_
    refine ⟨rfl, hg _ fun v => ?_⟩
    exact ⟨rfl, rfl, rfl, v, bnd rfl rfl⟩
theorem hand_inv {sc : List (Str × NameKind)} {h : ExceptHandler} (q : handM sc h = true) : ∃ p1 r p2 p3 p4, h = .ExceptHandler (some (.Name "ValueError" p1)) none [.Return (some (.Constant (.bool true) r p2)) p3] p4 ∧ sc.lookup ("ValueError" : Str) = some .globalImplicit := by
  obtain ⟨t, n, b, pos⟩ := h
  cases t with
  | none => exact Bool.noConfusion q
  | some t =>
    obtain ⟨q, g⟩ := band q
    obtain ⟨hn, q⟩ := band q
    obtain ⟨x, p, e0, q1⟩ := nameN_inv q
    clear q; subst e0
    obtain ⟨hx, hg⟩ := band q1
    clear q1
    have hx : x = ("ValueError" : Str) := eq_of_beq hx
    subst hx
    obtain ⟨r, e0, g1⟩ := oneN_inv g
    clear g; subst e0
    obtain ⟨e, p2, e0, g⟩ := retN_inv g1
    clear g1; subst e0
    obtain ⟨c, k, p3, e0, g1⟩ := constN_inv g
    clear g; subst e0
    have g : c = .bool true := eq_of_beq g1
    clear g1; subst g
    cases n with
    | none => exact ⟨_, _, _, _, _, rfl, eq_of_beq hg⟩
    | some _ => exact Bool.noConfusion hn
theorem try_inv {X : TX} {sc : List (Str × NameKind)} {e : ME} {s' : Stmt} (h : mtS X sc (.tryR e) s' = true) : ∃ e' p1 p2 p3 r p4 p5 pos, s' = .Try [.Expr e' p1] [.ExceptHandler (some (.Name "ValueError" p2)) none [.Return (some (.Constant (.bool true) r p3)) p4] p5] [] [] pos ∧
    mtE X sc e e' = true ∧ sc.lookup ("ValueError" : Str) = some .globalImplicit := by
  replace h : tryN s' (fun b hs => oneN hs (fun h => handM sc h) && oneN b fun st => exprN st fun x => mtE X sc e x) = true := h
  obtain ⟨b, hs, pos, e0, g⟩ := tryN_inv h
  clear h; subst e0
  obtain ⟨h1, h2⟩ := band g
  clear g
  obtain ⟨hd, e0, g1⟩ := oneN_inv h1
  clear h1; subst e0
  obtain ⟨st, e0, g2⟩ := oneN_inv h2
  clear h2; subst e0
  obtain ⟨e', p, e0, h2⟩ := exprN_inv g2
  clear g2; subst e0
  obtain ⟨_, _, _, _, _, e0, hx⟩ := hand_inv g1
  subst e0
  exact ⟨_, _, _, _, _, _, _, _, rfl, h2, hx⟩
theorem caught {F : FC} {loc : Loc} {A : Around} {env : Env} {s₀ s₁ : Shared} {e : Addr} {h' : Heap} {tk : Nat} {p1 p2 p3 p4 : Pos} {r : Nat} {Q : Flow → Shared → Prop} {E : Value → Shared → Prop} (hA : F.A = A.deeper F.env) (fx : Fx F loc ρ mh s₁.heap) (h0 : F.h₀ = s₀.heap) (hs : s₁ = { s₀ with heap := s₁.heap, toks := s₁.toks }) (hfr : A.frames = some [env])
    (hρ : F.ρ₀ = ρ) (hE : FrE F.C s₀.heap env) (hk : env.locals ∉ ρ) (hsc : F.sc.lookup ("ValueError" : Str) = some .globalImplicit) (x : ExcH F.C ρ mh [F.env, env] s₁.heap e h')
    (q : ∀ s', RefP F.C ρ mh env s₀ (.bool true) s' → Q (.ret (.bool true)) s') :
    wpAny (model F.C.prog F.C.w) F.A (noteFrame (.ref e) F.env) (fun _ s₂ => wpAny (model F.C.prog F.C.w) F.A (setFlight (.ref e) none) (fun _ s₃ => wpAny (model F.C.prog F.C.w) F.A (handleBy (.ref e) F.env [.ExceptHandler (some (.Name "ValueError" p1)) none [.Return (some (.Constant (.bool true) r p2)) p3] p4]) Q E s₃) E s₂) E { s₁ with heap := h', toks := tk } := by
  obtain ⟨⟨base, t, fl, hb, co⟩, sl⟩ := x
  refine wpAny_looks_onW (base := base) (outer := [env]) (hA ▸ Around.frames_deeper hfr) fx.st.frm fl fun h₂ held up₂ => wpAny_landsW held fun h₃ fl₃ up₃ => ?_
  obtain ⟨ob, hob, hcls⟩ := fl₃.there
  have co₃ : Co F.C ρ mh h₃ := co.keepAll fl₃.1
  refine wpAny_handleBy_builtin (X := "ValueError") (T := "ValueError") (b := true) (by rfl) (by rfl) (by rfl) (wp_e (load_ve fx.cx.K fx.cx.ho hsc co₃ ⟨rfl, ⟨ob, hob, hcls⟩, ?_⟩))
  refine lands_againW fl₃ fun h₄ fl₄ up₄ => ?_
  refine wpAny_execs_cons (wpAny_Return_some (Constant_bool ?_))
  have co₄ : Co F.C ρ mh h₄ := co.keepAll fl₄.1
  have keep : ∀ a o, s₀.heap.get? a = some o → a ∉ ρ → s₁.heap.get? a = some o := fun a o e n => fx.keep a o (h0 ▸ e) (hρ ▸ n)
  refine q _ ⟨rfl, h₄, tk, by rw [hs], fun a o ea n n' => fl₄.1 a o (hb a o (keep a o ea n) n fun m => ?_), fun o ea => ?_, co₄⟩
  · rcases List.mem_cons.mp m with m | m
    · rw [m] at ea; exact nono fx.st.loc₀ (h0 ▸ ea)
    · exact n' (mem_one m)
  · obtain ⟨m, o', es, ep, ho', hd, _⟩ := hE.ns
    cases ho'.symm.trans ea
    obtain ⟨sl1, h1⟩ := sl env.locals (.tail _ (.head _)) o (keep _ _ ea hk)
    obtain ⟨sl2, h2⟩ := ((up₂.trans up₃).trans up₄) _ _ h1 fun vs q => nomatch hd.symm.trans (show o.data = _ from q)
    exact ⟨sl2, h2⟩
end
open PySem PySem.Calls PySem.W PyProof.Rows PySem.SeqAt
set_option maxRecDepth 100000
set_option linter.unusedVariables false
noncomputable def RefA (F : List FnDef) (f : Nat) (item key : V) (mh : MH) : Prop := f = 1 ∨ f = 3 ∨ ((f = 0 ∨ f = 2) ∧ (key = .none ∨ ∃ g, key = .fn g ∧ ∀ K : V → MH → Prop, (∀ v, K v mh) → runF F nov 2 g [item] [] mh K))
noncomputable def RefC (F : List FnDef) (vs : List V) (mh : MH) : Prop := ∃ f row item d up key, vs = [.fn f, row, item, .int d, up, key] ∧ d < 0 ∧ RefA F f item key mh
noncomputable def ov1 (F : List FnDef) : Ov := fun n f vs kws mh Q => f = 999 ∧ kws = [] ∧ n + 2 = topK ∧ (∃ us, vs = .mut mh.length :: us ∧ RefC F us mh) ∧ Q (.bool true) mh
section
variable {C : Cfg} {ρ : List Addr} {mh : MH} {l : List Env} {s : Shared} {fns : List Str} {F : List FnDef}
theorem act_raise {f : Nat} {row item up key : V} {d : Int} {A : Around} {xs : List Value} {kxs : List (Str × Value)} (K : CfgOk C fns) (tab : TabOk C (runF F nov 2) 2) (f0 : FnRec C fns 0 d0_0) (f1 : FnRec C fns 1 d0_1) (f2 : FnRec C fns 2 d0_2) (f3 : FnRec C fns 3 d0_3)
    (hd : d < 0) (hc : RefA F f item key mh) (rm : Rm 3 A) (co : Co C ρ mh s.heap) (r : VAll C s.heap ρ [row, item, .int d, up] xs) (hk : [("key" : Str)] = kxs.map (·.1)) (rk : VAll C s.heap ρ [key] (kxs.map (·.2))) (hfr : A.frames = some l) (hl : ∀ env ∈ l, FrE C s.heap env) :
    codeAny (model C.prog C.w) A (.call (.ref (C.fa f)) ⟨xs, kxs⟩) (ExcR C ρ mh l s) s := by
  have kk : keyOf [(("key" : Str), key)] = some key := rfl
  rcases hc with rfl | rfl | ⟨rfl | rfl, hc⟩
  · exact bis_raise (n := 2) (kws := [("key", key)]) K f1 rfl hd rfl rm co r hk rk hfr hl
  · exact bis_raise (n := 2) (kws := [("key", key)]) K f3 rfl hd rfl rm co r hk rk hfr hl
  · exact ins_raise (n := 1) (kws := [("key", key)]) K tab f0 rfl rfl f1 ⟨_, rfl⟩ rfl hd rfl hc rm co r hk rk hfr hl
  · exact ins_raise (n := 1) (kws := [("key", key)]) K tab f2 rfl rfl f3 ⟨_, rfl⟩ rfl hd rfl hc rm co r hk rk hfr hl
theorem ov1_ok (K : CfgOk C fns) (hF : ∀ f d, F[f]? = some d → FnRec C fns f d) (h0 : F[0]? = some d0_0) (h1 : F[1]? = some d0_1) (h2 : F[2]? = some d0_2) (h3 : F[3]? = some d0_3) (h8 : F[8]? = some d1_8) (hl : F[999]? = none) (n : Nat) : TabOk C (ov1 F n) (n + 1) where
  sound := by
    rintro ξ f vs kws mh Q ⟨_, _, _, ⟨us, rfl, _⟩, _⟩ A s ρ xs kxs rm co ⟨y, ys, rfl, ⟨a, rfl, e⟩, _⟩ hk rk
    exact absurd (co.m.len ▸ (List.getElem?_eq_some_iff.mp e).1 : mh.length < mh.length) (Nat.lt_irrefl _)
  ref := by
    rintro vs kws mh Q ⟨_, rfl, hn, ⟨us, e, rc⟩, q⟩
    cases e
    refine ⟨rfl, hn, q, fun ξ A s ρ xs env rm co r hfr hE => ?_⟩
    obtain ⟨f, row, item, d, up, key, rfl, hd, hc⟩ := rc
    refine wpAny_call (fnEnter (Γ := Γ0) (n := n) (kws := []) (kxs := []) K Γ0_ok (hF 8 _ h8) (us := [.fn f, row, item, .int d, up, key]) rfl rm co r rfl .nil fun sc body env' h₁ tk₁ hmt upk fx => codeAny_func ?_)
    have fx : Fx _ [some (.fn f), some row, some item, some (.int d), some up, some key] ρ mh h₁ := fx
    obtain ⟨st, body', rfl, hst, _⟩ := mtSs_inv hmt
    obtain ⟨e', p1, p2, p3, r', p4, p5, pos, rfl, hm, hsc⟩ := try_inv hst
    refine wpAny_execs_cons (wpAny_Try_except (wpAny_execs_cons (wpAny_Expr ?_ (by rw [interactive, fx.cx.ho.kind]; rfl) (swaps_none (call_plain hm).1 (call_plain hm).2 none))))
    refine call_core (C := { C with ξ := ξ }) (s := { s with heap := h₁, toks := tk₁ }) (okE _ Γ0 (.var 0)) (okEs _ Γ0 [.var 1, .var 2, .var 3, .var 4]) (okEs _ Γ0 [.var 5]) fx.cx hm (P := fun g q kws m => g = f ∧ m = mh ∧ q = [row, item, .int d, up] ∧ kws = [(("key" : Str), key)]) ⟨rfl, rfl, rfl, rfl, rfl⟩ ?_
    rintro g q kws m h tk xs kxs ⟨rfl, rfl, rfl, rfl⟩ k₁ co₁ r₁ hk rk
    have f₁ := fx.step k₁ co₁
    have hl₁ : ∀ e' ∈ [env', env], FrE { C with ξ := ξ } h e' := fun e' q => (List.mem_cons.mp q).elim (fun q => q ▸ f₁.frE) fun q => (List.mem_singleton.mp q) ▸ hE.keep fun o ho => f₁.keep _ o ho (hE.notρ co)
    have rm3 : Rm 3 (A.deeper env') := f₁.cx.rm.mono (by have : n + 2 = 21 := hn; show 3 ≤ n; omega)
    refine wpAny_call (codeAny_mono (act_raise (C := { C with ξ := ξ }) (l := [env', env]) K.ext (tabOk K hF nov_ok hl 2).ext (hF 0 _ h0) (hF 1 _ h1) (hF 2 _ h2) (hF 3 _ h3) hd hc rm3 co₁ r₁ hk rk (Around.frames_deeper hfr) hl₁) ?_)
    rintro _ _ ⟨e, h', tk', rfl, rfl, x⟩
    exact caught (s₀ := s) (s₁ := { s with heap := h, toks := tk }) rfl f₁ rfl rfl hfr rfl hE (hE.notρ co) hsc x fun s' q => q
end
open PySem PySem.Calls PySem.W PyProof.Rows PySem.SeqAt
set_option maxRecDepth 100000
set_option linter.unusedVariables false
theorem nn {i : Int} (h : 0 ≤ i) : nonNeg (some i) := fun _ e => by cases e; exact h
theorem last_get {mh : MH} {vs : List V} : (mh ++ [vs])[mh.length]? = some vs := List.getElem?_concat_length
theorem last_set {mh : MH} {vs us : List V} : (mh ++ [vs]).set mh.length us = mh ++ [us] := by
  rw [List.set_append_right _ _ (Nat.le_refl _), Nat.sub_self]; rfl
theorem outMut {mh : MH} {vs : List V} {Q : V → MH → Prop} {l : Loc} (q : Q (.list vs) mh) : outW mh.length Q (.ret (.mut mh.length)) l (mh ++ [vs]) := by
  show Q (frz mh.length (mh ++ [vs]) mh.length) ((mh ++ [vs]).take mh.length)
  unfold frz
  rw [decide_eq_false (Nat.lt_irrefl _), last_get, List.take_left']
  exact q
  rfl
theorem hbig {n : Nat} (h : n ≤ 10000000) : n < big := Nat.lt_of_le_of_lt h (by decide)
theorem lim1000 {n : Nat} (h : n ≤ 1000) : n ≤ lim := Nat.le_trans h (by decide)
theorem val_snoc {ds : List Nat} {d : Nat} : val (ds ++ [d]) = 16 * val ds + d := by
  rw [val_app]; simp [val]; omega
theorem mem_zip_self : ∀ {vs : List V} {p : V × V}, p ∈ vs.zip vs → p.1 = p.2 ∧ p.1 ∈ vs
  | [], _, h => nomatch h
  | v :: vs, p, h => (List.mem_cons.mp h).elim (fun e => e ▸ ⟨rfl, .head _⟩) fun h => ⟨(mem_zip_self h).1, .tail _ (mem_zip_self h).2⟩
theorem eqok_list {n : Nat} {vs : List V} (h : ∀ v ∈ vs, eqok n v v) : eqok (n + 1) (.list vs) (.list vs) :=
  .inr ⟨vs, vs, rfl, rfl, .inr fun p hp => (mem_zip_self hp).1 ▸ h _ (mem_zip_self hp).2⟩
theorem eqok_int {n : Nat} {i : Int} : eqok (n + 1) (.int i) (.int i) := .inl ⟨_, rfl⟩
theorem c_nel {mh : MH} {vs ws : List V} {QB : Bool → Prop} (e : vs = ws) (h : ∀ v ∈ vs, eqok 7 v v) (q : QB false) : cmpW .NotEq mh (.list vs) (.list ws) QB := by
  subst e
  exact ⟨eqok_list h, br_f (fun q => q rfl) q⟩
theorem c_eql {mh : MH} {vs ws : List V} {QB : Bool → Prop} (e : vs = ws) (h : ∀ v ∈ vs, eqok 7 v v) (q : QB true) : cmpW .Eq mh (.list vs) (.list ws) QB := by
  subst e
  exact ⟨eqok_list h, br_t rfl q⟩
theorem rng_at {α : Type} {f : Nat → α} {k n : Nat} (hk : k < n) : ((List.range n).map f)[k]? = some (f k) := by rw [List.getElem?_map, List.getElem?_range hk]; rfl
theorem compMapA {α : Type} {tst : V → (Bool → Prop) → Prop} {el : V → (V → Prop) → Prop} {l : List α} {e g : α → V} {K : List V → Prop} (ht : ∀ v, ∀ K : Bool → Prop, K true → tst v K) (he : ∀ a ∈ l, ∀ K : V → Prop, K (g a) → el (e a) K)
    (k : K (l.map g)) : compW tst el (l.map e) K := by
  refine ⟨fun i out => out = (l.take i).map g, rfl, fun i v out hv q => ht v _ ?_, fun out q => ?_⟩
  · have q : out = (l.take i).map g := q
    rw [List.getElem?_map] at hv
    obtain ⟨a, ha, rfl⟩ := Option.map_eq_some_iff.mp hv
    refine he a (List.mem_of_getElem? ha) _ ?_
    show out ++ [g a] = (l.take (i + 1)).map g
    rw [List.take_add_one, ha, List.map_append, ← q]; rfl
  · have q : out = (l.take (l.map e).length).map g := q
    rw [List.length_map, List.take_length] at q
    exact q ▸ k
theorem compFiltA {α : Type} {tst : V → (Bool → Prop) → Prop} {el : V → (V → Prop) → Prop} {l : List α} {e : α → V} {K : List V → Prop} (t : α → Bool) (ht : ∀ a ∈ l, ∀ K : Bool → Prop, K (t a) → tst (e a) K) (he : ∀ a, ∀ K : V → Prop, K (e a) → el (e a) K)
    (k : K ((l.filter t).map e)) : compW tst el (l.map e) K := by
  refine ⟨fun i out => out = ((l.take i).filter t).map e, rfl, fun i v out hv q => ?_, fun out q => ?_⟩
  · have q : out = ((l.take i).filter t).map e := q
    rw [List.getElem?_map] at hv
    obtain ⟨a, ha, rfl⟩ := Option.map_eq_some_iff.mp hv
    refine ht a (List.mem_of_getElem? ha) _ ?_
    dsimp only
    have e2 : l.take (i + 1) = l.take i ++ [a] := by rw [List.take_add_one, ha]; rfl
    rw [e2, List.filter_append, List.map_append, ← q]
    cases q' : t a with
    | true => exact he a _ (by rw [List.filter_cons_of_pos q']; rfl)
    | false => show out = _; rw [List.filter_cons_of_neg (by rw [q']; exact Bool.noConfusion)]; exact (List.append_nil _).symm
  · have q : out = ((l.take (l.map e).length).filter t).map e := q
    rw [List.length_map, List.take_length] at q
    exact q ▸ k
theorem cut_none {α : Type} (l : List α) (p : Nat) : cutL l none (some (p : Int)) = l.take p := rfl
theorem cut_some {α : Type} (l : List α) (p : Nat) : cutL l (some (p : Int)) none = l.drop p := rfl
theorem apB_cut (E : List Nat) : cutL (apB (1 :: E)) (some 1) none = apB E := rfl
theorem sorted_count {α : Type} {P : α → Bool} : ∀ {L : List α}, L.Pairwise (fun a b => P b = true → P a = true) → ∀ i a, L[i]? = some a → (P a = true ↔ i < L.countP P)
  | [], _, i, a, h => by simp at h
  | x :: L, hp, 0, a, h => by
    simp at h; subst h
    obtain ⟨h1, h2⟩ := List.pairwise_cons.mp hp
    by_cases hx : P x = true
    · simp [hx, List.countP_cons]
    · have : L.countP P = 0 := by
        rw [List.countP_eq_zero]; intro b hb hb'; exact hx (h1 b hb hb')
      simp [hx, List.countP_cons, this]
  | x :: L, hp, i + 1, a, h => by
    obtain ⟨h1, h2⟩ := List.pairwise_cons.mp hp
    have h : L[i]? = some a := by simpa using h
    have ih := sorted_count h2 i a h
    by_cases hx : P x = true
    · rw [List.countP_cons, ih]; simp [hx]
    · have h0 : L.countP P = 0 := by
        rw [List.countP_eq_zero]; intro b hb hb'; exact hx (h1 b hb hb')
      rw [List.countP_cons, ih]; simp [hx, h0]
theorem pairwise_lay {α : Type} {R : α → α → Prop} {L : List α} {x : α} {p : Nat} (h : L.Pairwise R) (h1 : ∀ a ∈ L.take p, R a x) (h2 : ∀ b ∈ L.drop p, R x b) : (L.take p ++ x :: L.drop p).Pairwise R := by
  rw [← List.take_append_drop p L, List.pairwise_append] at h
  obtain ⟨q1, q2, q3⟩ := h
  rw [List.pairwise_append, List.pairwise_cons]
  refine ⟨q1, ⟨h2, q2⟩, fun a ha b hb => ?_⟩
  rcases List.mem_cons.mp hb with rfl | hb
  · exact h1 a ha
  · exact q3 a ha b hb
theorem perm_lay {α : Type} (L : List α) (x : α) (p : Nat) : (L.take p ++ x :: L.drop p).Perm (x :: L) := by
  refine List.perm_middle.trans (List.Perm.cons x ?_)
  rw [List.take_append_drop]
theorem take_P {α : Type} {P : α → Bool} {L : List α} (h : L.Pairwise (fun a b => P b = true → P a = true)) : (∀ a ∈ L.take (L.countP P), P a = true) ∧ (∀ a ∈ L.drop (L.countP P), ¬ P a = true) := by
  constructor
  · intro a ha
    obtain ⟨i, hi, e⟩ := List.mem_iff_getElem.mp ha
    rw [List.getElem_take] at e
    have hi' : i < L.countP P := by rw [List.length_take] at hi; omega
    refine (sorted_count h i a ?_).mpr hi'
    rw [← e]; simp
  · intro a ha
    obtain ⟨i, hi, e⟩ := List.mem_iff_getElem.mp ha
    rw [List.getElem_drop] at e
    intro q
    have := (sorted_count h (L.countP P + i) a (by rw [← e]; simp)).mp q
    omega
noncomputable def lay {α : Type} (L : List α) (p : Nat) (x : α) : List α := L.take p ++ x :: L.drop p
theorem lay_map {α β : Type} (f : α → β) (L : List α) (p : Nat) (x : α) : (lay L p x).map f = lay (L.map f) p (f x) := by rw [lay, List.map_append, List.map_cons, List.map_take, List.map_drop]; rfl
open PySem PySem.Calls PySem.W PyProof.Rows PySem.SeqAt
set_option maxRecDepth 100000
set_option linter.unusedVariables false
theorem pow16 (n : Nat) : 0 < 16 ^ n := Nat.pow_pos (by decide)
theorem pad_val : ∀ (n : Nat) (ds : List Nat), ds.length = n → (∀ d ∈ ds, d < 16) → pad n (val ds) = ds
  | 0, ds, e, _ => by rw [List.length_eq_zero_iff.mp e]; rfl
  | n + 1, ds, e, h => by
    have hne : ds ≠ [] := fun q => by rw [q] at e; cases e
    have e1 := List.dropLast_concat_getLast hne
    have hl : ds.dropLast.length = n := by rw [List.length_dropLast, e]; rfl
    have hd : ds.getLast hne < 16 := h _ (List.getLast_mem hne)
    have ih := pad_val n ds.dropLast hl fun d q => h d (List.dropLast_subset ds q)
    rw [← e1, val_snoc, pad, show (16 * val ds.dropLast + ds.getLast hne) / 16 = val ds.dropLast by omega, show (16 * val ds.dropLast + ds.getLast hne) % 16 = ds.getLast hne by omega, ih]
theorem dg_shown {ds : List Nat} (h : ∀ d ∈ ds, d < 16) : dg (16 ^ ds.length + val ds) = 1 :: ds := by
  have := dg_add (n := 1) (by decide) ds.length (val ds) (val_lt h)
  rwa [Nat.one_mul, dg_one, pad_val _ ds rfl h] at this
noncomputable def strip : List Nat → List Nat
  | [] => []
  | d :: r => if d = 0 then strip r else d :: r
theorem strip_rep (l : List Nat) : ∀ n, strip (List.replicate n 0 ++ l) = strip l
  | 0 => rfl
  | n + 1 => (if_pos rfl : strip (0 :: (List.replicate n 0 ++ l)) = _).trans (strip_rep l n)
theorem strip_val {ds : List Nat} (h : ∀ d ∈ ds, d < 16) : dg (val ds) = strip ds := by
  have e := dg_pad ds.length (val ds) (val_lt h)
  rw [pad_val _ ds rfl h] at e
  rw [e, strip_rep, ← e]
  cases q : dg (val ds) with
  | nil => rfl
  | cons d r => exact (if_neg (dg_head _ d r q)).symm
theorem strip_sub {ds : List Nat} : ∀ d ∈ strip ds, d ∈ ds := by
  induction ds with
  | nil => exact fun d h => h
  | cons a r ih =>
    intro d h
    unfold strip at h
    split at h
    · exact .tail _ (ih d h)
    · exact h
theorem strip_len {ds : List Nat} : (strip ds).length ≤ ds.length := by
  induction ds with
  | nil => exact Nat.le_refl _
  | cons a r ih =>
    unfold strip
    split
    · exact Nat.le_succ_of_le ih
    · exact Nat.le_refl _
theorem put_val {ds : List Nat} (h : ∀ d ∈ ds, d < 16) (p f : Nat) : (val ds / 16 ^ (ds.length - p) * 16 + f) * 16 ^ (ds.length - p) + val ds % 16 ^ (ds.length - p) = val (lay ds p f) := by
  have e : val ds = val (ds.take p) * 16 ^ (ds.length - p) + val (ds.drop p) := by
    rw [← List.length_drop, ← val_app, List.take_append_drop]
  have hl : val (ds.drop p) < 16 ^ (ds.length - p) := List.length_drop (l := ds) ▸ val_lt fun d q => h d (List.mem_of_mem_drop q)
  have e1 : val ds / 16 ^ (ds.length - p) = val (ds.take p) := by
    rw [e, Nat.mul_comm, Nat.mul_add_div (pow16 _), Nat.div_eq_of_lt hl, Nat.add_zero]
  have e2 : val ds % 16 ^ (ds.length - p) = val (ds.drop p) := by
    rw [e, Nat.mul_comm, Nat.mul_add_mod, Nat.mod_eq_of_lt hl]
  rw [e1, e2, lay, val_app, val_cons, List.length_cons, List.length_drop, Nat.pow_succ, Nat.add_mul, Nat.add_assoc]
  rw [Nat.mul_assoc, Nat.mul_comm 16]
/-! the tall word: for each sixteen its A's and a B -/
noncomputable def tallC : List Nat → List Nat
  | [] => []
  | c :: r => List.replicate c 0 ++ 1 :: tallC r
noncomputable def endsC : Nat → List Nat → List Nat
  | _, [] => []
  | o, c :: r => (o + c) :: endsC (o + c + 1) r
noncomputable def bump : Nat → List Nat → List Nat
  | _, [] => []
  | 0, c :: r => (c + 1) :: r
  | p + 1, c :: r => c :: bump p r
theorem tallC_bit : ∀ {cs : List Nat}, ∀ d ∈ tallC cs, d = 0 ∨ d = 1
  | c :: r, d, h => (List.mem_append.mp h).elim (fun h => .inl (List.eq_of_mem_replicate h)) fun h => (List.mem_cons.mp h).elim .inr (tallC_bit d)
theorem tallC_len : ∀ {cs : List Nat}, (tallC cs).length = cs.sum + cs.length
  | [] => rfl
  | c :: r => by rw [tallC, List.length_append, List.length_replicate, List.length_cons, tallC_len, List.sum_cons, List.length_cons]; omega
theorem endsC_at : ∀ {cs : List Nat} {o p : Nat}, p < cs.length → (endsC o cs)[p]? = some (o + p + (cs.take (p + 1)).sum)
  | c :: r, o, 0, _ => by simp [endsC]
  | c :: r, o, p + 1, h => by
    rw [endsC, List.getElem?_cons_succ, endsC_at (Nat.lt_of_succ_lt_succ h), List.take_succ_cons, List.sum_cons]
    congr 1; omega
theorem endsC_len : ∀ {cs : List Nat} {o : Nat}, (endsC o cs).length = cs.length
  | [], _ => rfl
  | _ :: r, o => by rw [endsC, List.length_cons, endsC_len]; rfl
theorem lay_cons {α : Type} {a x : α} {l : List α} {p : Nat} : lay (a :: l) (p + 1) x = a :: lay l p x := rfl
theorem lay_app {α : Type} {x : α} {l : List α} {p : Nat} : ∀ {r : List α}, lay (r ++ l) (r.length + p) x = r ++ lay l p x
  | [] => by rw [List.length_nil, Nat.zero_add]; rfl
  | a :: r => by
    rw [List.length_cons, Nat.add_right_comm, List.cons_append, lay_cons, lay_app]; rfl
theorem tallC_bump : ∀ {cs : List Nat} {p : Nat}, p < cs.length → lay (tallC cs) (p + (cs.take (p + 1)).sum) 0 = tallC (bump p cs)
  | c :: r, 0, _ => by
    have h := lay_app (x := 0) (l := 1 :: tallC r) (p := 0) (r := List.replicate c 0)
    rw [List.length_replicate, Nat.add_zero] at h
    have e : (0 + (List.take (0 + 1) (c :: r)).sum) = c := by simp
    rw [e, tallC, h, bump, tallC, List.replicate_succ', List.append_assoc]
    rfl
  | c :: r, p + 1, h => by
    have ih := tallC_bump (cs := r) (p := p) (Nat.lt_of_succ_lt_succ h)
    have q := lay_app (x := 0) (l := tallC r) (p := p + (r.take (p + 1)).sum) (r := List.replicate c 0 ++ [1])
    rw [List.length_append, List.length_replicate, List.append_assoc, List.append_assoc] at q
    have e : p + 1 + (List.take (p + 1 + 1) (c :: r)).sum = c + [1].length + (p + (r.take (p + 1)).sum) := by rw [List.take_succ_cons, List.sum_cons]; show _ = c + 1 + _; omega
    rw [e]
    exact q.trans (by rw [ih]; rfl)
noncomputable def ones : Nat → List Nat → List Nat
  | _, [] => []
  | o, d :: r => if d = 1 then o :: ones (o + 1) r else ones (o + 1) r
theorem ones_filter : ∀ {l : List Nat} {o : Nat}, (List.range' o l.length).filter (fun k => decide (l[k - o]? = some 1)) = ones o l
  | [], _ => rfl
  | d :: r, o => by
    rw [List.length_cons, List.range'_succ]
    have ih := ones_filter (l := r) (o := o + 1)
    have e : (List.range' (o + 1) r.length).filter (fun k => decide ((d :: r)[k - o]? = some 1)) = ones (o + 1) r := by
      rw [← ih]
      refine List.filter_congr fun k hk => ?_
      have hk : o + 1 ≤ k := (List.mem_range'_1.mp hk).1
      have e2 : k - o = (k - (o + 1)) + 1 := by omega
      rw [e2, List.getElem?_cons_succ]
    have e3 : decide ((d :: r)[o - o]? = some 1) = decide (d = 1) := by rw [Nat.sub_self, List.getElem?_cons_zero]; exact decide_eq_decide.mpr Option.some_inj
    rw [ones]
    by_cases hd : d = 1
    · rw [List.filter_cons_of_pos (by rw [e3]; exact decide_eq_true hd), if_pos hd, e]
    · rw [List.filter_cons_of_neg (by rw [e3, decide_eq_false hd]; exact Bool.noConfusion), if_neg hd, e]
theorem ones_rep {l : List Nat} : ∀ {n o : Nat}, ones o (List.replicate n 0 ++ l) = ones (o + n) l
  | 0, o => rfl
  | n + 1, o => by
    show ones o (0 :: (List.replicate n 0 ++ l)) = _
    rw [ones, if_neg (by decide), ones_rep, Nat.add_right_comm]; rfl
theorem ones_tall : ∀ {cs : List Nat} {o : Nat}, ones o (tallC cs) = endsC o cs
  | [], _ => rfl
  | c :: r, o => by rw [tallC, ones_rep, ones, if_pos rfl, ones_tall]; rfl
theorem ends_filter {cs : List Nat} : (List.range (tallC cs).length).filter (fun k => decide ((tallC cs)[k]? = some 1)) = endsC 0 cs := by
  rw [List.range_eq_range', ← ones_tall, ← ones_filter]
  rfl
open PySem PySem.Calls PySem.W PyProof.Rows PySem.SeqAt
set_option maxRecDepth 100000
set_option linter.unusedVariables false
noncomputable def Nb (S : List Nat) (p : Nat) : Nat := S.countP fun v => decide (v < 16 * p)
noncomputable def cnt (S : List Nat) : List Nat := (List.range 6).map fun p => S.countP fun v => decide (v / 16 = p)
theorem cnt_len {S : List Nat} : (cnt S).length = 6 := rfl
theorem Nb_succ {p : Nat} : ∀ {S : List Nat}, Nb S (p + 1) = Nb S p + S.countP fun v => decide (v / 16 = p)
  | [] => rfl
  | v :: S => by
    have ih := Nb_succ (p := p) (S := S)
    unfold Nb at ih ⊢
    rw [List.countP_cons, List.countP_cons, List.countP_cons, ih]
    simp only [decide_eq_true_eq]
    split <;> split <;> split <;> omega
theorem Nb_zero {S : List Nat} : Nb S 0 = 0 := by
  unfold Nb
  rw [List.countP_eq_zero]
  intro v _
  simp
theorem Nb_sum {S : List Nat} : ∀ p, ((List.range p).map fun p => S.countP fun v => decide (v / 16 = p)).sum = Nb S p
  | 0 => Nb_zero.symm
  | p + 1 => by rw [List.range_succ, List.map_append, List.sum_append, Nb_sum p, Nb_succ]; simp
theorem cnt_take {S : List Nat} {p : Nat} (h : p ≤ 6) : ((cnt S).take p).sum = Nb S p := by
  rw [← Nb_sum, cnt, ← List.map_take, List.take_range, Nat.min_eq_left h]
theorem Nb_all {S : List Nat} (h : ∀ v ∈ S, v < 96) : Nb S 6 = S.length := List.countP_eq_length.mpr fun v q => decide_eq_true (h v q)
theorem cnt_sum {S : List Nat} (h : ∀ v ∈ S, v < 96) : (cnt S).sum = S.length := by rw [← Nb_all h, ← Nb_sum]; rfl
theorem tall_len {S : List Nat} (h : ∀ v ∈ S, v < 96) : (tallC (cnt S)).length = S.length + 6 := by rw [tallC_len, cnt_sum h]; rfl
noncomputable def En (S : List Nat) (i : Nat) : Nat := i + Nb S (i + 1)
theorem ends_eq {S : List Nat} : endsC 0 (cnt S) = (List.range 6).map (En S) := by
  refine List.ext_getElem? fun p => ?_
  by_cases hp : p < 6
  · rw [endsC_at hp, cnt_take hp, rng_at hp, Nat.zero_add]; rfl
  · rw [List.getElem?_eq_none (by rw [endsC_len, cnt_len]; omega), List.getElem?_eq_none (by rw [List.length_map, List.length_range]; omega)]
theorem cnt_cons {v : Nat} (hv : v < 96) {S : List Nat} : cnt (v :: S) = bump (v / 16) (cnt S) := by
  have e : ∀ p, (v :: S).countP (fun v => decide (v / 16 = p)) = S.countP (fun v => decide (v / 16 = p)) + if v / 16 = p then 1 else 0 := fun p => by rw [List.countP_cons]; simp only [decide_eq_true_eq]
  unfold cnt
  simp only [e]
  have hq : v / 16 < 6 := by omega
  generalize v / 16 = q at hq
  match q, hq with
  | 0, _ => rfl
  | 1, _ => rfl
  | 2, _ => rfl
  | 3, _ => rfl
  | 4, _ => rfl
  | 5, _ => rfl
theorem cnt_perm {S T : List Nat} (h : S.Perm T) : cnt S = cnt T := List.map_congr_left fun p _ => h.countP_eq _
theorem tall_put {S T : List Nat} {v : Nat} (hv : v < 96) (h : T.Perm (v :: S)) : tallC (cnt T) = lay (tallC (cnt S)) (En S (v / 16)) 0 := by
  have hq : v / 16 < 6 := by omega
  rw [cnt_perm h, cnt_cons hv, ← tallC_bump hq, cnt_take hq]; rfl
theorem Nb_mono {S : List Nat} {p q : Nat} (h : p ≤ q) : Nb S p ≤ Nb S q := List.countP_mono_left fun v _ e => by simp only [decide_eq_true_eq] at e ⊢; omega
theorem En_lt {S : List Nat} {i j : Nat} (h : i < j) : En S i < En S j := by
  have := Nb_mono (S := S) (p := i + 1) (q := j + 1) (Nat.succ_le_succ (Nat.le_of_lt h))
  unfold En; omega
noncomputable def Rd (S : List Nat) (k e : Nat) : Prop := e ≤ 6 ∧ e ≤ k ∧ (∀ i, i < e → En S i < k) ∧ ∀ i, e ≤ i → i < 6 → k ≤ En S i
section
variable {S : List Nat} {k e : Nat}
theorem rd_zero : Rd S 0 0 := ⟨Nat.zero_le _, Nat.le_refl _, (fun _ h => nomatch h), fun _ _ _ => Nat.zero_le _⟩
theorem rd_end (h : Rd S k e) {i : Nat} (hi : i < 6) (hk : k = En S i) : i = e := by
  rcases Nat.lt_trichotomy i e with q | q | q
  · have := h.2.2.1 i q; omega
  · exact q
  · have := h.2.2.2 e (Nat.le_refl _) (by omega)
    have := En_lt (S := S) q
    omega
theorem rd_one (h : Rd S k e) (he : e < 6) (hk : k = En S e) : Rd S (k + 1) (e + 1) := by
  refine ⟨he, Nat.succ_le_succ h.2.1, fun i hi => ?_, fun i hi _ => ?_⟩
  · rcases Nat.lt_or_eq_of_le (Nat.le_of_lt_succ hi) with q | q
    · exact Nat.lt_succ_of_lt (h.2.2.1 i q)
    · rw [q, ← hk]; exact Nat.lt_succ_self _
  · rw [hk]; exact En_lt hi
theorem rd_nil (h : Rd S k e) (hk : ∀ i, i < 6 → k ≠ En S i) : Rd S (k + 1) e :=
  ⟨h.1, Nat.le_succ_of_le h.2.1, fun i q => Nat.lt_succ_of_lt (h.2.2.1 i q), fun i q q' => Nat.lt_of_le_of_ne (h.2.2.2 i q q') (hk i q')⟩
theorem sorted_below {S : List Nat} (hs : S.Pairwise (· ≤ ·)) (x : Nat) : S.Pairwise fun a b => decide (b < x) = true → decide (a < x) = true :=
  hs.imp fun {a b} h q => by simp only [decide_eq_true_eq] at q ⊢; omega
theorem rd_at (hs : S.Pairwise (· ≤ ·)) (h96 : ∀ v ∈ S, v < 96) (h : Rd S k e) (hl : k < S.length + 6) (hk : ∀ i, i < 6 → k ≠ En S i) : ∃ v, S[k - e]? = some v ∧ v / 16 = e := by
  obtain ⟨h1, h2, h3, h4⟩ := h
  have n6 := Nb_all h96
  have he : e < 6 := by
    rcases Nat.lt_or_eq_of_le h1 with q | q
    · exact q
    · have := h3 5 (by omega)
      unfold En at this
      rw [n6] at this; omega
  have q1 : Nb S e ≤ k - e := by
    cases e with
    | zero => rw [Nb_zero]; exact Nat.zero_le _
    | succ e => have := h3 e (Nat.lt_succ_self _); unfold En at this; omega
  have q2 : k - e < Nb S (e + 1) := by
    have := Nat.lt_of_le_of_ne (h4 e (Nat.le_refl _) he) (hk e he)
    unfold En at this; omega
  have q3 : Nb S (e + 1) ≤ S.length := List.countP_le_length
  refine ⟨S[k - e], List.getElem?_eq_getElem (by omega), ?_⟩
  have g := List.getElem?_eq_getElem (l := S) (i := k - e) (by omega)
  have a1 := sorted_count (sorted_below hs (16 * e)) _ _ g
  have a2 := sorted_count (sorted_below hs (16 * (e + 1))) _ _ g
  rw [decide_eq_true_eq] at a1 a2
  have b1 : ¬ S[k - e] < 16 * e := fun q => absurd (a1.mp q) (Nat.not_lt.mpr q1)
  have b2 : S[k - e] < 16 * (e + 1) := a2.mpr q2
  omega
theorem rd_last (h96 : ∀ v ∈ S, v < 96) (h : Rd S (S.length + 6) e) : e = 6 := by
  rcases Nat.lt_or_eq_of_le h.1 with q | q
  · have := h.2.2.2 e (Nat.le_refl _) q
    have n := Nb_mono (S := S) (p := e + 1) (q := 6) (by omega)
    rw [Nb_all h96] at n
    unfold En at this; omega
  · exact q
end
open PySem PySem.Calls PySem.W PyProof.Rows PySem.SeqAt
set_option maxRecDepth 100000
set_option linter.unusedVariables false
theorem std1 : Std tab1 := ⟨rfl, rfl, rfl, rfl, rfl, rfl⟩
noncomputable abbrev iv (l : List Nat) : List V := l.map fun (c : Nat) => V.int c
theorem iv_ints (m : List Nat) : intsOf (iv m) = some (m.map fun (c : Nat) => (c : Int)) := by
  rw [← intsOf_ints, List.map_map]; rfl
theorem iv_pure (m : List Nat) : pureVs (iv m) := pureVs_iff.mpr fun v hv => by
  obtain ⟨c, _, rfl⟩ := List.mem_map.mp hv
  trivial
theorem eq_iv (l : List Nat) : ∀ v ∈ iv l, eqok 7 v v := fun v hv => by
  obtain ⟨c, _, rfl⟩ := List.mem_map.mp hv
  exact eqok_int
theorem sl_any {mh : MH} {a : V} {l : List V} {lo hi : Option Int} {Q : V → Prop} (h : itemsOf mh a = some l) (hl : l.length ≤ lim) (h1 : nonNeg lo) (h2 : nonNeg hi) (q : Q (.list (cutL l lo hi))) : sliceW mh a lo hi none Q := by
  cases a with
  | list us => exact ⟨l, h, hl, .inl ⟨rfl, h1, h2, q⟩⟩
  | «mut» i => exact ⟨l, h, hl, .inl ⟨rfl, h1, h2, q⟩⟩
  | _ => cases h
theorem pow_cast (n : Nat) : ((16 : Int) ^ (n : Int).toNat) = ((16 ^ n : Nat) : Int) := by rw [Int.natCast_pow]; rfl
theorem pow_le20 {n : Nat} (h : n ≤ 20) : 16 ^ n ≤ 16 ^ 20 := Nat.pow_le_pow_right (by decide) h
theorem pow_big {n : Nat} (h : n ≤ 20) : 16 ^ n < big := Nat.lt_of_le_of_lt (pow_le20 h) (by decide)
theorem law_last {ov : Ov} {n : Nat} {v : Nat} {vs : List V} {mh : MH} {Q : V → MH → Prop} (hl : (V.int v :: vs).length ≤ lim) (q : Q (.int (v % 16 : Nat)) mh) : runF tab1 ov (n + 1) 6 [.list (.int v :: vs)] [] mh Q := by
  refine runF_of (d := d1_6) rfl (us := [.list (.int v :: vs)]) rfl (sRet (i_at (k := 0) rfl rfl hl ?_))
  exact ⟨by decide, outRet (l := []) trivial q⟩
theorem law_put {ov : Ov} {n : Nat} {ds : List Nat} {p f : Nat} {mh : MH} {Q : V → MH → Prop} {x y z : Int} (h : ∀ d ∈ ds, d < 16) (hl : ds.length ≤ 20) (hp : p ≤ ds.length) (hx : x = val ds) (hy : y = f) (hf : f < 16) (hz : z = ((ds.length - p : Nat) : Int)) (q : Q (.int (val (lay ds p f))) mh) :
    runF tab1 ov (n + 1) 7 [.int x, .int y, .int z] [] mh Q := by
  subst hx hy hz
  have hk : ds.length - p ≤ 20 := Nat.le_trans (Nat.sub_le ..) hl
  have e := put_val h p f
  have hv := Nat.lt_of_lt_of_le (val_lt h) (pow_le20 hl)
  generalize ds.length - p = k at hk e
  refine runF_of (d := d1_7) rfl (us := [.int (val ds), .int f, .int k]) rfl ?_
  refine sAssign ?_
  refine ⟨⟨by decide, Int.natCast_nonneg k, Int.ofNat_le.mpr (Nat.le_trans hk (by decide))⟩, ?_⟩
  rw [pow_cast]
  have h16 := pow16 k
  have hb := pow_big hk
  have hq : val ds / 16 ^ k < 16 ^ 20 := Nat.lt_of_le_of_lt (Nat.div_le_self ..) hv
  generalize 16 ^ k = c at *
  refine sRet ?_
  refine ⟨⟨Int.ofNat_lt.mpr h16, hb⟩, ⟨Nat.lt_trans hq (by decide), by decide⟩, ⟨?_, hb⟩, ?_⟩
  · show val ds / c * 16 + f < big
    have : big = 2 ^ 128 := rfl
    omega
  refine ⟨Int.ofNat_lt.mpr h16, ?_⟩
  refine outRet (l := []) trivial ?_
  rw [← e] at q
  exact q
theorem apB_ints {ds : List Nat} (h : ∀ d ∈ ds, d < 16) : (apB ds).map (fun c => V.int (c.toNat : Int)) = iv (ds.map (65 + ·)) := by
  rw [apB, iv, List.map_map, List.map_map]
  refine List.map_congr_left fun d hd => ?_
  have := h d hd
  show V.int (((65 + d).toUInt8.toNat : Nat) : Int) = V.int ((65 + d : Nat) : Int)
  congr 2
  show (65 + d) % 256 = 65 + d
  omega
theorem apB_len {ds : List Nat} : (apB ds).length = ds.length := List.length_map ..
theorem law_shown {ov : Ov} {n : Nat} {ds : List Nat} {mh : MH} {Q : V → MH → Prop} {x y : Int} (h : ∀ d ∈ ds, d < 16) (hl : ds.length ≤ 20) (hx : x = val ds) (hy : y = ds.length) (q : Q (.list (iv (ds.map (65 + ·)))) mh) :
    runF tab1 ov (n + 2) 10 [.int x, .int y] [] mh Q := by
  subst hx hy
  refine runF_of (d := d1_10) rfl (us := [.int (val ds), .int ds.length]) rfl ?_
  refine sRet ?_
  refine ⟨⟨by decide, Int.natCast_nonneg _, Int.ofNat_le.mpr (Nat.le_trans hl (by decide))⟩, ?_⟩
  rw [pow_cast]
  have hv := val_lt h
  have hp := pow_le20 hl
  refine ⟨rfl, int2ap (x := ((16 ^ ds.length + val ds : Nat) : Int)) std1 ?_ ?_⟩
  · rw [Int.natAbs_natCast]
    have : (16 : Nat) ^ 20 + 16 ^ 20 < 16 ^ 100 := by decide
    omega
  rw [Int.natAbs_natCast, dg_shown h]
  have hl1 : (apB (1 :: ds)).length ≤ lim := by rw [apB_len]; exact Nat.le_trans (Nat.succ_le_succ hl) (by decide)
  refine ⟨hl1, _, rfl, by rw [List.length_map]; exact hl1, .inl ⟨rfl, nnN 1, nn0, ?_⟩⟩
  refine outRet (l := []) ?_ ?_
  · show pureVs ((apB ds).map fun c => V.int (c.toNat : Int))
    rw [apB_ints h]; exact iv_pure _
  · show Q (.list ((apB ds).map fun c => V.int (c.toNat : Int))) mh
    rw [apB_ints h]; exact q
open PySem PySem.Calls PySem.W PyProof.Rows PySem.SeqAt
set_option maxRecDepth 100000
set_option linter.unusedVariables false
theorem bytes_ints {ds : List Nat} (h : ∀ d ∈ ds, d < 16) : (ds.map fun d : Nat => (65 : Int) + (d : Int)).map (fun n => n.toNat.toUInt8) = apB ds := by
  rw [apB, List.map_map]
  rfl
theorem bytesE {Γ : Tab} {mh : MH} {loc : Loc} {ds : List Nat} {Q : V → MH → Prop} (h5 : loc[5]? = some (some (.list (iv ds)))) (h6 : ∀ v, (capLoc [] 6 v loc)[6]? = some (some v)) (h : ∀ d ∈ ds, d < 16) (hl : ds.length ≤ 21) (q : Q (.bytes (apB ds)) mh) :
    wpE Γ (.prim .bytes [(.comp [] 6 (.var 5) [] (.bin .Add (.const (.int 65)) (.var 6)))]) loc mh Q := by
  have hll : (iv ds).length ≤ lim := by rw [List.length_map]; exact Nat.le_trans hl (by decide)
  show varW loc[5]? _
  rw [h5]
  refine ⟨iv ds, rfl, hll, compMapA (g := fun d : Nat => V.int (65 + (d : Int))) (fun v K hK => ⟨rfl, hK⟩) (fun d hd K hK => ?_) ?_⟩
  · show varW (capLoc [] 6 (V.int (d : Int)) loc)[6]? _
    rw [h6]
    exact ⟨rfl, hK⟩
  · have e : (ds.map fun d : Nat => V.int (65 + (d : Int))) = (ds.map fun d : Nat => (65 : Int) + (d : Int)).map V.int := by rw [List.map_map]; rfl
    refine ⟨_, rfl, ds.map fun d : Nat => (65 : Int) + (d : Int), by rw [e, intsOf_ints], by rw [List.length_map]; exact Nat.le_trans hl (by decide), fun n hn => ?_, ?_⟩
    · obtain ⟨d, hd, rfl⟩ := List.mem_map.mp hn
      have := h d hd
      omega
    · rw [bytes_ints h]; exact q
theorem law_spelled {ov : Ov} {n : Nat} {ds : List Nat} {a : V} {mh : MH} {Q : V → MH → Prop} {x : Int} (h : ∀ d ∈ ds, d < 16) (hl : ds.length ≤ 20) (hx : x = val ds) (ha : itemsOf mh a = some (iv ds)) (q : Q (.bool true) mh) :
    runF tab1 ov (n + 2) 9 [.int x, a] [] mh Q := by
  subst hx
  have hll : (iv ds).length ≤ lim := by rw [List.length_map]; exact Nat.le_trans hl (by decide)
  have hv := val_lt h
  have hp := pow_le20 hl
  have h100 : (16 : Nat) ^ 20 + 16 ^ 20 < 16 ^ 100 := by decide
  refine runF_of (d := d1_9) rfl (us := [.int (val ds), a]) rfl ?_
  have fin : wpSs (runF tab1 ov (n + 1)) [s1_9_3, s1_9_5, s1_9_6] [some (.int (val ds)), some a, some (.list (iv (strip ds))), none, none, none, none] mh (outW mh.length Q) := by
    have hsl := strip_len (ds := ds)
    have hs : ∀ d ∈ strip ds, d < 16 := fun d hd => h d (strip_sub d hd)
    have hsv := strip_val h
    generalize strip ds = bs at *
    refine sAssign ?_
    dsimp only [wE_const, wE_var, wE_glob, wE_bin, wE_neg, wE_cmp, wE_ite, wE_list, wE_item, wE_slice, wE_prim, wE_app, wE_ins, wE_call, wEs_nil, wEs_cons, wC_tst, wC_not, wC_bop, wC_cmp, wCB_nil, wCB_cons, v_some, i_int, s_str, m_mut, f_fn, tp_tup, b_add, b_adds, b_addb, b_addl, b_sub, b_mul, b_muls, b_mull, b_fd, b_mod, b_pow, c_lt, c_lts, c_ltl, c_le, c_gt, c_is, c_isnot, t_int, t_bool, t_none, p_int, p_none, f_abs, f_int, f_divmod, f_range, f_lens, sl_bytes, sl_str, st_and, st_or, List.getElem?_cons_succ, List.getElem?_cons_zero, List.set_cons_zero, List.set_cons_succ, List.zip_nil_left, List.zip_cons_cons, brW, setAll_nil, setAll_cons]
    refine f_len ha hll ?_
    rw [List.length_map]
    refine ⟨⟨by decide, Int.natCast_nonneg _, Int.ofNat_le.mpr (Nat.le_trans hl (by decide))⟩, ?_⟩
    rw [pow_cast]
    refine ⟨rfl, int2ap (x := ((16 ^ ds.length + val ds : Nat) : Int)) std1 (by rw [Int.natAbs_natCast]; omega) ?_⟩
    rw [Int.natAbs_natCast, dg_shown h]
    refine ⟨rfl, int2ap (x := ((val ds : Nat) : Int)) std1 (by rw [Int.natAbs_natCast]; omega) ?_⟩
    rw [Int.natAbs_natCast, hsv]
    refine ⟨rfl, int2ap (x := -((val ds : Nat) : Int)) std1 (by rw [Int.natAbs_neg, Int.natAbs_natCast]; omega) ?_⟩
    rw [Int.natAbs_neg, Int.natAbs_natCast, hsv]
    refine ⟨(by decide : 3 ≤ lim), ?_⟩
    refine sIte ?_
    refine ⟨_, rfl, (by decide : 3 ≤ lim), compFilt (fun _ => false) id (fun v hv K hK => ?_) (fun v hv q => Bool.noConfusion q) ?_⟩
    · have hb : ∃ l, v = .bytes l := by
        rcases List.mem_cons.mp hv with e | hv
        · exact ⟨_, e⟩
        rcases List.mem_cons.mp hv with e | hv
        · exact ⟨_, e⟩
        exact ⟨_, List.mem_singleton.mp hv⟩
      obtain ⟨l, rfl⟩ := hb
      exact ⟨rfl, hK⟩
    refine ⟨Nat.zero_le _, c_nel rfl (fun v h => nomatch h) ?_⟩
    refine sNil (wNext (sRet ?_))
    refine ⟨Nat.le_of_lt (by decide : 1 < lim), _, ha, by rw [List.length_map]; show 1 + ds.length ≤ lim; exact Nat.le_trans (Nat.add_le_add_left hl 1) (by decide), ?_⟩
    refine ⟨(by decide : 3 ≤ lim), _, rfl, (by decide : 3 ≤ lim), ?_⟩
    show compW _ _ ([1 :: ds, bs, bs].map fun l => V.list (iv l)) _
    refine compMapA (g := fun l => .bytes (apB l)) (fun v K hK => ⟨rfl, hK⟩) (fun l hm K hK => ?_) ?_
    · have hl2 : (∀ d ∈ l, d < 16) ∧ l.length ≤ 21 := by
        rcases List.mem_cons.mp hm with e | hm
        · rw [e]; exact ⟨fun d hd => (List.mem_cons.mp hd).elim (fun e => e ▸ by decide) (h d), Nat.succ_le_succ hl⟩
        have e : l = bs := (List.mem_cons.mp hm).elim id List.mem_singleton.mp
        rw [e]; exact ⟨hs, by omega⟩
      exact bytesE rfl (fun v => rfl) hl2.1 hl2.2 ⟨rfl, hK⟩
    · refine c_eql rfl (fun v hv => ?_) (outRet (l := []) trivial q)
      have hb : ∃ l, v = .bytes l := by
        rcases List.mem_cons.mp hv with e | hv
        · exact ⟨_, e⟩
        rcases List.mem_cons.mp hv with e | hv
        · exact ⟨_, e⟩
        exact ⟨_, List.mem_singleton.mp hv⟩
      obtain ⟨l, rfl⟩ := hb
      exact .inl ⟨_, rfl⟩
  show wpSs _ [s1_9_0, s1_9_2, s1_9_3, s1_9_5, s1_9_6] [some (.int (val ds)), some a, none, none, none, none, none] mh _
  refine sAssign ?_
  dsimp only [wE_const, wE_var, wE_glob, wE_bin, wE_neg, wE_cmp, wE_ite, wE_list, wE_item, wE_slice, wE_prim, wE_app, wE_ins, wE_call, wEs_nil, wEs_cons, wC_tst, wC_not, wC_bop, wC_cmp, wCB_nil, wCB_cons, v_some, i_int, s_str, m_mut, f_fn, tp_tup, b_add, b_adds, b_addb, b_addl, b_sub, b_mul, b_muls, b_mull, b_fd, b_mod, b_pow, c_lt, c_lts, c_ltl, c_le, c_gt, c_is, c_isnot, t_int, t_bool, t_none, p_int, p_none, f_abs, f_int, f_divmod, f_range, f_lens, sl_bytes, sl_str, st_and, st_or, List.getElem?_cons_succ, List.getElem?_cons_zero, List.set_cons_zero, List.set_cons_succ, List.zip_nil_left, List.zip_cons_cons, brW, setAll_nil, setAll_cons]
  refine sl_any ha hll nn0 nn0 ?_
  refine sWhile (fun k loc m => ∃ b : List Nat, loc = [some (.int (val ds)), some a, some (.list (iv b)), none, none, none, none] ∧ m = mh ∧ strip b = strip ds ∧ b.length ≤ ds.length ∧ b.length = k) (k := ds.length) ⟨ds, rfl, rfl, rfl, Nat.le_refl _, rfl⟩ ?_
  rintro k _ _ ⟨b, rfl, rfl, hb, hbl, rfl⟩
  have hbll : (iv b).length ≤ lim := by rw [List.length_map]; exact Nat.le_trans hbl (Nat.le_trans hl (by decide))
  cases b with
  | nil =>
    refine ⟨Nat.zero_le _, c_nel rfl (fun v h => nomatch h) ?_⟩
    rw [← hb] at fin
    exact fin
  | cons d r =>
    refine ⟨Nat.zero_le _, ⟨.inr ⟨_, _, rfl, rfl, .inr fun p (hp : p ∈ ([] : List (V × V))) => nomatch hp⟩, br_t (fun e => nomatch e) ?_⟩⟩
    refine i_at (k := 0) rfl rfl hbll (c_eqi ⟨fun h0 => ?_, fun h0 => ?_⟩)
    · have h0 : d = 0 := Int.ofNat.inj h0
      subst h0
      refine sAssign ?_
      refine ⟨_, rfl, hbll, .inl ⟨rfl, nnN 1, nn0, ?_⟩⟩
      exact ⟨r.length, Nat.lt_succ_self _, r, rfl, rfl, hb, Nat.le_of_succ_le hbl, rfl⟩
    · have h0 : d ≠ 0 := fun e => h0 (congrArg Nat.cast e)
      rw [← hb, strip, if_neg h0] at fin
      exact fin
open PySem PySem.Calls PySem.W PyProof.Rows PySem.SeqAt
set_option maxRecDepth 100000
set_option linter.unusedVariables false
noncomputable abbrev tl (cs : List Nat) : V := .list (iv ((tallC cs).map (65 + ·)))
theorem tl_at {cs : List Nat} {k d : Nat} (h : (tallC cs)[k]? = some d) : (iv ((tallC cs).map (65 + ·)))[k]? = some (.int ((65 + d : Nat) : Int)) := by
  rw [List.getElem?_map, List.getElem?_map, h]; rfl
theorem endsE {Γ : Tab} {mh : MH} {loc : Loc} {c x : Nat} {cs : List Nat} {Q : V → MH → Prop} (hc : loc[c]? = some (some (tl cs))) (h1 : ∀ v, (capLoc [c] x v loc)[c]? = some (some (tl cs))) (h2 : ∀ v, (capLoc [c] x v loc)[x]? = some (some v)) (hl : (tallC cs).length ≤ 30) (q : Q (.list (iv (endsC 0 cs))) mh) :
    wpE Γ (.comp [c] x (.prim .range [(.prim .len [(.var c)])]) [(.cmp .Eq (.item (.var c) (.var x)) (.const (.int 66)))] (.var x)) loc mh Q := by
  have hlen : (iv ((tallC cs).map (65 + ·))).length = (tallC cs).length := by rw [List.length_map, List.length_map]
  have hll : (iv ((tallC cs).map (65 + ·))).length ≤ lim := by rw [hlen]; exact Nat.le_trans hl (by decide)
  show varW loc[c]? _
  rw [hc]
  refine ⟨_, rfl, hll, ?_⟩
  rw [hlen]
  refine ⟨_, it_rng (Nat.le_trans hl (by decide)), by rw [List.length_map, List.length_range]; exact Nat.le_trans hl (by decide), compFiltA (fun k => decide ((tallC cs)[k]? = some 1)) (fun k hk K hK => ?_) (fun k K hK => ?_) ?_⟩
  · have hk := List.mem_range.mp hk
    obtain ⟨d, hd⟩ : ∃ d, (tallC cs)[k]? = some d := ⟨_, List.getElem?_eq_getElem hk⟩
    show varW (capLoc [c] x (.int (k : Int)) loc)[c]? _
    rw [h1]
    show varW (capLoc [c] x (.int (k : Int)) loc)[x]? _
    rw [h2]
    refine i_at rfl (tl_at hd) hll ?_
    have e : decide ((tallC cs)[k]? = some 1) = decide (d = 1) := by rw [hd]; exact decide_eq_decide.mpr Option.some_inj
    rw [e] at hK
    refine c_eqi ⟨fun q => ?_, fun q => ?_⟩
    · have : d = 1 := by omega
      rw [decide_eq_true this] at hK
      exact ⟨rfl, hK⟩
    · have : ¬ d = 1 := fun e => q (by rw [e]; rfl)
      rw [decide_eq_false this] at hK
      exact ⟨rfl, hK⟩
  · show varW (capLoc [c] x (.int (k : Int)) loc)[x]? _
    rw [h2]
    exact ⟨rfl, hK⟩
  · rw [ends_filter]; exact q
theorem ends_mem {S : List Nat} {k : Nat} (hk : (tallC (cnt S))[k]? = some 1) : ∃ i, i < 6 ∧ k = En S i := by
  have hl := (List.getElem?_eq_some_iff.mp hk).1
  have : k ∈ endsC 0 (cnt S) := by
    rw [← ends_filter]
    exact List.mem_filter.mpr ⟨List.mem_range.mpr hl, decide_eq_true hk⟩
  rw [ends_eq] at this
  obtain ⟨i, hi, e⟩ := List.mem_map.mp this
  exact ⟨i, List.mem_range.mp hi, e.symm⟩
theorem ends_not {S : List Nat} {k i : Nat} (hi : i < 6) (hk : k = En S i) : (tallC (cnt S))[k]? = some 1 := by
  have : k ∈ endsC 0 (cnt S) := by
    rw [ends_eq, hk]
    exact List.mem_map.mpr ⟨i, List.mem_range.mpr hi, rfl⟩
  rw [← ends_filter] at this
  exact of_decide_eq_true (List.mem_filter.mp this).2
theorem ends_get {S : List Nat} {i : Nat} {v : V} (h : (iv (endsC 0 (cnt S)))[i]? = some v) (hi : i < 6) : v = .int (En S i : Nat) := by
  rw [ends_eq, List.getElem?_map, rng_at hi] at h
  exact (Option.some.inj h).symm
theorem bisEnds {S : List Nat} {mh : MH} {e : Nat} (he : e ≤ 6) : Bis mh (.list (iv (endsC 0 (cnt S)))) .none .none (iv (endsC 0 (cnt S))) 0 6 e :=
  ⟨rfl, (by decide : 6 ≤ 900), .inr ⟨rfl, rfl⟩, Nat.zero_le _, he, Nat.le_refl _, .inl rfl⟩
theorem law_members {ov : Ov} {n : Nat} {S : List Nat} {mh : MH} {Q : V → MH → Prop} (hs : S.Pairwise (· ≤ ·)) (h96 : ∀ v ∈ S, v < 96) (hl : S.length ≤ 20) (q : Q (.list (iv S)) mh) :
    runF tab1 ov (n + 2) 11 [.list (iv ((S.map (· % 16)).map (65 + ·))), tl (cnt S)] [] mh Q := by
  have htl := tall_len h96
  have ht30 : (tallC (cnt S)).length ≤ 30 := by omega
  have hlen : (iv ((tallC (cnt S)).map (65 + ·))).length = (tallC (cnt S)).length := by rw [List.length_map, List.length_map]
  have hll : (iv ((tallC (cnt S)).map (65 + ·))).length ≤ lim := by rw [hlen]; exact Nat.le_trans ht30 (by decide)
  refine runF_of (d := d1_11) rfl (us := [.list (iv ((S.map (· % 16)).map (65 + ·))), tl (cnt S)]) rfl ?_
  show wpSs _ [s1_11_0, s1_11_1, s1_11_5, s1_11_6] [some (.list (iv ((S.map (· % 16)).map (65 + ·)))), some (tl (cnt S)), none, none, none, none] mh _
  refine sAssign ?_
  refine endsE rfl (fun v => rfl) (fun v => rfl) ht30 ?_
  refine sMut ?_
  refine ⟨⟨trivial, Nat.zero_le _⟩, sFor ?_⟩
  refine ⟨_, rfl, hll, trivial, _, it_rng (by rw [hlen]; exact Nat.le_trans ht30 (by decide)), ?_⟩
  rw [hlen]
  refine forI (fun k loc m => ∃ e o4 o5, loc = [some (.list (iv ((S.map (· % 16)).map (65 + ·)))), some (tl (cnt S)), some (.list (iv (endsC 0 (cnt S)))), some (.mut mh.length), o4, o5] ∧ m = mh ++ [iv (S.take (k - e))] ∧ Rd S k e) ⟨0, none, none, rfl, rfl, rd_zero⟩ ?_ ?_
  · rintro k v _ m hv ⟨e, o4, o5, rfl, rfl, hR⟩
    rw [List.getElem?_map] at hv
    obtain ⟨k', hk0, rfl⟩ := Option.map_eq_some_iff.mp hv
    obtain ⟨hk, e1⟩ := List.getElem?_eq_some_iff.mp hk0
    rw [List.getElem_range] at e1
    rw [List.length_range] at hk
    subst e1
    obtain ⟨d, hd⟩ : ∃ d, (tallC (cnt S))[k]? = some d := ⟨_, List.getElem?_eq_getElem hk⟩
    refine sIte ?_
    refine i_at rfl (tl_at hd) hll ?_
    refine c_eqi ⟨fun h0 => ?_, fun h0 => ?_⟩
    · have h0 : d = 0 := by omega
      have hne : ∀ i, i < 6 → k ≠ En S i := fun i hi e => by have := ends_not hi e; rw [hd, h0] at this; cases this
      obtain ⟨w, hw, hwe⟩ := rd_at hs h96 hR (htl ▸ hk) hne
      have hkl : k - e < S.length := (List.getElem?_eq_some_iff.mp hw).1
      have hml : (S.take (k - e)).length = k - e := by rw [List.length_take]; exact Nat.min_eq_left (Nat.le_of_lt hkl)
      have hsm : (iv ((S.map (· % 16)).map (65 + ·)))[k - e]? = some (.int ((65 + w % 16 : Nat) : Int)) := by rw [List.getElem?_map, List.getElem?_map, List.getElem?_map, hw]; rfl
      have hsl : (iv ((S.map (· % 16)).map (65 + ·))).length ≤ lim := by rw [List.length_map, List.length_map, List.length_map]; exact Nat.le_trans hl (by decide)
      have hiv : (iv (S.take (k - e))).length ≤ lim := by rw [List.length_map, hml]; exact Nat.le_trans (Nat.le_of_lt hkl) (Nat.le_trans hl (by decide))
      have heq : (16 * (e : Int) + ((65 + w % 16 : Nat) : Int) - 65) = (w : Int) := by omega
      have hnext : iv (S.take (k - e)) ++ [V.int w] = iv (S.take (k + 1 - e)) := by
        rw [Nat.succ_sub hR.2.1, List.take_add_one, hw]
        show _ = iv (S.take (k - e) ++ [w])
        rw [iv, iv, List.map_append]; rfl
      have ltk : ∀ i v, 0 ≤ i → i < 6 → (iv (endsC 0 (cnt S)))[i]? = some v → LtK (runF tab1 ov n) .none v (.int k) (mh ++ [iv (S.take (k - e))]) (i < e) := fun i v _ hi hv QB hb => by
        rw [ends_get hv hi]
        refine keyW_none (br_iff (P' := ((En S i : Nat) : Int) < (k : Int)) ?_ hb)
        exact ⟨fun q => Classical.byContradiction fun q' => absurd (Int.ofNat_lt.mp q) (Nat.not_lt.mpr (hR.2.2.2 i (Nat.le_of_not_lt q') hi)), fun q => Int.ofNat_lt.mpr (hR.2.2.1 i q)⟩
      have gtk : ∀ i v, 0 ≤ i → i < 6 → (iv (endsC 0 (cnt S)))[i]? = some v → GtK (runF tab1 ov n) .none v (.int k) (mh ++ [iv (S.take (k - e))]) (e ≤ i) := fun i v _ hi hv QB hb => by
        rw [ends_get hv hi]
        refine keyW_none (br_iff (P' := (k : Int) < ((En S i : Nat) : Int)) ?_ hb)
        exact ⟨fun q => Nat.le_of_not_lt fun q' => absurd (Int.ofNat_lt.mp q) (Nat.lt_asymm (hR.2.2.1 i q')), fun q => Int.ofNat_lt.mpr (Nat.lt_of_le_of_ne (hR.2.2.2 i q hi) (hne i hi))⟩
      have fin : ∀ {R : Fl → Loc → MH → Prop}, (∀ l m, (∃ e o4 o5, l = [some (.list (iv ((S.map (· % 16)).map (65 + ·)))), some (tl (cnt S)), some (.list (iv (endsC 0 (cnt S)))), some (.mut mh.length), o4, o5] ∧ m = mh ++ [iv (S.take (k + 1 - e))] ∧ Rd S (k + 1) e) → R .next l m) →
          wpSs (runF tab1 ov (n + 1)) [s1_11_3] [some (.list (iv ((S.map (· % 16)).map (65 + ·)))), some (tl (cnt S)), some (.list (iv (endsC 0 (cnt S)))), some (.mut mh.length), some (.int k), some (.int e)] (mh ++ [iv (S.take (k - e))]) R := by
        intro R hR'
        refine sExpr ?_
        refine ⟨⟨by decide, hbig (by have := hR.1; omega)⟩, _, last_get, hiv, ?_⟩
        rw [List.length_map, hml]
        refine i_at rfl hsm hsl ?_
        refine ⟨_, last_get, ⟨trivial, hiv⟩, rfl, sNil (hR' _ _ ⟨e, _, _, rfl, ?_, rd_nil hR hne⟩)⟩
        rw [last_set, heq, hnext]
      refine sAssign ?_
      refine ⟨by decide, c_eqi ⟨fun _ => ?_, fun _ => ?_⟩⟩
      · exact ⟨rfl, bisL std1 (lo := 0) rfl (bisEnds hR.1) ltk (fin fun l m h => h)⟩
      · exact ⟨rfl, bisR std1 (lo := 0) rfl (bisEnds hR.1) gtk (fin fun l m h => h)⟩
    · have h0 : d = 1 := by
        rcases tallC_bit d (List.mem_of_getElem? hd) with q | q
        · exact absurd (by rw [q]; rfl) h0
        · exact q
      obtain ⟨i, hi, hki⟩ := ends_mem (h0 ▸ hd)
      have hie := rd_end hR hi hki
      subst hie
      exact sNil (wNext ⟨i + 1, _, _, rfl, by rw [Nat.add_sub_add_right], rd_one hR hi hki⟩)
  · rintro _ m ⟨e, o4, o5, rfl, rfl, hR⟩
    rw [List.length_map, List.length_range, htl] at hR ⊢
    obtain rfl := rd_last h96 hR
    rw [Nat.add_sub_cancel, List.take_length]
    exact wNext (sRet (outMut (l := []) q))
open PySem PySem.Calls PySem.W PyProof.Rows PySem.SeqAt
set_option maxRecDepth 100000
set_option linter.unusedVariables false
noncomputable def rv (p : Nat × Int) : V := .list [.int p.1, .int p.2]
noncomputable abbrev Asc (S : List Nat) : Prop := S.Pairwise (· ≤ ·)
noncomputable def cl (S : List Nat) (v : Nat) : Nat := S.countP fun a => decide (a < v)
noncomputable def cr (S : List Nat) (v : Nat) : Nat := S.countP fun a => decide (a ≤ v)
section
variable {S : List Nat} {v w j p : Nat}
theorem asc_le (hs : Asc S) (x : Nat) : S.Pairwise fun a b => decide (b ≤ x) = true → decide (a ≤ x) = true :=
  hs.imp fun {a b} h q => by simp only [decide_eq_true_eq] at q ⊢; omega
theorem lt_iff (hs : Asc S) (h : S[j]? = some w) : w < v ↔ j < cl S v := by
  have := sorted_count (sorted_below hs v) j w h
  rwa [decide_eq_true_eq] at this
theorem gt_iff (hs : Asc S) (h : S[j]? = some w) : v < w ↔ cr S v ≤ j := by
  have := sorted_count (asc_le hs v) j w h
  rw [decide_eq_true_eq] at this
  exact ⟨fun q => Nat.le_of_not_lt fun q' => absurd (this.mpr q') (Nat.not_le.mpr q), fun q => Nat.lt_of_not_le fun q' => absurd (this.mp q') (Nat.not_lt.mpr q)⟩
theorem cl_len : cl S v ≤ S.length := List.countP_le_length
theorem cr_len : cr S v ≤ S.length := List.countP_le_length
theorem part_lo : Nb S (v / 16) ≤ cl S v := List.countP_mono_left fun a _ e => by simp only [decide_eq_true_eq] at e ⊢; omega
theorem part_cl : cl S v ≤ cr S v := List.countP_mono_left fun a _ e => by simp only [decide_eq_true_eq] at e ⊢; omega
theorem part_hi : cr S v ≤ Nb S (v / 16 + 1) := List.countP_mono_left fun a _ e => by simp only [decide_eq_true_eq] at e ⊢; omega
theorem Nb_len : Nb S p ≤ S.length := List.countP_le_length
theorem in_part (hs : Asc S) (h : S[j]? = some w) (h1 : Nb S p ≤ j) (h2 : j < Nb S (p + 1)) : w / 16 = p := by
  have a1 := sorted_count (sorted_below hs (16 * p)) _ _ h
  have a2 := sorted_count (sorted_below hs (16 * (p + 1))) _ _ h
  rw [decide_eq_true_eq] at a1 a2
  have b1 : ¬ w < 16 * p := fun q => absurd (a1.mp q) (Nat.not_lt.mpr h1)
  have b2 : w < 16 * (p + 1) := a2.mpr h2
  omega
theorem ltm_iff (hs : Asc S) (h : S[j]? = some w) (h1 : Nb S (v / 16) ≤ j) (h2 : j < Nb S (v / 16 + 1)) : w % 16 < v % 16 ↔ j < cl S v := by
  have := in_part hs h h1 h2
  rw [← lt_iff hs h]; omega
theorem gtm_iff (hs : Asc S) (h : S[j]? = some w) (h1 : Nb S (v / 16) ≤ j) (h2 : j < Nb S (v / 16 + 1)) : v % 16 < w % 16 ↔ cr S v ≤ j := by
  have := in_part hs h h1 h2
  rw [← gt_iff hs h]; omega
theorem asc_l (hs : Asc S) : Asc (lay S (cl S v) v) := by
  obtain ⟨h1, h2⟩ := take_P (sorted_below hs v)
  refine pairwise_lay hs (fun a ha => ?_) fun b hb => ?_
  · have := h1 a ha; simp only [decide_eq_true_eq] at this; omega
  · have := h2 b hb; simp only [decide_eq_true_eq] at this; omega
theorem asc_r (hs : Asc S) : Asc (lay S (cr S v) v) := by
  obtain ⟨h1, h2⟩ := take_P (asc_le hs v)
  refine pairwise_lay hs (fun a ha => ?_) fun b hb => ?_
  · have := h1 a ha; simp only [decide_eq_true_eq] at this; omega
  · have := h2 b hb; simp only [decide_eq_true_eq] at this; omega
end
/-! the searches -/
section
variable {ov : Ov} {Γ : Tab} {n : Nat} {mh : MH} {S : List Nat} {v i p : Nat} {a : V} {hi : V} {rw' : List (Nat × Int)}
theorem iv_at {l : List Nat} {j : Nat} {u : V} (h : (iv l)[j]? = some u) : ∃ w, u = .int (w : Nat) ∧ l[j]? = some w := by
  rw [List.getElem?_map] at h
  obtain ⟨w, hw, rfl⟩ := Option.map_eq_some_iff.mp h
  exact ⟨w, rfl, hw⟩
theorem map_get {α : Type} {f : Nat → α} {l : List Nat} {j : Nat} {u : α} (h : (l.map f)[j]? = some u) : ∃ w, u = f w ∧ l[j]? = some w := by
  rw [List.getElem?_map] at h
  obtain ⟨w, hw, rfl⟩ := Option.map_eq_some_iff.mp h
  exact ⟨w, rfl, hw⟩
theorem row_at {j : Nat} {u : V} (h : (rw'.map rv)[j]? = some u) : ∃ q : Nat × Int, u = rv q ∧ (rw'.map (·.1))[j]? = some q.1 := by
  rw [List.getElem?_map] at h
  obtain ⟨q, hq, rfl⟩ := Option.map_eq_some_iff.mp h
  exact ⟨q, rfl, by rw [List.getElem?_map, hq]; rfl⟩
theorem ltI {x y : Nat} {P : Prop} (h : x < y ↔ P) : LtK Γ .none (.int x) (.int y) mh P := fun QB hb => keyW_none (br_iff (P' := (x : Int) < (y : Int)) (Int.ofNat_lt.trans h) hb)
theorem gtI {x y : Nat} {P : Prop} (h : y < x ↔ P) : GtK Γ .none (.int x) (.int y) mh P := fun QB hb => keyW_none (br_iff (P' := (y : Int) < (x : Int)) (Int.ofNat_lt.trans h) hb)
theorem keyF {q : Nat × Int} {K : V → MH → Prop} (h : K (.int q.1) mh) : KeyW (runF tab1 ov (n + 1)) (.fn 5) (rv q) mh K := keyW_first std1 (by decide : 2 ≤ lim) trivial h
theorem keyL {q : Nat × Int} {K : V → MH → Prop} (h : K (.int (q.1 % 16 : Nat)) mh) : KeyW (runF tab1 ov (n + 1)) (.fn 6) (rv q) mh K := .inr ⟨6, rfl, law_last (by decide : 2 ≤ lim) h⟩
theorem ltF {q : Nat × Int} {y : Nat} {P : Prop} (h : q.1 < y ↔ P) : LtK (runF tab1 ov (n + 1)) (.fn 5) (rv q) (.int y) mh P := fun QB hb => keyF (br_iff (P' := (q.1 : Int) < (y : Int)) (Int.ofNat_lt.trans h) hb)
theorem gtF {q : Nat × Int} {y : Nat} {P : Prop} (h : y < q.1 ↔ P) : GtK (runF tab1 ov (n + 1)) (.fn 5) (rv q) (.int y) mh P := fun QB hb => keyF (br_iff (P' := (y : Int) < (q.1 : Int)) (Int.ofNat_lt.trans h) hb)
theorem ltL {q : Nat × Int} {y : Nat} {P : Prop} (h : q.1 % 16 < y ↔ P) : LtK (runF tab1 ov (n + 1)) (.fn 6) (rv q) (.int y) mh P := fun QB hb => keyL (br_iff (P' := ((q.1 % 16 : Nat) : Int) < (y : Int)) (Int.ofNat_lt.trans h) hb)
theorem gtL {q : Nat × Int} {y : Nat} {P : Prop} (h : y < q.1 % 16 ↔ P) : GtK (runF tab1 ov (n + 1)) (.fn 6) (rv q) (.int y) mh P := fun QB hb => keyL (br_iff (P' := (y : Int) < ((q.1 % 16 : Nat) : Int)) (Int.ofNat_lt.trans h) hb)
theorem bisP {l : List V} {key : V} (ha : itemsOf mh a = some l) (hl : l.length = S.length) (h9 : S.length ≤ 900) (hh : HiP hi l (Nb S (v / 16 + 1))) (hk : IsKey key) (h1 : Nb S (v / 16) ≤ p) (h2 : p ≤ Nb S (v / 16 + 1)) : Bis mh a hi key l (Nb S (v / 16)) (Nb S (v / 16 + 1)) p :=
  ⟨ha, hl ▸ h9, hh, h1, h2, hl ▸ Nb_len, hk⟩
theorem bisA {l : List V} {key : V} (ha : itemsOf mh a = some l) (hl : l.length = S.length) (h9 : S.length ≤ 900) (hk : IsKey key) (h2 : p ≤ S.length) : Bis mh a .none key l 0 l.length p :=
  ⟨ha, hl ▸ h9, .inr ⟨rfl, rfl⟩, Nat.zero_le _, hl ▸ h2, Nat.le_refl _, hk⟩
end
open PySem PySem.Calls PySem.W PyProof.Rows PySem.SeqAt
set_option maxRecDepth 100000
set_option linter.unusedVariables false
theorem ends_iv {S : List Nat} {i : Nat} (hi : i < 6) : (iv (endsC 0 (cnt S)))[i]? = some (.int (En S i : Nat)) := by
  rw [ends_eq, List.getElem?_map, rng_at hi]; rfl
theorem loE {Γ : Tab} {loc : Loc} {mh : MH} {S : List Nat} {p : Nat} {K : V → MH → Prop} (h14 : loc[14]? = some (some (.list (iv (endsC 0 (cnt S)))))) (h22 : loc[22]? = some (some (.int (p : Int)))) (hp : p < 6) (q : K (.int (Nb S p : Nat)) mh) :
    wpE Γ (.ite (.cmp .Gt (.var 22) (.const (.int 0))) (.bin .Add (.bin .Sub (.item (.var 14) (.bin .Sub (.var 22) (.const (.int 1)))) (.var 22)) (.const (.int 1))) (.const (.int 0))) loc mh K := by
  show varW loc[22]? _
  rw [h22]
  refine ⟨fun h0 => ?_, fun h0 => ?_⟩
  · have h0 : 0 < p := Int.ofNat_lt.mp h0
    have e1 : ((p : Int) - 1) = ((p - 1 : Nat) : Int) := by omega
    show varW loc[14]? _
    rw [h14]
    show varW loc[22]? _
    rw [h22]
    show itemW mh (.list (iv (endsC 0 (cnt S)))) (.int ((p : Int) - 1)) _
    rw [e1]
    refine i_at rfl (ends_iv (by omega)) (by decide : 6 ≤ lim) ?_
    show varW loc[22]? _
    rw [h22]
    have e2 : ((En S (p - 1) : Nat) : Int) - (p : Int) + 1 = (Nb S p : Nat) := by unfold En; rw [Nat.sub_add_cancel h0]; omega
    show K (.int (((En S (p - 1) : Nat) : Int) - (p : Int) + 1)) mh
    rw [e2]; exact q
  · have h0 : p = 0 := Nat.eq_zero_of_not_pos fun q => h0 (Int.ofNat_lt.mpr q)
    subst h0
    rw [Nb_zero] at q
    exact q
theorem hiE {Γ : Tab} {loc : Loc} {mh : MH} {S : List Nat} {p : Nat} {K : V → MH → Prop} (h14 : loc[14]? = some (some (.list (iv (endsC 0 (cnt S)))))) (h22 : loc[22]? = some (some (.int (p : Int)))) (hp : p < 6) (h96 : ∀ v ∈ S, v < 96) (q : ∀ hv, (∀ l : List V, l.length = S.length → HiP hv l (Nb S (p + 1))) → K hv mh) :
    wpE Γ (.ite (.cmp .Lt (.var 22) (.const (.int 5))) (.bin .Sub (.item (.var 14) (.var 22)) (.var 22)) (.const .none)) loc mh K := by
  show varW loc[22]? _
  rw [h22]
  refine ⟨fun h0 => ?_, fun h0 => ?_⟩
  · show varW loc[14]? _
    rw [h14]
    show varW loc[22]? _
    rw [h22]
    refine i_at rfl (ends_iv hp) (by decide : 6 ≤ lim) ?_
    show varW loc[22]? _
    rw [h22]
    have e2 : ((En S p : Nat) : Int) - (p : Int) = (Nb S (p + 1) : Nat) := by unfold En; omega
    show K (.int (((En S p : Nat) : Int) - (p : Int))) mh
    rw [e2]; exact q _ fun l _ => .inl rfl
  · have h0 : p = 5 := by
      have : ¬ p < 5 := fun q => h0 (Int.ofNat_lt.mpr q)
      omega
    subst h0
    exact q _ fun l hl => .inr ⟨rfl, by rw [Nb_all h96, hl]⟩
theorem cntE {Γ : Tab} {loc : Loc} {mh : MH} {Q : V → MH → Prop} {op : CmpOp} {vs : List Nat} {v i : Nat} {t : Nat → Bool} (h4 : loc[4]? = some (some (.mut i))) (h11 : ∀ u, (capLoc [11] 29 u loc)[11]? = some (some (.int v))) (h29 : ∀ u, (capLoc [11] 29 u loc)[29]? = some (some u)) (hi : mh[i]? = some (iv vs)) (hl : vs.length ≤ 900)
    (ht : ∀ a ∈ vs, ∀ QB : Bool → Prop, QB (t a) → cmpW op mh (.int (a : Int)) (.int (v : Int)) QB) (q : Q (.int (vs.countP t : Nat)) mh) :
    wpE Γ (.prim .len [(.comp [11] 29 (.var 4) [(.cmp op (.var 29) (.var 11))] (.var 29))]) loc mh Q := by
  show varW loc[4]? _
  rw [h4]
  have hll : (iv vs).length ≤ lim := by rw [List.length_map]; exact lim900 hl
  refine ⟨_, hi, hll, compFiltA t (fun a ha K hK => ?_) (fun a K hK => ?_) ?_⟩
  · show varW (capLoc [11] 29 (.int (a : Int)) loc)[29]? _
    rw [h29]
    show varW (capLoc [11] 29 (.int (a : Int)) loc)[11]? _
    rw [h11]
    refine ht a ha _ ?_
    cases q' : t a with
    | true => exact ⟨rfl, q' ▸ hK⟩
    | false => exact ⟨rfl, q' ▸ hK⟩
  · show varW (capLoc [11] 29 (.int (a : Int)) loc)[29]? _
    rw [h29]
    exact ⟨rfl, hK⟩
  · show primW mh .len [.list (iv (vs.filter t))] fun v => Q v mh
    refine f_len rfl ?_ ?_
    · rw [List.length_map]; exact Nat.le_trans (List.length_filter_le ..) (lim900 hl)
    · rw [List.length_map, ← List.countP_eq_length_filter]; exact q
theorem br_dec {P : Prop} [Decidable P] {QB : Bool → Prop} (h : QB (decide P)) : brW P QB := by
  by_cases p : P
  · rw [decide_eq_true p] at h; exact br_t p h
  · rw [decide_eq_false p] at h; exact br_f p h
theorem ct_lt {mh : MH} {a b : Nat} {QB : Bool → Prop} (q : QB (decide (a < b))) : cmpW .Lt mh (.int (a : Int)) (.int (b : Int)) QB := br_iff (P' := (a : Int) < (b : Int)) Int.ofNat_lt (br_dec q)
theorem ct_le {mh : MH} {a b : Nat} {QB : Bool → Prop} (q : QB (decide (a ≤ b))) : cmpW .LtE mh (.int (a : Int)) (.int (b : Int)) QB := br_iff (P' := (a : Int) ≤ (b : Int)) Int.ofNat_le (br_dec q)
noncomputable def Inv1 (sc : V) (nums : List Int) (i : Nat) (loc : Loc) (m : MH) : Prop :=
  ∃ (vs : List Nat) (rw' : List (Nat × Int)) (S : List Nat) (o2 o11 o12 o13 o14 o15 o16 o17 o18 o19 o20 o21 o22 o23 o24 o25 o26 o28 : Option V),
    loc = [some sc, some (.list (nums.map .int)), o2, none, some (.mut 0), some (.mut 1), some (.mut 2), some (.mut 3), some (.list (rw'.map rv)), some (.int (val (S.map (· % 16)) : Nat)), some (.int (val (tallC (cnt S)) : Nat)), o11, o12, o13, o14, o15, o16, o17, o18, o19, o20, o21, o22, o23, o24, o25, o26, none, o28, none] ∧
    m = [iv vs, iv S, iv (S.map (· % 16)), rw'.map rv] ∧ rw'.map (·.1) = S ∧ vs.length = i ∧ (∀ v ∈ vs, v < 96) ∧ S.Perm vs ∧ Asc S
theorem mod_lt {S : List Nat} : ∀ d ∈ S.map (· % 16), d < 16 := fun d h => by
  obtain ⟨w, _, rfl⟩ := List.mem_map.mp h
  exact Nat.mod_lt _ (by decide)
theorem bit_lt {cs : List Nat} : ∀ d ∈ tallC cs, d < 16 := fun d h => (tallC_bit d h).elim (fun e => e ▸ by decide) fun e => e ▸ by decide
theorem eq_rv (l : List (Nat × Int)) : ∀ v ∈ l.map rv, eqok 7 v v := fun v hv => by
  obtain ⟨p, _, rfl⟩ := List.mem_map.mp hv
  exact eqok_list fun v hv => (List.mem_cons.mp hv).elim (fun e => e ▸ eqok_int) fun hv => List.mem_singleton.mp hv ▸ eqok_int
theorem lay_length {α : Type} {L : List α} {p : Nat} {x : α} : (lay L p x).length = L.length + 1 := by
  exact (perm_lay L x p).length_eq
theorem pl_len {rw' : List (Nat × Int)} {vs S : List Nat} (e : rw'.map (·.1) = S) (h : S.Perm vs) : rw'.length = vs.length := by
  have := h.length_eq; rwa [← e, List.length_map] at this
open PySem PySem.Calls PySem.W PyProof.Rows PySem.SeqAt
set_option maxRecDepth 100000
set_option linter.unusedVariables false
theorem eq_none : ∀ v ∈ ([.none, .none, .none] : List V), eqok 7 v v := fun v hv => by
  have : v = .none := by
    rcases List.mem_cons.mp hv with e | hv
    · exact e
    rcases List.mem_cons.mp hv with e | hv
    · exact e
    exact List.mem_singleton.mp hv
  exact this ▸ .inl rfl
theorem turnEnd1 {ov : Ov} {n : Nat} {sc : V} {nums : List Int} {vs : List Nat} {rw' : List (Nat × Int)} {S : List Nat} {v p : Nat} {z : Int} {Q : Fl → Loc → MH → Prop} {o12 o13 o15 o16 o17 o18 o19 o20 o21 o24 : Option V} (hS : rw'.map (·.1) = S) (hvl : vs.length ≤ 14) (hv : v < 96) (hvs : ∀ v ∈ vs, v < 96) (hperm : S.Perm vs) (hp : p ≤ vs.length)
    (ha : Asc (lay S p v)) (hq : ∀ l m, Inv1 sc nums (vs.length + 1) l m → Q .next l m) :
    wpSs (runF tab1 ov (n + 3)) [s1_12_24, s1_12_25, s1_12_26, s1_12_27, s1_12_29] [some sc, some (.list (nums.map .int)), some (.int (vs.length : Int)), none, some (.mut 0), some (.mut 1), some (.mut 2), some (.mut 3), some (.list (rw'.map rv)), some (.int (val (S.map (· % 16)) : Nat)), some (.int (val (tallC (cnt S)) : Nat)), some (.int v), o12, o13, some (.list (iv (endsC 0 (cnt S)))), o15, o16, o17, o18, o19, o20, o21, some (.int ((v / 16 : Nat) : Int)), some (.int ((v % 16 : Nat) : Int)), o24, some (.list [.int v, .int z]), some (.list [.none, .none, .none]), none, some (.int p), none]
      [iv vs, iv (lay S p v), iv ((lay S p v).map (· % 16)), (lay rw' p (v, z)).map rv] Q := by
  have hrl := pl_len hS hperm
  have h96 : ∀ w ∈ S, w < 96 := fun w hw => hvs w (hperm.mem_iff.mp hw)
  have hSl : S.length = vs.length := hperm.length_eq
  have htl := tall_len h96
  have hl20 : ∀ {n : Nat}, n ≤ 20 → n ≤ lim := fun h => Nat.le_trans h (by decide)
  have hrv : (rw'.map rv).length ≤ lim := by rw [List.length_map, hrl]; exact hl20 (Nat.le_trans hvl (by decide))
  have hq6 : v / 16 < 6 := by omega
  have hen : En S (v / 16) ≤ (tallC (cnt S)).length := by
    have := Nb_len (S := S) (p := v / 16 + 1)
    rw [htl]; unfold En; omega
  refine sExpr ?_
  refine ⟨_, rfl, ⟨trivial, by rw [List.length_map]; exact hl20 (Nat.le_trans hvl (by decide))⟩, rfl, sAssign ?_⟩
  refine ⟨_, rfl, hrv, .inl ⟨rfl, nn0, nnN p, ?_⟩⟩
  refine ⟨Nat.le_of_lt (by decide : 1 < lim), _, rfl, ?_, ?_⟩
  · rw [cut_none, List.length_take]; exact Nat.le_trans (Nat.add_le_add_right (Nat.le_trans (Nat.min_le_right ..) (by rw [List.length_map, hrl]; exact hvl)) 1) (by decide)
  refine ⟨_, rfl, hrv, .inl ⟨rfl, nnN p, nn0, ?_⟩⟩
  have hdue : (rw'.map rv).take p ++ [V.list [.int v, .int z]] ++ (rw'.map rv).drop p = (lay rw' p (v, z)).map rv := by rw [List.append_assoc, lay_map]; rfl
  refine ⟨_, rfl, ?_, sAssign ?_⟩
  · rw [cut_none, cut_some, ← List.length_append, hdue, List.length_map, lay_length, hrl]
    exact hl20 (by omega)
  rw [cut_none, cut_some, hdue]
  refine ⟨rfl, law_put (ds := S.map (· % 16)) (p := p) (f := v % 16) mod_lt (by rw [List.length_map, hSl]; omega) (by rw [List.length_map, hSl]; exact hp) rfl rfl (Nat.mod_lt _ (by decide)) (by rw [List.length_map, hSl]; omega) ?_⟩
  refine sAssign ?_
  refine i_at rfl (ends_iv hq6) (by decide : 6 ≤ lim) ?_
  refine ⟨rfl, law_put (ds := tallC (cnt S)) (p := En S (v / 16)) (f := 0) bit_lt (by rw [htl, hSl]; omega) hen rfl rfl (by decide) (by rw [htl, hSl] at hen ⊢; omega) ?_⟩
  rw [← tall_put hv (perm_lay S v p)]
  have hmod : lay (S.map (· % 16)) p (v % 16) = (lay S p v).map (· % 16) := (lay_map ..).symm
  rw [hmod]
  refine sIte ?_
  refine ⟨(by decide : 3 ≤ lim), c_nel rfl eq_none ?_⟩
  refine c_nel (vs := (lay rw' p (v, z)).map rv) rfl (eq_rv _) ?_
  refine ⟨rfl, law_spelled (ds := (lay S p v).map (· % 16)) mod_lt (by rw [List.length_map, lay_length, hSl]; omega) rfl rfl ?_⟩
  refine hq _ _ ⟨vs ++ [v], lay rw' p (v, z), lay S p v, _, _, _, _, _, _, _, _, _, _, _, _, _, _, _, _, _, _, rfl, ?_, ?_, ?_, ?_, ?_, ha⟩
  · have hiv : iv (vs ++ [v]) = iv vs ++ [.int (v : Int)] := List.map_append ..
    rw [hiv]; rfl
  · rw [lay_map, hS]
  · rw [List.length_append]; rfl
  · exact fun a ha => (List.mem_append.mp ha).elim (hvs a) fun ha => List.mem_singleton.mp ha ▸ hv
  · exact (perm_lay _ _ _).trans ((List.Perm.cons _ hperm).trans (List.perm_append_comm (l₁ := [v])))
open PySem PySem.Calls PySem.W PyProof.Rows PySem.SeqAt
set_option maxRecDepth 100000
set_option linter.unusedVariables false
theorem sForU {Γ : Tab} {loc : Loc} {mh : MH} {QS : Fl → Loc → MH → Prop} {xs : List Nat} {e : ME} {b ss : List MS} (h : wpE Γ e loc mh fun v m => notMut v ∧ ∃ vs, iterItems m v = some vs ∧ forW (fun v loc mh R => listW v fun us => us.length = xs.length ∧ wpSs Γ b (setAll loc xs us) mh R) (thenW (fun l m => wpSs Γ ss l m QS) QS) vs loc m) :
    wpSs Γ (.forU xs e b :: ss) loc mh QS := h
noncomputable abbrev ov11 : Ov := ov1 tab1
theorem refusedT {sc : V} {nums : List Int} {x : Int} {vs : List Nat} {rw' : List (Nat × Int)} {S : List Nat} {v : Nat} {hv : V} {Q : Fl → Loc → MH → Prop} {ss : List MS} {o9 o10 o12 o13 o14 o15 o17 o18 o19 o20 o21 o22 o24 o25 o26 o28 : Option V} (hx : nums[vs.length]? = some x) (hlen : nums.length ≤ 14)
    (hq : ∀ d o24 o25, wpSs (runF tab1 ov11 20) ss [some sc, some (.list (nums.map .int)), some (.int (vs.length : Int)), none, some (.mut 0), some (.mut 1), some (.mut 2), some (.mut 3), some (.list (rw'.map rv)), o9, o10, some (.int v), o12, o13, o14, o15, some hv, o17, o18, o19, o20, d, o22, some (.int ((v % 16 : Nat) : Int)), o24, o25, o26, none, o28, none] [iv vs, iv S, iv (S.map (· % 16)), rw'.map rv] Q) :
    wpSs (runF tab1 ov11 20) (s1_12_16 :: s1_12_18 :: ss) [some sc, some (.list (nums.map .int)), some (.int (vs.length : Int)), none, some (.mut 0), some (.mut 1), some (.mut 2), some (.mut 3), some (.list (rw'.map rv)), o9, o10, some (.int v), o12, o13, o14, o15, some hv, o17, o18, o19, o20, o21, o22, some (.int ((v % 16 : Nat) : Int)), o24, o25, o26, none, o28, none] [iv vs, iv S, iv (S.map (· % 16)), rw'.map rv] Q := by
  have hnx : (nums.map V.int)[vs.length]? = some (.int x) := by rw [List.getElem?_map, hx]; rfl
  have hnl : (nums.map V.int).length ≤ lim := by rw [List.length_map]; exact Nat.le_trans hlen (by decide)
  refine sAssign ?_
  refine i_at rfl hnx hnl ?_
  refine sForU ?_
  refine ⟨(by decide : 2 ≤ lim), (by decide : 2 ≤ lim), (by decide : 2 ≤ lim), (by decide : 2 ≤ lim), (by decide : 2 ≤ lim), (by decide : 2 ≤ lim), (by decide : 4 ≤ lim), trivial, _, rfl, ?_⟩
  refine forI (fun i loc m => ∃ o24 o25, loc = [some sc, some (.list (nums.map .int)), some (.int (vs.length : Int)), none, some (.mut 0), some (.mut 1), some (.mut 2), some (.mut 3), some (.list (rw'.map rv)), o9, o10, some (.int v), o12, o13, o14, o15, some hv, o17, o18, o19, o20, some (.int (-1 - (x.natAbs : Int))), o22, some (.int ((v % 16 : Nat) : Int)), o24, o25, o26, none, o28, none] ∧ m = [iv vs, iv S, iv (S.map (· % 16)), rw'.map rv])
    ⟨o24, o25, rfl, rfl⟩ ?_ ?_
  · rintro i u _ _ hu ⟨o24, o25, rfl, rfl⟩
    have key : ∃ f item, u = .list [.fn f, item] ∧ RefA tab1 f (.int ((v % 16 : Nat) : Int)) .none [iv vs, iv S, iv (S.map (· % 16)), rw'.map rv] ∧ RefA tab1 f item (.fn 6) [iv vs, iv S, iv (S.map (· % 16)), rw'.map rv] := by
      have hl : ∀ K : V → MH → Prop, (∀ w, K w [iv vs, iv S, iv (S.map (· % 16)), rw'.map rv]) → runF tab1 nov 2 6 [.list [.int v, .int (vs.length : Int)]] [] [iv vs, iv S, iv (S.map (· % 16)), rw'.map rv] K := fun K hK => law_last (by decide : 2 ≤ lim) (hK _)
      have hu := List.mem_of_getElem? hu
      rcases List.mem_cons.mp hu with rfl | hu
      · exact ⟨_, _, rfl, .inr (.inl rfl), .inr (.inl rfl)⟩
      rcases List.mem_cons.mp hu with rfl | hu
      · exact ⟨_, _, rfl, .inl rfl, .inl rfl⟩
      rcases List.mem_cons.mp hu with rfl | hu
      · exact ⟨_, _, rfl, .inr (.inr ⟨.inr rfl, .inl rfl⟩), .inr (.inr ⟨.inr rfl, .inr ⟨6, rfl, hl⟩⟩)⟩
      obtain rfl := List.mem_singleton.mp hu
      exact ⟨_, _, rfl, .inr (.inr ⟨.inl rfl, .inl rfl⟩), .inr (.inr ⟨.inl rfl, .inr ⟨6, rfl, hl⟩⟩)⟩
    obtain ⟨f, item, rfl, r1, r2⟩ := key
    have hd : (-1 - (x.natAbs : Int)) < 0 := by omega
    refine ⟨rfl, ?_⟩
    refine ⟨rfl, rfl, .inl ⟨rfl, rfl, rfl, ⟨_, rfl, f, _, _, _, _, _, rfl, hd, r1⟩, ?_⟩⟩
    refine ⟨rfl, rfl, .inl ⟨rfl, rfl, rfl, ⟨_, rfl, f, _, _, _, _, _, rfl, hd, r2⟩, ?_⟩⟩
    exact ⟨_, _, rfl, rfl⟩
  · rintro _ _ ⟨o24, o25, rfl, rfl⟩
    exact wNext (hq _ _ _)
open PySem PySem.Calls PySem.W PyProof.Rows PySem.SeqAt
set_option maxRecDepth 100000
set_option linter.unusedVariables false
structure TurnS (S : List Nat) (rw' : List (Nat × Int)) (n : Nat) : Prop where
  asc : Asc S
  fst : rw'.map (·.1) = S
  len : S.length = n
  le : n ≤ 14
section
variable {S : List Nat} {rw' : List (Nat × Int)} {k v j p : Nat} {u hv : V} {ov : Ov} {n : Nat} {mh : MH} (T : TurnS S rw' k)
include T
theorem TurnS.nine : S.length ≤ 900 := T.len ▸ Nat.le_trans T.le (by decide)
theorem TurnS.rl : (rw'.map rv).length = S.length := by rw [List.length_map, ← T.fst, List.length_map]
theorem TurnS.pl (h : (iv S)[j]? = some u) : ∃ w, u = .int (w : Nat) ∧ S[j]? = some w := iv_at h
theorem TurnS.lt (h : (iv S)[j]? = some u) : LtK (runF tab1 ov n) .none u (.int v) mh (j < cl S v) := let ⟨_, e, h⟩ := iv_at h; e ▸ ltI (lt_iff T.asc h)
theorem TurnS.gt (h : (iv S)[j]? = some u) : GtK (runF tab1 ov n) .none u (.int v) mh (cr S v ≤ j) := let ⟨_, e, h⟩ := iv_at h; e ▸ gtI (gt_iff T.asc h)
theorem TurnS.ltm (h : (iv (S.map (· % 16)))[j]? = some u) (h1 : Nb S (v / 16) ≤ j) (h2 : j < Nb S (v / 16 + 1)) : LtK (runF tab1 ov n) .none u (.int (v % 16 : Nat)) mh (j < cl S v) := by
  obtain ⟨_, rfl, a1⟩ := iv_at h
  obtain ⟨w, rfl, a3⟩ := map_get a1
  exact ltI (ltm_iff T.asc a3 h1 h2)
theorem TurnS.gtm (h : (iv (S.map (· % 16)))[j]? = some u) (h1 : Nb S (v / 16) ≤ j) (h2 : j < Nb S (v / 16 + 1)) : GtK (runF tab1 ov n) .none u (.int (v % 16 : Nat)) mh (cr S v ≤ j) := by
  obtain ⟨_, rfl, a1⟩ := iv_at h
  obtain ⟨w, rfl, a3⟩ := map_get a1
  exact gtI (gtm_iff T.asc a3 h1 h2)
theorem TurnS.lts (h : (iv ((S.map (· % 16)).map (65 + ·)))[j]? = some u) (h1 : Nb S (v / 16) ≤ j) (h2 : j < Nb S (v / 16 + 1)) : LtK (runF tab1 ov n) .none u (.int (65 + v % 16 : Nat)) mh (j < cl S v) := by
  obtain ⟨_, rfl, a1⟩ := iv_at h
  obtain ⟨_, rfl, a2⟩ := map_get a1
  obtain ⟨w, rfl, a3⟩ := map_get a2
  exact ltI (Iff.trans (Nat.add_lt_add_iff_left ..) (ltm_iff T.asc a3 h1 h2))
theorem TurnS.gts (h : (iv ((S.map (· % 16)).map (65 + ·)))[j]? = some u) (h1 : Nb S (v / 16) ≤ j) (h2 : j < Nb S (v / 16 + 1)) : GtK (runF tab1 ov n) .none u (.int (65 + v % 16 : Nat)) mh (cr S v ≤ j) := by
  obtain ⟨_, rfl, a1⟩ := iv_at h
  obtain ⟨_, rfl, a2⟩ := map_get a1
  obtain ⟨w, rfl, a3⟩ := map_get a2
  exact gtI (Iff.trans (Nat.add_lt_add_iff_left ..) (gtm_iff T.asc a3 h1 h2))
theorem TurnS.ltf (h : (rw'.map rv)[j]? = some u) : LtK (runF tab1 ov (n + 1)) (.fn 5) u (.int v) mh (j < cl S v) := by
  obtain ⟨q, rfl, a3⟩ := row_at h
  exact ltF (lt_iff T.asc (T.fst ▸ a3))
theorem TurnS.gtf (h : (rw'.map rv)[j]? = some u) : GtK (runF tab1 ov (n + 1)) (.fn 5) u (.int v) mh (cr S v ≤ j) := by
  obtain ⟨q, rfl, a3⟩ := row_at h
  exact gtF (gt_iff T.asc (T.fst ▸ a3))
theorem TurnS.ltl (h : (rw'.map rv)[j]? = some u) (h1 : Nb S (v / 16) ≤ j) (h2 : j < Nb S (v / 16 + 1)) : LtK (runF tab1 ov (n + 1)) (.fn 6) u (.int (v % 16 : Nat)) mh (j < cl S v) := by
  obtain ⟨q, rfl, a3⟩ := row_at h
  exact ltL (ltm_iff T.asc (T.fst ▸ a3) h1 h2)
theorem TurnS.gtl (h : (rw'.map rv)[j]? = some u) (h1 : Nb S (v / 16) ≤ j) (h2 : j < Nb S (v / 16 + 1)) : GtK (runF tab1 ov (n + 1)) (.fn 6) u (.int (v % 16 : Nat)) mh (cr S v ≤ j) := by
  obtain ⟨q, rfl, a3⟩ := row_at h
  exact gtL (gtm_iff T.asc (T.fst ▸ a3) h1 h2)
theorem lay_iv {l : List Nat} {p w : Nat} : (iv l).take p ++ V.int (w : Int) :: (iv l).drop p = iv (lay l p w) := (lay_map (fun (c : Nat) => V.int c) l p w).symm
theorem TurnS.mods : (iv (S.map (· % 16))).length = S.length := by rw [List.length_map, List.length_map]
theorem TurnS.ivl : (iv S).length = S.length := List.length_map ..
end
section
variable {n : Nat} {S : List Nat} {rw' : List (Nat × Int)} {k v p : Nat} {z : Int} {vs : List Nat} {hv : V} {loc : Loc} {Q : V → MH → Prop}
theorem insAllL (T : TurnS S rw' k) (hh : ∀ l : List V, l.length = S.length → HiP hv l (Nb S (v / 16 + 1))) (h5 : loc[5]? = some (some (.mut 1))) (h6 : loc[6]? = some (some (.mut 2))) (h7 : loc[7]? = some (some (.mut 3))) (h11 : loc[11]? = some (some (.int v))) (h15 : loc[15]? = some (some (.int (Nb S (v / 16) : Nat)))) (h16 : loc[16]? = some (some hv)) (h23 : loc[23]? = some (some (.int (v % 16 : Nat)))) (h25 : loc[25]? = some (some (rv (v, z))))
    (q : Q (.list [.none, .none, .none]) [iv vs, iv (lay S (cl S v) v), iv ((lay S (cl S v) v).map (· % 16)), (lay rw' (cl S v) (v, z)).map rv]) :
    wpE (runF tab1 ov11 (n + 4)) (.list [(.call (.glob 2) [(.var 5), (.var 11)] [] []), (.call (.glob 2) [(.var 6), (.var 23), (.var 15), (.var 16)] [] []), (.call (.glob 2) [(.var 7), (.var 25), (.var 15), (.var 16)] ["key"] [(.glob 6)])]) loc [iv vs, iv S, iv (S.map (· % 16)), rw'.map rv] Q := by
  dsimp only [wE_const, wE_var, wE_glob, wE_bin, wE_neg, wE_cmp, wE_ite, wE_list, wE_item, wE_slice, wE_prim, wE_app, wE_ins, wE_call, wEs_nil, wEs_cons, wC_tst, wC_not, wC_bop, wC_cmp, wCB_nil, wCB_cons, v_some, i_int, s_str, m_mut, f_fn, tp_tup, b_add, b_adds, b_addb, b_addl, b_sub, b_mul, b_muls, b_mull, b_fd, b_mod, b_pow, c_lt, c_lts, c_ltl, c_le, c_gt, c_is, c_isnot, t_int, t_bool, t_none, p_int, p_none, f_abs, f_int, f_divmod, f_range, f_lens, sl_bytes, sl_str, st_and, st_or, List.getElem?_cons_succ, List.getElem?_cons_zero, List.set_cons_zero, List.set_cons_succ, List.zip_nil_left, List.zip_cons_cons, brW, setAll_nil, setAll_cons]
  rw [h5, h11, h6, h23, h15, h16, h7, h25]
  dsimp only [wE_const, wE_var, wE_glob, wE_bin, wE_neg, wE_cmp, wE_ite, wE_list, wE_item, wE_slice, wE_prim, wE_app, wE_ins, wE_call, wEs_nil, wEs_cons, wC_tst, wC_not, wC_bop, wC_cmp, wCB_nil, wCB_cons, v_some, i_int, s_str, m_mut, f_fn, tp_tup, b_add, b_adds, b_addb, b_addl, b_sub, b_mul, b_muls, b_mull, b_fd, b_mod, b_pow, c_lt, c_lts, c_ltl, c_le, c_gt, c_is, c_isnot, t_int, t_bool, t_none, p_int, p_none, f_abs, f_int, f_divmod, f_range, f_lens, sl_bytes, sl_str, st_and, st_or, List.getElem?_cons_succ, List.getElem?_cons_zero, List.set_cons_zero, List.set_cons_succ, List.zip_nil_left, List.zip_cons_cons, brW, setAll_nil, setAll_cons]
  refine ⟨rfl, insL std1 (n := n + 2) (lo := 0) (i := 1) rfl (bisA rfl T.ivl T.nine (.inl rfl) cl_len) trivial (fun K hK => keyW_none (hK _ fun i u _ _ h => T.lt h)) ?_⟩
  refine ⟨rfl, insL std1 (n := n + 2) (i := 2) rfl (bisP rfl T.mods T.nine (hh _ T.mods) (.inl rfl) part_lo (Nat.le_trans part_cl part_hi)) trivial (fun K hK => keyW_none (hK _ fun i u h1 h2 h => T.ltm h h1 h2)) ?_⟩
  refine ⟨rfl, insL std1 (n := n + 2) (i := 3) rfl (bisP rfl T.rl T.nine (hh _ T.rl) (.inr ⟨6, rfl⟩) part_lo (Nat.le_trans part_cl part_hi)) ⟨trivial, trivial, trivial⟩ (fun K hK => keyL (hK _ fun i u h1 h2 h => T.ltl h h1 h2)) ?_⟩
  refine ⟨(by decide : 3 ≤ lim), ?_⟩
  show Q _ [iv vs, (iv S).take (cl S v) ++ V.int (v : Int) :: (iv S).drop (cl S v), (iv (S.map (· % 16))).take (cl S v) ++ V.int ((v % 16 : Nat) : Int) :: (iv (S.map (· % 16))).drop (cl S v), lay (rw'.map rv) (cl S v) (rv (v, z))]
  rw [lay_iv T, lay_iv T, ← lay_map (· % 16), ← lay_map rv]
  exact q
theorem insAllR (T : TurnS S rw' k) (hh : ∀ l : List V, l.length = S.length → HiP hv l (Nb S (v / 16 + 1))) (h5 : loc[5]? = some (some (.mut 1))) (h6 : loc[6]? = some (some (.mut 2))) (h7 : loc[7]? = some (some (.mut 3))) (h11 : loc[11]? = some (some (.int v))) (h15 : loc[15]? = some (some (.int (Nb S (v / 16) : Nat)))) (h16 : loc[16]? = some (some hv)) (h23 : loc[23]? = some (some (.int (v % 16 : Nat)))) (h25 : loc[25]? = some (some (rv (v, z))))
    (q : Q (.list [.none, .none, .none]) [iv vs, iv (lay S (cr S v) v), iv ((lay S (cr S v) v).map (· % 16)), (lay rw' (cr S v) (v, z)).map rv]) :
    wpE (runF tab1 ov11 (n + 4)) (.list [(.call (.glob 0) [(.var 5), (.var 11)] [] []), (.call (.glob 0) [(.var 6), (.var 23), (.var 15), (.var 16)] [] []), (.call (.glob 0) [(.var 7), (.var 25), (.var 15), (.var 16)] ["key"] [(.glob 6)])]) loc [iv vs, iv S, iv (S.map (· % 16)), rw'.map rv] Q := by
  dsimp only [wE_const, wE_var, wE_glob, wE_bin, wE_neg, wE_cmp, wE_ite, wE_list, wE_item, wE_slice, wE_prim, wE_app, wE_ins, wE_call, wEs_nil, wEs_cons, wC_tst, wC_not, wC_bop, wC_cmp, wCB_nil, wCB_cons, v_some, i_int, s_str, m_mut, f_fn, tp_tup, b_add, b_adds, b_addb, b_addl, b_sub, b_mul, b_muls, b_mull, b_fd, b_mod, b_pow, c_lt, c_lts, c_ltl, c_le, c_gt, c_is, c_isnot, t_int, t_bool, t_none, p_int, p_none, f_abs, f_int, f_divmod, f_range, f_lens, sl_bytes, sl_str, st_and, st_or, List.getElem?_cons_succ, List.getElem?_cons_zero, List.set_cons_zero, List.set_cons_succ, List.zip_nil_left, List.zip_cons_cons, brW, setAll_nil, setAll_cons]
  rw [h5, h11, h6, h23, h15, h16, h7, h25]
  dsimp only [wE_const, wE_var, wE_glob, wE_bin, wE_neg, wE_cmp, wE_ite, wE_list, wE_item, wE_slice, wE_prim, wE_app, wE_ins, wE_call, wEs_nil, wEs_cons, wC_tst, wC_not, wC_bop, wC_cmp, wCB_nil, wCB_cons, v_some, i_int, s_str, m_mut, f_fn, tp_tup, b_add, b_adds, b_addb, b_addl, b_sub, b_mul, b_muls, b_mull, b_fd, b_mod, b_pow, c_lt, c_lts, c_ltl, c_le, c_gt, c_is, c_isnot, t_int, t_bool, t_none, p_int, p_none, f_abs, f_int, f_divmod, f_range, f_lens, sl_bytes, sl_str, st_and, st_or, List.getElem?_cons_succ, List.getElem?_cons_zero, List.set_cons_zero, List.set_cons_succ, List.zip_nil_left, List.zip_cons_cons, brW, setAll_nil, setAll_cons]
  refine ⟨rfl, insR std1 (n := n + 2) (lo := 0) (i := 1) rfl (bisA rfl T.ivl T.nine (.inl rfl) cr_len) trivial (fun K hK => keyW_none (hK _ fun i u _ _ h => T.gt h)) ?_⟩
  refine ⟨rfl, insR std1 (n := n + 2) (i := 2) rfl (bisP rfl T.mods T.nine (hh _ T.mods) (.inl rfl) (Nat.le_trans part_lo part_cl) part_hi) trivial (fun K hK => keyW_none (hK _ fun i u h1 h2 h => T.gtm h h1 h2)) ?_⟩
  refine ⟨rfl, insR std1 (n := n + 2) (i := 3) rfl (bisP rfl T.rl T.nine (hh _ T.rl) (.inr ⟨6, rfl⟩) (Nat.le_trans part_lo part_cl) part_hi) ⟨trivial, trivial, trivial⟩ (fun K hK => keyL (hK _ fun i u h1 h2 h => T.gtl h h1 h2)) ?_⟩
  refine ⟨(by decide : 3 ≤ lim), ?_⟩
  show Q _ [iv vs, (iv S).take (cr S v) ++ V.int (v : Int) :: (iv S).drop (cr S v), (iv (S.map (· % 16))).take (cr S v) ++ V.int ((v % 16 : Nat) : Int) :: (iv (S.map (· % 16))).drop (cr S v), lay (rw'.map rv) (cr S v) (rv (v, z))]
  rw [lay_iv T, lay_iv T, ← lay_map (· % 16), ← lay_map rv]
  exact q
end
open PySem PySem.Calls PySem.W PyProof.Rows PySem.SeqAt
set_option maxRecDepth 100000
set_option linter.unusedVariables false
section
variable {sc : V} {nums : List Int} {x : Int} {vs : List Nat} {rw' : List (Nat × Int)} {S : List Nat} {v : Nat} {Q : Fl → Loc → MH → Prop} {ss : List MS} {o11 o12 o13 o14 o15 o16 o17 o18 o19 o20 o21 o22 o23 o24 o25 o26 o28 : Option V}
theorem turnA (hlen : nums.length ≤ 14) (hx : nums[vs.length]? = some x) (hxv : x % 96 = (v : Int)) (hv : v < 96) (T : TurnS S rw' vs.length) (h96 : ∀ w ∈ S, w < 96) (k : ∀ hv, (∀ l : List V, l.length = S.length → HiP hv l (Nb S (v / 16 + 1))) → wpSs (runF tab1 ov11 20) ss [some sc, some (.list (nums.map .int)), some (.int (vs.length : Int)), none, some (.mut 0), some (.mut 1), some (.mut 2), some (.mut 3), some (.list (rw'.map rv)), some (.int (val (S.map (· % 16)) : Nat)), some (.int (val (tallC (cnt S)) : Nat)), some (.int v), some (.list (iv ((S.map (· % 16)).map (65 + ·)))), some (tl (cnt S)), some (.list (iv (endsC 0 (cnt S)))), some (.int (Nb S (v / 16) : Nat)), some hv, o17, o18, o19, o20, o21, some (.int ((v / 16 : Nat) : Int)), some (.int ((v % 16 : Nat) : Int)), o24, o25, o26, none, o28, none] [iv vs, iv S, iv (S.map (· % 16)), rw'.map rv] Q) :
    wpSs (runF tab1 ov11 20) (s1_12_3 :: s1_12_4 :: s1_12_5 :: s1_12_6 :: s1_12_7 :: s1_12_8 :: s1_12_9 :: ss) [some sc, some (.list (nums.map .int)), some (.int (vs.length : Int)), none, some (.mut 0), some (.mut 1), some (.mut 2), some (.mut 3), some (.list (rw'.map rv)), some (.int (val (S.map (· % 16)) : Nat)), some (.int (val (tallC (cnt S)) : Nat)), o11, o12, o13, o14, o15, o16, o17, o18, o19, o20, o21, o22, o23, o24, o25, o26, none, o28, none] [iv vs, iv S, iv (S.map (· % 16)), rw'.map rv] Q := by
  have hSl := T.len
  have hv14 := T.le
  have htl := tall_len h96
  have hnx : (nums.map V.int)[vs.length]? = some (.int x) := by rw [List.getElem?_map, hx]; rfl
  have hnl : (nums.map V.int).length ≤ lim := by rw [List.length_map]; exact Nat.le_trans hlen (by decide)
  have hq6 : v / 16 < 6 := by omega
  refine sAssign ?_
  refine i_at rfl hnx hnl ?_
  refine ⟨by decide, ?_⟩
  rw [hxv]
  refine sTup ?_
  refine ⟨⟨by decide, by decide⟩, by decide, rfl, rfl, ?_⟩
  refine sAssign ?_
  refine ⟨rfl, law_shown (n := 18) (ds := S.map (· % 16)) mod_lt (by rw [List.length_map, hSl]; omega) rfl (by rw [List.length_map, hSl]) ?_⟩
  refine sAssign ?_
  refine ⟨rfl, law_shown (n := 18) (ds := tallC (cnt S)) bit_lt (by rw [htl, hSl]; omega) rfl (by rw [htl, hSl]; rfl) ?_⟩
  refine sAssign ?_
  refine endsE rfl (fun u => rfl) (fun u => rfl) (by rw [htl, hSl]; omega) ?_
  refine sAssign ?_
  refine loE rfl rfl hq6 ?_
  refine sAssign ?_
  refine hiE rfl rfl hq6 h96 fun hv' hh => ?_
  exact k hv' hh
theorem turnB {hv : V} (T : TurnS S rw' vs.length) (hperm : S.Perm vs) (hh : ∀ l : List V, l.length = S.length → HiP hv l (Nb S (v / 16 + 1))) (k : wpSs (runF tab1 ov11 20) ss [some sc, some (.list (nums.map .int)), some (.int (vs.length : Int)), none, some (.mut 0), some (.mut 1), some (.mut 2), some (.mut 3), some (.list (rw'.map rv)), some (.int (val (S.map (· % 16)) : Nat)), some (.int (val (tallC (cnt S)) : Nat)), some (.int v), some (.list (iv ((S.map (· % 16)).map (65 + ·)))), some (tl (cnt S)), some (.list (iv (endsC 0 (cnt S)))), some (.int (Nb S (v / 16) : Nat)), some hv, some (.int (cl S v : Nat)), some (.int (cr S v : Nat)), some (.list [.int (cl S v : Nat), .int (cr S v : Nat)]), some (.list [.int (cl S v : Nat), .int (cr S v : Nat)]), o21, some (.int ((v / 16 : Nat) : Int)), some (.int ((v % 16 : Nat) : Int)), o24, o25, o26, none, o28, none] [iv vs, iv S, iv (S.map (· % 16)), rw'.map rv] Q) :
    wpSs (runF tab1 ov11 20) (s1_12_10 :: s1_12_11 :: s1_12_12 :: s1_12_13 :: s1_12_15 :: ss) [some sc, some (.list (nums.map .int)), some (.int (vs.length : Int)), none, some (.mut 0), some (.mut 1), some (.mut 2), some (.mut 3), some (.list (rw'.map rv)), some (.int (val (S.map (· % 16)) : Nat)), some (.int (val (tallC (cnt S)) : Nat)), some (.int v), some (.list (iv ((S.map (· % 16)).map (65 + ·)))), some (tl (cnt S)), some (.list (iv (endsC 0 (cnt S)))), some (.int (Nb S (v / 16) : Nat)), some hv, o17, o18, o19, o20, o21, some (.int ((v / 16 : Nat) : Int)), some (.int ((v % 16 : Nat) : Int)), o24, o25, o26, none, o28, none] [iv vs, iv S, iv (S.map (· % 16)), rw'.map rv] Q := by
  have hvs9 : vs.length ≤ 900 := Nat.le_trans T.le (by decide)
  have hcl : vs.countP (fun a => decide (a < v)) = cl S v := (hperm.countP_eq _).symm
  have hcr : vs.countP (fun a => decide (a ≤ v)) = cr S v := (hperm.countP_eq _).symm
  have hsm : (iv ((S.map (· % 16)).map (65 + ·))).length = S.length := by rw [List.length_map, List.length_map, List.length_map]
  have hin2 : ∀ u ∈ ([V.int (cl S v : Nat), V.int (cr S v : Nat)] : List V), eqok 7 u u := fun u hu => (List.mem_cons.mp hu).elim (fun e => e ▸ eqok_int) fun hu => (List.mem_singleton.mp hu) ▸ eqok_int
  refine sAssign ?_
  refine cntE (t := fun a => decide (a < v)) rfl (fun u => rfl) (fun u => rfl) rfl hvs9 (fun a _ QB q => ct_lt q) ?_
  refine sAssign ?_
  refine cntE (t := fun a => decide (a ≤ v)) rfl (fun u => rfl) (fun u => rfl) rfl hvs9 (fun a _ QB q => ct_le q) ?_
  rw [hcl, hcr]
  refine sAssign ?_
  refine ⟨rfl, bisL std1 (n := 19) (lo := Nb S (v / 16)) rfl (bisP rfl hsm T.nine (hh _ hsm) (.inl rfl) part_lo (Nat.le_trans part_cl part_hi)) (fun i u h1 h2 h => T.lts h h1 h2) ?_⟩
  refine ⟨rfl, bisR std1 (n := 19) (lo := Nb S (v / 16)) rfl (bisP rfl hsm T.nine (hh _ hsm) (.inl rfl) (Nat.le_trans part_lo part_cl) part_hi) (fun i u h1 h2 h => T.gts h h1 h2) ?_⟩
  refine ⟨(by decide : 2 ≤ lim), sAssign ?_⟩
  refine ⟨rfl, bisL std1 (n := 19) (lo := 0) rfl (bisA rfl T.rl T.nine (.inr ⟨5, rfl⟩) cl_len) (fun i u h1 h2 h => T.ltf h) ?_⟩
  refine ⟨rfl, bisR std1 (n := 19) (lo := 0) rfl (bisA rfl T.rl T.nine (.inr ⟨5, rfl⟩) cr_len) (fun i u h1 h2 h => T.gtf h) ?_⟩
  refine ⟨(by decide : 2 ≤ lim), sIte ?_⟩
  refine ⟨(by decide : 2 ≤ lim), c_nel rfl hin2 ?_⟩
  refine ⟨(by decide : 2 ≤ lim), c_nel rfl hin2 ?_⟩
  exact k
theorem turnC {hv : V} (hlen : nums.length ≤ 14) (hx : nums[vs.length]? = some x) (hv96 : v < 96) (T : TurnS S rw' vs.length) (hvs : ∀ v ∈ vs, v < 96) (hperm : S.Perm vs) (hh : ∀ l : List V, l.length = S.length → HiP hv l (Nb S (v / 16 + 1))) (hq : ∀ l m, Inv1 sc nums (vs.length + 1) l m → Q .next l m) :
    wpSs (runF tab1 ov11 20) [s1_12_23, s1_12_24, s1_12_25, s1_12_26, s1_12_27, s1_12_29] [some sc, some (.list (nums.map .int)), some (.int (vs.length : Int)), none, some (.mut 0), some (.mut 1), some (.mut 2), some (.mut 3), some (.list (rw'.map rv)), some (.int (val (S.map (· % 16)) : Nat)), some (.int (val (tallC (cnt S)) : Nat)), some (.int v), some (.list (iv ((S.map (· % 16)).map (65 + ·)))), some (tl (cnt S)), some (.list (iv (endsC 0 (cnt S)))), some (.int (Nb S (v / 16) : Nat)), some hv, some (.int (cl S v : Nat)), some (.int (cr S v : Nat)), some (.list [.int (cl S v : Nat), .int (cr S v : Nat)]), some (.list [.int (cl S v : Nat), .int (cr S v : Nat)]), o21, some (.int ((v / 16 : Nat) : Int)), some (.int ((v % 16 : Nat) : Int)), o24, o25, o26, none, o28, none] [iv vs, iv S, iv (S.map (· % 16)), rw'.map rv] Q := by
  have hnx : (nums.map V.int)[vs.length]? = some (.int x) := by rw [List.getElem?_map, hx]; rfl
  have hnl : (nums.map V.int).length ≤ lim := by rw [List.length_map]; exact Nat.le_trans hlen (by decide)
  refine sIte ?_
  refine i_at rfl hnx hnl ?_
  refine ⟨⟨by decide, by decide⟩, by decide, c_eqi ⟨fun _ => ?_, fun _ => ?_⟩⟩
  · refine sTup ?_
    refine ⟨(by decide : 2 ≤ lim), rfl, rfl, sAssign ?_⟩
    refine insAllL (n := 16) (z := (vs.length : Int)) T hh rfl rfl rfl rfl rfl rfl rfl rfl ?_
    exact turnEnd1 (n := 17) T.fst T.le hv96 hvs hperm (T.len ▸ cl_len) (asc_l T.asc) hq
  · refine sTup ?_
    refine ⟨(by decide : 2 ≤ lim), rfl, rfl, sAssign ?_⟩
    refine insAllR (n := 16) (z := -(vs.length : Int)) T hh rfl rfl rfl rfl rfl rfl rfl rfl ?_
    exact turnEnd1 (n := 17) T.fst T.le hv96 hvs hperm (T.len ▸ cr_len) (asc_r T.asc) hq
end
theorem turn1 {sc : V} {nums : List Int} {i : Nat} {x : Int} {loc : Loc} {m : MH} {Q : Fl → Loc → MH → Prop} (hlen : nums.length ≤ 14) (hx : nums[i]? = some x) (hI : Inv1 sc nums i loc m) (hq : ∀ l m, Inv1 sc nums (i + 1) l m → Q .next l m) :
    wpSs (runF tab1 ov11 20) [s1_12_3, s1_12_4, s1_12_5, s1_12_6, s1_12_7, s1_12_8, s1_12_9, s1_12_10, s1_12_11, s1_12_12, s1_12_13, s1_12_15, s1_12_16, s1_12_18, s1_12_23, s1_12_24, s1_12_25, s1_12_26, s1_12_27, s1_12_29] (loc.set 2 (some (.int (i : Int)))) m Q := by
  obtain ⟨vs, rw', S, o2, o11, o12, o13, o14, o15, o16, o17, o18, o19, o20, o21, o22, o23, o24, o25, o26, o28, rfl, rfl, hS, rfl, hvs, hperm, ha⟩ := hI
  have hi : vs.length < nums.length := (List.getElem?_eq_some_iff.mp hx).1
  have T : TurnS S rw' vs.length := ⟨ha, hS, hperm.length_eq, Nat.le_trans (Nat.le_of_lt hi) hlen⟩
  obtain ⟨v, hxv, hv⟩ : ∃ v : Nat, x % 96 = (v : Int) ∧ v < 96 := ⟨(x % 96).toNat, by omega, by omega⟩
  refine turnA hlen hx hxv hv T (fun w hw => hvs w (hperm.mem_iff.mp hw)) fun hv' hh => ?_
  refine turnB T hperm hh ?_
  refine refusedT hx hlen fun d a24 a25 => ?_
  exact turnC hlen hx hv T hvs hperm hh hq
open PySem PySem.Calls PySem.W PyProof.Rows PySem.SeqAt
set_option maxRecDepth 100000
set_option linter.unusedVariables false
theorem sort_uniq : ∀ {a b : List Int}, a.Perm b → a.Pairwise (· ≤ ·) → b.Pairwise (· ≤ ·) → a = b
  | [], b, h, _, _ => (List.nil_perm.mp h).symm
  | x :: a, [], h, _, _ => nomatch h.length_eq
  | x :: a, y :: b, h, ha, hb => by
    obtain ⟨h1, h2⟩ := List.pairwise_cons.mp ha
    obtain ⟨h3, h4⟩ := List.pairwise_cons.mp hb
    have e : x = y := by
      have q1 : y ≤ x := (List.mem_cons.mp (h.mem_iff.mp (.head _))).elim (fun e => e ▸ Int.le_refl _) (h3 x)
      have q2 : x ≤ y := (List.mem_cons.mp (h.mem_iff.mpr (.head _))).elim (fun e => e ▸ Int.le_refl _) (h1 y)
      omega
    subst e
    rw [sort_uniq h.cons_inv h2 h4]
theorem iv_int (l : List Nat) : iv l = (l.map fun (c : Nat) => (c : Int)).map V.int := by rw [List.map_map]; rfl
theorem law1_plain {Q : V → MH → Prop} (ns : List Int) (hl : ns.length ≤ 63) (q : Q (.bool true) []) : callW tab1 (runF tab1 ov11 20) 12 [.list (ns.map .int)] [] [] Q := by
  refine ⟨d1_12, [.list (ns.map .int)], rfl, rfl, ?_⟩
  show wpSs (runF tab1 ov11 20) [s1_12_0, s1_12_1, s1_12_2, s1_12_30, s1_12_31, s1_12_32] [some (.list (ns.map .int)), none, none, none, none, none, none, none, none, none, none, none, none, none, none, none, none, none, none, none, none, none, none, none, none, none, none, none, none, none] [] _
  obtain ⟨nums, hn⟩ : ∃ nums : List Int, nums = ns.take 5 ++ [37, 129, 82, 99, 133, 33, 37, 80, 177] := ⟨_, rfl⟩
  have hnl : nums.length ≤ 14 := by rw [hn, List.length_append, List.length_take]; exact Nat.add_le_add (Nat.min_le_left ..) (Nat.le_refl 9)
  refine sAssign ?_
  refine ⟨_, rfl, by rw [List.length_map]; exact Nat.le_trans hl (by decide), .inl ⟨rfl, nn0, nnN 5, ?_⟩⟩
  have hnum : cutL (ns.map V.int) none (some 5) ++ [V.int 37, V.int 129, V.int 82, V.int 99, V.int 133, V.int 33, V.int 37, V.int 80, V.int 177] = nums.map V.int := by
    rw [hn, List.map_append, List.map_take]; rfl
  refine ⟨(by decide : 9 ≤ lim), _, rfl, ?_, ?_⟩
  · rw [← List.length_append, hnum, List.length_map]; exact Nat.le_trans hnl (by decide)
  rw [hnum]
  refine sTup ?_
  refine ⟨⟨trivial, Nat.zero_le _⟩, ⟨trivial, Nat.zero_le _⟩, ⟨trivial, Nat.zero_le _⟩, ⟨trivial, Nat.zero_le _⟩, Nat.zero_le _, rfl, rfl, ?_⟩
  refine sTup ?_
  refine ⟨rfl, rfl, ?_⟩
  refine sFor ?_
  refine ⟨_, rfl, by rw [List.length_map]; exact Nat.le_trans hnl (by decide), trivial, _, it_rng (by rw [List.length_map]; exact Nat.le_trans hnl (by decide)), ?_⟩
  refine forI (Inv1 (.list (ns.map .int)) nums) ?_ ?_ ?_
  · exact ⟨[], [], [], _, _, _, _, _, _, _, _, _, _, _, _, _, _, _, _, _, _, rfl, rfl, rfl, rfl, (fun _ q => nomatch q), List.Perm.nil, .nil⟩
  · intro i v loc m hv hI
    rw [List.getElem?_map] at hv
    obtain ⟨k, hk, rfl⟩ := Option.map_eq_some_iff.mp hv
    obtain ⟨hi, hk⟩ := List.getElem?_eq_some_iff.mp hk
    rw [List.getElem_range] at hk
    rw [List.length_range, List.length_map] at hi
    subst hk
    exact turn1 hnl (List.getElem?_eq_getElem hi) hI fun l m h => h
  · rintro loc m ⟨vs, rw', S, o2, o11, o12, o13, o14, o15, o16, o17, o18, o19, o20, o21, o22, o23, o24, o25, o26, o28, rfl, rfl, hS, hvl, hvs, hperm, ha⟩
    rw [List.length_map, List.length_range, List.length_map] at hvl
    have hSl := hperm.length_eq
    have h96 : ∀ w ∈ S, w < 96 := fun w hw => hvs w (hperm.mem_iff.mp hw)
    have htl := tall_len h96
    have hv14 : vs.length ≤ 14 := hvl ▸ hnl
    have hvm : (iv vs).length ≤ lim := by rw [List.length_map]; exact Nat.le_trans hv14 (by decide)
    refine wNext (sAssign ?_)
    refine ⟨_, rfl, hvm, ?_⟩
    rw [List.length_map]
    refine ⟨rfl, law_shown (n := 18) (ds := S.map (· % 16)) mod_lt (by rw [List.length_map, hSl]; omega) rfl (by rw [List.length_map, hSl]) ?_⟩
    refine ⟨_, rfl, hvm, ?_⟩
    rw [List.length_map]
    refine ⟨rfl, law_shown (n := 18) (ds := tallC (cnt S)) bit_lt (by rw [htl, hSl]; omega) rfl (by rw [htl, hSl]; rfl) ?_⟩
    refine ⟨rfl, law_members (n := 18) ha h96 (by rw [hSl]; omega) ?_⟩
    refine sRet ?_
    refine ⟨_, rfl, vs.map fun (c : Nat) => (c : Int), iv_ints vs, by rw [List.length_map]; omega, fun ns' hp hs => ?_⟩
    have hu : ns' = S.map fun (c : Nat) => (c : Int) := sort_uniq (hp.trans (hperm.symm.map _)) hs (ha.map _ fun a b h => Int.ofNat_le.mpr h)
    rw [hu, ← iv_int]
    refine c_eql rfl (eq_iv S) ?_
    refine c_eql (vs := iv S) rfl (eq_iv S) ?_
    refine ⟨Nat.zero_le _, rfl, law_spelled (n := 18) (ds := []) (fun d h => nomatch h) (Nat.zero_le _) rfl rfl ?_⟩
    exact q
open PySem PySem.W PyProof.Rows
set_option maxRecDepth 100000
set_option maxHeartbeats 8000000
open_top hd1 for PySem.Challenge.rw_pk0060_01
open PySem PySem.W PyProof.Rows PySem.Calls
set_option maxRecDepth 100000
set_option maxHeartbeats 8000000
theorem fr1_0 {P : Params} {C : Cfg} (X : (hd1.heap_39 P).In C.hb) (hf : C.fa 0 = 23) : FnRec C fns1 0 d0_0 :=
  fr_bis (t0 := _) X hf (by rfl) (by rfl) (by rfl) (by rfl) (by rfl) (by decide +kernel) fun s Y => ⟨fun _ _ => kp_binds Y fun _ => rfl, fun _ _ _ => kp_binds Y fun _ => rfl, fun _ _ _ _ => kp_binds Y fun _ => rfl, fun _ _ _ => kp_binds Y fun _ => rfl, fun _ _ _ _ => kp_binds Y fun _ => rfl, fun _ _ _ _ _ => kp_binds Y fun _ => rfl⟩
theorem fr1_1 {P : Params} {C : Cfg} (X : (hd1.heap_39 P).In C.hb) (hf : C.fa 1 = 32) : FnRec C fns1 1 d0_1 :=
  fr_bis (t0 := _) X hf (by rfl) (by rfl) (by rfl) (by rfl) (by rfl) (by decide +kernel) fun s Y => ⟨fun _ _ => kp_binds Y fun _ => rfl, fun _ _ _ => kp_binds Y fun _ => rfl, fun _ _ _ _ => kp_binds Y fun _ => rfl, fun _ _ _ => kp_binds Y fun _ => rfl, fun _ _ _ _ => kp_binds Y fun _ => rfl, fun _ _ _ _ _ => kp_binds Y fun _ => rfl⟩
theorem fr1_2 {P : Params} {C : Cfg} (X : (hd1.heap_39 P).In C.hb) (hf : C.fa 2 = 41) : FnRec C fns1 2 d0_2 :=
  fr_bis (t0 := _) X hf (by rfl) (by rfl) (by rfl) (by rfl) (by rfl) (by decide +kernel) fun s Y => ⟨fun _ _ => kp_binds Y fun _ => rfl, fun _ _ _ => kp_binds Y fun _ => rfl, fun _ _ _ _ => kp_binds Y fun _ => rfl, fun _ _ _ => kp_binds Y fun _ => rfl, fun _ _ _ _ => kp_binds Y fun _ => rfl, fun _ _ _ _ _ => kp_binds Y fun _ => rfl⟩
theorem fr1_3 {P : Params} {C : Cfg} (X : (hd1.heap_39 P).In C.hb) (hf : C.fa 3 = 50) : FnRec C fns1 3 d0_3 :=
  fr_bis (t0 := _) X hf (by rfl) (by rfl) (by rfl) (by rfl) (by rfl) (by decide +kernel) fun s Y => ⟨fun _ _ => kp_binds Y fun _ => rfl, fun _ _ _ => kp_binds Y fun _ => rfl, fun _ _ _ _ => kp_binds Y fun _ => rfl, fun _ _ _ => kp_binds Y fun _ => rfl, fun _ _ _ _ => kp_binds Y fun _ => rfl, fun _ _ _ _ _ => kp_binds Y fun _ => rfl⟩
theorem fr1_4 {P : Params} {C : Cfg} (X : (hd1.heap_39 P).In C.hb) (hf : C.fa 4 = 57) : FnRec C fns1 4 d0_4 :=
  fr_plain X hf (by rfl) (by rfl) (by rfl) (by rfl) (by rfl) (by decide +kernel) fun s _ => BindsTo.of_eq rfl
theorem fr1_5 {P : Params} {C : Cfg} (X : (hd1.heap_39 P).In C.hb) (hf : C.fa 5 = 64) : FnRec C fns1 5 d0_5 :=
  fr_plain X hf (by rfl) (by rfl) (by rfl) (by rfl) (by rfl) (by decide +kernel) fun s _ => BindsTo.of_eq rfl
theorem fr1_6 {P : Params} {C : Cfg} (X : (hd1.heap_39 P).In C.hb) (hf : C.fa 6 = 71) : FnRec C fns1 6 d1_6 :=
  fr_plain X hf (by rfl) (by rfl) (by rfl) (by rfl) (by rfl) (by decide +kernel) fun s _ => BindsTo.of_eq rfl
theorem fr1_7 {P : Params} {C : Cfg} (X : (hd1.heap_39 P).In C.hb) (hf : C.fa 7 = 78) : FnRec C fns1 7 d1_7 :=
  fr_plain X hf (by rfl) (by rfl) (by rfl) (by rfl) (by rfl) (by decide +kernel) fun s _ _ _ => BindsTo.of_eq rfl
theorem fr1_8 {P : Params} {C : Cfg} (X : (hd1.heap_39 P).In C.hb) (hf : C.fa 8 = 85) : FnRec C fns1 8 d1_8 :=
  fr_plain X hf (by rfl) (by rfl) (by rfl) (by rfl) (by rfl) (by decide +kernel) fun s _ _ _ _ _ _ => BindsTo.of_eq rfl
theorem fr1_9 {P : Params} {C : Cfg} (X : (hd1.heap_39 P).In C.hb) (hf : C.fa 9 = 90) : FnRec C fns1 9 d1_9 :=
  fr_plain X hf (by rfl) (by rfl) (by rfl) (by rfl) (by rfl) (by decide +kernel) fun s _ _ => BindsTo.of_eq rfl
theorem fr1_10 {P : Params} {C : Cfg} (X : (hd1.heap_39 P).In C.hb) (hf : C.fa 10 = 97) : FnRec C fns1 10 d1_10 :=
  fr_plain X hf (by rfl) (by rfl) (by rfl) (by rfl) (by rfl) (by decide +kernel) fun s _ _ => BindsTo.of_eq rfl
theorem fr1_11 {P : Params} {C : Cfg} (X : (hd1.heap_39 P).In C.hb) (hf : C.fa 11 = 102) : FnRec C fns1 11 d1_11 :=
  fr_plain X hf (by rfl) (by rfl) (by rfl) (by rfl) (by rfl) (by decide +kernel) fun s _ _ => BindsTo.of_eq rfl
theorem fr1_12 {P : Params} {C : Cfg} (X : (hd1.heap_39 P).In C.hb) (hf : C.fa 12 = 107) : FnRec C fns1 12 d1_12 :=
  fr_plain X hf (by rfl) (by rfl) (by rfl) (by rfl) (by rfl) (by decide +kernel) fun s _ => BindsTo.of_eq rfl
noncomputable def addr1 : List Addr := [23, 32, 41, 50, 57, 64, 71, 78, 85, 90, 97, 102, 107]
noncomputable def cfg1 (w : World) (h : Heap) : Cfg := { prog := Challenge.rw_pk0060_01.row.prog, w := w, hb := h, fa := fun f => addr1.getD f 0 }
theorem fr1 {P : Params} {w : World} {h : Heap} (X : (hd1.heap_39 P).In h) : ∀ f d, tab1[f]? = some d → FnRec (cfg1 w h) fns1 f d := fun f d e =>
  Nat.zero_add f ▸ fnRecs (C := cfg1 w h) (fns := fns1) (F := tab1) (i := 0) ⟨fr1_0 X rfl, fr1_1 X rfl, fr1_2 X rfl, fr1_3 X rfl, fr1_4 X rfl, fr1_5 X rfl, fr1_6 X rfl, fr1_7 X rfl, fr1_8 X rfl, fr1_9 X rfl, fr1_10 X rfl, fr1_11 X rfl, fr1_12 X rfl, trivial⟩ f d e
theorem cfgOk1 {P : Params} {w : World} {p : Program} {loose : List Str} {mean : ExcName → Option Value} {mg mb : Str → Option Value} {h : Heap} (T : Top p loose mean mg mb h) (X : (hd1.heap_39 P).In h) : CfgOk (cfg1 w h) fns1 :=
  cfgOk_of (C := cfg1 w h) (F := tab1) (as := addr1) (mg := mg) (mb := mb) T.g (X mainGlobals _ rfl) (by rfl) (fun f a e => (List.getD_eq_getElem?_getD ..).trans (by rw [e]; rfl)) (fr1 X) rfl T.b T.builtins T.nolimit
theorem law_at1 {P : Params} {mg : Str → Option Value} {h : Heap} {fa : Addr} (g : h.Ns mainGlobals mg) (X : (hd1.heap_39 P).In h) (hmg : mg "law" = some (.ref fa)) : fa = 107 := by
  obtain ⟨o', es', ep', ho', hd', _, hx⟩ := g
  have h3 := X mainGlobals _ rfl
  rw [h3] at ho'; cases ho'; cases hd'
  have e1 := hx "law"
  rw [hmg] at e1
  have e3 : some (Value.ref 107) = some (Value.ref fa) := e1
  injection e3 with e3
  injection e3 with e3
  exact e3.symm
theorem law1 : Challenge.rw_pk0060_01.Holds := hd1 (by
  intro w s₀ s₁ mg mb G Y fa o pm cd doc dV kV ho hd hcd hD hmg hg args vals as hpre hlay hrd hwl hlo
  have KX := kIn_of Y
  refine Ground.open G ?_
  intro T B D TE TW
  have hfa : fa = 107 := law_at1 T.g KX hmg
  clear hmg
  wrow_args hpre hlay hrd hwl hlo
  rename_i ns _ _ _ _ _ _ _ l xs _ hL _ _ _ hI _ hlen _
  refine enter_call ?_
  subst hfa
  have co : Co { cfg1 w s₁.heap with ξ := [] } [] [] s₁.heap := ⟨fun _ _ e => e, (fun _ q => nomatch q), ⟨rfl, .nil, (fun _ _ _ e => nomatch e)⟩, (fun _ q => nomatch q), (fun _ q => nomatch q), (fun _ q => nomatch q)⟩
  have r : VAll { cfg1 w s₁.heap with ξ := [] } s₁.heap [] [.list (ns.map .int)] [.ref l] := .cons (.list (xs := xs) hL (fun q => nomatch q) (ints_rel hI)) .nil
  exact codeAny_mono (fnCode (C := cfg1 w s₁.heap) (F := tab1) (fns := fns1) (n := 20) (f := 12) (cfgOk1 T KX) (fr1 KX) (tabOk (ov := ov11) (cfgOk1 T KX) (fr1 KX) (ov1_ok (cfgOk1 T KX) (fr1 KX) rfl rfl rfl rfl rfl rfl) rfl 20) (law1_plain (Q := fun v _ => v = .bool true) ns (by omega) rfl) ⟨by decide, fun _ => rfl, rfl, by decide, by decide⟩ co r rfl .nil) (fun _ _ g => GoodW.toG (goodW_of_post (l := Challenge.rw_pk0060_01) hg (fun _ => rfl) g)))
end Mine
end
set_option maxRecDepth 100000 in
set_option maxHeartbeats 8000000 in
theorem PySem.Challenge.cw_pk0060_01_holds : PySem.Challenge.rw_pk0060_01.Holds :=
  Mine.law1
