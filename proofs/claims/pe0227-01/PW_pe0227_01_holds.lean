import PyProof.Rows.All
import Wide.All
import OpenK.AllK
import Wide.FinOn
import Flt.Mod
import Lean
import PySem.Challenge.RW_pe0227_01
section
set_option Elab.async false
set_option linter.all false
namespace Mine
open PySem
inductive AV where
  | none
  | bool (b : Bool)
  | int (i : Int)
  | flt (b : UInt64)
  | str (s : List Nat)
  | tup (xs : List AV)
  | lst (xs : List AV)
  | ref (k : Nat)
  | con (v : Value)
  | tab (c : Addr) (l : Nat)
mutual
noncomputable def AV.pure : AV → Bool
  | .tup xs => AV.pures xs
  | .lst xs => AV.pures xs
  | .ref _ => false
  | .tab _ _ => false
  | _ => true
noncomputable def AV.pures : List AV → Bool
  | [] => true
  | x :: r => x.pure && AV.pures r
end
inductive AO where
  | ns (vals : List (Option AV))
  | cell (v : Option AV)
  | list (xs : List AV)
  | inst (c : Addr) (d : Nat)
  | hole
noncomputable def AO.isHole : AO → Bool
  | .hole => true
  | _ => false
noncomputable abbrev FMap := Addr → Option Obj
noncomputable def lstObj (vs : List Value) (n : Nat) : Obj := { cls := .type "list", data := .seq vs.toArray n }
noncomputable def tupObj (vs : List Value) (n : Nat) : Obj := { cls := .type "tuple", data := .seq vs.toArray n }
noncomputable def hdrName : Str := Str.ofString "_headers"
noncomputable def IsTab (B : FMap) (c ia la : Addr) : Prop := ∃ da oi od, B ia = some oi ∧ B da = some od ∧ ∀ h : Heap, h.get? ia = some oi → h.get? da = some od → h.Inst ia c fun y => if y = hdrName then some (.ref la) else none
theorem IsTab.mono {B B' : FMap} (hB : ∀ a o, B a = some o → B' a = some o) {c ia la : Addr} (h : IsTab B c ia la) : IsTab B' c ia la := by
  obtain ⟨da, oi, od, h1, h2, h3⟩ := h
  exact ⟨da, oi, od, hB _ _ h1, hB _ _ h2, h3⟩
mutual
noncomputable def VR (B : FMap) (φ : List Addr) : AV → Value → Prop
  | .none, v => v = .none
  | .bool b, v => v = .bool b
  | .int i, v => ∃ t, v = .int i t
  | .flt b, v => ∃ t, v = .float b t
  | .str x, v => ∃ t, v = .str ⟨x.toArray⟩ t
  | .tup xs, v => ∃ a vs n, v = .ref a ∧ B a = some (tupObj vs n) ∧ VRs B φ xs vs
  | .lst xs, v => ∃ a vs n, v = .ref a ∧ B a = some (lstObj vs n) ∧ VRs B φ xs vs
  | .ref k, v => ∃ a, φ[k]? = some a ∧ v = .ref a
  | .con c, v => v = c
  | .tab c l, v => ∃ ia la, v = .ref ia ∧ φ[l]? = some la ∧ IsTab B c ia la
noncomputable def VRs (B : FMap) (φ : List Addr) : List AV → List Value → Prop
  | [], vs => vs = []
  | x :: r, vs => ∃ v vs', vs = v :: vs' ∧ VR B φ x v ∧ VRs B φ r vs'
end
theorem getElem?_prefix {α : Type} {l l' : List α} (h : l <+: l') {k : Nat} {a : α} (e : l[k]? = some a) : l'[k]? = some a := by
  obtain ⟨t, rfl⟩ := h
  rw [List.getElem?_append_left]
  · exact e
  · exact (List.getElem?_eq_some_iff.mp e).1
mutual
theorem VR.mono {B B' : FMap} {φ φ' : List Addr} (hB : ∀ a o, B a = some o → B' a = some o) (hφ : φ <+: φ') : ∀ {x : AV} {v : Value}, VR B φ x v → VR B' φ' x v
  | .none, _, h => by simpa [VR] using h
  | .bool _, _, h => by simpa [VR] using h
  | .int _, _, h => by simpa [VR] using h
  | .flt _, _, h => by simpa [VR] using h
  | .str _, _, h => by simpa [VR] using h
  | .con _, _, h => by simpa [VR] using h
  | .ref _, _, h => by
    simp only [VR] at h ⊢
    obtain ⟨a, e, r⟩ := h
    exact ⟨a, getElem?_prefix hφ e, r⟩
  | .tab _ _, _, h => by
    simp only [VR] at h ⊢
    obtain ⟨ia, la, e, e2, r⟩ := h
    exact ⟨ia, la, e, getElem?_prefix hφ e2, r.mono hB⟩
  | .tup xs, _, h => by
    simp only [VR] at h ⊢
    obtain ⟨a, vs, n, e, b, r⟩ := h
    exact ⟨a, vs, n, e, hB _ _ b, VRs.mono hB hφ r⟩
  | .lst xs, _, h => by
    simp only [VR] at h ⊢
    obtain ⟨a, vs, n, e, b, r⟩ := h
    exact ⟨a, vs, n, e, hB _ _ b, VRs.mono hB hφ r⟩
theorem VRs.mono {B B' : FMap} {φ φ' : List Addr} (hB : ∀ a o, B a = some o → B' a = some o) (hφ : φ <+: φ') : ∀ {xs : List AV} {vs : List Value}, VRs B φ xs vs → VRs B' φ' xs vs
  | [], _, h => by simpa [VRs] using h
  | x :: r, _, h => by
    simp only [VRs] at h ⊢
    obtain ⟨v, vs', e, hv, hr⟩ := h
    exact ⟨v, vs', e, VR.mono hB hφ hv, VRs.mono hB hφ hr⟩
end
mutual
theorem VR.pure {B : FMap} {φ φ' : List Addr} : ∀ {x : AV} {v : Value}, x.pure = true → VR B φ x v → VR B φ' x v
  | .none, _, _, h => by simpa [VR] using h
  | .bool _, _, _, h => by simpa [VR] using h
  | .int _, _, _, h => by simpa [VR] using h
  | .flt _, _, _, h => by simpa [VR] using h
  | .str _, _, _, h => by simpa [VR] using h
  | .con _, _, _, h => by simpa [VR] using h
  | .ref _, _, p, _ => by simp [AV.pure] at p
  | .tab _ _, _, p, _ => by simp [AV.pure] at p
  | .tup xs, _, p, h => by
    simp only [VR] at h ⊢
    obtain ⟨a, vs, n, e, b, r⟩ := h
    exact ⟨a, vs, n, e, b, VRs.pure (by simpa [AV.pure] using p) r⟩
  | .lst xs, _, p, h => by
    simp only [VR] at h ⊢
    obtain ⟨a, vs, n, e, b, r⟩ := h
    exact ⟨a, vs, n, e, b, VRs.pure (by simpa [AV.pure] using p) r⟩
theorem VRs.pure {B : FMap} {φ φ' : List Addr} : ∀ {xs : List AV} {vs : List Value}, AV.pures xs = true → VRs B φ xs vs → VRs B φ' xs vs
  | [], _, _, h => by simpa [VRs] using h
  | x :: r, _, p, h => by
    simp only [VRs] at h ⊢
    simp only [AV.pures, Bool.and_eq_true] at p
    obtain ⟨v, vs', e, hv, hr⟩ := h
    exact ⟨v, vs', e, VR.pure p.1 hv, VRs.pure p.2 hr⟩
end
theorem VRs.length {B : FMap} {φ : List Addr} : ∀ {xs : List AV} {vs : List Value}, VRs B φ xs vs → vs.length = xs.length
  | [], _, h => by simp only [VRs] at h; simp [h]
  | x :: r, _, h => by
    simp only [VRs] at h
    obtain ⟨v, vs', rfl, _, hr⟩ := h
    simp [VRs.length hr]
theorem VRs.get {B : FMap} {φ : List Addr} : ∀ {xs : List AV} {vs : List Value}, VRs B φ xs vs → ∀ {i : Nat} {x : AV}, xs[i]? = some x → ∃ v, vs[i]? = some v ∧ VR B φ x v
  | [], _, _, _, _, e => by simp at e
  | x :: r, _, h, i, y, e => by
    simp only [VRs] at h
    obtain ⟨v, vs', rfl, hv, hr⟩ := h
    cases i with
    | zero => simp at e; subst e; exact ⟨v, by simp, hv⟩
    | succ i => simp at e; simpa using VRs.get hr e
theorem VRs.get' {B : FMap} {φ : List Addr} {xs : List AV} {vs : List Value} (h : VRs B φ xs vs) {i : Nat} {v : Value} (e : vs[i]? = some v) : ∃ x, xs[i]? = some x ∧ VR B φ x v := by
  have hl := h.length
  have hi : i < xs.length := by rw [← hl]; exact (List.getElem?_eq_some_iff.mp e).1
  obtain ⟨v', ev, hv⟩ := h.get (i := i) (x := xs[i]) (by simp [hi])
  rw [e] at ev; cases ev
  exact ⟨xs[i], by simp [hi], hv⟩
theorem VRs.append {B : FMap} {φ : List Addr} : ∀ {xs : List AV} {vs : List Value} {ys : List AV} {us : List Value}, VRs B φ xs vs → VRs B φ ys us → VRs B φ (xs ++ ys) (vs ++ us)
  | [], _, _, _, h, k => by simp only [VRs] at h; subst h; simpa using k
  | x :: r, _, ys, us, h, k => by
    simp only [VRs] at h
    obtain ⟨v, vs', rfl, hv, hr⟩ := h
    have := VRs.append hr k
    simp only [List.cons_append, VRs]
    exact ⟨v, vs' ++ us, rfl, hv, this⟩
theorem VRs.single {B : FMap} {φ : List Addr} {x : AV} {v : Value} (h : VR B φ x v) : VRs B φ [x] [v] := by
  simp only [VRs]; exact ⟨v, [], rfl, h, rfl⟩
theorem VRs.nil {B : FMap} {φ : List Addr} : VRs B φ [] [] := by simp [VRs]
theorem VRs.cons {B : FMap} {φ : List Addr} {x : AV} {v : Value} {xs : List AV} {vs : List Value} (h : VR B φ x v) (k : VRs B φ xs vs) : VRs B φ (x :: xs) (v :: vs) := by
  simp only [VRs]; exact ⟨v, vs, rfl, h, k⟩
theorem VRs.drop {B : FMap} {φ : List Addr} : ∀ {xs : List AV} {vs : List Value} (n : Nat), VRs B φ xs vs → VRs B φ (xs.drop n) (vs.drop n)
  | [], _, _, h => by simp only [VRs] at h; subst h; simp [VRs]
  | x :: r, _, n, h => by
    cases n with
    | zero => simpa using h
    | succ n =>
      simp only [VRs] at h
      obtain ⟨v, vs', rfl, hv, hr⟩ := h
      simpa using VRs.drop n hr
theorem VRs.take {B : FMap} {φ : List Addr} : ∀ {xs : List AV} {vs : List Value} (n : Nat), VRs B φ xs vs → VRs B φ (xs.take n) (vs.take n)
  | [], _, _, h => by simp only [VRs] at h; subst h; simp [VRs]
  | x :: r, _, n, h => by
    cases n with
    | zero => simp [VRs]
    | succ n =>
      simp only [VRs] at h
      obtain ⟨v, vs', rfl, hv, hr⟩ := h
      simpa using VRs.cons hv (VRs.take n hr)
theorem VRs.set {B : FMap} {φ : List Addr} : ∀ {xs : List AV} {vs : List Value} (n : Nat) {x : AV} {v : Value}, VRs B φ xs vs → VR B φ x v → VRs B φ (xs.set n x) (vs.set n v)
  | [], _, _, _, _, h, _ => by simp only [VRs] at h; subst h; simp [VRs]
  | y :: r, _, n, x, v, h, k => by
    simp only [VRs] at h
    obtain ⟨u, vs', rfl, hv, hr⟩ := h
    cases n with
    | zero => simpa using VRs.cons k hr
    | succ n => simpa using VRs.cons hv (VRs.set n hr k)
structure Gr where
  hb : Heap
  locs : List Str
noncomputable def hdrs : List Str := [Str.ofString "_headers"]
noncomputable def Gr.names (g : Gr) (k : Nat) : List Str := if k = 0 then g.locs else hdrs
noncomputable def OR (g : Gr) (B : FMap) (φ : List Addr) (h : Heap) (k : Nat) (a : Addr) : AO → Prop
  | .ns vals => ∃ m, h.Ns a m ∧ ∀ (i : Nat) x v, (g.names k)[i]? = some x → vals[i]? = some (some v) → ∃ val, m x = some val ∧ VR B φ v val
  | .cell v? => ∃ o c, h.get? a = some o ∧ o.data = .cell c ∧ ∀ v, v? = some v → ∃ val, c = some val ∧ VR B φ v val
  | .list xs => ∃ vs n, h.get? a = some (lstObj vs n) ∧ VRs B φ xs vs
  | .inst c d => ∃ da, φ[d]? = some da ∧ h.get? a = some { cls := .ref c, dict := some da }
  | .hole => True
structure Rel (g : Gr) (B : FMap) (φ : List Addr) (H : List AO) (h : Heap) : Prop where
  base : ∀ a o, g.hb.get? a = some o → B a = some o
  dup : g.locs.Nodup
  keep : ∀ a o, B a = some o → h.get? a = some o
  len : φ.length = H.length
  nodup : φ.Nodup
  out : ∀ (k : Nat) (a : Addr) (x : AO), φ[k]? = some a → H[k]? = some x → x.isHole = false → B a = none
  alive : ∀ a ∈ φ, ∃ o, h.get? a = some o
  obj : ∀ (k : Nat) (a : Addr) (x : AO), φ[k]? = some a → H[k]? = some x → OR g B φ h k a x
structure Grow (φ : List Addr) (B : FMap) (h : Heap) (φ' : List Addr) (B' : FMap) (h' : Heap) : Prop where
  pre : φ <+: φ'
  new : ∀ a ∈ φ', a ∈ φ ∨ h.get? a = none
  mono : ∀ a o, B a = some o → B' a = some o
  newB : ∀ a o, B' a = some o → B a = some o ∨ a ∈ φ ∨ h.get? a = none
  frame : ∀ a o, a ∉ φ → h.get? a = some o → h'.get? a = some o
theorem Grow.refl {φ : List Addr} {B : FMap} {h : Heap} : Grow φ B h φ B h :=
  ⟨List.prefix_refl _, fun _ h => .inl h, fun _ _ e => e, fun _ _ e => .inl e, fun _ _ _ e => e⟩
theorem Grow.gone {φ φ' : List Addr} {B B' : FMap} {h h' : Heap} (g : Grow φ B h φ' B' h') {a : Addr} (e : h'.get? a = none) : a ∈ φ ∨ h.get? a = none := by
  by_cases ha : a ∈ φ
  · exact .inl ha
  · cases q : h.get? a with
    | none => exact .inr rfl
    | some o => rw [g.frame a o ha q] at e; cases e
theorem Grow.trans {φ φ' φ'' : List Addr} {B B' B'' : FMap} {h h' h'' : Heap} (g : Grow φ B h φ' B' h') (k : Grow φ' B' h' φ'' B'' h'') : Grow φ B h φ'' B'' h'' := by
  refine ⟨g.pre.trans k.pre, fun a ha => ?_, fun a o e => k.mono _ _ (g.mono _ _ e), fun a o e => ?_, fun a o ha e => ?_⟩
  · rcases k.new a ha with h1 | h1
    · exact g.new a h1
    · exact g.gone h1
  · rcases k.newB a o e with h1 | h1 | h1
    · exact g.newB a o h1
    · exact .inr (g.new a h1)
    · exact .inr (g.gone h1)
  · refine k.frame a o (fun h1 => ?_) (g.frame a o ha e)
    rcases g.new a h1 with h2 | h2
    · exact ha h2
    · rw [h2] at e; cases e
theorem Grow.vr {φ φ' : List Addr} {B B' : FMap} {h h' : Heap} (g : Grow φ B h φ' B' h') {x : AV} {v : Value} (e : VR B φ x v) : VR B' φ' x v := VR.mono g.mono g.pre e
theorem Grow.vrs {φ φ' : List Addr} {B B' : FMap} {h h' : Heap} (g : Grow φ B h φ' B' h') {x : List AV} {v : List Value} (e : VRs B φ x v) : VRs B' φ' x v := VRs.mono g.mono g.pre e
theorem OR.mono {B B' : FMap} {φ φ' : List Addr} {h h' : Heap} {g : Gr} {k : Nat} {a : Addr} {x : AO} (hB : ∀ a o, B a = some o → B' a = some o) (hφ : φ <+: φ') (hh : ∀ o, h.get? a = some o → h'.get? a = some o) (r : OR g B φ h k a x) : OR g B' φ' h' k a x := by
  cases x with
  | ns vals =>
    obtain ⟨m, hn, hv⟩ := r
    exact ⟨m, hn.at' hh, fun i x v e1 e2 => by obtain ⟨val, e3, e4⟩ := hv i x v e1 e2; exact ⟨val, e3, VR.mono hB hφ e4⟩⟩
  | cell v =>
    obtain ⟨o, c, e, d, hv⟩ := r
    exact ⟨o, c, hh _ e, d, fun v e1 => by obtain ⟨val, e3, e4⟩ := hv v e1; exact ⟨val, e3, VR.mono hB hφ e4⟩⟩
  | list xs =>
    obtain ⟨vs, n, e, hv⟩ := r
    exact ⟨vs, n, hh _ e, VRs.mono hB hφ hv⟩
  | inst c d =>
    obtain ⟨da, e, e'⟩ := r
    exact ⟨da, getElem?_prefix hφ e, hh _ e'⟩
  | hole => simp [OR]
section
variable {g : Gr} {B : FMap} {φ : List Addr} {H : List AO} {h h' : Heap}
theorem fresh_none (h : Heap) : h.get? h.objs.size = none := by
  cases q : h.get? h.objs.size with
  | none => rfl
  | some o => exact absurd (Heap.lt_size q) (Nat.lt_irrefl _)
theorem fresh_none' {h : Heap} {a : Addr} (ha : h.objs.size ≤ a) : h.get? a = none := by
  cases q : h.get? a with
  | none => rfl
  | some o => exact absurd (Heap.lt_size q) (Nat.not_lt.mpr ha)
theorem Rel.keeps (R : Rel g B φ H h) (hk : ∀ a o, h.get? a = some o → h'.get? a = some o) : Rel g B φ H h' :=
  ⟨R.base, R.dup, fun a o e => hk _ _ (R.keep a o e), R.len, R.nodup, R.out, fun a ha => by obtain ⟨o, e⟩ := R.alive a ha; exact ⟨o, hk _ _ e⟩, fun k a x e1 e2 => (R.obj k a x e1 e2).mono (fun _ _ e => e) (List.prefix_refl _) fun o e => hk _ _ e⟩
theorem Grow.keeps (hk : ∀ a o, h.get? a = some o → h'.get? a = some o) : Grow φ B h φ B h' :=
  ⟨List.prefix_refl _, fun _ h => .inl h, fun _ _ e => e, fun _ _ e => .inl e, fun _ _ _ e => hk _ _ e⟩
theorem Rel.set (R : Rel g B φ H h) {k : Nat} {a : Addr} {x : AO} (e : φ[k]? = some a) (hx : ∃ y, H[k]? = some y ∧ y.isHole = false) (hk : ∀ b o, b ≠ a → h.get? b = some o → h'.get? b = some o) (hal : ∃ o, h'.get? a = some o)
    (ho : OR g B φ h' k a x) : Rel g B φ (H.set k x) h' := by
  obtain ⟨y, hy, hh⟩ := hx
  have hBa := R.out k a y e hy hh
  refine ⟨R.base, R.dup, fun b o e' => hk _ _ (by rintro rfl; rw [hBa] at e'; cases e') (R.keep b o e'), by simp [R.len], R.nodup, fun j b z e1 e2 hz => ?_, fun b hb' => ?_, fun j b z e1 e2 => ?_⟩
  · by_cases hj : k = j
    · subst hj; rw [e] at e1; cases e1; exact hBa
    · rw [List.getElem?_set_ne hj] at e2; exact R.out j b z e1 e2 hz
  · by_cases hba : b = a
    · subst hba; exact hal
    · obtain ⟨o, e'⟩ := R.alive b hb'; exact ⟨o, hk _ _ hba e'⟩
  · by_cases hj : k = j
    · subst hj
      rw [e] at e1; cases e1
      have hl : k < H.length := (List.getElem?_eq_some_iff.mp hy).1
      rw [List.getElem?_set_self hl] at e2; cases e2; exact ho
    · rw [List.getElem?_set_ne hj] at e2
      have hne : b ≠ a := by
        rintro rfl
        have h1 := List.getElem?_eq_some_iff.mp e
        have h2 := List.getElem?_eq_some_iff.mp e1
        exact hj ((List.getElem_inj R.nodup).mp (h1.2.trans h2.2.symm))
      exact (R.obj j b z e1 e2).mono (fun _ _ e => e) (List.prefix_refl _) fun o e' => hk _ _ hne e'
theorem Grow.set {k : Nat} {a : Addr} (e : φ[k]? = some a) (hk : ∀ b o, b ≠ a → h.get? b = some o → h'.get? b = some o) : Grow φ B h φ B h' :=
  ⟨List.prefix_refl _, fun _ h => .inl h, fun _ _ e => e, fun _ _ e => .inl e, fun b o hb' e' => hk _ _ (by rintro rfl; exact hb' (List.mem_of_getElem? e)) e'⟩
theorem Rel.push (R : Rel g B φ H h) {a : Addr} {x : AO} (ha : h.get? a = none) (hk : ∀ a o, h.get? a = some o → h'.get? a = some o) (hal : ∃ o, h'.get? a = some o)
    (ho : OR g B (φ ++ [a]) h' H.length a x) : Rel g B (φ ++ [a]) (H ++ [x]) h' := by
  have hna : a ∉ φ := fun hm => by obtain ⟨o, e⟩ := R.alive a hm; rw [ha] at e; cases e
  have hBa : B a = none := by
    cases q : B a with
    | none => rfl
    | some o => have := R.keep _ _ q; rw [ha] at this; cases this
  refine ⟨R.base, R.dup, fun b o e => hk _ _ (R.keep b o e), by simp [R.len], ?_, fun j b z e1 e2 hz => ?_, fun b hb' => ?_, fun j b z e1 e2 => ?_⟩
  · rw [List.nodup_append]
    exact ⟨R.nodup, by simp, fun b hb' c hc => by simp at hc; subst hc; rintro rfl; exact hna hb'⟩
  · by_cases hj : j < φ.length
    · rw [List.getElem?_append_left hj] at e1
      rw [List.getElem?_append_left (by rw [← R.len]; exact hj)] at e2
      exact R.out j b z e1 e2 hz
    · rw [List.getElem?_append_right (Nat.not_lt.mp hj)] at e1
      have : b = a := by
        have := List.mem_of_getElem? e1
        simpa using this
      rw [this]; exact hBa
  · rcases List.mem_append.mp hb' with h1 | h1
    · obtain ⟨o, e⟩ := R.alive b h1; exact ⟨o, hk _ _ e⟩
    · simp at h1; subst h1; exact hal
  · by_cases hj : j < φ.length
    · rw [List.getElem?_append_left hj] at e1
      rw [List.getElem?_append_left (by rw [← R.len]; exact hj)] at e2
      exact (R.obj j b z e1 e2).mono (fun _ _ e => e) (List.prefix_append _ _) fun o e' => hk _ _ e'
    · have hj' := Nat.not_lt.mp hj
      rw [List.getElem?_append_right hj'] at e1
      rw [List.getElem?_append_right (by rw [← R.len]; exact hj')] at e2
      have e1' : b = a := by simpa using List.mem_of_getElem? e1
      have e2' : z = x := by simpa using List.mem_of_getElem? e2
      have e3 : j = H.length := by
        have : j < (H ++ [x]).length := by
          have h1 := (List.getElem?_eq_some_iff.mp e1)
          have h2 : j - φ.length < [a].length := h1.1
          simp at h2 ⊢
          rw [← R.len]; omega
        simp at this; rw [← R.len] at this ⊢; omega
      subst e1' e2' e3; exact ho
theorem Grow.push {a : Addr} (ha : h.get? a = none) (hk : ∀ a o, h.get? a = some o → h'.get? a = some o) : Grow φ B h (φ ++ [a]) B h' :=
  ⟨List.prefix_append _ _, fun b hb' => by
    rcases List.mem_append.mp hb' with h1 | h1
    · exact .inl h1
    · simp at h1; subst h1; exact .inr ha, fun _ _ e => e, fun _ _ e => .inl e, fun b o _ e' => hk _ _ e'⟩
noncomputable def FMap.add (B : FMap) (a : Addr) (o : Obj) : FMap := fun b => if b = a then some o else B b
theorem FMap.add_mono {B : FMap} {a : Addr} {o : Obj} (h : B a = none ∨ B a = some o) : ∀ b p, B b = some p → B.add a o b = some p := by
  intro b p e
  unfold FMap.add
  by_cases hb : b = a
  · subst hb
    rcases h with h | h
    · rw [h] at e; cases e
    · rw [h] at e; cases e; simp
  · simp [hb, e]
theorem Rel.fresh (R : Rel g B φ H h) {a : Addr} {o : Obj} (ha : h.get? a = none) (hk : ∀ a o, h.get? a = some o → h'.get? a = some o)
    (ho : h'.get? a = some o) : Rel g (B.add a o) φ H h' := by
  have hna : a ∉ φ := fun hm => by obtain ⟨o, e⟩ := R.alive a hm; rw [ha] at e; cases e
  have hBa : B a = none := by
    cases q : B a with
    | none => rfl
    | some o => have := R.keep _ _ q; rw [ha] at this; cases this
  have hm := FMap.add_mono (o := o) (.inl hBa)
  refine ⟨fun b p e => hm _ _ (R.base b p e), R.dup, fun b p e => ?_, R.len, R.nodup, fun j b z e1 e2 hz => ?_, fun b hb' => by obtain ⟨o, e⟩ := R.alive b hb'; exact ⟨o, hk _ _ e⟩, fun j b z e1 e2 => ?_⟩
  · unfold FMap.add at e
    by_cases hb' : b = a
    · subst hb'; simp at e; subst e; exact ho
    · simp [hb'] at e; exact hk _ _ (R.keep b p e)
  · have hba : b ≠ a := by rintro rfl; exact hna (List.mem_of_getElem? e1)
    unfold FMap.add; simp [hba]; exact R.out j b z e1 e2 hz
  · exact (R.obj j b z e1 e2).mono hm (List.prefix_refl _) fun o e' => hk _ _ e'
theorem Grow.fresh {a : Addr} {o : Obj} (R : Rel g B φ H h) (ha : h.get? a = none) (hk : ∀ a o, h.get? a = some o → h'.get? a = some o) : Grow φ B h φ (B.add a o) h' := by
  have hBa : B a = none := by
    cases q : B a with
    | none => rfl
    | some o => have := R.keep _ _ q; rw [ha] at this; cases this
  refine ⟨List.prefix_refl _, fun _ h => .inl h, FMap.add_mono (.inl hBa), fun b p e => ?_, fun b p _ e' => hk _ _ e'⟩
  unfold FMap.add at e
  by_cases hb' : b = a
  · subst hb'; exact .inr (.inr ha)
  · simp [hb'] at e; exact .inl e
theorem FMap.add_self {B : FMap} {a : Addr} {o : Obj} : B.add a o a = some o := by simp [FMap.add]
theorem Rel.freeze (R : Rel g B φ H h) {k : Nat} {a : Addr} {xs : List AV} {vs : List Value} {n : Nat} (e : φ[k]? = some a) (hx : H[k]? = some (.list xs)) (ho : h.get? a = some (lstObj vs n)) :
    Rel g (B.add a (lstObj vs n)) φ (H.set k .hole) h ∧ Grow φ B h φ (B.add a (lstObj vs n)) h := by
  have hBa := R.out k a _ e hx rfl
  have hm := FMap.add_mono (o := lstObj vs n) (.inl hBa)
  refine ⟨⟨fun b p e => hm _ _ (R.base b p e), R.dup, fun b p e' => ?_, by simp [R.len], R.nodup, fun j b z e1 e2 hz => ?_, R.alive, fun j b z e1 e2 => ?_⟩, ⟨List.prefix_refl _, fun _ h => .inl h, hm, fun b p e' => ?_, fun b p _ e' => e'⟩⟩
  · unfold FMap.add at e'
    by_cases hb' : b = a
    · subst hb'; simp at e'; subst e'; exact ho
    · simp [hb'] at e'; exact R.keep b p e'
  · by_cases hj : k = j
    · subst hj
      have hl : k < H.length := (List.getElem?_eq_some_iff.mp hx).1
      rw [List.getElem?_set_self hl] at e2; cases e2; cases hz
    · rw [List.getElem?_set_ne hj] at e2
      have hne : b ≠ a := by
        rintro rfl
        have h1 := List.getElem?_eq_some_iff.mp e
        have h2 := List.getElem?_eq_some_iff.mp e1
        exact hj ((List.getElem_inj R.nodup).mp (h1.2.trans h2.2.symm))
      unfold FMap.add; simp [hne]; exact R.out j b z e1 e2 hz
  · by_cases hj : k = j
    · subst hj
      have hl : k < H.length := (List.getElem?_eq_some_iff.mp hx).1
      rw [List.getElem?_set_self hl] at e2; cases e2; simp [OR]
    · rw [List.getElem?_set_ne hj] at e2
      exact (R.obj j b z e1 e2).mono hm (List.prefix_refl _) fun o e' => e'
  · unfold FMap.add at e'
    by_cases hb' : b = a
    · subst hb'; exact .inr (.inl (List.mem_of_getElem? e))
    · simp [hb'] at e'; exact .inl e'
end
end Mine
end
section
set_option Elab.async false
set_option linter.all false
namespace Mine
open PySem
inductive SM where | join | split | upper | lower | count | index
inductive LM where | append | pop | count
noncomputable def SM.name : SM → Str
  | .join => "join" | .split => "split" | .upper => "upper" | .lower => "lower" | .count => "count" | .index => "index"
noncomputable def LM.name : LM → Str
  | .append => "append" | .pop => "pop" | .count => "count"
inductive AF where
  | next
  | brk
  | ret (v : AV)
noncomputable abbrev Hp := List AO
noncomputable def orE {α : Type} (x y : Option α) : Option α := match x with
  | some v => some v
  | none => y
theorem orE_or {α : Type} {x y : Option α} {v : α} (h : orE x y = some v) : x = some v ∨ y = some v := by
  cases x with
  | none => exact .inr h
  | some u => exact .inl h
theorem map_inv {α β : Type} {f : α → β} {x : Option α} {v : β} (h : x.map f = some v) : ∃ a, x = some a ∧ v = f a := by
  cases x with
  | none => cases h
  | some a => cases h; exact ⟨a, rfl, rfl⟩
theorem bind_inv {α β : Type} {f : α → Option β} {x : Option α} {v : β} (h : x.bind f = some v) : ∃ a, x = some a ∧ f a = some v := by
  cases x with
  | none => cases h
  | some a => exact ⟨a, rfl, h⟩
noncomputable def gd {α : Type} (c : Bool) (v : Option α) : Option α := cond c v none
theorem gd_inv {α : Type} {c : Bool} {x : Option α} {v : α} (h : gd c x = some v) : c = true ∧ x = some v := by
  cases c with
  | false => cases h
  | true => exact ⟨rfl, h⟩
noncomputable def th {α β : Type} (x : Option (α × Hp)) (f : α → Hp → Option β) : Option β := match x with
  | some p => f p.1 p.2
  | none => none
theorem th_inv {α β : Type} {x : Option (α × Hp)} {f : α → Hp → Option β} {v : β} (h : th x f = some v) : ∃ a H, x = some (a, H) ∧ f a H = some v := by
  cases x with
  | none => cases h
  | some p => exact ⟨p.1, p.2, rfl, h⟩
theorem of_t {α : Type} {x y z : α} (h : cond true x y = z) : x = z := h
noncomputable def AV.int? : AV → Option Int
  | .int i => some i
  | _ => Option.none
noncomputable def AV.flt? : AV → Option UInt64
  | .flt i => some i
  | _ => Option.none
noncomputable def AV.str? : AV → Option (List Nat)
  | .str i => some i
  | _ => Option.none
noncomputable def AV.bool? : AV → Option Bool
  | .bool i => some i
  | _ => Option.none
noncomputable def AV.lst? : AV → Option (List AV)
  | .lst i => some i
  | _ => Option.none
noncomputable def AV.tup? : AV → Option (List AV)
  | .tup i => some i
  | _ => Option.none
noncomputable def AV.ref? : AV → Option Nat
  | .ref i => some i
  | _ => Option.none
noncomputable def AV.none? : AV → Bool
  | .none => true
  | _ => false
noncomputable def AV.tab? : AV → Option (Addr × Nat)
  | .tab c l => some (c, l)
  | _ => Option.none
theorem int_inv {a : AV} {i : Int} (h : a.int? = some i) : a = .int i := by cases a <;> cases h; rfl
theorem flt_inv {a : AV} {i : UInt64} (h : a.flt? = some i) : a = .flt i := by cases a <;> cases h; rfl
theorem str_inv {a : AV} {i : List Nat} (h : a.str? = some i) : a = .str i := by cases a <;> cases h; rfl
theorem bool_inv {a : AV} {i : Bool} (h : a.bool? = some i) : a = .bool i := by cases a <;> cases h; rfl
theorem lst_inv {a : AV} {i : List AV} (h : a.lst? = some i) : a = .lst i := by cases a <;> cases h; rfl
theorem tup_inv {a : AV} {i : List AV} (h : a.tup? = some i) : a = .tup i := by cases a <;> cases h; rfl
theorem ref_inv {a : AV} {i : Nat} (h : a.ref? = some i) : a = .ref i := by cases a <;> cases h; rfl
theorem none_inv {a : AV} (h : a.none? = true) : a = .none := by cases a <;> cases h; rfl
theorem tab_inv {a : AV} {p : Addr × Nat} (h : a.tab? = some p) : a = .tab p.1 p.2 := by cases a <;> cases h; rfl
noncomputable def two {α β : Type} (x y : Option α) (f : α → α → Option β) : Option β := x.bind fun a => y.bind fun b => f a b
theorem two_inv {α β : Type} {x y : Option α} {f : α → α → Option β} {v : β} (h : two x y f = some v) : ∃ a b, x = some a ∧ y = some b ∧ f a b = some v := by
  obtain ⟨a, e1, h⟩ := bind_inv h
  obtain ⟨b, e2, h⟩ := bind_inv h
  exact ⟨a, b, e1, e2, h⟩
noncomputable def onI {β : Type} (a b : AV) (f : Int → Int → Option β) : Option β := two a.int? b.int? f
noncomputable def onF {β : Type} (a b : AV) (f : UInt64 → UInt64 → Option β) : Option β := two a.flt? b.flt? f
noncomputable def onS {β : Type} (a b : AV) (f : List Nat → List Nat → Option β) : Option β := two a.str? b.str? f
noncomputable def onL {β : Type} (a b : AV) (f : List AV → List AV → Option β) : Option β := two a.lst? b.lst? f
theorem onI_inv {β : Type} {a b : AV} {f : Int → Int → Option β} {v : β} (h : onI a b f = some v) : ∃ x y, a = .int x ∧ b = .int y ∧ f x y = some v := by
  obtain ⟨x, y, e1, e2, h⟩ := two_inv h
  exact ⟨x, y, int_inv e1, int_inv e2, h⟩
theorem onF_inv {β : Type} {a b : AV} {f : UInt64 → UInt64 → Option β} {v : β} (h : onF a b f = some v) : ∃ x y, a = .flt x ∧ b = .flt y ∧ f x y = some v := by
  obtain ⟨x, y, e1, e2, h⟩ := two_inv h
  exact ⟨x, y, flt_inv e1, flt_inv e2, h⟩
theorem onS_inv {β : Type} {a b : AV} {f : List Nat → List Nat → Option β} {v : β} (h : onS a b f = some v) : ∃ x y, a = .str x ∧ b = .str y ∧ f x y = some v := by
  obtain ⟨x, y, e1, e2, h⟩ := two_inv h
  exact ⟨x, y, str_inv e1, str_inv e2, h⟩
theorem onL_inv {β : Type} {a b : AV} {f : List AV → List AV → Option β} {v : β} (h : onL a b f = some v) : ∃ x y, a = .lst x ∧ b = .lst y ∧ f x y = some v := by
  obtain ⟨x, y, e1, e2, h⟩ := two_inv h
  exact ⟨x, y, lst_inv e1, lst_inv e2, h⟩
noncomputable def asAll {α : Type} (f : AV → Option α) : List AV → Option (List α)
  | [] => some []
  | v :: r => (f v).bind fun s => (asAll f r).map (s :: ·)
noncomputable def asStrs (xs : List AV) : Option (List (List Nat)) := asAll AV.str? xs
noncomputable def asInts (xs : List AV) : Option (List Int) := asAll AV.int? xs
noncomputable def asFlts (xs : List AV) : Option (List UInt64) := asAll AV.flt? xs
theorem asAll_len {α : Type} {f : AV → Option α} : ∀ {xs : List AV} {l : List α}, asAll f xs = some l → l.length = xs.length
  | [], _, e => by cases e; rfl
  | v :: r, _, e => by
    obtain ⟨a, _, e⟩ := bind_inv e
    obtain ⟨l, el, rfl⟩ := map_inv e
    exact congrArg (· + 1) (asAll_len el)
theorem asAll_get {α : Type} {f : AV → Option α} : ∀ {xs : List AV} {l : List α}, asAll f xs = some l → ∀ {i : Nat} {x : AV}, xs[i]? = some x → ∃ a, l[i]? = some a ∧ f x = some a
  | [], _, _, i, x, h => by cases h
  | v :: r, _, e, i, x, h => by
    obtain ⟨a, ea, e⟩ := bind_inv e
    obtain ⟨l, el, rfl⟩ := map_inv e
    cases i with
    | zero => cases h; exact ⟨a, rfl, ea⟩
    | succ i => exact asAll_get el h
noncomputable def small (n : Nat) : Bool := Nat.ble n 100000
noncomputable def truediv (a b : Int) : UInt64 := Float64.ofFrac (decide (a < 0) != decide (b < 0)) a.natAbs b.natAbs
noncomputable def aAdd (a b : AV) : Option AV :=
  orE (onI a b fun x y => some (.int (x + y))) (orE (onS a b fun x y => gd (small (x.length + y.length)) (some (.str (x ++ y))))
    (orE (onF a b fun x y => some (.flt (Float64.add x y))) (onL a b fun x y => gd (small (x.length + y.length)) (some (.lst (x ++ y))))))
noncomputable def aSub (a b : AV) : Option AV := orE (onI a b fun x y => some (.int (x - y))) (onF a b fun x y => some (.flt (Float64.sub x y)))
noncomputable def aMul (a b : AV) : Option AV :=
  b.int?.bind fun y => orE (a.int?.bind fun x => gd (Nat.ble x.natAbs 4294967296 || Nat.ble y.natAbs 4294967296) (some (.int (x * y))))
    (orE (a.str?.bind fun x => gd (small (x.length * y.toNat) && Nat.ble y.natAbs 100000) (some (.str (List.replicate y.toNat x).flatten)))
      (a.flt?.bind fun x => gd (Nat.ble y.natAbs 4294967296) (some (.flt (Float64.mul x (Float64.ofInt y))))))
noncomputable def aDiv (a b : AV) : Option AV :=
  orE (onF a b fun x y => gd (!Float64.isZero y) (some (.flt (Float64.div x y)))) (onI a b fun x y => gd (!(decide (y = 0))) (gd (!Float64.isInf (truediv x y)) (some (.flt (truediv x y)))))
noncomputable def aMod (a b : AV) : Option AV :=
  orE (onI a b fun x y => gd (!(decide (y = 0))) (some (.int (x.fmod y)))) (onF a b fun x y => gd (!Float64.isZero y) (some (.flt (Float64.divmod x y).snd)))
noncomputable def aFdiv (a b : AV) : Option AV := onI a b fun x y => gd (!(decide (y = 0))) (gd (Nat.ble y.natAbs 1000000000) (some (.int (x.fdiv y))))
noncomputable def aPow (a b : AV) : Option AV := onI a b fun x y => gd (decide (0 ≤ y ∧ y ≤ 1000 ∧ Nat.ble x.natAbs 4294967296 = true)) (some (.int (x ^ y.toNat)))
noncomputable def aAnd (a b : AV) : Option AV := onI a b fun x y => some (.int (Builtin.bitAnd x y))
noncomputable def abin : Operator → AV → AV → Option AV
  | .Add => aAdd
  | .Sub => aSub
  | .Mult => aMul
  | .Div => aDiv
  | .Mod => aMod
  | .FloorDiv => aFdiv
  | .Pow => aPow
  | .BitAnd => aAnd
  | _ => fun _ _ => none
noncomputable def ascii (s : List Nat) : Bool := s.all fun c => Nat.blt c 128
noncomputable def AO.list? : AO → Option (List AV)
  | .list xs => some xs
  | _ => Option.none
noncomputable def AO.ns? : AO → Option (List (Option AV))
  | .ns xs => some xs
  | _ => Option.none
noncomputable def AO.cell? : AO → Option (Option AV)
  | .cell v => some v
  | _ => Option.none
theorem list_inv {a : AO} {i : List AV} (h : a.list? = some i) : a = .list i := by cases a <;> cases h; rfl
theorem ns_inv {a : AO} {i : List (Option AV)} (h : a.ns? = some i) : a = .ns i := by cases a <;> cases h; rfl
theorem cell_inv {a : AO} {i : Option AV} (h : a.cell? = some i) : a = .cell i := by cases a <;> cases h; rfl
noncomputable def getList (H : Hp) (k : Nat) : Option (List AV) := H[k]?.bind AO.list?
theorem getList_inv {H : Hp} {k : Nat} {xs : List AV} (h : getList H k = some xs) : H[k]? = some (.list xs) := by
  obtain ⟨a, e, h⟩ := bind_inv h
  rw [e, list_inv h]
theorem getList_of {H : Hp} {k : Nat} {xs : List AV} (h : H[k]? = some (.list xs)) : getList H k = some xs := by unfold getList; rw [h]; rfl
noncomputable def lists? (H : Hp) (v : AV) : Option (List AV) := orE v.lst? (v.ref?.bind (getList H))
noncomputable def items? (H : Hp) (v : AV) : Option (List AV) := orE v.tup? (lists? H v)
noncomputable def aeqs (xs ys : List AV) : Option Bool :=
  orE (two (asInts xs) (asInts ys) fun a b => some (decide (a = b))) (two (asStrs xs) (asStrs ys) fun a b => gd (a.all ascii && b.all ascii) (some (decide (a = b))))
noncomputable def aeq (H : Hp) (a b : AV) : Option Bool :=
  orE (onI a b fun x y => some (decide (x = y))) (orE (onS a b fun x y => some (decide (x = y))) (orE (two a.bool? b.bool? fun x y => some (x == y))
    (orE (onF a b fun x y => some (Float64.cmp x y == some Ordering.eq)) (two (lists? H a) b.lst? aeqs))))
noncomputable def ain (a : AV) (xs : List AV) : Option Bool :=
  orE (a.int?.bind fun x => (asInts xs).map fun l => l.contains x) (a.str?.bind fun x => (asStrs xs).map fun l => l.contains x)
noncomputable def aIs (a b : AV) : Option Bool := gd b.none? (orE (gd a.none? (some true)) (a.str?.map fun _ => false))
noncomputable def acmp (H : Hp) : CmpOp → AV → AV → Option Bool
  | .Eq => aeq H
  | .NotEq => fun a b => (aeq H a b).map not
  | .Lt => fun a b => onI a b fun x y => some (decide (x < y))
  | .Gt => fun a b => onI a b fun x y => some (decide (x > y))
  | .LtE => fun a b => onF a b fun x y => some (Float64.cmp x y == some Ordering.lt || Float64.cmp x y == some Ordering.eq)
  | .Is => aIs
  | .IsNot => fun a b => (aIs a b).map not
  | .In => fun a b => (lists? H b).bind (ain a)
  | .NotIn => fun a b => ((lists? H b).bind (ain a)).map not
  | _ => fun _ _ => none
noncomputable def atruth (v : AV) : Option Bool := orE v.bool? (v.int?.map fun i => decide (i ≠ 0))
noncomputable def aidx {α : Type} (xs : List α) (i : Int) : Option α :=
  if Nat.ble i.natAbs 1000000 then
    if 0 ≤ i then xs[i.toNat]? else if -(xs.length : Int) ≤ i then xs[(i + xs.length).toNat]? else none
  else none
noncomputable def asub (H : Hp) (a b : AV) : Option AV :=
  b.int?.bind fun i => orE (a.str?.bind fun s => (aidx s i).map fun c => .str [c]) ((items? H a).bind fun xs => aidx xs i)
noncomputable def aslc {α : Type} (xs : List α) (lo : Int) (hi : Option Int) : Option (List α) :=
  if 0 ≤ lo ∧ small xs.length = true then match hi with
    | none => some (xs.drop lo.toNat)
    | some j => if 0 ≤ j then some ((xs.take j.toNat).drop lo.toNat) else none
  else none
noncomputable def aslice (v : AV) (lo : Int) (hi : Option Int) : Option AV :=
  orE (v.str?.bind fun s => (aslc s lo hi).map .str) (v.lst?.bind fun s => (aslc s lo hi).map .lst)
noncomputable def alen (H : Hp) (v : AV) : Option Int := orE (v.str?.map fun s => (s.length : Int)) ((items? H v).map fun xs => (xs.length : Int))
noncomputable def digits (i : Int) : List Nat := (toString i).toList.map Char.toNat
noncomputable def upC (c : Nat) : Nat := if Nat.ble 97 c && Nat.ble c 122 then c - 32 else c
noncomputable def loC (c : Nat) : Nat := if Nat.ble 65 c && Nat.ble c 90 then c + 32 else c
noncomputable def joinL (sep : List Nat) : List (List Nat) → List Nat
  | [] => []
  | x :: r => match r with
    | [] => x
    | _ :: _ => x ++ (sep ++ joinL sep r)
noncomputable def consHead (c : Nat) : List (List Nat) → List (List Nat)
  | [] => [[c]]
  | x :: xs => (c :: x) :: xs
noncomputable def splitL : List Nat → List (List Nat)
  | [] => [[]]
  | c :: r => cond (Nat.beq c 13) (match r with
    | [] => [[c]]
    | d :: r' => cond (Nat.beq d 10) ([] :: splitL r') (consHead c (splitL (d :: r')))) (consHead c (splitL r))
noncomputable def one? {α : Type} : List α → Option α
  | [] => none
  | x :: r => cond r.isEmpty (some x) none
theorem one_inv {α : Type} {xs : List α} {x : α} (h : one? xs = some x) : xs = [x] := by
  cases xs with
  | nil => cases h
  | cons y r =>
    cases r with
    | nil => cases h; rfl
    | cons => cases h
noncomputable def asm (H : Hp) : SM → List Nat → List AV → Option AV
  | .join => fun s vs => (one? vs).bind fun v => (lists? H v).bind fun xs => (asStrs xs).bind fun ts => gd (small (joinL s ts).length && small s.length) (some (.str (joinL s ts)))
  | .split => fun s vs => (one? vs).bind fun v => v.str?.bind fun t => gd (decide (t = [13, 10]) && small s.length) (some (.lst ((splitL s).map .str)))
  | .upper => fun s vs => gd (vs.isEmpty && (ascii s && small s.length)) (some (.str (s.map upC)))
  | .lower => fun s vs => gd (vs.isEmpty && (ascii s && small s.length)) (some (.str (s.map loC)))
  | .count => fun s vs => (one? vs).bind fun v => v.str?.bind fun t => (one? t).map fun c => .int (s.count c)
  | .index => fun s vs => (one? vs).bind fun v => v.str?.bind fun t => (one? t).bind fun c => gd (s.contains c) (some (.int (s.idxOf c)))
noncomputable def aint (b : UInt64) : Option Int := match Float64.decode b with
  | .fin sg m e => some (Float64.truncOf sg m e)
  | _ => none
noncomputable def bestBy {α : Type} (lt : α → α → Bool) : α → List α → α
  | v, [] => v
  | v, x :: r => bestBy lt (if lt x v then x else v) r
noncomputable def intLt (max : Bool) (a b : Int) : Bool := if max then decide (a > b) else decide (a < b)
noncomputable def fltLt (max : Bool) (a b : UInt64) : Bool := if max then Float64.cmp a b == some Ordering.gt else Float64.cmp a b == some Ordering.lt
noncomputable def strLt (a b : List Nat) : Bool := decide (a < b)
noncomputable def bestL {α : Type} (lt : α → α → Bool) : List α → Option α
  | [] => none
  | n :: ns => some (bestBy lt n ns)
theorem bestL_inv {α : Type} {lt : α → α → Bool} {l : List α} {r : α} (h : bestL lt l = some r) : ∃ n ns, l = n :: ns ∧ r = bestBy lt n ns := by
  cases l with
  | nil => cases h
  | cons n ns => cases h; exact ⟨n, ns, rfl, rfl⟩
noncomputable def abest (max : Bool) (xs : List AV) : Option AV :=
  orE ((asInts xs).bind fun l => (bestL (intLt max) l).map .int) (orE ((asFlts xs).bind fun l => (bestL (fltLt max) l).map .flt)
    (gd (!max) ((asStrs xs).bind fun l => (bestL strLt l).map .str)))
noncomputable def getLoc (H : Hp) (i : Nat) : Option AV := (H[(0 : Nat)]?.bind AO.ns?).bind fun vals => vals[i]?.bind id
noncomputable def getCel (H : Hp) (k : Nat) : Option AV := (H[k]?.bind AO.cell?).bind id
noncomputable def setLoc (H : Hp) (i : Nat) (v : AV) : Option Hp := (H[(0 : Nat)]?.bind AO.ns?).map fun vals => H.set 0 (.ns (vals.set i (some v)))
noncomputable def setCel (H : Hp) (k : Nat) (v : AV) : Option Hp := (H[k]?.bind AO.cell?).map fun _ => H.set k (.cell (some v))
theorem getLoc_inv {H : Hp} {i : Nat} {v : AV} (h : getLoc H i = some v) : ∃ vals, H[(0 : Nat)]? = some (.ns vals) ∧ vals[i]? = some (some v) := by
  obtain ⟨vals, h1, h⟩ := bind_inv h
  obtain ⟨o, h2, h1⟩ := bind_inv h1
  obtain ⟨u, h3, h⟩ := bind_inv h
  exact ⟨vals, by rw [h2, ns_inv h1], by rw [h3]; exact congrArg _ h⟩
theorem getCel_inv {H : Hp} {k : Nat} {v : AV} (h : getCel H k = some v) : H[k]? = some (.cell (some v)) := by
  obtain ⟨u, h1, h⟩ := bind_inv h
  obtain ⟨o, h2, h1⟩ := bind_inv h1
  rw [h2, cell_inv h1]; exact congrArg (fun x => some (AO.cell x)) h
theorem setLoc_inv {H H' : Hp} {i : Nat} {v : AV} (h : setLoc H i v = some H') : ∃ vals, H[(0 : Nat)]? = some (.ns vals) ∧ H' = H.set 0 (.ns (vals.set i (some v))) := by
  obtain ⟨vals, h1, h⟩ := map_inv h
  obtain ⟨o, h2, h1⟩ := bind_inv h1
  exact ⟨vals, by rw [h2, ns_inv h1], h⟩
theorem setCel_inv {H H' : Hp} {k : Nat} {v : AV} (h : setCel H k v = some H') : ∃ u, H[k]? = some (.cell u) ∧ H' = H.set k (.cell (some v)) := by
  obtain ⟨u, h1, h⟩ := map_inv h
  obtain ⟨o, h2, h1⟩ := bind_inv h1
  exact ⟨u, by rw [h2, cell_inv h1], h⟩
noncomputable def rngOk (a b : Int) : Bool := Nat.ble a.natAbs 1000000 && Nat.ble b.natAbs 1000000
noncomputable def rangeL (a b : Int) : List AV := (List.range (b - a).toNat).map fun (k : Nat) => .int (a + (k : Int))
noncomputable def asrc (v : AV) : Option (List AV) := orE v.lst? (orE v.tup? (v.str?.map fun s => s.map fun c => .str [c]))
noncomputable def atab (c : Addr) (H : Hp) (v : AV) : Option (Nat × List AV) :=
  v.tab?.bind fun p => (getList H p.2).bind fun xs => gd (p.1 == c && AV.pures xs) (some (p.2, xs))
noncomputable def compLit (f : AV → Hp → Option (Option AV × Hp)) : List AV → Hp → Option (List AV × Hp)
  | [], H => some ([], H)
  | v :: r, H => th (f v H) fun y? H' => match y? with
    | some y => gd y.pure (th (compLit f r H') fun ys H'' => some (y :: ys, H''))
    | none => compLit f r H'
noncomputable def loopLit (f : AV → Hp → Option (AF × Hp)) : List AV → Hp → Option (AF × Hp)
  | [], H => some (.next, H)
  | v :: r, H => th (f v H) fun x H' => match x with
    | .next => loopLit f r H'
    | .brk => some (.next, H')
    | .ret v => some (.ret v, H')
noncomputable abbrev OE := List AV → Hp → Option (AV × Hp)
noncomputable abbrev OL := List AV → Hp → Option (List AV × Hp)
noncomputable abbrev OB := List AV → Hp → Option (Bool × Hp)
noncomputable abbrev OS := Hp → Option (AF × Hp)
noncomputable abbrev OC := Nat → List AV → Option AV
noncomputable abbrev OD := Nat → List AV → List AV → Option (AV × List AV)
noncomputable def wi {α : Type} (H : Hp) (x : Option α) : Option (α × Hp) := x.map fun v => (v, H)
theorem wi_inv {α : Type} {H : Hp} {x : Option α} {p : α × Hp} (h : wi H x = some p) : x = some p.1 ∧ p.2 = H := by
  obtain ⟨a, e, rfl⟩ := map_inv h
  exact ⟨e, rfl⟩
noncomputable def oK (v : AV) : OE := fun _ H => some (v, H)
noncomputable def oLoc (i : Nat) : OE := fun _ H => wi H (getLoc H i)
noncomputable def oCel (i : Nat) : OE := fun _ H => wi H (getCel H i)
noncomputable def oCv (i : Nat) : OE := fun ξ H => wi H ξ[i]?
noncomputable def oBin (op : Operator) (l r : OE) : OE := fun ξ H => th (l ξ H) fun a H1 => th (r ξ H1) fun b H2 => wi H2 (abin op a b)
noncomputable def tCmp (op : CmpOp) (l r : OE) : OB := fun ξ H => th (l ξ H) fun a H1 => th (r ξ H1) fun b H2 => wi H2 (acmp H2 op a b)
noncomputable def oCmp (op : CmpOp) (l r : OE) : OE := fun ξ H => th (tCmp op l r ξ H) fun b H2 => some (.bool b, H2)
noncomputable def oIfe (t : OB) (a b : OE) : OE := fun ξ H => th (t ξ H) fun c H1 => cond c (a ξ H1) (b ξ H1)
noncomputable def oLst (es : OL) : OE := fun ξ H => th (es ξ H) fun vs H1 => gd (small vs.length) (some (.lst vs, H1))
noncomputable def oLstM (es : OL) : OE := fun ξ H => th (es ξ H) fun vs H1 => gd (small vs.length) (some (.ref H1.length, H1 ++ [.list vs]))
noncomputable def oTup (es : OL) : OE := fun ξ H => th (es ξ H) fun vs H1 => gd (small vs.length) (some (.tup vs, H1))
noncomputable def oTurn (elt : OE) (ifs : OB) : AV → Hp → Option (Option AV × Hp) := fun v H => th (ifs [v] H) fun b H1 => cond b (th (elt [v] H1) fun y H2 => some (some y, H2)) (some (none, H1))
noncomputable def compAll (f : AV → Hp → Option (Option AV × Hp)) (xs : List AV) (H : Hp) : Option (AV × Hp) := gd (small xs.length) (th (compLit f xs H) fun ys H' => some (.lst ys, H'))
noncomputable def oComp (elt : OE) (it : OE) (ifs : OB) : OE := fun ξ H => th (it ξ H) fun v H1 => (asrc v).bind fun xs => compAll (oTurn elt ifs) xs H1
noncomputable def oCompR1 (elt : OE) (a : OE) (ifs : OB) : OE := fun ξ H => th (a ξ H) fun v H1 => v.int?.bind fun n => gd (rngOk 0 n) (compAll (oTurn elt ifs) (rangeL 0 n) H1)
noncomputable def oSub (v i : OE) : OE := fun ξ H => th (v ξ H) fun a H1 => th (i ξ H1) fun b H2 => wi H2 (asub H2 a b)
noncomputable def oSlc (v lo hi : OE) : OE := fun ξ H => th (v ξ H) fun a H1 => th (lo ξ H1) fun b H2 => th (hi ξ H2) fun c H3 => onI b c fun i j => wi H3 (aslice a i (some j))
noncomputable def oSlcTo (v hi : OE) : OE := fun ξ H => th (v ξ H) fun a H1 => th (hi ξ H1) fun c H2 => c.int?.bind fun j => wi H2 (aslice a 0 (some j))
noncomputable def oSlcFrom (v lo : OE) : OE := fun ξ H => th (v ξ H) fun a H1 => th (lo ξ H1) fun c H2 => c.int?.bind fun i => wi H2 (aslice a i none)
noncomputable def oLen (e : OE) : OE := fun ξ H => th (e ξ H) fun a H1 => (alen H1 a).bind fun n => gd (Nat.ble n.natAbs 100000) (some (.int n, H1))
noncomputable def oToInt (e : OE) : OE := fun ξ H => th (e ξ H) fun a H1 => a.flt?.bind fun b => wi H1 ((aint b).map .int)
noncomputable def oToStr (e : OE) : OE := fun ξ H => th (e ξ H) fun a H1 => a.int?.bind fun n => gd (Nat.ble n.natAbs 1000000000) (some (.str (digits n), H1))
noncomputable def amm (b : Bool) (xs : List AV) : Option AV := gd (Nat.ble 2 xs.length && Nat.ble xs.length (cond b 3 4)) (abest b xs)
noncomputable def oMm (b : Bool) (es : OL) : OE := fun ξ H => th (es ξ H) fun xs H1 => wi H1 (amm b xs)
noncomputable def oMin1 (e : OE) : OE := fun ξ H => th (e ξ H) fun v H1 => wi H1 ((lists? H1 v).bind (abest false))
noncomputable def oSm (m : SM) (o : OE) (args : OL) : OE := fun ξ H => th (o ξ H) fun a H1 => a.str?.bind fun s => th (args ξ H1) fun vs H2 => wi H2 (asm H2 m s vs)
noncomputable def oApp (o e : OE) : OE := fun ξ H => th (o ξ H) fun a H1 => a.ref?.bind fun k => gd (getList H1 k).isSome (th (e ξ H1) fun v H2 => (getList H2 k).bind fun xs => gd (small xs.length) (some (.none, H2.set k (.list (xs ++ [v])))))
noncomputable def oFc (C : OC) (f : Nat) (args : OL) : OE := fun ξ H => th (args ξ H) fun vs H1 => gd (AV.pures vs) (wi H1 (C f vs))
noncomputable def dStep (D : OD) (m l : Nat) (xs vs : List AV) (H : Hp) : Option (AV × Hp) := (D m xs vs).map fun p => (p.1, H.set l (.list p.2))
noncomputable def oTc (D : OD) (c : Addr) (m : Nat) (o : OE) (args : OL) : OE := fun ξ H => th (o ξ H) fun a H1 => gd (atab c H1 a).isSome (th (args ξ H1) fun vs H2 => gd (AV.pures vs) ((atab c H2 a).bind fun p => dStep D m p.1 p.2 vs H2))
noncomputable def oTf (D : OD) (c : Addr) (m : Nat) (o : OE) (args : OL) : OE := fun ξ H => th (o ξ H) fun a H1 => th (args ξ H1) fun vs H2 => gd (AV.pures vs) ((atab c H2 a).bind fun p => dStep D m p.1 p.2 vs H2)
noncomputable def oTn (c : Addr) : OE := fun _ H => some (.tab c H.length, H ++ [.list []])
noncomputable def oTl (D : OD) (c : Addr) (m : Nat) (o : OE) : OE := fun ξ H => th (o ξ H) fun a H1 => (atab c H1 a).bind fun p => dStep D m p.1 p.2 [] H1
noncomputable def oNil : OL := fun _ H => some ([], H)
noncomputable def oCons (e : OE) (r : OL) : OL := fun ξ H => th (e ξ H) fun v H1 => th (r ξ H1) fun vs H2 => some (v :: vs, H2)
noncomputable def tOr (l r : OB) : OB := fun ξ H => th (l ξ H) fun b H1 => cond b (some (true, H1)) (r ξ H1)
noncomputable def tVal (e : OE) : OB := fun ξ H => th (e ξ H) fun v H1 => wi H1 (atruth v)
noncomputable def tNil : OB := fun _ H => some (true, H)
noncomputable def tOne (e : OB) : OB := e
inductive OV where
  | loc (i : Nat)
  | cel (k : Nat)
noncomputable def oSet (H : Hp) : OV → AV → Option Hp
  | .loc i => setLoc H i
  | .cel k => setCel H k
inductive OT where
  | one (v : OV)
  | two (v w : OV)
  | three (u v w : OV)
noncomputable def prs {β : Type} (f : AV → AV → Option β) (xs : List AV) : Option β := match xs with
  | [] => none
  | a :: r => (one? r).bind fun b => f a b
theorem prs_inv {β : Type} {f : AV → AV → Option β} {xs : List AV} {v : β} (h : prs f xs = some v) : ∃ a b, xs = [a, b] ∧ f a b = some v := by
  cases xs with
  | nil => cases h
  | cons a r => obtain ⟨b, e, h⟩ := bind_inv h; exact ⟨a, b, by rw [one_inv e], h⟩
noncomputable def oTgt (H : Hp) : OT → AV → Option Hp
  | .one v => oSet H v
  | .two v w => fun x => x.tup?.bind (prs fun a b => (oSet H v a).bind fun H1 => oSet H1 w b)
  | .three u v w => fun x => x.tup?.bind fun xs => match xs with
    | [] => none
    | a :: r => prs (fun b c => (oSet H u a).bind fun H1 => (oSet H1 v b).bind fun H2 => oSet H2 w c) r
noncomputable def nx (x : Option Hp) : Option (AF × Hp) := x.map fun H => (.next, H)
noncomputable def sAsg (v : OV) (e : OE) : OS := fun H => th (e [] H) fun a H1 => nx (oSet H1 v a)
noncomputable def sSeti (o i e : OE) : OS := fun H => th (e [] H) fun v H1 => th (o [] H1) fun a H2 => a.ref?.bind fun k => th (i [] H2) fun b H3 => b.int?.bind fun j => (getList H3 k).bind fun xs =>
  gd (decide (0 ≤ j ∧ j < xs.length) && small xs.length) (some (.next, H3.set k (.list (xs.set j.toNat v))))
noncomputable def AV.dull : AV → Bool
  | .none => true
  | .int _ => true
  | _ => false
noncomputable def sExp (e : OE) : OS := fun H => th (e [] H) fun v H1 => gd v.dull (some (.next, H1))
noncomputable def sIf (t : OB) (a b : OS) : OS := fun H => th (t [] H) fun c H1 => cond c (a H1) (b H1)
noncomputable def oBody (t : OT) (body : OS) : AV → Hp → Option (AF × Hp) := fun v H => (oTgt H t v).bind body
noncomputable def sForE (t : OT) (it : OE) (body : OS) : OS := fun H => th (it [] H) fun v H1 => (asrc v).bind fun xs => loopLit (oBody t body) xs H1
noncomputable def sForR1 (t : OT) (a : OE) (body : OS) : OS := fun H => th (a [] H) fun v H1 => v.int?.bind fun n => gd (rngOk 0 n) (loopLit (oBody t body) (rangeL 0 n) H1)
noncomputable def sForR2 (t : OT) (a b : OE) (body : OS) : OS := fun H => th (a [] H) fun v H1 => th (b [] H1) fun u H2 => onI v u fun m n => gd (rngOk m n) (loopLit (oBody t body) (rangeL m n) H2)
noncomputable def sRet (e : OE) : OS := fun H => th (e [] H) fun a H1 => some (.ret a, H1)
noncomputable def sNil : OS := fun H => some (.next, H)
noncomputable def sCons (s r : OS) : OS := fun H => th (s H) fun f H1 => match f with
  | .next => r H1
  | f => some (f, H1)
end Mine
end
section
set_option Elab.async false
set_option linter.all false
namespace Mine
open PySem PyProof.Rows
noncomputable def Fine (A : Around) : Prop := A.handled = none ∧ A.units + 300 < cLine
section
variable {prog : Program} {w : World} {A : Around} {E : Value → Shared → Prop} {s : Shared} {g : Gr} {B : FMap} {φ : List Addr} {H : Hp} {Q : Value → Shared → Prop}
noncomputable def Then (g : Gr) (B : FMap) (φ : List Addr) (H : Hp) (v : AV) (Q : Value → Shared → Prop) (s : Shared) : Prop :=
  ∀ B' val h' tk, Grow φ B s.heap φ B' h' → Rel g B' φ H h' → VR B' φ v val → Q val { s with heap := h', toks := tk }
theorem Then.same {v : AV} (h : Then g B φ H v Q s) (R : Rel g B φ H s.heap) {val : Value} (hv : VR B φ v val) (tk : Nat) : Q val { s with toks := tk } :=
  h B val s.heap tk Grow.refl R hv
theorem Then.same' {v : AV} (h : Then g B φ H v Q s) (R : Rel g B φ H s.heap) {val : Value} (hv : VR B φ v val) : Q val s := h.same R hv s.toks
theorem Then.list {xs : List AV} (h : Then g B φ H (.lst xs) Q s) (R : Rel g B φ H s.heap) {vs : List Value} (hv : VRs B φ xs vs) {h' : Heap} {n : Nat} {a : Addr} (tk : Nat) (ha : s.heap.get? a = none)
    (hk : ∀ a o, s.heap.get? a = some o → h'.get? a = some o) (ho : h'.get? a = some (lstObj vs n)) : Q (.ref a) { s with heap := h', toks := tk } := by
  have R' := R.fresh (o := lstObj vs n) ha hk ho
  have G := Grow.fresh (o := lstObj vs n) R ha hk
  refine h _ _ h' tk G R' ?_
  simp only [VR]
  exact ⟨a, vs, n, rfl, FMap.add_self, G.vrs hv⟩
theorem Then.tuple {xs : List AV} (h : Then g B φ H (.tup xs) Q s) (R : Rel g B φ H s.heap) {vs : List Value} (hv : VRs B φ xs vs) {h' : Heap} {n : Nat} {a : Addr} (tk : Nat) (ha : s.heap.get? a = none)
    (hk : ∀ a o, s.heap.get? a = some o → h'.get? a = some o) (ho : h'.get? a = some (tupObj vs n)) : Q (.ref a) { s with heap := h', toks := tk } := by
  have R' := R.fresh (o := tupObj vs n) ha hk ho
  have G := Grow.fresh (o := tupObj vs n) R ha hk
  refine h _ _ h' tk G R' ?_
  simp only [VR]
  exact ⟨a, vs, n, rfl, FMap.add_self, G.vrs hv⟩
theorem push_keeps (h : Heap) (o : Obj) : ∀ a p, h.get? a = some p → (h.push o).get? a = some p := fun _ _ e => Heap.get?_push_of_some _ e
theorem push_le (h : Heap) (o : Obj) : h.objs.size ≤ (h.push o).objs.size := by rw [Heap.size_push]; exact Nat.le_succ _
theorem small_le {n : Nat} (h : small n = true) : n ≤ 100000 := Nat.le_of_ble_eq_true h
theorem small_size {n : Nat} (h : small n = true) : n ≤ sizeLine := Nat.le_trans (small_le h) (by rw [sizeLine_eq]; decide)
theorem bits_small {a : Int} (h : Nat.ble a.natAbs 4294967296 = true) : Builtin.Int.intBits a ≤ 64 := by
  have := Nat.le_of_ble_eq_true h
  exact intBits_le_64 (by omega) (by omega)
theorem str_append (a b : List Nat) : (⟨a.toArray⟩ : Str) ++ ⟨b.toArray⟩ = ⟨(a ++ b).toArray⟩ := by
  show (⟨a.toArray ++ b.toArray⟩ : Str) = _
  simp
theorem isList_of {h : Heap} {a : Addr} {vs : List Value} {n : Nat} (e : h.get? a = some (lstObj vs n)) : h.IsList a vs.toArray := ⟨_, e, rfl, n, rfl⟩
theorem isTuple_of {h : Heap} {a : Addr} {vs : List Value} {n : Nat} (e : h.get? a = some (tupObj vs n)) : h.IsTuple a vs.toArray := ⟨_, e, rfl, n, rfl⟩
theorem mul_text (a : List Nat) (b : Int) : (Txt.mul ⟨a.toArray⟩ b) = ⟨((List.replicate b.toNat a).flatten).toArray⟩ := by
  have key : ∀ (n : Nat) (acc : Array Nat), (List.replicate n a.toArray).foldl (· ++ ·) acc = acc ++ ((List.replicate n a).flatten).toArray := by
    intro n
    induction n with
    | zero => intro acc; simp
    | succ n ih => intro acc; rw [List.replicate_succ, List.foldl_cons, ih, List.replicate_succ]; simp
  unfold Txt.mul
  by_cases h1 : b < 1
  · have : b.toNat = 0 := by omega
    simp [h1, this, Str.empty]
  · rw [if_neg h1]
    by_cases h2 : (b == 1 || (⟨a.toArray⟩ : Str).length == 0) = true
    · rw [if_pos h2]
      rw [Bool.or_eq_true] at h2
      rcases h2 with h2 | h2
      · have : b = 1 := by simpa using h2
        subst this; simp
      · have : a = [] := by simpa [Str.length] using h2
        subst this
        simp
    · rw [if_neg h2]
      rw [key]; simp
theorem vr_int {B : FMap} {φ : List Addr} {i : Int} {v : Value} (h : VR B φ (.int i) v) : ∃ t, v = .int i t := by simpa only [VR] using h
theorem vr_flt {B : FMap} {φ : List Addr} {i : UInt64} {v : Value} (h : VR B φ (.flt i) v) : ∃ t, v = .float i t := by simpa only [VR] using h
theorem vr_str {B : FMap} {φ : List Addr} {i : List Nat} {v : Value} (h : VR B φ (.str i) v) : ∃ t, v = .str ⟨i.toArray⟩ t := by simpa only [VR] using h
theorem vr_bool {B : FMap} {φ : List Addr} {i : Bool} {v : Value} (h : VR B φ (.bool i) v) : v = .bool i := by simpa only [VR] using h
theorem vr_lst {B : FMap} {φ : List Addr} {xs : List AV} {v : Value} (h : VR B φ (.lst xs) v) : ∃ a vs n, v = .ref a ∧ B a = some (lstObj vs n) ∧ VRs B φ xs vs := by simpa only [VR] using h
theorem vr_tup {B : FMap} {φ : List Addr} {xs : List AV} {v : Value} (h : VR B φ (.tup xs) v) : ∃ a vs n, v = .ref a ∧ B a = some (tupObj vs n) ∧ VRs B φ xs vs := by simpa only [VR] using h
theorem vr_ref {B : FMap} {φ : List Addr} {k : Nat} {v : Value} (h : VR B φ (.ref k) v) : ∃ a, φ[k]? = some a ∧ v = .ref a := by simpa only [VR] using h
theorem vr_none {B : FMap} {φ : List Addr} {v : Value} (h : VR B φ .none v) : v = .none := by simpa only [VR] using h
theorem is_int {B : FMap} {φ : List Addr} {i : Int} {t : Tok} : VR B φ (.int i) (.int i t) := by simp only [VR]; exact ⟨t, rfl⟩
theorem is_flt {B : FMap} {φ : List Addr} {i : UInt64} {t : Tok} : VR B φ (.flt i) (.float i t) := by simp only [VR]; exact ⟨t, rfl⟩
theorem is_str {B : FMap} {φ : List Addr} {i : List Nat} {t : Tok} : VR B φ (.str i) (.str ⟨i.toArray⟩ t) := by simp only [VR]; exact ⟨t, rfl⟩
theorem is_bool {B : FMap} {φ : List Addr} {i : Bool} : VR B φ (.bool i) (.bool i) := by simp only [VR]
theorem is_none {B : FMap} {φ : List Addr} : VR B φ .none .none := by simp only [VR]
section
variable {a b v : AV} {va vb : Value} (ha : VR B φ a va) (hb' : VR B φ b vb) (R : Rel g B φ H s.heap) (h : Then g B φ H v Q s)
include ha hb' R h
theorem add_sound (e : aAdd a b = some v) : wpAny (model prog w) A (binaryOp .Add va vb) Q E s := by
  rcases orE_or e with e | e
  · obtain ⟨x, y, rfl, rfl, e⟩ := onI_inv e; cases e
    obtain ⟨t, rfl⟩ := vr_int ha; obtain ⟨u, rfl⟩ := vr_int hb'
    exact add_int (h.same R is_int _)
  rcases orE_or e with e | e
  · obtain ⟨x, y, rfl, rfl, e⟩ := onS_inv e
    obtain ⟨hs, e⟩ := gd_inv e; cases e
    obtain ⟨t, rfl⟩ := vr_str ha; obtain ⟨u, rfl⟩ := vr_str hb'
    refine SB.add (fun t' k => h.same R (by rw [str_append]; exact is_str) _) ?_
    have := small_size hs
    simpa only [Str.length, List.size_toArray] using this
  rcases orE_or e with e | e
  · obtain ⟨x, y, rfl, rfl, e⟩ := onF_inv e; cases e
    obtain ⟨t, rfl⟩ := vr_flt ha; obtain ⟨u, rfl⟩ := vr_flt hb'
    exact add_float (h.same R is_flt _)
  · obtain ⟨x, y, rfl, rfl, e⟩ := onL_inv e
    obtain ⟨hs, e⟩ := gd_inv e; cases e
    obtain ⟨aa, vs, n, rfl, ea, ra⟩ := vr_lst ha; obtain ⟨ab, us, m, rfl, eb, rb⟩ := vr_lst hb'
    have hl : vs.length + us.length ≤ sizeLine := by rw [ra.length, rb.length]; exact small_size hs
    refine P.add_list (R.keep _ _ ea) (R.keep _ _ eb) ?_ (by simpa only [List.size_toArray] using hl)
    rw [List.append_toArray]
    exact h.list R (ra.append rb) (n := 0) s.toks (fresh_none _) (push_keeps _ _) (Heap.get?_push_size _ rfl)
theorem sub_sound0 (e : aSub a b = some v) : wpAny (model prog w) A (binaryOp .Sub va vb) Q E s := by
  rcases orE_or e with e | e
  · obtain ⟨x, y, rfl, rfl, e⟩ := onI_inv e; cases e
    obtain ⟨t, rfl⟩ := vr_int ha; obtain ⟨u, rfl⟩ := vr_int hb'
    exact sub_int (h.same R is_int _)
  · obtain ⟨x, y, rfl, rfl, e⟩ := onF_inv e; cases e
    obtain ⟨t, rfl⟩ := vr_flt ha; obtain ⟨u, rfl⟩ := vr_flt hb'
    exact sub_float (h.same R is_flt _)
theorem mul_sound (e : aMul a b = some v) : wpAny (model prog w) A (binaryOp .Mult va vb) Q E s := by
  obtain ⟨y, ey, e⟩ := bind_inv e
  cases int_inv ey
  obtain ⟨u, rfl⟩ := vr_int hb'
  rcases orE_or e with e | e
  · obtain ⟨x, ex, e⟩ := bind_inv e
    cases int_inv ex
    obtain ⟨hs, e⟩ := gd_inv e; cases e
    obtain ⟨t, rfl⟩ := vr_int ha
    refine mul_int (h.same R is_int _) ?_
    rcases (Bool.or_eq_true _ _ ▸ hs) with h1 | h1
    · exact IntMulOk.of_left (bits_small h1)
    · exact IntMulOk.of_right (bits_small h1)
  rcases orE_or e with e | e
  · obtain ⟨x, ex, e⟩ := bind_inv e
    cases str_inv ex
    obtain ⟨hs, e⟩ := gd_inv e; cases e
    obtain ⟨t, rfl⟩ := vr_str ha
    rw [Bool.and_eq_true] at hs
    have h1 := small_le hs.1
    have h2 := Nat.le_of_ble_eq_true hs.2
    refine SB.mul ⟨?_, fun h3 h4 => ?_, fun h3 h4 => ?_⟩ fun t' k => h.same R (by rw [mul_text]; exact is_str) _
    · clear h ha R hs h1; rw [Bool.or_eq_false_iff]; exact ⟨decide_eq_false (by omega), decide_eq_false (by omega)⟩
    · clear h ha R hs
      have e1 : (x.length : Int) * y = ((x.length * y.toNat : Nat) : Int) := by rw [Int.natCast_mul, Int.toNat_of_nonneg (by omega)]
      have e2 : (x.length : Int) * y ≤ 2 ^ 63 - 1 := by rw [e1]; clear e1; omega
      exact Int.not_lt.mpr (Int.le_ediv_of_mul_le (a := (x.length : Int)) (b := (2 ^ 63 - 1)) (c := y) (by omega) e2)
    · clear h ha R hs h2
      show decide (x.length * y.toNat > sizeLine) = false
      rw [sizeLine_eq]
      exact decide_eq_false (by omega)
  · obtain ⟨x, ex, e⟩ := bind_inv e
    cases flt_inv ex
    obtain ⟨hs, e⟩ := gd_inv e; cases e
    obtain ⟨t, rfl⟩ := vr_flt ha
    exact mul_fi_fits (Nat.lt_of_le_of_lt (Nat.le_of_ble_eq_true hs) (by decide +kernel)) (h.same R is_flt _)
theorem div_sound (e : aDiv a b = some v) : wpAny (model prog w) A (binaryOp .Div va vb) Q E s := by
  rcases orE_or e with e | e
  · obtain ⟨x, y, rfl, rfl, e⟩ := onF_inv e
    obtain ⟨hz, e⟩ := gd_inv e; cases e
    obtain ⟨t, rfl⟩ := vr_flt ha; obtain ⟨u, rfl⟩ := vr_flt hb'
    exact AutoFloatOps.truediv_1 (ne_true_of_eq_false ((Bool.not_eq_true' _).mp hz)) (h.same R is_flt _)
  · obtain ⟨x, y, rfl, rfl, e⟩ := onI_inv e
    obtain ⟨hz, e⟩ := gd_inv e
    obtain ⟨hi, e⟩ := gd_inv e; cases e
    obtain ⟨t, rfl⟩ := vr_int ha; obtain ⟨u, rfl⟩ := vr_int hb'
    refine AutoIntOps.truediv_2 ?_ (ne_true_of_eq_false ((Bool.not_eq_true' _).mp hi)) (h.same R is_flt _)
    simpa using hz
theorem mod_sound (e : aMod a b = some v) : wpAny (model prog w) A (binaryOp .Mod va vb) Q E s := by
  rcases orE_or e with e | e
  · obtain ⟨x, y, rfl, rfl, e⟩ := onI_inv e
    obtain ⟨hz, e⟩ := gd_inv e; cases e
    obtain ⟨t, rfl⟩ := vr_int ha; obtain ⟨u, rfl⟩ := vr_int hb'
    exact mod_int' (of_decide_eq_false ((Bool.not_eq_true' _).mp hz)) (h.same R is_int _)
  · obtain ⟨x, y, rfl, rfl, e⟩ := onF_inv e
    obtain ⟨hz, e⟩ := gd_inv e; cases e
    obtain ⟨t, rfl⟩ := vr_flt ha; obtain ⟨u, rfl⟩ := vr_flt hb'
    exact AutoFloatOps.mod_1 (ne_true_of_eq_false ((Bool.not_eq_true' _).mp hz)) (h.same R is_flt _)
theorem fdiv_sound (e : aFdiv a b = some v) : wpAny (model prog w) A (binaryOp .FloorDiv va vb) Q E s := by
  obtain ⟨x, y, rfl, rfl, e⟩ := onI_inv e
  obtain ⟨hz, e⟩ := gd_inv e
  obtain ⟨hi, e⟩ := gd_inv e; cases e
  obtain ⟨t, rfl⟩ := vr_int ha; obtain ⟨u, rfl⟩ := vr_int hb'
  have := Nat.le_of_ble_eq_true hi
  exact floordiv_int (of_decide_eq_false ((Bool.not_eq_true' _).mp hz)) (h.same R is_int _) (.inl (PyProof.noPylong_small (by clear hz hi h R ha hb'; omega)))
theorem pow_sound (e : aPow a b = some v) : wpAny (model prog w) A (binaryOp .Pow va vb) Q E s := by
  obtain ⟨x, y, rfl, rfl, e⟩ := onI_inv e
  obtain ⟨hz, e⟩ := gd_inv e; cases e
  obtain ⟨t, rfl⟩ := vr_int ha; obtain ⟨u, rfl⟩ := vr_int hb'
  have hz := of_decide_eq_true hz
  have := Nat.le_of_ble_eq_true hz.2.2
  exact pow_int_small hz.1 (by omega) (by omega) (h.same R is_int _)
theorem and_sound (e : aAnd a b = some v) : wpAny (model prog w) A (binaryOp .BitAnd va vb) Q E s := by
  obtain ⟨x, y, rfl, rfl, e⟩ := onI_inv e; cases e
  obtain ⟨t, rfl⟩ := vr_int ha; obtain ⟨u, rfl⟩ := vr_int hb'
  exact and_int (h.same R is_int _)
end
theorem bin_sound {op : Operator} {a b v : AV} (e : abin op a b = some v) {va vb : Value} (ha : VR B φ a va) (hb' : VR B φ b vb) (R : Rel g B φ H s.heap) (h : Then g B φ H v Q s) :
    wpAny (model prog w) A (binaryOp op va vb) Q E s := by
  cases op with
  | Add => exact add_sound ha hb' R h e
  | Sub => exact sub_sound0 ha hb' R h e
  | Mult => exact mul_sound ha hb' R h e
  | Div => exact div_sound ha hb' R h e
  | Mod => exact mod_sound ha hb' R h e
  | FloorDiv => exact fdiv_sound ha hb' R h e
  | Pow => exact pow_sound ha hb' R h e
  | BitAnd => exact and_sound ha hb' R h e
  | _ => cases e
end
end Mine
end
section
set_option Elab.async false
set_option linter.all false
namespace Mine
open PySem PyProof.Rows PySem.W PySem.SeqAt PySem.Spec
noncomputable def tx (l : List Nat) : Str := ⟨l.toArray⟩
theorem tx_inj {a b : List Nat} : tx a = tx b ↔ a = b := by
  constructor
  · intro h; have := congrArg (fun s => s.cps.toList) h; simpa [tx] using this
  · rintro rfl; rfl
theorem tx_beq (a b : List Nat) : (tx a == tx b) = decide (a = b) := by
  show decide (tx a = tx b) = _
  simp only [tx_inj]
section
variable {prog : Program} {w : World} {A : Around} {E : Value → Shared → Prop} {s : Shared} {g : Gr} {B : FMap} {φ : List Addr} {H : Hp} {Q : Value → Shared → Prop}
theorem ints_are : ∀ {xs : List AV} {ns : List Int} {vs : List Value}, asInts xs = some ns → VRs B φ xs vs → IntsAre vs ns
  | [], _, _, e, h => by cases e; simp only [VRs] at h; subst h; exact .nil
  | v :: r, ns, vs, e, h => by
    obtain ⟨i, ei, e⟩ := bind_inv e
    obtain ⟨l, el, rfl⟩ := map_inv e
    cases int_inv ei
    simp only [VRs] at h
    obtain ⟨v, vs', rfl, hv, hr⟩ := h
    obtain ⟨t, rfl⟩ := vr_int hv
    exact .cons i t (ints_are el hr)
theorem strs_are : ∀ {xs : List AV} {ns : List (List Nat)} {vs : List Value}, asStrs xs = some ns → VRs B φ xs vs → StrsAre vs (ns.map tx)
  | [], _, _, e, h => by cases e; simp only [VRs] at h; subst h; exact .nil
  | v :: r, ns, vs, e, h => by
    obtain ⟨i, ei, e⟩ := bind_inv e
    obtain ⟨l, el, rfl⟩ := map_inv e
    cases str_inv ei
    simp only [VRs] at h
    obtain ⟨v, vs', rfl, hv, hr⟩ := h
    obtain ⟨t, rfl⟩ := vr_str hv
    exact .cons (tx i) t (strs_are el hr)
theorem readsAll_of_strs {h : Heap} : ∀ {vs : List Value} {ns : List Str}, StrsAre vs ns → ReadsAll h vs (ns.map PyData.str) []
  | _, _, .nil => .nil
  | _, _, .cons k t r => by
    have := ReadsAll.cons (Reads.str (h := h) k t) (readsAll_of_strs (h := h) r)
    simpa using this
theorem reads_of_strs {h : Heap} {a : Addr} {vs : List Value} {ns : List Str} (hl : h.IsList a vs.toArray) (hi : StrsAre vs ns) : Reads h (.ref a) (.list (ns.map PyData.str)) [a] := by
  obtain ⟨o, ho, hc, n, hd⟩ := hl
  exact Reads.list ho hc hd (by simpa using readsAll_of_strs hi)
noncomputable def strOks (ns : List Str) : Prop := ∀ x ∈ ns, PyData.strOk x = true
theorem canLayAll0_strs : ∀ ns : List Str, strOks ns → PyData.canLayAll0 (ns.map PyData.str) = true
  | [], _ => by simp [PyData.canLayAll0]
  | n :: r, h => by
    have h1 := h n (List.mem_cons_self ..)
    simp [PyData.canLayAll0, PyData.canLay0, canLayAll0_strs r (fun x hx => h x (List.mem_cons_of_mem _ hx)), h1]
theorem strOk_ascii {x : List Nat} (h : ascii x = true) : PyData.strOk (tx x) = true := by
  simp only [PyData.strOk, tx, List.all_toArray]
  unfold ascii at h
  rw [List.all_eq_true] at h ⊢
  intro c hc
  have := Nat.le_of_ble_eq_true (h c hc)
  exact decide_eq_true (by omega)
theorem strOks_ascii {xs : List (List Nat)} (h : xs.all ascii = true) : strOks (xs.map tx) := by
  intro x hx
  obtain ⟨y, hy, rfl⟩ := List.mem_map.mp hx
  exact strOk_ascii (List.all_eq_true.mp h y hy)
theorem depthAll_strs : ∀ ns : List Str, PyData.depthAll (ns.map PyData.str) ≤ 1
  | [] => by simp [PyData.depthAll]
  | n :: r => by
    have := depthAll_strs r
    simp only [List.map_cons, PyData.depthAll, PyData.depth]
    omega
theorem shaped_strs (ns : List Str) (hk : strOks ns) : shaped (.list (ns.map PyData.str)) = true := by
  have h1 := depthAll_strs ns
  have h2 : PyData.depth (.list (ns.map PyData.str)) ≤ 64 := by simp only [PyData.depth]; omega
  show (PyData.canLay0 (.list (ns.map PyData.str)) && decide (PyData.depth (.list (ns.map PyData.str)) ≤ 64)) = true
  rw [Bool.and_eq_true]
  exact ⟨by simp only [PyData.canLay0]; exact canLayAll0_strs ns hk, decide_eq_true h2⟩
theorem noMix_strs : ∀ ns ms : List Str, noMixAll (ns.map PyData.str) (ms.map PyData.str) = true
  | [], [] => by simp [noMixAll]
  | [], _ :: _ => by simp [noMixAll]
  | _ :: _, [] => by simp [noMixAll]
  | _ :: r, _ :: q => by simp [noMixAll, noMix, noMix_strs r q]
theorem same_strs : ∀ ns ms : List Str, PySem.Spec.sameAll (ns.map PyData.str) (ms.map PyData.str) = decide (ns = ms)
  | [], [] => by simp [PySem.Spec.sameAll]
  | [], _ :: _ => by simp [PySem.Spec.sameAll]
  | _ :: _, [] => by simp [PySem.Spec.sameAll]
  | n :: r, k :: q => by
    simp only [List.map_cons, PySem.Spec.sameAll, PySem.Spec.same, same_strs r q]
    by_cases h : n = k <;> simp [h]
theorem eq_strsK {a b : Addr} {vs us : List Value} {ns ms : List Str} (hl : s.heap.IsList a vs.toArray) (hi : StrsAre vs ns) (hl' : s.heap.IsList b us.toArray) (hi' : StrsAre us ms) (o1 : strOks ns) (o2 : strOks ms) (hu : A.units + 64 < cLine)
    (h : Q (.bool (decide (ns = ms))) s) : wpAny (model prog w) A (compareOp .Eq (.ref a) (.ref b)) Q E s :=
  eq_dataH_same (reads_of_strs hl hi) (reads_of_strs hl' hi') (shaped_strs ns o1) (shaped_strs ms o2) hu (by simp only [noMix]; exact noMix_strs ns ms) (by simp only [PySem.Spec.same]; rw [same_strs]; exact h)
theorem ne_strsK {a b : Addr} {vs us : List Value} {ns ms : List Str} (hl : s.heap.IsList a vs.toArray) (hi : StrsAre vs ns) (hl' : s.heap.IsList b us.toArray) (hi' : StrsAre us ms) (o1 : strOks ns) (o2 : strOks ms) (hu : A.units + 64 < cLine)
    (h : Q (.bool (!decide (ns = ms))) s) : wpAny (model prog w) A (compareOp .NotEq (.ref a) (.ref b)) Q E s :=
  ne_dataH_same (reads_of_strs hl hi) (reads_of_strs hl' hi') (shaped_strs ns o1) (shaped_strs ms o2) hu (by simp only [noMix]; exact noMix_strs ns ms) (by simp only [PySem.Spec.same]; rw [same_strs]; exact h)
theorem map_tx_inj {a b : List (List Nat)} : a.map tx = b.map tx ↔ a = b := by
  constructor
  · intro h
    induction a generalizing b with
    | nil => cases b with | nil => rfl | cons => simp at h
    | cons x r ih => cases b with
      | nil => simp at h
      | cons y q =>
        simp only [List.map_cons, List.cons.injEq] at h
        rw [tx_inj.mp h.1, ih h.2]
  · rintro rfl; rfl
theorem eqs_sound (hA : Fine A) (neg : Bool) {xs ys : List AV} {b : Bool} (e : aeqs xs ys = some b) {a c : Addr} {vs us : List Value} (la : s.heap.IsList a vs.toArray) (ra : VRs B φ xs vs) (lc : s.heap.IsList c us.toArray) (rc : VRs B φ ys us)
    (h : Q (.bool (if neg then !b else b)) s) : wpAny (model prog w) A (compareOp (if neg then .NotEq else .Eq) (.ref a) (.ref c)) Q E s := by
  have hu : A.units + 64 < cLine := Nat.lt_of_le_of_lt (Nat.add_le_add_left (by decide) _) hA.2
  rcases orE_or e with e | e
  · obtain ⟨n, m, e1, e2, e⟩ := two_inv e; cases e
    cases neg with
    | false => exact eq_intsK la (ints_are e1 ra) lc (ints_are e2 rc) hu h
    | true => exact ne_intsK la (ints_are e1 ra) lc (ints_are e2 rc) hu h
  · obtain ⟨n, m, e1, e2, e⟩ := two_inv e
    obtain ⟨hk, e⟩ := gd_inv e; cases e
    rw [Bool.and_eq_true] at hk
    have o1 := strOks_ascii hk.1
    have o2 := strOks_ascii hk.2
    have hd : decide (n.map tx = m.map tx) = decide (n = m) := by simp only [map_tx_inj]
    cases neg with
    | false => exact eq_strsK la (strs_are e1 ra) lc (strs_are e2 rc) o1 o2 hu (by rw [hd]; exact h)
    | true => exact ne_strsK la (strs_are e1 ra) lc (strs_are e2 rc) o1 o2 hu (by rw [hd]; exact h)
theorem lists_sound {a : AV} {xs : List AV} (e : lists? H a = some xs) {va : Value} (ra : VR B φ a va) (R : Rel g B φ H s.heap) : ∃ l vs n, va = .ref l ∧ s.heap.get? l = some (lstObj vs n) ∧ VRs B φ xs vs := by
  rcases orE_or e with e | e
  · cases lst_inv e
    obtain ⟨aa, vs, n, rfl, ea, ra⟩ := vr_lst ra
    exact ⟨aa, vs, n, rfl, R.keep _ _ ea, ra⟩
  · obtain ⟨k, ek, e⟩ := bind_inv e
    cases ref_inv ek
    obtain ⟨aa, ea, rfl⟩ := vr_ref ra
    obtain ⟨vs, n, eo, rv⟩ := R.obj _ _ _ ea (getList_inv e)
    exact ⟨aa, vs, n, rfl, eo, rv⟩
theorem eq_sound (hA : Fine A) (neg : Bool) {a c : AV} {b : Bool} (e : aeq H a c = some b) {va vc : Value} (ra : VR B φ a va) (rc : VR B φ c vc) (R : Rel g B φ H s.heap) (h : Q (.bool (if neg then !b else b)) s) :
    wpAny (model prog w) A (compareOp (if neg then .NotEq else .Eq) va vc) Q E s := by
  rcases orE_or e with e | e
  · obtain ⟨x, y, rfl, rfl, e⟩ := onI_inv e; cases e
    obtain ⟨t, rfl⟩ := vr_int ra; obtain ⟨u, rfl⟩ := vr_int rc
    cases neg with
    | false => exact eq_int h
    | true => exact ne_int h
  rcases orE_or e with e | e
  · obtain ⟨x, y, rfl, rfl, e⟩ := onS_inv e; cases e
    obtain ⟨t, rfl⟩ := vr_str ra; obtain ⟨u, rfl⟩ := vr_str rc
    have hd : (({ cps := x.toArray } : Str) == { cps := y.toArray }) = decide (x = y) := tx_beq x y
    cases neg with
    | false => exact eq_str (by rw [hd]; exact h)
    | true => exact ne_str (by show Q (.bool (!(({ cps := x.toArray } : Str) == { cps := y.toArray }))) s; rw [hd]; exact h)
  rcases orE_or e with e | e
  · obtain ⟨x, y, e1, e2, e⟩ := two_inv e; cases e
    cases bool_inv e1; cases bool_inv e2
    cases vr_bool ra; cases vr_bool rc
    cases neg with
    | false => exact eq_bool h
    | true => exact ne_bool h
  rcases orE_or e with e | e
  · obtain ⟨x, y, rfl, rfl, e⟩ := onF_inv e; cases e
    obtain ⟨t, rfl⟩ := vr_flt ra; obtain ⟨u, rfl⟩ := vr_flt rc
    cases neg with
    | false => exact AutoFloatOps.eq_0 h
    | true => exact AutoFloatOps.ne_0 h
  · obtain ⟨x, y, e1, e2, e3⟩ := two_inv e
    cases lst_inv e2
    obtain ⟨aa, vs, n, rfl, ea, ra⟩ := lists_sound (s := s) e1 ra R
    obtain ⟨ab, us, m, rfl, eb, rb⟩ := vr_lst rc
    exact eqs_sound hA neg e3 (isList_of ea) ra (isList_of (R.keep _ _ eb)) rb h
theorem any_contains (l : List Int) (a : Int) : l.any (· == a) = l.contains a := by
  induction l with
  | nil => rfl
  | cons x r ih => simp only [List.any_cons, ih, List.contains_cons]; rw [Bool.beq_comm]
theorem any_tx (l : List (List Nat)) (a : List Nat) : (l.map tx).any (· == tx a) = l.contains a := by
  induction l with
  | nil => rfl
  | cons x r ih =>
    simp only [List.map_cons, List.any_cons, ih, List.contains_cons, tx_beq]
    congr 1
    by_cases h : x = a
    · subst h; simp
    · have h' : ¬ a = x := fun e => h e.symm
      rw [decide_eq_false h]
      exact (beq_eq_false_iff_ne.mpr h').symm
theorem in_sound (neg : Bool) {a : AV} {xs : List AV} {b : Bool} (e : ain a xs = some b) {va : Value} (ra : VR B φ a va) {l : Addr} {vs : List Value} (hl : s.heap.IsList l vs.toArray) (rv : VRs B φ xs vs) (h : Q (.bool (if neg then !b else b)) s) :
    wpAny (model prog w) A (compareOp (if neg then .NotIn else .In) va (.ref l)) Q E s := by
  rcases orE_or e with e | e
  · obtain ⟨x, ex, e⟩ := bind_inv e
    obtain ⟨ns, e1, rfl⟩ := map_inv e
    cases int_inv ex
    obtain ⟨t, rfl⟩ := vr_int ra
    cases neg with
    | false => exact in_list_ints hl (ints_are e1 rv) (by rw [any_contains]; exact h)
    | true => exact notin_list_ints hl (ints_are e1 rv) (by rw [any_contains]; exact h)
  · obtain ⟨x, ex, e⟩ := bind_inv e
    obtain ⟨ns, e1, rfl⟩ := map_inv e
    cases str_inv ex
    obtain ⟨t, rfl⟩ := vr_str ra
    have ha : (ns.map tx).any (· == ⟨x.toArray⟩) = ns.contains x := any_tx ns x
    cases neg with
    | false => exact in_list_strs hl (strs_are e1 rv) (by rw [ha]; exact h)
    | true => exact notin_list_strs hl (strs_are e1 rv) (by rw [ha]; exact h)
theorem is_sound {a c : AV} {b : Bool} (e : aIs a c = some b) {va vc : Value} (ra : VR B φ a va) (rc : VR B φ c vc) (neg : Bool) (h : Q (.bool (if neg then !b else b)) s) : wpAny (model prog w) A (compareOp (if neg then .IsNot else .Is) va vc) Q E s := by
  obtain ⟨hc, e⟩ := gd_inv e
  cases none_inv hc
  cases vr_none rc
  rcases orE_or e with e | e
  · obtain ⟨ha, e⟩ := gd_inv e; cases e
    cases none_inv ha
    cases vr_none ra
    cases neg with
    | false => exact wpAny_is_plain rfl h
    | true => exact wpAny_isNot_plain rfl h
  · obtain ⟨x, ex, rfl⟩ := map_inv e
    cases str_inv ex
    obtain ⟨t, rfl⟩ := vr_str ra
    cases neg with
    | false => exact wpAny_is_plain rfl h
    | true => exact wpAny_isNot_plain rfl h
theorem cmp_sound (hA : Fine A) {op : CmpOp} {a c : AV} {b : Bool} (e : acmp H op a c = some b) {va vc : Value} (ra : VR B φ a va) (rc : VR B φ c vc) (R : Rel g B φ H s.heap) (h : Q (.bool b) s) :
    wpAny (model prog w) A (compareOp op va vc) Q E s := by
  cases op with
  | Eq => exact eq_sound hA false e ra rc R h
  | NotEq =>
    obtain ⟨b', e1, rfl⟩ := map_inv e
    exact eq_sound hA true e1 ra rc R h
  | Lt =>
    obtain ⟨x, y, rfl, rfl, e⟩ := onI_inv e; cases e
    obtain ⟨t, rfl⟩ := vr_int ra; obtain ⟨u, rfl⟩ := vr_int rc
    exact lt_int h
  | Gt =>
    obtain ⟨x, y, rfl, rfl, e⟩ := onI_inv e; cases e
    obtain ⟨t, rfl⟩ := vr_int ra; obtain ⟨u, rfl⟩ := vr_int rc
    exact gt_int h
  | LtE =>
    obtain ⟨x, y, rfl, rfl, e⟩ := onF_inv e; cases e
    obtain ⟨t, rfl⟩ := vr_flt ra; obtain ⟨u, rfl⟩ := vr_flt rc
    exact AutoFloatOps.le_0 h
  | Is => exact is_sound e ra rc false h
  | IsNot =>
    obtain ⟨b', e1, rfl⟩ := map_inv e
    exact is_sound e1 ra rc true h
  | In =>
    obtain ⟨xs, e1, e2⟩ := bind_inv e
    obtain ⟨l, vs, n, rfl, eo, rv⟩ := lists_sound (s := s) e1 rc R
    exact in_sound false e2 ra (isList_of eo) rv h
  | NotIn =>
    obtain ⟨b', e0, rfl⟩ := map_inv e
    obtain ⟨xs, e1, e2⟩ := bind_inv e0
    obtain ⟨l, vs, n, rfl, eo, rv⟩ := lists_sound (s := s) e1 rc R
    exact in_sound true e2 ra (isList_of eo) rv h
  | _ => cases e
theorem truth_sound {a : AV} {b : Bool} (e : atruth a = some b) {va : Value} (ra : VR B φ a va) {P : Bool → Shared → Prop} (h : P b s) : wpAny (model prog w) A (truthy va) P E s := by
  rcases orE_or e with e | e
  · cases bool_inv e; cases vr_bool ra; exact wpAny_truthy_bool h
  · obtain ⟨i, ei, rfl⟩ := map_inv e
    cases int_inv ei
    obtain ⟨t, rfl⟩ := vr_int ra
    refine PySem.P.truthy_int ?_
    have : (i != 0) = decide (i ≠ 0) := by
      by_cases hi : i = 0 <;> simp [hi]
    rw [this]; exact h
end
end Mine
end
section
set_option Elab.async false
set_option linter.all false
namespace Mine
open PySem PyProof.Rows PySem.W
theorem pick_range {α : Type} (xs : List α) (a n : Nat) : (List.range' a n).filterMap (fun i => xs[i]?) = (xs.drop a).take n := by
  induction n generalizing a with
  | zero => simp
  | succ n ih =>
    rw [List.range'_succ]
    by_cases h : a < xs.length
    · have e : xs[a]? = some xs[a] := by simp [h]
      rw [List.filterMap_cons_some e, ih, List.drop_eq_getElem_cons h, List.take_succ_cons]
    · have e : xs[a]? = none := by simp [Nat.not_lt.mp h]
      rw [List.filterMap_cons_none e, ih]
      simp [List.drop_eq_nil_of_le (Nat.not_lt.mp h), List.drop_eq_nil_of_le (Nat.le_succ_of_le (Nat.not_lt.mp h))]
theorem sliceRange_one (a b : Nat) : sliceRange (a : Int) (b : Int) 1 = List.range' a (b - a) := by
  unfold sliceRange
  simp only [show ((1 : Int) > 0) from by decide, if_true]
  by_cases h : a < b
  · have h' : (a : Int) < b := by omega
    simp only [h', if_true]
    have e : (((b : Int) - a + 1 - 1) / 1).toNat = b - a := by omega
    rw [e, List.range'_eq_map_range]
    apply List.map_congr_left
    intro k hk
    omega
  · have h' : ¬ (a : Int) < b := by omega
    simp only [h', if_false]
    have e : b - a = 0 := by omega
    simp [e]
noncomputable def cutL {α : Type} (xs : List α) (lo : Option Int) (hi : Option Int) : List α :=
  (match hi with | none => xs | some j => xs.take j.toNat).drop (lo.getD 0).toNat
theorem clamp (k n : Nat) : max 0 (min (k : Int) n) = ((min k n : Nat) : Int) := by
  rcases Nat.le_total k n with h | h
  · rw [Nat.min_eq_left h, Int.min_eq_left (Int.ofNat_le.mpr h), Int.max_eq_right (Int.natCast_nonneg k)]
  · rw [Nat.min_eq_right h, Int.min_eq_right (Int.ofNat_le.mpr h), Int.max_eq_right (Int.natCast_nonneg n)]
theorem cut_eq {α : Type} (xs : List α) (i j : Nat) :
    (sliceRange ((min i xs.length : Nat) : Int) ((min j xs.length : Nat) : Int) 1).filterMap (fun i => xs[i]?) = (xs.take j).drop i := by
  rw [sliceRange_one, pick_range, List.drop_take]
  rcases Nat.le_total i xs.length with h | h
  · rw [Nat.min_eq_left h]
    rcases Nat.le_total j xs.length with h2 | h2
    · rw [Nat.min_eq_left h2]
    · rw [Nat.min_eq_right h2, List.take_of_length_le (Nat.le_of_eq List.length_drop), List.take_of_length_le (Nat.le_trans (Nat.le_of_eq List.length_drop) (Nat.sub_le_sub_right h2 i))]
  · rw [Nat.min_eq_right h, List.drop_eq_nil_of_le (Nat.le_refl _), List.drop_eq_nil_of_le h, List.take_nil, List.take_nil]
noncomputable def loN (lo : Option Int) : Nat := (lo.getD 0).toNat
noncomputable def hiN (hi : Option Int) (n : Nat) : Nat := match hi with | none => n | some j => j.toNat
theorem not_neg {i : Int} (h : 0 ≤ i) : ¬ i < 0 := Int.not_lt.mpr h
theorem bounds_eq (lo hi : Option Int) (n : Nat) (h0 : ∀ i, lo = some i → 0 ≤ i) (h1 : ∀ j, hi = some j → 0 ≤ j) :
    sliceBounds lo hi none n = (((min (loN lo) n : Nat) : Int), ((min (hiN hi n) n : Nat) : Int), 1) := by
  have e1 : ∀ i : Int, 0 ≤ i → max 0 (min i (n : Int)) = ((min i.toNat n : Nat) : Int) := fun i hi => by
    obtain ⟨k, rfl⟩ := Int.eq_ofNat_of_zero_le hi
    exact clamp k n
  have a0 : min (0 : Nat) n = 0 := Nat.min_eq_left (Nat.zero_le _)
  have a1 : min n n = n := Nat.min_self n
  cases lo with
  | none =>
    cases hi with
    | none => simp [sliceBounds, loN, hiN, a0]
    | some j => simp [sliceBounds, not_neg (h1 j rfl), e1 j (h1 j rfl), loN, hiN, a0]
  | some i =>
    cases hi with
    | none => simp [sliceBounds, not_neg (h0 i rfl), e1 i (h0 i rfl), loN, hiN]
    | some j => simp [sliceBounds, not_neg (h0 i rfl), e1 i (h0 i rfl), not_neg (h1 j rfl), e1 j (h1 j rfl), loN, hiN]
theorem cut_bounds {α : Type} (xs : List α) (lo hi : Option Int) (h0 : ∀ i, lo = some i → 0 ≤ i) (h1 : ∀ j, hi = some j → 0 ≤ j) :
    (sliceRange (sliceBounds lo hi none xs.length).1 (sliceBounds lo hi none xs.length).2.1 (sliceBounds lo hi none xs.length).2.2).filterMap (fun i => xs[i]?) = cutL xs lo hi := by
  rw [bounds_eq lo hi xs.length h0 h1]
  refine (cut_eq xs (loN lo) (hiN hi xs.length)).trans ?_
  cases hi with
  | none => show (xs.take xs.length).drop _ = _; rw [List.take_length]; rfl
  | some j => rfl
theorem slicePick_cut (vs : List Value) (lo hi : Option Int) (h0 : ∀ i, lo = some i → 0 ≤ i) (h1 : ∀ j, hi = some j → 0 ≤ j) : slicePick vs.toArray lo hi none = (cutL vs lo hi).toArray := by
  have := cut_bounds vs lo hi h0 h1
  unfold slicePick
  rw [← this]
  simp
theorem strIdx_bounds (lo hi : Option Int) (n : Nat) : Builtin.Str.strSliceIndices lo hi 1 n = sliceRange (sliceBounds lo hi none n).1 (sliceBounds lo hi none n).2.1 (sliceBounds lo hi none n).2.2 := by
  cases lo <;> cases hi <;> rfl
theorem txt_slice (x : List Nat) (lo hi : Option Int) (h0 : ∀ i, lo = some i → 0 ≤ i) (h1 : ∀ j, hi = some j → 0 ≤ j) : Txt.slice (tx x) lo hi = tx (cutL x lo hi) := by
  have key := cut_bounds x lo hi h0 h1
  unfold Txt.slice
  have e : (Builtin.Str.strSliceIndices lo hi 1 (tx x).length) = sliceRange (sliceBounds lo hi none x.length).1 (sliceBounds lo hi none x.length).2.1 (sliceBounds lo hi none x.length).2.2 := by
    rw [strIdx_bounds]; simp [tx, Str.length]
  rw [e]
  have e2 : List.filterMap (fun x_1 => (tx x).cps[x_1]?) (sliceRange (sliceBounds lo hi none x.length).1 (sliceBounds lo hi none x.length).2.1 (sliceBounds lo hi none x.length).2.2) = cutL x lo hi := by
    rw [← key]; simp [tx]
  by_cases h : ((1 : Int) == 1 && (sliceRange (sliceBounds lo hi none x.length).1 (sliceBounds lo hi none x.length).2.1 (sliceBounds lo hi none x.length).2.2).length == (tx x).length) = true
  · rw [if_pos h]
    have hl : (sliceRange (sliceBounds lo hi none x.length).1 (sliceBounds lo hi none x.length).2.1 (sliceBounds lo hi none x.length).2.2).length = x.length := by
      simpa [tx, Str.length] using h
    have eb := bounds_eq lo hi x.length h0 h1
    generalize ha : min (loN lo) x.length = a at eb
    generalize hb : min (hiN hi x.length) x.length = b at eb
    have hb' : b ≤ x.length := hb ▸ Nat.min_le_right _ _
    clear ha hb
    rw [eb] at hl key
    simp only [sliceRange_one] at hl key
    rw [pick_range] at key
    rw [List.length_range'] at hl
    rw [← key]
    cases x with
    | nil => rw [List.drop_nil, List.take_nil]
    | cons c r =>
      have a0 : a = 0 := by clear key eb e2 e h h0 h1; simp only [List.length_cons] at hl hb'; omega
      have b0 : b = (c :: r).length := by rw [a0] at hl; exact hl
      rw [a0, b0, List.drop_zero, Nat.sub_zero, List.take_length]
  · rw [if_neg h, e2]; rfl
theorem idx_seq {α : Type} {xs : List α} {i : Int} {x : α} (e : aidx xs i = some x) : ∃ k, seqIndex? i xs.length = some k ∧ xs[k]? = some x := by
  unfold aidx at e
  unfold seqIndex?
  split at e
  case isFalse => cases e
  split at e
  · rename_i h
    have hl := (List.getElem?_eq_some_iff.mp e).1
    have h1 : ¬ i < 0 := by omega
    refine ⟨i.toNat, ?_, e⟩
    simp only [h1, if_false]
    rw [if_pos]
    rw [Bool.and_eq_true]; exact ⟨decide_eq_true h, decide_eq_true (by omega)⟩
  · split at e
    · rename_i h h2
      have h1 : i < 0 := by omega
      refine ⟨(i + xs.length).toNat, ?_, e⟩
      simp only [h1, if_true]
      rw [if_pos]
      rw [Bool.and_eq_true]; exact ⟨decide_eq_true (by omega), decide_eq_true (by omega)⟩
    · cases e
section
variable {prog : Program} {w : World} {A : Around} {E : Value → Shared → Prop} {s : Shared} {g : Gr} {B : FMap} {φ : List Addr} {H : Hp} {Q : Value → Shared → Prop}
theorem idx_bounds {α : Type} {xs : List α} {i : Int} {x : α} (e : aidx xs i = some x) : -2 ^ 63 ≤ i ∧ i < 2 ^ 63 := by
  unfold aidx at e
  split at e
  · rename_i h
    have := Nat.le_of_ble_eq_true h
    omega
  · cases e
theorem fitsS {i : Int} (b1 : -2 ^ 63 ≤ i) (b2 : i < 2 ^ 63) : fitsSsize i = true := by unfold fitsSsize; simp; omega
theorem item_list {l : Addr} {xs : List AV} {vs : List Value} {n : Nat} {i : Int} {t : Tok} {x : AV} (e : aidx xs i = some x) (ho : s.heap.get? l = some (lstObj vs n)) (rv : VRs B φ xs vs)
    (h : ∀ v, VR B φ x v → Q v s) : wpAny (model prog w) A (getItem (.ref l) (.int i t)) Q E s := by
  obtain ⟨b1, b2⟩ := idx_bounds e
  have hl := rv.length
  unfold aidx at e
  split at e
  case isFalse => cases e
  split at e
  · rename_i h0
    obtain ⟨v, ev, hv⟩ := rv.get e
    exact wpAny_getItem_list (isList_of ho) h0 b2 (by simpa using ev) (h v hv)
  · split at e
    · rename_i h0 h1
      obtain ⟨v, ev, hv⟩ := rv.get e
      refine wpAny_getItem_list_neg (isList_of ho) (by omega) ?_ b1 ?_ (h v hv)
      · simp [hl]; omega
      · simpa [hl] using ev
    · cases e
theorem items_sound {a : AV} {xs : List AV} (e : items? H a = some xs) {va : Value} (ra : VR B φ a va) (R : Rel g B φ H s.heap) :
    ∃ l vs n, va = .ref l ∧ (s.heap.get? l = some (lstObj vs n) ∨ s.heap.get? l = some (tupObj vs n)) ∧ VRs B φ xs vs := by
  rcases orE_or e with e | e
  · cases tup_inv e
    obtain ⟨l, vs, n, rfl, ea, ra⟩ := vr_tup ra
    exact ⟨l, vs, n, rfl, .inr (R.keep _ _ ea), ra⟩
  · obtain ⟨l, vs, n, rfl, ea, ra⟩ := lists_sound (s := s) e ra R
    exact ⟨l, vs, n, rfl, .inl ea, ra⟩
theorem sub_sound {a b v : AV} (e : asub H a b = some v) {va vb : Value} (ra : VR B φ a va) (rb : VR B φ b vb) (R : Rel g B φ H s.heap)
    (h : ∀ val tk, VR B φ v val → Q val { s with toks := tk }) {value slice : Expr} (hs : subscripted slice false va vb = operate [va, vb] (getItem va vb)) :
    wpAny (model prog w) A (subscriptTail value slice va vb) Q E s := by
  obtain ⟨i, ei, e⟩ := bind_inv e
  cases int_inv ei
  obtain ⟨u, rfl⟩ := vr_int rb
  rcases orE_or e with e | e
  · obtain ⟨x, ex, e⟩ := bind_inv e
    obtain ⟨c, ec, rfl⟩ := map_inv e
    cases str_inv ex
    obtain ⟨t, rfl⟩ := vr_str ra
    obtain ⟨k, ek, ex⟩ := idx_seq ec
    obtain ⟨b1, b2⟩ := idx_bounds ec
    have hc : Txt.charAt ⟨x.toArray⟩ i = some c := by
      unfold Txt.charAt
      have : ((⟨x.toArray⟩ : Str).length) = x.length := rfl
      rw [this, ek]; simpa using ex
    refine tail_any (typeIs_str _ _ _) slot_str_getitem.lookup (SB.getItem (fitsS b1 b2) (by rw [hc]; rfl) (h _ _ ?_)) hs
    rw [Txt.item, hc]; exact is_str
  · obtain ⟨xs, ex, e⟩ := bind_inv e
    obtain ⟨l, vs, n, rfl, ho, rv⟩ := items_sound (s := s) ex ra R
    rcases ho with ho | ho
    · exact tail_any (isList_of ho).typeIs slot_list_getitem.lookup (item_list e ho rv fun v hv => h v s.toks hv) hs
    · obtain ⟨k, ek, ex⟩ := idx_seq e
      obtain ⟨b1, b2⟩ := idx_bounds e
      obtain ⟨v', ev, hv⟩ := rv.get ex
      refine tail_any (T := "tuple") ⟨_, ho, rfl⟩ slot_tuple_getitem.lookup (PySem.P.getItem_tuple ho b1 b2 (k := k) (by rw [List.size_toArray, rv.length]; exact ek) (by rw [List.getElem?_toArray]; exact ev) (h v' s.toks hv)) hs
end
end Mine
end
section
set_option Elab.async false
set_option linter.all false
namespace Mine
open PySem PyProof.Rows PySem.W
structure SC where
  names : List (Str × NameKind)
  fn : Bool
  locs : List Str
  cells : List (Str × Nat)
structure EnvR (sc : SC) (B : FMap) (φ : List Addr) (ξ : List AV) (env : Env) (h : Heap) : Prop where
  kind : env.scope.kind = .function
  names : env.scope.names = sc.names
  glob : env.globals = mainGlobals
  blt : env.builtins = builtinsNs
  loc : if sc.fn = true then φ[0]? = some env.locals else env.locals ∉ φ ∧ ∃ m, h.Ns env.locals m ∧ ∀ (i : Nat) x v, sc.locs[i]? = some x → ξ[i]? = some v → ∃ val, m x = some val ∧ VR B φ v val
  cell : ∀ x k, sc.cells.lookup x = some k → ∃ a, φ[k]? = some a ∧ env.cells.lookup x = some a
theorem EnvR.grow {sc : SC} {B B' : FMap} {φ φ' : List Addr} {ξ : List AV} {env : Env} {h h' : Heap} (r : EnvR sc B φ ξ env h) (G : Grow φ B h φ' B' h') : EnvR sc B' φ' ξ env h' := by
  refine ⟨r.kind, r.names, r.glob, r.blt, ?_, fun x k e => ?_⟩
  · have := r.loc
    by_cases hf : sc.fn = true
    · rw [if_pos hf] at this ⊢
      exact getElem?_prefix G.pre this
    · rw [if_neg hf] at this ⊢
      obtain ⟨hn, m, hm, hv⟩ := this
      refine ⟨fun q => ?_, m, hm.at' fun o e => G.frame _ _ hn e, fun i x v e1 e2 => ?_⟩
      · rcases G.new _ q with h1 | h1
        · exact hn h1
        · obtain ⟨o, _, _, ho, _⟩ := hm; rw [h1] at ho; cases ho
      · obtain ⟨val, e3, e4⟩ := hv i x v e1 e2
        exact ⟨val, e3, G.vr e4⟩
  · obtain ⟨a, e1, e2⟩ := r.cell x k e
    exact ⟨a, getElem?_prefix G.pre e1, e2⟩
structure TopOk (hb : Heap) (mg mb : Str → Option Value) : Prop where
  g : hb.Ns mainGlobals mg
  b : hb.Ns builtinsNs mb
  lim : hb.NoLimit
  len_ : mg (Str.ofString "len") = none ∧ mb (Str.ofString "len") = some (.builtin "len")
  int_ : mg (Str.ofString "int") = none ∧ mb (Str.ofString "int") = some (.type "int")
  str_ : mg (Str.ofString "str") = none ∧ mb (Str.ofString "str") = some (.type "str")
  range_ : mg (Str.ofString "range") = none ∧ mb (Str.ofString "range") = some (.type "range")
  max_ : mg (Str.ofString "max") = none ∧ mb (Str.ofString "max") = some (.builtin "max")
  min_ : mg (Str.ofString "min") = none ∧ mb (Str.ofString "min") = some (.builtin "min")
section
variable {prog : Program} {w : World} {A : Around} {g : Gr} {sc : SC} {ξ : List AV} {env : Env} {mg mb : Str → Option Value}
noncomputable def Ev (prog : Program) (w : World) (A : Around) (g : Gr) (sc : SC) (ξ : List AV) (env : Env) (t : Sem Value) (H : Hp) (v : AV) (H' : Hp) : Prop :=
  ∀ (B : FMap) (φ : List Addr) (s : Shared) (Q : Value → Shared → Prop) (E : Value → Shared → Prop), Rel g B φ H s.heap → EnvR sc B φ ξ env s.heap →
    (∀ B' φ' val h' tk, Grow φ B s.heap φ' B' h' → Rel g B' φ' H' h' → VR B' φ' v val → Q val { s with heap := h', toks := tk }) → wpAny (model prog w) A t Q E s
noncomputable def EvL (prog : Program) (w : World) (A : Around) (g : Gr) (sc : SC) (ξ : List AV) (env : Env) (t : Sem (List Value)) (H : Hp) (vs : List AV) (H' : Hp) : Prop :=
  ∀ (B : FMap) (φ : List Addr) (s : Shared) (Q : List Value → Shared → Prop) (E : Value → Shared → Prop), Rel g B φ H s.heap → EnvR sc B φ ξ env s.heap →
    (∀ B' φ' vals h' tk, Grow φ B s.heap φ' B' h' → Rel g B' φ' H' h' → VRs B' φ' vs vals → Q vals { s with heap := h', toks := tk }) → wpAny (model prog w) A t Q E s
noncomputable def EvB (prog : Program) (w : World) (A : Around) (g : Gr) (sc : SC) (ξ : List AV) (env : Env) (t : Sem Bool) (H : Hp) (b : Bool) (H' : Hp) : Prop :=
  ∀ (B : FMap) (φ : List Addr) (s : Shared) (Q : Bool → Shared → Prop) (E : Value → Shared → Prop), Rel g B φ H s.heap → EnvR sc B φ ξ env s.heap →
    (∀ B' φ' h' tk, Grow φ B s.heap φ' B' h' → Rel g B' φ' H' h' → Q b { s with heap := h', toks := tk }) → wpAny (model prog w) A t Q E s
theorem ev_here {t : Sem Value} {H : Hp} {v : AV} (h : ∀ (B : FMap) (φ : List Addr) (s : Shared) (Q : Value → Shared → Prop) (E : Value → Shared → Prop), Rel g B φ H s.heap → EnvR sc B φ ξ env s.heap → Then g B φ H v Q s → wpAny (model prog w) A t Q E s) :
    Ev prog w A g sc ξ env t H v H := fun B φ s Q E R Er k => h B φ s Q E R Er fun B' val h' tk G R' V => k B' φ val h' tk G R' V
noncomputable def kv : Const → Option AV
  | .none => some .none
  | .bool b => some (.bool b)
  | .int i => some (.int i)
  | .float b => some (.flt b)
  | .str s => some (.str s.cps.toList)
  | _ => none
theorem ev_k {c : Const} {p : Pos} {H : Hp} {v : AV} (e : kv c = some v) : Ev prog w A g sc ξ env (eval (.Constant c 0 p) env) H v H := by
  cases c <;> cases e
  · exact ev_here fun B φ s Q E R Er h => wpAny_Constant_none (h.same' R is_none)
  · exact ev_here fun B φ s Q E R Er h => wpAny_Constant_bool (h.same' R is_bool)
  · exact ev_here fun B φ s Q E R Er h => wpAny_Constant_int (h.same R is_int _)
  · exact ev_here fun B φ s Q E R Er h => fun Γ p hΓ => h.same R is_flt _
  · exact ev_here fun B φ s Q E R Er h => fun Γ p hΓ => h.same R is_str _
theorem ev_loc {i : Nat} {x : Str} {p : Pos} {H : Hp} {v : AV} (e : getLoc H i = some v) (hf : sc.fn = true) (hi : g.locs[i]? = some x) (hx : sc.names.lookup x = some .local) (hd : (x == ("__debug__" : Str)) = false) :
    Ev prog w A g sc ξ env (eval (.Name x p) env) H v H :=
  ev_here fun B φ s Q E R Er h => by
    obtain ⟨vals, ek, ev⟩ := getLoc_inv e
    have hl := Er.loc
    rw [if_pos hf] at hl
    obtain ⟨m, hn, hv⟩ := R.obj _ _ _ hl ek
    obtain ⟨val, e1, e2⟩ := hv i x v hi ev
    exact wpAny_Name (wpAny_loadName_local Er.kind (by show env.scope.names.lookup x = _; rw [Er.names, hx]) hn e1 (h.same' R e2)) hd
theorem ev_cel {k : Nat} {x : Str} {p : Pos} {H : Hp} {v : AV} (e : getCel H k = some v) (hc : sc.cells.lookup x = some k) (hx : sc.names.lookup x = some .cell ∨ sc.names.lookup x = some .free) (hd : (x == ("__debug__" : Str)) = false) (hd2 : (x == ("__classdict__" : Str)) = false) :
    Ev prog w A g sc ξ env (eval (.Name x p) env) H v H :=
  ev_here fun B φ s Q E R Er h => by
    obtain ⟨a, e1, e2⟩ := Er.cell x k hc
    obtain ⟨o, c, eo, ed, hv⟩ := R.obj _ _ _ e1 (getCel_inv e)
    obtain ⟨val, rfl, e4⟩ := hv v rfl
    rcases hx with hx | hx
    · exact wpAny_Name (wpAny_loadName_cell Er.kind (by show env.scope.names.lookup x = _; rw [Er.names, hx]) e2 ⟨o, eo, ed⟩ (h.same' R e4)) hd
    · exact wpAny_Name (wpAny_loadName_free Er.kind (by show env.scope.names.lookup x = _; rw [Er.names, hx]) e2 ⟨o, eo, ed⟩ (h.same' R e4) hd2) hd
theorem ev_cv {i : Nat} {x : Str} {p : Pos} {H : Hp} {v : AV} (e : ξ[i]? = some v) (hf : sc.fn = false) (hi : sc.locs[i]? = some x) (hx : sc.names.lookup x = some .local) (hd : (x == ("__debug__" : Str)) = false) :
    Ev prog w A g sc ξ env (eval (.Name x p) env) H v H :=
  ev_here fun B φ s Q E R Er h => by
    have hl := Er.loc
    rw [if_neg (by rw [hf]; exact Bool.false_ne_true)] at hl
    obtain ⟨_, m, hn, hv⟩ := hl
    obtain ⟨val, e1, e2⟩ := hv i x v hi e
    exact wpAny_Name (wpAny_loadName_local Er.kind (by show env.scope.names.lookup x = _; rw [Er.names, hx]) hn e1 (h.same' R e2)) hd
structure Plain (e : Expr) : Prop where
  star : ∀ r env, starEach (e :: r) env = (false, eval e env) :: starEach r env
  marks : ∀ op, behindInMarks op e = false
  folds : ∀ env v, foldedSetIterable e env v = pure v
  subs : ∀ o x, subscripted e false o x = operate [o, x] (getItem o x)
noncomputable def PlainL (es : List Expr) : Prop := ∀ env, starEach es env = es.map fun e => (false, eval e env)
theorem PlainL.nil : PlainL [] := fun _ => rfl
theorem PlainL.cons {e : Expr} {r : List Expr} (h : Plain e) (k : PlainL r) : PlainL (e :: r) := fun env => by rw [h.star, k]; rfl
theorem plain_const {c : Const} {p : Pos} : Plain (.Constant c 0 p) := ⟨fun _ _ => rfl, fun _ => rfl, fun _ _ => rfl, fun _ _ => rfl⟩
theorem plain_name {x : Str} {p : Pos} : Plain (.Name x p) := ⟨fun _ _ => rfl, fun _ => rfl, fun _ _ => rfl, fun _ _ => rfl⟩
theorem plain_bin {op : Operator} {l r : Expr} {p : Pos} : Plain (.BinOp l op r p) := ⟨fun _ _ => rfl, fun _ => rfl, fun _ _ => rfl, fun _ _ => rfl⟩
theorem plain_cmp {op : CmpOp} {l r : Expr} {p : Pos} : Plain (.Compare l [op] [r] p) := ⟨fun _ _ => rfl, fun _ => rfl, fun _ _ => rfl, fun _ _ => rfl⟩
theorem plain_ife {t a b : Expr} {p : Pos} : Plain (.IfExp t a b p) := ⟨fun _ _ => rfl, fun _ => rfl, fun _ _ => rfl, fun _ _ => rfl⟩
theorem plain_list {es : List Expr} {p : Pos} : Plain (.List es p) := ⟨fun _ _ => rfl, fun _ => rfl, fun _ _ => rfl, fun _ _ => rfl⟩
theorem plain_tuple {es : List Expr} {n : Nat} {p : Pos} : Plain (.Tuple es n p) := ⟨fun _ _ => rfl, fun _ => rfl, fun _ _ => rfl, fun _ _ => rfl⟩
theorem plain_comp {elt : Expr} {gs : List Comprehension} {sc : Scope} {p : Pos} : Plain (.ListComp elt gs sc p) := ⟨fun _ _ => rfl, fun _ => rfl, fun _ _ => rfl, fun _ _ => rfl⟩
theorem plain_sub {v i : Expr} {p : Pos} : Plain (.Subscript v i p) := ⟨fun _ _ => rfl, fun _ => rfl, fun _ _ => rfl, fun _ _ => rfl⟩
theorem plain_call {f : Expr} {es : List Expr} {ks : List Keyword} {p : Pos} : Plain (.Call f es ks p) := ⟨fun _ _ => rfl, fun _ => rfl, fun _ _ => rfl, fun _ _ => rfl⟩
theorem Rel.hbk {B : FMap} {φ : List Addr} {H : Hp} {h : Heap} (R : Rel g B φ H h) : ∀ a o, g.hb.get? a = some o → h.get? a = some o := fun a o e => R.keep _ _ (R.base _ _ e)
theorem name_builtin {B : FMap} {φ : List Addr} {H : Hp} {s : Shared} {E : Value → Shared → Prop} {Q : Value → Shared → Prop} (T : TopOk g.hb mg mb) (R : Rel g B φ H s.heap) (Er : EnvR sc B φ ξ env s.heap) {x : Str} {p : Pos} {v : Value} (hx : sc.names.lookup x = some .globalImplicit)
    (hm : mg x = none ∧ mb x = some v) (h : Q v s) (hd : (x == ("__debug__" : Str)) = false := by decide) : wpAny (model prog w) A (eval (.Name x p) env) Q E s :=
  Calls.Name_function_global Er.kind (by show env.scope.names.lookup x = _; rw [Er.names, hx]) (Calls.loadGlobal_builtin (by rw [Er.glob]; exact T.g.keeps R.hbk) hm.1 (by rw [Er.blt]; exact T.b.keeps R.hbk) hm.2 h) hd
theorem name_global {B : FMap} {φ : List Addr} {H : Hp} {s : Shared} {E : Value → Shared → Prop} {Q : Value → Shared → Prop} (T : TopOk g.hb mg mb) (R : Rel g B φ H s.heap) (Er : EnvR sc B φ ξ env s.heap) {x : Str} {p : Pos} {v : Value} (hx : sc.names.lookup x = some .globalImplicit)
    (hm : mg x = some v) (h : Q v s) (hd : (x == ("__debug__" : Str)) = false := by decide) : wpAny (model prog w) A (eval (.Name x p) env) Q E s :=
  Calls.Name_function_global Er.kind (by show env.scope.names.lookup x = _; rw [Er.names, hx]) (Calls.loadGlobal_global (by rw [Er.glob]; exact T.g.keeps R.hbk) hm h) hd
theorem ev_bin {op : Operator} {l r : Expr} {p : Pos} {H H1 H2 : Hp} {a b v : AV} (h1 : Ev prog w A g sc ξ env (eval l env) H a H1) (h2 : Ev prog w A g sc ξ env (eval r env) H1 b H2) (e : abin op a b = some v) :
    Ev prog w A g sc ξ env (eval (.BinOp l op r p) env) H v H2 := fun B φ s Q E R Er k =>
  wpAny_BinOp (h1 B φ s _ _ R Er fun B1 φ1 va h1' tk1 G1 R1 V1 => h2 B1 φ1 _ _ _ R1 (Er.grow G1) fun B2 φ2 vb h2' tk2 G2 R2 V2 =>
    bin_sound e (G2.vr V1) V2 R2 fun B' val h' tk G R V => k _ _ _ _ _ (G1.trans (G2.trans G)) R V)
theorem ev_cmp (hA : Fine A) {op : CmpOp} {l r : Expr} {p : Pos} {H H1 H2 : Hp} {a b : AV} {v : Bool} (h1 : Ev prog w A g sc ξ env (eval l env) H a H1) (h2 : Ev prog w A g sc ξ env (eval r env) H1 b H2) (e : acmp H2 op a b = some v) (hm : behindInMarks op r = false) :
    Ev prog w A g sc ξ env (eval (.Compare l [op] [r] p) env) H (.bool v) H2 := fun B φ s Q E R Er k =>
  wpAny_Compare1 (h1 B φ s _ _ R Er fun B1 φ1 va h1' tk1 G1 R1 V1 => h2 B1 φ1 _ _ _ R1 (Er.grow G1) fun B2 φ2 vb h2' tk2 G2 R2 V2 =>
    cmp_sound hA e (G2.vr V1) V2 R2 (k _ _ _ _ _ (G1.trans G2) R2 (by simp [VR]))) hm
theorem evb_cmp (hA : Fine A) {op : CmpOp} {l r : Expr} {p : Pos} {H H1 H2 : Hp} {a b : AV} {v : Bool} {wh : Sem Value} (h1 : Ev prog w A g sc ξ env (eval l env) H a H1) (h2 : Ev prog w A g sc ξ env (eval r env) H1 b H2) (e : acmp H2 op a b = some v) (hm : behindInMarks op r = false) :
    EvB prog w A g sc ξ env (isTrue (.Compare l [op] [r] p) env wh) H v H2 := fun B φ s Q E R Er k =>
  wpAny_isTrue_Compare1 (h1 B φ s _ _ R Er fun B1 φ1 va h1' tk1 G1 R1 V1 => h2 B1 φ1 _ _ _ R1 (Er.grow G1) fun B2 φ2 vb h2' tk2 G2 R2 V2 =>
    cmp_sound hA e (G2.vr V1) V2 R2 (wpAny_truthy_bool (k _ _ _ _ (G1.trans G2) R2))) hm
theorem evb_val {e : Expr} {H H1 : Hp} {a : AV} {b : Bool} (hs : isTrue e env (eval e env) = (do let v ← eval e env; standAt e.pos; holding [v] (truthy v))) (h1 : Ev prog w A g sc ξ env (eval e env) H a H1) (e2 : atruth a = some b) :
    EvB prog w A g sc ξ env (isTrue e env (eval e env)) H b H1 := fun B φ s Q E R Er k => by
  rw [hs]
  exact wpAny_bind (h1 B φ s _ _ R Er fun B1 φ1 va h1' tk1 G1 R1 V1 => wpAny_bind (wpAny_standAt (wpAny_holding (truth_sound e2 V1 (k _ _ _ _ G1 R1)))))
theorem evb_or {l r : Expr} {p : Pos} {H H1 : Hp} {wh : Sem Value} (h1 : EvB prog w A g sc ξ env (isTrue l env (eval l env)) H true H1) : EvB prog w A g sc ξ env (isTrue (.BoolOp .Or [l, r] p) env wh) H true H1 := fun B φ s Q E R Er k => by
  show wpAny _ _ (allTrue .Or [l, r] env) _ _ _
  refine wpAny_bind (h1 B φ s _ _ R Er fun B1 φ1 h1' tk1 G1 R1 => wpAny_pure (k _ _ _ _ G1 R1))
theorem evb_or2 {l r : Expr} {p : Pos} {H H1 H2 : Hp} {b : Bool} {wh : Sem Value} (h1 : EvB prog w A g sc ξ env (isTrue l env (eval l env)) H false H1) (h2 : EvB prog w A g sc ξ env (isTrue r env (eval r env)) H1 b H2) :
    EvB prog w A g sc ξ env (isTrue (.BoolOp .Or [l, r] p) env wh) H b H2 := fun B φ s Q E R Er k => by
  show wpAny _ _ (allTrue .Or [l, r] env) _ _ _
  refine wpAny_bind (h1 B φ s _ _ R Er fun B1 φ1 h1' tk1 G1 R1 => ?_)
  refine wpAny_bind (h2 B1 φ1 _ _ _ R1 (Er.grow G1) fun B2 φ2 h2' tk2 G2 R2 => ?_)
  cases b with
  | false => exact wpAny_pure (k _ _ _ _ (G1.trans G2) R2)
  | true => exact wpAny_pure (k _ _ _ _ (G1.trans G2) R2)
theorem ev_ife {t a b : Expr} {p : Pos} {H H1 H2 : Hp} {c : Bool} {v : AV} (h1 : EvB prog w A g sc ξ env (isTrue t env (eval t env)) H c H1) (h2 : Ev prog w A g sc ξ env (eval (if c then a else b) env) H1 v H2) :
    Ev prog w A g sc ξ env (eval (.IfExp t a b p) env) H v H2 := fun B φ s Q E R Er k => by
  show wpAny _ _ (do if ← isTrue t env (eval t env) then eval a env else eval b env) _ _ _
  refine wpAny_bind (h1 B φ s _ _ R Er fun B1 φ1 h1' tk1 G1 R1 => ?_)
  cases c with
  | false => exact h2 B1 φ1 _ _ _ R1 (Er.grow G1) fun B2 φ2 v2 h2' tk2 G2 R2 V2 => k _ _ _ _ _ (G1.trans G2) R2 V2
  | true => exact h2 B1 φ1 _ _ _ R1 (Er.grow G1) fun B2 φ2 v2 h2' tk2 G2 R2 V2 => k _ _ _ _ _ (G1.trans G2) R2 V2
theorem PlainL.back {es : List Expr} (h : PlainL es) (env : Env) (p : Pos) : backTo p (starEach es env) = es.map fun e => (false, eval e env) := by
  rw [h]
  unfold backTo
  rw [List.map_map]
  apply List.map_congr_left
  intro e _; rfl
theorem evl_nil {H : Hp} : EvL prog w A g sc ξ env (spliced []) H [] H := fun B φ s Q E R Er k => Calls.spliced_nil (k _ _ _ _ s.toks Grow.refl R VRs.nil)
theorem evl_cons {t : Sem Value} {ts : List (Bool × Sem Value)} {H H1 H2 : Hp} {v : AV} {vs : List AV} (h1 : Ev prog w A g sc ξ env t H v H1) (h2 : EvL prog w A g sc ξ env (spliced ts) H1 vs H2) : EvL prog w A g sc ξ env (spliced ((false, t) :: ts)) H (v :: vs) H2 := fun B φ s Q E R Er k =>
  Calls.spliced_cons (h1 B φ s _ _ R Er fun B1 φ1 va h1' tk1 G1 R1 V1 => h2 B1 φ1 _ _ _ R1 (Er.grow G1) fun B2 φ2 vb h2' tk2 G2 R2 V2 => k _ _ _ _ _ (G1.trans G2) R2 (VRs.cons (G2.vr V1) V2))
theorem ev_lst {es : List Expr} (hp : PlainL es) {p : Pos} {H H1 : Hp} {vs : List AV} (h1 : EvL prog w A g sc ξ env (spliced (es.map fun e => (false, eval e env))) H vs H1) (hs : small vs.length = true) :
    Ev prog w A g sc ξ env (eval (.List es p) env) H (.lst vs) H1 := fun B φ s Q E R Er k => by
  refine List_ ?_
  rw [hp.back]
  refine h1 B φ s _ _ R Er fun B1 φ1 vals h1' tk1 G1 R1 V1 => ?_
  refine wpAny_newList ?_ (by rw [V1.length]; exact small_size hs)
  have T : Then g B1 φ1 H1 (.lst vs) Q { s with heap := h1', toks := tk1 } := fun B' val h' tk G R V => k _ _ _ _ _ (G1.trans G) R V
  exact T.list R1 V1 (n := 0) tk1 (fresh_none _) (push_keeps _ _) (Heap.get?_push_size _ rfl)
theorem ev_tup {es : List Expr} (hp : PlainL es) {n : Nat} {p : Pos} {H H1 : Hp} {vs : List AV} (h1 : EvL prog w A g sc ξ env (spliced (es.map fun e => (false, eval e env))) H vs H1) (hs : small vs.length = true) :
    Ev prog w A g sc ξ env (eval (.Tuple es n p) env) H (.tup vs) H1 := fun B φ s Q E R Er k => by
  refine Tuple_ ?_
  rw [hp.back]
  refine h1 B φ s _ _ R Er fun B1 φ1 vals h1' tk1 G1 R1 V1 => ?_
  refine wpAny_newTuple ?_ (by rw [V1.length]; exact small_size hs)
  have T : Then g B1 φ1 H1 (.tup vs) Q { s with heap := h1', toks := tk1 } := fun B' val h' tk G R V => k _ _ _ _ _ (G1.trans G) R V
  exact T.tuple R1 V1 (n := 0) tk1 (fresh_none _) (push_keeps _ _) (Heap.get?_push_size _ rfl)
theorem ev_lstM {es : List Expr} (hp : PlainL es) {p : Pos} {H H1 : Hp} {vs : List AV} (h1 : EvL prog w A g sc ξ env (spliced (es.map fun e => (false, eval e env))) H vs H1) (hs : small vs.length = true) :
    Ev prog w A g sc ξ env (eval (.List es p) env) H (.ref H1.length) (H1 ++ [.list vs]) := fun B φ s Q E R Er k => by
  refine List_ ?_
  rw [hp.back]
  refine h1 B φ s _ _ R Er fun B1 φ1 vals h1' tk1 G1 R1 V1 => ?_
  refine wpAny_newList ?_ (by rw [V1.length]; exact small_size hs)
  have G2 : Grow φ1 B1 h1' (φ1 ++ [h1'.objs.size]) B1 (h1'.push { cls := .type "list", data := .seq vals.toArray }) := Grow.push (fresh_none _) (push_keeps _ _)
  refine k _ _ _ _ _ (G1.trans G2) (R1.push (fresh_none _) (push_keeps _ _) ⟨_, Heap.get?_push_size _ rfl⟩ ⟨vals, 0, Heap.get?_push_size _ rfl, G2.vrs V1⟩) ?_
  simp only [VR]
  exact ⟨_, by rw [← R1.len]; simp, rfl⟩
end
end Mine
end
section
set_option Elab.async false
set_option linter.all false
namespace Mine
open PySem PyProof.Rows PySem.W PySem.StrLaws
theorem up_ok : ∀ c, c < 128 → Unicode.upperOf c = [upC c] := by
  have key : ((List.range 128).all fun c => decide (Unicode.upperOf c = [upC c])) = true := by decide +kernel
  intro c hc
  exact of_decide_eq_true (List.all_eq_true.mp key c (List.mem_range.mpr hc))
theorem lo_ok : ∀ c, c < 128 → Unicode.lowerOf c = [loC c] := by
  have key : ((List.range 128).all fun c => decide (Unicode.lowerOf c = [loC c])) = true := by decide +kernel
  intro c hc
  exact of_decide_eq_true (List.all_eq_true.mp key c (List.mem_range.mpr hc))
theorem ascii_lt {s : List Nat} (h : ascii s = true) : ∀ c ∈ s, c < 128 := fun c hc => Nat.le_of_ble_eq_true (List.all_eq_true.mp h c hc)
theorem placed_map (s : List Nat) (f : Nat → Nat → List Nat) (k : Nat → Nat) (h : ∀ (i c : Nat), s[i]? = some c → f i c = [k c]) : (⟨placed (tx s) f⟩ : Str) = tx (s.map k) := by
  unfold placed tx
  congr 1
  apply Array.toList_inj.mp
  simp only [Array.toList_flatten, Array.toList_mapIdx]
  have : List.map Array.toList (List.mapIdx (fun i c => (f i c).toArray) s) = s.map fun c => [k c] := by
    apply List.ext_getElem?
    intro i
    rw [List.getElem?_map, List.getElem?_mapIdx, List.getElem?_map]
    cases e : s[i]? with
    | none => rfl
    | some c => simp [h i c e]
  rw [this]
  clear this h
  induction s with
  | nil => rfl
  | cons c r ih => simpa using ih
theorem txt_upper {s : List Nat} (h : ascii s = true) : Txt.upper (tx s) = tx (s.map upC) :=
  placed_map s _ upC fun i c e => up_ok c (ascii_lt h c (List.mem_of_getElem? e))
theorem txt_lower {s : List Nat} (h : ascii s = true) : Txt.lower (tx s) = tx (s.map loC) := by
  refine placed_map s _ loC fun i c e => ?_
  have hc := ascii_lt h c (List.mem_of_getElem? e)
  unfold Unicode.lowerAt
  have : (tx s).cps[i]? = some c := by simpa [tx] using e
  rw [this]
  have hne : (c == 931) = false := by simp; omega
  simp only [hne, Bool.false_and, Bool.false_eq_true, if_false]
  exact lo_ok c hc
theorem join_tx (sep : List Nat) : ∀ ts : List (List Nat), Str.join (tx sep) (ts.map tx) = tx (joinL sep ts)
  | [] => rfl
  | [x] => rfl
  | x :: y :: r => by
    have := join_tx sep (y :: r)
    simp only [List.map_cons] at this ⊢
    rw [Str.join, this]
    · simp only [joinL]
      show tx x ++ tx sep ++ tx _ = _
      unfold tx
      rw [str_append, str_append]; simp
    · simp
theorem txt_join (sep : List Nat) (ts : List (List Nat)) : Txt.join (tx sep) (ts.map tx) = tx (joinL sep ts) := by
  unfold Txt.join
  rw [glued_eq_join, join_tx]
theorem joinL_length (sep : List Nat) : ∀ ts : List (List Nat), (ts.map List.length).sum + ts.length * sep.length ≤ (joinL sep ts).length + sep.length
  | [] => by simp
  | [x] => by simp [joinL]
  | x :: y :: r => by
    have := joinL_length sep (y :: r)
    simp only [joinL, List.map_cons, List.sum_cons, List.length_cons, List.length_append] at this ⊢
    have e : (r.length + 1 + 1) * sep.length = (r.length + 1) * sep.length + sep.length := Nat.succ_mul _ _
    omega
theorem join_ok {sep : List Nat} {ts : List (List Nat)} (h1 : small (joinL sep ts).length = true) (h2 : small sep.length = true) : JoinOk (tx sep) (ts.map tx) = true := by
  unfold JoinOk Builtin.Str.tooLong
  rw [joinTotal]
  have := joinL_length sep ts
  have e1 : ((ts.map tx).map (·.length)).sum = (ts.map List.length).sum := by
    rw [List.map_map]; congr 1
  have e2 : (tx sep).length = sep.length := by simp [tx, Str.length]
  rw [e1, e2, List.length_map]
  have s1 := small_le h1
  have s2 := small_le h2
  rw [sizeLine_eq]
  simp
  omega
theorem at_iff (s : List Nat) (i : Nat) : At (tx s) (tx [13, 10]) (tx s).length i ↔ s[i]? = some 13 ∧ s[i + 1]? = some 10 := by
  unfold At
  rw [subAt_eq]
  have e1 : (tx s).cps.toList = s := by simp [tx]
  have e2 : (tx [13, 10]).cps.toList = [13, 10] := by simp [tx]
  have e3 : (tx [13, 10]).length = 2 := by simp [tx, Str.length]
  have e4 : (tx s).length = s.length := by simp [tx, Str.length]
  rw [e1, e2, e3, e4]
  constructor
  · rintro ⟨h1, h2⟩
    have h2' : (s.drop i).take 2 = [13, 10] := eq_of_beq h2
    have a0 : ((s.drop i).take 2)[0]? = some 13 := by rw [h2']; rfl
    have a1 : ((s.drop i).take 2)[1]? = some 10 := by rw [h2']; rfl
    simp [List.getElem?_take, List.getElem?_drop] at a0 a1
    exact ⟨a0, a1⟩
  · rintro ⟨h1, h2⟩
    have l2 := (List.getElem?_eq_some_iff.mp h2).1
    refine ⟨by omega, ?_⟩
    have : (s.drop i).take 2 = [13, 10] := by
      rw [List.drop_eq_getElem_cons (by omega), List.take_succ_cons, List.drop_eq_getElem_cons (by omega), List.take_succ_cons]
      simp
      exact ⟨(List.getElem?_eq_some_iff.mp h1).2, (List.getElem?_eq_some_iff.mp h2).2⟩
    rw [this]; rfl
noncomputable def noCut (s : List Nat) : Prop := ∀ i : Nat, ¬ (s[i]? = some 13 ∧ s[i + 1]? = some 10)
theorem splitL_cons_ne {c : Nat} {r : List Nat} (h : ¬ (c = 13 ∧ r[0]? = some 10)) : splitL (c :: r) = consHead c (splitL r) := by
  cases r with
  | nil =>
    show cond (Nat.beq c 13) [[c]] (consHead c [[]]) = consHead c [[]]
    cases Nat.beq c 13 <;> rfl
  | cons d q =>
    show cond (Nat.beq c 13) (cond (Nat.beq d 10) ([] :: splitL q) (consHead c (splitL (d :: q)))) (consHead c (splitL (d :: q))) = consHead c (splitL (d :: q))
    cases h1 : Nat.beq c 13 with
    | false => rfl
    | true =>
      cases h2 : Nat.beq d 10 with
      | false => rfl
      | true => exact absurd ⟨Nat.eq_of_beq_eq_true h1, by rw [Nat.eq_of_beq_eq_true h2]; rfl⟩ h
theorem splitL_free : ∀ s, noCut s → splitL s = [s]
  | [], _ => rfl
  | c :: r, h => by
    have h0 : ¬ (c = 13 ∧ r[0]? = some 10) := fun e => h 0 ⟨by simp [e.1], by simpa using e.2⟩
    rw [splitL_cons_ne h0, splitL_free r fun i e => h (i + 1) ⟨by simpa using e.1, by simpa using e.2⟩]; rfl
theorem splitL_cut : ∀ (p r : List Nat), (∀ i, i < p.length → ¬ ((p ++ 13 :: 10 :: r)[i]? = some 13 ∧ (p ++ 13 :: 10 :: r)[i + 1]? = some 10)) → splitL (p ++ 13 :: 10 :: r) = p :: splitL r
  | [], r, _ => rfl
  | c :: q, r, h => by
    have h0 : ¬ (c = 13 ∧ (q ++ 13 :: 10 :: r)[0]? = some 10) := fun e => h 0 (by simp) ⟨by simp [e.1], by simpa using e.2⟩
    rw [List.cons_append, splitL_cons_ne h0, splitL_cut q r fun i hi e => h (i + 1) (by simpa using hi) ⟨by simpa using e.1, by simpa using e.2⟩]; rfl
theorem sub_tx (s : List Nat) (i j : Nat) : Builtin.Str.strSub (tx s) i j = tx ((s.drop i).take (j - i)) := by
  apply Str.ext'
  apply Array.toList_inj.mp
  rw [strSub_toList]; simp [tx]
theorem parts_split (s : List Nat) : ∀ (cuts : List Nat) (a f : Nat), ChainG (tx s) (tx [13, 10]) (tx s).length a cuts f → (∀ k, f ≤ k → ¬ At (tx s) (tx [13, 10]) (tx s).length k) → partsFrom (tx s) 2 a cuts = (splitL (s.drop a)).map tx
  | [], a, f, h, hn => by
    have e : f = a := h
    subst e
    have e4 : (tx s).length = s.length := by simp [tx, Str.length]
    rw [splitL_free]
    · simp only [partsFrom, sub_tx, List.map_cons, List.map_nil, e4]
      rw [List.take_of_length_le (by simp)]
    · intro i ⟨h1, h2⟩
      refine hn (f + i) (by omega) ((at_iff s _).mpr ⟨by simpa [List.getElem?_drop] using h1, ?_⟩)
      have : (s.drop f)[i + 1]? = s[f + i + 1]? := by rw [List.getElem?_drop]; congr 1
      rw [← this]; exact h2
  | c :: r, a, f, h, hn => by
    obtain ⟨hac, hat, hno, hr⟩ := h
    have ih := parts_split s r (c + 2) f hr hn
    obtain ⟨h1, h2⟩ := (at_iff s c).mp hat
    have l1 := (List.getElem?_eq_some_iff.mp h1)
    have l2 := (List.getElem?_eq_some_iff.mp h2)
    have e : s.drop a = (s.drop a).take (c - a) ++ 13 :: 10 :: s.drop (c + 2) := by
      have e1 : (s.drop a).drop (c - a) = s.drop c := by rw [List.drop_drop]; congr 1; omega
      conv => lhs; rw [← List.take_append_drop (c - a) (s.drop a)]
      rw [e1, List.drop_eq_getElem_cons l1.1, l1.2, List.drop_eq_getElem_cons l2.1, l2.2]
    rw [e, splitL_cut]
    · simp only [partsFrom, sub_tx, List.map_cons, ih]
    · intro i hi hh
      rw [← e] at hh
      have hlen : i < c - a := by simp at hi; omega
      refine hno (a + i) (by omega) (by omega) ((at_iff s _).mpr ⟨by simpa [List.getElem?_drop] using hh.1, ?_⟩)
      have : (s.drop a)[i + 1]? = s[a + i + 1]? := by rw [List.getElem?_drop]; congr 1
      rw [← this]; exact hh.2
theorem txt_split {s : List Nat} : Txt.split (tx s) (tx [13, 10]) = (splitL s).map tx := by
  have e3 : (tx [13, 10]).length = 2 := by simp [tx, Str.length]
  have e4 : (tx s).length = s.length := by simp [tx, Str.length]
  obtain ⟨f, hc, hn⟩ := occ_tight (tx s) (tx [13, 10]) (by rw [e3]; decide)
  have key := parts_split s _ 0 f hc hn
  have hk : Builtin.Str.strKind (tx [13, 10]) = 1 := by decide +kernel
  unfold Txt.split
  by_cases h1 : (decide ((tx s).length < (tx [13, 10]).length) || decide (Builtin.Str.strKind (tx s) < Builtin.Str.strKind (tx [13, 10]))) = true
  · rw [if_pos h1]
    rw [Bool.or_eq_true] at h1
    rcases h1 with h1 | h1
    · have h1 := of_decide_eq_true h1
      rw [e3, e4] at h1
      rw [splitL_free]
      · rfl
      · intro i ⟨_, h2⟩
        have := (List.getElem?_eq_some_iff.mp h2).1; omega
    · have h1 := of_decide_eq_true h1
      rw [hk] at h1
      unfold Builtin.Str.strKind at h1
      split at h1 <;> (try split at h1) <;> omega
  · rw [if_neg h1]
    by_cases h2 : (Builtin.Str.occurrences (tx s) (tx [13, 10]) 0 (tx s).length ((tx s).length + 1)).isEmpty = true
    · rw [if_pos h2]
      have h2' := List.isEmpty_iff.mp h2
      rw [h2'] at hc key
      simp only [partsFrom, sub_tx, e4, List.drop_zero, Nat.sub_zero] at key
      rw [← key]; simp
    · rw [if_neg h2, partsBetween_eq, e3, key]; simp
theorem txt_find {s : List Nat} {c : Nat} (h : s.contains c = true) : Txt.contains (tx s) ⟨#[c]⟩ = true ∧ Txt.find (tx s) ⟨#[c]⟩ = (s.idxOf c : Nat) := by
  have hm : c ∈ s := by simpa using h
  have e1 : (tx s).cps.toList = s := by simp [tx]
  have hc : Txt.contains (tx s) ⟨#[c]⟩ = true := by
    unfold Txt.contains
    rw [found_one, e1]; exact decide_eq_true hm
  refine ⟨hc, ?_⟩
  have atc : ∀ i, At (tx s) ⟨#[c]⟩ (tx s).length i ↔ s[i]? = some c := fun i => by
    have := subAt_one (tx s) c i
    rw [e1] at this
    exact this
  unfold Txt.find
  rcases occ_head_from (tx s) ⟨#[c]⟩ 0 1 (Nat.le_refl _) with ⟨e, hn⟩ | ⟨i, r, e, _, hat, hbefore⟩
  · obtain ⟨i, hi⟩ := List.getElem?_of_mem hm
    exact absurd ((atc i).mpr hi) (hn i (Nat.zero_le _))
  · rw [e]
    have hi := (atc i).mp hat
    have l := List.getElem?_eq_some_iff.mp hi
    have : s.idxOf c = i := by
      rw [List.idxOf, List.findIdx_eq l.1]
      refine ⟨by simp [l.2], fun j hj => ?_⟩
      have hjn := hbefore j (Nat.zero_le _) hj
      rw [atc] at hjn
      have hl : j < s.length := Nat.lt_trans hj l.1
      simp only [List.getElem?_eq_getElem hl, Option.some.injEq] at hjn
      simpa using hjn
    rw [this]
end Mine
end
section
set_option Elab.async false
set_option linter.all false
namespace Mine
open PySem PyProof.Rows PySem.W
noncomputable def Based (o : Expr) : Prop := ∀ (name : Str) (env : Env) (t : Sem Value), attributeBase o name env t = t
theorem keepsB (s : Shared) : KeptByPush (fun s' => ∃ h' tk, s' = { s with heap := h', toks := tk } ∧ (∀ a o, s.heap.get? a = some o → h'.get? a = some o) ∧ s.heap.objs.size ≤ h'.objs.size) := by
  rintro s' ob k ⟨h', tk, rfl, hk, hs⟩
  exact ⟨_, k, rfl, fun a o e => Heap.get?_push_of_some _ (hk a o e), Nat.le_trans hs (push_le _ _)⟩
section
variable {prog : Program} {w : World} {A : Around} {g : Gr} {sc : SC} {ξ : List AV} {env : Env} {mg mb : Str → Option Value}
theorem ev_sub {v i : Expr} {p : Pos} {H H1 H2 : Hp} {a b r : AV} (h1 : Ev prog w A g sc ξ env (eval v env) H a H1) (h2 : Ev prog w A g sc ξ env (eval i env) H1 b H2) (e : asub H2 a b = some r) (hi : Plain i) :
    Ev prog w A g sc ξ env (eval (.Subscript v i p) env) H r H2 := fun B φ s Q E R Er k =>
  Subscript_ (h1 B φ s _ _ R Er fun B1 φ1 va h1' tk1 G1 R1 V1 => h2 B1 φ1 _ _ _ R1 (Er.grow G1) fun B2 φ2 vb h2' tk2 G2 R2 V2 =>
    sub_sound (s := { s with heap := h2', toks := tk2 }) e (G2.vr V1) V2 R2 (fun val tk V => k B2 φ2 val h2' tk (G1.trans G2) R2 V) (hi.subs _ _))
noncomputable def Cut (a r : AV) (lo hi : Option Int) : Prop := (∃ x, a = .str x ∧ r = .str (cutL x lo hi) ∧ small x.length = true) ∨ (∃ xs, a = .lst xs ∧ r = .lst (cutL xs lo hi) ∧ small xs.length = true)
theorem slice_sound {a r : AV} {lo hi : Option Int} {B : FMap} {φ : List Addr} {H : Hp} {s : Shared} {Q : Value → Shared → Prop} {E : Value → Shared → Prop} (h0 : ∀ i, lo = some i → 0 ≤ i) (h1 : ∀ j, hi = some j → 0 ≤ j) {va vl vu : Value} (V : VR B φ a va) (R : Rel g B φ H s.heap)
    (hl : IsPart vl lo) (hu : IsPart vu hi) (hr : Cut a r lo hi)
    (T : Then g B φ H r Q s) {value slice : Expr} (hs : ∀ o i, subscripted slice false o i = operate [i, o] (getItem o i)) :
    wpAny (model prog w) A (subscriptTail value slice va (.ref s.heap.objs.size)) Q E { s with heap := s.heap.push { cls := .type "slice", data := .fields #[vl, vu, .none] } } := by
  have hpk := push_keeps s.heap { cls := .type "slice", data := .fields #[vl, vu, .none] }
  rcases hr with ⟨x, rfl, rfl, hz⟩ | ⟨xs, rfl, rfl, hz⟩
  · obtain ⟨t, rfl⟩ := vr_str V
    have hx : (tx x).length ≤ sizeLine := small_size hz
    have fin : ∀ (s' : Shared) (t' : Tok), (∃ h' tk, s' = { s with heap := h', toks := tk } ∧ (∀ a o, s.heap.get? a = some o → h'.get? a = some o) ∧ s.heap.objs.size ≤ h'.objs.size) → Q (.str (Txt.slice (tx x) lo hi) t') s' := by
      rintro s' t' ⟨h', tk, rfl, hk, hs'⟩
      refine T B _ h' tk (Grow.keeps hk) (R.keeps hk) ?_
      rw [txt_slice x lo hi h0 h1]
      exact is_str
    have start : ∃ h' tk, s = { s with heap := h', toks := tk } ∧ (∀ a o, s.heap.get? a = some o → h'.get? a = some o) ∧ s.heap.objs.size ≤ h'.objs.size := ⟨s.heap, s.toks, rfl, fun _ _ e => e, Nat.le_refl _⟩
    have item : ItemOn (model prog w) A E (.str (tx x) t) (.ref s.heap.objs.size) Q { s with heap := s.heap.push { cls := .type "slice", data := .fields #[vl, vu, .none] } } := by
      cases hl with
      | none => cases hu with
        | none => exact SBG.sliceItem_nn (keepsB s) start fin hx
        | int j uj => exact SBG.sliceItem_ns (keepsB s) start fin hx
      | int i ui => cases hu with
        | none => exact SBG.sliceItem_sn (keepsB s) start fin hx
        | int j uj => exact SBG.sliceItem_ss (keepsB s) start fin hx
    obtain ⟨T', id, hlk, hty, hw⟩ := item
    exact tail_any hty hlk hw (hs _ _)
  · obtain ⟨aa, vs, n, rfl, ea, ra⟩ := vr_lst V
    have ho := R.keep _ _ ea
    have hsl : (s.heap.push { cls := .type "slice", data := .fields #[vl, vu, .none] }).IsSliceOf s.heap.objs.size vl vu .none := ⟨_, Heap.get?_push_size _ rfl, rfl, rfl⟩
    have hl' : (s.heap.push { cls := .type "slice", data := .fields #[vl, vu, .none] }).IsList aa vs.toArray := isList_of (hpk _ _ ho)
    refine tail_any (Heap.IsList.typeIs (s := { s with heap := s.heap.push { cls := .type "slice", data := .fields #[vl, vu, .none] } }) hl') slot_list_getitem.lookup (wpAny_getItem_list_slice hl' hsl hl hu .none (by simp) ?_ (by rw [List.size_toArray, ra.length]; exact small_size hz)) (hs _ _)
    rw [slicePick_cut vs lo hi h0 h1]
    have rc : VRs B φ (cutL xs lo hi) (cutL vs lo hi) := by
      unfold cutL
      cases hi with
      | none => exact ra.drop _
      | some j => exact (ra.take _).drop _
    exact T.list R rc (n := 0) s.toks (fresh_none' (by rw [Heap.size_push]; exact Nat.le_succ _)) (fun a o e => Heap.get?_push_of_some _ (hpk a o e)) (Heap.get?_push_size _ rfl)
theorem aslc_eq {α : Type} {xs ys : List α} {i : Int} {j : Option Int} {lo : Option Int} (hlo : lo.getD 0 = i) (h : aslc xs i j = some ys) : ys = cutL xs lo j ∧ small xs.length = true ∧ 0 ≤ i ∧ ∀ k, j = some k → 0 ≤ k := by
  unfold aslc at h
  by_cases h0 : 0 ≤ i ∧ small xs.length = true
  · rw [if_pos h0] at h
    cases j with
    | none => cases h; exact ⟨by unfold cutL; rw [hlo], h0.2, h0.1, fun k e => nomatch e⟩
    | some k =>
      by_cases h1 : 0 ≤ k
      · simp only [if_pos h1] at h
        cases h
        exact ⟨by unfold cutL; rw [hlo], h0.2, h0.1, fun k' e => by cases e; exact h1⟩
      · simp only [if_neg h1] at h; cases h
  · rw [if_neg h0] at h; cases h
theorem slc_eq {a r : AV} {i : Int} {j : Option Int} (e : aslice a i j = some r) (lo : Option Int) (hlo : lo.getD 0 = i) : Cut a r lo j ∧ 0 ≤ i ∧ ∀ k, j = some k → 0 ≤ k := by
  rcases orE_or e with e | e
  · obtain ⟨x, ex, e⟩ := bind_inv e
    obtain ⟨ys, e1, rfl⟩ := map_inv e
    obtain ⟨h1, h2, h3⟩ := aslc_eq hlo e1
    exact ⟨.inl ⟨x, str_inv ex, by rw [h1], h2⟩, h3⟩
  · obtain ⟨x, ex, e⟩ := bind_inv e
    obtain ⟨ys, e1, rfl⟩ := map_inv e
    obtain ⟨h1, h2, h3⟩ := aslc_eq hlo e1
    exact ⟨.inr ⟨x, lst_inv ex, by rw [h1], h2⟩, h3⟩
theorem ev_slc {v lo hi : Expr} {ps p : Pos} {H H1 H2 H3 : Hp} {a r : AV} {i j : Int} (h1 : Ev prog w A g sc ξ env (eval v env) H a H1) (h2 : Ev prog w A g sc ξ env (eval lo env) H1 (.int i) H2) (h3 : Ev prog w A g sc ξ env (eval hi env) H2 (.int j) H3) (e : aslice a i (some j) = some r) :
    Ev prog w A g sc ξ env (eval (.Subscript v (.Slice (some lo) (some hi) none ps) p) env) H r H3 := fun B φ s Q E R Er k => by
  obtain ⟨q1, q2, q3⟩ := slc_eq e (some i) rfl
  refine Subscript_ (h1 B φ s _ _ R Er fun B1 φ1 va h1' tk1 G1 R1 V1 => wpAny_Slice (wpAny_evalPart_some (h2 B1 φ1 _ _ _ R1 (Er.grow G1) fun B2 φ2 vb h2' tk2 G2 R2 V2 => wpAny_evalPart_some (h3 B2 φ2 _ _ _ R2 ((Er.grow G1).grow G2) fun B3 φ3 vc h3' tk3 G3 R3 V3 => wpAny_evalPart_none ?_))))
  obtain ⟨t2, rfl⟩ := vr_int V2
  obtain ⟨t3, rfl⟩ := vr_int V3
  exact slice_sound (s := { s with heap := h3', toks := tk3 }) (lo := some i) (hi := some j) (by intro i' ei; cases ei; exact q2) q3 (G3.vr (G2.vr V1)) R3 (.int i t2) (.int j t3) q1 (fun B' val h' tk G R V => k _ _ _ _ _ (G1.trans (G2.trans (G3.trans G))) R V) (by intro _ _; rfl)
theorem ev_slcTo {v hi : Expr} {ps p : Pos} {H H1 H2 : Hp} {a r : AV} {j : Int} (h1 : Ev prog w A g sc ξ env (eval v env) H a H1) (h3 : Ev prog w A g sc ξ env (eval hi env) H1 (.int j) H2) (e : aslice a 0 (some j) = some r) :
    Ev prog w A g sc ξ env (eval (.Subscript v (.Slice none (some hi) none ps) p) env) H r H2 := fun B φ s Q E R Er k => by
  obtain ⟨q1, q2, q3⟩ := slc_eq e none rfl
  refine Subscript_ (h1 B φ s _ _ R Er fun B1 φ1 va h1' tk1 G1 R1 V1 => wpAny_Slice (wpAny_evalPart_none (wpAny_evalPart_some (h3 B1 φ1 _ _ _ R1 (Er.grow G1) fun B3 φ3 vc h3' tk3 G3 R3 V3 => wpAny_evalPart_none ?_))))
  obtain ⟨t3, rfl⟩ := vr_int V3
  exact slice_sound (s := { s with heap := h3', toks := tk3 }) (lo := none) (hi := some j) (by intro i' ei; cases ei) q3 (G3.vr V1) R3 .none (.int j t3) q1 (fun B' val h' tk G R V => k _ _ _ _ _ (G1.trans (G3.trans G)) R V) (by intro _ _; rfl)
theorem ev_slcFrom {v lo : Expr} {ps p : Pos} {H H1 H2 : Hp} {a r : AV} {i : Int} (h1 : Ev prog w A g sc ξ env (eval v env) H a H1) (h2 : Ev prog w A g sc ξ env (eval lo env) H1 (.int i) H2) (e : aslice a i none = some r) :
    Ev prog w A g sc ξ env (eval (.Subscript v (.Slice (some lo) none none ps) p) env) H r H2 := fun B φ s Q E R Er k => by
  obtain ⟨q1, q2, q3⟩ := slc_eq e (some i) rfl
  refine Subscript_ (h1 B φ s _ _ R Er fun B1 φ1 va h1' tk1 G1 R1 V1 => wpAny_Slice (wpAny_evalPart_some (h2 B1 φ1 _ _ _ R1 (Er.grow G1) fun B2 φ2 vb h2' tk2 G2 R2 V2 => wpAny_evalPart_none (wpAny_evalPart_none ?_))))
  obtain ⟨t2, rfl⟩ := vr_int V2
  exact slice_sound (s := { s with heap := h2', toks := tk2 }) (lo := some i) (hi := none) (by intro i' ei; cases ei; exact q2) q3 (G2.vr V1) R2 (.int i t2) .none q1 (fun B' val h' tk G R V => k _ _ _ _ _ (G1.trans (G2.trans G)) R V) (by intro _ _; rfl)
end
end Mine
end
section
set_option Elab.async false
set_option linter.all false
namespace Mine
open PySem PyProof.Rows PySem.W
theorem bestBy_snoc {α : Type} (lt : α → α → Bool) : ∀ (r : List α) (v x : α), bestBy lt v (r ++ [x]) = if lt x (bestBy lt v r) then x else bestBy lt v r
  | [], v, x => rfl
  | y :: r, v, x => by simp only [List.cons_append, bestBy]; exact bestBy_snoc lt r _ x
theorem argBest_best {α : Type} (lt : α → α → Bool) (x : α) (r : List α) (bt : Nat → Nat → Bool) (hbt : ∀ i j a b, (x :: r)[i]? = some a → (x :: r)[j]? = some b → bt i j = lt a b) :
    ∀ k, k ≤ r.length → (x :: r)[argBest bt k]? = some (bestBy lt x (r.take k))
  | 0, _ => by simp [argBest, bestBy]
  | k + 1, hk => by
    have ih := argBest_best lt x r bt hbt k (by omega)
    have hk' : k < r.length := by omega
    have e1 : (x :: r)[k + 1]? = some r[k] := by simp [hk']
    have e2 : r.take (k + 1) = r.take k ++ [r[k]] := by rw [List.take_add_one, List.getElem?_eq_getElem hk']; rfl
    have e3 := hbt _ _ _ _ e1 ih
    rw [e2, bestBy_snoc]
    unfold argBest
    rw [e3]
    split
    · exact e1
    · exact ih
section
variable {prog : Program} {w : World} {A : Around} {g : Gr} {sc : SC} {ξ : List AV} {env : Env} {mg mb : Str → Option Value} {B : FMap} {φ : List Addr} {H : Hp} {s : Shared} {Q : Value → Shared → Prop} {E : Value → Shared → Prop}
theorem strsAre_length {vs : List Value} {bs : List Str} (h : StrsAre vs bs) : vs.length = bs.length := by
  induction h with
  | nil => rfl
  | cons x t _ ih => exact congrArg (· + 1) ih
noncomputable def BestOk (prog : Program) (w : World) (A : Around) (op : CmpOp) (B : FMap) (φ : List Addr) (vals : List Value) (r : AV) : Prop :=
  0 < vals.length ∧ ∃ bt, CmpOf prog w A op (fun i v => vals.toArray[i]? = some v) bt ∧ ∀ v, vals.toArray[argBest bt (vals.length - 1)]? = some v → VR B φ r v
theorem best_gen {α : Type} (R : α → Value → Prop) (lt : α → α → Bool) {op : CmpOp} {n : α} {ns : List α} {vals : List Value} {r : AV} (hl : vals.length = (n :: ns).length) (get : ∀ {i : Nat} {v : Value}, vals[i]? = some v → ∃ a, (n :: ns)[i]? = some a ∧ R a v)
    (hc : ∀ (a b : α) (va vb : Value) (s : Shared) (Q : Value → Shared → Prop) (E : Value → Shared → Prop), R a va → R b vb → Q (.bool (lt a b)) s → wpAny (model prog w) A (richCompare op va vb) Q E s) (out : ∀ v, R (bestBy lt n ns) v → VR B φ r v) : BestOk prog w A op B φ vals r := by
  let bt : Nat → Nat → Bool := fun i j => match (n :: ns)[i]?, (n :: ns)[j]? with | some a, some b => lt a b | _, _ => false
  have hbt : ∀ i j a b, (n :: ns)[i]? = some a → (n :: ns)[j]? = some b → bt i j = lt a b := fun i j a b e1 e2 => by simp only [bt, e1, e2]
  refine ⟨by rw [hl]; exact Nat.succ_pos _, bt, fun i j vi vj s Q E hi hj hQ => ?_, fun v hv => ?_⟩
  · obtain ⟨a, ea, ra⟩ := get (i := i) (v := vi) (by rw [← List.getElem?_toArray]; exact hi)
    obtain ⟨b, eb, rb⟩ := get (i := j) (v := vj) (by rw [← List.getElem?_toArray]; exact hj)
    rw [hbt i j a b ea eb] at hQ
    exact hc a b vi vj s Q E ra rb hQ
  · have key := argBest_best lt n ns bt hbt ns.length (Nat.le_refl _)
    rw [List.take_length] at key
    rw [List.getElem?_toArray] at hv
    obtain ⟨a, ea, ra⟩ := get hv
    rw [hl, List.length_cons, Nat.add_sub_cancel] at ea
    rw [key] at ea; cases ea
    exact out v ra
theorem best_all {α : Type} {f : AV → Option α} (R : α → Value → Prop) (lt : α → α → Bool) {op : CmpOp} {xs : List AV} {l : List α} {vals : List Value} {u : α} {r : AV} (V : VRs B φ xs vals) (el : asAll f xs = some l) (eu : bestL lt l = some u) (hR : ∀ {x a v}, f x = some a → VR B φ x v → R a v)
    (hc : ∀ (a b : α) (va vb : Value) (s : Shared) (Q : Value → Shared → Prop) (E : Value → Shared → Prop), R a va → R b vb → Q (.bool (lt a b)) s → wpAny (model prog w) A (richCompare op va vb) Q E s) (out : ∀ v, R u v → VR B φ r v) : BestOk prog w A op B φ vals r := by
  obtain ⟨n, ns, rfl, rfl⟩ := bestL_inv eu
  refine best_gen R lt (V.length.trans (asAll_len el).symm) (fun hv => ?_) hc out
  obtain ⟨x, ex, rx⟩ := V.get' hv
  obtain ⟨a, ea, fa⟩ := asAll_get el ex
  exact ⟨a, ea, hR fa rx⟩
theorem best_end (max : Bool) {xs : List AV} {vals : List Value} {r : AV} (V : VRs B φ xs vals) (e : abest max xs = some r) : BestOk prog w A (if max then .Gt else .Lt) B φ vals r := by
  rcases orE_or e with e | e
  · obtain ⟨l, el, e⟩ := bind_inv e
    obtain ⟨u, eu, rfl⟩ := map_inv e
    refine best_all (fun a v => VR B φ (.int a) v) (intLt max) V el eu (fun ex rx => by cases int_inv ex; exact rx) (fun a b va vb s Q E ha hb hQ => ?_) fun v h => h
    obtain ⟨t, rfl⟩ := vr_int ha
    obtain ⟨u, rfl⟩ := vr_int hb
    cases max with
    | true => exact gt_int (A := A) (a := a) (b := b) (t := t) (u := u) hQ
    | false => exact lt_int (A := A) (a := a) (b := b) (t := t) (u := u) hQ
  rcases orE_or e with e | e
  · obtain ⟨l, el, e⟩ := bind_inv e
    obtain ⟨u, eu, rfl⟩ := map_inv e
    refine best_all (fun a v => VR B φ (.flt a) v) (fltLt max) V el eu (fun ex rx => by cases flt_inv ex; exact rx) (fun a b va vb s Q E ha hb hQ => ?_) fun v h => h
    obtain ⟨t, rfl⟩ := vr_flt ha
    obtain ⟨u, rfl⟩ := vr_flt hb
    cases max with
    | true => exact AutoFloatOps.gt_0 (A := A) (a := a) (b := b) (t := t) (u := u) hQ
    | false => exact AutoFloatOps.lt_0 (A := A) (a := a) (b := b) (t := t) (u := u) hQ
  · obtain ⟨hm, e⟩ := gd_inv e
    obtain ⟨l, el, e⟩ := bind_inv e
    obtain ⟨u, eu, rfl⟩ := map_inv e
    cases max with
    | true => cases hm
    | false =>
      refine best_all (fun a v => VR B φ (.str a) v) strLt V el eu (fun ex rx => by cases str_inv ex; exact rx) (fun a b va vb s Q E ha hb hQ => ?_) fun v h => h
      obtain ⟨t, rfl⟩ := vr_str ha
      obtain ⟨u, rfl⟩ := vr_str hb
      refine lt_str (A := A) (x := tx a) (y := tx b) (t := t) (u := u) ?_
      have h2 : ∀ (i1 i2 : Decidable (a < b)) , Q (.bool (@decide (a < b) i1)) s → Q (.bool (@decide (a < b) i2)) s := fun i1 i2 h => by rw [Subsingleton.elim i2 i1]; exact h
      exact h2 _ _ hQ
theorem args_min4 (a b c d : Value) : argsOk "min" ⟨[a, b, c, d], []⟩ := by unfold argsOk; kernel_rfl
theorem call_min_four {a b c d : Value}
    (h : wpAny (model prog w) A.in1 (pyIter (.ref s.heap.objs.size)) (fun it s₂ => ∃ I fp wr n P St bt, it = .ref I ∧ Walks prog w A.in1 I fp wr n P St ∧ St 0 s₂.heap ∧ (∀ b ∈ fp, b < s₂.heap.objs.size) ∧ 0 < n ∧ CmpOf prog w A.in1 .Lt P bt ∧
      ∀ v h' tk, P (argBest bt (n - 1)) v → (∀ b o, b ∉ wr → s₂.heap.get? b = some o → h'.get? b = some o) → Q v { s₂ with heap := h', toks := tk }) E
      { s with heap := s.heap.push { cls := .type "tuple", data := .seq #[a, b, c, d] } }) :
    wpAny (model prog w) A (call (.builtin "min") [a, b, c, d]) Q E s := by
  have hname : (toString "min" ++ toString ".loop" : String) = "min.loop" := by decide
  refine call_function_tree F.kind_min F.plain_min F.entry_min (args_min4 _ _ _ _) ?_
  show wpAny _ A.in1 (Builtin.Builtins.bindParams "min" ["key", "default"] 0 ⟨[], []⟩ >>= _) _ _ s
  refine wpAny_bind (wpAny_of_eq (show Builtin.Builtins.bindParams "min" ["key", "default"] 0 ⟨[], []⟩ = pure [none, none] from rfl) ?_)
  show wpAny _ A.in1 (newTuple [a, b, c, d] >>= _) _ _ s
  refine wpAny_bind (wpAny_newObj_type ?_)
  refine wpAny_bind (wpAny_mono h (fun it s₂ h₂ => ?_) fun _ _ e => e)
  obtain ⟨I, fp, wr, n, P, St, bt, rfl, W, hst, hfp, hn, hcmp, hQ⟩ := h₂
  refine wpAny_bind (wpAny_newObj_type ?_)
  have hSf : s₂.heap.objs.size ∉ fp := fun hm => Nat.lt_irrefl _ (hfp _ hm)
  rw [hname]
  refine wpAny_pure ⟨plainId_quiet F.plain_min_loop _, codeAny_min_loop_first W bt hcmp s₂.heap.objs.size hSf hn (W.frame _ _ _ hst fun b _ o e => Heap.get?_push_of_some _ e) (Heap.get?_push_size _ rfl) fun v h' tk hP hk => ?_⟩
  exact hQ v h' tk hP fun b o hbw e => hk b o hbw (Nat.ne_of_lt (Heap.lt_size e)) (Heap.get?_push_of_some _ e)
theorem mm_tuple (hA : Fine A) (max : Bool) {xs : List AV} {vals : List Value} {r : AV} (V : VRs B φ xs vals) (e : abest max xs = some r) (R : Rel g B φ H s.heap) (T : Then g B φ H r Q s) :
    wpAny (model prog w) A.in1 (pyIter (.ref s.heap.objs.size)) (fun it s₂ => ∃ I fp wr n P St bt, it = .ref I ∧ Walks prog w A.in1 I fp wr n P St ∧ St 0 s₂.heap ∧ (∀ b ∈ fp, b < s₂.heap.objs.size) ∧ 0 < n ∧ CmpOf prog w A.in1 (if max then .Gt else .Lt) P bt ∧
      ∀ v h' tk, P (argBest bt (n - 1)) v → (∀ b o, b ∉ wr → s₂.heap.get? b = some o → h'.get? b = some o) → Q v { s₂ with heap := h', toks := tk }) E
      { s with heap := s.heap.push { cls := .type "tuple", data := .seq vals.toArray } } := by
  obtain ⟨hn, bt, hcmp, hbest⟩ := best_end (prog := prog) (w := w) (A := A.in1) max V e
  have hT : (s.heap.push { cls := .type "tuple", data := .seq vals.toArray }).IsTuple s.heap.objs.size vals.toArray := ⟨_, Heap.get?_push_size _ rfl, rfl, 0, rfl⟩
  have hsz : (s.heap.push { cls := .type "tuple", data := .seq vals.toArray }).objs.size = s.heap.objs.size + 1 := Heap.size_push ..
  refine wpAny_pyIter_tuple hT ?_
  refine ⟨_, [_, s.heap.objs.size], [_], _, _, _, bt, rfl, Walks.tuple (A := A.in1) hA.1 _ s.heap.objs.size (by rw [hsz]; exact Nat.ne_of_lt (Nat.lt_succ_self _)) vals.toArray, ⟨⟨_, Heap.get?_push_size _ rfl, rfl, rfl⟩, hT.push _⟩, fun d hd => ?_, by simpa using hn, hcmp, fun v h' tk hP hk => ?_⟩
  · show d < ((s.heap.push _).push _).objs.size
    rw [Heap.size_push, hsz]
    rcases List.mem_cons.mp hd with rfl | hd
    · rw [hsz]; exact Nat.lt_succ_self _
    · rcases List.mem_cons.mp hd with rfl | hd
      · exact Nat.lt_succ_of_lt (Nat.lt_succ_self _)
      · cases hd
  · have hold : ∀ d o, s.heap.get? d = some o → h'.get? d = some o := fun d o e => by
      refine hk d o (fun hm => ?_) (Heap.get?_push_of_some _ (Heap.get?_push_of_some _ e))
      rcases List.mem_cons.mp hm with e1 | hm
      · have := Heap.lt_size e; rw [e1, hsz] at this; exact Nat.lt_irrefl _ (Nat.lt_of_succ_lt this)
      · cases hm
    exact T B v h' tk (Grow.keeps hold) (R.keeps hold) (hbest v (by simpa using hP))
theorem mm_list (hA : Fine A) {xs : List AV} {vals : List Value} {r : AV} {l : Addr} {n : Nat} (V : VRs B φ xs vals) (e : abest false xs = some r) (ho : s.heap.get? l = some (lstObj vals n)) (R : Rel g B φ H s.heap) (T : Then g B φ H r Q s) :
    wpAny (model prog w) A (call (.builtin "min") [.ref l]) Q E s := by
  obtain ⟨hn, bt, hcmp, hbest⟩ := best_end (prog := prog) (w := w) (A := A.in1) false V e
  have hl := isList_of ho
  have hne : l ≠ s.heap.objs.size := Nat.ne_of_lt (Heap.lt_size ho)
  refine call_min_walk (wpAny_pyIter_list hl ?_)
  refine ⟨_, [_, l], [_], _, _, _, bt, rfl, Walks.list (A := A.in1) hA.1 s.heap.objs.size l hne vals.toArray, ⟨⟨_, Heap.get?_push_size _ rfl, rfl, rfl⟩, hl.at fun o e => Heap.get?_push_of_some _ e⟩, fun d hd => ?_, by simpa using hn, hcmp, fun v h' tk hP hk => ?_⟩
  · show d < (s.heap.push _).objs.size
    rw [Heap.size_push]
    rcases List.mem_cons.mp hd with rfl | hd
    · exact Nat.lt_succ_self _
    · rcases List.mem_cons.mp hd with rfl | hd
      · exact Nat.lt_succ_of_lt (Heap.lt_size ho)
      · cases hd
  · have hold : ∀ d o, s.heap.get? d = some o → h'.get? d = some o := fun d o e => by
      refine hk d o (fun hm => ?_) (Heap.get?_push_of_some _ e)
      rcases List.mem_cons.mp hm with e1 | hm
      · have := Heap.lt_size e; rw [e1] at this; exact Nat.lt_irrefl _ this
      · cases hm
    exact T B v h' tk (Grow.keeps hold) (R.keeps hold) (hbest v (by simpa using hP))
end
end Mine
end
section
set_option Elab.async false
set_option linter.all false
namespace Mine
open PySem PyProof.Rows PySem.W
theorem digits_str (n : Int) : Str.ofString (toString n) = ⟨(digits n).toArray⟩ := by
  rw [Str.ofString_eq_toList]; rfl
section
variable {prog : Program} {w : World} {A : Around} {g : Gr} {sc : SC} {ξ : List AV} {env : Env} {mg mb : Str → Option Value}
theorem ev_len (T : TopOk g.hb mg mb) {e : Expr} {pn p : Pos} {H H1 : Hp} {a : AV} {n : Int} (he : PlainL [e]) (hx : sc.names.lookup (Str.ofString "len") = some .globalImplicit) (h1 : Ev prog w A g sc ξ env (eval e env) H a H1) (en : alen H1 a = some n) (hn : Nat.ble n.natAbs 100000 = true) :
    Ev prog w A g sc ξ env (eval (.Call (.Name "len" pn) [e] [] p) env) H (.int n) H1 := fun B φ s Q E R Er k => by
  refine Call_name1 (he env) (name_builtin T R Er hx T.len_ ?_)
  refine PySem.callWith_builtin1 (h1 B φ s _ _ R Er fun B1 φ1 va h1' tk1 G1 R1 V1 => ?_)
  have hn' : ∀ m : Nat, n = (m : Int) → (m : Int) < 2 ^ 63 := fun m e => by
    have := Nat.le_of_ble_eq_true hn
    rw [e, Int.natAbs_natCast] at this
    exact Int.lt_of_le_of_lt (Int.ofNat_le.mpr this) (by decide)
  rcases orE_or en with en | en
  · obtain ⟨x, ex, rfl⟩ := map_inv en
    cases str_inv ex
    obtain ⟨t, rfl⟩ := vr_str V1
    exact len_str (Int.not_le.mpr (hn' _ rfl)) (k _ _ _ _ _ G1 R1 is_int)
  · obtain ⟨xs, ex, rfl⟩ := map_inv en
    obtain ⟨l, vs, m, rfl, ho, rv⟩ := items_sound (s := { s with heap := h1', toks := tk1 }) ex V1 R1
    have hsz : vs.toArray.size = xs.length := rv.length
    rcases ho with ho | ho
    · refine len_list (isList_of ho) (by rw [hsz]; first | exact hn' _ rfl | exact Int.not_le.mpr (hn' _ rfl)) ?_
      rw [hsz]; exact k _ _ _ _ _ G1 R1 is_int
    · refine PySem.P.len_tuple ho (by rw [hsz]; first | exact hn' _ rfl | exact Int.not_le.mpr (hn' _ rfl)) ?_
      rw [hsz]; exact k _ _ _ _ _ G1 R1 is_int
theorem ev_toInt (T : TopOk g.hb mg mb) {e : Expr} {pn p : Pos} {H H1 : Hp} {b : UInt64} {n : Int} (he : PlainL [e]) (hx : sc.names.lookup (Str.ofString "int") = some .globalImplicit) (h1 : Ev prog w A g sc ξ env (eval e env) H (.flt b) H1) (en : aint b = some n) :
    Ev prog w A g sc ξ env (eval (.Call (.Name "int" pn) [e] [] p) env) H (.int n) H1 := fun B φ s Q E R Er k => by
  refine Call_name1 (he env) (name_builtin T R Er hx T.int_ ?_)
  refine PySem.callWith_type1 (h1 B φ s _ _ R Er fun B1 φ1 va h1' tk1 G1 R1 V1 => ?_)
  obtain ⟨t, rfl⟩ := vr_flt V1
  unfold aint at en
  split at en
  · rename_i sg m ex hd
    cases en
    exact call_int_float hd (k _ _ _ _ _ G1 R1 is_int)
  · cases en
theorem ev_toStr (T : TopOk g.hb mg mb) {e : Expr} {pn p : Pos} {H H1 : Hp} {n : Int} (he : PlainL [e]) (hx : sc.names.lookup (Str.ofString "str") = some .globalImplicit) (h1 : Ev prog w A g sc ξ env (eval e env) H (.int n) H1) (hn : Nat.ble n.natAbs 1000000000 = true) :
    Ev prog w A g sc ξ env (eval (.Call (.Name "str" pn) [e] [] p) env) H (.str (digits n)) H1 := fun B φ s Q E R Er k => by
  refine Call_name1 (he env) (name_builtin T R Er hx T.str_ ?_)
  refine PySem.callWith_type1 (h1 B φ s _ _ R Er fun B1 φ1 va h1' tk1 G1 R1 V1 => ?_)
  obtain ⟨t, rfl⟩ := vr_int V1
  have hn' := Nat.le_of_ble_eq_true hn
  refine PySem.P.str_of_int ?_ (k _ _ _ _ _ G1 R1 ?_)
  · by_cases h0 : n.natAbs = 0
    · rw [h0]; decide
    · have : n.natAbs.log2 < 30 := (Nat.log2_lt h0).mpr (Nat.lt_of_le_of_lt hn' (by decide))
      clear h1 k R Er R1 V1 G1 hn hn' T
      omega
  · rw [digits_str]; exact is_str
noncomputable def mmName (b : Bool) : String := if b then "max" else "min"
theorem call_mm (T : TopOk g.hb mg mb) {b : Bool} {e0 : Expr} {er : List Expr} {pn p : Pos} {H H1 : Hp} {vs : List AV} {r : AV} (hp : PlainL (e0 :: er)) (hpr : PlainL er) (hx : sc.names.lookup (Str.ofString (mmName b)) = some .globalImplicit) (h1 : EvL prog w A g sc ξ env (spliced ((e0 :: er).map fun e => (false, eval e env))) H vs H1)
    (hc : ∀ (B1 : FMap) (φ1 : List Addr) (s : Shared) (Q : Value → Shared → Prop) (E : Value → Shared → Prop) (vals : List Value), Rel g B1 φ1 H1 s.heap → VRs B1 φ1 vs vals → Then g B1 φ1 H1 r Q s → wpAny (model prog w) A (call (.builtin (mmName b)) vals) Q E s) :
    Ev prog w A g sc ξ env (eval (.Call (.Name (Str.ofString (mmName b)) pn) (e0 :: er) [] p) env) H r H1 := fun B φ s Q E R Er k => by
  have hm : mg (Str.ofString (mmName b)) = none ∧ mb (Str.ofString (mmName b)) = some (.builtin (mmName b)) := by
    cases b
    · exact T.min_
    · exact T.max_
  refine PySem.wpAny_Call_ofName (name_builtin T R Er hx hm ?_ (by cases b <;> decide))
  show wpAny _ _ (callWith p (.builtin _) [] (backTo p (starEach (e0 :: er) env)) []) _ _ _
  refine PyProof.Rows.callWith_builtin1 ?_ (by rw [hp, hpr]; rfl) ?_
  · rw [hp.back]
    exact h1 B φ s _ _ R Er fun B1 φ1 vals h1' tk1 G1 R1 V1 => hc B1 φ1 { s with heap := h1', toks := tk1 } _ _ vals R1 V1 fun B' val h' tk G R V => k _ _ _ _ _ (G1.trans G) R V
  · rw [hpr.back]; simp
theorem ev_mm (hA : Fine A) (T : TopOk g.hb mg mb) {b : Bool} {e0 : Expr} {er : List Expr} {pn p : Pos} {H H1 : Hp} {vs : List AV} {r : AV} (hp : PlainL (e0 :: er)) (hpr : PlainL er) (hx : sc.names.lookup (Str.ofString (mmName b)) = some .globalImplicit) (h1 : EvL prog w A g sc ξ env (spliced ((e0 :: er).map fun e => (false, eval e env))) H vs H1)
    (er' : amm b vs = some r) : Ev prog w A g sc ξ env (eval (.Call (.Name (Str.ofString (mmName b)) pn) (e0 :: er) [] p) env) H r H1 :=
  call_mm T hp hpr hx h1 fun B1 φ1 s Q E vals R1 V1 TT => by
    obtain ⟨hl, eb⟩ := gd_inv er'
    rw [Bool.and_eq_true] at hl
    have h2 := Nat.le_of_ble_eq_true hl.1
    have h4 := Nat.le_of_ble_eq_true hl.2
    rw [← V1.length] at h2 h4
    match vals, h2, h4 with
    | [x1, x2], _, _ =>
      cases b
      · exact call_min_two (mm_tuple (vals := [x1, x2]) hA false V1 eb R1 TT)
      · exact call_max_two (mm_tuple (vals := [x1, x2]) hA true V1 eb R1 TT)
    | [x1, x2, x3], _, _ =>
      cases b
      · exact call_min_three (mm_tuple (vals := [x1, x2, x3]) hA false V1 eb R1 TT)
      · exact call_max_three (mm_tuple (vals := [x1, x2, x3]) hA true V1 eb R1 TT)
    | [x1, x2, x3, x4], _, h4 =>
      cases b
      · exact call_min_four (mm_tuple (vals := [x1, x2, x3, x4]) hA false V1 eb R1 TT)
      · exact absurd (show 4 ≤ 3 from h4) (by decide)
    | [], h2, _ => exact absurd (show 2 ≤ 0 from h2) (by decide)
    | [x1], h2, _ => exact absurd (show 2 ≤ 1 from h2) (by decide)
    | x1 :: x2 :: x3 :: x4 :: x5 :: rest, _, h4 =>
      exact absurd (Nat.le_trans h4 (show cond b 3 4 ≤ 4 by cases b <;> decide)) (by simp)
theorem ev_min1 (hA : Fine A) (T : TopOk g.hb mg mb) {e0 : Expr} {pn p : Pos} {H H1 : Hp} {v r : AV} {xs : List AV} (hp : PlainL [e0]) (hx : sc.names.lookup (Str.ofString (mmName false)) = some .globalImplicit) (h1 : Ev prog w A g sc ξ env (eval e0 env) H v H1)
    (el : lists? H1 v = some xs) (eb : abest false xs = some r) : Ev prog w A g sc ξ env (eval (.Call (.Name (Str.ofString (mmName false)) pn) [e0] [] p) env) H r H1 :=
  call_mm T hp PlainL.nil hx (evl_cons h1 evl_nil) fun B1 φ1 s Q E vals R1 V1 TT => by
    simp only [VRs] at V1
    obtain ⟨va, vs', rfl, Va, rfl⟩ := V1
    obtain ⟨l, ws, n, rfl, ho, rv⟩ := lists_sound (s := s) el Va R1
    exact mm_list hA rv eb ho R1 TT
theorem method_few {args : List Expr} (hp : PlainL args) (env : Env) (pos : Pos) (hn : args.length < 5) : ((backTo pos (starEach args env)).all (fun x => !x.1) && (backToKw pos (keywordEach [] env)).all (fun x => x.1.isSome)
      && decide (args.length + ([] : List Keyword).length + (if ([] : List Keyword).isEmpty then 0 else 1) < 30)) = true := by
  rw [hp.back]
  rw [Bool.and_eq_true, Bool.and_eq_true]
  refine ⟨⟨?_, rfl⟩, decide_eq_true (Nat.lt_of_lt_of_le hn (by decide))⟩
  rw [List.all_map]
  exact List.all_eq_true.mpr fun _ _ => rfl
theorem ev_method {o : Expr} {name : Str} {args : List Expr} {pa p : Pos} {H H1 H2 : Hp} {a v : AV} (hp : PlainL args) (hb : Based o) (hl : (pa.endLine == p.line) = true) (hn : args.length < 5) (h1 : Ev prog w A g sc ξ env (eval o env) H a H1)
    (hm : ∀ (B : FMap) (φ : List Addr) (s : Shared) (Q : Value → Shared → Prop) (E : Value → Shared → Prop) (va : Value), Rel g B φ H1 s.heap → EnvR sc B φ ξ env s.heap → VR B φ a va →
      (∀ B' φ' val h' tk, Grow φ B s.heap φ' B' h' → Rel g B' φ' H2 h' → VR B' φ' v val → Q val { s with heap := h', toks := tk }) → MethodOnS prog w A E name va p (args.map fun e => (false, eval e env)) Q s) :
    Ev prog w A g sc ξ env (eval (.Call (.Attribute o name pa) args [] p) env) H v H2 := fun B φ s Q E R Er k => by
  refine wpAny_Call_method_lateS (hb _ _ _) (method_few hp env p hn) hl (h1 B φ s _ _ R Er fun B1 φ1 va h1' tk1 G1 R1 V1 => ?_)
  rw [hp.back]
  exact hm B1 φ1 _ _ _ va R1 (Er.grow G1) V1 fun B2 φ2 val h2' tk2 G2 R2 V2 => k _ _ _ _ _ (G1.trans G2) R2 V2
theorem ev_upper {o : Expr} {pa p : Pos} {H H1 : Hp} {x : List Nat} (hb : Based o) (hl : (pa.endLine == p.line) = true) (h1 : Ev prog w A g sc ξ env (eval o env) H (.str x) H1) (ha : ascii x = true) (hs : small x.length = true) :
    Ev prog w A g sc ξ env (eval (.Call (.Attribute o SM.upper.name pa) [] [] p) env) H (.str (x.map upC)) H1 :=
  ev_method PlainL.nil hb hl (by decide : 0 < 5) h1 fun B φ s Q E va R Er V k => by
    simp only [VR] at V; obtain ⟨t, rfl⟩ := V
    refine SB.upper (x := tx x) ?_ ?_
    · rw [txt_upper ha]; simp [Builtin.Str.tooLong, tx, Str.length]; exact small_size hs
    · rw [txt_upper ha]; exact k B φ _ s.heap _ Grow.refl R (by simp [VR, tx])
theorem ev_lower {o : Expr} {pa p : Pos} {H H1 : Hp} {x : List Nat} (hb : Based o) (hl : (pa.endLine == p.line) = true) (h1 : Ev prog w A g sc ξ env (eval o env) H (.str x) H1) (ha : ascii x = true) (hs : small x.length = true) :
    Ev prog w A g sc ξ env (eval (.Call (.Attribute o SM.lower.name pa) [] [] p) env) H (.str (x.map loC)) H1 :=
  ev_method PlainL.nil hb hl (by decide : 0 < 5) h1 fun B φ s Q E va R Er V k => by
    simp only [VR] at V; obtain ⟨t, rfl⟩ := V
    refine SB.lower (x := tx x) ?_ ?_
    · rw [txt_lower ha]; simp [Builtin.Str.tooLong, tx, Str.length]; exact small_size hs
    · rw [txt_lower ha]; exact k B φ _ s.heap _ Grow.refl R (by simp [VR, tx])
theorem ev_index {o e : Expr} (he : PlainL [e]) {pa p : Pos} {H H1 H2 : Hp} {x : List Nat} {c : Nat} (hb : Based o) (hl : (pa.endLine == p.line) = true) (h1 : Ev prog w A g sc ξ env (eval o env) H (.str x) H1) (h2 : Ev prog w A g sc ξ env (eval e env) H1 (.str [c]) H2) (hc : x.contains c = true) :
    Ev prog w A g sc ξ env (eval (.Call (.Attribute o SM.index.name pa) [e] [] p) env) H (.int (x.idxOf c)) H2 :=
  ev_method he hb hl (by decide : 1 < 5) h1 fun B φ s Q E va R Er V k => by
    simp only [VR] at V; obtain ⟨t, rfl⟩ := V
    obtain ⟨q1, q2⟩ := txt_find (s := x) hc
    refine SB.indexFound (x := tx x) (h2 B φ s _ _ R Er fun B2 φ2 v2 h2' tk2 G2 R2 V2 => ?_)
    simp only [VR] at V2; obtain ⟨u, rfl⟩ := V2
    refine ⟨_, _, rfl, q1, ?_⟩
    have : Txt.find (tx x) ⟨([c] : List Nat).toArray⟩ = (x.idxOf c : Nat) := q2
    rw [this]
    exact k _ _ _ _ _ G2 R2 (by simp [VR])
theorem ev_join {o e : Expr} (he : PlainL [e]) {pa p : Pos} {H H1 H2 : Hp} {x : List Nat} {v : AV} {xs : List AV} {ts : List (List Nat)} (hb : Based o) (hl : (pa.endLine == p.line) = true) (h1 : Ev prog w A g sc ξ env (eval o env) H (.str x) H1) (h2 : Ev prog w A g sc ξ env (eval e env) H1 v H2)
    (e1 : lists? H2 v = some xs) (e2 : asStrs xs = some ts) (s1 : small (joinL x ts).length = true) (s2 : small x.length = true) :
    Ev prog w A g sc ξ env (eval (.Call (.Attribute o SM.join.name pa) [e] [] p) env) H (.str (joinL x ts)) H2 :=
  ev_method he hb hl (by decide : 1 < 5) h1 fun B φ s Q E va R Er V k => by
    simp only [VR] at V; obtain ⟨t, rfl⟩ := V
    refine SB.join (x := tx x) (h2 B φ s _ _ R Er fun B2 φ2 v2 h2' tk2 G2 R2 V2 => ?_)
    obtain ⟨l, ws, n, rfl, ho, rv⟩ := lists_sound (s := { s with heap := h2', toks := tk2 }) e1 V2 R2
    have I := strs_are e2 rv
    have key : ∀ {vs : List Value} {ys : List Str}, StrsAre vs ys → ∃ l : List (Str × Tok), vs = strValues l ∧ l.map (·.1) = ys := by
      intro vs ys h
      induction h with
      | nil => exact ⟨[], rfl, rfl⟩
      | cons y t _ ih => obtain ⟨l, e1, e2⟩ := ih; exact ⟨(y, t) :: l, by rw [e1]; rfl, by simp [e2]⟩
    obtain ⟨l', el, em⟩ := key I
    refine ⟨l, l', rfl, by rw [← el]; exact isList_of ho, _, em, join_ok s1 s2, fun t' tk => ?_⟩
    rw [txt_join]
    exact k _ _ _ _ _ G2 R2 (by simp [VR, tx])
theorem split_exact {x : Str} {t : Tok} {pos : Pos} {s : Shared} {Q : Value → Shared → Prop} {E : Value → Shared → Prop} {a : Sem Value} (h : wpAny (model prog w) A a (fun v s₁ => ∃ y u, v = .str y u ∧ (y.length == 0) = false ∧ (Builtin.Str.partsBetween x (Builtin.Str.occurrences x y 0 x.length (x.length + 1)) y.length).length ≤ sizeLine ∧
      ∀ (l : List (Str × Tok)) tk, l.map (·.1) = Txt.split x y → Q (.ref s₁.heap.objs.size) { s₁ with heap := s₁.heap.push { cls := .type "list", data := .seq (strValues l).toArray }, toks := tk }) E s) (hx : x.length ≤ sizeLine) :
    MethodOnS prog w A E "split" (.str x t) pos [(false, a)] Q s := by
  refine ⟨"str", _, F.plainAttrs_str, F.slot_str_split, F.type_str_split, typeIs_str _ _ _, (fun _ e => nomatch e),
    method1_meets F.slot_str_split F.entry_str_split (wpAny_mono h (fun v s₁ h₁ => ?_) fun _ _ e => e)⟩
  obtain ⟨y, u, rfl, hy, hn, hq⟩ := h₁
  refine ⟨typeIs_str _ _ _, F.args_str_split_2 _ _, ?_⟩
  cases h1 : (decide (x.length < y.length) || decide (Builtin.Str.strKind x < Builtin.Str.strKind y))
  · cases hf : (Builtin.Str.occurrences x y 0 x.length (x.length + 1)).isEmpty
    · refine ⟨_, meets_str_split_sep x y t u h1 hy hf hx hn, ?_⟩
      show wants Q E _ { s₁ with toks := _, heap := s₁.heap.push { cls := .type "list", data := .seq (strsFrom s₁.toks (Builtin.Str.partsBetween x (Builtin.Str.occurrences x y 0 x.length (x.length + 1)) y.length)).toArray } }
      rw [strsFrom_eq]
      exact hq (numbered s₁.toks _) _ ((numbered_texts _ _).trans ((if_neg (ne_true_of_eq_false h1)).trans (if_neg (ne_true_of_eq_false hf))).symm)
    · exact ⟨_, meets_str_split_not_found x y t u h1 hy hf, hq [(x, t)] s₁.toks ((if_neg (ne_true_of_eq_false h1)).trans (if_pos hf)).symm⟩
  · exact ⟨_, meets_str_split_cannot_occur x y t u h1, hq [(x, t)] s₁.toks (if_pos h1).symm⟩
theorem ev_split {o e : Expr} (he : PlainL [e]) {pa p : Pos} {H H1 H2 : Hp} {x : List Nat} (hb : Based o) (hl : (pa.endLine == p.line) = true) (h1 : Ev prog w A g sc ξ env (eval o env) H (.str x) H1) (h2 : Ev prog w A g sc ξ env (eval e env) H1 (.str [13, 10]) H2) (hs : small x.length = true) :
    Ev prog w A g sc ξ env (eval (.Call (.Attribute o SM.split.name pa) [e] [] p) env) H (.lst ((splitL x).map .str)) H2 :=
  ev_method he hb hl (by decide : 1 < 5) h1 fun B φ s Q E va R Er V k => by
    simp only [VR] at V; obtain ⟨t, rfl⟩ := V
    have hx : (tx x).length ≤ sizeLine := by simpa [tx, Str.length] using small_size hs
    refine split_exact (x := tx x) (h2 B φ s _ _ R Er fun B2 φ2 v2 h2' tk2 G2 R2 V2 => ?_) hx
    simp only [VR] at V2; obtain ⟨u, rfl⟩ := V2
    refine ⟨_, _, rfl, rfl, ?_, fun l tk hl => ?_⟩
    · rw [StrLaws.partsBetween_eq]
      have hlen : ∀ (cuts : List Nat) (a : Nat), (StrLaws.partsFrom (tx x) (({ cps := ([13, 10] : List Nat).toArray } : Str).length) a cuts).length = cuts.length + 1 := by
        intro cuts
        induction cuts with
        | nil => intro a; rfl
        | cons c r ih => intro a; simp [StrLaws.partsFrom, ih]
      rw [hlen]
      have h1 := StrLaws.occ_length_le_len (tx x) ({ cps := ([13, 10] : List Nat).toArray } : Str) 0 (tx x).length ((tx x).length + 1)
      have h2 := small_le hs
      have h3 : (tx x).length = x.length := by simp [tx, Str.length]
      rw [sizeLine_eq]
      omega
    · have hl' : l.map (·.1) = (splitL x).map tx := hl.trans txt_split
      have key : ∀ (l : List (Str × Tok)) (ys : List (List Nat)), l.map (·.1) = ys.map tx → VRs B2 φ2 (ys.map AV.str) (strValues l) := by
        intro l
        induction l with
        | nil => intro ys h; cases ys with
          | nil => exact VRs.nil
          | cons => simp at h
        | cons p r ih => intro ys h; cases ys with
          | nil => simp at h
          | cons y q =>
            simp only [List.map_cons, List.cons.injEq] at h
            refine VRs.cons ?_ (ih q h.2)
            simp only [VR]
            exact ⟨p.2, by rw [h.1]; rfl⟩
      have TT : Then g B2 φ2 H2 (.lst ((splitL x).map .str)) Q { s with heap := h2', toks := tk2 } := fun B' val h' tk G R V => k _ _ _ _ _ (G2.trans G) R V
      exact TT.list R2 (key l _ hl') (n := 0) tk (fresh_none _) (push_keeps _ _) (Heap.get?_push_size _ rfl)
end
end Mine
end
section
set_option Elab.async false
set_option linter.all false
namespace Mine
open PySem PyProof.Rows PySem.W
theorem upd_list {h : Heap} {l : Addr} {vs : List Value} {n : Nat} (e : h.get? l = some (lstObj vs n)) (f : Array Value → Array Value) (us : List Value) (hf : f vs.toArray = us.toArray) :
    (∃ n', (h.update l (Obj.mapSeq f)).get? l = some (lstObj us n')) ∧ ∀ b o, b ≠ l → h.get? b = some o → (h.update l (Obj.mapSeq f)).get? b = some o := by
  refine ⟨⟨if us.length = vs.length then n else n + 1, ?_⟩, fun b o hb e' => ((Heap.SameBut.update ..).2 b hb).trans e'⟩
  · rw [Heap.get?_update_self _ e (by simp [lstObj, Obj.mapSeq, Obj.isFreed])]
    simp only [lstObj, Obj.mapSeq, hf]
    simp
section
variable {prog : Program} {w : World} {A : Around} {g : Gr} {sc : SC} {ξ : List AV} {env : Env} {mg mb : Str → Option Value}
theorem list_method {s : Shared} {Q : Value → Shared → Prop} {E : Value → Shared → Prop} {l : Addr} {vs : List Value} {n : Nat} {name : Str} {id : String} {p : Pos} {args : List (Bool × Sem Value)} (ho : s.heap.get? l = some (lstObj vs n)) (slot : Slot "list" name id)
    (hty : typeOf (.builtin id) = pure (.type "method_descriptor")) (h : wpAny (model prog w) A (callWith p (.builtin id) [.ref l] args []) Q E s) : MethodOnS prog w A E name (.ref l) p args Q s :=
  ⟨"list", id, F.plainAttrs_list, slot, hty, (isList_of ho).typeIs, fun a e => by cases e; exact ⟨_, ho, rfl⟩, h⟩
theorem ev_append {o e : Expr} (he : PlainL [e]) {pa p : Pos} {H H1 H2 : Hp} {kk : Nat} {v : AV} {xs : List AV} (hb : Based o) (hl : (pa.endLine == p.line) = true) (h1 : Ev prog w A g sc ξ env (eval o env) H (.ref kk) H1) (h2 : Ev prog w A g sc ξ env (eval e env) H1 v H2) (hk1 : ∃ ys, H1[kk]? = some (.list ys))
    (hk : H2[kk]? = some (.list xs)) (hs : small xs.length = true) :
    Ev prog w A g sc ξ env (eval (.Call (.Attribute o LM.append.name pa) [e] [] p) env) H .none (H2.set kk (.list (xs ++ [v]))) :=
  ev_method he hb hl (by decide : 1 < 5) h1 fun B φ s Q E va R Er V k => by
    simp only [VR] at V; obtain ⟨l, el, rfl⟩ := V
    obtain ⟨ys, hy⟩ := hk1
    obtain ⟨ws, m, ho1, _⟩ := R.obj _ _ _ el hy
    refine list_method ho1 F.slot_list_append F.type_list_append (PySem.P.append_list (h2 B φ s _ _ R Er fun B2 φ2 v2 h2' tk2 G2 R2 V2 => ?_))
    have el2 := getElem?_prefix G2.pre el
    obtain ⟨us, n, ho, ru⟩ := R2.obj _ _ _ el2 hk
    refine ⟨us.toArray, n, by simpa [ru.length] using small_size hs, ho, ?_⟩
    obtain ⟨⟨n', u1⟩, u2⟩ := upd_list ho (fun a => a.push v2) (us ++ [v2]) (by simp)
    have G3 : Grow φ2 B2 h2' φ2 B2 (h2'.update l (Obj.mapSeq fun xs => xs.push v2)) := Grow.set el2 u2
    exact k _ _ _ _ _ (G2.trans G3) (R2.set el2 ⟨_, hk, rfl⟩ u2 ⟨_, u1⟩ ⟨_, _, u1, ru.append (VRs.single V2)⟩) (by simp [VR])
end
end Mine
end
section
set_option Elab.async false
set_option linter.all false
namespace Mine
open PySem PyProof.Rows PySem.W
structure Beside (B : FMap) (φ : List Addr) (h : Heap) (D : Addr) : Prop where
  live : ∃ o, h.get? D = some o
  off : D ∉ φ
  no : B D = none
theorem Beside.grow {φ φ' : List Addr} {B B' : FMap} {h h' : Heap} {D : Addr} (b : Beside B φ h D) (G : Grow φ B h φ' B' h') : Beside B' φ' h' D := by
  obtain ⟨o, ho⟩ := b.live
  refine ⟨⟨o, G.frame _ _ b.off ho⟩, fun q => ?_, ?_⟩
  · rcases G.new _ q with q | q
    · exact b.off q
    · rw [ho] at q; cases q
  · cases q : B' D with
    | none => rfl
    | some p =>
      rcases G.newB _ _ q with q | q | q
      · rw [b.no] at q; cases q
      · exact absurd q b.off
      · rw [ho] at q; cases q
theorem Beside.keeps {φ : List Addr} {B : FMap} {h h' : Heap} {D : Addr} (b : Beside B φ h D) (hk : ∃ o, h'.get? D = some o) : Beside B φ h' D := ⟨hk, b.off, b.no⟩
structure LitIter (prog : Program) (w : World) (A : Around) (B : FMap) (φ : List Addr) (h0 : Heap) (xs : List AV) (I : Addr) (fp : List Addr) (P : Nat → Value → Prop) (St : Nat → Heap → Prop) : Prop where
  walks : Walks prog w A I fp [I] xs.length P St
  foot : ∀ b ∈ fp, b = I ∨ (∃ o, B b = some o) ∨ Beside B φ h0 b
  item : ∀ i v, i < xs.length → P i v → ∃ x, xs[i]? = some x ∧ VR B φ x v
  alive : ∀ i h, St i h → ∃ o, h.get? I = some o
  lets : ∀ i v (s : Shared) (Q : Unit → Shared → Prop) (E : Value → Shared → Prop) (t : Expr), P i v → St (i + 1) s.heap → Q () s → wpAny (model prog w) A (letOwnedTupleGo t (.ref I) v) Q E s
section
variable {prog : Program} {w : World} {A : Around} {g : Gr} {sc : SC} {ξ : List AV} {env : Env} {mg mb : Str → Option Value}
theorem lets_by {I : Addr} {T : String} {o : Obj} {vs : Array Value} {s : Shared} {Q : Unit → Shared → Prop} {E : Value → Shared → Prop} (t : Expr) (v : Value) (ho : s.heap.get? I = some o) (hc : o.cls = .type T) (hd : o.data = .fields vs)
    (hT : (["enumerate", "zip", "dict_itemiterator", "dict_reverseitemiterator", "odict_iterator", "itertools.zip_longest", "itertools.pairwise"].contains T) = false) (h : Q () s) : wpAny (model prog w) A (letOwnedTupleGo t (.ref I) v) Q E s := by
  have key : wpAny (model prog w) A (match (Value.ref I, v) with
    | (.ref r, .ref a) => (do
      let o ← load r
      match o.cls, o.data with
      | .type n, .fields vs =>
        if ["enumerate", "zip", "dict_itemiterator", "dict_reverseitemiterator", "odict_iterator", "itertools.zip_longest", "itertools.pairwise"].contains n && vs[0]? == some (rawInt a) then
          rule "for.unpacks-the-owned-tuple"
          updateField r 0 .none
      | _, _ => pure ())
    | _ => pure () : Sem Unit) Q E s := by
    cases v with
    | ref a =>
      refine wpAny_bind (wpAny_load ho ?_)
      rw [hc, hd]
      show wpAny _ _ (if (["enumerate", "zip", "dict_itemiterator", "dict_reverseitemiterator", "odict_iterator", "itertools.zip_longest", "itertools.pairwise"].contains T && _) = true then _ else _) _ _ _
      rw [hT, Bool.false_and, if_neg Bool.false_ne_true]
      exact wpAny_pure h
    | _ => exact wpAny_pure h
  cases t with
  | Tuple elts n p => exact key
  | List elts p => exact key
  | _ => exact wpAny_pure h
noncomputable def IterPost (prog : Program) (w : World) (A : Around) (B : FMap) (φ : List Addr) (xs : List AV) (s : Shared) (it : Value) (s' : Shared) : Prop :=
  ∃ I h' tk fp P St, it = .ref I ∧ s' = { s with heap := h', toks := tk } ∧ LitIter prog w A B φ s.heap xs I fp P St ∧ St 0 h' ∧ s.heap.get? I = none ∧ (∀ a o, s.heap.get? a = some o → h'.get? a = some o)
theorem iter_list (hA : A.handled = none) {B : FMap} {φ : List Addr} {xs : List AV} {vs : List Value} {l : Addr} {n : Nat} {s : Shared} {Q : Value → Shared → Prop} {E : Value → Shared → Prop} (eB : B l = some (lstObj vs n)) (ho : s.heap.get? l = some (lstObj vs n)) (rv : VRs B φ xs vs)
    (h : ∀ it s', IterPost prog w A B φ xs s it s' → Q it s') : wpAny (model prog w) A (pyIter (.ref l)) Q E s := by
  have hl := isList_of ho
  have hne : l ≠ s.heap.objs.size := Nat.ne_of_lt (Heap.lt_size ho)
  refine wpAny_pyIter_list hl (h _ _ ⟨s.heap.objs.size, _, s.toks, [s.heap.objs.size, l], (fun i v => vs.toArray[i]? = some v), (fun i h => h.IsListIter s.heap.objs.size l i ∧ h.IsList l vs.toArray), rfl, rfl, ⟨?_, ?_, ?_, ?_, ?_⟩, ⟨⟨_, Heap.get?_push_size _ rfl, rfl, rfl⟩, hl.at fun o e => Heap.get?_push_of_some _ e⟩, fresh_none _, push_keeps _ _⟩)
  · have := Walks.list (prog := prog) (w := w) (A := A) hA s.heap.objs.size l hne vs.toArray
    have e : vs.toArray.size = xs.length := by simp [rv.length]
    rw [e] at this; exact this
  · intro b hb
    rcases List.mem_cons.mp hb with rfl | hb
    · exact .inl rfl
    · rw [List.mem_singleton.mp hb]; exact .inr (.inl ⟨_, eB⟩)
  · intro i v _ hv
    exact rv.get' (by simpa using hv)
  · rintro i h ⟨⟨o, ho, _⟩, _⟩; exact ⟨o, ho⟩
  · intro i v s Q E t _ hst hQ
    obtain ⟨o, ho, hc, hd⟩ := hst.1
    exact lets_by t v ho hc hd (by decide) hQ
theorem iter_beside (hA : A.handled = none) {B : FMap} {φ : List Addr} {xs : List AV} {vs : List Value} {l : Addr} {n : Nat} {s : Shared} {Q : Value → Shared → Prop} {E : Value → Shared → Prop} (eB : Beside B φ s.heap l) (ho : s.heap.get? l = some (lstObj vs n)) (rv : VRs B φ xs vs)
    (h : ∀ it s', IterPost prog w A B φ xs s it s' → Q it s') : wpAny (model prog w) A (pyIter (.ref l)) Q E s := by
  have hl := isList_of ho
  have hne : l ≠ s.heap.objs.size := Nat.ne_of_lt (Heap.lt_size ho)
  refine wpAny_pyIter_list hl (h _ _ ⟨s.heap.objs.size, _, s.toks, [s.heap.objs.size, l], (fun i v => vs.toArray[i]? = some v), (fun i h => h.IsListIter s.heap.objs.size l i ∧ h.IsList l vs.toArray), rfl, rfl, ⟨?_, ?_, ?_, ?_, ?_⟩, ⟨⟨_, Heap.get?_push_size _ rfl, rfl, rfl⟩, hl.at fun o e => Heap.get?_push_of_some _ e⟩, fresh_none _, push_keeps _ _⟩)
  · have := Walks.list (prog := prog) (w := w) (A := A) hA s.heap.objs.size l hne vs.toArray
    have e : vs.toArray.size = xs.length := by simp [rv.length]
    rw [e] at this; exact this
  · intro b hb
    rcases List.mem_cons.mp hb with rfl | hb
    · exact .inl rfl
    · rw [List.mem_singleton.mp hb]; exact .inr (.inr eB)
  · intro i v _ hv
    exact rv.get' (by simpa using hv)
  · rintro i h ⟨⟨o, ho, _⟩, _⟩; exact ⟨o, ho⟩
  · intro i v s Q E t _ hst hQ
    obtain ⟨o, ho, hc, hd⟩ := hst.1
    exact lets_by t v ho hc hd (by decide) hQ
theorem iter_tuple (hA : A.handled = none) {B : FMap} {φ : List Addr} {xs : List AV} {vs : List Value} {l : Addr} {n : Nat} {s : Shared} {Q : Value → Shared → Prop} {E : Value → Shared → Prop} (eB : B l = some (tupObj vs n)) (ho : s.heap.get? l = some (tupObj vs n)) (rv : VRs B φ xs vs)
    (h : ∀ it s', IterPost prog w A B φ xs s it s' → Q it s') : wpAny (model prog w) A (pyIter (.ref l)) Q E s := by
  have hl := isTuple_of ho
  have hne : l ≠ s.heap.objs.size := Nat.ne_of_lt (Heap.lt_size ho)
  refine wpAny_pyIter_tuple hl (h _ _ ⟨s.heap.objs.size, _, s.toks, [s.heap.objs.size, l], (fun i v => vs.toArray[i]? = some v), (fun i h => h.IsTupleIter s.heap.objs.size l i ∧ h.IsTuple l vs.toArray), rfl, rfl, ⟨?_, ?_, ?_, ?_, ?_⟩, ⟨⟨_, Heap.get?_push_size _ rfl, rfl, rfl⟩, hl.push _⟩, fresh_none _, push_keeps _ _⟩)
  · have := Walks.tuple (prog := prog) (w := w) (A := A) hA s.heap.objs.size l hne vs.toArray
    have e : vs.toArray.size = xs.length := by simp [rv.length]
    rw [e] at this; exact this
  · intro b hb
    rcases List.mem_cons.mp hb with rfl | hb
    · exact .inl rfl
    · rw [List.mem_singleton.mp hb]; exact .inr (.inl ⟨_, eB⟩)
  · intro i v _ hv
    exact rv.get' (by simpa using hv)
  · rintro i h ⟨⟨o, ho, _⟩, _⟩; exact ⟨o, ho⟩
  · intro i v s Q E t _ hst hQ
    obtain ⟨o, ho, hc, hd⟩ := hst.1
    exact lets_by t v ho hc hd (by decide) hQ
theorem iter_str (hA : A.handled = none) {B : FMap} {φ : List Addr} {x : List Nat} {t : Tok} {s : Shared} {Q : Value → Shared → Prop} {E : Value → Shared → Prop}
    (h : ∀ it s', IterPost prog w A B φ (x.map fun c => .str [c]) s it s' → Q it s') : wpAny (model prog w) A (pyIter (.str ⟨x.toArray⟩ t)) Q E s := by
  have lit : ∀ (T : String) (o : Obj) (W : Walks prog w A s.heap.objs.size [s.heap.objs.size] [s.heap.objs.size] (({ cps := x.toArray } : Str)).cps.size (SignAt ⟨x.toArray⟩) (fun i h => h.IsStrIter s.heap.objs.size T ⟨x.toArray⟩ t i)) (hst : (s.heap.push o).IsStrIter s.heap.objs.size T ⟨x.toArray⟩ t 0),
      Q (.ref s.heap.objs.size) { s with heap := s.heap.push o } := fun T o W hst => by
    refine h _ _ ⟨s.heap.objs.size, _, s.toks, [s.heap.objs.size], SignAt ⟨x.toArray⟩, (fun i h => h.IsStrIter s.heap.objs.size T ⟨x.toArray⟩ t i), rfl, rfl, ⟨?_, ?_, ?_, ?_, ?_⟩, hst, fresh_none _, push_keeps _ _⟩
    · have e : (({ cps := x.toArray } : Str)).cps.size = (x.map fun c => AV.str [c]).length := by simp
      rw [e] at W; exact W
    · intro b hb; exact .inl (List.mem_singleton.mp hb)
    · rintro i v _ ⟨c, u, hc, rfl⟩
      refine ⟨.str [c], ?_, by simp [VR]⟩
      rw [List.getElem?_map]
      have : x[i]? = some c := by simpa using hc
      rw [this]; rfl
    · rintro i h ⟨o, ho, _⟩; exact ⟨o, ho⟩
    · rintro i v s Q E tg ⟨c, u, hc, rfl⟩ _ hQ
      cases tg <;> exact wpAny_pure hQ
  cases ha : (({ cps := x.toArray } : Str)).cps.all (· < 128)
  · exact wpAny_pyIter_wide ha (lit "str_iterator" _ (Walks.strWide hA _ _ t) ⟨_, Heap.get?_push_size _ rfl, rfl, rfl⟩)
  · exact wpAny_pyIter_ascii ha (lit "str_ascii_iterator" _ (Walks.strAscii hA _ _ t) ⟨_, Heap.get?_push_size _ rfl, rfl, rfl⟩)
theorem range_len (a b : Int) : (rangeL a b).length = (b - a).toNat := by simp [rangeL]
theorem iter_range (hA : A.handled = none) {B : FMap} {φ : List Addr} {r : Addr} {a b : Int} {t u v : Tok} {s : Shared} {Q : Value → Shared → Prop} {E : Value → Shared → Prop} (hr : IsRange s.heap r a b 1 t u v) (hk : rngOk a b = true)
    (h : ∀ it s', IterPost prog w A B φ (rangeL a b) s it s' → Q it s') : wpAny (model prog w) A (pyIter (.ref r)) Q E s := by
  unfold rngOk at hk
  rw [Bool.and_eq_true] at hk
  have h1 := Nat.le_of_ble_eq_true hk.1
  have h2 := Nat.le_of_ble_eq_true hk.2
  have hn : (Builtin.Range.rangeSize a b 1) = (((b - a).toNat : Nat) : Int) := by
    rw [rangeSize_one]; split <;> omega
  refine wpAny_pyIter_range hr (small_one (by omega) (by omega) (by omega) (by omega)) (h _ _ ⟨s.heap.objs.size, _, s.toks, [s.heap.objs.size], (fun i v => ∃ t, v = .int (a + i * 1) t), (fun i h => IsRangeIter h s.heap.objs.size (a + (i : Nat) * 1) (((b - a).toNat : Int) - (i : Nat)) 1), rfl, rfl, ⟨?_, ?_, ?_, ?_, ?_⟩, ?_, fresh_none _, push_keeps _ _⟩)
  · rw [range_len]
    exact Walks.range hA s.heap.objs.size a 1 (b - a).toNat
  · intro b hb; exact .inl (List.mem_singleton.mp hb)
  · rintro i v hi ⟨t, rfl⟩
    rw [range_len] at hi
    refine ⟨.int (a + i), ?_, ?_⟩
    · simp [rangeL, hi]
    · simp [VR]
  · intro i h hst; exact ⟨_, hst⟩
  · intro i v s Q E t _ hst hQ
    exact lets_by t v hst rfl rfl (by decide) hQ
  · rw [hn]
    have := Heap.get?_push_size s.heap (o := { cls := .type "range_iterator", data := .fields #[rawInt a, rawInt (((b - a).toNat : Nat) : Int), rawInt 1] }) rfl
    simpa using this
end
end Mine
end
section
set_option Elab.async false
set_option linter.all false
namespace Mine
open PySem PyProof.Rows PySem.W
noncomputable def FR (B : FMap) (φ : List Addr) : AF → Flow → Prop
  | .next, f => f = .next
  | .brk, f => f = .brk
  | .ret v, f => ∃ val, f = .ret val ∧ VR B φ v val
theorem Grow.but {φ φ' : List Addr} {B B' : FMap} {h h' h'' : Heap} {I : Addr} (G : Grow φ B h φ' B' h') (hI : h.get? I = none) (hk : ∀ b o, b ≠ I → h'.get? b = some o → h''.get? b = some o) : Grow φ B h φ' B' h'' :=
  ⟨G.pre, G.new, G.mono, G.newB, fun a o ha e => hk _ _ (by rintro rfl; rw [hI] at e; cases e) (G.frame a o ha e)⟩
theorem Rel.but {g : Gr} {φ : List Addr} {B : FMap} {H : Hp} {h h' : Heap} {I : Addr} (R : Rel g B φ H h) (hI : I ∉ φ) (hB : B I = none) (hk : ∀ b o, b ≠ I → h.get? b = some o → h'.get? b = some o) : Rel g B φ H h' := by
  refine ⟨R.base, R.dup, fun a o e => hk _ _ (by rintro rfl; rw [hB] at e; cases e) (R.keep a o e), R.len, R.nodup, R.out, fun a ha => ?_, fun k a x e1 e2 => ?_⟩
  · obtain ⟨o, e⟩ := R.alive a ha
    exact ⟨o, hk _ _ (by rintro rfl; exact hI ha) e⟩
  · exact (R.obj k a x e1 e2).mono (fun _ _ e => e) (List.prefix_refl _) fun o e => hk _ _ (by rintro rfl; exact hI (List.mem_of_getElem? e1)) e
theorem EnvR.but {sc : SC} {B : FMap} {φ : List Addr} {ξ : List AV} {env : Env} {h h' : Heap} {I : Addr} (r : EnvR sc B φ ξ env h) (hI : env.locals ≠ I) (hk : ∀ b o, b ≠ I → h.get? b = some o → h'.get? b = some o) : EnvR sc B φ ξ env h' := by
  refine ⟨r.kind, r.names, r.glob, r.blt, ?_, r.cell⟩
  have := r.loc
  by_cases hf : sc.fn = true
  · rw [if_pos hf] at this ⊢; exact this
  · rw [if_neg hf] at this ⊢
    obtain ⟨hn, m, hm, hv⟩ := this
    exact ⟨hn, m, hm.at' fun o e => hk _ _ hI e, hv⟩
section
variable {prog : Program} {w : World} {A : Around} {g : Gr} {sc : SC} {env : Env} {mg mb : Str → Option Value}
noncomputable def Ex (prog : Program) (w : World) (A : Around) (g : Gr) (sc : SC) (env : Env) (t : Sem Flow) (H : Hp) (f : AF) (H' : Hp) : Prop :=
  ∀ (B : FMap) (φ : List Addr) (s : Shared) (Q : Flow → Shared → Prop) (E : Value → Shared → Prop), Rel g B φ H s.heap → EnvR sc B φ [] env s.heap →
    (∀ B' φ' fl h' tk, Grow φ B s.heap φ' B' h' → Rel g B' φ' H' h' → FR B' φ' f fl → Q fl { s with heap := h', toks := tk }) → wpAny (model prog w) A t Q E s
noncomputable def As (prog : Program) (w : World) (A : Around) (g : Gr) (sc : SC) (env : Env) (t : Value → Sem Unit) (v : AV) (H : Hp) (H' : Hp) : Prop :=
  ∀ (B : FMap) (φ : List Addr) (s : Shared) (Q : Unit → Shared → Prop) (E : Value → Shared → Prop) (val : Value), Rel g B φ H s.heap → EnvR sc B φ [] env s.heap → VR B φ v val →
    (∀ B' φ' h' tk, Grow φ B s.heap φ' B' h' → Rel g B' φ' H' h' → Q () { s with heap := h', toks := tk }) → wpAny (model prog w) A (t val) Q E s
inductive LInv (g : Gr) (sc : SC) (env : Env) (f : AV → Hp → Option (AF × Hp)) (xs : List AV) (fl : AF) (H' : Hp) (St : Nat → Heap → Prop) (I : Addr) (B : FMap) (φ : List Addr) (s0 : Shared) (n : Nat) (s' : Shared) : Prop
  | mk (r : List AV) (i : Nat) (B1 : FMap) (φ1 : List Addr) (H1 : Hp) (h1 : Heap) (tk : Nat) (_ : s' = { s0 with heap := h1, toks := tk }) (_ : n = r.length + 1) (_ : xs.drop i = r) (_ : i + r.length = xs.length) (_ : loopLit f r H1 = some (fl, H')) (_ : Rel g B1 φ1 H1 h1)
    (_ : Grow φ B s0.heap φ1 B1 h1) (_ : EnvR sc B1 φ1 [] env h1) (_ : St i h1) (_ : I ∉ φ1) (_ : B1 I = none)
theorem for_lit {target : Expr} {body : List Stmt} {f : AV → Hp → Option (AF × Hp)} (hturn : ∀ v H1 fl H2, f v H1 = some (fl, H2) → ∃ H1', As prog w A g sc env (assign target env) v H1 H1' ∧ Ex prog w A g sc env (execs body env) H1' fl H2)
    {xs : List AV} {H H' : Hp} {fl : AF} (e : loopLit f xs H = some (fl, H')) {B : FMap} {φ : List Addr} {s s0 : Shared} {I : Addr} {fp : List Addr} {P : Nat → Value → Prop} {St : Nat → Heap → Prop} {Rs : Result → Shared → Prop}
    (hfn : sc.fn = true) (R : Rel g B φ H s0.heap) (Er : EnvR sc B φ [] env s0.heap) (L : LitIter prog w A B φ s0.heap xs I fp P St) (hst : St 0 s.heap) (hI : s0.heap.get? I = none) (hk : ∀ a o, s0.heap.get? a = some o → s.heap.get? a = some o) (hs : ∃ h tk, s = { s0 with heap := h, toks := tk })
    (k : ∀ B' φ' fl' h' tk, Grow φ B s0.heap φ' B' h' → Rel g B' φ' H' h' → FR B' φ' fl fl' → Rs (.ok fl') { s0 with heap := h', toks := tk }) :
    codeAny (model prog w) A (.forLoop target (.ref I) body [] env) Rs s := by
  obtain ⟨hs0, tk0, rfl⟩ := hs
  have hIφ : I ∉ φ := fun q => by obtain ⟨o, e⟩ := R.alive I q; rw [hI] at e; cases e
  have hIB : B I = none := by
    cases q : B I with
    | none => rfl
    | some o => have := R.keep _ _ q; rw [hI] at this; cases this
  refine codeAny_forLoop_any (LInv g sc env f xs fl H' St I B φ s0) ?_ (xs.length + 1)
    ⟨xs, 0, B, φ, H, hs0, tk0, rfl, rfl, by simp, by simp, e, R.keeps hk, Grow.keeps hk, Er.grow (Grow.keeps hk), hst, hIφ, hIB⟩
  rintro n s' ⟨r, i, B1, φ1, H1, h1, tk, rfl, rfl, hr, hlen, he, R1, G1, Er1, hst1, hI1, hB1⟩
  have hL : env.locals ≠ I := by
    have := Er1.loc
    rw [if_pos hfn] at this
    rintro rfl; exact hI1 (List.mem_of_getElem? this)
  cases r with
  | nil =>
    have hi : i = xs.length := by simpa using hlen
    subst hi
    cases he
    refine L.walks.done _ _ _ hst1 fun h2 tk2 hk2 => ?_
    have hk2' : ∀ b o, b ≠ I → h1.get? b = some o → h2.get? b = some o := fun b o hb e => hk2 b o (by simpa using hb) e
    refine wpAny_execs_nil (k B1 φ1 _ h2 tk2 (G1.but hI hk2') (R1.but hI1 hB1 hk2') rfl)
  | cons v r =>
    have hi : i < xs.length := by simp at hlen; omega
    have hxi : xs[i]? = some v := by
      have : (xs.drop i)[0]? = some v := by rw [hr]; rfl
      simpa using this
    have hdrop : xs.drop (i + 1) = r := by
      have : (xs.drop i).drop 1 = r := by rw [hr]; rfl
      rw [List.drop_drop] at this; rw [← this]
    refine L.walks.item i _ _ _ hi hst1 fun val h2 tk2 hP hst2 hk2 => ?_
    have hk2' : ∀ b o, b ≠ I → h1.get? b = some o → h2.get? b = some o := fun b o hb e => hk2 b o (by simpa using hb) e
    have R2 := R1.but hI1 hB1 hk2'
    have G2 := G1.but hI hk2'
    have Er2 := Er1.but hL hk2'
    obtain ⟨x, hx, V⟩ := L.item i val hi hP
    rw [hxi] at hx; cases hx
    have V1 : VR B1 φ1 v val := G1.vr V
    refine L.lets i val _ _ _ _ hP hst2 ?_
    have go : ∀ fl1 H2, f v H1 = some (fl1, H2) → (∀ B3 φ3 h3 tk3 fl', Grow φ1 B1 h2 φ3 B3 h3 → Rel g B3 φ3 H2 h3 → FR B3 φ3 fl1 fl' → (match fl' with
        | .next | .cont => ∃ m, m < (v :: r).length + 1 ∧ LInv g sc env f xs fl H' St I B φ s0 m { s0 with heap := h3, toks := tk3 }
        | .brk => Rs (.ok .next) { s0 with heap := h3, toks := tk3 }
        | .ret v => Rs (.ok (.ret v)) { s0 with heap := h3, toks := tk3 })) →
        wpAny (model prog w) A (assign target env val) (fun _ s₂ => wpAny (model prog w) A (execs body env) (fun f' s₃ => match f' with
            | .next | .cont => ∃ m, m < (v :: r).length + 1 ∧ LInv g sc env f xs fl H' St I B φ s0 m s₃
            | .brk => Rs (.ok .next) s₃
            | .ret v => Rs (.ok (.ret v)) s₃) (notedBy (model prog w) A env fun e s' => Rs (.error e) s') s₂) (notedBy (model prog w) A env fun e s' => Rs (.error e) s') { s0 with heap := h2, toks := tk2 } := by
      intro fl1 H2 ef fin
      obtain ⟨H1', ha, hx⟩ := hturn v H1 fl1 H2 ef
      exact ha B1 φ1 _ _ _ val R2 Er2 V1 fun B2 φ2 h3 tk3 G3 R3 => hx B2 φ2 _ _ _ R3 (Er2.grow G3) fun B4 φ4 fl' h4 tk4 G4 R4 F4 => fin B4 φ4 h4 tk4 fl' (G3.trans G4) R4 F4
    obtain ⟨oI, hoI⟩ := L.alive _ _ hst2
    obtain ⟨x, H2, ef, he⟩ := th_inv he
    cases x with
    | next =>
      refine go .next H2 ef fun B3 φ3 h3 tk3 fl' G3 R3 F3 => ?_
      have hF : fl' = .next := F3
      subst hF
      refine ⟨r.length + 1, by simp, r, i + 1, B3, φ3, H2, h3, tk3, rfl, rfl, hdrop, by simp at hlen; omega, he, R3, G2.trans G3, Er2.grow G3, ?_, ?_, ?_⟩
      · refine L.walks.frame _ _ _ hst2 fun b hb o e => ?_
        rcases L.foot b hb with rfl | ⟨o', hB⟩ | hbs
        · exact G3.frame _ _ hI1 e
        · have h1 := R2.keep _ _ (G1.mono _ _ hB)
          rw [h1] at e; cases e
          exact R3.keep _ _ (G3.mono _ _ (G1.mono _ _ hB))
        · exact G3.frame _ _ (hbs.grow G1).off e
      · intro q
        rcases G3.new _ q with q | q
        · exact hI1 q
        · rw [hoI] at q; cases q
      · cases q : B3 I with
        | none => rfl
        | some o =>
          rcases G3.newB _ _ q with q | q | q
          · rw [hB1] at q; cases q
          · exact absurd q hI1
          · rw [hoI] at q; cases q
    | brk =>
      cases he
      refine go .brk _ ef fun B3 φ3 h3 tk3 fl' G3 R3 F3 => ?_
      have hF : fl' = .brk := F3
      subst hF
      exact k B3 φ3 _ h3 tk3 (G2.trans G3) R3 rfl
    | ret v' =>
      cases he
      refine go (.ret _) _ ef fun B3 φ3 h3 tk3 fl' G3 R3 F3 => ?_
      obtain ⟨val', rfl, V'⟩ := F3
      exact k B3 φ3 _ h3 tk3 (G2.trans G3) R3 ⟨val', rfl, V'⟩
end
end Mine
end
section
set_option Elab.async false
set_option linter.all false
namespace Mine
open PySem PyProof.Rows PySem.W
theorem Rel.adopt {g : Gr} {φ : List Addr} {B : FMap} {H : Hp} {h : Heap} {D : Addr} {o : Obj} (R : Rel g B φ H h) (ho : h.get? D = some o) (hD : D ∉ φ) (hB : B D = none) : Rel g (B.add D o) φ H h := by
  have hm := FMap.add_mono (o := o) (.inl hB)
  refine ⟨fun b p e => hm _ _ (R.base b p e), R.dup, fun b p e => ?_, R.len, R.nodup, fun j b z e1 e2 hz => ?_, R.alive, fun j b z e1 e2 => ?_⟩
  · unfold FMap.add at e
    by_cases hb' : b = D
    · subst hb'; simp at e; subst e; exact ho
    · simp [hb'] at e; exact R.keep b p e
  · have hba : b ≠ D := by rintro rfl; exact hD (List.mem_of_getElem? e1)
    unfold FMap.add; simp [hba]; exact R.out j b z e1 e2 hz
  · exact (R.obj j b z e1 e2).mono hm (List.prefix_refl _) fun o e' => e'
theorem Grow.adopt {φ φ' : List Addr} {B B' : FMap} {h h' : Heap} {D : Addr} {o : Obj} (G : Grow φ B h φ' B' h') (hD : h.get? D = none) (hB : B' D = none) : Grow φ B h φ' (B'.add D o) h' := by
  have hm := FMap.add_mono (o := o) (.inl hB)
  refine ⟨G.pre, G.new, fun a p e => hm _ _ (G.mono _ _ e), fun a p e => ?_, G.frame⟩
  unfold FMap.add at e
  by_cases ha : a = D
  · subst ha; exact .inr (.inr hD)
  · simp [ha] at e; exact G.newB a p e
theorem beside_new {g : Gr} {φ : List Addr} {B : FMap} {H : Hp} {h h' : Heap} {D : Addr} (R : Rel g B φ H h) (hD : h.get? D = none) (hl : ∃ o, h'.get? D = some o) : Beside B φ h' D := by
  refine ⟨hl, fun q => ?_, ?_⟩
  · obtain ⟨o, e⟩ := R.alive D q; rw [hD] at e; cases e
  · cases q : B D with
    | none => rfl
    | some o => have := R.keep _ _ q; rw [hD] at this; cases this
noncomputable def relabelN (sc : SC) (l : List (Str × NameKind)) : List (Str × NameKind) := l.map fun (n, k) => if k == .free && sc.names.lookup n == some .cell then (n, .cell) else (n, k)
noncomputable def compSCs (sc : SC) (scope : Scope) (xs : List Str) : SC :=
  { names := relabelN sc scope.names, fn := false, locs := xs, cells := sc.cells.filter fun p => scope.names.lookup p.1 == some .free }
noncomputable def compSC (sc : SC) (scope : Scope) (x : Str) : SC :=
  { names := relabelN sc scope.names, fn := false, locs := [x], cells := sc.cells.filter fun p => scope.names.lookup p.1 == some .free }
noncomputable def compOk (sc : SC) (scope : Scope) (x : Str) : Bool :=
  scope.kind == .function && scope.names.all (fun p => p.2 != .cell && (p.2 != .local || scope.names.lookup p.1 == some .local) && (p.2 != .free || ((sc.cells.lookup p.1).isSome && scope.names.lookup p.1 == some .free && sc.names.lookup p.1 == some .cell))) && scope.names.lookup x == some .local
section
variable {prog : Program} {w : World} {A : Around} {g : Gr} {sc : SC} {ξ : List AV} {env : Env} {mg mb : Str → Option Value}
noncomputable def clOf (cells : List (Str × Addr)) (names : List (Str × NameKind)) (cs : List (Str × Addr)) : List (Str × Addr) :=
  names.foldl (fun cs p => if p.2 == .free then (match cells.lookup p.1 with | some a => (p.1, a) :: cs | none => cs) else cs) cs
theorem closure_is (names : List (Str × NameKind)) (env : Env) (h : ∀ p ∈ names, p.2 = .free → ∃ a, env.cells.lookup p.1 = some a) : ∀ cs, (forIn names cs (fun x r => match x with | (name, kind) => if (kind == .free) = true then do let a ← cellOf env name; pure (ForInStep.yield ((name, a) :: r)) else pure (ForInStep.yield r)) : Sem (List (Str × Addr))) = pure (clOf env.cells names cs) := by
  induction names with
  | nil => intro cs; rfl
  | cons p r ih =>
    intro cs
    have ih' := ih fun q hq => h q (List.mem_cons_of_mem _ hq)
    rw [List.forIn_cons]
    obtain ⟨n, k⟩ := p
    by_cases hk : k = .free
    · subst hk
      obtain ⟨a, ea⟩ := h (n, .free) (List.mem_cons_self ..) rfl
      have ea' : env.cells.lookup n = some a := ea
      have e1 : cellOf env n = pure a := by unfold cellOf; rw [ea']
      have e2 : clOf env.cells ((n, NameKind.free) :: r) cs = clOf env.cells r ((n, a) :: cs) := by
        unfold clOf; rw [List.foldl_cons]; simp [ea']
      rw [e2, ← ih' ((n, a) :: cs)]
      show (if (NameKind.free == NameKind.free) = true then _ else _) >>= _ = _
      rw [if_pos (by decide), e1]
      rfl
    · have hk' : (k == NameKind.free) = false := by simpa using hk
      have e2 : clOf env.cells ((n, k) :: r) cs = clOf env.cells r cs := by
        unfold clOf; rw [List.foldl_cons]; simp [hk']
      rw [e2, ← ih' cs]
      show (if (k == NameKind.free) = true then _ else _) >>= _ = _
      rw [if_neg (by rw [hk']; exact Bool.false_ne_true)]
      rfl
theorem clOf_keeps (cells : List (Str × Addr)) {x : Str} {a : Addr} (hx : cells.lookup x = some a) : ∀ (names : List (Str × NameKind)) (cs : List (Str × Addr)), cs.lookup x = some a → (clOf cells names cs).lookup x = some a
  | [], cs, h => h
  | (n, k) :: r, cs, h => by
    unfold clOf
    rw [List.foldl_cons]
    refine clOf_keeps cells hx r _ ?_
    by_cases hk : (k == NameKind.free) = true
    · simp only [hk, if_true]
      cases e : cells.lookup n with
      | none => exact h
      | some b =>
        simp only [List.lookup_cons]
        by_cases hn : x = n
        · subst hn; rw [hx] at e; cases e; simp
        · have : (x == n) = false := by simp [hn]
          simp [this, h]
    · simp only [hk]; exact h
theorem clOf_has (cells : List (Str × Addr)) {x : Str} {a : Addr} (hx : cells.lookup x = some a) : ∀ (names : List (Str × NameKind)) (cs : List (Str × Addr)), (x, NameKind.free) ∈ names → (clOf cells names cs).lookup x = some a
  | [], cs, h => by simp at h
  | (n, k) :: r, cs, h => by
    rcases List.mem_cons.mp h with h | h
    · cases h
      unfold clOf
      rw [List.foldl_cons]
      refine clOf_keeps cells hx r _ ?_
      simp [hx]
    · unfold clOf
      rw [List.foldl_cons]
      exact clOf_has cells hx r _ h
theorem compOk_facts {scope : Scope} {x : Str} (hc : compOk sc scope x = true) : scope.kind = .function ∧ (∀ p ∈ scope.names, p.2 ≠ .cell) ∧ (∀ p ∈ scope.names, p.2 = .local → scope.names.lookup p.1 = some .local) ∧
    (∀ p ∈ scope.names, p.2 = .free → (∃ k, sc.cells.lookup p.1 = some k) ∧ scope.names.lookup p.1 = some .free ∧ sc.names.lookup p.1 = some .cell) ∧ scope.names.lookup x = some .local := by
  unfold compOk at hc
  simp only [Bool.and_eq_true] at hc
  have hall := List.all_eq_true.mp hc.1.2
  refine ⟨by simpa using hc.1.1, fun p hp => ?_, fun p hp hl => ?_, fun p hp hf => ?_, by simpa using hc.2⟩
  · have := hall p hp
    simp only [Bool.and_eq_true] at this
    simpa using this.1.1
  · have := hall p hp
    simp only [Bool.and_eq_true] at this
    have h2 := this.1.2
    rw [hl] at h2
    simpa using h2
  · have := hall p hp
    simp only [Bool.and_eq_true] at this
    have h2 := this.2
    rw [hf] at h2
    simp only [bne_self_eq_false, Bool.false_or, Bool.and_eq_true] at h2
    exact ⟨Option.isSome_iff_exists.mp h2.1.1, by simpa using h2.1.2, by simpa using h2.2⟩
theorem closure_sc {scope : Scope} {x : Str} (hc : compOk sc scope x = true) {B : FMap} {φ : List Addr} {h : Heap} (Er : EnvR sc B φ ξ env h) : closureFor scope env = pure (clOf env.cells scope.names []) := by
  have key := closure_is scope.names env (fun p hp hf => by
    obtain ⟨⟨k, hk⟩, _⟩ := (compOk_facts hc).2.2.2.1 p hp hf
    obtain ⟨a, _, ea⟩ := Er.cell _ _ hk
    exact ⟨a, ea⟩) []
  have e : closureFor scope env = ((forIn scope.names [] (fun x r => match x with | (name, kind) => if (kind == .free) = true then do let a ← cellOf env name; pure (ForInStep.yield ((name, a) :: r)) else pure (ForInStep.yield r)) : Sem (List (Str × Addr))) >>= fun r => pure r) := rfl
  rw [e, key]; rfl
theorem lookup_filter {α : Type} (p : Str → Bool) : ∀ (l : List (Str × α)) (x : Str) (k : α), (l.filter fun q => p q.1).lookup x = some k → l.lookup x = some k ∧ p x = true
  | [], _, _, h => by simp at h
  | (n, a) :: r, x, k, h => by
    by_cases hp : p n = true
    · rw [List.filter_cons_of_pos (by simpa using hp)] at h
      simp only [List.lookup_cons] at h ⊢
      by_cases hx : (x == n) = true
      · simp only [hx] at h ⊢
        have : x = n := by simpa using hx
        subst this; exact ⟨h, hp⟩
      · have hx' : (x == n) = false := by simpa using hx
        simp only [hx'] at h ⊢
        exact lookup_filter p r x k h
    · rw [List.filter_cons_of_neg (by simpa using hp)] at h
      obtain ⟨h1, h2⟩ := lookup_filter p r x k h
      refine ⟨?_, h2⟩
      simp only [List.lookup_cons]
      by_cases hx : (x == n) = true
      · have : x = n := by simpa using hx
        subst this; exact absurd h2 hp
      · have hx' : (x == n) = false := by simpa using hx
        simp only [hx']; exact h1
theorem mem_of_lookup {α : Type} : ∀ {l : List (Str × α)} {x : Str} {k : α}, l.lookup x = some k → (x, k) ∈ l
  | [], _, _, h => by simp at h
  | (n, a) :: r, x, k, h => by
    simp only [List.lookup_cons] at h
    by_cases hx : (x == n) = true
    · simp only [hx] at h; cases h
      have : x = n := by simpa using hx
      subst this; exact List.mem_cons_self ..
    · have hx' : (x == n) = false := by simpa using hx
      simp only [hx'] at h
      exact List.mem_cons_of_mem _ (mem_of_lookup h)
theorem envR_comps {scope : Scope} {x : Str} (hc : compOk sc scope x = true) {B : FMap} {φ : List Addr} {h h' : Heap} (Er : EnvR sc B φ ξ env h) {C : Addr} {m : Str → Option Value} {names : List Str} {ζ : List AV} (hC : C ∉ φ) (hn : h'.Ns C m)
    (hm : ∀ (i : Nat) x v, names[i]? = some x → ζ[i]? = some v → ∃ val, m x = some val ∧ VR B φ v val) :
    EnvR (compSCs sc scope names) B φ ζ (compEnvC scope (clOf env.cells scope.names []) C env) h' := by
  obtain ⟨f1, f2, f3, f4, f5⟩ := compOk_facts hc
  refine ⟨by simpa [compEnvC, relabel] using f1, ?_, Er.glob, Er.blt, ?_, fun y k e => ?_⟩
  · show (scope.names.map fun (n, k) => if (k == .free && env.scope.kind == .function && env.kindOf n == some .cell) then (n, .cell) else (n, k)) = relabelN sc scope.names
    unfold relabelN
    apply List.map_congr_left
    rintro ⟨n, k⟩ _
    show (if (k == .free && env.scope.kind == .function && env.scope.names.lookup n == some .cell) = true then _ else _) = _
    rw [Er.kind, Er.names]
    simp
  · rw [if_neg (by simp [compSCs])]
    exact ⟨hC, m, hn, hm⟩
  · have e' : (sc.cells.filter fun p => scope.names.lookup p.1 == some .free).lookup y = some k := e
    obtain ⟨h1, h2⟩ := lookup_filter (fun n => scope.names.lookup n == some .free) sc.cells y k e'
    obtain ⟨a, e1, e2⟩ := Er.cell y k h1
    exact ⟨a, e1, clOf_has env.cells e2 scope.names [] (mem_of_lookup (by simpa using h2))⟩
noncomputable def TgtOk (prog : Program) (w : World) (A : Around) (scope : Scope) (tgt : Expr) (names : List Str) (bnd : AV → Option (List AV)) : Prop :=
  ∀ (env : Env) (cl : List (Str × Addr)) (C : Addr) (B : FMap) (φ : List Addr) (v : AV) (val : Value) (ζ : List AV) (s : Shared) (m : Str → Option Value) (Q : Unit → Shared → Prop) (E : Value → Shared → Prop),
    (∀ a o, B a = some o → s.heap.get? a = some o) → VR B φ v val → bnd v = some ζ → s.heap.Ns C m →
    (∀ h' m' tk, h'.Ns C m' → (∀ b o, b ≠ C → s.heap.get? b = some o → h'.get? b = some o) → (∀ (i : Nat) x u, names[i]? = some x → ζ[i]? = some u → ∃ val, m' x = some val ∧ VR B φ u val) → Q () { s with heap := h', toks := tk }) →
    wpAny (model prog w) A (assign tgt (compEnvC scope cl C env) val) Q E s
theorem tgt_name {scope : Scope} {x : Str} {px : Pos} (hkind : scope.kind = .function) (hx : scope.names.lookup x = some .local) : TgtOk prog w A scope (.Name x px) [x] fun v => some [v] := fun env cl C B φ v val ζ s m Q E hB V hb hn k => by
  cases hb
  refine wpAny_assign_Name (wpAny_storeName_local (env := compEnvC scope cl C env) (lookup_relabel_local hx) (show s.heap.Ns (compEnvC scope cl C env).locals m from hn) (fun h3 hn3 hs3 => ?_) (by simp [compEnvC, relabel, hkind]))
  have hs3' : Heap.SameBut C s.heap h3 := hs3
  refine k h3 _ _ hn3 (fun b o hb e => hs3'.extBut b o hb e) fun i y u e1 e2 => ?_
  cases i with
  | zero => simp at e1 e2; subst e1 e2; exact ⟨val, by simp, V⟩
  | succ i => simp at e1
theorem comp_turns {elt target iter : Expr} {ifs : List Expr} {scope : Scope} {pos : Pos} {it acc : Value} {env : Env} {R : Result → Shared → Prop} {s : Shared} (I : Nat → Shared → Prop)
    (turn : ∀ n s, I n s → wpAny (model prog w) A (pyNext it) (fun r s₁ => match r with
      | none => R (.ok .next) s₁
      | some v => wpAny (model prog w) A (letOwnedTupleGo target it v) (fun _ s₁ => wpAny (model prog w) A (assign target env v) (fun _ s₂ =>
          wpAny (model prog w) A (forIn ifs true fun c r => if r = true then do let ok ← isTrue c env (eval c env); pure (ForInStep.yield ok) else pure (ForInStep.yield r)) (fun ok s₃ =>
            if ok = true then wpAny (model prog w) A (eval elt env) (fun x s₄ =>
              wpAny (model prog w) A (call (.builtin "list.append") [acc, x]) (fun _ s₅ => ∃ m, m < n ∧ I m s₅) (notedBy (model prog w) A env fun e s' => R (.error e) s') s₄) (notedBy (model prog w) A env fun e s' => R (.error e) s') s₃
            else ∃ m, m < n ∧ I m s₃) (notedBy (model prog w) A env fun e s' => R (.error e) s') s₂) (notedBy (model prog w) A env fun e s' => R (.error e) s') s₁) (notedBy (model prog w) A env fun e s' => R (.error e) s') s₁) (notedBy (model prog w) A env fun e s' => R (.error e) s') s)
    (n : Nat) (h : I n s) :
    codeAny (model prog w) A (.compLoop (.ListComp elt [⟨target, iter, ifs, 0⟩] scope pos) 0 it acc env) R s := by
  refine codeAny_loop rfl I (fun n s hI => ?_) n h
  refine wpAny_noted ?_
  rw [compTurn_list]
  refine wpAny_bind (wpAny_standAt (wpAny_bind (wpAny_mono (turn n s hI) (fun r s₁ h₁ => ?_) fun _ _ h' => h')))
  cases r with
  | none => exact wpAny_pure h₁
  | some v =>
    refine wpAny_bind (wpAny_mono h₁ (fun _ s₁ h₁ => ?_) fun _ _ h' => h')
    refine wpAny_bind (wpAny_mono h₁ (fun _ s₂ h₂ => wpAny_bind (wpAny_mono h₂ (fun ok s₃ h₃ => ?_) fun _ _ h' => h')) fun _ _ h' => h')
    cases ok with
    | false => exact wpAny_pure ⟨rfl, h₃⟩
    | true => exact wpAny_bind (wpAny_bind (wpAny_mono h₃ (fun x s₄ h₄ => wpAny_bind (wpAny_mono h₄ (fun _ s₅ h₅ => wpAny_pure (wpAny_pure ⟨rfl, h₅⟩)) fun _ _ h' => h')) fun _ _ h' => h'))
noncomputable def CTurn (prog : Program) (w : World) (A : Around) (g : Gr) (sc' : SC) (ifs : List Expr) (elt : Expr) (ζ : List AV) (H : Hp) (r : Option AV) (H' : Hp) : Prop :=
  ∃ b Hm, (∀ cenv, EvB prog w A g sc' ζ cenv (forIn ifs true fun c r => if r = true then do let ok ← isTrue c cenv (eval c cenv); pure (ForInStep.yield ok) else pure (ForInStep.yield r)) H b Hm) ∧
    ((b = true ∧ ∃ y, r = some y ∧ ∀ cenv, Ev prog w A g sc' ζ cenv (eval elt cenv) Hm y H') ∨ (b = false ∧ r = none ∧ H' = Hm))
inductive CInv (g : Gr) (f : AV → Hp → Option (Option AV × Hp)) (xs ys : List AV) (H' : Hp) (St : Nat → Heap → Prop) (I D C : Addr) (B : FMap) (φ : List Addr) (s0 : Shared) (n : Nat) (s' : Shared) : Prop
  | mk (r ds es : List AV) (i : Nat) (B1 : FMap) (φ1 : List Addr) (H1 : Hp) (h1 : Heap) (tk : Nat) (vs : List Value) (nd : Nat) (m : Str → Option Value) (_ : s' = { s0 with heap := h1, toks := tk }) (_ : n = r.length + 1) (_ : xs.drop i = r) (_ : i + r.length = xs.length) (_ : compLit f r H1 = some (es, H')) (_ : ys = ds ++ es)
    (_ : Rel g B1 φ1 H1 h1) (_ : Grow φ B s0.heap φ1 B1 h1) (_ : St i h1) (_ : Beside B1 φ1 h1 I) (_ : Beside B1 φ1 h1 D) (_ : Beside B1 φ1 h1 C) (_ : h1.get? D = some (lstObj vs nd)) (_ : VRs B1 φ1 ds vs) (_ : h1.Ns C m) (_ : ds.length ≤ i)
theorem comp_gen {elt iter tgt : Expr} {x : Str} {names : List Str} {bnd : AV → Option (List AV)} {ifs : List Expr} {scope : Scope} {pos : Pos} (hc : compOk sc scope x = true) (htgt : TgtOk prog w A scope tgt names bnd) {f : AV → Hp → Option (Option AV × Hp)}
    (hturn : ∀ v H1 r H2, f v H1 = some (r, H2) → ∃ ζ, bnd v = some ζ ∧ CTurn prog w A g (compSCs sc scope names) ifs elt ζ H1 r H2) {xs ys : List AV} {H H' : Hp} (e : compLit f xs H = some (ys, H')) (hz : small xs.length = true) {B : FMap} {φ : List Addr} {s0 : Shared} {h : Heap} {tk0 : Nat} {I : Addr} {fp : List Addr} {P : Nat → Value → Prop} {St : Nat → Heap → Prop}
    (R : Rel g B φ H s0.heap) (Er : EnvR sc B φ ξ env s0.heap) (L : LitIter prog w A B φ s0.heap xs I fp P St) (hst : St 0 h) (hI : s0.heap.get? I = none) (hk : ∀ a o, s0.heap.get? a = some o → h.get? a = some o) {RR : Value → Addr → Result → Shared → Prop} {E : Value → Shared → Prop}
    (k : ∀ B' φ' D C h' tk m, Grow φ B s0.heap φ' B' h' → Rel g B' φ' H' h' → VR B' φ' (.lst ys) (.ref D) → h'.Ns C m → C ∉ φ' → B' C = none → s0.heap.get? C = none → RR (.ref D) C (.ok .next) { s0 with heap := h', toks := tk }) :
    wpAny (model prog w) A (newList []) (fun acc s₃ => wpAny (model prog w) A (newFunctionEnv scope env.globals (clOf env.cells scope.names []) [] env.qual none .none (some env)) (fun cenv s₄ =>
      codeAny (model prog w) A (.compStart (.ListComp elt [⟨tgt, iter, ifs, 0⟩] scope pos) 0 (.ref I) acc { cenv with scope := relabel scope env }) (RR acc cenv.locals) s₄) E s₃) E { s0 with heap := h, toks := tk0 } := by
  obtain ⟨hkind, hcell, hnames, hfree, hx⟩ := compOk_facts hc
  refine wpAny_newObj_type (wpAny_newFunctionEnv hcell (by intro y hy; simp at hy) (fun h₁ hns₁ hsb₁ => ?_) hkind)
  dsimp only at hns₁ hsb₁ ⊢
  generalize hH2 : h.push { cls := .type "list", dict := none, data := .seq ([] : List Value).toArray } = H2 at hns₁ hsb₁ ⊢
  have hDC : h.objs.size ≠ H2.objs.size := by rw [← hH2, Heap.size_push]; exact Nat.ne_of_lt (Nat.lt_succ_self _)
  have up : ∀ b o, h.get? b = some o → h₁.get? b = some o := fun b o e => by
    have h1 : H2.get? b = some o := by rw [← hH2]; exact Heap.get?_push_of_some _ e
    exact hsb₁.extBut b o (Nat.ne_of_lt (Heap.lt_size h1)) (Heap.get?_push_of_some _ h1)
  have up0 : ∀ b o, s0.heap.get? b = some o → h₁.get? b = some o := fun b o e => up b o (hk b o e)
  have hD0 : s0.heap.get? h.objs.size = none := by
    cases q : s0.heap.get? h.objs.size with
    | none => rfl
    | some o => exact absurd (Heap.lt_size (hk _ _ q)) (Nat.lt_irrefl _)
  have hC0 : s0.heap.get? H2.objs.size = none := by
    cases q : s0.heap.get? H2.objs.size with
    | none => rfl
    | some o =>
      have h1 := Heap.lt_size (hk _ _ q)
      have h2 : H2.objs.size = h.objs.size + 1 := by rw [← hH2, Heap.size_push]
      rw [h2] at h1
      have h1' : (h.objs.size + 1 : Nat) < h.objs.size := h1
      exact absurd h1' (Nat.not_lt.mpr (Nat.le_succ _))
  have hDo : h₁.get? h.objs.size = some (lstObj [] 0) := hsb₁.extBut _ _ hDC (Heap.get?_push_of_some _ (hH2 ▸ Heap.get?_push_size _ rfl))
  have hCo : ∃ o, h₁.get? H2.objs.size = some o := by obtain ⟨o, _, _, ho, _⟩ := hns₁; exact ⟨o, ho⟩
  have hst₁ : St 0 h₁ := L.walks.frame _ _ _ hst fun b _ o e => up b o e
  obtain ⟨oI, hoI⟩ := L.alive _ _ hst
  have hDI : h.objs.size ≠ I := Nat.ne_of_gt (Heap.lt_size hoI)
  have hDI' : I ≠ h.objs.size := Ne.symm hDI
  have hCI : H2.objs.size ≠ I := by
    have h2 : H2.objs.size = h.objs.size + 1 := by rw [← hH2, Heap.size_push]
    have hi : (I : Nat) < h.objs.size := Heap.lt_size hoI
    exact Nat.ne_of_gt (by rw [h2]; exact Nat.lt_succ_of_lt hi)
  have loop : codeAny (model prog w) A (.compLoop (.ListComp elt [⟨tgt, iter, ifs, 0⟩] scope pos) 0 (.ref I) (.ref h.objs.size) (compEnvC scope (clOf env.cells scope.names []) H2.objs.size env)) (RR (.ref h.objs.size) H2.objs.size)
      { s0 with heap := h₁, toks := tk0 + ([] : List (Str × Value)).length } := by
    refine comp_turns (CInv g f xs ys H' St I h.objs.size H2.objs.size B φ s0) ?_ (xs.length + 1)
      ⟨xs, [], ys, 0, B, φ, H, h₁, _, [], 0, _, rfl, rfl, by simp, by simp, e, rfl, R.keeps up0, Grow.keeps up0, hst₁, beside_new R hI ⟨oI, up _ _ hoI⟩, beside_new R hD0 ⟨_, hDo⟩, beside_new R hC0 hCo, hDo, VRs.nil, hns₁, Nat.zero_le _⟩
    rintro n s' ⟨r, ds, es, i, B1, φ1, H1, h1, tk, vs, nd, m, rfl, rfl, hr, hlen, he, hys, R1, G1, hst1, bI, bD, bC, hDl, hds, hnC, hdl⟩
    have outer := Er.grow G1
    have footK : ∀ {B1 : FMap} {φ1 : List Addr} {B2 : FMap} {φ2 : List Addr} {H2' : Hp} {ha hc : Heap} {j : Nat}, Grow φ B s0.heap φ1 B1 ha → (∀ a o, B1 a = some o → ha.get? a = some o) → Beside B1 φ1 ha I → Grow φ1 B1 ha φ2 B2 hc → Rel g B2 φ2 H2' hc → St j ha → St j hc := fun G0 hkeep b G R2 st =>
      L.walks.frame _ _ _ st fun c hc o e => by
        rcases L.foot c hc with rfl | ⟨o', hBc⟩ | hbs
        · exact G.frame _ _ b.off e
        · have h1 := hkeep _ _ (G0.mono _ _ hBc)
          rw [h1] at e; cases e
          exact R2.keep _ _ (G.mono _ _ (G0.mono _ _ hBc))
        · exact G.frame _ _ (hbs.grow G0).off e
    have footB : ∀ {ha hc : Heap} {j : Nat} {Z : Addr}, Z ≠ I → s0.heap.get? Z = none → (∀ b o, b ≠ Z → ha.get? b = some o → hc.get? b = some o) → St j ha → St j hc := fun hZ hB hk st =>
      L.walks.frame _ _ _ st fun c hc o e => by
        refine hk _ _ ?_ e
        rcases L.foot c hc with rfl | ⟨o', hBc⟩ | hbs
        · exact Ne.symm hZ
        · rintro rfl; have := R.keep _ _ hBc; rw [hB] at this; cases this
        · rintro rfl; obtain ⟨o', ho'⟩ := hbs.live; rw [hB] at ho'; cases ho'
    cases r with
    | nil =>
      have hi : i = xs.length := by simpa using hlen
      subst hi
      cases he
      rw [List.append_nil] at hys; subst hys
      refine L.walks.done _ _ _ hst1 fun h2 tk2 hk2 => ?_
      have hk2' : ∀ b o, b ≠ I → h1.get? b = some o → h2.get? b = some o := fun b o hb e => hk2 b o (by simpa using hb) e
      have R2 := R1.but bI.off bI.no hk2'
      have G2 := G1.but hI hk2'
      have hD2 : h2.get? h.objs.size = some (lstObj vs nd) := hk2' _ _ hDI hDl
      refine k (B1.add h.objs.size (lstObj vs nd)) φ1 _ _ h2 tk2 m (G2.adopt hD0 bD.no) (R2.adopt hD2 bD.off bD.no) ?_ (hnC.at' fun o e => hk2' _ _ hCI e) bC.off ?_ hC0
      · simp only [VR]
        exact ⟨_, vs, nd, rfl, FMap.add_self, VRs.mono (FMap.add_mono (.inl bD.no)) (List.prefix_refl _) hds⟩
      · unfold FMap.add; rw [if_neg (Ne.symm hDC)]; exact bC.no
    | cons v r =>
      have hi : i < xs.length := by simp at hlen; omega
      have hxi : xs[i]? = some v := by
        have : (xs.drop i)[0]? = some v := by rw [hr]; rfl
        simpa using this
      have hdrop : xs.drop (i + 1) = r := by
        have : (xs.drop i).drop 1 = r := by rw [hr]; rfl
        rw [List.drop_drop] at this; rw [← this]
      refine L.walks.item i _ _ _ hi hst1 fun val h2 tk2 hP hst2 hk2 => ?_
      have hk2' : ∀ b o, b ≠ I → h1.get? b = some o → h2.get? b = some o := fun b o hb e => hk2 b o (by simpa using hb) e
      obtain ⟨oI2, hoI2⟩ := L.alive _ _ hst2
      have R2 := R1.but bI.off bI.no hk2'
      have G2 := G1.but hI hk2'
      have hD2 : h2.get? h.objs.size = some (lstObj vs nd) := hk2' _ _ hDI hDl
      have hC2 : h2.Ns H2.objs.size m := hnC.at' fun o e => hk2' _ _ hCI e
      have bI2 : Beside B1 φ1 h2 I := bI.keeps ⟨oI2, hoI2⟩
      have bD2 : Beside B1 φ1 h2 h.objs.size := bD.keeps ⟨_, hD2⟩
      obtain ⟨x', hx', V⟩ := L.item i val hi hP
      rw [hxi] at hx'; cases hx'
      have V1 : VR B1 φ1 v val := G1.vr V
      obtain ⟨ro, H5, hfv, he⟩ := th_inv he
      obtain ⟨ζ, hζ, b, Hm, htest, hres⟩ := hturn v H1 ro H5 hfv
      refine L.lets i val _ _ _ _ hP hst2 ?_
      refine htgt env _ H2.objs.size B1 φ1 v val ζ _ m _ _ R2.keep V1 hζ hC2 fun h3 m3 tk3 hn3' hk3 hm3 => ?_
      have R3 := R2.but bC.off bC.no hk3
      have G3 := G2.but hC0 hk3
      have hD3 : h3.get? h.objs.size = some (lstObj vs nd) := hk3 _ _ hDC hD2
      have hI3 := hk3 _ _ (Ne.symm hCI) hoI2
      have bI3 : Beside B1 φ1 h3 I := bI2.keeps ⟨_, hI3⟩
      have bD3 : Beside B1 φ1 h3 h.objs.size := bD2.keeps ⟨_, hD3⟩
      have bC3 : Beside B1 φ1 h3 H2.objs.size := bC.keeps (by obtain ⟨o, _, _, ho, _⟩ := hn3'; exact ⟨o, ho⟩)
      have st3 : St (i + 1) h3 := footB hCI hC0 hk3 hst2
      have E3 : EnvR (compSCs sc scope names) B1 φ1 ζ (compEnvC scope (clOf env.cells scope.names []) H2.objs.size env) h3 := envR_comps hc outer bC.off hn3' hm3
      refine htest _ B1 φ1 _ _ _ R3 E3 fun B4 φ4 h4 tk4 G4 R4 => ?_
      have st4 : St (i + 1) h4 := footK G3 R3.keep bI3 G4 R4 st3
      rcases hres with ⟨rfl, y, rfl, helt⟩ | ⟨rfl, rfl, rfl⟩
      · simp only [if_true]
        refine helt _ B4 φ4 _ _ _ R4 (E3.grow G4) fun B5 φ5 vy h5 tk5 G5 R5 V5 => ?_
        have st5 : St (i + 1) h5 := footK (G3.trans G4) R4.keep (bI3.grow G4) G5 R5 st4
        have bI5 := (bI3.grow G4).grow G5
        have bD5 := (bD3.grow G4).grow G5
        have bC5 := (bC3.grow G4).grow G5
        have hD5 : h5.get? h.objs.size = some (lstObj vs nd) := G5.frame _ _ (bD3.grow G4).off (G4.frame _ _ bD3.off hD3)
        have hC5 : h5.Ns H2.objs.size m3 := hn3'.at' fun o e => G5.frame _ _ (bC3.grow G4).off (G4.frame _ _ bC3.off e)
        have hvl := hds.length
        refine wpAny_list_append_plain (items := vs.toArray) ⟨nd, hD5⟩ (fun h6 hl6 hs6 => ?_) (by
          have := small_le hz
          rw [sizeLine_eq]; simp [hvl]; omega)
        obtain ⟨n6, hD6⟩ := hl6
        have hD6' : h6.get? h.objs.size = some (lstObj (vs ++ [vy]) n6) := by rw [hD6]; simp [lstObj]
        have hk6 : ∀ b o, b ≠ h.objs.size → h5.get? b = some o → h6.get? b = some o := fun b o hb e => hs6.extBut b o hb e
        obtain ⟨hp, he⟩ := gd_inv he
        obtain ⟨es', H6, hrest, he⟩ := th_inv he
        cases he
        refine ⟨r.length + 1, Nat.lt_succ_self _, r, ds ++ [y], es', i + 1, B5, φ5, H5, h6, tk5, vs ++ [vy], n6, _, rfl, rfl, hdrop, by simp at hlen; omega, hrest, by rw [hys]; simp, R5.but bD5.off bD5.no hk6, ((G3.trans G4).trans G5).but hD0 hk6, footB (Ne.symm hDI') hD0 hk6 st5,
              bI5.keeps ?_, bD5.keeps ⟨_, hD6'⟩, bC5.keeps ?_, hD6', (VRs.mono G5.mono G5.pre (VRs.mono G4.mono G4.pre hds)).append (VRs.single V5), hC5.at' fun o e => hk6 _ _ (Ne.symm hDC) e, by simp; omega⟩
        · obtain ⟨o, ho⟩ := bI5.live; exact ⟨o, hk6 _ _ hDI' ho⟩
        · obtain ⟨o, ho⟩ := bC5.live; exact ⟨o, hk6 _ _ (Ne.symm hDC) ho⟩
      · simp only [Bool.false_eq_true, if_false]
        have bI5 := bI3.grow G4
        have bD5 := bD3.grow G4
        have bC5 := bC3.grow G4
        have hD5 : h4.get? h.objs.size = some (lstObj vs nd) := G4.frame _ _ bD3.off hD3
        have hC5 : h4.Ns H2.objs.size m3 := hn3'.at' fun o e => G4.frame _ _ bC3.off e
        exact ⟨r.length + 1, by simp, r, ds, es, i + 1, B4, φ4, _, h4, tk4, vs, nd, _, rfl, rfl, hdrop, by simp at hlen; omega, he, hys, R4, G3.trans G4, st4, bI5, bD5, bC5, hD5, VRs.mono G4.mono G4.pre hds, hC5, by omega⟩
  exact codeAny_compStart_list loop (L.walks.self 0 _ _ _ hst₁ loop)
theorem comp_lit {elt iter : Expr} {x : Str} {px : Pos} {ifs : List Expr} {scope : Scope} {pos : Pos} (hc : compOk sc scope x = true) {f : AV → Hp → Option (Option AV × Hp)}
    (hturn : ∀ v H1 r H2, f v H1 = some (r, H2) → CTurn prog w A g (compSC sc scope x) ifs elt [v] H1 r H2) {xs ys : List AV} {H H' : Hp} (e : compLit f xs H = some (ys, H')) (hz : small xs.length = true) {B : FMap} {φ : List Addr} {s0 : Shared} {h : Heap} {tk0 : Nat} {I : Addr} {fp : List Addr} {P : Nat → Value → Prop} {St : Nat → Heap → Prop}
    (R : Rel g B φ H s0.heap) (Er : EnvR sc B φ ξ env s0.heap) (L : LitIter prog w A B φ s0.heap xs I fp P St) (hst : St 0 h) (hI : s0.heap.get? I = none) (hk : ∀ a o, s0.heap.get? a = some o → h.get? a = some o) {RR : Value → Addr → Result → Shared → Prop} {E : Value → Shared → Prop}
    (k : ∀ B' φ' D C h' tk m, Grow φ B s0.heap φ' B' h' → Rel g B' φ' H' h' → VR B' φ' (.lst ys) (.ref D) → h'.Ns C m → C ∉ φ' → B' C = none → s0.heap.get? C = none → RR (.ref D) C (.ok .next) { s0 with heap := h', toks := tk }) :
    wpAny (model prog w) A (newList []) (fun acc s₃ => wpAny (model prog w) A (newFunctionEnv scope env.globals (clOf env.cells scope.names []) [] env.qual none .none (some env)) (fun cenv s₄ =>
      codeAny (model prog w) A (.compStart (.ListComp elt [⟨.Name x px, iter, ifs, 0⟩] scope pos) 0 (.ref I) acc { cenv with scope := relabel scope env }) (RR acc cenv.locals) s₄) E s₃) E { s0 with heap := h, toks := tk0 } :=
  comp_gen hc (tgt_name (compOk_facts hc).1 (compOk_facts hc).2.2.2.2) (fun v H1 r H2 h => ⟨[v], rfl, hturn v H1 r H2 h⟩) e hz R Er L hst hI hk k
end
end Mine
end
section
set_option Elab.async false
set_option linter.all false
namespace Mine
open PySem PyProof.Rows PySem.W
section
variable {prog : Program} {w : World} {A : Around} {g : Gr} {sc : SC} {ξ : List AV} {env : Env} {mg mb : Str → Option Value}
noncomputable def ItE (prog : Program) (w : World) (A : Around) (g : Gr) (sc : SC) (ξ : List AV) (env : Env) (t : Sem Value) (H : Hp) (xs : List AV) (H' : Hp) : Prop :=
  ∀ (B : FMap) (φ : List Addr) (s : Shared) (Q : Value → Shared → Prop) (E : Value → Shared → Prop), Rel g B φ H s.heap → EnvR sc B φ ξ env s.heap →
    (∀ B' φ' h1 tk1 it s', Grow φ B s.heap φ' B' h1 → Rel g B' φ' H' h1 → IterPost prog w A B' φ' xs { s with heap := h1, toks := tk1 } it s' → Q it s') →
    wpAny (model prog w) A t (fun x s1 => wpAny (model prog w) A (pyIter x) Q E s1) E s
theorem it_of (hA : A.handled = none) {t : Sem Value} {H H1 : Hp} {v : AV} {xs : List AV} (h1 : Ev prog w A g sc ξ env t H v H1) (e : asrc v = some xs) : ItE prog w A g sc ξ env t H xs H1 := fun B φ s Q E R Er k =>
  h1 B φ s _ _ R Er fun B1 φ1 val h1' tk1 G1 R1 V1 => by
    rcases orE_or e with e | e
    · cases lst_inv e
      obtain ⟨l, vs, n, rfl, eB, rv⟩ := vr_lst V1
      exact iter_list hA eB (R1.keep _ _ eB) rv fun it s' p => k _ _ _ _ _ _ G1 R1 p
    rcases orE_or e with e | e
    · cases tup_inv e
      obtain ⟨l, vs, n, rfl, eB, rv⟩ := vr_tup V1
      exact iter_tuple hA eB (R1.keep _ _ eB) rv fun it s' p => k _ _ _ _ _ _ G1 R1 p
    · obtain ⟨x, ex, rfl⟩ := map_inv e
      cases str_inv ex
      obtain ⟨t, rfl⟩ := vr_str V1
      exact iter_str hA fun it s' p => k _ _ _ _ _ _ G1 R1 p
theorem Grow.pushed {φ : List Addr} {B : FMap} {h : Heap} (o : Obj) : Grow φ B h φ B (h.push o) := Grow.keeps (push_keeps _ _)
theorem it_range1 (hA : A.handled = none) (T : TopOk g.hb mg mb) {e : Expr} (he : PlainL [e]) {pn p : Pos} {H H1 : Hp} {n : Int} (hx : sc.names.lookup (Str.ofString "range") = some .globalImplicit) (h1 : Ev prog w A g sc ξ env (eval e env) H (.int n) H1) (hr : rngOk 0 n = true) :
    ItE prog w A g sc ξ env (eval (.Call (.Name "range" pn) [e] [] p) env) H (rangeL 0 n) H1 := fun B φ s Q E R Er k => by
  refine Call_name1 (he env) (name_builtin T R Er hx T.range_ ?_)
  refine PySem.callWith_type1 (h1 B φ s _ _ R Er fun B1 φ1 va h1' tk1 G1 R1 V1 => ?_)
  obtain ⟨t, rfl⟩ := vr_int V1
  refine call_range_1 (iter_range hA (IsRange.new _ 0 n 1 _ _ _) hr fun it s' p => k B1 φ1 _ _ it s' (G1.trans (Grow.pushed _)) (R1.keeps (push_keeps _ _)) p)
theorem Call_name2 {M : Model} {E : Value → Shared → Prop} {s : Shared} {pos : Pos} {Q : Value → Shared → Prop} {x : Str} {np : Pos} {e f : Expr} (hs : starEach [e, f] env = [(false, eval e env), (false, eval f env)])
    (h : wpAny M A (eval (.Name x np) env) (fun c s₁ => wpAny M A (callWith pos c [] [(false, eval e env), (false, eval f env)] []) Q E s₁) E s) :
    wpAny M A (eval (.Call (.Name x np) [e, f] [] pos) env) Q E s := by
  show wpAny M A (do callWith pos (← eval (.Name x np) env) [] (backTo pos (starEach [e, f] env)) (backToKw pos (keywordEach [] env))) Q E s
  rw [hs]
  exact wpAny_bind h
theorem it_range2 (hA : A.handled = none) (T : TopOk g.hb mg mb) {e f : Expr} (he : PlainL [e, f]) {pn p : Pos} {H H1 H2 : Hp} {m n : Int} (hx : sc.names.lookup (Str.ofString "range") = some .globalImplicit) (h1 : Ev prog w A g sc ξ env (eval e env) H (.int m) H1) (h2 : Ev prog w A g sc ξ env (eval f env) H1 (.int n) H2) (hr : rngOk m n = true) :
    ItE prog w A g sc ξ env (eval (.Call (.Name "range" pn) [e, f] [] p) env) H (rangeL m n) H2 := fun B φ s Q E R Er k => by
  refine Call_name2 (he env) (name_builtin T R Er hx T.range_ ?_)
  refine PySem.callWith_type rfl (Calls.evalArgs_plain (Calls.spliced_cons (h1 B φ s _ _ R Er fun B1 φ1 va h1' tk1 G1 R1 V1 => Calls.spliced_cons (h2 B1 φ1 _ _ _ R1 (Er.grow G1) fun B2 φ2 vb h2' tk2 G2 R2 V2 => Calls.spliced_nil ?_))))
  obtain ⟨t, rfl⟩ := vr_int V1; obtain ⟨u, rfl⟩ := vr_int V2
  refine call_range_2 (iter_range hA (IsRange.new _ m n 1 _ _ _) hr fun it s' p => k B2 φ2 _ _ it s' ((G1.trans G2).trans (Grow.pushed _)) (R2.keeps (push_keeps _ _)) p)
theorem ev_comp {elt iter : Expr} {x : Str} {px : Pos} {ifs : List Expr} {scope : Scope} {pos : Pos} (hc : compOk sc scope x = true) (hf : ∀ v, foldedSetIterable iter env v = pure v) {f : AV → Hp → Option (Option AV × Hp)}
    (hturn : ∀ v H1 r H2, f v H1 = some (r, H2) → CTurn prog w A g (compSC sc scope x) ifs elt [v] H1 r H2) {xs ys : List AV} {H H1 H2 : Hp} (h1 : ItE prog w A g sc ξ env (eval iter env) H xs H1) (e : compLit f xs H1 = some (ys, H2)) (hz : small xs.length = true) :
    Ev prog w A g sc ξ env (eval (.ListComp elt [⟨.Name x px, iter, ifs, 0⟩] scope pos) env) H (.lst ys) H2 := fun B φ s Q E R Er k => by
  obtain ⟨hkind, hcell, hnames, hfree, hx⟩ := compOk_facts hc
  rw [eval_ListComp]
  refine wpAny_comprehension_free (use := none) rfl hf (closure_sc hc Er) hkind hnames (h1 B φ s _ _ R Er fun B1 φ1 h1' tk1 it s' G1 R1 p => ?_)
  obtain ⟨I, h', tk, fp, P, St, rfl, rfl, L, hst, hI, hk⟩ := p
  refine comp_lit (s0 := { s with heap := h1', toks := tk1 }) (RR := fun acc C => compPost (model prog w) A E none Q acc C) hc hturn e hz R1 (Er.grow G1) L hst hI hk ?_
  intro B' φ' D C h'' tk' m G2 R2 V hn hC hB hC0
  refine ⟨m, hn, fun h3 hs => ?_⟩
  have hk3 : ∀ b o, b ≠ C → h''.get? b = some o → h3.get? b = some o := fun b o hb e => hs.extBut b o hb e
  exact k B' φ' _ h3 tk' (G1.trans (G2.but hC0 hk3)) (R2.but hC hB hk3) V
theorem ex_comp {elt iter : Expr} {x y : Str} {px py : Pos} {ifs : List Expr} {scope : Scope} {pos spos : Pos} (hc : compOk sc scope x = true) (hf : ∀ v, foldedSetIterable iter env v = pure v) {f : AV → Hp → Option (Option AV × Hp)}
    (hturn : ∀ v H1 r H2, f v H1 = some (r, H2) → CTurn prog w A g (compSC sc scope x) ifs elt [v] H1 r H2) {xs ys : List AV} {H H1 H2 H3 : Hp} (h1 : ItE prog w A g sc [] env (eval iter env) H xs H1) (e : compLit f xs H1 = some (ys, H2)) (hz : small xs.length = true)
    (hsw : swapsWith (.ListComp elt [⟨.Name x px, iter, ifs, 0⟩] scope pos) (some (.Name y py)) spos.line env = pure true) (ha : As prog w A g sc env (assign (.Name y py) env) (.lst ys) H2 H3) :
    Ex prog w A g sc env (exec (.Assign [.Name y py] (.ListComp elt [⟨.Name x px, iter, ifs, 0⟩] scope pos) spos) env) H .next H3 := fun B φ s Q E R Er k => by
  obtain ⟨hkind, hcell, hnames, hfree, hx⟩ := compOk_facts hc
  rw [exec_Assign_Name_used _ _ _ _ hsw]
  refine wpAny_bind (wpAny_standAt (wpAny_bind ?_))
  show wpAny _ A (do let _ ← comprehension (.ListComp elt [⟨.Name x px, iter, ifs, 0⟩] scope pos) scope env _ (newList []) false (eval iter env) (some (assign (.Name y py) env))) _ _ s
  refine wpAny_bind (wpAny_mono (wpAny_comprehension_free (use := some (assign (.Name y py) env)) (Q := fun _ s' => Q .next s') rfl hf (closure_sc hc Er) hkind hnames
    (h1 B φ s _ _ R Er fun B1 φ1 h1' tk1 it s' G1 R1 p => ?_)) (fun _ s' hq => wpAny_pure (wpAny_pure hq)) fun _ _ e => e)
  obtain ⟨I, h', tk, fp, P, St, rfl, rfl, L, hst, hI, hk⟩ := p
  refine comp_lit (s0 := { s with heap := h1', toks := tk1 }) (RR := fun acc C => compPost (model prog w) A E (some (assign (.Name y py) env)) (fun _ s' => Q .next s') acc C) hc hturn e hz R1 (Er.grow G1) L hst hI hk ?_
  intro B' φ' D C h'' tk' m G2 R2 V hn hC hB hC0
  have Er2 := (Er.grow G1).grow G2
  show wpAny _ A (assign (.Name y py) env (.ref D)) _ _ _
  refine ha B' φ' _ _ _ _ R2 Er2 V fun B3 φ3 h3 tk3 G3 R3 => ?_
  have hCl : ∃ o, h''.get? C = some o := by obtain ⟨o, _, _, ho, _⟩ := hn; exact ⟨o, ho⟩
  have bC : Beside B' φ' h'' C := ⟨hCl, hC, hB⟩
  have bC3 := bC.grow G3
  refine ⟨m, hn.at' fun o e => G3.frame _ _ hC e, fun h4 hs => ?_⟩
  have hk4 : ∀ b o, b ≠ C → h3.get? b = some o → h4.get? b = some o := fun b o hb e => hs.extBut b o hb e
  exact k B3 φ3 _ h4 tk3 (G1.trans ((G2.trans G3).but hC0 hk4)) (R3.but bC3.off bC3.no hk4) rfl
noncomputable def testsOf (ifs : List Expr) (env : Env) (b : Bool) : Sem Bool := forIn ifs b fun c r => if r = true then do let ok ← isTrue c env (eval c env); pure (ForInStep.yield ok) else pure (ForInStep.yield r)
theorem evb_tests_nil {H : Hp} {b : Bool} : EvB prog w A g sc ξ env (testsOf [] env b) H b H := fun B φ s Q E R Er k => wpAny_pure (k _ _ _ s.toks Grow.refl R)
theorem evb_tests_false {c : Expr} {H H1 : Hp} (h1 : EvB prog w A g sc ξ env (isTrue c env (eval c env)) H false H1) : EvB prog w A g sc ξ env (testsOf [c] env true) H false H1 := fun B φ s Q E R Er k => by
  unfold testsOf
  rw [List.forIn_cons]
  simp only [if_true]
  refine wpAny_bind (wpAny_bind (h1 B φ s _ _ R Er fun B1 φ1 h1' tk1 G1 R1 => wpAny_pure ?_))
  exact wpAny_pure (k _ _ _ _ G1 R1)
theorem evb_tests_true {c : Expr} {r : List Expr} {H H1 H2 : Hp} {b : Bool} (h1 : EvB prog w A g sc ξ env (isTrue c env (eval c env)) H true H1) (h2 : EvB prog w A g sc ξ env (testsOf r env true) H1 b H2) : EvB prog w A g sc ξ env (testsOf (c :: r) env true) H b H2 := fun B φ s Q E R Er k => by
  unfold testsOf
  rw [List.forIn_cons]
  simp only [if_true]
  refine wpAny_bind (wpAny_bind (h1 B φ s _ _ R Er fun B1 φ1 h1' tk1 G1 R1 => wpAny_pure ?_))
  exact h2 B1 φ1 _ _ _ R1 (Er.grow G1) fun B2 φ2 h2' tk2 G2 R2 => k _ _ _ _ (G1.trans G2) R2
end
end Mine
end
section
set_option Elab.async false
set_option linter.all false
namespace Mine
open PySem PyProof.Rows PySem.W
section
variable {prog : Program} {w : World} {A : Around} {g : Gr} {sc : SC} {ξ : List AV} {env : Env} {mg mb : Str → Option Value}
theorem as_loc {i : Nat} {x : Str} {v : AV} {H H' : Hp} (e : setLoc H i v = some H') (hf : sc.fn = true) (hi : g.locs[i]? = some x) (hx : sc.names.lookup x = some .local) : As prog w A g sc env (storeName env x) v H H' := fun B φ s Q E val R Er V k => by
  obtain ⟨vals, ek, rfl⟩ := setLoc_inv e
  have hl := Er.loc
  rw [if_pos hf] at hl
  obtain ⟨m, hn, hv⟩ := R.obj _ _ _ hl ek
  refine wpAny_storeName_local (by show env.scope.names.lookup x = _; rw [Er.names, hx]) hn (fun h' hn' hs' => ?_) (by rw [Er.kind]; rfl)
  have hk : ∀ b o, b ≠ env.locals → s.heap.get? b = some o → h'.get? b = some o := fun b o hb e => hs'.extBut b o hb e
  have G : Grow φ B s.heap φ B h' := Grow.set hl hk
  refine k B φ h' _ G (R.set hl ⟨_, ek, rfl⟩ hk (by obtain ⟨o, _, _, ho, _⟩ := hn'; exact ⟨o, ho⟩) ⟨_, hn', fun j y u e1 e2 => ?_⟩)
  have e1 : g.locs[j]? = some y := e1
  by_cases hj : i = j
  · subst hj
    rw [hi] at e1; cases e1
    rw [List.getElem?_set_self (by
      rcases Nat.lt_or_ge i vals.length with h | h
      · exact h
      · rw [List.getElem?_eq_none (by rw [List.length_set]; exact h)] at e2; cases e2)] at e2
    cases e2
    exact ⟨val, if_pos rfl, V⟩
  · rw [List.getElem?_set_ne hj] at e2
    obtain ⟨u', e3, e4⟩ := hv j y u e1 e2
    have hne : y ≠ x := by
      rintro rfl
      exact hj ((List.getElem?_inj (List.getElem?_eq_some_iff.mp hi).1 R.dup).mp (hi.trans e1.symm))
    exact ⟨u', (if_neg hne).trans e3, e4⟩
theorem as_cel {kk : Nat} {x : Str} {v : AV} {H H' : Hp} (e : setCel H kk v = some H') (hc : sc.cells.lookup x = some kk) (hx : sc.names.lookup x = some .cell) : As prog w A g sc env (storeName env x) v H H' := fun B φ s Q E val R Er V k => by
  obtain ⟨v0, ek, rfl⟩ := setCel_inv e
  obtain ⟨a, e1, e2⟩ := Er.cell x kk hc
  obtain ⟨o, c, eo, ed, hv⟩ := R.obj _ _ _ e1 ek
  refine wpAny_storeName_cell Er.kind (by show env.scope.names.lookup x = _; rw [Er.names, hx]) e2 ⟨o, eo, ed⟩ fun h' hc' hs' => ?_
  have hk : ∀ b o, b ≠ a → s.heap.get? b = some o → h'.get? b = some o := fun b o hb e => hs'.extBut b o hb e
  obtain ⟨o', ho', hd'⟩ := hc'
  exact k B φ h' _ (Grow.set e1 hk) (R.set e1 ⟨_, ek, rfl⟩ hk ⟨_, ho'⟩ ⟨o', _, ho', hd', fun u e => by cases e; exact ⟨val, rfl, V⟩⟩)
theorem as_assign {x : Str} {p : Pos} {v : AV} {H H' : Hp} (h : As prog w A g sc env (storeName env x) v H H') : As prog w A g sc env (assign (.Name x p) env) v H H' := fun B φ s Q E val R Er V k => wpAny_assign_Name (h B φ s _ _ val R Er V k)
theorem ex_asg {x : Str} {px pos : Pos} {value : Expr} {v : AV} {H H1 H2 : Hp} (h1 : Ev prog w A g sc [] env (eval value env) H v H1) (h2 : As prog w A g sc env (storeName env x) v H1 H2) (hs : swapsWith value (some (.Name x px)) pos.line env = pure false) :
    Ex prog w A g sc env (exec (.Assign [.Name x px] value pos) env) H .next H2 := fun B φ s Q E R Er k =>
  wpAny_Assign_Name (h1 B φ s _ _ R Er fun B1 φ1 val h1' tk1 G1 R1 V1 => h2 B1 φ1 _ _ _ val R1 (Er.grow G1) V1 fun B2 φ2 h2' tk2 G2 R2 => k _ _ _ _ _ (G1.trans G2) R2 rfl) hs
theorem ex_if {t : Expr} {a b : List Stmt} {p : Pos} {c : Bool} {H H1 H2 : Hp} {f : AF} (h1 : EvB prog w A g sc [] env (isTrue t env (eval t env)) H c H1) (h2 : Ex prog w A g sc env (execs (if c then a else b) env) H1 f H2) : Ex prog w A g sc env (exec (.If t a b p) env) H f H2 := fun B φ s Q E R Er k =>
  wpAny_If (h1 B φ s _ _ R Er fun B1 φ1 h1' tk1 G1 R1 => by
    cases c with
    | true => exact h2 B1 φ1 _ _ _ R1 (Er.grow G1) fun B2 φ2 fl h2' tk2 G2 R2 F2 => k _ _ _ _ _ (G1.trans G2) R2 F2
    | false => exact h2 B1 φ1 _ _ _ R1 (Er.grow G1) fun B2 φ2 fl h2' tk2 G2 R2 F2 => k _ _ _ _ _ (G1.trans G2) R2 F2)
theorem ex_ret {e : Expr} {p : Pos} {v : AV} {H H1 : Hp} (h1 : Ev prog w A g sc [] env (eval e env) H v H1) : Ex prog w A g sc env (exec (.Return (some e) p) env) H (.ret v) H1 := fun B φ s Q E R Er k =>
  wpAny_Return_some (h1 B φ s _ _ R Er fun B1 φ1 val h1' tk1 G1 R1 V1 => k _ _ _ _ _ G1 R1 ⟨val, rfl, V1⟩)
theorem ex_exp {e : Expr} {p : Pos} {v : AV} {H H1 : Hp} (h1 : Ev prog w A g sc [] env (eval e env) H v H1) (hv : v.dull = true) (hs : swapsWith e none p.line env = pure false) : Ex prog w A g sc env (exec (.Expr e p) env) H .next H1 := fun B φ s Q E R Er k =>
  wpAny_Expr (h1 B φ s _ _ R Er fun B1 φ1 val h1' tk1 G1 R1 V1 => by
    cases v <;> cases hv
    · cases vr_none V1; exact k _ _ _ _ _ G1 R1 rfl
    · obtain ⟨t, rfl⟩ := vr_int V1; exact k _ _ _ _ _ G1 R1 rfl) (by simp [interactive, Er.kind]) hs
theorem ex_nil {H : Hp} : Ex prog w A g sc env (execs [] env) H .next H := fun B φ s Q E R Er k => wpAny_execs_nil (k B φ _ _ s.toks Grow.refl R rfl)
theorem ex_cons {st : Stmt} {r : List Stmt} {H H1 H2 : Hp} {f : AF} (h1 : Ex prog w A g sc env (exec st env) H .next H1) (h2 : Ex prog w A g sc env (execs r env) H1 f H2) : Ex prog w A g sc env (execs (st :: r) env) H f H2 := fun B φ s Q E R Er k =>
  wpAny_execs_cons (h1 B φ s _ _ R Er fun B1 φ1 fl h1' tk1 G1 R1 F1 => by
    have hF : fl = .next := F1
    subst hF
    exact h2 B1 φ1 _ _ _ R1 (Er.grow G1) fun B2 φ2 fl h2' tk2 G2 R2 F2 => k _ _ _ _ _ (G1.trans G2) R2 F2)
theorem ex_stop {st : Stmt} {r : List Stmt} {H H1 : Hp} {f : AF} (h1 : Ex prog w A g sc env (exec st env) H f H1) (hf : f ≠ .next) : Ex prog w A g sc env (execs (st :: r) env) H f H1 := fun B φ s Q E R Er k =>
  wpAny_execs_cons (h1 B φ s _ _ R Er fun B1 φ1 fl h1' tk1 G1 R1 F1 => by
    cases f with
    | next => exact absurd rfl hf
    | brk => have hF : fl = .brk := F1; subst hF; exact k _ _ _ _ _ G1 R1 rfl
    | ret v => obtain ⟨val, rfl, V⟩ := F1; exact k _ _ _ _ _ G1 R1 ⟨val, rfl, V⟩)
theorem ex_for {target iter : Expr} {body : List Stmt} {p : Pos} {f : AV → Hp → Option (AF × Hp)} (hfn : sc.fn = true) (hf : ∀ v, foldedSetIterable iter env v = pure v) (hturn : ∀ v H1 fl H2, f v H1 = some (fl, H2) → ∃ H1', As prog w A g sc env (assign target env) v H1 H1' ∧ Ex prog w A g sc env (execs body env) H1' fl H2)
    {xs : List AV} {H H1 H2 : Hp} {fl : AF} (h1 : ItE prog w A g sc [] env (eval iter env) H xs H1) (e : loopLit f xs H1 = some (fl, H2)) : Ex prog w A g sc env (exec (.For target iter body [] p) env) H fl H2 := fun B φ s Q E R Er k =>
  wpAny_For (h1 B φ s _ _ R Er fun B1 φ1 h1' tk1 it s' G1 R1 q => by
    obtain ⟨I, h', tk, fp, P, St, rfl, rfl, L, hst, hI, hk⟩ := q
    exact for_lit (s0 := { s with heap := h1', toks := tk1 }) hturn e hfn R1 (Er.grow G1) L hst hI hk ⟨h', tk, rfl⟩ fun B' φ' fl' h'' tk'' G2 R2 F2 => k _ _ _ _ _ (G1.trans G2) R2 F2) hf
end
end Mine
end
section
set_option Elab.async false
set_option linter.all false
namespace Mine
open PySem PyProof.Rows PySem.W
structure Oks where
  f : Nat → Str → Bool
  t : Addr → Nat → Str → Bool
  u : Addr → Nat → Str → Bool
  n : Addr → Str → Bool
  l : Addr → Nat → Bool
noncomputable def glob (sc : SC) (x : Str) : Bool := sc.names.lookup x == some .globalImplicit
noncomputable def globN (sc : SC) (x : Str) : Bool := glob sc x && !(x == ("__debug__" : Str))
noncomputable def wLoc (sc : SC) (locs : List Str) (i : Nat) (x : Str) : Bool := sc.fn && locs[i]? == some x && sc.names.lookup x == some .local && !(x == ("__debug__" : Str))
noncomputable def wCel (sc : SC) (k : Nat) (x : Str) : Bool := sc.cells.lookup x == some k && (sc.names.lookup x == some .cell || sc.names.lookup x == some .free) && !(x == ("__debug__" : Str)) && !(x == ("__classdict__" : Str))
noncomputable def wCv (sc : SC) (i : Nat) (x : Str) : Bool := !sc.fn && sc.locs[i]? == some x && sc.names.lookup x == some .local && !(x == ("__debug__" : Str))
structure Orac (prog : Program) (w : World) (A : Around) (g : Gr) (O : Oks) (C : OC) (D : OD) : Prop where
  f : ∀ {sc : SC} {ξ : List AV} {env : Env} {f : Nat} {x : Str} {es : List Expr} {pn p : Pos} {H H1 : Hp} {vs : List AV} {v : AV}, PlainL es → es.isEmpty = false → O.f f x = true → sc.names.lookup x = some .globalImplicit → (x == ("__debug__" : Str)) = false →
    EvL prog w A g sc ξ env (spliced (es.map fun e => (false, eval e env))) H vs H1 → AV.pures vs = true → C f vs = some v → Ev prog w A g sc ξ env (eval (.Call (.Name x pn) es [] p) env) H v H1
  t : ∀ {sc : SC} {ξ : List AV} {env : Env} {c : Addr} {m : Nat} {x : Str} {o : Expr} {es : List Expr} {pa p : Pos} {H H1 H2 : Hp} {vs xs ys : List AV} {a v : AV} {l : Nat}, PlainL es → O.t c m x = true → Based o → (pa.endLine == p.line) = true → es.length < 5 →
    Ev prog w A g sc ξ env (eval o env) H a H1 → EvL prog w A g sc ξ env (spliced (es.map fun e => (false, eval e env))) H1 vs H2 → AV.pures vs = true → (∃ q, atab c H1 a = some q) → atab c H2 a = some (l, xs) → D m xs vs = some (v, ys) →
    Ev prog w A g sc ξ env (eval (.Call (.Attribute o x pa) es [] p) env) H v (H2.set l (.list ys))
  u : ∀ {sc : SC} {ξ : List AV} {env : Env} {c : Addr} {m : Nat} {x : Str} {o : Expr} {es : List Expr} {pn p : Pos} {H H1 H2 : Hp} {vs xs ys : List AV} {a v : AV} {l : Nat}, PlainL (o :: es) → O.u c m x = true → sc.names.lookup x = some .globalImplicit → (x == ("__debug__" : Str)) = false →
    Ev prog w A g sc ξ env (eval o env) H a H1 → EvL prog w A g sc ξ env (spliced (es.map fun e => (false, eval e env))) H1 vs H2 → AV.pures vs = true → atab c H2 a = some (l, xs) → D m xs vs = some (v, ys) →
    Ev prog w A g sc ξ env (eval (.Call (.Name x pn) (o :: es) [] p) env) H v (H2.set l (.list ys))
  n : ∀ {sc : SC} {ξ : List AV} {env : Env} {c : Addr} {x : Str} {pn p : Pos} {H : Hp}, O.n c x = true → sc.names.lookup x = some .globalImplicit → (x == ("__debug__" : Str)) = false →
    Ev prog w A g sc ξ env (eval (.Call (.Name x pn) [] [] p) env) H (.tab c H.length) (H ++ [.list []])
  l : ∀ {sc : SC} {ξ : List AV} {env : Env} {c : Addr} {m : Nat} {o : Expr} {pn p : Pos} {H H1 : Hp} {xs ys : List AV} {a v : AV} {l : Nat}, PlainL [o] → O.l c m = true → sc.names.lookup (Str.ofString "len") = some .globalImplicit →
    Ev prog w A g sc ξ env (eval o env) H a H1 → atab c H1 a = some (l, xs) → D m xs [] = some (v, ys) →
    Ev prog w A g sc ξ env (eval (.Call (.Name "len" pn) [o] [] p) env) H v (H1.set l (.list ys))
structure Cx (prog : Program) (w : World) (A : Around) (g : Gr) (O : Oks) (C : OC) (D : OD) : Prop where
  fine : Fine A
  top : ∃ mg mb, TopOk g.hb mg mb
  or : Orac prog w A g O C D
structure SE (prog : Program) (w : World) (A : Around) (g : Gr) (sc : SC) (e : Expr) (o : OE) : Prop where
  pl : Plain e
  ev : ∀ {ξ : List AV} {env : Env} {H : Hp} {v : AV} {H' : Hp}, o ξ H = some (v, H') → Ev prog w A g sc ξ env (eval e env) H v H'
structure SL (prog : Program) (w : World) (A : Around) (g : Gr) (sc : SC) (es : List Expr) (o : OL) : Prop where
  pl : PlainL es
  ev : ∀ {ξ : List AV} {env : Env} {H : Hp} {vs : List AV} {H' : Hp}, o ξ H = some (vs, H') → EvL prog w A g sc ξ env (spliced (es.map fun e => (false, eval e env))) H vs H'
structure SB (prog : Program) (w : World) (A : Around) (g : Gr) (sc : SC) (e : Expr) (o : OB) : Prop where
  ev : ∀ {ξ : List AV} {env : Env} {H : Hp} {b : Bool} {H' : Hp}, o ξ H = some (b, H') → EvB prog w A g sc ξ env (isTrue e env (eval e env)) H b H'
structure ST (prog : Program) (w : World) (A : Around) (g : Gr) (sc : SC) (es : List Expr) (o : OB) : Prop where
  ev : ∀ {ξ : List AV} {env : Env} {H : Hp} {b : Bool} {H' : Hp}, o ξ H = some (b, H') → EvB prog w A g sc ξ env (testsOf es env true) H b H'
noncomputable def SI (prog : Program) (w : World) (A : Around) (g : Gr) (sc : SC) (e : Expr) (o : List AV → Hp → Option (List AV × Hp)) : Prop :=
  (∀ env v, foldedSetIterable e env v = pure v) ∧ ∀ {ξ : List AV} {env : Env} {H : Hp} {xs : List AV} {H' : Hp}, o ξ H = some (xs, H') → ItE prog w A g sc ξ env (eval e env) H xs H'
section
variable {prog : Program} {w : World} {A : Around} {g : Gr} {O : Oks} {C : OC} {D : OD} {sc : SC}
theorem glob_ok {x : Str} (h : glob sc x = true) : sc.names.lookup x = some .globalImplicit := eq_of_beq h
theorem nots {x y : Str} (h : (!(x == y)) = true) : (x == y) = false := (Bool.not_eq_true' _).mp h
theorem globN_ok {x : Str} (h : globN sc x = true) : sc.names.lookup x = some .globalImplicit ∧ (x == ("__debug__" : Str)) = false := by
  have h_1 := (Bool.and_eq_true _ _).mp h
  exact ⟨glob_ok h_1.1, nots h_1.2⟩
theorem wi_out {α : Type} {H H' : Hp} {x : Option α} {v : α} (h : wi H x = some (v, H')) : x = some v ∧ H' = H := wi_inv h
theorem some2 {α : Type} {H H' : Hp} {x v : α} (h : some (x, H) = some (v, H')) : v = x ∧ H' = H := by cases h; exact ⟨rfl, rfl⟩
theorem cl_nil : SL prog w A g sc [] oNil := ⟨PlainL.nil, fun h => by obtain ⟨rfl, rfl⟩ := some2 h; exact evl_nil⟩
theorem cl_cons {e : Expr} {r : List Expr} {o : OE} {q : OL} (h : SE prog w A g sc e o) (k : SL prog w A g sc r q) : SL prog w A g sc (e :: r) (oCons o q) := ⟨PlainL.cons h.pl k.pl, fun x => by
  obtain ⟨v, H1, e1, x_1⟩ := th_inv x
  obtain ⟨vs, H2, e2, x_2⟩ := th_inv x_1
  cases x_2
  exact evl_cons (h.ev e1) (k.ev e2)⟩
theorem c_k {c : Const} {p : Pos} {v : AV} (h : kv c = some v) : SE prog w A g sc (.Constant c 0 p) (oK v) := ⟨plain_const, fun x => by obtain ⟨rfl, rfl⟩ := some2 x; exact ev_k h⟩
theorem c_loc {i : Nat} {x : Str} {p : Pos} (h : wLoc sc g.locs i x = true) : SE prog w A g sc (.Name x p) (oLoc i) := ⟨plain_name, fun y => by
  obtain ⟨e, rfl⟩ := wi_out y
  unfold wLoc at h
  simp only [Bool.and_eq_true] at h
  exact ev_loc e h.1.1.1 (eq_of_beq h.1.1.2) (eq_of_beq h.1.2) (nots h.2)⟩
theorem c_cel {i : Nat} {x : Str} {p : Pos} (h : wCel sc i x = true) : SE prog w A g sc (.Name x p) (oCel i) := ⟨plain_name, fun y => by
  obtain ⟨e, rfl⟩ := wi_out y
  unfold wCel at h
  simp only [Bool.and_eq_true, Bool.or_eq_true] at h
  exact ev_cel e (eq_of_beq h.1.1.1) (h.1.1.2.imp eq_of_beq eq_of_beq) (nots h.1.2) (nots h.2)⟩
theorem c_cv {i : Nat} {x : Str} {p : Pos} (h : wCv sc i x = true) : SE prog w A g sc (.Name x p) (oCv i) := ⟨plain_name, fun y => by
  obtain ⟨e, rfl⟩ := wi_out y
  unfold wCv at h
  simp only [Bool.and_eq_true] at h
  exact ev_cv e ((Bool.not_eq_true' _).mp h.1.1.1) (eq_of_beq h.1.1.2) (eq_of_beq h.1.2) (nots h.2)⟩
theorem c_bin {op : Operator} {l r : Expr} {p : Pos} {ol or : OE} (h : SE prog w A g sc l ol) (k : SE prog w A g sc r or) : SE prog w A g sc (.BinOp l op r p) (oBin op ol or) := ⟨plain_bin, fun x => by
  obtain ⟨a, H1, e1, x_1⟩ := th_inv x
  obtain ⟨b, H2, e2, x_2⟩ := th_inv x_1
  obtain ⟨e, rfl⟩ := wi_out x_2
  exact ev_bin (h.ev e1) (k.ev e2) e⟩
theorem c_cmp (X : Cx prog w A g O C D) {op : CmpOp} {l r : Expr} {p : Pos} {ol or : OE} (h : SE prog w A g sc l ol) (k : SE prog w A g sc r or) : SE prog w A g sc (.Compare l [op] [r] p) (oCmp op ol or) := ⟨plain_cmp, fun x => by
  obtain ⟨c, H3, x_1, y⟩ := th_inv x
  obtain ⟨rfl, rfl⟩ := some2 y
  obtain ⟨a, H1, e1, x_2⟩ := th_inv x_1
  obtain ⟨b, H2, e2, x_3⟩ := th_inv x_2
  obtain ⟨e, rfl⟩ := wi_out x_3
  exact ev_cmp X.fine (h.ev e1) (k.ev e2) e (k.pl.marks _)⟩
theorem cb_cmp (X : Cx prog w A g O C D) {op : CmpOp} {l r : Expr} {p : Pos} {ol or : OE} (h : SE prog w A g sc l ol) (k : SE prog w A g sc r or) : SB prog w A g sc (.Compare l [op] [r] p) (tCmp op ol or) := ⟨fun x => by
  obtain ⟨a, H1, e1, x_1⟩ := th_inv x
  obtain ⟨b, H2, e2, x_2⟩ := th_inv x_1
  obtain ⟨e, rfl⟩ := wi_out x_2
  exact evb_cmp X.fine (h.ev e1) (k.ev e2) e (k.pl.marks _)⟩
theorem cb_val {e : Expr} {o : OE} (h : SE prog w A g sc e o) (hs : ∀ env, isTrue e env (eval e env) = (do let v ← eval e env; standAt e.pos; holding [v] (truthy v))) : SB prog w A g sc e (tVal o) := ⟨fun x => by
  obtain ⟨a, H1, e1, x_1⟩ := th_inv x
  obtain ⟨e2, rfl⟩ := wi_out x_1
  exact evb_val (hs _) (h.ev e1) e2⟩
theorem cb_or {l r : Expr} {p : Pos} {ol or : OB} (h : SB prog w A g sc l ol) (k : SB prog w A g sc r or) : SB prog w A g sc (.BoolOp .Or [l, r] p) (tOr ol or) := ⟨fun x => by
  obtain ⟨b, H1, e1, x_1⟩ := th_inv x
  cases b with
  | true => obtain ⟨rfl, rfl⟩ := some2 x_1; exact evb_or (h.ev e1)
  | false => exact evb_or2 (h.ev e1) (k.ev x_1)⟩
theorem c_ife {t a b : Expr} {p : Pos} {ot : OB} {oa ob : OE} (h : SB prog w A g sc t ot) (ha : SE prog w A g sc a oa) (hb : SE prog w A g sc b ob) : SE prog w A g sc (.IfExp t a b p) (oIfe ot oa ob) := ⟨plain_ife, fun x => by
  obtain ⟨c, H1, e1, x_1⟩ := th_inv x
  cases c with
  | true => exact ev_ife (h.ev e1) (ha.ev x_1)
  | false => exact ev_ife (h.ev e1) (hb.ev x_1)⟩
theorem c_lst {es : List Expr} {p : Pos} {o : OL} (h : SL prog w A g sc es o) : SE prog w A g sc (.List es p) (oLst o) := ⟨plain_list, fun x => by
  obtain ⟨vs, H1, e1, x_1⟩ := th_inv x
  obtain ⟨hs, x_2⟩ := gd_inv x_1
  cases x_2
  exact ev_lst h.pl (h.ev e1) hs⟩
theorem c_lstM {es : List Expr} {p : Pos} {o : OL} (h : SL prog w A g sc es o) : SE prog w A g sc (.List es p) (oLstM o) := ⟨plain_list, fun x => by
  obtain ⟨vs, H1, e1, x_1⟩ := th_inv x
  obtain ⟨hs, x_2⟩ := gd_inv x_1
  cases x_2
  exact ev_lstM h.pl (h.ev e1) hs⟩
theorem c_tup {es : List Expr} {n : Nat} {p : Pos} {o : OL} (h : SL prog w A g sc es o) : SE prog w A g sc (.Tuple es n p) (oTup o) := ⟨plain_tuple, fun x => by
  obtain ⟨vs, H1, e1, x_1⟩ := th_inv x
  obtain ⟨hs, x_2⟩ := gd_inv x_1
  cases x_2
  exact ev_tup h.pl (h.ev e1) hs⟩
noncomputable def iAll (o : OE) : List AV → Hp → Option (List AV × Hp) := fun ξ H => th (o ξ H) fun v H1 => wi H1 (asrc v)
noncomputable def iR1 (o : OE) : List AV → Hp → Option (List AV × Hp) := fun ξ H => th (o ξ H) fun v H1 => v.int?.bind fun n => gd (rngOk 0 n) (some (rangeL 0 n, H1))
noncomputable def iR2 (a b : OE) : List AV → Hp → Option (List AV × Hp) := fun ξ H => th (a ξ H) fun v H1 => th (b ξ H1) fun u H2 => onI v u fun m n => gd (rngOk m n) (some (rangeL m n, H2))
theorem ci_all (X : Cx prog w A g O C D) {e : Expr} {o : OE} (h : SE prog w A g sc e o) : SI prog w A g sc e (iAll o) := ⟨h.pl.folds, fun x => by
  obtain ⟨v, H1, e1, x_1⟩ := th_inv x
  obtain ⟨e2, rfl⟩ := wi_out x_1
  exact it_of X.fine.1 (h.ev e1) e2⟩
theorem ci_r1 (X : Cx prog w A g O C D) {e : Expr} {pn p : Pos} {o : OE} (h : SE prog w A g sc e o) (hx : glob sc (Str.ofString "range") = true) : SI prog w A g sc (.Call (.Name "range" pn) [e] [] p) (iR1 o) := ⟨fun _ _ => rfl, fun x => by
  obtain ⟨mg, mb, T⟩ := X.top
  obtain ⟨v, H1, e1, x_1⟩ := th_inv x
  obtain ⟨n, en, x_2⟩ := bind_inv x_1
  cases int_inv en
  obtain ⟨hr, x_3⟩ := gd_inv x_2
  cases x_3
  exact it_range1 X.fine.1 T (PlainL.cons h.pl PlainL.nil) (glob_ok hx) (h.ev e1) hr⟩
theorem ci_r2 (X : Cx prog w A g O C D) {e f : Expr} {pn p : Pos} {o q : OE} (h : SE prog w A g sc e o) (k : SE prog w A g sc f q) (hx : glob sc (Str.ofString "range") = true) : SI prog w A g sc (.Call (.Name "range" pn) [e, f] [] p) (iR2 o q) := ⟨fun _ _ => rfl, fun x => by
  obtain ⟨mg, mb, T⟩ := X.top
  obtain ⟨v, H1, e1, x_1⟩ := th_inv x
  obtain ⟨u, H2, e2, x_2⟩ := th_inv x_1
  obtain ⟨m, n, rfl, rfl, x_3⟩ := onI_inv x_2
  obtain ⟨hr, x_4⟩ := gd_inv x_3
  cases x_4
  exact it_range2 X.fine.1 T (PlainL.cons h.pl (PlainL.cons k.pl PlainL.nil)) (glob_ok hx) (h.ev e1) (k.ev e2) hr⟩
theorem ct_nil : ST prog w A g sc [] tNil := ⟨fun x => by obtain ⟨rfl, rfl⟩ := some2 x; exact evb_tests_nil⟩
theorem ct_one {e : Expr} {o : OB} (h : SB prog w A g sc e o) : ST prog w A g sc [e] (tOne o) := ⟨fun {ξ env H b H'} x => by
  cases b with
  | true => exact evb_tests_true (h.ev x) evb_tests_nil
  | false => exact evb_tests_false (h.ev x)⟩
noncomputable def oComp' (elt : OE) (it : List AV → Hp → Option (List AV × Hp)) (ifs : OB) : OE := fun ξ H => th (it ξ H) fun xs H1 => compAll (oTurn elt ifs) xs H1
theorem turn_ok {elt : Expr} {ifs : List Expr} {oe : OE} {oi : OB} (h : SE prog w A g sc elt oe) (k : ST prog w A g sc ifs oi) {v : AV} {H1 H2 : Hp} {r : Option AV} (x : oTurn oe oi v H1 = some (r, H2)) : CTurn prog w A g sc ifs elt [v] H1 r H2 := by
  obtain ⟨b, Hm, e1, x_1⟩ := th_inv x
  cases b with
  | true =>
    obtain ⟨y, Hy, e2, x_2⟩ := th_inv (of_t x_1)
    cases x_2
    exact ⟨true, Hm, fun cenv => k.ev e1, .inl ⟨rfl, y, rfl, fun cenv => h.ev e2⟩⟩
  | false =>
    have y : some ((none : Option AV), Hm) = some (r, H2) := x_1
    cases y
    exact ⟨false, _, fun cenv => k.ev e1, .inr ⟨rfl, rfl, rfl⟩⟩
theorem c_comp' {elt it : Expr} {x : Str} {px p : Pos} {ifs : List Expr} {scope : Scope} {oe : OE} {oi : List AV → Hp → Option (List AV × Hp)} {ot : OB} (hc : compOk sc scope x = true) (hi : SI prog w A g sc it oi) (ht : ST prog w A g (compSC sc scope x) ifs ot) (he : SE prog w A g (compSC sc scope x) elt oe) :
    SE prog w A g sc (.ListComp elt [⟨.Name x px, it, ifs, 0⟩] scope p) (oComp' oe oi ot) := ⟨plain_comp, fun {ξ env H v H'} y => by
  obtain ⟨xs, H1, e1, y_1⟩ := th_inv y
  obtain ⟨hz, y_2⟩ := gd_inv y_1
  obtain ⟨ys, H2, e2, y_3⟩ := th_inv y_2
  cases y_3
  exact ev_comp hc (hi.1 env) (fun v H1 r H2 ef => turn_ok he ht ef) (hi.2 e1) e2 hz⟩
theorem SE.as {e : Expr} {o o' : OE} (h : SE prog w A g sc e o) (k : o' = o) : SE prog w A g sc e o' := k ▸ h
theorem comp_all (elt it : OE) (ifs : OB) : oComp elt it ifs = oComp' elt (iAll it) ifs := by
  funext ξ H
  show th (it ξ H) _ = th (th (it ξ H) _) _
  cases it ξ H with
  | none => rfl
  | some p => show (asrc p.1).bind _ = th (wi p.2 (asrc p.1)) _; cases asrc p.1 <;> rfl
theorem comp_r1 (elt a : OE) (ifs : OB) : oCompR1 elt a ifs = oComp' elt (iR1 a) ifs := by
  funext ξ H
  show th (a ξ H) _ = th (th (a ξ H) _) _
  cases a ξ H with
  | none => rfl
  | some p =>
    show p.1.int?.bind _ = th (p.1.int?.bind _) _
    cases p.1.int? with
    | none => rfl
    | some n => show gd (rngOk 0 n) _ = th (gd (rngOk 0 n) _) _; cases rngOk 0 n <;> rfl
theorem c_comp (X : Cx prog w A g O C D) {elt it : Expr} {x : Str} {px p : Pos} {ifs : List Expr} {scope : Scope} {oe oi : OE} {ot : OB} (hc : compOk sc scope x = true) (hi : SE prog w A g sc it oi) (ht : ST prog w A g (compSC sc scope x) ifs ot) (he : SE prog w A g (compSC sc scope x) elt oe) :
    SE prog w A g sc (.ListComp elt [⟨.Name x px, it, ifs, 0⟩] scope p) (oComp oe oi ot) := (c_comp' hc (ci_all X hi) ht he).as (comp_all _ _ _)
theorem c_sub {v i : Expr} {p : Pos} {ov oi : OE} (h : SE prog w A g sc v ov) (k : SE prog w A g sc i oi) : SE prog w A g sc (.Subscript v i p) (oSub ov oi) := ⟨plain_sub, fun x => by
  obtain ⟨a, H1, e1, x_1⟩ := th_inv x
  obtain ⟨b, H2, e2, x_2⟩ := th_inv x_1
  obtain ⟨e, rfl⟩ := wi_out x_2
  exact ev_sub (h.ev e1) (k.ev e2) e k.pl⟩
theorem c_slc {v lo hi : Expr} {ps p : Pos} {ov ol oh : OE} (h : SE prog w A g sc v ov) (k : SE prog w A g sc lo ol) (m : SE prog w A g sc hi oh) : SE prog w A g sc (.Subscript v (.Slice (some lo) (some hi) none ps) p) (oSlc ov ol oh) := ⟨plain_sub, fun x => by
  obtain ⟨a, H1, e1, x_1⟩ := th_inv x
  obtain ⟨b, H2, e2, x_2⟩ := th_inv x_1
  obtain ⟨c, H3, e3, x_3⟩ := th_inv x_2
  obtain ⟨i, j, rfl, rfl, x_4⟩ := onI_inv x_3
  obtain ⟨e, rfl⟩ := wi_out x_4
  exact ev_slc (h.ev e1) (k.ev e2) (m.ev e3) e⟩
theorem c_slcTo {v hi : Expr} {ps p : Pos} {ov oh : OE} (h : SE prog w A g sc v ov) (m : SE prog w A g sc hi oh) : SE prog w A g sc (.Subscript v (.Slice none (some hi) none ps) p) (oSlcTo ov oh) := ⟨plain_sub, fun x => by
  obtain ⟨a, H1, e1, x_1⟩ := th_inv x
  obtain ⟨b, H2, e2, x_2⟩ := th_inv x_1
  obtain ⟨j, ej, x_3⟩ := bind_inv x_2
  cases int_inv ej
  obtain ⟨e, rfl⟩ := wi_out x_3
  exact ev_slcTo (h.ev e1) (m.ev e2) e⟩
theorem c_slcFrom {v lo : Expr} {ps p : Pos} {ov ol : OE} (h : SE prog w A g sc v ov) (m : SE prog w A g sc lo ol) : SE prog w A g sc (.Subscript v (.Slice (some lo) none none ps) p) (oSlcFrom ov ol) := ⟨plain_sub, fun x => by
  obtain ⟨a, H1, e1, x_1⟩ := th_inv x
  obtain ⟨b, H2, e2, x_2⟩ := th_inv x_1
  obtain ⟨j, ej, x_3⟩ := bind_inv x_2
  cases int_inv ej
  obtain ⟨e, rfl⟩ := wi_out x_3
  exact ev_slcFrom (h.ev e1) (m.ev e2) e⟩
theorem PlainL.one {e : Expr} (h : Plain e) : PlainL [e] := PlainL.cons h PlainL.nil
theorem c_len (X : Cx prog w A g O C D) {e : Expr} {pn p : Pos} {o : OE} (hx : glob sc (Str.ofString "len") = true) (h : SE prog w A g sc e o) : SE prog w A g sc (.Call (.Name "len" pn) [e] [] p) (oLen o) := ⟨plain_call, fun x => by
  obtain ⟨mg, mb, T⟩ := X.top
  obtain ⟨a, H1, e1, x_1⟩ := th_inv x
  obtain ⟨n, en, x_2⟩ := bind_inv x_1
  obtain ⟨hn, x_3⟩ := gd_inv x_2
  cases x_3
  exact ev_len T (PlainL.one h.pl) (glob_ok hx) (h.ev e1) en hn⟩
theorem c_toInt (X : Cx prog w A g O C D) {e : Expr} {pn p : Pos} {o : OE} (hx : glob sc (Str.ofString "int") = true) (h : SE prog w A g sc e o) : SE prog w A g sc (.Call (.Name "int" pn) [e] [] p) (oToInt o) := ⟨plain_call, fun x => by
  obtain ⟨mg, mb, T⟩ := X.top
  obtain ⟨a, H1, e1, x_1⟩ := th_inv x
  obtain ⟨b, eb, x_2⟩ := bind_inv x_1
  cases flt_inv eb
  obtain ⟨e2, rfl⟩ := wi_out x_2
  obtain ⟨n, en, rfl⟩ := map_inv e2
  exact ev_toInt T (PlainL.one h.pl) (glob_ok hx) (h.ev e1) en⟩
theorem c_toStr (X : Cx prog w A g O C D) {e : Expr} {pn p : Pos} {o : OE} (hx : glob sc (Str.ofString "str") = true) (h : SE prog w A g sc e o) : SE prog w A g sc (.Call (.Name "str" pn) [e] [] p) (oToStr o) := ⟨plain_call, fun x => by
  obtain ⟨mg, mb, T⟩ := X.top
  obtain ⟨a, H1, e1, x_1⟩ := th_inv x
  obtain ⟨n, en, x_2⟩ := bind_inv x_1
  cases int_inv en
  obtain ⟨hn, x_3⟩ := gd_inv x_2
  cases x_3
  exact ev_toStr T (PlainL.one h.pl) (glob_ok hx) (h.ev e1) hn⟩
theorem c_mm (X : Cx prog w A g O C D) (b : Bool) {e : Expr} {r : List Expr} {pn p : Pos} {o : OE} {q : OL} (hx : glob sc (Str.ofString (mmName b)) = true) (h : SE prog w A g sc e o) (k : SL prog w A g sc r q) : SE prog w A g sc (.Call (.Name (Str.ofString (mmName b)) pn) (e :: r) [] p) (oMm b (oCons o q)) := ⟨plain_call, fun x => by
  obtain ⟨mg, mb, T⟩ := X.top
  obtain ⟨vs, H1, e1, x_1⟩ := th_inv x
  obtain ⟨e2, rfl⟩ := wi_out x_1
  exact ev_mm X.fine T (PlainL.cons h.pl k.pl) k.pl (glob_ok hx) ((cl_cons h k).ev e1) e2⟩
theorem c_min1 (X : Cx prog w A g O C D) {e : Expr} {pn p : Pos} {o : OE} (hx : glob sc (Str.ofString (mmName false)) = true) (h : SE prog w A g sc e o) : SE prog w A g sc (.Call (.Name (Str.ofString (mmName false)) pn) [e] [] p) (oMin1 o) := ⟨plain_call, fun x => by
  obtain ⟨mg, mb, T⟩ := X.top
  obtain ⟨v, H1, e1, x_1⟩ := th_inv x
  obtain ⟨e2, rfl⟩ := wi_out x_1
  obtain ⟨xs, e3, e4⟩ := bind_inv e2
  exact ev_min1 X.fine T (PlainL.one h.pl) (glob_ok hx) (h.ev e1) e3 e4⟩
noncomputable def line1 (pa p : Pos) : Bool := pa.endLine == p.line
theorem sm_one {m : SM} {ξ : List AV} {H H' : Hp} {v : AV} {oo oe : OE} (x : oSm m oo (oCons oe oNil) ξ H = some (v, H')) : ∃ s H1 u, oo ξ H = some (.str s, H1) ∧ oe ξ H1 = some (u, H') ∧ asm H' m s [u] = some v := by
  obtain ⟨a, H1, e1, x_1⟩ := th_inv x
  obtain ⟨s, es, x_2⟩ := bind_inv x_1
  cases str_inv es
  obtain ⟨vs, H2, e2, x_3⟩ := th_inv x_2
  obtain ⟨e3, rfl⟩ := wi_out x_3
  obtain ⟨u, H3, e4, y⟩ := th_inv e2
  cases y
  exact ⟨s, H1, u, e1, e4, e3⟩
theorem c_join {o e : Expr} {pa p : Pos} {oo oe : OE} (hb : Based o) (hl : line1 pa p = true) (h : SE prog w A g sc o oo) (k : SE prog w A g sc e oe) : SE prog w A g sc (.Call (.Attribute o SM.join.name pa) [e] [] p) (oSm .join oo (oCons oe oNil)) := ⟨plain_call, fun x => by
  obtain ⟨s, H1, u, e1, e2, e3⟩ := sm_one x
  obtain ⟨xs, ex, e3_2⟩ := bind_inv (show (lists? _ u).bind _ = some _ from e3)
  obtain ⟨ts, et, e3_3⟩ := bind_inv e3_2
  obtain ⟨hs, e3_4⟩ := gd_inv e3_3
  cases e3_4
  have hs_1 := (Bool.and_eq_true _ _).mp hs
  exact ev_join (PlainL.one k.pl) hb hl (h.ev e1) (k.ev e2) ex et hs_1.1 hs_1.2⟩
theorem c_split {o e : Expr} {pa p : Pos} {oo oe : OE} (hb : Based o) (hl : line1 pa p = true) (h : SE prog w A g sc o oo) (k : SE prog w A g sc e oe) : SE prog w A g sc (.Call (.Attribute o SM.split.name pa) [e] [] p) (oSm .split oo (oCons oe oNil)) := ⟨plain_call, fun x => by
  obtain ⟨s, H1, u, e1, e2, e3⟩ := sm_one x
  obtain ⟨t, et, e3_2⟩ := bind_inv (show u.str?.bind _ = some _ from e3)
  cases str_inv et
  obtain ⟨hs, e3_3⟩ := gd_inv e3_2
  cases e3_3
  have hs_1 := (Bool.and_eq_true _ _).mp hs
  cases of_decide_eq_true hs_1.1
  exact ev_split (PlainL.one k.pl) hb hl (h.ev e1) (k.ev e2) hs_1.2⟩
theorem c_index {o e : Expr} {pa p : Pos} {oo oe : OE} (hb : Based o) (hl : line1 pa p = true) (h : SE prog w A g sc o oo) (k : SE prog w A g sc e oe) : SE prog w A g sc (.Call (.Attribute o SM.index.name pa) [e] [] p) (oSm .index oo (oCons oe oNil)) := ⟨plain_call, fun x => by
  obtain ⟨s, H1, u, e1, e2, e3⟩ := sm_one x
  obtain ⟨t, et, e3_2⟩ := bind_inv (show u.str?.bind _ = some _ from e3)
  cases str_inv et
  obtain ⟨c, ec, e3_3⟩ := bind_inv e3_2
  cases one_inv ec
  obtain ⟨hs, e3_4⟩ := gd_inv e3_3
  cases e3_4
  exact ev_index (PlainL.one k.pl) hb hl (h.ev e1) (k.ev e2) hs⟩
theorem sm_none {m : SM} {ξ : List AV} {H H' : Hp} {v : AV} {oo : OE} (x : oSm m oo oNil ξ H = some (v, H')) : ∃ s, oo ξ H = some (.str s, H') ∧ asm H' m s [] = some v := by
  obtain ⟨a, H1, e1, x_1⟩ := th_inv x
  obtain ⟨s, es, x_2⟩ := bind_inv x_1
  cases str_inv es
  obtain ⟨vs, H2, e2, x_3⟩ := th_inv x_2
  cases e2
  obtain ⟨e3, rfl⟩ := wi_out x_3
  exact ⟨s, e1, e3⟩
theorem c_upper {o : Expr} {pa p : Pos} {oo : OE} (hb : Based o) (hl : line1 pa p = true) (h : SE prog w A g sc o oo) : SE prog w A g sc (.Call (.Attribute o SM.upper.name pa) [] [] p) (oSm .upper oo oNil) := ⟨plain_call, fun x => by
  obtain ⟨s, e1, e3⟩ := sm_none x
  obtain ⟨hs, e3_1⟩ := gd_inv e3
  cases e3_1
  have hs_1 := (Bool.and_eq_true _ _).mp hs
  have hs_2 := (Bool.and_eq_true _ _).mp hs_1.2
  exact ev_upper hb hl (h.ev e1) hs_2.1 hs_2.2⟩
theorem c_lower {o : Expr} {pa p : Pos} {oo : OE} (hb : Based o) (hl : line1 pa p = true) (h : SE prog w A g sc o oo) : SE prog w A g sc (.Call (.Attribute o SM.lower.name pa) [] [] p) (oSm .lower oo oNil) := ⟨plain_call, fun x => by
  obtain ⟨s, e1, e3⟩ := sm_none x
  obtain ⟨hs, e3_1⟩ := gd_inv e3
  cases e3_1
  have hs_1 := (Bool.and_eq_true _ _).mp hs
  have hs_2 := (Bool.and_eq_true _ _).mp hs_1.2
  exact ev_lower hb hl (h.ev e1) hs_2.1 hs_2.2⟩
theorem c_app {o e : Expr} {pa p : Pos} {oo oe : OE} (hb : Based o) (hl : line1 pa p = true) (h : SE prog w A g sc o oo) (k : SE prog w A g sc e oe) : SE prog w A g sc (.Call (.Attribute o LM.append.name pa) [e] [] p) (oApp oo oe) := ⟨plain_call, fun x => by
  obtain ⟨a, H1, e1, x_1⟩ := th_inv x
  obtain ⟨l, el, x_2⟩ := bind_inv x_1
  cases ref_inv el
  obtain ⟨h0, x_3⟩ := gd_inv x_2
  obtain ⟨v, H2, e2, x_4⟩ := th_inv x_3
  obtain ⟨xs, ex, x_5⟩ := bind_inv x_4
  obtain ⟨hs, x_6⟩ := gd_inv x_5
  cases x_6
  obtain ⟨ys, ey⟩ := Option.isSome_iff_exists.mp h0
  exact ev_append (PlainL.one k.pl) hb hl (h.ev e1) (k.ev e2) ⟨ys, getList_inv ey⟩ (getList_inv ex) hs⟩
theorem dStep_inv {m l : Nat} {xs vs : List AV} {H H' : Hp} {v : AV} (h : dStep D m l xs vs H = some (v, H')) : ∃ ys, D m xs vs = some (v, ys) ∧ H' = H.set l (.list ys) := by
  obtain ⟨p, e, q⟩ := map_inv h
  cases q
  exact ⟨p.2, e, rfl⟩
theorem c_fc (X : Cx prog w A g O C D) {f : Nat} {x : Str} {es : List Expr} {pn p : Pos} {q : OL} (hn : es.isEmpty = false) (ho : O.f f x = true) (hg : globN sc x = true) (h : SL prog w A g sc es q) : SE prog w A g sc (.Call (.Name x pn) es [] p) (oFc C f q) := ⟨plain_call, fun y => by
  obtain ⟨vs, H1, e1, y_1⟩ := th_inv y
  obtain ⟨hp, y_2⟩ := gd_inv y_1
  obtain ⟨e2, rfl⟩ := wi_out y_2
  exact X.or.f h.pl hn ho (globN_ok hg).1 (globN_ok hg).2 (h.ev e1) hp e2⟩
theorem c_tc (X : Cx prog w A g O C D) {c : Addr} {m : Nat} {x : Str} {o : Expr} {es : List Expr} {pa p : Pos} {oo : OE} {q : OL} (ho : O.t c m x = true) (hb : Based o) (hl : line1 pa p = true) (hn : es.length < 5) (h : SE prog w A g sc o oo) (k : SL prog w A g sc es q) : SE prog w A g sc (.Call (.Attribute o x pa) es [] p) (oTc D c m oo q) := ⟨plain_call, fun y => by
  obtain ⟨a, H1, e1, y_1⟩ := th_inv y
  obtain ⟨h0, y_2⟩ := gd_inv y_1
  obtain ⟨vs, H2, e2, y_3⟩ := th_inv y_2
  obtain ⟨hp, y_4⟩ := gd_inv y_3
  obtain ⟨r, er, y_5⟩ := bind_inv y_4
  obtain ⟨ys, ed, rfl⟩ := dStep_inv y_5
  exact X.or.t k.pl ho hb hl hn (h.ev e1) (k.ev e2) hp (Option.isSome_iff_exists.mp h0) er ed⟩
theorem c_tf (X : Cx prog w A g O C D) {c : Addr} {m : Nat} {x : Str} {o : Expr} {es : List Expr} {pn p : Pos} {oo : OE} {q : OL} (ho : O.u c m x = true) (hg : globN sc x = true) (h : SE prog w A g sc o oo) (k : SL prog w A g sc es q) : SE prog w A g sc (.Call (.Name x pn) (o :: es) [] p) (oTf D c m oo q) := ⟨plain_call, fun y => by
  obtain ⟨a, H1, e1, y_1⟩ := th_inv y
  obtain ⟨vs, H2, e2, y_2⟩ := th_inv y_1
  obtain ⟨hp, y_3⟩ := gd_inv y_2
  obtain ⟨r, er, y_4⟩ := bind_inv y_3
  obtain ⟨ys, ed, rfl⟩ := dStep_inv y_4
  exact X.or.u (PlainL.cons h.pl k.pl) ho (globN_ok hg).1 (globN_ok hg).2 (h.ev e1) (k.ev e2) hp er ed⟩
theorem c_tn (X : Cx prog w A g O C D) {c : Addr} {x : Str} {pn p : Pos} (ho : O.n c x = true) (hg : globN sc x = true) : SE prog w A g sc (.Call (.Name x pn) [] [] p) (oTn c) := ⟨plain_call, fun y => by
  obtain ⟨rfl, rfl⟩ := some2 y
  exact X.or.n ho (globN_ok hg).1 (globN_ok hg).2⟩
theorem c_tl (X : Cx prog w A g O C D) {c : Addr} {m : Nat} {o : Expr} {pn p : Pos} {oo : OE} (ho : O.l c m = true) (hg : glob sc (Str.ofString "len") = true) (h : SE prog w A g sc o oo) : SE prog w A g sc (.Call (.Name "len" pn) [o] [] p) (oTl D c m oo) := ⟨plain_call, fun y => by
  obtain ⟨a, H1, e1, y_1⟩ := th_inv y
  obtain ⟨r, er, y_2⟩ := bind_inv y_1
  obtain ⟨ys, ed, rfl⟩ := dStep_inv y_2
  exact X.or.l (PlainL.one h.pl) ho (glob_ok hg) (h.ev e1) er ed⟩
end
end Mine
end
section
set_option Elab.async false
set_option linter.all false
namespace Mine
open PySem PyProof.Rows PySem.W
section
variable {prog : Program} {w : World} {A : Around} {g : Gr} {sc : SC} {env : Env} {mg mb : Str → Option Value} {O : Oks} {C : OC} {D : OD}
theorem setItem_own {s : Shared} {E : Value → Shared → Prop} {Q : Unit → Shared → Prop} {l : Addr} {vs : List Value} {n : Nat} {k : Int} {t : Tok} {v : Value} (ho : s.heap.get? l = some (lstObj vs n)) (h0 : 0 ≤ k) (hfit : k < 2 ^ 63) (hn : k < vs.length)
    (hQ : Q () { s with heap := s.heap.update l (Obj.mapSeq fun xs => xs.setIfInBounds k.toNat v) }) : wpAny (model prog w) A (setItem (.ref l) (.int k t) v) Q E s := by
  have hl := isList_of ho
  unfold setItem
  try with_reducible refine wpAny_holding ?_
  first | refine wpAny_bind (wpAny_pure ?_) | skip
  refine wpAny_bind (wpAny_sequenceKey hl.typeIs (by decide) ?_)
  refine wpAny_bind (wpAny_callSpecial?_slot (name := Str.ofString "__setitem__") hl.typeIs slot_list_setitem
    (wpAny_call_entry slot_list_setitem hl.typeIs entry_list_setitem ?_ (args_list_setitem _ _ _)))
  show wpAny _ _ (Builtin.List.listSubscript? (.int k t) >>= _) _ _ s
  refine wpAny_bind (wpAny_listSubscript_int (fitsIndex_of h0 hfit) ?_)
  obtain ⟨j, rfl⟩ := Int.eq_ofNat_of_zero_le h0
  have hj : j < vs.toArray.size := by simp; omega
  have hx' : vs.toArray[j]? = some vs.toArray[j] := Array.getElem?_eq_getElem hj
  show wpAny _ _ ((seqItemAt l j >>= fun r => pure (r.map (j, ·))) >>= _) _ _ s
  refine wpAny_bind (wpAny_bind (wpAny_seqItemAt ho rfl (wpAny_pure ?_)))
  rw [hx']
  show wpAny _ _ (setSeqItemAt l j v >>= _) _ _ s
  refine wpAny_bind (wpAny_setSeqItemAt ho rfl ?_)
  first
    | exact wpAny_bind (wpAny_pure (wpAny_pure ⟨.none, rfl, wpAny_pure hQ⟩))
    | exact wpAny_pure ⟨.none, rfl, wpAny_pure hQ⟩
theorem ex_seti {o i e : Expr} {ps p : Pos} {H H1 H2 H3 : Hp} {v : AV} {k : Nat} {j : Int} {xs : List AV} (h1 : Ev prog w A g sc [] env (eval e env) H v H1) (h2 : Ev prog w A g sc [] env (eval o env) H1 (.ref k) H2) (h3 : Ev prog w A g sc [] env (eval i env) H2 (.int j) H3)
    (hk : H3[k]? = some (.list xs)) (hj : 0 ≤ j ∧ j < xs.length) (hsm : small xs.length = true) (hs : swapsWith e (some (.Subscript o i ps)) p.line env = pure false) :
    Ex prog w A g sc env (exec (.Assign [.Subscript o i ps] e p) env) H .next (H3.set k (.list (xs.set j.toNat v))) := fun B φ s Q E R Er kk =>
  wpAny_Assign_Subscript (h1 B φ s _ _ R Er fun B1 φ1 val h1' tk1 G1 R1 V1 => h2 B1 φ1 _ _ _ R1 (Er.grow G1) fun B2 φ2 vo h2' tk2 G2 R2 V2 => h3 B2 φ2 _ _ _ R2 ((Er.grow G1).grow G2) fun B3 φ3 vi h3' tk3 G3 R3 V3 => by
    obtain ⟨l, el, rfl⟩ := vr_ref (G3.vr V2)
    obtain ⟨t, rfl⟩ := vr_int V3
    obtain ⟨us, n, ho, ru⟩ := R3.obj _ _ _ el hk
    have hle := small_le hsm
    have hlen := ru.length
    refine setItem_own ho hj.1 (by omega) (by omega) ?_
    obtain ⟨⟨n', u1⟩, u2⟩ := upd_list ho (fun a => a.setIfInBounds j.toNat val) (us.set j.toNat val) (by simp)
    have G4 : Grow φ3 B3 h3' φ3 B3 (h3'.update l (Obj.mapSeq fun xs => xs.setIfInBounds j.toNat val)) := Grow.set el u2
    exact kk _ _ _ _ _ (G1.trans (G2.trans (G3.trans G4))) (R3.set el ⟨_, hk, rfl⟩ u2 ⟨_, u1⟩ ⟨_, _, u1, ru.set j.toNat (G3.vr (G2.vr V1))⟩) rfl) hs
noncomputable def wV (sc : SC) (locs : List Str) (x : Str) : OV → Bool
  | .loc i => locs[i]? == some x && sc.names.lookup x == some .local
  | .cel k => sc.cells.lookup x == some k && sc.names.lookup x == some .cell
theorem as_var (hf : sc.fn = true) {v : OV} {x : Str} {a : AV} {H H' : Hp} (hw : wV sc g.locs x v = true) (e : oSet H v a = some H') : As prog w A g sc env (storeName env x) a H H' := by
  cases v with
  | loc i => have hw := (Bool.and_eq_true _ _).mp hw; exact as_loc e hf (eq_of_beq hw.1) (eq_of_beq hw.2)
  | cel k => have hw := (Bool.and_eq_true _ _).mp hw; exact as_cel e (eq_of_beq hw.1) (eq_of_beq hw.2)
structure SA (prog : Program) (w : World) (A : Around) (g : Gr) (sc : SC) (e : Expr) (t : OT) : Prop where
  ev : ∀ {env : Env} {a : AV} {H H' : Hp}, oTgt H t a = some H' → As prog w A g sc env (assign e env) a H H'
theorem sa_one (hf : sc.fn = true) {v : OV} {x : Str} {p : Pos} (hw : wV sc g.locs x v = true) : SA prog w A g sc (.Name x p) (.one v) := ⟨fun e => as_assign (as_var hf hw e)⟩
end
end Mine
end
section
set_option Elab.async false
set_option linter.all false
namespace Mine
open PySem PyProof.Rows PySem.W
structure SX (prog : Program) (w : World) (A : Around) (g : Gr) (sc : SC) (st : Stmt) (o : OS) : Prop where
  ev : ∀ {env : Env} {H : Hp} {fl : AF} {H' : Hp}, o H = some (fl, H') → Ex prog w A g sc env (exec st env) H fl H'
structure SS (prog : Program) (w : World) (A : Around) (g : Gr) (sc : SC) (ss : List Stmt) (o : OS) : Prop where
  ev : ∀ {env : Env} {H : Hp} {fl : AF} {H' : Hp}, o H = some (fl, H') → Ex prog w A g sc env (execs ss env) H fl H'
noncomputable def sFor' (t : OT) (it : List AV → Hp → Option (List AV × Hp)) (body : OS) : OS := fun H => th (it [] H) fun xs H1 => loopLit (oBody t body) xs H1
section
variable {prog : Program} {w : World} {A : Around} {g : Gr} {O : Oks} {C : OC} {D : OD} {sc : SC}
theorem nx_inv {x : Option Hp} {fl : AF} {H' : Hp} (h : nx x = some (fl, H')) : x = some H' ∧ fl = .next := by
  obtain ⟨H, e, q⟩ := map_inv h
  cases q
  exact ⟨e, rfl⟩
theorem SX.as {st : Stmt} {o o' : OS} (h : SX prog w A g sc st o) (k : o' = o) : SX prog w A g sc st o' := k ▸ h
theorem cs_asg (hf : sc.fn = true) {e : Expr} {x : Str} {px p : Pos} {v : OV} {o : OE} (hw : wV sc g.locs x v = true) (h : SE prog w A g sc e o) (hs : ∀ env, swapsWith e (some (.Name x px)) p.line env = pure false) : SX prog w A g sc (.Assign [.Name x px] e p) (sAsg v o) := ⟨fun y => by
  obtain ⟨a, H1, e1, y1⟩ := th_inv y
  obtain ⟨e2, rfl⟩ := nx_inv y1
  exact ex_asg (h.ev e1) (as_var hf hw e2) (hs _)⟩
noncomputable def swapB (sc : SC) (x : Str) (px : Pos) (scope : Scope) (p : Pos) : Bool := sc.names.lookup x == some .local && px.line == p.line && !(scope.names.any fun (n, k) => n == x && (k == .local || k == .cell))
theorem swap_is {B : FMap} {φ : List Addr} {ξ : List AV} {h : Heap} {env : Env} (Er : EnvR sc B φ ξ env h) {x : Str} {px p : Pos} {elt : Expr} {gs : List Comprehension} {scope : Scope} (line : Nat) : swapsWith (.ListComp elt gs scope p) (some (.Name x px)) line env = pure (swapB sc x px scope p) := by
  have hk : env.blockKind = .function := by unfold Env.blockKind; rw [Er.kind]; rfl
  have e : swapsWith (.ListComp elt gs scope p) (some (.Name x px)) line env = pure (env.blockKind == .function && env.scope.names.lookup x == some .local && px.line == p.line && !(scope.names.any fun (n, k) => n == x && (k == .local || k == .cell))) := rfl
  rw [e, hk, Er.names]; rfl
theorem cs_asgC' (hf : sc.fn = true) {elt it : Expr} {x z : Str} {px p pz ps : Pos} {v : OV} {ifs : List Expr} {scope : Scope} {oe : OE} {oi : List AV → Hp → Option (List AV × Hp)} {ot : OB} (hw : wV sc g.locs z v = true) (hc : compOk sc scope x = true) (hi : SI prog w A g sc it oi) (ht : ST prog w A g (compSC sc scope x) ifs ot) (he : SE prog w A g (compSC sc scope x) elt oe) :
    SX prog w A g sc (.Assign [.Name z pz] (.ListComp elt [⟨.Name x px, it, ifs, 0⟩] scope p) ps) (sAsg v (oComp' oe oi ot)) := ⟨fun {env H fl H'} y => fun B φ s Q E R Er k => by
  obtain ⟨a, H1, e1, y1⟩ := th_inv y
  obtain ⟨e2, rfl⟩ := nx_inv y1
  have hsw := swap_is Er (x := z) (px := pz) (p := p) (elt := elt) (gs := [⟨.Name x px, it, ifs, 0⟩]) (scope := scope) ps.line
  cases hs : swapB sc z pz scope p with
  | false => rw [hs] at hsw; exact ex_asg ((c_comp' hc hi ht he).ev e1) (as_var hf hw e2) hsw B φ s Q E R Er k
  | true =>
    rw [hs] at hsw
    obtain ⟨xs, H3, e3, y2⟩ := th_inv e1
    obtain ⟨hz, y3⟩ := gd_inv y2
    obtain ⟨ys, H4, e4, y4⟩ := th_inv y3
    cases y4
    exact ex_comp hc (hi.1 env) (fun v H1 r H2 ef => turn_ok he ht ef) (hi.2 e3) e4 hz hsw (as_assign (as_var hf hw e2)) B φ s Q E R Er k⟩
theorem cs_asgC (X : Cx prog w A g O C D) (hf : sc.fn = true) {elt it : Expr} {x z : Str} {px p pz ps : Pos} {v : OV} {ifs : List Expr} {scope : Scope} {oe oi : OE} {ot : OB} (hw : wV sc g.locs z v = true) (hc : compOk sc scope x = true) (hi : SE prog w A g sc it oi) (ht : ST prog w A g (compSC sc scope x) ifs ot) (he : SE prog w A g (compSC sc scope x) elt oe) :
    SX prog w A g sc (.Assign [.Name z pz] (.ListComp elt [⟨.Name x px, it, ifs, 0⟩] scope p) ps) (sAsg v (oComp oe oi ot)) := (cs_asgC' hf hw hc (ci_all X hi) ht he).as (by rw [comp_all])
theorem cs_asgR1 (X : Cx prog w A g O C D) (hf : sc.fn = true) {elt e : Expr} {x z : Str} {px p pn pr pz ps : Pos} {v : OV} {ifs : List Expr} {scope : Scope} {oe oi : OE} {ot : OB} (hw : wV sc g.locs z v = true) (hc : compOk sc scope x = true) (hx : glob sc (Str.ofString "range") = true) (hi : SE prog w A g sc e oi) (ht : ST prog w A g (compSC sc scope x) ifs ot) (he : SE prog w A g (compSC sc scope x) elt oe) :
    SX prog w A g sc (.Assign [.Name z pz] (.ListComp elt [⟨.Name x px, .Call (.Name "range" pn) [e] [] pr, ifs, 0⟩] scope p) ps) (sAsg v (oCompR1 oe oi ot)) := (cs_asgC' hf hw hc (ci_r1 X hi hx) ht he).as (by rw [comp_r1])
theorem cs_seti {e o i : Expr} {ps p : Pos} {oe oo oi : OE} (h : SE prog w A g sc e oe) (k : SE prog w A g sc o oo) (m : SE prog w A g sc i oi) (hs : ∀ env, swapsWith e (some (.Subscript o i ps)) p.line env = pure false) : SX prog w A g sc (.Assign [.Subscript o i ps] e p) (sSeti oo oi oe) := ⟨fun y => by
  obtain ⟨v, H1, e1, y1⟩ := th_inv y
  obtain ⟨a, H2, e2, y2⟩ := th_inv y1
  obtain ⟨l, el, y3⟩ := bind_inv y2
  cases ref_inv el
  obtain ⟨b, H3, e3, y4⟩ := th_inv y3
  obtain ⟨j, ej, y5⟩ := bind_inv y4
  cases int_inv ej
  obtain ⟨xs, ex, y6⟩ := bind_inv y5
  obtain ⟨hq, y7⟩ := gd_inv y6
  cases y7
  have hq1 := (Bool.and_eq_true _ _).mp hq
  exact ex_seti (h.ev e1) (k.ev e2) (m.ev e3) (getList_inv ex) (of_decide_eq_true hq1.1) hq1.2 (hs _)⟩
theorem cs_exp {e : Expr} {p : Pos} {o : OE} (h : SE prog w A g sc e o) (hs : ∀ env, swapsWith e none p.line env = pure false) : SX prog w A g sc (.Expr e p) (sExp o) := ⟨fun y => by
  obtain ⟨v, H1, e1, y1⟩ := th_inv y
  obtain ⟨hv, y2⟩ := gd_inv y1
  cases y2
  exact ex_exp (h.ev e1) hv (hs _)⟩
theorem cs_if {t : Expr} {a b : List Stmt} {p : Pos} {ot : OB} {oa ob : OS} (h : SB prog w A g sc t ot) (ha : SS prog w A g sc a oa) (hb : SS prog w A g sc b ob) : SX prog w A g sc (.If t a b p) (sIf ot oa ob) := ⟨fun y => by
  obtain ⟨c, H1, e1, y1⟩ := th_inv y
  cases c with
  | true => exact ex_if (h.ev e1) (ha.ev y1)
  | false => exact ex_if (h.ev e1) (hb.ev y1)⟩
theorem cs_for' (hf : sc.fn = true) {t it : Expr} {body : List Stmt} {p : Pos} {ot : OT} {oi : List AV → Hp → Option (List AV × Hp)} {ob : OS} (ha : SA prog w A g sc t ot) (hi : SI prog w A g sc it oi) (hb : SS prog w A g sc body ob) : SX prog w A g sc (.For t it body [] p) (sFor' ot oi ob) := ⟨fun y => by
  obtain ⟨xs, H1, e1, y1⟩ := th_inv y
  refine ex_for hf (hi.1 _) (fun v H1 fl1 H2 ef => ?_) (hi.2 e1) y1
  obtain ⟨H3, e3, e4⟩ := bind_inv ef
  exact ⟨H3, ha.ev e3, hb.ev e4⟩⟩
theorem for_all (t : OT) (it : OE) (body : OS) : sForE t it body = sFor' t (iAll it) body := by
  funext H
  show th (it [] H) _ = th (th (it [] H) _) _
  cases it [] H with
  | none => rfl
  | some p => show (asrc p.1).bind _ = th (wi p.2 (asrc p.1)) _; cases asrc p.1 <;> rfl
theorem for_r1 (t : OT) (a : OE) (body : OS) : sForR1 t a body = sFor' t (iR1 a) body := by
  funext H
  show th (a [] H) _ = th (th (a [] H) _) _
  cases a [] H with
  | none => rfl
  | some p =>
    show p.1.int?.bind _ = th (p.1.int?.bind _) _
    cases p.1.int? with
    | none => rfl
    | some n => show gd (rngOk 0 n) _ = th (gd (rngOk 0 n) _) _; cases rngOk 0 n <;> rfl
theorem for_r2 (t : OT) (a b : OE) (body : OS) : sForR2 t a b body = sFor' t (iR2 a b) body := by
  funext H
  show th (a [] H) _ = th (th (a [] H) _) _
  cases a [] H with
  | none => rfl
  | some p =>
    dsimp only [th]
    cases b [] p.2 with
    | none => rfl
    | some q =>
      dsimp only [onI, two]
      cases p.1.int? with
      | none => rfl
      | some m =>
        dsimp only [Option.bind]
        cases q.1.int? with
        | none => rfl
        | some n => dsimp only; cases rngOk m n <;> rfl
theorem cs_forE (X : Cx prog w A g O C D) (hf : sc.fn = true) {t it : Expr} {body : List Stmt} {p : Pos} {ot : OT} {oi : OE} {ob : OS} (ha : SA prog w A g sc t ot) (hi : SE prog w A g sc it oi) (hb : SS prog w A g sc body ob) : SX prog w A g sc (.For t it body [] p) (sForE ot oi ob) := (cs_for' hf ha (ci_all X hi) hb).as (for_all _ _ _)
theorem cs_forR1 (X : Cx prog w A g O C D) (hf : sc.fn = true) {t e : Expr} {body : List Stmt} {pn pr p : Pos} {ot : OT} {oi : OE} {ob : OS} (ha : SA prog w A g sc t ot) (hx : glob sc (Str.ofString "range") = true) (hi : SE prog w A g sc e oi) (hb : SS prog w A g sc body ob) : SX prog w A g sc (.For t (.Call (.Name "range" pn) [e] [] pr) body [] p) (sForR1 ot oi ob) := (cs_for' hf ha (ci_r1 X hi hx) hb).as (for_r1 _ _ _)
theorem cs_forR2 (X : Cx prog w A g O C D) (hf : sc.fn = true) {t e f : Expr} {body : List Stmt} {pn pr p : Pos} {ot : OT} {oi oj : OE} {ob : OS} (ha : SA prog w A g sc t ot) (hx : glob sc (Str.ofString "range") = true) (hi : SE prog w A g sc e oi) (hj : SE prog w A g sc f oj) (hb : SS prog w A g sc body ob) : SX prog w A g sc (.For t (.Call (.Name "range" pn) [e, f] [] pr) body [] p) (sForR2 ot oi oj ob) := (cs_for' hf ha (ci_r2 X hi hj hx) hb).as (for_r2 _ _ _ _)
theorem cs_ret {e : Expr} {p : Pos} {o : OE} (h : SE prog w A g sc e o) : SX prog w A g sc (.Return (some e) p) (sRet o) := ⟨fun y => by
  obtain ⟨v, H1, e1, y1⟩ := th_inv y
  cases y1
  exact ex_ret (h.ev e1)⟩
theorem ss_nil : SS prog w A g sc [] sNil := ⟨fun y => by cases y; exact ex_nil⟩
theorem ss_cons {st : Stmt} {r : List Stmt} {o q : OS} (h : SX prog w A g sc st o) (k : SS prog w A g sc r q) : SS prog w A g sc (st :: r) (sCons o q) := ⟨fun y => by
  obtain ⟨f, H1, e1, y1⟩ := th_inv y
  cases f with
  | next => exact ex_cons (h.ev e1) (k.ev y1)
  | brk => cases y1; exact ex_stop (h.ev e1) (fun q => nomatch q)
  | ret v => cases y1; exact ex_stop (h.ev e1) (fun q => nomatch q)⟩
end
end Mine
end
section
set_option Elab.async false
set_option linter.all false
namespace Mine
open PySem PyProof.Rows PySem.W
noncomputable def Room (A : Around) (d : Nat) : Prop := A.handled = none ∧ A.depth + d < 1000 ∧ A.units + 300 + 10 * d < cLine
theorem Room.fine {A : Around} {d : Nat} (h : Room A d) : Fine A := ⟨h.1, by have := h.2.2; omega⟩
theorem Room.deeper {A : Around} {d : Nat} (h : Room A (d + 1)) (env : Env) : Room (A.deeper env) d := by
  obtain ⟨h1, h2, h3⟩ := h
  exact ⟨h1, by simp only [Around.deeper]; omega, by simp only [Around.deeper]; omega⟩
theorem Room.less {A : Around} {d e : Nat} (h : Room A d) (he : e ≤ d) : Room A e := by
  obtain ⟨h1, h2, h3⟩ := h
  exact ⟨h1, by omega, by omega⟩
theorem Room.depth {A : Around} {d : Nat} (h : Room A d) : A.depth < recursionLimit := by
  have := h.2.1
  show A.depth < 1000
  omega
theorem Room.in1 {A : Around} {d : Nat} (h : Room A (d + 1)) : Room A.in1 d := by
  obtain ⟨h1, h2, h3⟩ := h
  exact ⟨h1, by simp only [Around.in1]; omega, by simp only [Around.in1]; omega⟩
noncomputable def CallOk (prog : Program) (w : World) (hb : Heap) (fa : Addr) (d : Nat) (vs : List AV) (v : AV) : Prop :=
  ∀ (A : Around), Room A d → ∀ (B : FMap) (s : Shared) (Q : Value → Shared → Prop) (E : Value → Shared → Prop) (vals : List Value),
    (∀ a o, hb.get? a = some o → B a = some o) → (∀ a o, B a = some o → s.heap.get? a = some o) → VRs B [] vs vals →
    (∀ B' val h' tk, (∀ a o, B a = some o → B' a = some o) → (∀ a o, B' a = some o → B a = some o ∨ s.heap.get? a = none) → (∀ a o, B' a = some o → h'.get? a = some o) → (∀ a o, s.heap.get? a = some o → h'.get? a = some o) → VR B' [] v val →
      Q val { s with heap := h', toks := tk }) → wpAny (model prog w) A (call (.ref fa) vals) Q E s
structure Fd where
  params : List Str
  locs : List Str
  names : List (Str × NameKind)
  body : List Stmt
noncomputable def cellNames (names : List (Str × NameKind)) : List Str := (names.filter fun p => p.2 == .cell).map (·.1)
noncomputable def Fd.sc (f : Fd) : SC := { names := f.names, fn := true, locs := f.locs, cells := cellsFrom 1 f.names [] }
noncomputable def Fd.init (f : Fd) (vs : List AV) : Hp := .ns (f.locs.map fun x => (f.params.zip vs).lookup x) :: (cellNames f.names).map fun x => .cell ((f.params.zip vs).lookup x)
noncomputable def nodupB : List Str → Bool
  | [] => true
  | x :: r => !(r.contains x) && nodupB r
theorem nodupB_ok : ∀ {l : List Str}, nodupB l = true → l.Nodup
  | [], _ => List.nodup_nil
  | x :: r, h => by
    simp only [nodupB, Bool.and_eq_true] at h
    refine List.nodup_cons.mpr ⟨?_, nodupB_ok h.2⟩
    simpa using h.1
noncomputable def Fd.ok (f : Fd) : Bool :=
  nodupB f.locs && nodupB f.params && f.locs.all (fun x => f.names.lookup x == some .local) && f.params.all (fun x => f.names.lookup x == some .local || (f.names.lookup x == some .cell && ((cellsFrom 1 f.names []).lookup x).isSome))
    && (cellNames f.names).all (fun x => f.names.lookup x == some .cell) && (cellsFrom 1 f.names []).all (fun p => Nat.blt 0 p.2 && Nat.ble p.2 (cellNames f.names).length) && (List.range (cellNames f.names).length).all (fun i => match (cellNames f.names)[i]? with
      | some x => (cellsFrom 1 f.names []).lookup x == some (i + 1)
      | none => false)
theorem cellsFrom_shift (d : Nat) : ∀ (names : List (Str × NameKind)) (n : Nat) (acc : List (Str × Addr)), cellsFrom (n + d) names (acc.map fun p => (p.1, p.2 + d)) = (cellsFrom n names acc).map fun p => (p.1, p.2 + d)
  | [], n, acc => rfl
  | (x, k) :: r, n, acc => by
    unfold cellsFrom
    by_cases hk : (k == NameKind.cell) = true
    · rw [if_pos hk, if_pos hk]
      have := cellsFrom_shift d r (n + 1) ((x, n) :: acc)
      rw [List.map_cons] at this
      have e : n + 1 + d = n + d + 1 := by omega
      rw [e] at this
      exact this
    · rw [if_neg hk, if_neg hk]
      exact cellsFrom_shift d r n acc
theorem lookup_shift (d : Nat) (x : Str) : ∀ (l : List (Str × Nat)), (l.map fun p => (p.1, p.2 + d)).lookup x = (l.lookup x).map (· + d)
  | [] => rfl
  | (y, a) :: r => by
    simp only [List.map_cons, List.lookup_cons]
    cases x == y with
    | true => rfl
    | false => exact lookup_shift d x r
theorem cells_lookup (names : List (Str × NameKind)) (L : Nat) (x : Str) : (cellsFrom (L + 1) names []).lookup x = ((cellsFrom 1 names []).lookup x).map (· + L) := by
  have := cellsFrom_shift L names 1 []
  rw [List.map_nil] at this
  rw [Nat.add_comm L 1, this, lookup_shift]
theorem bindL_off (kd : Str → Option NameKind) (x : Str) : ∀ (ps : List Str) (vals : List Value) (m : Str → Option Value), x ∉ ps → bindL kd (ps.zip vals) m x = m x
  | [], _, _, _ => by simp [bindL]
  | p :: ps, [], _, _ => by simp [bindL]
  | p :: ps, v :: vals, m, h => by
    simp only [List.mem_cons, not_or] at h
    simp only [List.zip_cons_cons, bindL]
    rw [bindL_off kd x ps vals _ h.2]
    split
    · simp [h.1]
    · rfl
theorem bindC_off (kd : Str → Option NameKind) (x : Str) : ∀ (ps : List Str) (vals : List Value) (m : Str → Option Value), x ∉ ps → bindC kd (ps.zip vals) m x = m x
  | [], _, _, _ => by simp [bindC]
  | p :: ps, [], _, _ => by simp [bindC]
  | p :: ps, v :: vals, m, h => by
    simp only [List.mem_cons, not_or] at h
    simp only [List.zip_cons_cons, bindC]
    rw [bindC_off kd x ps vals _ h.2]
    split
    · rfl
    · simp [h.1]
theorem bindL_on (kd : Str → Option NameKind) {B : FMap} {φ : List Addr} {x : Str} (hx : kd x = some .local) {v : AV} : ∀ (ps : List Str) (vs : List AV) (vals : List Value) (m : Str → Option Value), ps.Nodup → VRs B φ vs vals → (ps.zip vs).lookup x = some v → ∃ val, bindL kd (ps.zip vals) m x = some val ∧ VR B φ v val
  | [], _, _, _, _, _, h => by simp at h
  | p :: ps, [], _, _, _, _, h => by simp at h
  | p :: ps, a :: vs, vals, m, hn, hv, h => by
    simp only [VRs] at hv
    obtain ⟨b, bs, rfl, V, hr⟩ := hv
    simp only [List.zip_cons_cons, List.lookup_cons] at h
    simp only [List.zip_cons_cons, bindL]
    by_cases hp : (x == p) = true
    · simp only [hp] at h
      cases h
      have : x = p := by simpa using hp
      subst this
      rw [bindL_off kd x ps bs _ (List.nodup_cons.mp hn).1, if_pos hx]
      exact ⟨b, by simp, V⟩
    · have hp' : (x == p) = false := by simpa using hp
      simp only [hp'] at h
      exact bindL_on kd hx ps vs bs _ (List.nodup_cons.mp hn).2 hr h
theorem bindC_on (kd : Str → Option NameKind) {B : FMap} {φ : List Addr} {x : Str} (hx : ¬ kd x = some .local) {v : AV} : ∀ (ps : List Str) (vs : List AV) (vals : List Value) (m : Str → Option Value), ps.Nodup → VRs B φ vs vals → (ps.zip vs).lookup x = some v → ∃ val, bindC kd (ps.zip vals) m x = some val ∧ VR B φ v val
  | [], _, _, _, _, _, h => by simp at h
  | p :: ps, [], _, _, _, _, h => by simp at h
  | p :: ps, a :: vs, vals, m, hn, hv, h => by
    simp only [VRs] at hv
    obtain ⟨b, bs, rfl, V, hr⟩ := hv
    simp only [List.zip_cons_cons, List.lookup_cons] at h
    simp only [List.zip_cons_cons, bindC]
    by_cases hp : (x == p) = true
    · simp only [hp] at h
      cases h
      have : x = p := by simpa using hp
      subst this
      rw [bindC_off kd x ps bs _ (List.nodup_cons.mp hn).1, if_neg hx]
      exact ⟨b, by simp, V⟩
    · have hp' : (x == p) = false := by simpa using hp
      simp only [hp'] at h
      exact bindC_on kd hx ps vs bs _ (List.nodup_cons.mp hn).2 hr h
noncomputable def aret (r : Option (AF × Hp)) : Option AV := match r with
  | some (.ret v, _) => match v.pure with
    | true => some v
    | false => none
  | some (.next, _) => some .none
  | _ => none
noncomputable def arun (o : OS) (f : Fd) (vs : List AV) : Option AV := if vs.length = f.params.length then aret (o (f.init vs)) else none
theorem aret_inv {r : Option (AF × Hp)} {v : AV} (h : aret r = some v) : (∃ H, r = some (.ret v, H) ∧ v.pure = true) ∨ (∃ H, r = some (.next, H) ∧ v = .none) := by
  cases r with
  | none => cases h
  | some p =>
    obtain ⟨f, H⟩ := p
    cases f with
    | next => cases h; exact .inr ⟨H, rfl, rfl⟩
    | brk => cases h
    | ret u =>
      obtain ⟨hp, e⟩ := gd_inv (c := u.pure) (x := some u) (v := v) (by
        have h : (match u.pure with | true => some u | false => none) = some v := h
        cases hu : u.pure with
        | true => rw [hu] at h; exact h
        | false => rw [hu] at h; cases h)
      cases e
      exact .inl ⟨H, rfl, hp⟩
structure Fn0 (hb : Heap) (fa : Addr) (f : Fd) (body : List Stmt) (o : Obj) (fd : FuncData) : Prop where
  get : hb.get? fa = some o
  data : o.data = .func fd
  code : hb.CodeRec fd.code fd.qualname
  body : fd.body = .stmts body
  clo : fd.closure = []
  glob : fd.globals = mainGlobals
  blt : fd.builtins = builtinsNs
  names : fd.scope.names = f.names
  kind : fd.scope.kind = .function
  co : fd.scope.isCoroutine = false
  gen : fd.scope.isGenerator = false
  ok : f.ok = true
structure Fn (hb : Heap) (fa : Addr) (f : Fd) (o : Obj) (fd : FuncData) : Prop extends Fn0 hb fa f f.body o fd where
  binds : ∀ vals : List Value, vals.length = f.params.length → bindArgs fd ⟨vals, []⟩ = pure (f.params.zip vals)
theorem CodeRec.keeps' {h h' : Heap} {c : Value} {q : Str} (x : h.CodeRec c q) (hk : ∀ a o, h.get? a = some o → h'.get? a = some o) : h'.CodeRec c q := by
  obtain ⟨a, o, vs, t, h1, h2, h3, h4⟩ := x
  exact ⟨a, o, vs, t, h1, hk _ _ h2, h3, h4⟩
section
variable {prog : Program} {w : World} {hb : Heap} {mg mb : Str → Option Value} 
theorem fd_ok {f : Fd} (h : f.ok = true) : f.locs.Nodup ∧ f.params.Nodup ∧ (∀ x ∈ f.locs, f.names.lookup x = some .local) ∧ (∀ x ∈ f.params, f.names.lookup x = some .local ∨ (f.names.lookup x = some .cell ∧ ∃ k, (cellsFrom 1 f.names []).lookup x = some k)) ∧
    (∀ x ∈ cellNames f.names, f.names.lookup x = some .cell) ∧ (∀ x k, (cellsFrom 1 f.names []).lookup x = some k → 0 < k ∧ k ≤ (cellNames f.names).length) ∧ (∀ (i : Nat) x, (cellNames f.names)[i]? = some x → (cellsFrom 1 f.names []).lookup x = some (i + 1)) := by
  unfold Fd.ok at h
  simp only [Bool.and_eq_true] at h
  obtain ⟨⟨⟨⟨⟨⟨h1, h2⟩, h3⟩, h4⟩, h5⟩, h6⟩, h7⟩ := h
  refine ⟨nodupB_ok h1, nodupB_ok h2, fun x hx => by simpa using List.all_eq_true.mp h3 x hx, fun x hx => ?_, fun x hx => by simpa using List.all_eq_true.mp h5 x hx, fun x k hk => ?_, fun i x hx => ?_⟩
  · have := List.all_eq_true.mp h4 x hx
    simp only [Bool.or_eq_true, Bool.and_eq_true, beq_iff_eq] at this
    rcases this with h | ⟨h, h'⟩
    · exact .inl h
    · exact .inr ⟨h, Option.isSome_iff_exists.mp h'⟩
  · have := List.all_eq_true.mp h6 (x, k) (PySem.mem_of_lookup hk)
    simp only [Bool.and_eq_true] at this
    exact ⟨by simpa using this.1, by simpa using this.2⟩
  · have hi : i < (cellNames f.names).length := (List.getElem?_eq_some_iff.mp hx).1
    have := List.all_eq_true.mp h7 i (List.mem_range.mpr hi)
    rw [hx] at this
    simpa using this
inductive BindPostP (PB : FMap → Prop) (f : Fd) (vs : List AV) (φ0 : List Addr) (B : FMap) (s : Shared) (binds : List (Str × Value)) (s₁ : Shared) : Prop
  | mk (vals : List Value) (h₁ : Heap) (tk₁ : Nat) (B₁ : FMap) (_ : PB B₁) (_ : binds = f.params.zip vals) (_ : s₁ = { s with heap := h₁, toks := tk₁ }) (_ : ∀ a o, s.heap.get? a = some o → h₁.get? a = some o) (_ : ∀ a o, B a = some o → B₁ a = some o)
    (_ : ∀ a o, B₁ a = some o → B a = some o ∨ s.heap.get? a = none) (_ : ∀ a o, B₁ a = some o → h₁.get? a = some o) (_ : ∀ ψ : List Addr, ψ.length = (cellNames f.names).length + 1 → VRs B₁ (ψ ++ φ0) vs vals)
noncomputable abbrev BindPost := BindPostP fun _ => True
structure Start (hb : Heap) (f : Fd) (vs : List AV) (φ0 : List Addr) (H0 : Hp) (B : FMap) (h : Heap) (env : Env) (B₁ : FMap) (φ : List Addr) (h₂ : Heap) : Prop where
  rel : Rel ⟨hb, f.locs⟩ B₁ φ (f.init vs ++ H0) h₂
  env : EnvR f.sc B₁ φ [] env h₂
  mono : ∀ a o, B a = some o → B₁ a = some o
  newB : ∀ a o, B₁ a = some o → B a = some o ∨ h.get? a = none
  new : ∀ a ∈ φ, a ∈ φ0 ∨ h.get? a = none
  keeps : ∀ a o, h.get? a = some o → h₂.get? a = some o
  own : ∃ ψ : List Addr, ψ.length = (cellNames f.names).length + 1 ∧ φ = ψ ++ φ0
theorem frame_runP {PB : FMap → Prop} {f : Fd} {fa : Addr} {body : List Stmt} {o : Obj} {fd : FuncData} (F : Fn0 hb fa f body o fd) (T : TopOk hb mg mb) {A : Around} {d : Nat} (hA : Room A (d + 1)) {args : Args} {s : Shared} {B : FMap} {φ0 : List Addr} {H0 : Hp} {vs : List AV} {R : Result → Shared → Prop}
    (hbB : ∀ a o, hb.get? a = some o → B a = some o) (hBs : ∀ a o, B a = some o → s.heap.get? a = some o)
    (h0 : φ0.length = H0.length) (h0d : φ0.Nodup) (h0B : ∀ a ∈ φ0, B a = none) (h0o : ∀ (j : Nat) a x, φ0[j]? = some a → H0[j]? = some x → ∃ xs ws n, x = .list xs ∧ s.heap.get? a = some (lstObj ws n) ∧ VRs B [] xs ws)
    (hbind : wpAny (model prog w) A.in1 (bindArgs fd args) (BindPostP PB f vs φ0 B s) (fun e s' => R (.error e) s') s)
    (hbody : ∀ env B₁ φ h₂ tk₂ EE, PB B₁ → Start hb f vs φ0 H0 B s.heap env B₁ φ h₂ → wpAny (model prog w) (A.deeper env) (execs body env) (fun fl s' => R (.ok (.ret (match fl with | .ret v => v | _ => .none))) s') EE { s with heap := h₂, toks := tk₂ }) :
    codeAny (model prog w) A (.call (.ref fa) args) R s := by
  obtain ⟨f1, f2, f3, f4, f5, f6, f7⟩ := fd_ok F.ok
  have hbs : ∀ a o, hb.get? a = some o → s.heap.get? a = some o := fun a o e => hBs a o (hbB a o e)
  refine codeAny_call_function hA.depth (hbs _ _ F.get) F.data F.co F.gen F.body (CodeRec.keeps' F.code hbs) (wpAny_mono hbind (fun binds s₁ hp => ?_) fun _ _ e => e)
  obtain ⟨vals, h₁, tk₁, B₁, hPB, rfl, rfl, hk₁, hm₁, hn₁, hB₁, hV₁⟩ := hp
  rw [F.clo]
  have hkd' : ∀ x ∈ f.params.zip vals, fd.scope.names.lookup x.1 = some .local ∨ (fd.scope.names.lookup x.1 = some .cell ∧ ((cellsFrom (h₁.objs.size + 1) fd.scope.names []).lookup x.1).isSome = true) := by
    intro x hx
    rw [F.names]
    have hp : x.1 ∈ f.params := (List.of_mem_zip (a := x.1) (b := x.2) (l₁ := f.params) (l₂ := vals) hx).1
    rcases f4 _ hp with h | ⟨h, c, hc⟩
    · exact .inl h
    · refine .inr ⟨h, ?_⟩
      rw [cells_lookup, hc]; rfl
  refine wpAny_newFunctionEnv_cells F.kind hkd' fun env henv s' x => ?_
  have hcells : env.cells = cellsFrom (h₁.objs.size + 1) f.names [] := by rw [henv]; show cellsFrom _ fd.scope.names [] = _; rw [F.names]
  have hkd : ∀ x, env.kindOf x = f.names.lookup x := fun x => by rw [henv]; show fd.scope.names.lookup x = _; rw [F.names]
  have hloc : env.locals = h₁.objs.size := by rw [henv]; rfl
  obtain ⟨h₂, tk₂, rfl, hk₂⟩ := x.done
  have hk : ∀ a o, s.heap.get? a = some o → h₂.get? a = some o := fun a o e => hk₂ _ _ (hk₁ a o e)
  refine ⟨T.lim.keeps fun a o e => hk _ _ (hbs a o e), codeAny_func (hbody env B₁ ((List.range ((cellNames f.names).length + 1)).map (fun i => h₁.objs.size + i) ++ φ0) h₂ tk₂ _ hPB ?_)⟩
  have hns : h₂.Ns h₁.objs.size (bindL env.kindOf (f.params.zip vals) fun _ => none) := by have := x.toInCall.ns; rw [hloc] at this; exact this
  have hcell : ∀ n c, (cellsFrom (h₁.objs.size + 1) f.names []).lookup n = some c → h₂.IsCell c (bindC env.kindOf (f.params.zip vals) (fun _ => none) n) := fun n c hc => x.cell n c (by rw [hcells]; exact hc)
  let ψ : List Addr := (List.range ((cellNames f.names).length + 1)).map fun i => h₁.objs.size + i
  have hψl : ψ.length = (cellNames f.names).length + 1 := by simp [ψ]
  have hψ : ∀ (i : Nat) (a : Addr), ψ[i]? = some a → a = h₁.objs.size + i ∧ i ≤ (cellNames f.names).length := fun i a e => by
    have hi := (List.getElem?_eq_some_iff.mp e).1
    rw [hψl] at hi
    rw [show ψ[i]? = ((List.range ((cellNames f.names).length + 1)).map fun i => h₁.objs.size + i)[i]? from rfl, List.getElem?_map, List.getElem?_range hi] at e
    simp only [Option.map_some, Option.some.injEq] at e
    exact ⟨e.symm, by omega⟩
  have hψ' : ∀ i, i ≤ (cellNames f.names).length → ψ[i]? = some (h₁.objs.size + i) := fun i hi => by
    show ((List.range ((cellNames f.names).length + 1)).map fun i => h₁.objs.size + i)[i]? = _
    rw [List.getElem?_map, List.getElem?_range (by omega)]; rfl
  have hψs : ∀ a ∈ ψ, h₁.get? a = none := fun a ha => by
    obtain ⟨i, hi, rfl⟩ := List.mem_map.mp ha
    cases q : h₁.get? (h₁.objs.size + i) with
    | none => rfl
    | some o =>
      have h1 : (h₁.objs.size + i : Nat) < h₁.objs.size := Heap.lt_size q
      omega
  have hψ0 : ∀ a ∈ ψ, s.heap.get? a = none := fun a ha => by
    cases q : s.heap.get? a with
    | none => rfl
    | some o => have := hk₁ _ _ q; rw [hψs a ha] at this; cases this
  have h0l : ∀ a ∈ φ0, ∃ xs ws n, s.heap.get? a = some (lstObj ws n) ∧ VRs B [] xs ws := fun a ha => by
    obtain ⟨j, hj, rfl⟩ := List.getElem_of_mem ha
    obtain ⟨xs, ws, n, _, h1, h2⟩ := h0o j φ0[j] (H0[j]'(by omega)) (by simp [hj]) (by simp)
    exact ⟨xs, ws, n, h1, h2⟩
  have hcn : ∀ i y, (cellNames f.names)[i]? = some y → h₂.IsCell (h₁.objs.size + (i + 1)) (bindC env.kindOf (f.params.zip vals) (fun _ => none) y) := fun i y hy => by
    refine hcell y _ ?_
    rw [cells_lookup, f7 i y hy]
    simp [Nat.add_comm]
  have hil : (f.init vs).length = ψ.length := by simp [Fd.init, hψl]
  have hV := hV₁ ψ hψl
  refine ⟨⟨fun a o e => hm₁ _ _ (hbB a o e), f1, fun a o e => hk₂ _ _ (hB₁ a o e), ?_, ?_, fun k a y h1 h2 _ => ?_, fun a ha => ?_, fun k a y h1 h2 => ?_⟩, ?_, hm₁, hn₁, fun a ha => ?_, hk, ⟨ψ, hψl, rfl⟩⟩
  · show (ψ ++ φ0).length = (f.init vs ++ H0).length
    rw [List.length_append, List.length_append, hil, h0]
  · show (ψ ++ φ0).Nodup
    rw [List.nodup_append]
    refine ⟨?_, h0d, fun a ha b hb' => ?_⟩
    · refine List.Pairwise.map _ (fun a b hab => ?_) List.nodup_range
      intro h; exact hab (Nat.add_left_cancel (n := h₁.objs.size) h)
    · rintro rfl
      obtain ⟨_, ws, n, h1, _⟩ := h0l a hb'
      rw [hψ0 a ha] at h1; cases h1
  · have ha : a ∈ ψ ++ φ0 := List.mem_of_getElem? h1
    cases q : B₁ a with
    | none => rfl
    | some o =>
      rcases List.mem_append.mp ha with ha | ha
      · have := hB₁ _ _ q; rw [hψs a ha] at this; cases this
      · rcases hn₁ _ _ q with q | q
        · rw [h0B a ha] at q; cases q
        · obtain ⟨_, ws, n, h1, _⟩ := h0l a ha; rw [q] at h1; cases h1
  · have ha : a ∈ ψ ++ φ0 := ha
    rcases List.mem_append.mp ha with ha | ha
    · obtain ⟨i, hi, rfl⟩ := List.mem_map.mp ha
      cases i with
      | zero => obtain ⟨o, _, _, ho, _⟩ := hns; exact ⟨o, ho⟩
      | succ i =>
        have hi' : i < (cellNames f.names).length := by have := List.mem_range.mp hi; omega
        obtain ⟨o, ho, _⟩ := hcn i _ (List.getElem?_eq_getElem hi')
        exact ⟨o, ho⟩
    · obtain ⟨_, ws, n, h1, _⟩ := h0l a ha; exact ⟨_, hk _ _ h1⟩
  · have h1 : (ψ ++ φ0)[k]? = some a := h1
    by_cases hkl : k < ψ.length
    · rw [List.getElem?_append_left hkl] at h1
      rw [List.getElem?_append_left (by rw [hil]; exact hkl)] at h2
      obtain ⟨rfl, hle⟩ := hψ k a h1
      cases k with
      | zero =>
        simp only [Fd.init, List.getElem?_cons_zero, Option.some.injEq] at h2
        subst h2
        refine ⟨_, hns, fun i z u e1 e2 => ?_⟩
        have e1' : f.locs[i]? = some z := by simpa [Gr.names] using e1
        rw [List.getElem?_map, e1'] at e2
        simp only [Option.map_some, Option.some.injEq] at e2
        have hz := f3 z (List.mem_of_getElem? e1')
        exact bindL_on env.kindOf (by rw [hkd]; exact hz) _ _ _ _ f2 hV e2
      | succ k =>
        simp only [Fd.init, List.getElem?_cons_succ, List.getElem?_map] at h2
        cases q : (cellNames f.names)[k]? with
        | none => rw [q] at h2; simp at h2
        | some z =>
          rw [q] at h2
          simp only [Option.map_some, Option.some.injEq] at h2
          subst h2
          obtain ⟨o, ho, hd⟩ := hcn k z q
          refine ⟨o, _, ho, hd, fun u e2 => ?_⟩
          have hz := f5 z (List.mem_of_getElem? q)
          exact bindC_on env.kindOf (by rw [hkd, hz]; simp) _ _ _ _ f2 hV e2
    · have hkl' := Nat.not_lt.mp hkl
      rw [List.getElem?_append_right hkl'] at h1
      rw [List.getElem?_append_right (by rw [hil]; exact hkl'), hil] at h2
      obtain ⟨xs, ws, n, rfl, e1, e2⟩ := h0o _ a y h1 h2
      exact ⟨ws, n, hk _ _ e1, VRs.mono hm₁ List.nil_prefix e2⟩
  · refine ⟨by rw [henv]; exact F.kind, by rw [henv]; exact F.names, by rw [henv]; exact F.glob, by rw [henv]; exact F.blt, ?_, fun y k hk => ?_⟩
    · rw [if_pos (by rfl)]
      show (ψ ++ φ0)[0]? = _
      rw [List.getElem?_append_left (by rw [hψl]; omega), hψ' 0 (Nat.zero_le _), hloc]; rfl
    · have hk' : (cellsFrom 1 f.names []).lookup y = some k := hk
      refine ⟨h₁.objs.size + k, ?_, ?_⟩
      · show (ψ ++ φ0)[k]? = _
        have hle : k ≤ (cellNames f.names).length := (f6 y k hk').2
        have hlt : k < ψ.length := by rw [hψl]; exact Nat.lt_succ_of_le hle
        rw [List.getElem?_append_left hlt]
        exact hψ' k hle
      · rw [hcells, cells_lookup, hk']
        simp [Nat.add_comm]
  · rcases List.mem_append.mp ha with ha | ha
    · exact .inr (hψ0 a ha)
    · exact .inl ha
theorem frame_run {f : Fd} {fa : Addr} {body : List Stmt} {o : Obj} {fd : FuncData} (F : Fn0 hb fa f body o fd) (T : TopOk hb mg mb) {A : Around} {d : Nat} (hA : Room A (d + 1)) {args : Args} {s : Shared} {B : FMap} {φ0 : List Addr} {H0 : Hp} {vs : List AV} {R : Result → Shared → Prop}
    (hbB : ∀ a o, hb.get? a = some o → B a = some o) (hBs : ∀ a o, B a = some o → s.heap.get? a = some o)
    (h0 : φ0.length = H0.length) (h0d : φ0.Nodup) (h0B : ∀ a ∈ φ0, B a = none) (h0o : ∀ (j : Nat) a x, φ0[j]? = some a → H0[j]? = some x → ∃ xs ws n, x = .list xs ∧ s.heap.get? a = some (lstObj ws n) ∧ VRs B [] xs ws)
    (hbind : wpAny (model prog w) A.in1 (bindArgs fd args) (BindPost f vs φ0 B s) (fun e s' => R (.error e) s') s)
    (hbody : ∀ env B₁ φ h₂ tk₂ EE, Start hb f vs φ0 H0 B s.heap env B₁ φ h₂ → wpAny (model prog w) (A.deeper env) (execs body env) (fun fl s' => R (.ok (.ret (match fl with | .ret v => v | _ => .none))) s') EE { s with heap := h₂, toks := tk₂ }) :
    codeAny (model prog w) A (.call (.ref fa) args) R s :=
  frame_runP (PB := fun _ => True) F T hA hbB hBs h0 h0d h0B h0o hbind fun env B₁ φ h₂ tk₂ EE _ S => hbody env B₁ φ h₂ tk₂ EE S
theorem bind_plain {f : Fd} {fd : FuncData} {vals : List Value} {vs : List AV} {B : FMap} {s : Shared} {A : Around} {E : Value → Shared → Prop} (hb : bindArgs fd ⟨vals, []⟩ = pure (f.params.zip vals)) (hBs : ∀ a o, B a = some o → s.heap.get? a = some o) (V : VRs B [] vs vals) : wpAny (model prog w) A (bindArgs fd ⟨vals, []⟩) (BindPost f vs [] B s) E s := by
  rw [hb]
  exact wpAny_pure ⟨vals, s.heap, s.toks, B, trivial, rfl, rfl, fun _ _ e => e, fun _ _ e => e, fun _ _ e => .inl e, hBs, fun ψ _ => VRs.mono (fun _ _ e => e) List.nil_prefix V⟩
theorem call_of {f : Fd} {fa : Addr} {body : List Stmt} {o : Obj} {fd : FuncData} (F : Fn0 hb fa f body o fd) (T : TopOk hb mg mb) {d : Nat} {vs : List AV} {v : AV} (hbind : ∀ vals : List Value, vals.length = vs.length → bindArgs fd ⟨vals, []⟩ = pure (f.params.zip vals))
    {fl : AF} {H' : Hp} (hx : ∀ A env, Room A d → Ex prog w A ⟨hb, f.locs⟩ f.sc env (execs body env) (f.init vs) fl H') (hv : (∃ u, fl = .ret u ∧ u.pure = true ∧ u = v) ∨ (fl = .next ∧ v = .none)) : CallOk prog w hb fa (d + 1) vs v := by
  intro A hA B s Q E vals hbB hBs V k
  refine wpAny_call (frame_run F T hA (φ0 := []) (H0 := []) (vs := vs) hbB hBs rfl List.nodup_nil (by simp) (by simp) (bind_plain (hbind vals V.length) hBs V) fun env B₁ φ h₂ tk₂ EE S => ?_)
  have S1 : Rel ⟨hb, f.locs⟩ B₁ φ (f.init vs) h₂ := by simpa using S.rel
  refine hx _ env (hA.deeper env) B₁ φ { s with heap := h₂, toks := tk₂ } _ _ S1 S.env fun B' φ' fl' h' tk G R' F' => ?_
  have hφs : ∀ a ∈ φ, s.heap.get? a = none := fun a ha => by
    rcases S.new a ha with h | h
    · simp at h
    · exact h
  refine k B' _ h' tk (fun a o e => G.mono _ _ (S.mono _ _ e)) (fun a o e => ?_) R'.keep (fun a o e => ?_) ?_
  · rcases G.newB a o e with h | h | h
    · exact S.newB a o h
    · exact .inr (hφs a h)
    · refine .inr ?_
      cases q : s.heap.get? a with
      | none => rfl
      | some o =>
        have := S.keeps _ _ q
        have h' : h₂.get? a = none := h
        rw [h'] at this; cases this
  · refine G.frame a o (fun hm => ?_) (S.keeps _ _ e)
    rw [hφs a hm] at e; cases e
  · rcases hv with ⟨u, rfl, hp, rfl⟩ | ⟨rfl, rfl⟩
    · obtain ⟨val, rfl, hV⟩ := F'
      exact VR.pure hp hV
    · have : fl' = .next := F'
      subst this; simp [VR]
theorem fn_call {f : Fd} {fa : Addr} {o : Obj} {fd : FuncData} (F : Fn hb fa f o fd) (T : TopOk hb mg mb) {d : Nat} {q : OS} (K : ∀ A, Room A d → SS prog w A ⟨hb, f.locs⟩ f.sc f.body q) {vs : List AV} {v : AV} (e : arun q f vs = some v) : CallOk prog w hb fa (d + 1) vs v := by
  unfold arun at e
  by_cases hlen : vs.length = f.params.length
  · rw [if_pos hlen] at e
    rcases aret_inv e with ⟨H', ea, hp⟩ | ⟨H', ea, rfl⟩
    · exact call_of F.toFn0 T (fun vals hl => F.binds vals (hl.trans hlen)) (fun A env hA => (K A hA).ev ea) (.inl ⟨_, rfl, hp, rfl⟩)
    · exact call_of F.toFn0 T (fun vals hl => F.binds vals (hl.trans hlen)) (fun A env hA => (K A hA).ev ea) (.inr ⟨rfl, rfl⟩)
  · rw [if_neg hlen] at e; cases e
end
end Mine
end
section
set_option Elab.async false
set_option linter.all false
namespace Mine
open PySem PyProof.Rows PySem.W
section
variable {prog : Program} {w : World} {A : Around} {g : Gr} {sc : SC} {ξ : List AV} {env : Env} {mg mb : Str → Option Value}
theorem Call_names {M : Model} {E : Value → Shared → Prop} {s : Shared} {pos : Pos} {Q : Value → Shared → Prop} {x : Str} {np : Pos} {es : List Expr} (hp : PlainL es)
    (h : wpAny M A (eval (.Name x np) env) (fun c s₁ => wpAny M A (callWith pos c [] (es.map fun e => (false, eval e env)) []) Q E s₁) E s) :
    wpAny M A (eval (.Call (.Name x np) es [] pos) env) Q E s := by
  show wpAny M A (do callWith pos (← eval (.Name x np) env) [] (backTo pos (starEach es env)) (backToKw pos (keywordEach [] env))) Q E s
  rw [hp.back]
  exact wpAny_bind h
theorem rel_call {B : FMap} {φ : List Addr} {H : Hp} {s : Shared} {d : Nat} {fa : Addr} {vs : List AV} {v : AV} (R : Rel g B φ H s.heap) (hA : Room A d) (c : CallOk prog w g.hb fa d vs v) (hp : AV.pures vs = true) {vals : List Value} (V : VRs B φ vs vals) {Q : Value → Shared → Prop} {E : Value → Shared → Prop}
    (k : ∀ B' val h' tk, Grow φ B s.heap φ B' h' → Rel g B' φ H h' → VR B' φ v val → Q val { s with heap := h', toks := tk }) : wpAny (model prog w) A (call (.ref fa) vals) Q E s := by
  refine c A hA B s Q E vals R.base R.keep (VRs.pure hp V) fun B' val h' tk hm hn hk hf V' => ?_
  have hφB : ∀ (k : Nat) (a : Addr) (x : AO), φ[k]? = some a → H[k]? = some x → x.isHole = false → B' a = none := fun k a x e1 e2 e3 => by
    cases q : B' a with
    | none => rfl
    | some o =>
      rcases hn a o q with h1 | h1
      · rw [R.out k a x e1 e2 e3] at h1; cases h1
      · obtain ⟨o', ho⟩ := R.alive a (List.mem_of_getElem? e1); rw [h1] at ho; cases ho
  refine k B' val h' tk ⟨List.prefix_refl _, fun _ h => .inl h, hm, fun a o e => ?_, fun a o _ e => hf a o e⟩
    ⟨fun a o e => hm _ _ (R.base a o e), R.dup, hk, R.len, R.nodup, hφB, fun a ha => ?_, fun j a x e1 e2 => (R.obj j a x e1 e2).mono hm (List.prefix_refl _) fun o e => hf _ _ e⟩ (VR.mono (fun _ _ e => e) List.nil_prefix V')
  · rcases hn a o e with h1 | h1
    · exact .inl h1
    · exact .inr (.inr h1)
  · obtain ⟨o, e⟩ := R.alive a ha; exact ⟨o, hf _ _ e⟩
structure Named (hb : Heap) (mg : Str → Option Value) (x : Str) (fa : Addr) : Prop where
  name : mg x = some (.ref fa)
  func : ∃ o fd, hb.get? fa = some o ∧ o.data = .func fd
theorem ev_fcall (T : TopOk g.hb mg mb) {d : Nat} (hA : Room A d) {x : Str} {fa : Addr} (N : Named g.hb mg x fa) {es : List Expr} (hpl : PlainL es) {pn p : Pos} {H H1 : Hp} {vs : List AV} {v : AV} (hx : sc.names.lookup x = some .globalImplicit) (hd : (x == ("__debug__" : Str)) = false)
    (h1 : EvL prog w A g sc ξ env (spliced (es.map fun e => (false, eval e env))) H vs H1) (hp : AV.pures vs = true) (c : CallOk prog w g.hb fa d vs v) (hne : es.isEmpty = false) :
    Ev prog w A g sc ξ env (eval (.Call (.Name x pn) es [] p) env) H v H1 := fun B φ s Q E R Er k => by
  obtain ⟨o, fd, ho, hfd⟩ := N.func
  refine Call_names hpl (name_global T R Er hx N.name ?_ hd)
  refine Calls.callWith_function (o := o) (fd := fd) ?_
  cases es with
  | nil => cases hne
  | cons e r =>
    refine Calls.evalArgs_plain (h1 B φ s _ _ R Er fun B1 φ1 vals h1' tk1 G1 R1 V1 => ⟨⟨R1.keep _ _ (R1.base _ _ ho), hfd⟩, ?_⟩)
    exact rel_call R1 hA c hp V1 fun B2 val h2 tk2 G2 R2 V2 => k _ _ _ _ _ (G1.trans G2) R2 V2
end
end Mine
end
section
set_option Elab.async false
set_option linter.all false
namespace Mine
open PySem PyProof.Rows PySem.W PySem.Builtin PySem.Builtin.Re
theorem runFor_done : ∀ (n : Nat) (m : Sre.M), m.outcome.isSome = true → m.runFor n = m
  | 0, m, _ => rfl
  | n + 1, m, h => by unfold Sre.M.runFor; rw [if_pos h]
theorem runFor_add : ∀ (a b : Nat) (m : Sre.M), m.runFor (a + b) = (m.runFor a).runFor b
  | 0, b, m => by rw [Nat.zero_add]; rfl
  | a + 1, b, m => by
    rw [Nat.add_right_comm a 1 b]
    show Sre.M.runFor (a + b + 1) m = _
    by_cases h : m.outcome.isSome = true
    · rw [runFor_done _ m h, runFor_done _ m h, runFor_done _ m h]
    · simp only [Sre.M.runFor, if_neg h]
      exact runFor_add a b m.step
noncomputable def Ends (m e : Sre.M) (n : Nat) : Prop := m.runFor n = e ∧ e.outcome.isSome = true
theorem Ends.step {m m' e : Sre.M} {a n : Nat} (h : m.runFor a = m') (k : Ends m' e n) : Ends m e (a + n) := ⟨by rw [runFor_add, h]; exact k.1, k.2⟩
section
variable {prog : Program} {w : World} {A : Around} {E : Value → Shared → Prop}
theorem wpAny_reDrive : ∀ (turns : Nat) {n : Nat} {m e : Sre.M} {s : Shared} {Q : Sre.M → Shared → Prop}, Ends m e n → n ≤ 4 * turns → (0 < turns) → Q e s → wpAny (model prog w) A (reDrive turns m) Q E s
  | 0, _, _, _, _, _, _, _, h0, _ => absurd h0 (Nat.lt_irrefl _)
  | turns + 1, n, m, e, s, Q, he, hn, _, hq => by
    unfold reDrive
    show wpAny _ _ (if (m.runFor 4).outcome.isSome = true then _ else _) _ _ _
    by_cases hd : (m.runFor 4).outcome.isSome = true
    · rw [if_pos hd]
      have : m.runFor 4 = e := by
        rcases Nat.le_total n 4 with h | h
        · obtain ⟨k, hk⟩ := Nat.exists_eq_add_of_le h
          rw [hk, runFor_add, he.1, runFor_done _ _ he.2]
        · obtain ⟨k, rfl⟩ := Nat.exists_eq_add_of_le h
          have h1 := he.1
          rw [runFor_add, runFor_done _ _ hd] at h1
          exact h1
      show wpAny _ _ (pure (m.runFor 4)) _ _ _
      rw [this]; exact wpAny_pure hq
    · rw [if_neg hd]
      have h4 : 4 < n := by
        rcases Nat.lt_or_ge 4 n with h | h
        · exact h
        · obtain ⟨k, hk⟩ := Nat.exists_eq_add_of_le h
          exfalso; apply hd
          rw [hk, runFor_add, he.1, runFor_done _ _ he.2]; exact he.2
      obtain ⟨k, rfl⟩ := Nat.exists_eq_add_of_le (Nat.le_of_lt h4)
      refine wpAny_bind (wpAny_rule (wpAny_reDrive turns (n := k) ⟨?_, he.2⟩ (by omega) (by omega) hq))
      rw [← runFor_add]; exact he.1
theorem rules_loop (m : Sre.M) : ∀ (l : List Nat) (s : Shared) (Q : PUnit → Shared → Prop), Q ⟨⟩ s → wpAny (model prog w) A (forIn l PUnit.unit fun i r => do
      if m.seen.has i then rule (Sre.names.getD i "")
      pure (ForInStep.yield PUnit.unit)) Q E s
  | [], s, Q, h => by rw [List.forIn_nil]; exact wpAny_pure h
  | i :: r, s, Q, h => by
    rw [List.forIn_cons]
    refine wpAny_bind ?_
    by_cases hi : m.seen.has i = true
    · simp only [hi, if_true]; exact wpAny_bind (wpAny_rule (wpAny_pure (rules_loop m r s Q h)))
    · simp only [hi]; exact wpAny_pure (rules_loop m r s Q h)
theorem wpAny_reRunToEnd {m e : Sre.M} {n : Nat} {s : Shared} {Q : Option Sre.M → Shared → Prop} {r : Option Sre.M} (he : Ends m e n) (hn : n ≤ 2 ^ 66) (hr : (e.outcome = some .matched ∧ r = some e) ∨ (e.outcome = some .failed ∧ r = none)) (hq : Q r s) : wpAny (model prog w) A (reRunToEnd m) Q E s := by
  unfold reRunToEnd
  refine wpAny_bind (wpAny_reDrive (2 ^ 64) he (by omega) (by decide) ?_)
  refine wpAny_bind (rules_loop e _ s _ ?_)
  rcases hr with ⟨h, rfl⟩ | ⟨h, rfl⟩
  · rw [h]; exact wpAny_pure hq
  · rw [h]; exact wpAny_pure hq
end
end Mine
end
section
set_option Elab.async false
set_option linter.all false
set_option maxRecDepth 4000
namespace Mine
open PySem PyProof.Rows PySem.W PySem.Builtin PySem.Builtin.Re PySem.Sre
theorem step_lit {m : Sre.M} {b : Bool} (ho : m.outcome = none) (ha : m.answer = none) (hz : m.pc < m.code.size) (hw : Sre.ops[m.code.getD m.pc 0]? = some .LITERAL) (hv : itemWidth m.code m.pc = 2) (hl : m.pos < m.lim)
    (hb : (m.text.getD m.pos 0 == m.code.getD (m.pc + 1) 0) = b) : m.runFor 1 = cond b { m with seen := m.seen.add (m.code.getD m.pc 0), pc := m.pc + 2, pos := m.pos + 1 } { m with seen := m.seen.add (m.code.getD m.pc 0), answer := some false } := by
  obtain ⟨code, text, lim, start, lastStart, wholeText, mustAdvance, pc, pos, handed, outermost, marks, lastmark, lastindex, loops, inner, frames, weight, answer, seen, outcome⟩ := m
  cases ho; cases ha
  have e : ∀ sn, Sre.accepts code pc (text.getD pos 0) sn = .ok (b, sn) := fun sn => by
    unfold Sre.accepts; rw [hw, ← hb]
  show (if pc < code.size then M.exec _ else _) = _
  rw [if_pos hz]
  unfold M.exec
  rw [show Sre.ops[M.word (M.mk code text lim start lastStart wholeText mustAdvance pc pos handed outermost marks lastmark lastindex loops inner frames weight none seen none) 0]? = some .LITERAL from hw]
  show (if pos ≥ lim then _ else _) = _
  rw [if_neg (Nat.not_le.mpr hl)]
  rw [e, hv]
  cases b <;> rfl
theorem step_end {m : Sre.M} (ho : m.outcome = none) (ha : m.answer = none) (hz : m.pc < m.code.size) (hw : Sre.ops[m.code.getD m.pc 0]? = some .LITERAL) (hl : m.lim ≤ m.pos) :
    m.runFor 1 = { m with seen := m.seen.add (m.code.getD m.pc 0), answer := some false } := by
  obtain ⟨code, text, lim, start, lastStart, wholeText, mustAdvance, pc, pos, handed, outermost, marks, lastmark, lastindex, loops, inner, frames, weight, answer, seen, outcome⟩ := m
  cases ho; cases ha
  show (if pc < code.size then M.exec _ else _) = _
  rw [if_pos hz]
  unfold M.exec
  rw [show Sre.ops[M.word (M.mk code text lim start lastStart wholeText mustAdvance pc pos handed outermost marks lastmark lastindex loops inner frames weight none seen none) 0]? = some .LITERAL from hw]
  show (if pos ≥ lim then _ else _) = _
  rw [if_pos hl]
  rfl
theorem step_at {m : Sre.M} {b : Bool} (ho : m.outcome = none) (ha : m.answer = none) (hz : m.pc < m.code.size) (hw : Sre.ops[m.code.getD m.pc 0]? = some .AT) (h1 : m.code.getD (m.pc + 1) 0 = 1)
    (hb : (m.pos == 0 || m.text.getD (m.pos - 1) 0 == 10) = b) : m.runFor 1 = cond b { m with seen := (m.seen.add (m.code.getD m.pc 0)).add 44, pc := m.pc + 2 } { m with seen := (m.seen.add (m.code.getD m.pc 0)).add 44, answer := some false } := by
  obtain ⟨code, text, lim, start, lastStart, wholeText, mustAdvance, pc, pos, handed, outermost, marks, lastmark, lastindex, loops, inner, frames, weight, answer, seen, outcome⟩ := m
  cases ho; cases ha; cases hb
  show (if pc < code.size then M.exec _ else _) = _
  rw [if_pos hz]
  unfold M.exec
  rw [show Sre.ops[M.word (M.mk code text lim start lastStart wholeText mustAdvance pc pos handed outermost marks lastmark lastindex loops inner frames weight none seen none) 0]? = some .AT from hw]
  dsimp only [M.word]
  rw [show code.getD (pc + 1) 0 = 1 from h1]
  dsimp only [M.isAt]
  cases (pos == 0 || text.getD (pos - 1) 0 == 10) <;> rfl
noncomputable def Hit (m : Sre.M) (n s h : Nat) : Prop := ∃ e, m.runFor n = e ∧ e.outcome = some .matched ∧ e.start = s ∧ e.handed = h
theorem Hit.step {m m' : Sre.M} {a n s h : Nat} (e : m.runFor a = m') (k : Hit m' n s h) : Hit m (a + n) s h := by
  obtain ⟨x, e1, e2⟩ := k
  exact ⟨x, by rw [runFor_add, e]; exact e1, e2⟩
noncomputable def code1 : Array Nat := #[14, 4, 0, 1, 1, 6, 1, 16, 46, 1]
noncomputable def mch1 (text : Array Nat) (lim s : Nat) (seen : Sre.Seen) (pc pos handed : Nat) (om : Bool) (fr : List Sre.Frame) (w : Nat) (ans : Option Bool) : Sre.M :=
  { code := code1, text, lim, start := s, lastStart := lim, pc, pos, handed, outermost := om, marks := #[], frames := fr, weight := w, answer := ans, seen }
noncomputable def fr1 (s : Nat) (om : Bool) : Sre.Frame := { wait := .nextStart, pc := 5, pos := s, outermost := om }
noncomputable def at1 (text : Array Nat) (lim s : Nat) (first : Bool) (seen : Sre.Seen) : Sre.M := mch1 text lim s seen 5 s s first [fr1 s first] 1 none
noncomputable def lineStart (text : Array Nat) (s : Nat) : Prop := s = 0 ∨ text[s - 1]?.getD 0 = 10
section
variable {text : Array Nat} {lim s : Nat} {first : Bool} {seen : Sre.Seen}
theorem ls_bool : (s == 0 || text.getD (s - 1) 0 == 10) = true ↔ lineStart text s := by
  rw [Bool.or_eq_true, beq_iff_eq, beq_iff_eq, Array.getD_eq_getD_getElem?]; exact Iff.rfl
theorem at1_a (h : ¬ lineStart text s) : (at1 text lim s first seen).runFor 1 = mch1 text lim s ((seen.add 6).add 44) 5 s s first [fr1 s first] 1 (some false) :=
  step_at (m := at1 text lim s first seen) (b := false) rfl rfl (by show 5 < 10; decide) rfl rfl (Bool.eq_false_iff.mpr fun q => h (ls_bool.mp q))
theorem at1_b (h : lineStart text s) : (at1 text lim s first seen).runFor 1 = mch1 text lim s ((seen.add 6).add 44) 7 s s first [fr1 s first] 1 none :=
  step_at (m := at1 text lim s first seen) (b := true) rfl rfl (by show 5 < 10; decide) rfl rfl (ls_bool.mpr h)
theorem at1_c (hs : s < lim) (hd : text[s]?.getD 0 = 46) : (mch1 text lim s seen 7 s s first [fr1 s first] 1 none).runFor 1 = mch1 text lim s (seen.add 16) 9 (s + 1) s first [fr1 s first] 1 none :=
  step_lit (m := mch1 text lim s seen 7 s s first [fr1 s first] 1 none) (b := true) rfl rfl (by show 7 < 10; decide) rfl rfl hs (by show (text.getD s 0 == 46) = true; rw [Array.getD_eq_getD_getElem?, hd]; rfl)
theorem at1_d (hd : ¬ (s < lim ∧ text[s]?.getD 0 = 46)) : (mch1 text lim s seen 7 s s first [fr1 s first] 1 none).runFor 1 = mch1 text lim s (seen.add 16) 7 s s first [fr1 s first] 1 (some false) := by
  by_cases hl : s < lim
  · exact step_lit (m := mch1 text lim s seen 7 s s first [fr1 s first] 1 none) (b := false) rfl rfl (by show 7 < 10; decide) rfl rfl hl (by show (text.getD s 0 == 46) = false; rw [Array.getD_eq_getD_getElem?]; exact beq_false_of_ne fun q => hd ⟨hl, q⟩)
  · exact step_end (m := mch1 text lim s seen 7 s s first [fr1 s first] 1 none) rfl rfl (by show 7 < 10; decide) rfl (Nat.not_lt.mp hl)
theorem at1_e {p : Nat} : Hit (mch1 text lim s seen 9 p s first [fr1 s first] 1 none) 3 s p := by
  cases first <;> exact ⟨_, rfl, rfl, rfl, rfl⟩
theorem at1_f {pc p : Nat} (hs : s < lim) : (mch1 text lim s seen pc p s first [fr1 s first] 1 (some false)).runFor 1 = at1 text lim (s + 1) false seen := by
  show (if s < lim then _ else _) = _
  rw [if_pos hs]; rfl
theorem at1_g {pc p : Nat} {seen : Sre.Seen} : ∃ e, Ends (mch1 text lim lim seen pc p lim first [fr1 lim first] 1 (some false)) e 2 ∧ e.outcome = some .failed := by
  have e1 : (mch1 text lim lim seen pc p lim first [fr1 lim first] 1 (some false)).runFor 1 = mch1 text lim lim seen 5 lim lim first [] 0 (some false) := by
    show (if lim < lim then _ else _) = _
    rw [if_neg (Nat.lt_irrefl _)]; rfl
  exact ⟨_, Ends.step e1 (n := 1) ⟨rfl, rfl⟩, rfl⟩
end
theorem at1_no (text : Array Nat) (lim s : Nat) (first : Bool) (seen : Sre.Seen) (h : ¬ lineStart text s) (hs : s < lim) : ∃ seen', (at1 text lim s first seen).runFor 2 = at1 text lim (s + 1) false seen' :=
  ⟨_, by rw [runFor_add 1 1, at1_a h, at1_f hs]⟩
theorem at1_yes (text : Array Nat) (lim s : Nat) (first : Bool) (seen : Sre.Seen) (h : lineStart text s) (hs : s < lim) (hd : text[s]?.getD 0 = 46) : Hit (at1 text lim s first seen) 5 s (s + 1) :=
  ((at1_e.step (at1_c hs hd)).step (at1_b h) : Hit _ (1 + (1 + 3)) _ _)
theorem at1_other (text : Array Nat) (lim s : Nat) (first : Bool) (seen : Sre.Seen) (h : lineStart text s) (hs : s < lim) (hd : text[s]?.getD 0 ≠ 46) : ∃ seen', (at1 text lim s first seen).runFor 3 = at1 text lim (s + 1) false seen' :=
  ⟨_, by rw [runFor_add 1 2, at1_b h, runFor_add 1 1, at1_d fun q => hd q.2, at1_f hs]⟩
theorem at1_end (text : Array Nat) (lim : Nat) (first : Bool) (seen : Sre.Seen) : ∃ e n, Ends (at1 text lim lim first seen) e n ∧ n ≤ 4 ∧ e.outcome = some .failed := by
  by_cases h : lineStart text lim
  · obtain ⟨e, h1, h2⟩ := at1_g (text := text) (lim := lim) (first := first) (pc := 7) (p := lim) (seen := ((seen.add 6).add 44).add 16)
    exact ⟨e, 1 + (1 + 2), (h1.step (at1_d fun q => Nat.lt_irrefl _ q.1)).step (at1_b h), by decide, h2⟩
  · obtain ⟨e, h1, h2⟩ := at1_g (text := text) (lim := lim) (first := first) (pc := 5) (p := lim) (seen := (seen.add 6).add 44)
    exact ⟨e, 1 + 2, h1.step (at1_a h), by decide, h2⟩
end Mine
end
section
set_option Elab.async false
set_option linter.all false
namespace Mine
open PySem PyProof.Rows PySem.W PySem.Builtin PySem.Builtin.Re PySem.Sre
noncomputable def dotAt (text : Array Nat) (p : Nat) : Prop := lineStart text p ∧ text[p]?.getD 0 = 46
noncomputable def Found1 (text : Array Nat) (lim s : Nat) (e : Sre.M) : Prop :=
  (∃ p, s ≤ p ∧ p < lim ∧ dotAt text p ∧ (∀ q, s ≤ q → q < p → ¬ dotAt text q) ∧ e.outcome = some .matched ∧ e.start = p ∧ e.handed = p + 1) ∨ ((∀ q, s ≤ q → q < lim → ¬ dotAt text q) ∧ e.outcome = some .failed)
theorem found1_next {text : Array Nat} {lim s : Nat} {e : Sre.M} (h : ¬ dotAt text s) (k : Found1 text lim (s + 1) e) : Found1 text lim s e := by
  have key : ∀ q, s ≤ q → q = s ∨ s + 1 ≤ q := fun q hq => by omega
  rcases k with ⟨p, h1, h2, h3, h4, h5⟩ | ⟨h1, h2⟩
  · refine .inl ⟨p, by omega, h2, h3, fun q hq hp => ?_, h5⟩
    rcases key q hq with rfl | hq'
    · exact h
    · exact h4 q hq' hp
  · refine .inr ⟨fun q hq hl => ?_, h2⟩
    rcases key q hq with rfl | hq'
    · exact h
    · exact h1 q hq' hl
theorem find1 (text : Array Nat) (lim : Nat) : ∀ (k s : Nat), s + k = lim → ∀ (first : Bool) (seen : Sre.Seen), ∃ e n, Ends (at1 text lim s first seen) e n ∧ n ≤ 5 * (k + 1) ∧ Found1 text lim s e
  | 0, s, hk, first, seen => by
    have : s = lim := by omega
    subst this
    obtain ⟨e, n, h1, hn, h2⟩ := at1_end text s first seen
    exact ⟨e, n, h1, by omega, .inr ⟨fun q hq hl => by omega, h2⟩⟩
  | k + 1, s, hk, first, seen => by
    have hs : s < lim := by omega
    by_cases hl : lineStart text s
    · by_cases hd : text[s]?.getD 0 = 46
      · obtain ⟨e, h1, h2, h3, h4⟩ := at1_yes text lim s first seen hl hs hd
        exact ⟨e, 5, ⟨h1, by rw [h2]; rfl⟩, by omega, .inl ⟨s, Nat.le_refl _, hs, ⟨hl, hd⟩, fun q hq hp => by omega, h2, h3, h4⟩⟩
      · obtain ⟨seen', h1⟩ := at1_other text lim s first seen hl hs hd
        obtain ⟨e, n, h2, h3, h4⟩ := find1 text lim k (s + 1) (by omega) false seen'
        exact ⟨e, 3 + n, h2.step h1, by omega, found1_next (fun q => hd q.2) h4⟩
    · obtain ⟨seen', h1⟩ := at1_no text lim s first seen hl hs
      obtain ⟨e, n, h2, h3, h4⟩ := find1 text lim k (s + 1) (by omega) false seen'
      exact ⟨e, 2 + n, h2.step h1, by omega, found1_next (fun q => hl q.1) h4⟩
noncomputable def base1' (text : Array Nat) (lim s : Nat) : Sre.M := { code := code1, text, lim, start := s, pc := 5, pos := s, handed := s, marks := #[], seen := ({} : Sre.Seen).add 14 }
theorem search1 (text : Array Nat) (lim s : Nat) (hs : s ≤ lim) : ∃ e n, Ends (Sre.forSearch code1 text 0 s lim false) e n ∧ n ≤ 5 * (lim + 2) ∧ Found1 text lim s e := by
  by_cases h : s < lim
  · obtain ⟨e, n, h1, h2, h3⟩ := find1 text lim (lim - s) s (by omega) true (({} : Sre.Seen).add 14)
    refine ⟨e, n, ?_, by omega, h3⟩
    have hf : Sre.forSearch code1 text 0 s lim false = at1 text lim s true (({} : Sre.Seen).add 14) := by
      have h' : ¬ (decide (s > lim) || decide (lim - s < 1)) = true := by rw [Bool.or_eq_true, decide_eq_true_iff, decide_eq_true_iff]; omega
      show ite ((decide (s > lim) || decide (lim - s < 1)) = true) _ _ = _
      rw [if_neg h']; rfl
    rw [hf]; exact h1
  · have : s = lim := by omega
    subst this
    have e : Sre.forSearch code1 text 0 s s false = M.say (base1' text s s) false := by
      have h' : (decide (s > s) || decide (s - s < 1)) = true := by rw [Bool.or_eq_true, decide_eq_true_iff, decide_eq_true_iff]; omega
      show ite ((decide (s > s) || decide (s - s < 1)) = true) _ _ = _
      rw [if_pos h']; rfl
    rw [e]
    exact ⟨_, 1, ⟨rfl, rfl⟩, by omega, .inr ⟨fun q hq hl => by omega, rfl⟩⟩
end Mine
end
section
set_option Elab.async false
set_option linter.all false
set_option maxRecDepth 4000
namespace Mine
open PySem PyProof.Rows PySem.W PySem.Builtin PySem.Builtin.Re PySem.Sre
noncomputable def code2 : Array Nat := #[14, 9, 4, 1, 2, 16, 10, 16, 13, 0, 7, 7, 16, 13, 16, 10, 15, 18, 5, 16, 10, 15, 13, 11, 16, 13, 5, 5, 0, 16, 10, 1, 15, 2, 0, 1]
noncomputable def mch2 (text : Array Nat) (lim s : Nat) (seen : Sre.Seen) (pc pos handed : Nat) (om : Bool) (fr : List Sre.Frame) (w : Nat) (ans : Option Bool) : Sre.M :=
  { code := code2, text, lim, start := s, lastStart := lim, pc, pos, handed, outermost := om, marks := #[], frames := fr, weight := w, answer := ans, seen }
noncomputable def fr0 (s : Nat) : Sre.Frame := { wait := .nextStart, pc := 10, pos := s, outermost := true }
noncomputable def frb (pc s : Nat) : Sre.Frame := { wait := .nextBranch, pc := pc, pos := s, outermost := true, kept := { lastmark := -1, lastindex := -1, whole := false, marks := #[] } }
noncomputable def frn (pc s : Nat) : Sre.Frame := { wait := .lookNot, pc := pc, pos := s, outermost := true, kept := { lastmark := -1, lastindex := -1, whole := false, marks := #[] } }
noncomputable def at2 (text : Array Nat) (lim s : Nat) (seen : Sre.Seen) : Sre.M := mch2 text lim s seen 10 s s true [fr0 s] 1 none
section
variable {text : Array Nat} {lim s : Nat} {seen : Sre.Seen}
theorem lit_yes {pc pos handed : Nat} {om : Bool} {fr : List Sre.Frame} {w c : Nat} (hk : pc < 36 ∧ code2.getD pc 0 = 16 ∧ code2.getD (pc + 1) 0 = c) (hl : pos < lim) (h : text[pos]?.getD 0 = c) : (mch2 text lim s seen pc pos handed om fr w none).runFor 1 = mch2 text lim s (seen.add 16) (pc + 2) (pos + 1) handed om fr w none := by
  obtain ⟨hz, h1, h2⟩ := hk
  have e : Sre.ops[code2.getD pc 0]? = some .LITERAL := by rw [h1]; rfl
  have h' := step_lit (m := mch2 text lim s seen pc pos handed om fr w none) (b := true) rfl rfl hz e (by show itemWidth code2 pc = 2; unfold itemWidth; rw [e]) hl (by show (text.getD pos 0 == code2.getD (pc + 1) 0) = true; rw [h2, Array.getD_eq_getD_getElem?, h, beq_self_eq_true])
  rw [h']
  show mch2 text lim s (seen.add (code2.getD pc 0)) (pc + 2) (pos + 1) handed om fr w none = _
  rw [h1]
theorem lit_no {pc pos handed : Nat} {om : Bool} {fr : List Sre.Frame} {w c : Nat} (hk : pc < 36 ∧ code2.getD pc 0 = 16 ∧ code2.getD (pc + 1) 0 = c) (h : ¬ (pos < lim ∧ text[pos]?.getD 0 = c)) : (mch2 text lim s seen pc pos handed om fr w none).runFor 1 = mch2 text lim s (seen.add 16) pc pos handed om fr w (some false) := by
  obtain ⟨hz, h1, h2⟩ := hk
  have e : Sre.ops[code2.getD pc 0]? = some .LITERAL := by rw [h1]; rfl
  have f : mch2 text lim s (seen.add (code2.getD pc 0)) pc pos handed om fr w (some false) = mch2 text lim s (seen.add 16) pc pos handed om fr w (some false) := by rw [h1]
  by_cases hl : pos < lim
  · exact (step_lit (m := mch2 text lim s seen pc pos handed om fr w none) (b := false) rfl rfl hz e (by show itemWidth code2 pc = 2; unfold itemWidth; rw [e]) hl (by show (text.getD pos 0 == code2.getD (pc + 1) 0) = false; rw [h2, Array.getD_eq_getD_getElem?]; exact beq_false_of_ne fun q => h ⟨hl, q⟩)).trans f
  · exact (step_end (m := mch2 text lim s seen pc pos handed om fr w none) rfl rfl hz e (Nat.not_lt.mp hl)).trans f
theorem st_a : (at2 text lim s seen).runFor 1 = mch2 text lim s (seen.add 7) 12 s s true [frb 11 s, fr0 s] 2 none := rfl
theorem st_d {pc p : Nat} : (mch2 text lim s seen pc p s true [frb 11 s, fr0 s] 2 (some false)).runFor 1 = mch2 text lim s seen 19 s s true [frb 18 s, fr0 s] 2 none := rfl
theorem st_f : (mch2 text lim s seen 19 s s true [frb 18 s, fr0 s] 2 (some false)).runFor 1 = mch2 text lim s seen 24 s s true [frb 23 s, fr0 s] 2 none := rfl
theorem st_h : (mch2 text lim s seen 26 (s + 1) s true [frb 23 s, fr0 s] 2 none).runFor 1 = mch2 text lim s (seen.add 5) 29 (s + 1) (s + 1) false [frn 26 (s + 1), frb 23 s, fr0 s] 3 none := rfl
theorem st_j : (mch2 text lim s seen 29 (s + 1) (s + 1) false [frn 26 (s + 1), frb 23 s, fr0 s] 3 (some false)).runFor 1 = mch2 text lim s seen 32 (s + 1) (s + 1) true [frb 23 s, fr0 s] 2 none := rfl
theorem st_k {p w : Nat} {f : Sre.Frame} : (mch2 text lim s seen 35 p w true [f, fr0 s] 2 none).runFor 1 = mch2 text lim s (seen.add 1) 35 p p true [f, fr0 s] 2 (some true) := rfl
theorem st_n {p w k : Nat} : (mch2 text lim s seen 35 p w true [frb k s, fr0 s] 2 (some true)).runFor 1 = mch2 text lim s seen k s w true [fr0 s] 1 (some true) := rfl
theorem st_o {w k : Nat} : (mch2 text lim s seen k s w true [fr0 s] 1 (some true)).runFor 2 = { mch2 text lim s seen 10 s w true [] 0 (some true) with outcome := some .matched } := rfl
theorem st_l {p w : Nat} {f : Sre.Frame} : (mch2 text lim s seen 16 p w true [f, fr0 s] 2 none).runFor 1 = mch2 text lim s (seen.add 15) 35 p w true [f, fr0 s] 2 none := rfl
theorem st_m {p w : Nat} {f : Sre.Frame} : (mch2 text lim s seen 21 p w true [f, fr0 s] 2 none).runFor 1 = mch2 text lim s (seen.add 15) 35 p w true [f, fr0 s] 2 none := rfl
theorem st_q {p w : Nat} {f : Sre.Frame} : (mch2 text lim s seen 32 p w true [f, fr0 s] 2 none).runFor 1 = mch2 text lim s (seen.add 15) 35 p w true [f, fr0 s] 2 none := rfl
end
theorem hit_end {text : Array Nat} {lim s : Nat} {seen : Sre.Seen} {p w k : Nat} : Hit (mch2 text lim s seen 35 p w true [frb k s, fr0 s] 2 none) 4 s p :=
  (((Hit.step st_o ⟨_, rfl, rfl, rfl, rfl⟩ : Hit _ (2 + 0) _ _).step st_n).step st_k : Hit _ (1 + (1 + (2 + 0))) _ _)
theorem at2_crlf (text : Array Nat) (lim s : Nat) (seen : Sre.Seen) (hs : s < lim) (hs2 : s + 1 < lim) (h1 : text[s]?.getD 0 = 13) (h2 : text[s + 1]?.getD 0 = 10) : Hit (at2 text lim s seen) 8 s (s + 2) :=
  ((((hit_end.step st_l).step (lit_yes (by decide) hs2 h2)).step (lit_yes (by decide) hs h1)).step st_a : Hit _ (1 + (1 + (1 + (1 + 4)))) _ _)
theorem at2_lf (text : Array Nat) (lim s : Nat) (seen : Sre.Seen) (hs : s < lim) (h1 : text[s]?.getD 0 = 10) : Hit (at2 text lim s seen) 9 s (s + 1) :=
  (((((hit_end.step st_m).step (lit_yes (by decide) hs h1)).step st_d).step (lit_no (c := 13) (by decide) fun q => by rw [h1] at q; cases q.2)).step st_a : Hit _ (1 + (1 + (1 + (1 + (1 + 4))))) _ _)
theorem at2_cr (text : Array Nat) (lim s : Nat) (seen : Sre.Seen) (hs : s < lim) (h1 : text[s]?.getD 0 = 13) (h2 : ¬ (s + 1 < lim ∧ text[s + 1]?.getD 0 = 10)) : Hit (at2 text lim s seen) 15 s (s + 1) :=
  (((((((((((hit_end.step st_q).step st_j).step (lit_no (by decide) h2)).step st_h).step (lit_yes (by decide) hs h1)).step st_f).step (lit_no (c := 10) (by decide) fun q => by rw [h1] at q; cases q.2)).step st_d).step (lit_no (by decide) h2)).step (lit_yes (by decide) hs h1)).step st_a : Hit _ (1 + (1 + (1 + (1 + (1 + (1 + (1 + (1 + (1 + (1 + (1 + 4))))))))))) _ _)
noncomputable def eolAt (text : Array Nat) (p : Nat) : Prop := text[p]?.getD 0 = 10 ∨ text[p]?.getD 0 = 13
noncomputable def eolLen (text : Array Nat) (lim p : Nat) : Nat := if text[p]?.getD 0 = 13 ∧ p + 1 < lim ∧ text[p + 1]?.getD 0 = 10 then 2 else 1
noncomputable def Found2 (text : Array Nat) (lim s : Nat) (e : Sre.M) : Prop :=
  (∃ p, s ≤ p ∧ p < lim ∧ eolAt text p ∧ (∀ q, s ≤ q → q < p → ¬ eolAt text q) ∧ e.outcome = some .matched ∧ e.start = p ∧ e.handed = p + eolLen text lim p) ∨ ((∀ q, s ≤ q → q < lim → ¬ eolAt text q) ∧ e.outcome = some .failed)
theorem inSet2_a {c : Nat} {seen : Sre.Seen} : Sre.inSet code2 c 36 5 true seen = if (c == 10) = true then .ok (true, seen.add 16) else Sre.inSet code2 c 35 7 true (seen.add 16) := rfl
theorem inSet2_b {c : Nat} {seen : Sre.Seen} : Sre.inSet code2 c 35 7 true seen = if (c == 13) = true then .ok (true, seen.add 16) else Sre.inSet code2 c 34 9 true (seen.add 16) := rfl
theorem inSet2_c {c : Nat} {seen : Sre.Seen} : Sre.inSet code2 c 34 9 true seen = .ok (false, seen.add 0) := rfl
theorem inSet2 (c : Nat) (seen : Sre.Seen) : ∃ seen', Sre.inSet code2 c code2.size 5 true seen = .ok (decide (c = 10 ∨ c = 13), seen') := by
  show ∃ seen', Sre.inSet code2 c 36 5 true seen = _
  by_cases h1 : c = 10
  · exact ⟨_, by rw [inSet2_a, if_pos (by rw [h1]; rfl), decide_eq_true (.inl h1)]⟩
  · by_cases h2 : c = 13
    · exact ⟨_, by rw [inSet2_a, if_neg (by rw [h2]; decide), inSet2_b, if_pos (by rw [h2]; rfl), decide_eq_true (.inr h2)]⟩
    · exact ⟨_, by rw [inSet2_a, if_neg (by rw [beq_false_of_ne h1]; decide), inSet2_b, if_neg (by rw [beq_false_of_ne h2]; decide), inSet2_c, decide_eq_false fun h => h.elim h1 h2]⟩
end Mine
end
section
set_option Elab.async false
set_option linter.all false
set_option maxRecDepth 4000
namespace Mine
open PySem PyProof.Rows PySem.W PySem.Builtin PySem.Builtin.Re PySem.Sre
theorem admitted2 (m : Sre.M) (hc : m.code = code2) : ∀ (fuel s : Nat) (seen : Sre.Seen), m.lim - s < fuel → ∃ seen', (∃ p, s ≤ p ∧ p < m.lim ∧ eolAt m.text p ∧ (∀ q, s ≤ q → q < p → ¬ eolAt m.text q) ∧ M.admitted m fuel s seen = .ok (some p, seen')) ∨
    ((∀ q, s ≤ q → q < m.lim → ¬ eolAt m.text q) ∧ M.admitted m fuel s seen = .ok (none, seen'))
  | 0, s, seen, h => absurd h (Nat.not_lt_zero _)
  | fuel + 1, s, seen, h => by
    unfold M.admitted
    by_cases hs : s ≥ m.lim
    · rw [if_pos hs]
      exact ⟨seen, .inr ⟨fun q hq hl => absurd hl (by omega), rfl⟩⟩
    · rw [if_neg hs, hc]
      obtain ⟨seen1, e1⟩ := inSet2 (m.text.getD s 0) seen
      rw [e1]
      have hg : m.text.getD s 0 = m.text[s]?.getD 0 := by simp
      by_cases he : eolAt m.text s
      · have hd : decide (m.text.getD s 0 = 10 ∨ m.text.getD s 0 = 13) = true := by rw [hg]; exact decide_eq_true he
        rw [hd]
        exact ⟨seen1, .inl ⟨s, Nat.le_refl _, by omega, he, fun q hq hp => by omega, rfl⟩⟩
      · have hd : decide (m.text.getD s 0 = 10 ∨ m.text.getD s 0 = 13) = false := by rw [hg]; exact decide_eq_false he
        rw [hd]
        have key : ∀ q, s ≤ q → q = s ∨ s + 1 ≤ q := fun q hq => by omega
        obtain ⟨seen', h'⟩ := admitted2 m hc fuel (s + 1) seen1 (by omega)
        refine ⟨seen', ?_⟩
        rcases h' with ⟨p, h1, h2, h3, h4, h5⟩ | ⟨h1, h2⟩
        · refine .inl ⟨p, by omega, h2, h3, fun q hq hp => ?_, h5⟩
          rcases key q hq with rfl | hq'
          · exact he
          · exact h4 q hq' hp
        · refine .inr ⟨fun q hq hl => ?_, h2⟩
          rcases key q hq with rfl | hq'
          · exact he
          · exact h1 q hq' hl
noncomputable def base2 (text : Array Nat) (lim s : Nat) : Sre.M := { code := code2, text, lim, start := s, lastStart := lim, pc := 10, pos := s, handed := s, marks := #[], seen := ({} : Sre.Seen).add 14 }
noncomputable def base2' (text : Array Nat) (lim s : Nat) : Sre.M := { code := code2, text, lim, start := s, pc := 10, pos := s, handed := s, marks := #[], seen := ({} : Sre.Seen).add 14 }
theorem search2 (text : Array Nat) (lim s : Nat) (hs : s ≤ lim) : ∃ e n, Ends (Sre.forSearch code2 text 0 s lim false) e n ∧ n ≤ 20 ∧ Found2 text lim s e := by
  by_cases h : s < lim
  · have hf : Sre.forSearch code2 text 0 s lim false = (base2 text lim s).attemptFrom s true := by
      have h' : ¬ (decide (s > lim) || decide (lim - s < 1)) = true := by rw [Bool.or_eq_true, decide_eq_true_iff, decide_eq_true_iff]; omega
      show ite ((decide (s > lim) || decide (lim - s < 1)) = true) _ _ = _
      rw [if_neg h']; rfl
    rw [hf]
    have hh : (base2 text lim s).hasFirstSet = true := rfl
    unfold M.attemptFrom
    rw [hh]
    simp only [Bool.not_true, Bool.false_eq_true, if_false]
    obtain ⟨seen', h'⟩ := admitted2 (base2 text lim s) rfl (lim + 1 - s) s (base2 text lim s).seen (by show lim - s < _; omega)
    rcases h' with ⟨p, h1, h2, h3, h4, h5⟩ | ⟨h1, h2⟩
    · have h5' : M.admitted (base2 text lim s) ((base2 text lim s).lim + 1 - s) s (base2 text lim s).seen = .ok (some p, seen') := h5
      rw [h5']
      have e0 : M.attemptAt { base2 text lim s with mustAdvance := false, seen := seen' } p true = at2 text lim p seen' := rfl
      show ∃ e n, Ends (M.attemptAt { base2 text lim s with mustAdvance := false, seen := seen' } p true) e n ∧ _
      rw [e0]
      have h2' : p < lim := h2
      have h3' : text[p]?.getD 0 = 10 ∨ text[p]?.getD 0 = 13 := h3
      have fin : ∀ {e : Sre.M} {n : Nat}, (at2 text lim p seen').runFor n = e → e.outcome = some .matched → e.start = p → e.handed = p + eolLen text lim p → n ≤ 20 → ∃ e n, Ends (at2 text lim p seen') e n ∧ n ≤ 20 ∧ Found2 text lim s e := fun {e n} a1 a2 a3 a4 a5 =>
        ⟨e, n, ⟨a1, by rw [a2]; rfl⟩, a5, .inl ⟨p, h1, h2', h3, h4, a2, a3, a4⟩⟩
      by_cases hlf : text[p]?.getD 0 = 10
      · obtain ⟨e, a1, a2, a3, a4⟩ := at2_lf text lim p seen' h2' hlf
        exact fin a1 a2 a3 (by rw [a4]; unfold eolLen; rw [if_neg (by rw [hlf]; simp)]) (by omega)
      · have hcr : text[p]?.getD 0 = 13 := h3'.resolve_left hlf
        by_cases h10 : p + 1 < lim ∧ text[p + 1]?.getD 0 = 10
        · obtain ⟨e, a1, a2, a3, a4⟩ := at2_crlf text lim p seen' h2' h10.1 hcr h10.2
          exact fin a1 a2 a3 (by rw [a4]; unfold eolLen; rw [if_pos ⟨hcr, h10⟩]) (by omega)
        · obtain ⟨e, a1, a2, a3, a4⟩ := at2_cr text lim p seen' h2' hcr h10
          exact fin a1 a2 a3 (by rw [a4]; unfold eolLen; rw [if_neg (fun q => h10 q.2)]) (by omega)
    · have h2' : M.admitted (base2 text lim s) ((base2 text lim s).lim + 1 - s) s (base2 text lim s).seen = .ok (none, seen') := h2
      rw [h2']
      exact ⟨_, 1, ⟨rfl, rfl⟩, by omega, .inr ⟨h1, rfl⟩⟩
  · have : s = lim := by omega
    subst this
    have e : Sre.forSearch code2 text 0 s s false = M.say (base2' text s s) false := by
      have h' : (decide (s > s) || decide (s - s < 1)) = true := by rw [Bool.or_eq_true, decide_eq_true_iff, decide_eq_true_iff]; omega
      show ite ((decide (s > s) || decide (s - s < 1)) = true) _ _ = _
      rw [if_pos h']; rfl
    rw [e]
    exact ⟨_, 1, ⟨rfl, rfl⟩, by omega, .inr ⟨fun q hq hl => by omega, rfl⟩⟩
end Mine
end
section
set_option Elab.async false
set_option linter.all false
set_option maxRecDepth 4000
namespace Mine
open PySem PyProof.Rows PySem.W PySem.Builtin PySem.Builtin.Re PySem.Sre
noncomputable def IsPat (h : Heap) (a : Addr) (code : Array Nat) : Prop :=
  ∃ (fs : Array Value) (T : Addr) (ws : Array Value) (n : Nat), h.get? a = some { cls := .type "re.Pattern", data := .fields fs } ∧ fs.getD 5 .none = .ref T ∧ reRawNat (fs.getD 2 .none) = 0 ∧ reRawNat (fs.getD 6 .none) = 0 ∧
    h.get? T = some { cls := .type "tuple", data := .seq ws n } ∧ (ws.map reRawOf).map (·.toNat) = code
theorem IsPat.keeps {h h' : Heap} {a : Addr} {code : Array Nat} (x : IsPat h a code) (hk : ∀ b o, h.get? b = some o → h'.get? b = some o) : IsPat h' a code := by
  obtain ⟨fs, T, ws, n, h1, h2, h3, h4, h5, h6⟩ := x
  exact ⟨fs, T, ws, n, hk _ _ h1, h2, h3, h4, hk _ _ h5, h6⟩
noncomputable def tgt (a : Addr) (string : Value) (code text : Array Nat) : ReTarget := { pattern := .ref a, string, code, text, kind := 0, groups := 0, pos := 0, lim := text.size }
section
variable {prog : Program} {w : World} {A : Around} {E : Value → Shared → Prop} {s : Shared}
theorem wpAny_whole {a : Addr} {code : Array Nat} {x : Str} {t : Tok} {Q : ReTarget → Shared → Prop} (p : IsPat s.heap a code) (h : Q (tgt a (.str x t) code x.cps) s) : wpAny (model prog w) A (reWholeTarget (.ref a) (.str x t)) Q E s := by
  obtain ⟨fs, T, ws, n, h1, h2, h3, h4, h5, h6⟩ := p
  unfold reWholeTarget
  refine wpAny_bind (wpAny_fieldsOf h1 rfl ?_)
  refine wpAny_bind (m := reTextOf (.str x t)) (wpAny_of_eq (a := (x.cps, 0)) (by rfl) ?_)
  simp only [h3, h4, h2]
  refine wpAny_bind (m := reRawItems (.ref T)) ?_
  unfold reRawItems
  refine wpAny_bind (wpAny_seqItems h5 rfl (wpAny_pure (wpAny_pure ?_)))
  simp only [Option.getD_some, h6]
  exact h
end
end Mine
end
section
set_option Elab.async false
set_option linter.all false
set_option maxRecDepth 4000
namespace Mine
open PySem PyProof.Rows PySem.W PySem.Builtin PySem.Builtin.Re PySem.Sre
structure NextOk (code text : Array Nat) (next : Nat → Option (Nat × Nat)) : Prop where
  run : ∀ s, s ≤ text.size → ∃ e n, Ends (Sre.forSearch code text 0 s text.size false) e n ∧ n ≤ 2 ^ 66 ∧ match next s with
    | some (p, q) => e.outcome = some .matched ∧ e.start = p ∧ e.handed = q
    | none => e.outcome = some .failed
  ok : ∀ s p q, s ≤ text.size → next s = some (p, q) → s ≤ p ∧ p < q ∧ q ≤ text.size
noncomputable def subOut (text : Array Nat) (repl : List Nat) (next : Nat → Option (Nat × Nat)) : Nat → Nat → List Nat
  | 0, _ => []
  | k + 1, d => match next d with
    | some (p, q) => (text.extract d p).toList ++ (repl ++ subOut text repl next k q)
    | none => (text.extract d text.size).toList
section
variable {prog : Program} {w : World} {A : Around} {E : Value → Shared → Prop} {s : Shared}
theorem wpAny_next {code text : Array Nat} {next : Nat → Option (Nat × Nat)} (N : NextOk code text next) {a : Addr} {string : Value} {d : Nat} (hd : d ≤ text.size) {Q : Option Sre.M → Shared → Prop}
    (h : ∀ r, (match next d with | some (p, q) => ∃ e : Sre.M, r = some e ∧ e.start = p ∧ e.handed = q | none => r = none) → Q r s) : wpAny (model prog w) A (reNextFound (tgt a string code text) d false) Q E s := by
  obtain ⟨e, n, h1, h2, h3⟩ := N.run d hd
  unfold reNextFound
  show wpAny _ _ (reRunToEnd (Sre.forSearch code text 0 d text.size false)) _ _ _
  cases q : next d with
  | none =>
    rw [q] at h3
    exact wpAny_reRunToEnd h1 h2 (.inr ⟨h3, rfl⟩) (h none (by rw [q]))
  | some pq =>
    obtain ⟨p, q'⟩ := pq
    rw [q] at h3
    exact wpAny_reRunToEnd h1 h2 (.inl ⟨h3.1, rfl⟩) (h (some e) (by rw [q]; exact ⟨e, rfl, h3.2⟩))
end
end Mine
end
section
set_option Elab.async false
set_option linter.all false
set_option maxRecDepth 4000
namespace Mine
open PySem PyProof.Rows PySem.W PySem.Builtin PySem.Builtin.Re PySem.Sre
theorem entry_subloop : entryFor table "re.Pattern.sub.loop" = some Builtin.«re.Pattern.sub.loop» := entryFor_of_tree (by kernel_rfl)
theorem plain_subloop : plainId "re.Pattern.sub.loop" = true := by decide +kernel
noncomputable def subArgs (a L : Addr) (x : Str) (t : Tok) (r : Str) (rt : Tok) (n d : Nat) : Args :=
  ⟨[.ref a, .str x t, .str r rt, rawInt 0, rawInt 0, rawInt n, rawInt d, rawInt d, .bool false, .ref L, .bool false], []⟩
section
variable {prog : Program} {w : World} {A : Around} {E : Value → Shared → Prop}
theorem push_piece {s : Shared} {Q : Unit → Shared → Prop} {L : Addr} {vs : List Value} {n : Nat} {v : Value} (ho : s.heap.get? L = some (lstObj vs n)) (hz : vs.length ≤ 300000)
    (h : ∀ h' n', h'.get? L = some (lstObj (vs ++ [v]) n') → (∀ b o, b ≠ L → s.heap.get? b = some o → h'.get? b = some o) → Q () { s with heap := h' }) : wpAny (model prog w) A (updateSeq L (·.push v)) Q E s := by
  obtain ⟨⟨n', u1⟩, u2⟩ := upd_list ho (fun a => a.push v) (vs ++ [v]) (by simp)
  refine wpAny_updateSeq ho rfl (h _ n' u1 u2) ?_ ?_
  · rw [sizeLine_eq]; simp; omega
  · rw [sizeLine_eq]; simp; omega
end
end Mine
end
section
set_option Elab.async false
set_option linter.all false
set_option maxRecDepth 4000
namespace Mine
open PySem PyProof.Rows PySem.W PySem.Builtin PySem.Builtin.Re PySem.Sre
section
variable {prog : Program} {w : World} {A : Around} {E : Value → Shared → Prop}
theorem IsPat.but {h h' : Heap} {a L : Addr} {code : Array Nat} {vs : List Value} {n : Nat} (x : IsPat h a code) (hL : h.get? L = some (lstObj vs n)) (hk : ∀ b o, b ≠ L → h.get? b = some o → h'.get? b = some o) : IsPat h' a code := by
  obtain ⟨fs, T, ws, m, h1, h2, h3, h4, h5, h6⟩ := x
  refine ⟨fs, T, ws, m, hk _ _ ?_ h1, h2, h3, h4, hk _ _ ?_ h5, h6⟩
  · rintro rfl; rw [hL] at h1; simp [lstObj] at h1
  · rintro rfl; rw [hL] at h5; simp [lstObj] at h5
theorem strs_snoc : ∀ {vs : List Value} {ys : List Str} (y : Str) (u : Tok), StrsAre vs ys → StrsAre (vs ++ [.str y u]) (ys ++ [y])
  | _, _, y, u, .nil => .cons y u .nil
  | _, _, y, u, .cons z v h => .cons z v (strs_snoc y u h)
theorem strs_piece {vs : List Value} {ts : List (List Nat)} (h : StrsAre vs (ts.map tx)) (l : List Nat) (y : Str) (u : Tok) (hy : y = tx l) : StrsAre (vs ++ [.str y u]) ((ts ++ [l]).map tx) := by
  subst hy; rw [List.map_append]; exact strs_snoc _ _ h
theorem sub_loop {code : Array Nat} {next : Nat → Option (Nat × Nat)} {a L : Addr} {x : Str} {t : Tok} {r : List Nat} {rt : Tok} (N : NextOk code x.cps next) (hx : x.cps.size ≤ 100000) (hr : r.length ≤ 8) :
    ∀ (k d n : Nat) (A : Around) (s : Shared) (R : Result → Shared → Prop) (vs : List Value) (ts : List (List Nat)) (m : Nat), x.cps.size - d < k → d ≤ x.cps.size → IsPat s.heap a code → s.heap.get? L = some (lstObj vs m) → StrsAre vs (ts.map tx) → ts.length ≤ 2 * d → (ts.map List.length).sum ≤ 9 * d →
      (∀ h' tk t', (∀ b o, b ≠ L → s.heap.get? b = some o → h'.get? b = some o) → R (.ok (.ret (.str (tx (ts.flatten ++ subOut x.cps r next k d)) t'))) { s with heap := h', toks := tk }) →
      codeAny (model prog w) A (.builtin "re.Pattern.sub.loop" (subArgs a L x t (tx r) rt n d)) R s
  | 0, d, n, A, s, R, vs, ts, m, hk, _, _, _, _, _, _, _ => absurd hk (Nat.not_lt_zero _)
  | k + 1, d, n, A, s, R, vs, ts, m, hk, hd, hp, hL, hS, hl, hw, h => by
    refine codeAny_builtin entry_subloop ?_
    unfold Builtin.«re.Pattern.sub.loop» subArgs
    refine wpAny_bind (wpAny_whole hp ?_)
    refine wpAny_bind (m := (if ((0 : Int) == 0) = true then reLiteralCannotBeTurned (.str (tx r) rt) else pure ())) (wpAny_of_eq (a := ()) (by rfl) ?_)
    show wpAny _ _ ((if ((0 : Int) != 0 && decide ((n : Int) ≥ 0)) = true then pure none else reNextFound (tgt a (.str x t) code x.cps) (Int.toNat (d : Int)) false) >>= _) _ _ _
    refine wpAny_bind ?_
    rw [if_neg (by simp), Int.toNat_natCast]
    refine wpAny_next N hd fun res hres => ?_
    cases q : next d with
    | none =>
      rw [q] at hres
      subst hres
      have hout : subOut x.cps r next (k + 1) d = (x.cps.extract d x.cps.size).toList := by simp [subOut, q]
      rw [hout] at h
      have fin : ∀ (s' : Shared) (vs' : List Value) (ts' : List (List Nat)) (m' : Nat), s'.heap.get? L = some (lstObj vs' m') → StrsAre vs' (ts'.map tx) → (ts'.map List.length).sum ≤ 2000000 → (∀ tk t', R (.ok (.ret (.str (tx ts'.flatten) t'))) { s' with toks := tk }) →
          wpAny (model prog w) (A.under (.builtin "re.Pattern.sub.loop" (subArgs a L x t (tx r) rt n d))) (do
            let joiner ← reSlice x.cps 0 0 0
            let items ← seqItems? (.ref L)
            let text ← if (items.getD #[]).isEmpty = true then pure joiner else call (.builtin "str.join") [joiner, .ref L]
            ret text) (fun fin s' => match fin with | .done f => R (.ok f) s' | .again c' => c'.quiet = true ∧ codeAny (model prog w) A c' R s') (fun e s' => R (.error e) s') s' := by
        intro s' vs' ts' m' g1 g2 g3 g4
        refine wpAny_bind (wpAny_mkStr ?_ (by simp [Str.length]))
        refine wpAny_bind (wpAny_seqItems g1 rfl ?_)
        cases vs' with
        | nil =>
          have : ts' = [] := by
            cases ts' with
            | nil => rfl
            | cons => cases g2
          subst this
          refine wpAny_bind (wpAny_pure (wpAny_pure ?_))
          have e0 : (⟨x.cps.extract 0 0⟩ : Str) = tx [] := by simp [tx]
          rw [e0]; exact g4 _ _
        | cons v vr =>
          refine wpAny_bind ?_
          have e0 : (⟨x.cps.extract 0 0⟩ : Str) = tx [] := by simp [tx]
          rw [e0]
          refine join_list (isList_of g1) g2 ?_ fun t' tk => wpAny_pure ?_
          · simp only [List.map_map]
            have e1 : (ts'.map (Str.length ∘ tx)) = ts'.map List.length := List.map_congr_left fun y _ => by simp [tx, Str.length]
            have e2 : (tx []).length = 0 := by simp [tx, Str.length]
            rw [e1, e2]; omega
          · rw [txt_join]
            have : ∀ l : List (List Nat), joinL [] l = l.flatten := by
              intro l
              induction l with
              | nil => rfl
              | cons y r ih => cases r with
                | nil => simp [joinL]
                | cons z r => show y ++ ([] ++ joinL [] (z :: r)) = y ++ (z :: r).flatten; rw [ih, List.nil_append]
            rw [this]; exact g4 _ _
      by_cases hdl : d < x.cps.size
      · show wpAny _ _ (if d < x.cps.size then _ else _) _ _ _
        rw [if_pos hdl]
        refine wpAny_bind (wpAny_mkStr ?_ (by show (Str.length ⟨x.cps.extract d x.cps.size⟩) ≤ _; rw [sizeLine_eq]; simp [Str.length]; omega))
        refine wpAny_bind (push_piece hL (by have := strsAre_length hS; simp at this; omega) fun h' n' g1 g2 => ?_)
        refine fin _ _ (ts ++ [(x.cps.extract d x.cps.size).toList]) n' g1 ?_ ?_ ?_
        · exact strs_piece hS _ _ _ (show (⟨x.cps.extract d x.cps.size⟩ : Str) = ⟨((x.cps.extract d x.cps.size).toList).toArray⟩ by rw [Array.toArray_toList])
        · simp; omega
        · intro tk t'
          have := h h' tk t' g2
          simpa using this
      · show wpAny _ _ (if d < x.cps.size then _ else _) _ _ _
        rw [if_neg hdl]
        refine fin s vs ts m hL hS (by omega) fun tk t' => ?_
        have := h s.heap tk t' fun b o _ e => e
        have e1 : (x.cps.extract d x.cps.size).toList = [] := by
          have : d = x.cps.size := by omega
          rw [this]; simp
        rw [e1, List.append_nil] at this
        exact this
    | some pq =>
      obtain ⟨p, q'⟩ := pq
      rw [q] at hres
      obtain ⟨e, rfl, he1, he2⟩ := hres
      obtain ⟨o1, o2, o3⟩ := N.ok d p q' hd q
      have hout : subOut x.cps r next (k + 1) d = (x.cps.extract d p).toList ++ (r ++ subOut x.cps r next k q') := by simp [subOut, q]
      rw [hout] at h
      have fin : ∀ (s' : Shared) (vs' : List Value) (ts' : List (List Nat)) (m' : Nat), (∃ h' tk, s' = { s with heap := h', toks := tk } ∧ ∀ b o, b ≠ L → s.heap.get? b = some o → h'.get? b = some o) → s'.heap.get? L = some (lstObj vs' m') → StrsAre vs' (ts'.map tx) → ts'.length ≤ 2 * d + 1 → (ts'.map List.length).sum ≤ 8 * d + p →
          ts'.flatten = ts.flatten ++ (x.cps.extract d p).toList →
          wpAny (model prog w) (A.under (.builtin "re.Pattern.sub.loop" (subArgs a L x t (tx r) rt n d))) (do
            updateSeq L (·.push (.str (tx r) rt))
            again (.builtin "re.Pattern.sub.loop" ⟨[.ref a, .str x t, .str (tx r) rt, rawInt 0, rawInt 0, rawInt ((n : Int) + 1), rawInt e.handed, rawInt e.handed, .bool (e.handed == e.start), .ref L, .bool false], []⟩))
            (fun fin s' => match fin with | .done f => R (.ok f) s' | .again c' => c'.quiet = true ∧ codeAny (model prog w) A c' R s') (fun e s' => R (.error e) s') s' := by
        rintro s' vs' ts' m' ⟨h1, tk1, rfl, hk1⟩ g1 g2 g3 g4 g5
        refine wpAny_bind (push_piece g1 (by have := strsAre_length g2; simp at this; omega) fun h' n' u1 u2 => wpAny_pure ⟨plainId_quiet plain_subloop _, ?_⟩)
        have hb : (e.handed == e.start) = false := by rw [he1, he2]; simp; omega
        rw [hb, he2]
        refine sub_loop N hx hr k q' (n + 1) A _ R (vs' ++ [.str (tx r) rt]) (ts' ++ [r]) n' (by omega) o3 ((hp.but hL hk1).but g1 u2) u1 (strs_piece g2 r _ _ rfl) (by simp; omega) (by simp; omega) fun h2 tk2 t' hk2 => ?_
        have := h h2 tk2 t' fun b o hb eb => hk2 b o hb (u2 b o hb (hk1 b o hb eb))
        simp only [List.flatten_append, List.flatten_cons, List.flatten_nil, List.append_nil, g5]
        simpa using this
      by_cases hdl : d < p
      · show wpAny _ _ (if d < e.start then _ else _) _ _ _
        rw [if_pos (by rw [he1]; exact hdl)]
        refine wpAny_bind (wpAny_mkStr ?_ (by show (Str.length ⟨x.cps.extract d e.start⟩) ≤ _; rw [sizeLine_eq]; simp [Str.length]; omega))
        refine wpAny_bind (push_piece hL (by have := strsAre_length hS; simp at this; omega) fun h' n' g1 g2 => ?_)
        refine fin _ _ (ts ++ [(x.cps.extract d p).toList]) n' ⟨h', _, rfl, g2⟩ g1 ?_ ?_ ?_ ?_
        · exact strs_piece hS _ _ _ (show (⟨x.cps.extract d e.start⟩ : Str) = ⟨((x.cps.extract d p).toList).toArray⟩ by rw [Array.toArray_toList, he1])
        · simp; omega
        · simp; omega
        · simp
      · show wpAny _ _ (if d < e.start then _ else _) _ _ _
        rw [if_neg (by rw [he1]; exact hdl)]
        have hpd : p = d := by omega
        refine fin s vs ts m ⟨s.heap, s.toks, rfl, fun b o _ e => e⟩ hL hS (by omega) (by omega) ?_
        rw [hpd]; simp
end
end Mine
end
section
set_option Elab.async false
set_option linter.all false
set_option maxRecDepth 100000
namespace Mine
open PySem PyProof.Rows PySem.W PySem.Builtin PySem.Builtin.Re PySem.Sre
theorem plainAttrs_pat : PlainAttrs "re.Pattern" :=
  ⟨⟨"object.__getattribute__", by rw [typeLookup_type, builtinLookup_eq_fast]; kernel_rfl, by decide +kernel⟩, by rw [typeLookup_type, builtinLookup_eq_fast]; kernel_rfl⟩
theorem owner_pat : Manifest.owners.lookup (String.ofList ['n', 'r', 'e', 't', 't', 'a', 'P', '.', 'e', 'r'].reverse) = some Manifest.sig_re_Pattern := by kernel_rfl
theorem slot_pat_sub : Slot "re.Pattern" "sub" "re.Pattern.sub" :=
  .of (owner := "re.Pattern") (n := "sub") (by rw [typeLookup_type, builtinLookup_eq_fast]; kernel_rfl) (by decide +kernel) (by decide +kernel) (by decide +kernel)
    (by first | exact .inl (by decide +kernel) | exact .inr (by decide +kernel)) (by rw [isSubtype_type]; kernel_rfl)
theorem type_pat_sub : typeOf (.builtin "re.Pattern.sub") = pure (.type "method_descriptor") := by show builtinType _ = _; rw [builtinType_eq_fast]; kernel_rfl
theorem entry_pat_sub : entryFor table "re.Pattern.sub" = some Builtin.«re.Pattern.sub» := entryFor_of_tree (by kernel_rfl)
theorem args_pat_sub (a b c : Value) : argsOk "re.Pattern.sub" ⟨[a, b, c], []⟩ := by
  unfold argsOk; rw [signature?_of (id := "re.Pattern.sub") (n := ['b', 'u', 's']) (o := ['n', 'r', 'e', 't', 't', 'a', 'P', '.', 'e', 'r']) (by kernel_rfl) owner_pat]; kernel_rfl
theorem no_call_str : typeLookup (.type "str") "__call__" = pure none := by rw [typeLookup_type, builtinLookup_eq_fast]; kernel_rfl
section
variable {prog : Program} {w : World} {A : Around} {E : Value → Shared → Prop} {s : Shared}
theorem IsPat.type {a : Addr} {code : Array Nat} (p : IsPat s.heap a code) : s.TypeIs (.ref a) "re.Pattern" := by
  obtain ⟨fs, T, ws, n, h1, _⟩ := p
  exact ⟨_, h1, rfl⟩
theorem sub_tree {a : Addr} {code : Array Nat} {x : Str} {t : Tok} {r : List Nat} {rt : Tok} {next : Nat → Option (Nat × Nat)} (p : IsPat s.heap a code) (N : NextOk code x.cps next) (hx : x.cps.size ≤ 100000) (hr : r.length ≤ 8) (h92 : (tx r).cps.contains 92 = false) {R : Result → Shared → Prop}
    (h : ∀ h' tk t', (∀ b o, s.heap.get? b = some o → h'.get? b = some o) → R (.ok (.ret (.str (tx (subOut x.cps r next (x.cps.size + 1) 0)) t'))) { s with heap := h', toks := tk }) :
    wpAny (model prog w) A.in1 (Builtin.«re.Pattern.sub» ⟨[.ref a, .str (tx r) rt, .str x t], []⟩) (fun fin s' => match fin with | .done f => R (.ok f) s' | .again c' => c'.quiet = true ∧ codeAny (model prog w) A c' R s') (fun e s' => R (.error e) s') s := by
  unfold Builtin.«re.Pattern.sub» reSubstitute
  refine wpAny_bind (wpAny_of_eq (a := [some (.str (tx r) rt), some (.str x t), none]) (by rfl) ?_)
  refine wpAny_bind (wpAny_pure ?_)
  refine wpAny_bind (wpAny_specialOf_val (T := "str") (by rfl) no_call_str ?_)
  refine wpAny_bind (wpAny_of_eq (a := some (tx r)) (by rfl) ?_)
  simp only [h92, Bool.not_false]
  refine wpAny_bind (wpAny_pure ?_)
  refine wpAny_bind (wpAny_pure ?_)
  refine wpAny_bind (wpAny_holding (wpAny_whole p ?_))
  refine wpAny_bind (wpAny_newList ?_ (by rw [sizeLine_eq]; simp))
  refine wpAny_pure ⟨plainId_quiet plain_subloop _, ?_⟩
  have hk : ∀ b o, s.heap.get? b = some o → (s.heap.push { cls := .type "list", data := .seq ([] : List Value).toArray }).get? b = some o := push_keeps _ _
  refine sub_loop (A := A) N hx hr (x.cps.size + 1) 0 0 _ _ [] [] 0 (by omega) (Nat.zero_le _) (p.keeps hk) (Heap.get?_push_size _ rfl) .nil (by simp) (by simp) fun h' tk t' hk' => ?_
  have := h h' tk t' fun b o e => hk' b o (Nat.ne_of_lt (Heap.lt_size e)) (hk b o e)
  simpa using this
theorem sub_method {a : Addr} {code : Array Nat} {pos : Pos} {e1 e2 : Sem Value} {Q : Value → Shared → Prop} {r : List Nat} (p : IsPat s.heap a code) (hr : r.length ≤ 8) (h92 : (tx r).cps.contains 92 = false)
    (h : wpAny (model prog w) A e1 (fun v1 s1 => wpAny (model prog w) A e2 (fun v2 s2 => ∃ rt x t next, v1 = .str (tx r) rt ∧ v2 = .str x t ∧ IsPat s2.heap a code ∧ NextOk code x.cps next ∧ x.cps.size ≤ 100000 ∧
      (∀ h' tk t', (∀ b o, s2.heap.get? b = some o → h'.get? b = some o) → Q (.str (tx (subOut x.cps r next (x.cps.size + 1) 0)) t') { s2 with heap := h', toks := tk })) E s1) E s) :
    MethodOnS prog w A E "sub" (.ref a) pos [(false, e1), (false, e2)] Q s := by
  refine ⟨"re.Pattern", "re.Pattern.sub", plainAttrs_pat, slot_pat_sub, type_pat_sub, p.type, fun b hb => ?_, ?_⟩
  · cases hb
    obtain ⟨fs, T, ws, n, h1, _⟩ := p
    exact ⟨_, h1, rfl⟩
  · refine method2_meetsIn slot_pat_sub entry_pat_sub (wpAny_mono h (fun v1 s1 h1 => wpAny_mono h1 (fun v2 s2 h2 => ?_) fun _ _ e => e) fun _ _ e => e)
    obtain ⟨rt, x, t, next, rfl, rfl, p2, N, hx, k⟩ := h2
    refine ⟨p2.type, args_pat_sub _ _ _, fun A R s => wpAny (model prog w) A.in1 (Builtin.«re.Pattern.sub» ⟨[.ref a, .str (tx r) rt, .str x t], []⟩) (fun fin s' => match fin with | .done f => R (.ok f) s' | .again c' => c'.quiet = true ∧ codeAny (model prog w) A c' R s') (fun e s' => R (.error e) s') s, fun A R s h => h, ?_⟩
    exact sub_tree p2 N hx hr h92 fun h' tk t' hk => k h' tk t' hk
end
end Mine
end
section
set_option Elab.async false
set_option linter.all false
set_option maxRecDepth 4000
namespace Mine
open PySem PyProof.Rows PySem.W PySem.Builtin PySem.Builtin.Re PySem.Sre
noncomputable def findFrom (P : Nat → Bool) : Nat → Nat → Option Nat
  | 0, _ => none
  | k + 1, s => if P s then some s else findFrom P k (s + 1)
theorem findFrom_some {P : Nat → Bool} : ∀ {k s p : Nat}, findFrom P k s = some p → s ≤ p ∧ p < s + k ∧ P p = true ∧ ∀ q, s ≤ q → q < p → P q = false
  | 0, _, _, h => by simp [findFrom] at h
  | k + 1, s, p, h => by
    unfold findFrom at h
    by_cases hp : P s = true
    · rw [if_pos hp] at h; cases h
      exact ⟨Nat.le_refl _, by omega, hp, fun q h1 h2 => by omega⟩
    · rw [if_neg hp] at h
      obtain ⟨h1, h2, h3, h4⟩ := findFrom_some h
      refine ⟨by omega, by omega, h3, fun q hq hl => ?_⟩
      by_cases hqs : q = s
      · subst hqs; simpa using hp
      · exact h4 q (by omega) hl
theorem findFrom_none {P : Nat → Bool} : ∀ {k s : Nat}, findFrom P k s = none → ∀ q, s ≤ q → q < s + k → P q = false
  | 0, s, _, q, h1, h2 => by omega
  | k + 1, s, h, q, h1, h2 => by
    unfold findFrom at h
    by_cases hp : P s = true
    · rw [if_pos hp] at h; cases h
    · rw [if_neg hp] at h
      by_cases hqs : q = s
      · subst hqs; simpa using hp
      · exact findFrom_none h q (by omega) (by omega)
noncomputable def isDot (text : Array Nat) (p : Nat) : Bool := (p == 0 || text[p - 1]?.getD 0 == 10) && text[p]?.getD 0 == 46
noncomputable def isEol (text : Array Nat) (p : Nat) : Bool := text[p]?.getD 0 == 10 || text[p]?.getD 0 == 13
theorem isDot_iff {text : Array Nat} {p : Nat} : isDot text p = true ↔ dotAt text p := by simp [isDot, dotAt, lineStart]
theorem isEol_iff {text : Array Nat} {p : Nat} : isEol text p = true ↔ eolAt text p := by simp [isEol, eolAt]
noncomputable def next1 (text : Array Nat) (s : Nat) : Option (Nat × Nat) := (findFrom (isDot text) (text.size - s) s).map fun p => (p, p + 1)
noncomputable def next2 (text : Array Nat) (s : Nat) : Option (Nat × Nat) := (findFrom (isEol text) (text.size - s) s).map fun p => (p, p + eolLen text text.size p)
theorem found_uniq {P : Nat → Prop} {p p' s : Nat} (h1 : s ≤ p) (h2 : P p) (h3 : ∀ q, s ≤ q → q < p → ¬ P q) (h1' : s ≤ p') (h2' : P p') (h3' : ∀ q, s ≤ q → q < p' → ¬ P q) : p = p' := by
  rcases Nat.lt_trichotomy p p' with h | h | h
  · exact absurd h2 (h3' p h1 h)
  · exact h
  · exact absurd h2' (h3 p' h1' h)
theorem nextOk1 (text : Array Nat) (hsz : text.size ≤ 1000000) : NextOk code1 text (next1 text) := by
  refine ⟨fun s hs => ?_, fun s p q hs h => ?_⟩
  · obtain ⟨e, n, h1, h2, h3⟩ := search1 text text.size s hs
    refine ⟨e, n, h1, by omega, ?_⟩
    unfold next1
    cases hf : findFrom (isDot text) (text.size - s) s with
    | none =>
      have hn := findFrom_none hf
      rcases h3 with ⟨p, a1, a2, a3, a4, a5⟩ | ⟨a1, a2⟩
      · have := hn p a1 (by omega)
        rw [isDot_iff.mpr a3] at this; cases this
      · exact a2
    | some p =>
      obtain ⟨b1, b2, b3, b4⟩ := findFrom_some hf
      rcases h3 with ⟨p', a1, a2, a3, a4, a5⟩ | ⟨a1, a2⟩
      · have : p' = p := found_uniq (P := dotAt text) a1 a3 a4 b1 (isDot_iff.mp b3) fun q hq hl hd => by
          have := b4 q hq hl; rw [isDot_iff.mpr hd] at this; cases this
        subst this; exact a5
      · exact absurd (isDot_iff.mp b3) (a1 p b1 (by omega))
  · unfold next1 at h
    cases hf : findFrom (isDot text) (text.size - s) s with
    | none => rw [hf] at h; cases h
    | some p' =>
      rw [hf] at h
      simp only [Option.map_some, Option.some.injEq, Prod.mk.injEq] at h
      obtain ⟨b1, b2, b3, b4⟩ := findFrom_some hf
      omega
theorem eolLen_cases (text : Array Nat) (lim p : Nat) (hp : p < lim) : eolLen text lim p ≥ 1 ∧ p + eolLen text lim p ≤ lim := by
  unfold eolLen
  split
  · omega
  · omega
theorem nextOk2 (text : Array Nat) : NextOk code2 text (next2 text) := by
  refine ⟨fun s hs => ?_, fun s p q hs h => ?_⟩
  · obtain ⟨e, n, h1, h2, h3⟩ := search2 text text.size s hs
    refine ⟨e, n, h1, by omega, ?_⟩
    unfold next2
    cases hf : findFrom (isEol text) (text.size - s) s with
    | none =>
      have hn := findFrom_none hf
      rcases h3 with ⟨p, a1, a2, a3, a4, a5⟩ | ⟨a1, a2⟩
      · have := hn p a1 (by omega)
        rw [isEol_iff.mpr a3] at this; cases this
      · exact a2
    | some p =>
      obtain ⟨b1, b2, b3, b4⟩ := findFrom_some hf
      rcases h3 with ⟨p', a1, a2, a3, a4, a5⟩ | ⟨a1, a2⟩
      · have : p' = p := found_uniq (P := eolAt text) a1 a3 a4 b1 (isEol_iff.mp b3) fun q hq hl hd => by
          have := b4 q hq hl; rw [isEol_iff.mpr hd] at this; cases this
        subst this; exact a5
      · exact absurd (isEol_iff.mp b3) (a1 p b1 (by omega))
  · unfold next2 at h
    cases hf : findFrom (isEol text) (text.size - s) s with
    | none => rw [hf] at h; cases h
    | some p' =>
      rw [hf] at h
      simp only [Option.map_some, Option.some.injEq, Prod.mk.injEq] at h
      obtain ⟨b1, b2, b3, b4⟩ := findFrom_some hf
      have := eolLen_cases text text.size p' (by omega)
      omega
noncomputable def crlf : List Nat → List Nat
  | [] => []
  | 13 :: 10 :: r => 13 :: 10 :: crlf r
  | c :: r => (if c = 13 ∨ c = 10 then [13, 10] else [c]) ++ crlf r
noncomputable def dots : Bool → List Nat → List Nat
  | _, [] => []
  | b, c :: r => (if b && c == 46 then [46, 46] else [c]) ++ dots (c == 10) r
noncomputable def qd (s : List Nat) : List Nat := dots true (crlf s)
theorem find_step {P : Nat → Bool} {n s : Nat} (h : s < n) (hp : P s = false) : findFrom P (n - s) s = findFrom P (n - (s + 1)) (s + 1) := by
  have : n - s = (n - (s + 1)) + 1 := by omega
  rw [this]; simp [findFrom, hp]
theorem find_here {P : Nat → Bool} {n s : Nat} (h : s < n) (hp : P s = true) : findFrom P (n - s) s = some s := by
  have : n - s = (n - (s + 1)) + 1 := by omega
  rw [this]; simp [findFrom, hp]
theorem ext_cons {text : Array Nat} {d p : Nat} (h : d < p) (hp : p ≤ text.size) : (text.extract d p).toList = (text[d]?.getD 0) :: (text.extract (d + 1) p).toList := by
  have hd : d < text.toList.length := by simp; omega
  simp only [Array.toList_extract, List.extract_eq_take_drop]
  have e1 : p - d = (p - (d + 1)) + 1 := by omega
  rw [e1, List.drop_eq_getElem_cons hd, List.take_succ_cons]
  have hd' : d < text.size := by omega
  simp [hd']
theorem subOut_skip {text : Array Nat} {r : List Nat} {next : Nat → Option (Nat × Nat)} {d k : Nat} (hd : d < text.size) (e : next d = next (d + 1)) (hn : ∀ p q, next (d + 1) = some (p, q) → d + 1 ≤ p ∧ p ≤ text.size) : subOut text r next (k + 1) d = (text[d]?.getD 0) :: subOut text r next (k + 1) (d + 1) := by
  unfold subOut
  rw [e]
  cases q : next (d + 1) with
  | none => simp only; rw [ext_cons hd (Nat.le_refl _)]
  | some pq =>
    obtain ⟨p, q'⟩ := pq
    obtain ⟨h1, h2⟩ := hn p q' q
    simp only
    rw [ext_cons (by omega) h2]; rfl
theorem drop_cons {text : Array Nat} {d : Nat} (h : d < text.size) : text.toList.drop d = (text[d]?.getD 0) :: text.toList.drop (d + 1) := by
  have hd : d < text.toList.length := by simpa using h
  rw [List.drop_eq_getElem_cons hd]; simp [h]
theorem subOut2 (text : Array Nat) : ∀ (n d k : Nat), text.size - d = n → n < k → d ≤ text.size → subOut text [13, 10] (next2 text) k d = crlf (text.toList.drop d) := by
  intro n
  induction n using Nat.strongRecOn with
  | ind n ih =>
    intro d k hn hk hd
    obtain ⟨k, rfl⟩ : ∃ k', k = k' + 1 := ⟨k - 1, by omega⟩
    by_cases hs : d = text.size
    · subst hs
      have : next2 text text.size = none := by simp [next2, findFrom]
      have e0 : text.toList.drop text.size = [] := by simp
      rw [e0]; simp [subOut, this, crlf]
    · have hlt : d < text.size := by omega
      by_cases hp : isEol text d = true
      · have hnx : next2 text d = some (d, d + eolLen text text.size d) := by unfold next2; rw [find_here hlt hp]; rfl
        have hl := eolLen_cases text text.size d hlt
        have hr := ih (text.size - (d + eolLen text text.size d)) (by omega) (d + eolLen text text.size d) k rfl (by omega) (by omega)
        have : subOut text [13, 10] (next2 text) (k + 1) d = [13, 10] ++ crlf (text.toList.drop (d + eolLen text text.size d)) := by
          simp [subOut, hnx, hr]
        rw [this, drop_cons hlt]
        have hp' : text[d]?.getD 0 = 10 ∨ text[d]?.getD 0 = 13 := isEol_iff.mp hp
        unfold eolLen
        by_cases hc : text[d]?.getD 0 = 13 ∧ d + 1 < text.size ∧ text[d + 1]?.getD 0 = 10
        · rw [if_pos hc, drop_cons hc.2.1, hc.1, hc.2.2]; simp [crlf]
        · rw [if_neg hc]
          have : crlf ((text[d]?.getD 0) :: text.toList.drop (d + 1)) = (if text[d]?.getD 0 = 13 ∨ text[d]?.getD 0 = 10 then [13, 10] else [text[d]?.getD 0]) ++ crlf (text.toList.drop (d + 1)) := by
            by_cases h13 : text[d]?.getD 0 = 13
            · by_cases hl1 : d + 1 < text.size
              · rw [drop_cons hl1]
                have h10 : text[d + 1]?.getD 0 ≠ 10 := fun h => hc ⟨h13, hl1, h⟩
                rw [h13]
                rw [crlf]
                intro r _ h2; simp only [List.cons.injEq] at h2; exact h10 h2.1
              · have : text.toList.drop (d + 1) = [] := by simp; omega
                rw [this]; simp [crlf]
            · rw [crlf]
              intro r h; exact absurd h h13
          rw [this, if_pos (Or.comm.mp hp')]
      · have hp' : isEol text d = false := by simpa using hp
        have e : next2 text d = next2 text (d + 1) := by unfold next2; rw [find_step hlt hp']
        rw [subOut_skip hlt e fun p q h => by have := (nextOk2 text).ok (d + 1) p q (by omega) h; omega]
        rw [ih (text.size - (d + 1)) (by omega) (d + 1) (k + 1) rfl (by omega) (by omega), drop_cons hlt]
        have hne : ¬ (text[d]?.getD 0 = 13 ∨ text[d]?.getD 0 = 10) := fun h => hp (isEol_iff.mpr (Or.comm.mp h))
        rw [crlf]
        · rw [if_neg hne]; rfl
        · intro r h; exact absurd (.inl h) hne
theorem subOut1 (text : Array Nat) (hsz : text.size ≤ 1000000) : ∀ (n d k : Nat), text.size - d = n → n < k → d ≤ text.size → subOut text [46, 46] (next1 text) k d = dots (d == 0 || text[d - 1]?.getD 0 == 10) (text.toList.drop d) := by
  intro n
  induction n using Nat.strongRecOn with
  | ind n ih =>
    intro d k hn hk hd
    obtain ⟨k, rfl⟩ : ∃ k', k = k' + 1 := ⟨k - 1, by omega⟩
    by_cases hs : d = text.size
    · subst hs
      have : next1 text text.size = none := by simp [next1, findFrom]
      have e0 : text.toList.drop text.size = [] := by simp
      rw [e0]; simp [subOut, this, dots]
    · have hlt : d < text.size := by omega
      have hb : ((d + 1 == 0 || text[d + 1 - 1]?.getD 0 == 10) : Bool) = (text[d]?.getD 0 == 10) := by simp
      by_cases hp : isDot text d = true
      · have hnx : next1 text d = some (d, d + 1) := by unfold next1; rw [find_here hlt hp]; rfl
        have hr := ih (text.size - (d + 1)) (by omega) (d + 1) k rfl (by omega) (by omega)
        rw [hb] at hr
        have : subOut text [46, 46] (next1 text) (k + 1) d = [46, 46] ++ dots (text[d]?.getD 0 == 10) (text.toList.drop (d + 1)) := by
          simp [subOut, hnx, hr]
        rw [this, drop_cons hlt, dots]
        have : ((d == 0 || text[d - 1]?.getD 0 == 10) && text[d]?.getD 0 == 46) = true := hp
        rw [this]; rfl
      · have hp' : isDot text d = false := by simpa using hp
        have e : next1 text d = next1 text (d + 1) := by unfold next1; rw [find_step hlt hp']
        rw [subOut_skip hlt e fun p q h => by have := (nextOk1 text hsz).ok (d + 1) p q (by omega) h; omega]
        rw [ih (text.size - (d + 1)) (by omega) (d + 1) (k + 1) rfl (by omega) (by omega), drop_cons hlt, hb, dots]
        have : ((d == 0 || text[d - 1]?.getD 0 == 10) && text[d]?.getD 0 == 46) = false := hp'
        rw [this]; rfl
end Mine
end
section
set_option Elab.async false
set_option linter.all false
set_option maxRecDepth 100000
namespace Mine
open PySem PyProof.Rows PySem.W PySem.Builtin PySem.Builtin.Re PySem.Sre
section
variable {prog : Program} {w : World} {A : Around} {g : Gr} {sc : SC} {ξ : List AV} {env : Env} {mg mb : Str → Option Value}
theorem ev_gcon (T : TopOk g.hb mg mb) {x : Str} {p : Pos} {v : Value} {H : Hp} (hx : sc.names.lookup x = some .globalImplicit) (hm : mg x = some v) (hd : (x == ("__debug__" : Str)) = false) : Ev prog w A g sc ξ env (eval (.Name x p) env) H (.con v) H :=
  ev_here fun B φ s Q E R Er h => name_global T R Er hx hm (h.same' R (by simp [VR])) hd
theorem ev_gstr (T : TopOk g.hb mg mb) {x : Str} {p : Pos} {y : List Nat} {t : Tok} {H : Hp} (hx : sc.names.lookup x = some .globalImplicit) (hm : mg x = some (.str ⟨y.toArray⟩ t)) (hd : (x == ("__debug__" : Str)) = false) : Ev prog w A g sc ξ env (eval (.Name x p) env) H (.str y) H :=
  ev_here fun B φ s Q E R Er h => name_global T R Er hx hm (h.same' R (by simp [VR])) hd
theorem ev_resub {o e1 e2 : Expr} (hpl : PlainL [e1, e2]) {pa p : Pos} {H H1 H2 H3 : Hp} {a : Addr} {code : Array Nat} {r x : List Nat} {next : Nat → Option (Nat × Nat)} (hp : IsPat g.hb a code) (hb : Based o) (hl : (pa.endLine == p.line) = true) (h1 : Ev prog w A g sc ξ env (eval o env) H (.con (.ref a)) H1)
    (h2 : Ev prog w A g sc ξ env (eval e1 env) H1 (.str r) H2) (h3 : Ev prog w A g sc ξ env (eval e2 env) H2 (.str x) H3) (hr : r.length ≤ 8) (h92 : (tx r).cps.contains 92 = false) (N : NextOk code x.toArray next) (hx : x.length ≤ 100000) :
    Ev prog w A g sc ξ env (eval (.Call (.Attribute o (Str.ofString "sub") pa) [e1, e2] [] p) env) H (.str (subOut x.toArray r next (x.length + 1) 0)) H3 :=
  ev_method hpl hb hl (by decide : 2 < 5) h1 fun B φ s Q E va R Er V k => by
    simp only [VR] at V; subst V
    refine sub_method (r := r) (hp.keeps R.hbk) hr h92 (h2 B φ s _ _ R Er fun B2 φ2 v2 h2' tk2 G2 R2 V2 => h3 B2 φ2 _ _ _ R2 (Er.grow G2) fun B3 φ3 v3 h3' tk3 G3 R3 V3 => ?_)
    obtain ⟨t2, rfl⟩ := vr_str V2
    obtain ⟨t3, rfl⟩ := vr_str V3
    refine ⟨t2, ⟨x.toArray⟩, t3, next, rfl, rfl, hp.keeps R3.hbk, N, by simpa using hx, fun h' tk t' hk => ?_⟩
    refine k B3 φ3 _ h' tk ((G2.trans G3).trans (Grow.keeps hk)) (R3.keeps hk) ?_
    simp only [VR]
    exact ⟨t', by simp [tx]⟩
end
theorem crlf_len : ∀ s : List Nat, (crlf s).length ≤ 2 * s.length := by
  intro s
  fun_induction crlf s with
  | case1 => simp
  | case2 r ih => simp; omega
  | case3 c r h ih =>
    simp only [List.length_append, List.length_cons]
    split
    · simp; omega
    · simp; omega
theorem sub2_eq (x : List Nat) : subOut x.toArray [13, 10] (next2 x.toArray) (x.length + 1) 0 = crlf x := by
  have := subOut2 x.toArray (x.length) 0 (x.length + 1) (by simp) (by omega) (Nat.zero_le _)
  simpa using this
theorem sub1_eq (x : List Nat) (hx : x.length ≤ 1000000) : subOut x.toArray [46, 46] (next1 x.toArray) (x.length + 1) 0 = dots true x := by
  have := subOut1 x.toArray (by simpa using hx) (x.length) 0 (x.length + 1) (by simp) (by omega) (Nat.zero_le _)
  simpa using this
noncomputable def fdQuote : Fd where
  params := [Str.ofString "data"]
  locs := [Str.ofString "data"]
  names := [(Str.ofString "data", .local), (Str.ofString "_twin_re_1", .globalImplicit), (Str.ofString "_twin_re_2", .globalImplicit), (Str.ofString "CRLF", .globalImplicit)]
  body := []
noncomputable def eInner : Expr := .Call (.Attribute (.Name (Str.ofString "_twin_re_2") ⟨53, 32, 53, 42⟩) (Str.ofString "sub") ⟨53, 32, 53, 46⟩) [.Name (Str.ofString "CRLF") ⟨53, 47, 53, 51⟩, .Name (Str.ofString "data") ⟨53, 53, 53, 57⟩] [] ⟨53, 32, 53, 58⟩
noncomputable def eOuter : Expr := .Call (.Attribute (.Name (Str.ofString "_twin_re_1") ⟨53, 11, 53, 21⟩) (Str.ofString "sub") ⟨53, 11, 53, 25⟩) [.Constant (.str (Str.ofString "..")) 0 ⟨53, 26, 53, 30⟩, eInner] [] ⟨53, 11, 53, 59⟩
noncomputable def bodyQuote : List Stmt := [.Return (some eOuter) ⟨53, 4, 53, 59⟩]
theorem quote_ok {prog : Program} {w : World} {hb : Heap} {mg mb : Str → Option Value} {fa : Addr} {o : Obj} {fd : FuncData} (F : Fn0 hb fa fdQuote bodyQuote o fd) (T : TopOk hb mg mb) (hbind : ∀ vals : List Value, vals.length = 1 → bindArgs fd ⟨vals, []⟩ = pure (fdQuote.params.zip vals))
    {a1 a2 : Addr} {t : Tok} (m1 : mg (Str.ofString "_twin_re_1") = some (.ref a1)) (m2 : mg (Str.ofString "_twin_re_2") = some (.ref a2)) (m3 : mg (Str.ofString "CRLF") = some (.str ⟨#[13, 10]⟩ t)) (p1 : IsPat hb a1 code1) (p2 : IsPat hb a2 code2)
    {d : Nat} {x : List Nat} (hx : x.length ≤ 40000) : CallOk prog w hb fa (d + 1) [.str x] (.str (qd x)) := by
  refine call_of F T (fun vals hl => hbind vals hl) (fl := .ret (.str (qd x))) (H' := fdQuote.init [.str x]) (fun A env hA => ?_) (.inl ⟨_, rfl, rfl, rfl⟩)
  have hl := crlf_len x
  have inner : Ev prog w A ⟨hb, fdQuote.locs⟩ fdQuote.sc [] env (eval eInner env) (fdQuote.init [.str x]) (.str (crlf x)) (fdQuote.init [.str x]) := by
    rw [← sub2_eq x]
    exact ev_resub (g := ⟨hb, fdQuote.locs⟩) (PlainL.cons plain_name (PlainL.cons plain_name PlainL.nil)) p2 (fun _ _ _ => rfl) rfl (ev_gcon T (by decide) m2 (by decide)) (ev_gstr T (by decide) m3 (by decide)) (ev_loc (i := 0) (by rfl) rfl rfl (by decide) (by decide)) (by decide) (by simp [tx]) (nextOk2 _) (by omega)
  have outer : Ev prog w A ⟨hb, fdQuote.locs⟩ fdQuote.sc [] env (eval eOuter env) (fdQuote.init [.str x]) (.str (qd x)) (fdQuote.init [.str x]) := by
    unfold qd
    rw [← sub1_eq (crlf x) (by omega)]
    exact ev_resub (g := ⟨hb, fdQuote.locs⟩) (PlainL.cons plain_const (PlainL.cons plain_call PlainL.nil)) p1 (fun _ _ _ => rfl) rfl (ev_gcon T (by decide) m1 (by decide)) (ev_k (by rfl)) inner (by decide) (by simp [tx]) (nextOk1 _ (by simp; omega)) (by omega)
  exact ex_stop (ex_ret outer) (fun q => nomatch q)
end Mine
end
section
set_option Elab.async false
set_option linter.all false
set_option maxRecDepth 100000
namespace Mine
open PySem PyProof.Rows PySem.W PySem.Builtin PySem.Builtin.Re PySem.Sre
noncomputable def codeN : Array Nat := #[14, 10, 4, 1, 1, 22, 0, 31, 16, 127, 0, 13, 7, 22, 0, 31, 16, 127, 0, 1]
noncomputable def codeV : Array Nat := #[14, 14, 4, 1, 1, 9, 4294966783, 0, 0, 2147483648, 0, 0, 0, 0, 0, 13, 11, 9, 4294966783, 0, 0, 2147483648, 0, 0, 0, 0, 0, 1]
noncomputable def plainC (c : Nat) : Bool := Nat.ble 32 c && Nat.ble c 126
theorem plainC_iff {c : Nat} (h : plainC c = true) : 32 ≤ c ∧ c ≤ 126 := by simpa [plainC] using h
theorem inSetN (c : Nat) (h : plainC c = true) (seen : Sre.Seen) : ∃ seen', Sre.inSet codeN c codeN.size 5 true seen = .ok (false, seen') := by
  obtain ⟨h1, h2⟩ := plainC_iff h
  refine ⟨((seen.add 22).add 16).add 0, ?_⟩
  have e1 : ¬ c ≤ 31 := by omega
  have e2 : (c == 127) = false := by simp; omega
  have e3 : ¬ c = 127 := by omega
  simp [Sre.inSet, codeN, Sre.ops, e1, e2, e3]
theorem inSetV (c : Nat) (h : plainC c = true) (seen : Sre.Seen) : ∃ seen', Sre.inSet codeV c codeV.size 5 true seen = .ok (false, seen') := by
  obtain ⟨h1, h2⟩ := plainC_iff h
  refine ⟨(seen.add 9).add 0, ?_⟩
  have key : ∀ c, c < 127 → 32 ≤ c → (decide (c < 256) && (codeV.getD (5 + (1 + c / 32)) 0).testBit (c % 32)) = false := by decide
  have e := key c (by omega) h1
  show Sre.inSet codeV c (27 + 1) 5 true seen = _
  unfold Sre.inSet
  have w0 : codeV.getD (5 + 0) 0 = 9 := rfl
  simp only [w0]
  show (if (decide (c < 256) && (codeV.getD (5 + (1 + c / 32)) 0).testBit (c % 32)) = true then _ else Sre.inSet codeV c (26 + 1) (5 + 9) true (seen.add 9)) = _
  rw [e, if_neg Bool.false_ne_true]
  rfl
noncomputable def NoStart (code : Array Nat) : Prop := ∀ c, plainC c = true → ∀ seen, ∃ seen', Sre.inSet code c code.size 5 true seen = .ok (false, seen')
theorem admittedNo {code : Array Nat} (hn : NoStart code) (m : Sre.M) (hc : m.code = code) (hp : ∀ q, q < m.lim → plainC (m.text.getD q 0) = true) : ∀ (fuel s : Nat) (seen : Sre.Seen), m.lim - s < fuel → ∃ seen', M.admitted m fuel s seen = .ok (none, seen')
  | 0, s, seen, h => absurd h (Nat.not_lt_zero _)
  | fuel + 1, s, seen, h => by
    unfold M.admitted
    by_cases hs : s ≥ m.lim
    · rw [if_pos hs]; exact ⟨seen, rfl⟩
    · rw [if_neg hs, hc]
      obtain ⟨seen1, e1⟩ := hn (m.text.getD s 0) (hp s (by omega)) seen
      rw [e1]
      exact admittedNo hn m hc hp fuel (s + 1) seen1 (by omega)
theorem searchNo {code : Array Nat} (hn : NoStart code) (text : Array Nat) (hp : ∀ q, q < text.size → plainC (text.getD q 0) = true) {m0 : Sre.M} (hm : m0.code = code ∧ m0.text = text ∧ m0.lim = text.size ∧ m0.hasFirstSet = true ∧ m0.frames = [] ∧ m0.outcome = none)
    (hf : 0 < text.size → Sre.forSearch code text 0 0 text.size false = m0.attemptFrom 0 true) (hf0 : text.size = 0 → ∃ m1 : Sre.M, Sre.forSearch code text 0 0 text.size false = m1.say false ∧ m1.frames = [] ∧ m1.outcome = none) : ∃ e n, Ends (Sre.forSearch code text 0 0 text.size false) e n ∧ n ≤ 20 ∧ e.outcome = some .failed := by
  have fin : ∀ m1 : Sre.M, m1.frames = [] → m1.outcome = none → ∃ e n, Ends (m1.say false) e n ∧ n ≤ 20 ∧ e.outcome = some .failed := fun m1 h1 h2 => by
    refine ⟨_, 1, ⟨rfl, ?_⟩, by omega, ?_⟩
    · simp [M.say, M.runFor, M.step, h1, h2]
    · simp [M.say, M.runFor, M.step, h1, h2]
  by_cases h : 0 < text.size
  · rw [hf h]
    obtain ⟨h1, h2, h3, h4, h5, h6⟩ := hm
    unfold M.attemptFrom
    rw [h4]
    simp only [Bool.not_true, Bool.false_eq_true, if_false]
    obtain ⟨seen', e⟩ := admittedNo hn m0 h1 (by rw [h2, h3]; exact hp) (m0.lim + 1 - 0) 0 m0.seen (by omega)
    rw [e]
    exact fin { m0 with seen := seen' } h5 h6
  · obtain ⟨m1, e, h1, h2⟩ := hf0 (by omega)
    rw [e]
    exact fin m1 h1 h2
theorem searchN (text : Array Nat) (hp : ∀ q, q < text.size → plainC (text.getD q 0) = true) : ∃ e n, Ends (Sre.forSearch codeN text 0 0 text.size false) e n ∧ n ≤ 20 ∧ e.outcome = some .failed := by
  refine searchNo inSetN text hp (m0 := { code := codeN, text, lim := text.size, start := 0, lastStart := text.size, pc := 11, pos := 0, handed := 0, marks := #[], seen := ({} : Sre.Seen).add 14 }) ⟨rfl, rfl, rfl, by simp [M.hasFirstSet, codeN, Sre.ops], rfl, rfl⟩ (fun h => ?_) (fun h => ?_)
  · have h'' : ¬ text.size - 0 = 0 := by omega
    have h3 : ¬ text.size = 0 := by omega
    unfold Sre.forSearch
    simp [codeN, header, Sre.ops, h'', h3, Nat.lt_one_iff]
    rfl
  · refine ⟨{ code := codeN, text, lim := text.size, start := 0, lastStart := text.size, pc := 11, pos := 0, handed := 0, marks := #[], seen := ({} : Sre.Seen).add 14 }, ?_, rfl, rfl⟩
    unfold Sre.forSearch
    simp [codeN, header, Sre.ops, h, Nat.lt_one_iff]
    rfl
theorem searchV (text : Array Nat) (hp : ∀ q, q < text.size → plainC (text.getD q 0) = true) : ∃ e n, Ends (Sre.forSearch codeV text 0 0 text.size false) e n ∧ n ≤ 20 ∧ e.outcome = some .failed := by
  refine searchNo inSetV text hp (m0 := { code := codeV, text, lim := text.size, start := 0, lastStart := text.size, pc := 15, pos := 0, handed := 0, marks := #[], seen := ({} : Sre.Seen).add 14 }) ⟨rfl, rfl, rfl, by simp [M.hasFirstSet, codeV, Sre.ops], rfl, rfl⟩ (fun h => ?_) (fun h => ?_)
  · have h'' : ¬ text.size - 0 = 0 := by omega
    have h3 : ¬ text.size = 0 := by omega
    unfold Sre.forSearch
    simp [codeV, header, Sre.ops, h'', h3, Nat.lt_one_iff]
    rfl
  · refine ⟨{ code := codeV, text, lim := text.size, start := 0, lastStart := text.size, pc := 15, pos := 0, handed := 0, marks := #[], seen := ({} : Sre.Seen).add 14 }, ?_, rfl, rfl⟩
    unfold Sre.forSearch
    simp [codeV, header, Sre.ops, h, Nat.lt_one_iff]
    rfl
end Mine
end
section
set_option Elab.async false
set_option linter.all false
set_option maxRecDepth 100000
namespace Mine
open PySem PyProof.Rows PySem.W PySem.Builtin PySem.Builtin.Re PySem.Sre
theorem slot_pat_search : Slot "re.Pattern" "search" "re.Pattern.search" :=
  .of (owner := "re.Pattern") (n := "search") (by rw [typeLookup_type, builtinLookup_eq_fast]; kernel_rfl) (by decide +kernel) (by decide +kernel) (by decide +kernel)
    (by first | exact .inl (by decide +kernel) | exact .inr (by decide +kernel)) (by rw [isSubtype_type]; kernel_rfl)
theorem type_pat_search : typeOf (.builtin "re.Pattern.search") = pure (.type "method_descriptor") := by show builtinType _ = _; rw [builtinType_eq_fast]; kernel_rfl
theorem entry_pat_search : entryFor table "re.Pattern.search" = some Builtin.«re.Pattern.search» := entryFor_of_tree (by kernel_rfl)
theorem args_pat_search (a b : Value) : argsOk "re.Pattern.search" ⟨[a, b], []⟩ := by
  unfold argsOk; rw [signature?_of (id := "re.Pattern.search") (n := ['h', 'c', 'r', 'a', 'e', 's']) (o := ['n', 'r', 'e', 't', 't', 'a', 'P', '.', 'e', 'r']) (by kernel_rfl) owner_pat]; kernel_rfl
section
variable {prog : Program} {w : World} {A : Around} {E : Value → Shared → Prop} {s : Shared}
noncomputable def FindsNone (code : Array Nat) : Prop := ∀ text : Array Nat, (∀ q, q < text.size → plainC (text.getD q 0) = true) → ∃ e n, Ends (Sre.forSearch code text 0 0 text.size false) e n ∧ n ≤ 20 ∧ e.outcome = some .failed
theorem search_tree {a : Addr} {code : Array Nat} {x : Str} {t : Tok} (p : IsPat s.heap a code) (N : FindsNone code) (hp : ∀ q, q < x.cps.size → plainC (x.cps.getD q 0) = true) (hx : x.cps.size ≤ 100000) {R : Result → Shared → Prop} (h : R (.ok (.ret .none)) s) :
    wpAny (model prog w) A.in1 (Builtin.«re.Pattern.search» ⟨[.ref a, .str x t], []⟩) (fun fin s' => match fin with | .done f => R (.ok f) s' | .again c' => c'.quiet = true ∧ codeAny (model prog w) A c' R s') (fun e s' => R (.error e) s') s := by
  obtain ⟨fs, T, ws, n, h1, h2, h3, h4, h5, h6⟩ := p
  obtain ⟨e, k, e1, e2, e3⟩ := N x.cps hp
  unfold Builtin.«re.Pattern.search» reTarget
  refine wpAny_bind ?_
  refine wpAny_bind (wpAny_of_eq (a := [some (.str x t), none, none]) (by rfl) ?_)
  refine wpAny_bind (wpAny_pure ?_)
  refine wpAny_bind (wpAny_pure ?_)
  refine wpAny_bind (wpAny_fieldsOf h1 rfl ?_)
  refine wpAny_bind (m := reTextOf (.str x t)) (wpAny_of_eq (a := (x.cps, 0)) (by rfl) ?_)
  simp only [h3, h4, h2]
  refine wpAny_bind (m := reRawItems (.ref T)) ?_
  unfold reRawItems
  refine wpAny_bind (wpAny_seqItems h5 rfl (wpAny_pure (wpAny_pure ?_)))
  simp only [Option.getD_some, h6]
  have hc1 : min (Int.toNat 0) x.cps.size = 0 := by simp
  have hc2 : min (Int.toNat (2 ^ 63 - 1)) x.cps.size = x.cps.size := by
    have : Int.toNat (2 ^ 63 - 1) = 2 ^ 63 - 1 := by decide
    rw [this]; omega
  unfold reAnswer
  simp only [hc1, hc2]
  exact wpAny_bind (wpAny_reRunToEnd e1 (by omega) (.inr ⟨e3, rfl⟩) (wpAny_pure h))
theorem search_method {a : Addr} {code : Array Nat} {pos : Pos} {e1 : Sem Value} {Q : Value → Shared → Prop} (p : IsPat s.heap a code) (N : FindsNone code)
    (h : wpAny (model prog w) A e1 (fun v1 s1 => ∃ x t, v1 = .str x t ∧ IsPat s1.heap a code ∧ (∀ q, q < x.cps.size → plainC (x.cps.getD q 0) = true) ∧ x.cps.size ≤ 100000 ∧ Q .none s1) E s) :
    MethodOnS prog w A E "search" (.ref a) pos [(false, e1)] Q s := by
  refine ⟨"re.Pattern", "re.Pattern.search", plainAttrs_pat, slot_pat_search, type_pat_search, p.type, fun b hb => ?_, ?_⟩
  · cases hb
    obtain ⟨fs, T, ws, n, h1, _⟩ := p
    exact ⟨_, h1, rfl⟩
  · refine method1_meetsIn slot_pat_search entry_pat_search (wpAny_mono h (fun v1 s1 h1 => ?_) fun _ _ e => e)
    obtain ⟨x, t, rfl, p2, hp, hx, k⟩ := h1
    refine ⟨p2.type, args_pat_search _ _, fun A R s => wpAny (model prog w) A.in1 (Builtin.«re.Pattern.search» ⟨[.ref a, .str x t], []⟩) (fun fin s' => match fin with | .done f => R (.ok f) s' | .again c' => c'.quiet = true ∧ codeAny (model prog w) A c' R s') (fun e s' => R (.error e) s') s, fun A R s h => h, ?_⟩
    exact search_tree p2 N hp hx k
end
end Mine
end
section
set_option Elab.async false
set_option linter.all false
set_option maxRecDepth 100000
namespace Mine
open PySem PyProof.Rows PySem.W PySem.Builtin PySem.Builtin.Re PySem.Sre
noncomputable def CallOkK (prog : Program) (w : World) (hb : Heap) (fa : Addr) (d : Nat) (mk : List Value → Args) (vs : List AV) (v : AV) : Prop :=
  ∀ (A : Around), Room A d → ∀ (B : FMap) (s : Shared) (Q : Value → Shared → Prop) (E : Value → Shared → Prop) (vals : List Value),
    (∀ a o, hb.get? a = some o → B a = some o) → (∀ a o, B a = some o → s.heap.get? a = some o) → VRs B [] vs vals →
    (∀ B' val h' tk, (∀ a o, B a = some o → B' a = some o) → (∀ a o, B' a = some o → B a = some o ∨ s.heap.get? a = none) → (∀ a o, B' a = some o → h'.get? a = some o) → (∀ a o, s.heap.get? a = some o → h'.get? a = some o) → VR B' [] v val →
      Q val { s with heap := h', toks := tk }) → wpAny (model prog w) A (call (.ref fa) (mk vals).pos (mk vals).kw) Q E s
section
variable {prog : Program} {w : World} {hb : Heap} {mg mb : Str → Option Value}
theorem call_ofK {f : Fd} {fa : Addr} {body : List Stmt} {o : Obj} {fd : FuncData} (F : Fn0 hb fa f body o fd) (T : TopOk hb mg mb) {d : Nat} {vs : List AV} {v : AV} {mk : List Value → Args} (hbind : ∀ vals : List Value, vals.length = vs.length → bindArgs fd (mk vals) = pure (f.params.zip vals))
    {fl : AF} {H' : Hp} (hx : ∀ A env, Room A d → Ex prog w A ⟨hb, f.locs⟩ f.sc env (execs body env) (f.init vs) fl H') (hv : (∃ u, fl = .ret u ∧ u.pure = true ∧ u = v) ∨ (fl = .next ∧ v = .none)) : CallOkK prog w hb fa (d + 1) mk vs v := by
  intro A hA B s Q E vals hbB hBs V k
  have hbd : wpAny (model prog w) A.in1 (bindArgs fd (mk vals)) (BindPost f vs [] B s) (fun e s' => E e s') s := by
    rw [hbind vals V.length]
    exact wpAny_pure ⟨vals, s.heap, s.toks, B, trivial, rfl, rfl, fun _ _ e => e, fun _ _ e => e, fun _ _ e => .inl e, hBs, fun ψ _ => VRs.mono (fun _ _ e => e) List.nil_prefix V⟩
  refine wpAny_call (frame_run F T hA (φ0 := []) (H0 := []) (vs := vs) hbB hBs rfl List.nodup_nil (by simp) (by simp) hbd fun env B₁ φ h₂ tk₂ EE S => ?_)
  have S1 : Rel ⟨hb, f.locs⟩ B₁ φ (f.init vs) h₂ := by simpa using S.rel
  refine hx _ env (hA.deeper env) B₁ φ { s with heap := h₂, toks := tk₂ } _ _ S1 S.env fun B' φ' fl' h' tk G R' F' => ?_
  have hφs : ∀ a ∈ φ, s.heap.get? a = none := fun a ha => by
    rcases S.new a ha with h | h
    · simp at h
    · exact h
  refine k B' _ h' tk (fun a o e => G.mono _ _ (S.mono _ _ e)) (fun a o e => ?_) R'.keep (fun a o e => ?_) ?_
  · rcases G.newB a o e with h | h | h
    · exact S.newB a o h
    · exact .inr (hφs a h)
    · refine .inr ?_
      cases q : s.heap.get? a with
      | none => rfl
      | some o =>
        have := S.keeps _ _ q
        have h' : h₂.get? a = none := h
        rw [h'] at this; cases this
  · refine G.frame a o (fun hm => ?_) (S.keeps _ _ e)
    rw [hφs a hm] at e; cases e
  · rcases hv with ⟨u, rfl, hp, rfl⟩ | ⟨rfl, rfl⟩
    · obtain ⟨val, rfl, hV⟩ := F'
      exact VR.pure hp hV
    · have : fl' = .next := F'
      subst this; simp [VR]
end
section
variable {prog : Program} {w : World} {A : Around} {g : Gr} {sc : SC} {ξ : List AV} {env : Env} {mg mb : Str → Option Value}
theorem ev_bcon (T : TopOk g.hb mg mb) {x : Str} {p : Pos} {v : Value} {H : Hp} (hx : sc.names.lookup x = some .globalImplicit) (hm : mg x = none ∧ mb x = some v) (hd : (x == ("__debug__" : Str)) = false) : Ev prog w A g sc ξ env (eval (.Name x p) env) H (.con v) H :=
  ev_here fun B φ s Q E R Er h => name_builtin T R Er hx hm (h.same' R (by simp [VR])) hd
theorem ev_type {e : Expr} (he : PlainL [e]) {pn p : Pos} {H H1 : Hp} {x : List Nat} (T : TopOk g.hb mg mb) (ht : mg (Str.ofString "type") = none ∧ mb (Str.ofString "type") = some (.type "type")) (hx : sc.names.lookup (Str.ofString "type") = some .globalImplicit) (h1 : Ev prog w A g sc ξ env (eval e env) H (.str x) H1) :
    Ev prog w A g sc ξ env (eval (.Call (.Name (Str.ofString "type") pn) [e] [] p) env) H (.con (.type "str")) H1 := fun B φ s Q E R Er k => by
  refine Call_name1 (he env) (name_builtin T R Er hx ht ?_)
  refine PySem.callWith_type1 (h1 B φ s _ _ R Er fun B1 φ1 va h1' tk1 G1 R1 V1 => ?_)
  simp only [VR] at V1; obtain ⟨t, rfl⟩ := V1
  exact call_type_of (Tx := "str") (typeIs_str _ _ _) (by decide) (k _ _ _ _ _ G1 R1 (by simp [VR]))
theorem evb_is {l r : Expr} (hm : behindInMarks .Is r = false) {p : Pos} {H H1 H2 : Hp} {a : Value} {wh : Sem Value} (ha : plainIs a a = true) (h1 : Ev prog w A g sc ξ env (eval l env) H (.con a) H1) (h2 : Ev prog w A g sc ξ env (eval r env) H1 (.con a) H2) :
    EvB prog w A g sc ξ env (isTrue (.Compare l [.Is] [r] p) env wh) H true H2 := fun B φ s Q E R Er k =>
  wpAny_isTrue_Compare1 (h1 B φ s _ _ R Er fun B1 φ1 va h1' tk1 G1 R1 V1 => h2 B1 φ1 _ _ _ R1 (Er.grow G1) fun B2 φ2 vb h2' tk2 G2 R2 V2 => by
    simp only [VR] at V1 V2; subst V1 V2
    exact wpAny_is_self ha (wpAny_truthy_bool (k _ _ _ _ (G1.trans G2) R2))) hm
theorem evb_none {f : Expr} {es : List Expr} {ks : List Keyword} {p : Pos} {H H1 : Hp} (h1 : Ev prog w A g sc ξ env (eval (.Call f es ks p) env) H .none H1) :
    EvB prog w A g sc ξ env (isTrue (.Call f es ks p) env (eval (.Call f es ks p) env)) H false H1 := fun B φ s Q E R Er k => by
  show wpAny _ _ (do let v ← eval (.Call f es ks p) env; standAt p; holding [v] (truthy v)) _ _ _
  exact wpAny_bind (h1 B φ s _ _ R Er fun B1 φ1 va h1' tk1 G1 R1 V1 => wpAny_bind (wpAny_standAt (wpAny_holding (by simp only [VR] at V1; subst V1; exact wpAny_of_eq (a := false) (by rfl) (k _ _ _ _ G1 R1)))))
theorem plain_get {x : List Nat} (h : x.all plainC = true) : ∀ q, q < x.toArray.size → plainC (x.toArray.getD q 0) = true := fun q hq => by
  have hq' : q < x.length := by simpa using hq
  have := List.all_eq_true.mp h x[q] (List.getElem_mem hq')
  simpa [hq'] using this
theorem ev_search {o e1 : Expr} (he : PlainL [e1]) {pa p : Pos} {H H1 H2 : Hp} {a : Addr} {code : Array Nat} {x : List Nat} (hp : IsPat g.hb a code) (N : FindsNone code) (hb : Based o) (hl : (pa.endLine == p.line) = true) (h1 : Ev prog w A g sc ξ env (eval o env) H (.con (.ref a)) H1)
    (h2 : Ev prog w A g sc ξ env (eval e1 env) H1 (.str x) H2) (hx : x.length ≤ 100000) (hc : x.all plainC = true) :
    Ev prog w A g sc ξ env (eval (.Call (.Attribute o (Str.ofString "search") pa) [e1] [] p) env) H .none H2 :=
  ev_method he hb hl (by decide : 1 < 5) h1 fun B φ s Q E va R Er V k => by
    simp only [VR] at V; subst V
    refine search_method (hp.keeps R.hbk) N (h2 B φ s _ _ R Er fun B2 φ2 v2 h2' tk2 G2 R2 V2 => ?_)
    simp only [VR] at V2
    obtain ⟨t2, rfl⟩ := V2
    exact ⟨⟨x.toArray⟩, t2, rfl, hp.keeps R2.hbk, plain_get hc, by simpa using hx, k _ _ _ _ _ G2 R2 (by simp [VR])⟩
noncomputable def fdConv : Fd where
  params := [Str.ofString "self", Str.ofString "value", Str.ofString "name"]
  locs := [Str.ofString "self", Str.ofString "value", Str.ofString "name", Str.ofString "regex"]
  names := [(Str.ofString "self", .local), (Str.ofString "value", .local), (Str.ofString "name", .local), (Str.ofString "regex", .local), (Str.ofString "type", .globalImplicit), (Str.ofString "str", .globalImplicit),
    (Str.ofString "_name_disallowed_re", .globalImplicit), (Str.ofString "_value_disallowed_re", .globalImplicit), (Str.ofString "ValueError", .globalImplicit), (Str.ofString "AssertionError", .globalImplicit), (Str.ofString "repr", .globalImplicit)]
  body := []
noncomputable def mkConv (vals : List Value) : Args := ⟨vals.take 2, (vals.drop 2).map fun v => (Str.ofString "name", v)⟩
noncomputable def bodyConv (p : Nat → Pos) (raise rest : List Stmt) : List Stmt :=
  .If (.Compare (.Call (.Name (Str.ofString "type") (p 0)) [.Name (Str.ofString "value") (p 1)] [] (p 2)) [.Is] [.Name (Str.ofString "str") (p 3)] (p 4)) [
    .Assign [.Name (Str.ofString "regex") (p 5)] (.IfExp (.Name (Str.ofString "name") (p 6)) (.Name (Str.ofString "_name_disallowed_re") (p 7)) (.Name (Str.ofString "_value_disallowed_re") (p 8)) (p 9)) (p 10),
    .If (.Call (.Attribute (.Name (Str.ofString "regex") (p 11)) (Str.ofString "search") (p 12)) [.Name (Str.ofString "value") (p 13)] [] (p 14)) raise [] (p 15),
    .Return (some (.Name (Str.ofString "value") (p 16))) (p 17)] [] (p 18) :: rest
end
theorem conv_ok {prog : Program} {w : World} {hb : Heap} {mg mb : Str → Option Value} {fa : Addr} {o : Obj} {fd : FuncData} {P : Nat → Pos} {rs rest : List Stmt} (hline : ((P 12).endLine == (P 14).line) = true) (F : Fn0 hb fa fdConv (bodyConv P rs rest) o fd) (T : TopOk hb mg mb)
    (hbind : ∀ a b c : Value, bindArgs fd ⟨[a, b], [(Str.ofString "name", c)]⟩ = pure (fdConv.params.zip [a, b, c])) (ht : mg (Str.ofString "type") = none ∧ mb (Str.ofString "type") = some (.type "type"))
    {a1 a2 : Addr} (m1 : mg (Str.ofString "_name_disallowed_re") = some (.ref a1)) (m2 : mg (Str.ofString "_value_disallowed_re") = some (.ref a2)) (p1 : IsPat hb a1 codeN) (p2 : IsPat hb a2 codeV)
    {d : Nat} {sv : Value} {b : Bool} {x : List Nat} (hx : x.length ≤ 100000) (hc : x.all plainC = true) : CallOkK prog w hb fa (d + 1) mkConv [.con sv, .str x, .bool b] (.str x) := by
  refine call_ofK F T (mk := mkConv) (fun vals hl => ?_) (fl := .ret (.str x)) (H' := [.ns [some (.con sv), some (.str x), some (.bool b), some (.con (.ref (if b then a1 else a2)))]]) (fun A env hA => ?_) (.inl ⟨_, rfl, rfl, rfl⟩)
  · match vals, hl with
    | [a, b, c], _ => exact hbind a b c
  · let H0 := fdConv.init [.con sv, .str x, .bool b]
    have eV : ∀ (q : Pos) (H : Hp), getLoc H 1 = some (.str x) → Ev prog w A ⟨hb, fdConv.locs⟩ fdConv.sc [] env (eval (.Name (Str.ofString "value") q) env) H (.str x) H := fun q H h => ev_loc (i := 1) h rfl rfl (by decide) (by decide)
    have t1 : EvB prog w A ⟨hb, fdConv.locs⟩ fdConv.sc [] env (isTrue (.Compare (.Call (.Name (Str.ofString "type") (P 0)) [.Name (Str.ofString "value") (P 1)] [] (P 2)) [.Is] [.Name (Str.ofString "str") (P 3)] (P 4)) env (eval (.Compare (.Call (.Name (Str.ofString "type") (P 0)) [.Name (Str.ofString "value") (P 1)] [] (P 2)) [.Is] [.Name (Str.ofString "str") (P 3)] (P 4)) env)) H0 true H0 :=
      evb_is rfl rfl (ev_type (PlainL.one plain_name) T ht (by decide) (eV _ _ rfl)) (ev_bcon T (by decide) T.str_ (by decide))
    obtain ⟨ar, code, har, hpat, hN, hre⟩ : ∃ ar code, ar = (if b then a1 else a2) ∧ IsPat hb ar code ∧ FindsNone code ∧ ∀ env, Ev prog w A ⟨hb, fdConv.locs⟩ fdConv.sc [] env (eval (if b then .Name (Str.ofString "_name_disallowed_re") (P 7) else .Name (Str.ofString "_value_disallowed_re") (P 8)) env) H0 (.con (.ref ar)) H0 := by
      cases b with
      | true => exact ⟨a1, codeN, rfl, p1, searchN, fun env => ev_gcon T (by decide) m1 (by decide)⟩
      | false => exact ⟨a2, codeV, rfl, p2, searchV, fun env => ev_gcon T (by decide) m2 (by decide)⟩
    rw [← har]
    have s1 : Ex prog w A ⟨hb, fdConv.locs⟩ fdConv.sc env (exec (.Assign [.Name (Str.ofString "regex") (P 5)] (.IfExp (.Name (Str.ofString "name") (P 6)) (.Name (Str.ofString "_name_disallowed_re") (P 7)) (.Name (Str.ofString "_value_disallowed_re") (P 8)) (P 9)) (P 10)) env) H0 .next [.ns [some (.con sv), some (.str x), some (.bool b), some (.con (.ref ar))]] :=
      ex_asg (ev_ife (c := b) (evb_val rfl (ev_loc (i := 2) rfl rfl rfl (by decide) (by decide)) rfl) (hre env)) (as_loc (i := 3) rfl rfl rfl (by decide)) rfl
    have s2 : Ex prog w A ⟨hb, fdConv.locs⟩ fdConv.sc env (exec (.If (.Call (.Attribute (.Name (Str.ofString "regex") (P 11)) (Str.ofString "search") (P 12)) [.Name (Str.ofString "value") (P 13)] [] (P 14)) rs [] (P 15)) env) [.ns [some (.con sv), some (.str x), some (.bool b), some (.con (.ref ar))]] .next [.ns [some (.con sv), some (.str x), some (.bool b), some (.con (.ref ar))]] :=
      ex_if (c := false) (evb_none (ev_search (g := ⟨hb, fdConv.locs⟩) (PlainL.one plain_name) hpat hN (fun _ _ _ => rfl) hline (ev_loc (i := 3) rfl rfl rfl (by decide) (by decide)) (eV _ _ rfl) hx hc)) ex_nil
    exact ex_stop (ex_if (c := true) t1 (ex_cons s1 (ex_cons s2 (ex_stop (ex_ret (eV _ _ rfl)) (by simp))))) (by simp)
end Mine
end
section
set_option Elab.async false
set_option linter.all false
set_option maxRecDepth 100000
namespace Mine
open PySem PyProof.Rows PySem.W PySem.Builtin
structure ClsOk (hb : Heap) (c : Addr) (mN : Str → Option Value) : Prop where
  cls : ∃ (nm q : Str) (N : Addr) (bs : List Value) (sn : List Str) (sub : List Value) (ab : Bool) (col : Option Bool) (dd : Option Addr) (k0 k1 k2 k3 k5 : Option Value) (newId : String),
    hb.get? c = some (excClassObj nm q c N bs [.type "object"] true sn sub ab col dd k0 k1 k2 k3 k5 newId) ∧ hb.Ns N mN
  ga : mN "__getattribute__" = none
  gt : mN "__getattr__" = none
  hd : mN hdrName = none
structure Meth (hb : Heap) (mN : Str → Option Value) (nm : Str) (f : Addr) (of : Obj) (fd : FuncData) : Prop where
  name : mN nm = some (.ref f)
  get : hb.get? f = some of
  cls : of.cls = .type "function"
  data : of.data = .func fd
  ne : nm ≠ hdrName
  obj : ∃ y, typeLookup (.type "object") nm = pure y
theorem lk_object_hdr : typeLookup (.type "object") hdrName = pure none := by rw [hdrName, typeLookup_type, builtinLookup_eq_fast]; kernel_rfl
section
variable {prog : Program} {w : World} {A : Around} {E : Value → Shared → Prop} {s : Shared} {hb : Heap} {c ia la : Addr} {mN : Str → Option Value} {B : FMap}
theorem IsTab.inst (h : IsTab B c ia la) (hBs : ∀ a o, B a = some o → s.heap.get? a = some o) : s.heap.Inst ia c fun y => if y = hdrName then some (.ref la) else none := by
  obtain ⟨da, oi, od, h1, h2, h3⟩ := h
  exact h3 _ (hBs _ _ h1) (hBs _ _ h2)
theorem get_meth (K : ClsOk hb c mN) {name : Str} {f : Addr} {of : Obj} {fd : FuncData} (M : Meth hb mN name f of fd) (hbs : ∀ a o, hb.get? a = some o → s.heap.get? a = some o) (hBs : ∀ a o, B a = some o → s.heap.get? a = some o) (I : IsTab B c ia la) {pl : Sem Bool} {Q : Value × List Value → Shared → Prop} (hq : Q (.ref f, [.ref ia]) s) :
    wpAny (model prog w) A (getMethod (.ref ia) name pl) Q E s := by
  obtain ⟨nm, q, N, bs, sn, sub, ab, col, dd, k0, k1, k2, k3, k5, newId, hc, hn⟩ := K.cls
  obtain ⟨y, hy⟩ := M.obj
  exact method_of (h := s.heap) (g := s.gens) (d := s.drawn) (t := s.toks) (os := s.os) (hbs _ _ hc) (hn.keeps hbs) K.ga K.gt M.name (hbs _ _ M.get) M.cls hy (I.inst hBs) (by simp [M.ne]) hq
theorem get_hdr (K : ClsOk hb c mN) (hbs : ∀ a o, hb.get? a = some o → s.heap.get? a = some o) (hBs : ∀ a o, B a = some o → s.heap.get? a = some o) (I : IsTab B c ia la) {ex : Bool} {Q : Value → Shared → Prop} (hq : Q (.ref la) { s with toks := s.toks + 1 }) :
    wpAny (model prog w) A (getAttr (.ref ia) hdrName ex) Q E s := by
  obtain ⟨nm, q, N, bs, sn, sub, ab, col, dd, k0, k1, k2, k3, k5, newId, hc, hn⟩ := K.cls
  exact load_attr (h := s.heap) (g := s.gens) (d := s.drawn) (t := s.toks) (os := s.os) (hbs _ _ hc) (hn.keeps hbs) K.ga K.hd lk_object_hdr (I.inst hBs) (v := .ref la) (by simp) rfl hq
theorem own_call {o : Expr} {name : Str} {apos pos : Pos} {args : List Expr} {ks : List Keyword} {env : Env} {f : Addr} {of : Obj} {fd : FuncData} {Q : Value → Shared → Prop} (hfd : of.data = .func fd)
    (hbase : attributeBase o name env (eval o env) = eval o env)
    (hform : methodCallForm (args.length + ks.length) (backTo pos (starEach args env)) (backToKw pos (keywordEach ks env)) = true) (hline : (apos.endLine == pos.line) = true)
    (h : wpAny (model prog w) A (eval o env) (fun ov s₁ => ∃ ia, ov = .ref ia ∧ (∀ pl Q', Q' (.ref f, [.ref ia]) s₁ → wpAny (model prog w) A (getMethod (.ref ia) name pl) Q' E s₁) ∧
      wpAny (model prog w) A (evalArgs (.ref f) true (backTo pos (starEach args env)) (backToKw pos (keywordEach ks env))) (fun x s₂ => s₂.heap.get? f = some of ∧ wpAny (model prog w) A (call (.ref f) (.ref ia :: x.pos) x.kw) Q E s₂) E s₁) E s) :
    wpAny (model prog w) A (eval (.Call (.Attribute o name apos) args ks pos) env) Q E s := by
  rw [arm_eval_Call, hbase]
  refine wpAny_bind (wpAny_mono h (fun ov s₁ h₁ => ?_) fun _ _ e => e)
  obtain ⟨ia, rfl, hg, hc⟩ := h₁
  refine wpAny_bind (wpAny_standAt ?_)
  have hpos : methodCallPos true o env apos pos = pure pos := by unfold methodCallPos; simp [hline]
  unfold methodCall
  rw [hform]
  refine wpAny_bind (wpAny_holding (hg _ _ ?_))
  refine wpAny_bind (wpAny_of_eq hpos ?_)
  exact callWith_function_kw (o := of) (fd := fd) (wpAny_mono hc (fun x s₂ h₂ => ⟨⟨h₂.1, hfd⟩, h₂.2⟩) fun _ _ e => e)
end
section
variable {prog : Program} {w : World} {A : Around} {g : Gr} {sc : SC} {ξ : List AV} {env : Env} {mg mb : Str → Option Value} {c : Addr} {mN : Str → Option Value}
noncomputable def IsSelf (a : AV) (B : FMap) (φ : List Addr) (c : Addr) : Prop := ∀ va, VR B φ a va → ∃ ia la, va = .ref ia ∧ IsTab B c ia la
theorem isSelf_con {B : FMap} {φ : List Addr} {ia la : Addr} (h : IsTab B c ia la) : IsSelf (.con (.ref ia)) B φ c := fun va hv => by
  simp only [VR] at hv
  exact ⟨ia, la, hv, h⟩
theorem rel_callK {B : FMap} {φ : List Addr} {H : Hp} {s : Shared} {d : Nat} {fa : Addr} {vs : List AV} {v : AV} {mk : List Value → Args} (R : Rel g B φ H s.heap) (hA : Room A d) (c : CallOkK prog w g.hb fa d mk vs v) {vals : List Value} (V : VRs B [] vs vals) {Q : Value → Shared → Prop} {E : Value → Shared → Prop}
    (k : ∀ B' val h' tk, Grow φ B s.heap φ B' h' → Rel g B' φ H h' → VR B' φ v val → Q val { s with heap := h', toks := tk }) : wpAny (model prog w) A (call (.ref fa) (mk vals).pos (mk vals).kw) Q E s := by
  refine c A hA B s Q E vals R.base R.keep V fun B' val h' tk hm hn hk hf V' => ?_
  have hφB : ∀ (k : Nat) (a : Addr) (x : AO), φ[k]? = some a → H[k]? = some x → x.isHole = false → B' a = none := fun k a x e1 e2 e3 => by
    cases q : B' a with
    | none => rfl
    | some o =>
      rcases hn a o q with h1 | h1
      · rw [R.out k a x e1 e2 e3] at h1; cases h1
      · obtain ⟨o', ho⟩ := R.alive a (List.mem_of_getElem? e1); rw [h1] at ho; cases ho
  refine k B' val h' tk ⟨List.prefix_refl _, fun _ h => .inl h, hm, fun a o e => ?_, fun a o _ e => hf a o e⟩
    ⟨fun a o e => hm _ _ (R.base a o e), R.dup, hk, R.len, R.nodup, hφB, fun a ha => ?_, fun j a x e1 e2 => (R.obj j a x e1 e2).mono hm (List.prefix_refl _) fun o e => hf _ _ e⟩ (VR.mono (fun _ _ e => e) List.nil_prefix V')
  · rcases hn a o e with h1 | h1
    · exact .inl h1
    · exact .inr (.inr h1)
  · obtain ⟨o, e⟩ := R.alive a ha; exact ⟨o, hf _ _ e⟩
theorem wp_conv {o e : Expr} (he : PlainL [e]) {pa p pk pk' : Pos} {b : Bool} {d : Nat} {f : Addr} {of : Obj} {fd : FuncData} (hA : Room A d) (K : ClsOk g.hb c mN) (M : Meth g.hb mN (Str.ofString "_convert_string_type") f of fd) {x : List Nat} (hcv : ∀ sv, CallOkK prog w g.hb f d mkConv [.con sv, .str x, .bool b] (.str x))
    (hbc : Based o) (hline : (pa.endLine == p.line) = true) {H H1 H2 : Hp} {a : AV} (h1 : Ev prog w A g sc ξ env (eval o env) H a H1) (h2 : Ev prog w A g sc ξ env (eval e env) H1 (.str x) H2)
    {B : FMap} {φ : List Addr} {s : Shared} {Q : Value → Shared → Prop} {E : Value → Shared → Prop} (hself : ∀ B1 φ1, (∀ a o, B a = some o → B1 a = some o) → IsSelf a B1 φ1 c) (R : Rel g B φ H s.heap) (Er : EnvR sc B φ ξ env s.heap)
    (k : ∀ B' φ' val h' tk, Grow φ B s.heap φ' B' h' → Rel g B' φ' H2 h' → VR B' φ' (.str x) val → Q val { s with heap := h', toks := tk }) :
    wpAny (model prog w) A (eval (.Call (.Attribute o (Str.ofString "_convert_string_type") pa) [e] [⟨some (Str.ofString "name"), .Constant (.bool b) 0 pk, pk'⟩] p) env) Q E s := by
  refine own_call (f := f) (of := of) (fd := fd) M.data (hbc _ _ _) ?_ hline (h1 B φ s _ _ R Er fun B1 φ1 va h1' tk1 G1 R1 V1 => ?_)
  · rw [he.back]
    rfl
  obtain ⟨ia, la, rfl, I⟩ := hself B1 φ1 G1.mono va V1
  refine ⟨ia, rfl, fun pl Q' hq => get_meth K M R1.hbk R1.keep I hq, ?_⟩
  rw [he.back]
  refine evalArgs_kw (x := eval e env) (rest := []) (by rfl) (Calls.spliced_cons (h2 B1 φ1 _ _ _ R1 (Er.grow G1) fun B2 φ2 v2 h2' tk2 G2 R2 V2 => Calls.spliced_nil ?_))
  refine wpAny_evalAll_cons (x := do let v ← eval (.Constant (.bool b) 0 pk) env; standAt p; pure v) (wpAny_bind (wpAny_Constant_bool (wpAny_bind (wpAny_standAt (wpAny_pure (wpAny_evalAll_nil ⟨R2.hbk _ _ M.get, ?_⟩))))))
  have V0 : VRs B2 [] [.con (.ref ia), .str x, .bool b] [.ref ia, v2, .bool b] := VRs.cons (by simp [VR]) (VRs.cons (VR.pure rfl V2) (VRs.cons (by simp [VR]) VRs.nil))
  exact rel_callK (A := A) (s := { s with heap := h2', toks := tk2 }) (mk := mkConv) (vals := [.ref ia, v2, .bool b]) R2 hA (hcv _) V0 fun B3 val h3 tk3 G3 R3 V3 => k _ _ _ _ _ (G1.trans (G2.trans G3)) R3 V3
end
end Mine
end
section
set_option Elab.async false
set_option linter.all false
set_option maxRecDepth 100000
namespace Mine
open PySem PyProof.Rows PySem.W PySem.Builtin
noncomputable def MethOk (prog : Program) (w : World) (hb : Heap) (c fa : Addr) (d : Nat) (xs vs : List AV) (v : AV) (ys : List AV) : Prop :=
  ∀ (A : Around), Room A d → ∀ (B : FMap) (s : Shared) (Q : Value → Shared → Prop) (E : Value → Shared → Prop) (ia la : Addr) (ws : List Value) (n : Nat) (vals : List Value),
    (∀ a o, hb.get? a = some o → B a = some o) → (∀ a o, B a = some o → s.heap.get? a = some o) → IsTab B c ia la → B la = none → s.heap.get? la = some (lstObj ws n) → VRs B [] xs ws → VRs B [] vs vals →
    (∀ B' val h' tk ws' n', (∀ a o, B a = some o → B' a = some o) → (∀ a o, B' a = some o → B a = some o ∨ s.heap.get? a = none) → (∀ a o, B' a = some o → h'.get? a = some o) → (∀ a o, a ≠ la → s.heap.get? a = some o → h'.get? a = some o) →
      h'.get? la = some (lstObj ws' n') → VRs B' [] ys ws' → VR B' [] v val → Q val { s with heap := h', toks := tk }) → wpAny (model prog w) A (call (.ref fa) (.ref ia :: vals)) Q E s
section
variable {prog : Program} {w : World} {A : Around} {g : Gr} {c : Addr}
theorem rel_meth {B : FMap} {φ : List Addr} {H : Hp} {s : Shared} {d : Nat} {fa ia la : Addr} {xs ys vs : List AV} {v : AV} (R : Rel g B φ H s.heap) (hA : Room A d) (m : MethOk prog w g.hb c fa d xs vs v ys) (hp : AV.pures vs = true) {vals : List Value} (V : VRs B φ vs vals) {l : Nat} (hl : φ[l]? = some la) (hH : H[l]? = some (.list xs)) (hxs : AV.pures xs = true) (I : IsTab B c ia la) {Q : Value → Shared → Prop} {E : Value → Shared → Prop}
    (k : ∀ B' val h' tk, Grow φ B s.heap φ B' h' → Rel g B' φ (H.set l (.list ys)) h' → VR B' φ v val → Q val { s with heap := h', toks := tk }) : wpAny (model prog w) A (call (.ref fa) (.ref ia :: vals)) Q E s := by
  obtain ⟨ws, n, ho, rv⟩ := R.obj _ _ _ hl hH
  have hBla := R.out _ _ _ hl hH rfl
  refine m A hA B s Q E ia la ws n vals R.base R.keep I hBla ho (VRs.pure hxs rv) (VRs.pure hp V) fun B' val h' tk ws' n' hm hn hk hf ho' rv' V' => ?_
  have hB'la : B' la = none := by
    cases q : B' la with
    | none => rfl
    | some o =>
      rcases hn la o q with h1 | h1
      · rw [hBla] at h1; cases h1
      · rw [ho] at h1; cases h1
  have hne : ∀ (j : Nat) (a : Addr), j ≠ l → φ[j]? = some a → a ≠ la := fun j a hj e => by
    rintro rfl
    have h1 := List.getElem?_eq_some_iff.mp e
    have h2 := List.getElem?_eq_some_iff.mp hl
    exact hj ((List.getElem_inj R.nodup).mp (h1.2.trans h2.2.symm))
  have hlH : l < H.length := (List.getElem?_eq_some_iff.mp hH).1
  have hlm : la ∈ φ := List.mem_of_getElem? hl
  refine k B' val h' tk ⟨List.prefix_refl _, fun _ h => .inl h, hm, fun a o e => ?_, fun a o ha e => hf a o (by rintro rfl; exact ha hlm) e⟩
    ⟨fun a o e => hm _ _ (R.base a o e), R.dup, hk, by simp [R.len], R.nodup, fun j a x e1 e2 e3 => ?_, fun a ha => ?_, fun j a x e1 e2 => ?_⟩ (VR.mono (fun _ _ e => e) List.nil_prefix V')
  · rcases hn a o e with h1 | h1
    · exact .inl h1
    · exact .inr (.inr h1)
  · by_cases hj : j = l
    · subst hj; rw [hl] at e1; cases e1; exact hB'la
    · rw [List.getElem?_set_ne (Ne.symm hj)] at e2
      cases q : B' a with
      | none => rfl
      | some o =>
        rcases hn a o q with h1 | h1
        · rw [R.out j a x e1 e2 e3] at h1; cases h1
        · obtain ⟨o', ho⟩ := R.alive a (List.mem_of_getElem? e1); rw [h1] at ho; cases ho
  · by_cases hla : a = la
    · subst hla; exact ⟨_, ho'⟩
    · obtain ⟨o, e⟩ := R.alive a ha; exact ⟨o, hf _ _ hla e⟩
  · by_cases hj : j = l
    · subst hj; rw [hl] at e1; cases e1
      rw [List.getElem?_set_self hlH] at e2; cases e2
      exact ⟨ws', n', ho', VRs.mono (fun _ _ e => e) List.nil_prefix rv'⟩
    · rw [List.getElem?_set_ne (Ne.symm hj)] at e2
      exact (R.obj j a x e1 e2).mono hm (List.prefix_refl _) fun o e => hf _ _ (hne j a hj e1) e
end
section
variable {prog : Program} {w : World} {hb : Heap} {mg mb : Str → Option Value} {c : Addr}
theorem meth_ro {f : Fd} {fa : Addr} {body : List Stmt} {o : Obj} {fd : FuncData} (F : Fn0 hb fa f body o fd) (T : TopOk hb mg mb) {d : Nat} {xs vs vs' : List AV} {v : AV} (hv : v.pure = true)
    (hbind : ∀ (A : Around) (B : FMap) (s : Shared) (E : Value → Shared → Prop) (ia : Addr) (vals : List Value), (∀ a o, hb.get? a = some o → B a = some o) → (∀ a o, B a = some o → s.heap.get? a = some o) → VRs B [] vs vals → wpAny (model prog w) A (bindArgs fd ⟨.ref ia :: vals, []⟩) (BindPost f (.con (.ref ia) :: vs') [] B s) E s)
    (hbody : ∀ (A : Around) (env : Env) (B : FMap) (φ : List Addr) (s : Shared) (ia la : Addr) (ws : List Value) (n : Nat) (Q : Flow → Shared → Prop) (E : Value → Shared → Prop), Room A d → Rel ⟨hb, f.locs⟩ B φ (f.init (.con (.ref ia) :: vs')) s.heap → EnvR f.sc B φ [] env s.heap → IsTab B c ia la → Beside B φ s.heap la →
      s.heap.get? la = some (lstObj ws n) → VRs B [] xs ws → (∀ B' φ' fl h' tk H', Grow φ B s.heap φ' B' h' → Rel ⟨hb, f.locs⟩ B' φ' H' h' → FR B' φ' (.ret v) fl → Q fl { s with heap := h', toks := tk }) → wpAny (model prog w) A (execs body env) Q E s) :
    MethOk prog w hb c fa (d + 1) xs vs v xs := by
  intro A hA B s Q E ia la ws n vals hbB hBs I hBla hla rv V k
  refine wpAny_call (frame_run F T hA (φ0 := []) (H0 := []) (vs := .con (.ref ia) :: vs') hbB hBs rfl List.nodup_nil (by simp) (by simp) (hbind _ B s _ ia vals hbB hBs V) fun env B₁ φ h₂ tk₂ EE S => ?_)
  have S1 : Rel ⟨hb, f.locs⟩ B₁ φ (f.init (.con (.ref ia) :: vs')) h₂ := by simpa using S.rel
  have hφs : ∀ a ∈ φ, s.heap.get? a = none := fun a ha => by
    rcases S.new a ha with h | h
    · simp at h
    · exact h
  have bs : Beside B₁ φ h₂ la := by
    refine ⟨⟨_, S.keeps _ _ hla⟩, fun hm => ?_, ?_⟩
    · rw [hφs la hm] at hla; cases hla
    · cases q : B₁ la with
      | none => rfl
      | some o =>
        rcases S.newB la o q with h1 | h1
        · rw [hBla] at h1; cases h1
        · rw [h1] at hla; cases hla
  refine hbody _ env B₁ φ { s with heap := h₂, toks := tk₂ } ia la ws n _ _ (hA.deeper env) S1 S.env (I.mono S.mono) bs (S.keeps _ _ hla) (VRs.mono S.mono (List.prefix_refl _) rv) fun B' φ' fl' h' tk H' G R' F' => ?_
  have hla' : h'.get? la = some (lstObj ws n) := G.frame _ _ bs.off (S.keeps _ _ hla)
  obtain ⟨val, rfl, hV⟩ := F'
  refine k B' val h' tk ws n (fun a o e => G.mono _ _ (S.mono _ _ e)) (fun a o e => ?_) R'.keep (fun a o _ e => ?_) hla' (VRs.mono (fun a o e => G.mono _ _ (S.mono _ _ e)) (List.prefix_refl _) rv) (VR.pure hv hV)
  · rcases G.newB a o e with h | h | h
    · exact S.newB a o h
    · exact .inr (hφs a h)
    · refine .inr ?_
      cases q : s.heap.get? a with
      | none => rfl
      | some o =>
        have := S.keeps _ _ q
        have h' : h₂.get? a = none := h
        rw [h'] at this; cases this
  · refine G.frame a o (fun hm => ?_) (S.keeps _ _ e)
    rw [hφs a hm] at e; cases e
theorem bind_self {f : Fd} {fd : FuncData} {vs : List AV} (hb' : ∀ (ia : Addr) (vals : List Value), vals.length = vs.length → bindArgs fd ⟨.ref ia :: vals, []⟩ = pure (f.params.zip (.ref ia :: vals))) (A : Around) (B : FMap) (s : Shared) (E : Value → Shared → Prop) (ia : Addr) (vals : List Value)
    (hbB : ∀ a o, hb.get? a = some o → B a = some o) (hBs : ∀ a o, B a = some o → s.heap.get? a = some o) (V : VRs B [] vs vals) : wpAny (model prog w) A (bindArgs fd ⟨.ref ia :: vals, []⟩) (BindPost f (.con (.ref ia) :: vs) [] B s) E s := by
  rw [hb' ia vals V.length]
  exact wpAny_pure ⟨.ref ia :: vals, s.heap, s.toks, B, trivial, rfl, rfl, fun _ _ e => e, fun _ _ e => e, fun _ _ e => .inl e, hBs, fun ψ _ => VRs.cons (by simp [VR]) (VRs.mono (fun _ _ e => e) List.nil_prefix V)⟩
end
section
variable {prog : Program} {w : World} {A : Around} {g : Gr} {sc : SC} {ξ : List AV} {env : Env} {mg mb : Str → Option Value}
theorem wp_comp {elt iter tgt : Expr} {x : Str} {names : List Str} {bnd : AV → Option (List AV)} {ifs : List Expr} {scope : Scope} {pos : Pos} (hc : compOk sc scope x = true) (htgt : TgtOk prog w A scope tgt names bnd) (hf : ∀ v, foldedSetIterable iter env v = pure v) {f : AV → Hp → Option (Option AV × Hp)}
    (hturn : ∀ v H1 r H2, f v H1 = some (r, H2) → ∃ ζ, bnd v = some ζ ∧ CTurn prog w A g (compSCs sc scope names) ifs elt ζ H1 r H2) {xs ys : List AV} {H1 H2 : Hp} {B : FMap} {φ : List Addr} {s : Shared} {Q : Value → Shared → Prop} {E : Value → Shared → Prop} (Er : EnvR sc B φ ξ env s.heap)
    (h1 : ∀ Q' : Value → Shared → Prop, (∀ B' φ' h1 tk1 it s', Grow φ B s.heap φ' B' h1 → Rel g B' φ' H1 h1 → IterPost prog w A B' φ' xs { s with heap := h1, toks := tk1 } it s' → Q' it s') → wpAny (model prog w) A (eval iter env) (fun x s1 => wpAny (model prog w) A (pyIter x) Q' E s1) E s)
    (e : compLit f xs H1 = some (ys, H2)) (hz : small xs.length = true) (k : ∀ B' φ' val h' tk, Grow φ B s.heap φ' B' h' → Rel g B' φ' H2 h' → VR B' φ' (.lst ys) val → Q val { s with heap := h', toks := tk }) :
    wpAny (model prog w) A (eval (.ListComp elt [⟨tgt, iter, ifs, 0⟩] scope pos) env) Q E s := by
  obtain ⟨hkind, hcell, hnames, hfree, hx⟩ := compOk_facts hc
  rw [eval_ListComp]
  refine wpAny_comprehension_free (use := none) rfl hf (closure_sc hc Er) hkind hnames (h1 _ fun B1 φ1 h1' tk1 it s' G1 R1 p => ?_)
  obtain ⟨I, h', tk, fp, P, St, rfl, rfl, L, hst, hI, hk⟩ := p
  refine comp_gen (s0 := { s with heap := h1', toks := tk1 }) (RR := fun acc C => compPost (model prog w) A E none Q acc C) hc htgt hturn e hz R1 (Er.grow G1) L hst hI hk ?_
  intro B' φ' D C h'' tk' m G2 R2 V hn hC hB hC0
  refine ⟨m, hn, fun h3 hs => ?_⟩
  have hk3 : ∀ b o, b ≠ C → h''.get? b = some o → h3.get? b = some o := fun b o hb e => hs.extBut b o hb e
  exact k B' φ' _ h3 tk' (G1.trans (G2.but hC0 hk3)) (R2.but hC hB hk3) V
end
end Mine
end
section
set_option Elab.async false
set_option linter.all false
set_option maxRecDepth 100000
namespace Mine
open PySem PyProof.Rows PySem.W PySem.Builtin
noncomputable abbrev Its := List (List Nat × List Nat)
noncomputable def tabL (its : Its) : List AV := its.map fun p => .tup [.str p.1, .str p.2]
theorem tabL_pures : ∀ its : Its, AV.pures (tabL its) = true
  | [] => rfl
  | p :: r => by
    have := tabL_pures r
    simp only [tabL, List.map_cons, AV.pures, AV.pure] at this ⊢
    simp [this]
noncomputable def okS (s : List Nat) : Bool := s.all plainC && Nat.ble s.length 1000
noncomputable def okIts (its : Its) : Bool := its.all (fun p => okS p.1 && okS p.2) && Nat.ble its.length 1000
noncomputable def lowS (s : List Nat) : List Nat := s.map loC
theorem okS_ascii {s : List Nat} (h : okS s = true) : ascii s = true := by
  simp only [okS, Bool.and_eq_true] at h
  refine List.all_eq_true.mpr fun c hc => ?_
  have := plainC_iff (List.all_eq_true.mp h.1 c hc)
  simp [Nat.blt]; omega
theorem okS_len {s : List Nat} (h : okS s = true) : s.length ≤ 1000 := by
  simp only [okS, Bool.and_eq_true] at h
  exact Nat.le_of_ble_eq_true h.2
theorem okS_small {s : List Nat} (h : okS s = true) : small s.length = true := by
  have := okS_len h
  simp [small]; omega
theorem okS_low {s : List Nat} (h : okS s = true) : okS (lowS s) = true := by
  simp only [okS, Bool.and_eq_true] at h ⊢
  refine ⟨List.all_eq_true.mpr fun c hc => ?_, by simpa [lowS] using h.2⟩
  obtain ⟨d, hd, rfl⟩ := List.mem_map.mp hc
  have := plainC_iff (List.all_eq_true.mp h.1 d hd)
  unfold loC
  split
  · rename_i hh
    simp at hh
    simp [plainC]; omega
  · simp [plainC]; omega
noncomputable def nO : Oks := ⟨fun _ _ => false, fun _ _ _ => false, fun _ _ _ => false, fun _ _ => false, fun _ _ => false⟩
noncomputable def nC : Nat → List AV → Option AV := fun _ _ => none
noncomputable def nD : Nat → List AV → List AV → Option (AV × List AV) := fun _ _ _ => none
theorem nOrac {prog : Program} {w : World} {A : Around} {g : Gr} : Orac prog w A g nO nC nD :=
  ⟨fun _ _ h => Bool.noConfusion (show false = true from h), fun _ h => Bool.noConfusion (show false = true from h), fun _ h => Bool.noConfusion (show false = true from h), fun h => Bool.noConfusion (show false = true from h), fun _ h => Bool.noConfusion (show false = true from h)⟩
section
variable {prog : Program} {w : World} {A : Around} {g : Gr} {sc : SC} {ξ : List AV} {env : Env} {mg mb : Str → Option Value} {c : Addr} {mN : Str → Option Value}
theorem wp_hdrC {i : Nat} {x : Str} {po pa : Pos} (K : ClsOk g.hb c mN) {H : Hp} {ia la : Addr} (h1 : Ev prog w A g sc ξ env (eval (.Name x po) env) H (.con (.ref ia)) H)
    {B : FMap} {φ : List Addr} {s : Shared} {Q : Value → Shared → Prop} {E : Value → Shared → Prop} (I : IsTab B c ia la) (R : Rel g B φ H s.heap) (Er : EnvR sc B φ ξ env s.heap)
    (k : ∀ B' φ' h' tk, Grow φ B s.heap φ' B' h' → Rel g B' φ' H h' → Q (.ref la) { s with heap := h', toks := tk }) :
    wpAny (model prog w) A (eval (.Attribute (.Name x po) hdrName pa) env) Q E s := by
  refine Attribute_any_ (h1 B φ s _ _ R Er fun B1 φ1 va h1' tk1 G1 R1 V1 => ?_) rfl
  simp only [VR] at V1; subst V1
  exact get_hdr K R1.hbk R1.keep (I.mono G1.mono) (k B1 φ1 h1' _ G1 R1)
noncomputable def posOk (a b : Pos) : Bool := a.endLine == b.line
noncomputable def fdGetAll : Fd where
  params := [Str.ofString "self", Str.ofString "name"]
  locs := [Str.ofString "self"]
  names := [(Str.ofString "self", .local), (Str.ofString "name", .cell)]
  body := []
noncomputable def scGetAll : Scope := { kind := .function, names := [(Str.ofString ".0", .local), (Str.ofString "kv", .local), (Str.ofString "name", .free)], isGenerator := false, isCoroutine := false, more := [] }
noncomputable def gaElt (P : Nat → Pos) : Expr := .Subscript (.Name (Str.ofString "kv") (P 10)) (.Constant (.int 1) 0 (P 11)) (P 12)
noncomputable def gaIf (P : Nat → Pos) : Expr := .Compare (.Call (.Attribute (.Subscript (.Name (Str.ofString "kv") (P 16)) (.Constant (.int 0) 0 (P 17)) (P 18)) (Str.ofString "lower") (P 19)) [] [] (P 20)) [.Eq] [.Name (Str.ofString "name") (P 21)] (P 22)
noncomputable def bodyGetAll (P : Nat → Pos) : List Stmt :=
  [.Assign [.Name (Str.ofString "name") (P 0)] (.Call (.Attribute (.Name (Str.ofString "self") (P 1)) (Str.ofString "_convert_string_type") (P 2)) [.Call (.Attribute (.Name (Str.ofString "name") (P 3)) (Str.ofString "lower") (P 4)) [] [] (P 5)] [⟨some (Str.ofString "name"), .Constant (.bool true) 0 (P 6), P 7⟩] (P 8)) (P 9),
   .Return (some (.ListComp (gaElt P) [⟨.Name (Str.ofString "kv") (P 13), .Attribute (.Name (Str.ofString "self") (P 14)) hdrName (P 15), [gaIf P], 0⟩] scGetAll (P 23))) (P 24)]
noncomputable def gaTurn : AV → Hp → Option (Option AV × Hp) := oTurn (oSub (oCv 0) (oK (.int 1))) (tOne (tCmp .Eq (oSm .lower (oSub (oCv 0) (oK (.int 0))) oNil) (oCel 1)))
noncomputable def getAll (its : Its) (nm : List Nat) : List (List Nat) := its.filterMap fun p => if lowS p.1 = lowS nm then some p.2 else none
theorem ga_turn {ia : Addr} {nm k v : List Nat} (h : okS k = true) : gaTurn (.tup [.str k, .str v]) [.ns [some (.con (.ref ia))], .cell (some (.str (lowS nm)))] = some (if lowS k = lowS nm then some (.str v) else none, [.ns [some (.con (.ref ia))], .cell (some (.str (lowS nm)))]) := by
  have hl : oSm .lower (oSub (oCv 0) (oK (.int 0))) oNil [.tup [.str k, .str v]] [.ns [some (.con (.ref ia))], .cell (some (.str (lowS nm)))] = some (.str (lowS k), [.ns [some (.con (.ref ia))], .cell (some (.str (lowS nm)))]) := by
    show wi _ (gd (ascii k && small k.length) _) = _
    rw [okS_ascii h, okS_small h]; rfl
  have e2 : tOne (tCmp .Eq (oSm .lower (oSub (oCv 0) (oK (.int 0))) oNil) (oCel 1)) [.tup [.str k, .str v]] [.ns [some (.con (.ref ia))], .cell (some (.str (lowS nm)))] = some (decide (lowS k = lowS nm), [.ns [some (.con (.ref ia))], .cell (some (.str (lowS nm)))]) := by
    unfold tOne tCmp; rw [hl]; rfl
  unfold gaTurn oTurn
  rw [e2]
  by_cases he : lowS k = lowS nm
  · rw [decide_eq_true he, if_pos he]; rfl
  · rw [decide_eq_false he, if_neg he]; rfl
theorem ga_comp {ia : Addr} {nm : List Nat} : ∀ {its : Its}, its.all (fun p => okS p.1 && okS p.2) = true → compLit gaTurn (tabL its) [.ns [some (.con (.ref ia))], .cell (some (.str (lowS nm)))] = some ((getAll its nm).map .str, [.ns [some (.con (.ref ia))], .cell (some (.str (lowS nm)))])
  | [], _ => rfl
  | (k, v) :: r, h => by
    simp only [List.all_cons, Bool.and_eq_true] at h
    have ih := ga_comp (ia := ia) (nm := nm) (its := r) h.2
    show th (gaTurn (.tup [.str k, .str v]) _) _ = _
    rw [ga_turn h.1.1]
    by_cases he : lowS k = lowS nm
    · rw [if_pos he]
      refine (show _ = th (compLit gaTurn (tabL r) [.ns [some (.con (.ref ia))], .cell (some (.str (lowS nm)))]) (fun ys H'' => some (AV.str v :: ys, H'')) from rfl).trans ?_
      rw [ih]
      simp only [getAll, List.filterMap_cons, if_pos he, List.map_cons]; rfl
    · rw [if_neg he]
      refine (show _ = compLit gaTurn (tabL r) [.ns [some (.con (.ref ia))], .cell (some (.str (lowS nm)))] from rfl).trans ?_
      rw [ih]
      simp only [getAll, List.filterMap_cons, if_neg he]
theorem str_pures : ∀ ts : List (List Nat), AV.pures (ts.map .str) = true
  | [] => rfl
  | _ :: r => by simp [AV.pures, AV.pure, str_pures r]
theorem okIts_small {its : Its} (h : okIts its = true) : small (tabL its).length = true := by
  simp only [okIts, Bool.and_eq_true] at h
  have := Nat.le_of_ble_eq_true h.2
  simp [small, tabL]; omega
end
section
variable {prog : Program} {w : World} {hb : Heap} {mg mb : Str → Option Value} {c : Addr} {mN : Str → Option Value}
structure Base (prog : Program) (w : World) (hb : Heap) (mg mb : Str → Option Value) (c : Addr) (mN : Str → Option Value) (d : Nat) : Prop where
  top : TopOk hb mg mb
  cls : ClsOk hb c mN
  conv : ∃ f of fd, Meth hb mN (Str.ofString "_convert_string_type") f of fd ∧ ∀ sv b x, okS x = true → CallOkK prog w hb f d mkConv [.con sv, .str x, .bool b] (.str x)
theorem get_all_ok {fa : Addr} {o : Obj} {fd : FuncData} {P : Nat → Pos} {d : Nat} (F : Fn0 hb fa fdGetAll (bodyGetAll P) o fd) (K : Base prog w hb mg mb c mN d) (hl1 : posOk (P 2) (P 8) = true) (hl2 : posOk (P 4) (P 5) = true) (hl3 : posOk (P 19) (P 20) = true)
    (hbind : ∀ a b : Value, bindArgs fd ⟨[a, b], []⟩ = pure (fdGetAll.params.zip [a, b])) {its : Its} {nm : List Nat} (hi : okIts its = true) (hn : okS nm = true) : MethOk prog w hb c fa (d + 1) (tabL its) [.str nm] (.lst ((getAll its nm).map .str)) (tabL its) := by
  obtain ⟨f, of, fdc, M, hcv⟩ := K.conv
  refine meth_ro F K.top (by simpa [AV.pure] using str_pures _) (bind_self fun ia vals hl => ?_) fun A env B φ s ia la ws n Q E hA R Er I bs hla rv k => ?_
  · match vals, hl with
    | [a], _ => exact hbind _ a
  let g : Gr := ⟨hb, fdGetAll.locs⟩
  have R : Rel g B φ [.ns [some (.con (.ref ia))], .cell (some (.str nm))] s.heap := R
  have eS : ∀ (q : Pos) (x : AV), Ev prog w A g fdGetAll.sc [] env (eval (.Name (Str.ofString "self") q) env) [.ns [some (.con (.ref ia))], .cell (some x)] (.con (.ref ia)) [.ns [some (.con (.ref ia))], .cell (some x)] := fun q x => ev_loc (i := 0) rfl rfl rfl (by decide) (by decide)
  have eL : Ev prog w A g fdGetAll.sc [] env (eval (.Call (.Attribute (.Name (Str.ofString "name") (P 3)) (Str.ofString "lower") (P 4)) [] [] (P 5)) env) [.ns [some (.con (.ref ia))], .cell (some (.str nm))] (.str (lowS nm)) [.ns [some (.con (.ref ia))], .cell (some (.str nm))] :=
    ev_lower (fun _ _ _ => rfl) hl2 (ev_cel (k := 1) rfl (by decide) (.inl (by decide)) (by decide) (by decide)) (okS_ascii hn) (okS_small hn)
  refine wpAny_execs_cons (wpAny_Assign_Name (wp_conv (g := g) (sc := fdGetAll.sc) (ξ := []) (PlainL.one plain_call) hA K.cls M (fun sv => hcv sv true _ (okS_low hn)) (fun _ _ _ => rfl) hl1 (eS _ _) eL (fun B1 φ1 hm => isSelf_con (I.mono hm)) R Er fun B1 φ1 val h1 tk1 G1 R1 V1 => ?_) rfl)
  refine as_cel (prog := prog) (w := w) (A := A) (g := g) (sc := fdGetAll.sc) (kk := 1) (v := .str (lowS nm)) (H := [.ns [some (.con (.ref ia))], .cell (some (.str nm))]) (H' := [.ns [some (.con (.ref ia))], .cell (some (.str (lowS nm)))]) rfl (by decide) (by decide) B1 φ1 _ _ _ val R1 (Er.grow G1) V1 fun B2 φ2 h2 tk2 G2 R2 => ?_
  have G12 := G1.trans G2
  have Er2 := Er.grow G12
  have bs2 := bs.grow G12
  have hla2 : h2.get? la = some (lstObj ws n) := G12.frame _ _ bs.off hla
  have X : Cx prog w A g nO nC nD := ⟨hA.fine, ⟨_, _, K.top⟩, nOrac⟩
  have cE : SE prog w A g (compSC fdGetAll.sc scGetAll (Str.ofString "kv")) (gaElt P) (oSub (oCv 0) (oK (.int 1))) := c_sub (c_cv (by decide)) (c_k rfl)
  have cI : ST prog w A g (compSC fdGetAll.sc scGetAll (Str.ofString "kv")) [gaIf P] (tOne (tCmp .Eq (oSm .lower (oSub (oCv 0) (oK (.int 0))) oNil) (oCel 1))) := ct_one (cb_cmp X (c_lower (fun _ _ _ => rfl) hl3 (c_sub (c_cv (by decide)) (c_k rfl))) (c_cel (by decide)))
  refine wpAny_execs_cons (wpAny_Return_some (wp_comp (g := g) (sc := fdGetAll.sc) (ξ := []) (x := Str.ofString "kv") (names := [Str.ofString "kv"]) (bnd := fun v => some [v]) (f := gaTurn) (H1 := [.ns [some (.con (.ref ia))], .cell (some (.str (lowS nm)))]) (by decide) (tgt_name rfl (by decide)) (fun v => rfl) (fun v H1 r H2 h => ⟨[v], rfl, turn_ok (sc := compSC fdGetAll.sc scGetAll (Str.ofString "kv")) cE cI h⟩) Er2 (fun Q' k' => ?_) (ga_comp (by simp only [okIts, Bool.and_eq_true] at hi; exact hi.1)) (okIts_small hi) fun B3 φ3 val3 h3 tk3 G3 R3 V3 => ?_))
  · refine wp_hdrC (i := 0) K.cls (eS _ _) (I.mono G12.mono) R2 Er2 fun B4 φ4 h4 tk4 G4 R4 => ?_
    exact iter_beside hA.1 (bs2.grow G4) (G4.frame _ _ bs2.off hla2) (VRs.mono (fun a o e => G4.mono _ _ (G12.mono _ _ e)) List.nil_prefix rv) fun it s' p => k' _ _ _ _ _ _ G4 R4 p
  · exact k B3 φ3 _ h3 tk3 _ (G12.trans G3) R3 ⟨val3, rfl, V3⟩
end
end Mine
end
section
set_option Elab.async false
set_option linter.all false
set_option linter.unusedSimpArgs false
set_option maxRecDepth 100000
namespace Mine
open PySem PyProof.Rows PySem.W PySem.Builtin
section
variable {prog : Program} {w : World} {A : Around} {g : Gr} {sc : SC} {env : Env}
theorem wp_for {target iter : Expr} {body : List Stmt} {p : Pos} {f : AV → Hp → Option (AF × Hp)} (hfn : sc.fn = true) (hf : ∀ v, foldedSetIterable iter env v = pure v) (hturn : ∀ v H1 fl H2, f v H1 = some (fl, H2) → ∃ H1', As prog w A g sc env (assign target env) v H1 H1' ∧ Ex prog w A g sc env (execs body env) H1' fl H2)
    {xs : List AV} {H1 H2 : Hp} {fl : AF} {B : FMap} {φ : List Addr} {s : Shared} {Q : Flow → Shared → Prop} {E : Value → Shared → Prop} (Er : EnvR sc B φ [] env s.heap)
    (h1 : ∀ Q' : Value → Shared → Prop, (∀ B' φ' h1 tk1 it s', Grow φ B s.heap φ' B' h1 → Rel g B' φ' H1 h1 → IterPost prog w A B' φ' xs { s with heap := h1, toks := tk1 } it s' → Q' it s') → wpAny (model prog w) A (eval iter env) (fun x s1 => wpAny (model prog w) A (pyIter x) Q' E s1) E s)
    (e : loopLit f xs H1 = some (fl, H2)) (k : ∀ B' φ' fl' h' tk, Grow φ B s.heap φ' B' h' → Rel g B' φ' H2 h' → FR B' φ' fl fl' → Q fl' { s with heap := h', toks := tk }) : wpAny (model prog w) A (exec (.For target iter body [] p) env) Q E s :=
  wpAny_For (h1 _ fun B1 φ1 h1' tk1 it s' G1 R1 q => by
    obtain ⟨I, h', tk, fp, P, St, rfl, rfl, L, hst, hI, hk⟩ := q
    exact for_lit (s0 := { s with heap := h1', toks := tk1 }) hturn e hfn R1 (Er.grow G1) L hst hI hk ⟨h', tk, rfl⟩ fun B' φ' fl' h'' tk'' G2 R2 F2 => k _ _ _ _ _ (G1.trans G2) R2 F2) hf
end
noncomputable def fdLen : Fd where
  params := [Str.ofString "self"]
  locs := [Str.ofString "self"]
  names := [(Str.ofString "self", .local), (Str.ofString "len", .globalImplicit)]
  body := []
noncomputable def bodyLen (P : Nat → Pos) : List Stmt := [.Return (some (.Call (.Name (Str.ofString "len") (P 0)) [.Attribute (.Name (Str.ofString "self") (P 1)) hdrName (P 2)] [] (P 3))) (P 4)]
section
variable {prog : Program} {w : World} {hb : Heap} {mg mb : Str → Option Value} {c : Addr} {mN : Str → Option Value}
theorem len_ok {fa : Addr} {o : Obj} {fd : FuncData} {P : Nat → Pos} {d : Nat} (F : Fn0 hb fa fdLen (bodyLen P) o fd) (T : TopOk hb mg mb) (K : ClsOk hb c mN)
    (hbind : ∀ a : Value, bindArgs fd ⟨[a], []⟩ = pure (fdLen.params.zip [a])) {its : Its} (hi : okIts its = true) : MethOk prog w hb c fa (d + 1) (tabL its) [] (.int its.length) (tabL its) := by
  refine meth_ro F T rfl (bind_self fun ia vals hl => ?_) fun A env B φ s ia la ws n Q E hA R Er I bs hla rv k => ?_
  · match vals, hl with
    | [], _ => exact hbind _
  let g : Gr := ⟨hb, fdLen.locs⟩
  have R : Rel g B φ [.ns [some (.con (.ref ia))]] s.heap := R
  have eS : ∀ (q : Pos), Ev prog w A g fdLen.sc [] env (eval (.Name (Str.ofString "self") q) env) [.ns [some (.con (.ref ia))]] (.con (.ref ia)) [.ns [some (.con (.ref ia))]] := fun q => ev_loc (i := 0) rfl rfl rfl (by decide) (by decide)
  refine wpAny_execs_cons (wpAny_Return_some (Call_name1 rfl (name_builtin (g := g) T R Er (by decide) T.len_ ?_)))
  refine PySem.callWith_builtin1 (wp_hdrC (i := 0) K (eS _) I R Er fun B4 φ4 h4 tk4 G4 R4 => ?_)
  have hl := rv.length
  have hz := okIts_small hi
  have hz' : (tabL its).length ≤ 100000 := small_le hz
  refine len_list (isList_of (G4.frame _ _ bs.off hla)) (by simp [hl]; omega) ?_
  have e : ((ws.toArray.size : Nat) : Int) = its.length := by simp [hl, tabL]
  rw [e]
  exact k B4 φ4 _ h4 _ _ G4 R4 ⟨_, rfl, by simp [VR]⟩
end
end Mine
end
section
set_option Elab.async false
set_option linter.all false
set_option linter.unusedSimpArgs false
set_option maxRecDepth 100000
namespace Mine
open PySem PyProof.Rows PySem.W PySem.Builtin
noncomputable def fdInit : Fd where
  params := [Str.ofString "self", Str.ofString "headers"]
  locs := [Str.ofString "self", Str.ofString "headers", Str.ofString "k", Str.ofString "v"]
  names := [(Str.ofString "self", .local), (Str.ofString "headers", .local), (Str.ofString "k", .local), (Str.ofString "v", .local), (Str.ofString "type", .globalImplicit), (Str.ofString "list", .globalImplicit), (Str.ofString "TypeError", .globalImplicit), (Str.ofString "__debug__", .globalImplicit)]
  body := []
noncomputable def iS1 (P : Nat → Pos) : Stmt := .Assign [.Name (Str.ofString "headers") (P 0)] (.IfExp (.Compare (.Name (Str.ofString "headers") (P 1)) [.IsNot] [.Constant .none 0 (P 2)] (P 3)) (.Name (Str.ofString "headers") (P 4)) (.List [] (P 5)) (P 6)) (P 7)
noncomputable def iO1 : OS := sAsg (.loc 1) (oIfe (tCmp .IsNot (oLoc 1) (oK .none)) (oLoc 1) (oLstM oNil))
noncomputable def iTg (P : Nat → Pos) : Expr := .Tuple [.Name (Str.ofString "k") (P 19), .Name (Str.ofString "v") (P 20)] 0 (P 21)
noncomputable def bodyInit (P : Nat → Pos) (rs bd : List Stmt) : List Stmt :=
  [iS1 P,
   .If (.Compare (.Call (.Name (Str.ofString "type") (P 8)) [.Name (Str.ofString "headers") (P 9)] [] (P 10)) [.IsNot] [.Name (Str.ofString "list") (P 11)] (P 12)) rs [] (P 13),
   .Assign [.Attribute (.Name (Str.ofString "self") (P 14)) hdrName (P 15)] (.Name (Str.ofString "headers") (P 16)) (P 17),
   .If (.Constant (.bool true) 0 (P 18)) [.For (iTg P) (.Name (Str.ofString "headers") (P 22)) bd [] (P 23)] [] (P 24)]
section
variable {prog : Program} {w : World} {A : Around} {g : Gr} {sc : SC} {ξ : List AV} {env : Env} {mg mb : Str → Option Value}
theorem ev_type_list {e : Expr} (he : PlainL [e]) {pn p : Pos} {H H1 : Hp} {k : Nat} {xs : List AV} (T : TopOk g.hb mg mb) (ht : mg (Str.ofString "type") = none ∧ mb (Str.ofString "type") = some (.type "type")) (hx : sc.names.lookup (Str.ofString "type") = some .globalImplicit) (h1 : Ev prog w A g sc ξ env (eval e env) H (.ref k) H1) (hk : H1[k]? = some (.list xs)) :
    Ev prog w A g sc ξ env (eval (.Call (.Name (Str.ofString "type") pn) [e] [] p) env) H (.con (.type "list")) H1 := fun B φ s Q E R Er kk => by
  refine Call_name1 (he env) (name_builtin T R Er hx ht ?_)
  refine PySem.callWith_type1 (h1 B φ s _ _ R Er fun B1 φ1 va h1' tk1 G1 R1 V1 => ?_)
  simp only [VR] at V1; obtain ⟨l, el, rfl⟩ := V1
  obtain ⟨ws, n, ho, _⟩ := R1.obj _ _ _ el hk
  exact call_type_of (Tx := "list") (isList_of ho).typeIs (by decide) (kk _ _ _ _ _ G1 R1 (by simp [VR]))
theorem evb_isnot {l r : Expr} (hm : behindInMarks .IsNot r = false) {p : Pos} {H H1 H2 : Hp} {a : Value} {wh : Sem Value} (ha : plainIs a a = true) (h1 : Ev prog w A g sc ξ env (eval l env) H (.con a) H1) (h2 : Ev prog w A g sc ξ env (eval r env) H1 (.con a) H2) :
    EvB prog w A g sc ξ env (isTrue (.Compare l [.IsNot] [r] p) env wh) H false H2 := fun B φ s Q E R Er k =>
  wpAny_isTrue_Compare1 (h1 B φ s _ _ R Er fun B1 φ1 va h1' tk1 G1 R1 V1 => h2 B1 φ1 _ _ _ R1 (Er.grow G1) fun B2 φ2 vb h2' tk2 G2 R2 V2 => by
    simp only [VR] at V1 V2; subst V1 V2
    exact wpAny_isNot_self ha (wpAny_truthy_bool (k _ _ _ _ (G1.trans G2) R2))) hm
theorem evb_true {p : Pos} {H : Hp} : EvB prog w A g sc ξ env (isTrue (.Constant (.bool true) 0 p) env (eval (.Constant (.bool true) 0 p) env)) H true H := fun B φ s Q E R Er k => by
  show wpAny _ _ (do let v ← eval (.Constant (.bool true) 0 p) env; standAt p; holding [v] (truthy v)) _ _ _
  exact wpAny_bind (wpAny_Constant_bool (wpAny_bind (wpAny_standAt (wpAny_holding (wpAny_truthy_bool (k _ _ _ s.toks Grow.refl R))))))
theorem inst_at {h h' : Heap} {x c dx : Addr} {m : Str → Option Value} {o : Obj} (I : h.Inst x c m) (ho : h.get? x = some o) (hd : o.dict = some dx) (e1 : h'.get? x = some o) (e2 : ∀ p, h.get? dx = some p → h'.get? dx = some p) : h'.Inst x c m := by
  obtain ⟨o', ho', hc, hnc, hdd⟩ := I
  rw [ho] at ho'; cases ho'
  refine ⟨o, e1, hc, hnc, ?_⟩
  rcases hdd with ⟨hn, hm⟩ | ⟨d, hd', hne, hns⟩
  · rw [hd] at hn; cases hn
  · rw [hd] at hd'; cases hd'
    exact .inr ⟨dx, hd, hne, hns.at e2⟩
end
end Mine
end
section
set_option Elab.async false
set_option linter.all false
set_option linter.unusedSimpArgs false
set_option maxRecDepth 100000
namespace Mine
open PySem PyProof.Rows PySem.W PySem.Builtin
theorem Rel.but2 {g : Gr} {φ : List Addr} {B : FMap} {H : Hp} {h h' : Heap} {x y : Addr} (R : Rel g B φ H h) (hx : x ∉ φ) (hBx : B x = none) (hy : y ∉ φ) (hBy : B y = none) (hk : ∀ b o, b ≠ x → b ≠ y → h.get? b = some o → h'.get? b = some o) : Rel g B φ H h' := by
  refine ⟨R.base, R.dup, fun a o e => hk _ _ (by rintro rfl; rw [hBx] at e; cases e) (by rintro rfl; rw [hBy] at e; cases e) (R.keep a o e), R.len, R.nodup, R.out, fun a ha => ?_, fun k a z e1 e2 => ?_⟩
  · obtain ⟨o, e⟩ := R.alive a ha
    exact ⟨o, hk _ _ (by rintro rfl; exact hx ha) (by rintro rfl; exact hy ha) e⟩
  · exact (R.obj k a z e1 e2).mono (fun _ _ e => e) (List.prefix_refl _) fun o e => hk _ _ (by rintro rfl; exact hx (List.mem_of_getElem? e1)) (by rintro rfl; exact hy (List.mem_of_getElem? e1)) e
theorem EnvR.but2 {sc : SC} {B : FMap} {φ : List Addr} {ξ : List AV} {env : Env} {h h' : Heap} (hf : sc.fn = true) (r : EnvR sc B φ ξ env h) : EnvR sc B φ ξ env h' := by
  refine ⟨r.kind, r.names, r.glob, r.blt, ?_, r.cell⟩
  have := r.loc
  rw [if_pos hf] at this ⊢; exact this
section
variable {prog : Program} {w : World} {hb : Heap} {mg mb : Str → Option Value} {c N : Addr} {mN : Str → Option Value}
theorem init_ok {fa : Addr} {o : Obj} {fd : FuncData} {P : Nat → Pos} {rs bd : List Stmt} {d : Nat} (F : Fn0 hb fa fdInit (bodyInit P rs bd) o fd) (T : TopOk hb mg mb) (X : ClsAt hb c N mN) (hdN : mN hdrName = none) (hsa : mN "__setattr__" = none)
    (ht : mg (Str.ofString "type") = none ∧ mb (Str.ofString "type") = some (.type "type")) (hl : mg (Str.ofString "list") = none ∧ mb (Str.ofString "list") = some (.type "list"))
    (hbind : ∀ (a : Value) (s : Shared), (∀ a o, hb.get? a = some o → s.heap.get? a = some o) → BindsTo s fd ⟨[a], []⟩ (fdInit.params.zip [a, .none]))
    {A : Around} (hA : Room A (d + 1)) {B : FMap} {s : Shared} {Q : Value → Shared → Prop} {E : Value → Shared → Prop} {x dx : Addr} {ox : Obj} (hbB : ∀ a o, hb.get? a = some o → B a = some o) (hBs : ∀ a o, B a = some o → s.heap.get? a = some o)
    (I : s.heap.Inst x c fun _ => none) (hox : s.heap.get? x = some ox) (hod : ox.dict = some dx) (hBx : B x = none) (hBd : B dx = none) (hdl : ∃ o, s.heap.get? dx = some o)
    (k : ∀ (B' : FMap) (la : Addr) (ox' od' : Obj) (h' : Heap) (tk n : Nat), (∀ a o, B a = some o → B' a = some o) → (∀ a o, B' a = some o → B a = some o ∨ s.heap.get? a = none) → (∀ a o, B' a = some o → h'.get? a = some o) → (∀ a o, a ≠ x → a ≠ dx → s.heap.get? a = some o → h'.get? a = some o) →
      h'.get? x = some ox' → h'.get? dx = some od' → ox'.dict = some dx → h'.Inst x c (fun y => if y = hdrName then some (.ref la) else none) → s.heap.get? la = none → h'.get? la = some (lstObj [] n) → B' la = none → Q .none { s with heap := h', toks := tk }) :
    wpAny (model prog w) A (call (.ref fa) [.ref x]) Q E s := by
  refine wpAny_call (frame_run F T hA (φ0 := []) (H0 := []) (vs := [.con (.ref x), .none]) hbB hBs rfl List.nodup_nil (by simp) (by simp) ?_ fun env B₁ φ h₂ tk₂ EE S => ?_)
  · exact hbind (.ref x) s (fun a o e => hBs _ _ (hbB a o e)) _ _ _ _ ⟨[.ref x, .none], s.heap, s.toks, B, trivial, rfl, rfl, fun _ _ e => e, fun _ _ e => e, fun _ _ e => .inl e, hBs, fun ψ _ => VRs.cons (by simp [VR]) (VRs.cons (by simp [VR]) VRs.nil)⟩
  let g : Gr := ⟨hb, fdInit.locs⟩
  have hA' := hA.deeper env
  have R0 : Rel ⟨hb, fdInit.locs⟩ B₁ φ (fdInit.init [.con (.ref x), .none]) h₂ := by simpa using S.rel
  have R : Rel g B₁ φ [.ns [some (.con (.ref x)), some .none, none, none]] h₂ := R0
  have hφs : ∀ a ∈ φ, s.heap.get? a = none := fun a ha => by
    rcases S.new a ha with h | h
    · simp at h
    · exact h
  obtain ⟨od, hod'⟩ := hdl
  have hxφ : x ∉ φ := fun q => by have := hφs x q; rw [hox] at this; cases this
  have hdφ : dx ∉ φ := fun q => by have := hφs dx q; rw [hod'] at this; cases this
  have hx₁ : B₁ x = none := by
    cases q : B₁ x with
    | none => rfl
    | some o =>
      rcases S.newB x o q with h | h
      · rw [hBx] at h; cases h
      · rw [hox] at h; cases h
  have hd₁ : B₁ dx = none := by
    cases q : B₁ dx with
    | none => rfl
    | some o =>
      rcases S.newB dx o q with h | h
      · rw [hBd] at h; cases h
      · rw [hod'] at h; cases h
  have X' : Cx prog w (A.deeper env) g nO nC nD := ⟨hA'.fine, ⟨_, _, T⟩, nOrac⟩
  have cS : SX prog w (A.deeper env) g fdInit.sc (iS1 P) iO1 := cs_asg rfl (by kernel_rfl) (c_ife (cb_cmp X' (c_loc (by kernel_rfl)) (c_k rfl)) (c_loc (by kernel_rfl)) (c_lstM cl_nil)) (fun _ => rfl)
  refine wpAny_execs_cons (cS.ev (H := [.ns [some (.con (.ref x)), some .none, none, none]]) (fl := .next) (H' := [.ns [some (.con (.ref x)), some (.ref 1), none, none], .list []]) (by rfl) B₁ φ { s with heap := h₂, toks := tk₂ } _ _ R S.env fun B2 φ2 fl2 h2 tk2 G2 R2 F2 => ?_)
  have hfl : fl2 = .next := F2
  subst hfl
  have Er2 := S.env.grow G2
  refine wpAny_execs_cons (ex_if (sc := fdInit.sc) (c := false) (evb_isnot rfl rfl (ev_type_list (g := g) (PlainL.one plain_name) (k := 1) T ht (by decide) (ev_loc (i := 1) rfl rfl rfl (by decide) (by decide)) rfl) (ev_bcon T (by decide) hl (by decide))) ex_nil B2 φ2 { s with heap := h2, toks := tk2 } _ _ R2 Er2 fun B3 φ3 fl3 h3 tk3 G3 R3 F3 => ?_)
  have hfl : fl3 = .next := F3
  subst hfl
  have G13 := G2.trans G3
  have Er3 := Er2.grow G3
  have hx3 : h3.get? x = some ox := G13.frame _ _ hxφ (S.keeps _ _ hox)
  have hd3 : h3.get? dx = some od := G13.frame _ _ hdφ (S.keeps _ _ hod')
  refine wpAny_execs_cons (plainObj_wpAny_Assign_Attribute (ev_loc (prog := prog) (w := w) (g := g) (sc := fdInit.sc) (ξ := []) (i := 1) (v := .ref 1) rfl rfl rfl (by decide) (by decide) B3 φ3 { s with heap := h3, toks := tk3 } _ _ R3 Er3 fun B4 φ4 v4 h4 tk4 G4 R4 V4 => ev_loc (prog := prog) (w := w) (g := g) (sc := fdInit.sc) (ξ := []) (i := 0) (v := .con (.ref x)) rfl rfl rfl (by decide) (by decide) B4 φ4 { s with heap := h4, toks := tk4 } _ _ R4 (Er3.grow G4) fun B5 φ5 v5 h5 tk5 G5 R5 V5 => ?_))
  simp only [VR] at V5; subst V5
  have V5' := G5.vr V4
  simp only [VR] at V5'
  obtain ⟨la, ela, rfl⟩ := V5'
  have G15 := G13.trans (G4.trans G5)
  have hx5 : h5.get? x = some ox := G15.frame _ _ hxφ (S.keeps _ _ hox)
  have hd5 : h5.get? dx = some od := G15.frame _ _ hdφ (S.keeps _ _ hod')
  have I5 : h5.Inst x c fun _ => none := inst_at I hox hod hx5 fun p hp => by rw [hod'] at hp; cases hp; exact hd5
  obtain ⟨nm, q, bs, sn, sub, col, dd, k0, k1, k2, k3, k5, hC⟩ := X.obj
  have hx5φ : x ∉ φ5 := fun q => by
    rcases G15.new _ q with h | h
    · exact hxφ h
    · have := S.keeps _ _ hox; rw [h] at this; cases this
  have hd5φ : dx ∉ φ5 := fun q => by
    rcases G15.new _ q with h | h
    · exact hdφ h
    · have := S.keeps _ _ hod'; rw [h] at this; cases this
  have hnB : ∀ a, B₁ a = none → a ∉ φ → (∃ o, h₂.get? a = some o) → B5 a = none := fun a h1 h2 ⟨o, h3⟩ => by
    cases q : B5 a with
    | none => rfl
    | some p =>
      rcases G15.newB a p q with h | h | h
      · rw [h1] at h; cases h
      · exact absurd h h2
      · rw [h] at h3; cases h3
  have hxB := hnB x hx₁ hxφ ⟨_, S.keeps _ _ hox⟩
  have hdB := hnB dx hd₁ hdφ ⟨_, S.keeps _ _ hod'⟩
  have hxc : x ≠ c := by rintro rfl; rw [hbB _ _ hC] at hBx; cases hBx
  refine store_attr PySem.F.store_object (R5.hbk _ _ hC) (X.ns.keeps R5.hbk) hsa hdN lk_object_hdr hxc I5 (fun h6 tk6 I6 hk6 hs6 => ?_) Within.nil (by simp)
  have hk6' : ∀ b o, b ≠ x → b ≠ dx → h5.get? b = some o → h6.get? b = some o := fun b o h1 h2 e => hk6 b o h1 (fun o₀ dx' e1 e2 => by rw [hx5] at e1; cases e1; rw [hod] at e2; cases e2; exact h2) e
  obtain ⟨ox6, hx6, _, _, _, hdx6⟩ := hs6 ox hx5
  have hdx6 := hdx6 dx hod
  have R6 : Rel g B5 φ5 _ h6 := R5.but2 hx5φ hxB hd5φ hdB hk6'
  have Er6 : EnvR fdInit.sc B5 φ5 [] env h6 := EnvR.but2 rfl (Er3.grow (G4.trans G5))
  obtain ⟨od6, hd6⟩ : ∃ o, h6.get? dx = some o := by
    obtain ⟨o', ho', _, _, hdd⟩ := I6
    rw [hx6] at ho'; cases ho'
    rcases hdd with ⟨hn, _⟩ | ⟨d', hd', _, hns⟩
    · rw [hdx6] at hn; cases hn
    · rw [hdx6] at hd'; cases hd'
      obtain ⟨oo, _, _, e, _⟩ := hns
      exact ⟨oo, e⟩
  refine wpAny_execs_cons (wpAny_If (evb_true (prog := prog) (w := w) (g := g) (sc := fdInit.sc) (ξ := []) B5 φ5 { s with heap := h6, toks := tk6 } _ _ R6 Er6 fun B7 φ7 h7 tk7 G7 R7 => ?_))
  have ela7 := getElem?_prefix G7.pre ela
  obtain ⟨us, n, ho, ru⟩ := R7.obj 1 la (.list []) ela7 rfl
  obtain rfl : us = [] := by simpa [VRs] using ru
  obtain ⟨R8, G8⟩ := R7.freeze ela7 rfl ho
  refine wpAny_execs_cons (wp_for (g := g) (sc := fdInit.sc) (f := fun _ _ => none) (xs := []) (H1 := [.ns [some (.con (.ref x)), some (.ref 1), none, none], .hole]) (H2 := [.ns [some (.con (.ref x)), some (.ref 1), none, none], .hole]) (fl := .next) rfl (fun v => rfl) (fun v H1 fl H2 h => by cases h) ((Er6.grow G7).grow G8) (fun Q' k' => ?_) rfl fun B9 φ9 fl9 h9 tk9 G9 R9 F9 => ?_)
  · refine ev_loc (prog := prog) (w := w) (g := g) (sc := fdInit.sc) (ξ := []) (i := 1) (v := .ref 1) rfl rfl rfl (by decide) (by decide) _ φ7 _ _ _ R8 ((Er6.grow G7).grow G8) fun B10 φ10 v10 h10 tk10 G10 R10 V10 => ?_
    simp only [VR] at V10
    obtain ⟨la', ela', rfl⟩ := V10
    have : la' = la := by
      have := getElem?_prefix G10.pre ela7
      rw [ela'] at this; exact Option.some.inj this
    subst this
    exact iter_list hA'.1 (G10.mono _ _ FMap.add_self) (R10.keep _ _ (G10.mono _ _ FMap.add_self)) VRs.nil fun it s' p => k' _ _ _ _ _ _ G10 R10 p
  · have hfl : fl9 = .next := F9
    subst hfl
    refine wpAny_execs_nil (wpAny_execs_nil ?_)
    have G79 := G7.trans (G8.trans G9)
    have hx9 : h9.get? x = some ox6 := G79.frame _ _ hx5φ hx6
    have hd9 : h9.get? dx = some od6 := G79.frame _ _ hd5φ hd6
    have hlas : s.heap.get? la = none := by
      rcases G15.new la (List.mem_of_getElem? ela) with h | h
      · exact hφs la h
      · cases q : s.heap.get? la with
        | none => rfl
        | some o => have := S.keeps _ _ q; have h' : h₂.get? la = none := h; rw [h'] at this; cases this
    have hBla : B5 la = none := R6.out 1 la _ ela rfl rfl
    refine k B5 la ox6 od6 h9 tk9 n (fun a o e => G15.mono _ _ (S.mono _ _ e)) (fun a o e => ?_) (fun a o e => R9.keep _ _ (G79.mono _ _ e)) (fun a o h1 h2 e => ?_) hx9 hd9 hdx6 (inst_at I6 hx6 hdx6 hx9 fun p hp => by rw [hd6] at hp; cases hp; exact hd9) hlas (R9.keep _ _ (G9.mono _ _ FMap.add_self)) hBla
    · rcases G15.newB a o e with h | h | h
      · exact S.newB a o h
      · exact .inr (hφs a h)
      · refine .inr ?_
        cases q : s.heap.get? a with
        | none => rfl
        | some o => have := S.keeps _ _ q; have h' : h₂.get? a = none := h; rw [h'] at this; cases this
    · have ha2 := S.keeps _ _ e
      have haφ : a ∉ φ := fun q => by have := hφs a q; rw [e] at this; cases this
      have ha5 : a ∉ φ5 := fun q => by
        rcases G15.new _ q with h | h
        · exact haφ h
        · have h' : h₂.get? a = none := h; rw [h'] at ha2; cases ha2
      exact G79.frame _ _ ha5 (hk6' _ _ h1 h2 (G15.frame _ _ haφ ha2))
end
end Mine
end
section
set_option Elab.async false
set_option linter.all false
set_option linter.unusedSimpArgs false
set_option maxRecDepth 100000
namespace Mine
open PySem PyProof.Rows PySem.W PySem.Builtin
theorem Room.under {A : Around} {d : Nat} (h : Room A (d + 1)) (C : Addr) (vals : List Value) : Room (A.under (.builtin "type.__call__" ⟨.ref C :: vals, []⟩)) d := by
  obtain ⟨h1, h2, h3⟩ := h
  refine ⟨h1, ?_, ?_⟩
  · rw [depth_under_make]; omega
  · rw [units_under_make]; omega
section
variable {prog : Program} {w : World} {A : Around} {g : Gr} {sc : SC} {ξ : List AV} {env : Env} {mg mb : Str → Option Value} {c N : Addr} {mN : Str → Option Value}
theorem ev_tnew {fa : Addr} {o : Obj} {fd : FuncData} {P : Nat → Pos} {rs bd : List Stmt} {d : Nat} (F : Fn0 g.hb fa fdInit (bodyInit P rs bd) o fd) (T : TopOk g.hb mg mb) (X : ClsAt g.hb c N mN) (hdN : mN hdrName = none) (hsa : mN "__setattr__" = none)
    (hin : mN "__init__" = some (.ref fa)) (hfc : o.cls = .type "function")
    (ht : mg (Str.ofString "type") = none ∧ mb (Str.ofString "type") = some (.type "type")) (hl : mg (Str.ofString "list") = none ∧ mb (Str.ofString "list") = some (.type "list"))
    (hbind : ∀ (a : Value) (s : Shared), (∀ a o, g.hb.get? a = some o → s.heap.get? a = some o) → BindsTo s fd ⟨[a], []⟩ (fdInit.params.zip [a, .none]))
    (hA : Room A (d + 2)) {x : Str} {pn p : Pos} {H : Hp} (hm : mg x = some (.ref c)) (hx : sc.names.lookup x = some .globalImplicit) (hd : (x == ("__debug__" : Str)) = false) :
    Ev prog w A g sc ξ env (eval (.Call (.Name x pn) [] [] p) env) H (.tab c H.length) (H ++ [.list []]) := fun B φ s Q E R Er k => by
  refine Call_names PlainL.nil (name_global T R Er hx hm ?_ hd)
  refine callWith_clsA (args := []) X rfl (PySem.evalArgs_none ⟨rfl, R.hbk, ?_⟩)
  obtain ⟨h0, gens, drawn, toks, os⟩ := s
  obtain ⟨nm, q, bs, sn, sub, col, dd, k0, k1, k2, k3, k5, hC⟩ := X.obj
  refine wpAny_call_obj_init PySem.F.objNew (R.hbk _ _ hC) (X.ns.keeps R.hbk) hin (R.hbk _ _ F.get) hfc fun h' x dx Mk => ?_
  have hsome : ∀ a, h0.get? a = none → ∀ o, h0.get? a ≠ some o := fun a e o e' => by rw [e] at e'; cases e'
  have I0 := Mk.inst
  obtain ⟨ox, hox, _, _, hdd⟩ := Mk.inst
  have hod := Mk.dict ox hox
  have hBx : B x = none := by
    cases q : B x with
    | none => rfl
    | some o => exact absurd (R.keep _ _ q) (hsome x Mk.newX o)
  have hBd : B dx = none := by
    cases q : B dx with
    | none => rfl
    | some o => exact absurd (R.keep _ _ q) (hsome dx Mk.newD o)
  obtain ⟨hne, od, hdl⟩ : dx ≠ x ∧ ∃ o, h'.get? dx = some o := by
    rcases hdd with ⟨hn, _⟩ | ⟨d', hd', hne, hns⟩
    · rw [hod] at hn; cases hn
    · rw [hod] at hd'; cases hd'
      obtain ⟨oo, _, _, e, _⟩ := hns
      exact ⟨hne, oo, e⟩
  refine init_ok F T X hdN hsa ht hl hbind (hA.under c []) (s := ⟨h', gens, drawn, toks, os⟩) R.base (fun a o e => Mk.keeps _ _ (R.keep a o e)) I0 hox hod hBx hBd ⟨_, hdl⟩ fun B' la ox' od' h2 tk n hm hn hB hk hx2 hd2 hdict I2 hla hlao hB'la => ⟨rfl, ?_⟩
  have hla0 : h0.get? la = none := by
    cases q : h0.get? la with
    | none => rfl
    | some o => have := Mk.keeps _ _ q; have h'' : h'.get? la = none := hla; rw [h''] at this; cases this
  have hlax : la ≠ x := by rintro rfl; have h'' : h'.get? la = none := hla; rw [hox] at h''; cases h''
  have hlad : la ≠ dx := by rintro rfl; have h'' : h'.get? la = none := hla; rw [hdl] at h''; cases h''
  let B2 := (B'.add x ox').add dx od'
  have hB2x : B2 x = some ox' := by simp [B2, FMap.add, Ne.symm hne]
  have hB2d : B2 dx = some od' := by simp [B2, FMap.add]
  have hB2 : ∀ a, a ≠ x → a ≠ dx → B2 a = B' a := fun a h1 h2 => by simp [B2, FMap.add, h1, h2]
  have hxn : ∀ a o, h0.get? a = some o → a ≠ x := fun a o e => by rintro rfl; exact hsome _ Mk.newX o e
  have hdn : ∀ a o, h0.get? a = some o → a ≠ dx := fun a o e => by rintro rfl; exact hsome _ Mk.newD o e
  have mono : ∀ a o, B a = some o → B2 a = some o := fun a o e => by
    rw [hB2 a (hxn a o (R.keep _ _ e)) (hdn a o (R.keep _ _ e))]; exact hm _ _ e
  have hlaφ : la ∉ φ := fun hm => by obtain ⟨o, e⟩ := R.alive la hm; exact hsome la hla0 o e
  have keeps : ∀ a o, h0.get? a = some o → h2.get? a = some o := fun a o e => hk a o (hxn a o e) (hdn a o e) (Mk.keeps _ _ e)
  have hlen : (φ ++ [la])[H.length]? = some la := by rw [← R.len]; simp
  refine k B2 (φ ++ [la]) (.ref x) h2 tk ⟨List.prefix_append _ _, fun a ha => ?_, mono, fun a o e => ?_, fun a o _ e => keeps a o e⟩
    ⟨fun a o e => mono _ _ (R.base a o e), R.dup, fun a o e => ?_, by simp [R.len], ?_, fun j a z e1 e2 hz => ?_, fun a ha => ?_, fun j a z e1 e2 => ?_⟩ ?_
  · rcases List.mem_append.mp ha with h | h
    · exact .inl h
    · simp at h; subst h; exact .inr hla0
  · by_cases h1 : a = x
    · subst h1; exact .inr (.inr Mk.newX)
    · by_cases h2' : a = dx
      · subst h2'; exact .inr (.inr Mk.newD)
      · rw [hB2 a h1 h2'] at e
        rcases hn a o e with h | h
        · exact .inl h
        · refine .inr (.inr ?_)
          cases q : h0.get? a with
          | none => rfl
          | some o => have := Mk.keeps _ _ q; have h'' : h'.get? a = none := h; rw [h''] at this; cases this
  · by_cases h1 : a = x
    · subst h1; rw [hB2x] at e; cases e; exact hx2
    · by_cases h2' : a = dx
      · subst h2'; rw [hB2d] at e; cases e; exact hd2
      · rw [hB2 a h1 h2'] at e; exact hB _ _ e
  · rw [List.nodup_append]
    exact ⟨R.nodup, by simp, fun b hb' c hc => by simp at hc; subst hc; rintro rfl; exact hlaφ hb'⟩
  · by_cases hj : j < φ.length
    · rw [List.getElem?_append_left hj] at e1
      rw [List.getElem?_append_left (by rw [← R.len]; exact hj)] at e2
      obtain ⟨oa, hoa⟩ := R.alive a (List.mem_of_getElem? e1)
      rw [hB2 a (hxn a oa hoa) (hdn a oa hoa)]
      cases q : B' a with
      | none => rfl
      | some o =>
        rcases hn a o q with h | h
        · rw [R.out j a z e1 e2 hz] at h; cases h
        · have := Mk.keeps _ _ hoa; have h'' : h'.get? a = none := h; rw [h''] at this; cases this
    · rw [List.getElem?_append_right (Nat.not_lt.mp hj)] at e1
      have : a = la := by simpa using List.mem_of_getElem? e1
      subst this
      rw [hB2 a hlax hlad]; exact hB'la
  · rcases List.mem_append.mp ha with h | h
    · obtain ⟨o, e⟩ := R.alive a h; exact ⟨o, keeps _ _ e⟩
    · simp at h; subst h; exact ⟨_, hlao⟩
  · by_cases hj : j < φ.length
    · rw [List.getElem?_append_left hj] at e1
      rw [List.getElem?_append_left (by rw [← R.len]; exact hj)] at e2
      exact (R.obj j a z e1 e2).mono mono (List.prefix_append _ _) fun o e => keeps _ _ e
    · rw [List.getElem?_append_right (Nat.not_lt.mp hj)] at e1
      rw [List.getElem?_append_right (by rw [← R.len]; exact Nat.not_lt.mp hj)] at e2
      have h1 : a = la := by simpa using List.mem_of_getElem? e1
      have h2 : z = .list [] := by simpa using List.mem_of_getElem? e2
      subst h1 h2
      exact ⟨[], n, hlao, VRs.nil⟩
  · simp only [VR]
    exact ⟨x, la, rfl, hlen, dx, ox', od', hB2x, hB2d, fun h e1 e2 => inst_at I2 hx2 hdict e1 fun p hp => by rw [hd2] at hp; cases hp; exact e2⟩
end
end Mine
end
section
set_option Elab.async false
set_option linter.all false
set_option linter.unusedSimpArgs false
set_option maxRecDepth 100000
namespace Mine
open PySem PyProof.Rows PySem.W PySem.Builtin
section
variable {prog : Program} {w : World} {A : Around} {g : Gr} {sc : SC} {ξ : List AV} {env : Env} {mg mb : Str → Option Value} {c : Addr} {mN : Str → Option Value}
noncomputable def EvF (B0 : FMap) (prog : Program) (w : World) (A : Around) (g : Gr) (sc : SC) (ξ : List AV) (env : Env) (t : Sem Value) (H : Hp) (v : AV) (H' : Hp) : Prop :=
  ∀ (B : FMap) (φ : List Addr) (s : Shared) (Q : Value → Shared → Prop) (E : Value → Shared → Prop), (∀ a o, B0 a = some o → B a = some o) → Rel g B φ H s.heap → EnvR sc B φ ξ env s.heap →
    (∀ B' φ' val h' tk, Grow φ B s.heap φ' B' h' → Rel g B' φ' H' h' → VR B' φ' v val → Q val { s with heap := h', toks := tk }) → wpAny (model prog w) A t Q E s
theorem evf_of {B0 : FMap} {t : Sem Value} {H : Hp} {v : AV} {H' : Hp} (h : Ev prog w A g sc ξ env t H v H') : EvF B0 prog w A g sc ξ env t H v H' := fun B φ s Q E _ R Er k => h B φ s Q E R Er k
theorem evf_conv {B0 : FMap} {ia la : Addr} (I : IsTab B0 c ia la) {o e : Expr} (he : PlainL [e]) {pa p pk pk' : Pos} {b : Bool} {d : Nat} {f : Addr} {of : Obj} {fd : FuncData} (hA : Room A d) (K : ClsOk g.hb c mN) (M : Meth g.hb mN (Str.ofString "_convert_string_type") f of fd) {x : List Nat} (hcv : ∀ sv, CallOkK prog w g.hb f d mkConv [.con sv, .str x, .bool b] (.str x))
    (hbc : Based o) (hline : (pa.endLine == p.line) = true) {H H1 H2 : Hp} (h1 : Ev prog w A g sc ξ env (eval o env) H (.con (.ref ia)) H1) (h2 : Ev prog w A g sc ξ env (eval e env) H1 (.str x) H2) :
    EvF B0 prog w A g sc ξ env (eval (.Call (.Attribute o (Str.ofString "_convert_string_type") pa) [e] [⟨some (Str.ofString "name"), .Constant (.bool b) 0 pk, pk'⟩] p) env) H (.str x) H2 := fun B φ s Q E hB R Er k =>
  wp_conv he hA K M hcv hbc hline h1 h2 (fun B1 φ1 hm => isSelf_con (I.mono fun a o e => hm _ _ (hB _ _ e))) R Er k
theorem evf_tup {B0 : FMap} {E1 E2 : Expr} {n : Nat} {p : Pos} {H H1 H2 : Hp} {v1 v2 : AV} (h1 : EvF B0 prog w A g sc ξ env (eval E1 env) H v1 H1) (h2 : EvF B0 prog w A g sc ξ env (eval E2 env) H1 v2 H2) (hs : starEach [E1, E2] env = [(false, eval E1 env), (false, eval E2 env)]) :
    EvF B0 prog w A g sc ξ env (eval (.Tuple [E1, E2] n p) env) H (.tup [v1, v2]) H2 := fun B φ s Q E hB R Er k => by
  refine Tuple_ ?_
  rw [hs]
  show wpAny _ _ (spliced [(false, eval E1 env), (false, eval E2 env)]) _ _ _
  refine Calls.spliced_cons (h1 B φ s _ _ hB R Er fun B1 φ1 va h1' tk1 G1 R1 V1 => Calls.spliced_cons (h2 B1 φ1 _ _ _ (fun a o e => G1.mono _ _ (hB _ _ e)) R1 (Er.grow G1) fun B2 φ2 vb h2' tk2 G2 R2 V2 => Calls.spliced_nil ?_))
  refine wpAny_newTuple ?_ (small_size (show small 2 = true from rfl))
  have T : Then g B2 φ2 H2 (.tup [v1, v2]) Q { s with heap := h2', toks := tk2 } := fun B' val h' tk G R V => k _ _ _ _ _ (G1.trans (G2.trans G)) R V
  exact T.tuple R2 (VRs.cons (G2.vr V1) (VRs.single V2)) (n := 0) tk2 (fresh_none _) (push_keeps _ _) (Heap.get?_push_size _ rfl)
theorem tabL_app (its : Its) (p : List Nat × List Nat) : tabL (its ++ [p]) = tabL its ++ [.tup [.str p.1, .str p.2]] := by simp [tabL]
theorem vr_row {B : FMap} {φ : List Addr} {a b : List Nat} {v : Value} (h : VR B φ (.tup [.str a, .str b]) v) : VR B [] (.tup [.str a, .str b]) v := VR.pure rfl h
theorem wp_happ {E1 E2 : Expr} {B0 : FMap} {x : Str} {po pa pb pt pc pd : Pos} {nt : Nat} (K : ClsOk g.hb c mN) {ia la : Addr} (I : IsTab B0 c ia la) (hline : (pb.endLine == pc.line) = true) {H : Hp} {nm v : List Nat}
    (hself : Ev prog w A g sc [] env (eval (.Name x po) env) H (.con (.ref ia)) H) (hE1 : EvF B0 prog w A g sc [] env (eval E1 env) H (.str nm) H) (hE2 : EvF B0 prog w A g sc [] env (eval E2 env) H (.str v) H)
    (hs : starEach [E1, E2] env = [(false, eval E1 env), (false, eval E2 env)])
    {B : FMap} {φ : List Addr} {s : Shared} {Q : Flow → Shared → Prop} {E : Value → Shared → Prop} (hB : ∀ a o, B0 a = some o → B a = some o) (R : Rel g B φ H s.heap) (Er : EnvR sc B φ [] env s.heap) (bs : Beside B φ s.heap la) {ws : List Value} {n : Nat} {its : Its} (hla : s.heap.get? la = some (lstObj ws n)) (rv : VRs B [] (tabL its) ws) (hz : okIts its = true)
    (k : ∀ (B' : FMap) (φ' : List Addr) (h1 h' : Heap) (tk : Nat) (ws' : List Value) (n' : Nat), Grow φ B s.heap φ' B' h1 → Rel g B' φ' H h1 → (∀ a o, a ≠ la → h1.get? a = some o → h'.get? a = some o) → h'.get? la = some (lstObj ws' n') → VRs B' [] (tabL (its ++ [(nm, v)])) ws' → Q .next { s with heap := h', toks := tk }) :
    wpAny (model prog w) A (exec (.Expr (.Call (.Attribute (.Attribute (.Name x po) hdrName pa) (Str.ofString "append") pb) [.Tuple [E1, E2] nt pt] [] pc) pd) env) Q E s := by
  refine wpAny_Expr ?_ (by simp [interactive, Er.kind]) rfl
  refine wpAny_Call_method_lateS rfl (by simp [methodCallForm, backTo, backToKw, starEach, keywordEach]) hline (wp_hdrC (i := 0) K hself (I.mono hB) R Er fun B1 φ1 h1' tk1 G1 R1 => ?_)
  have bs1 := bs.grow G1
  have hla1 : h1'.get? la = some (lstObj ws n) := G1.frame _ _ bs.off hla
  show MethodOnS prog w A E _ (.ref la) pc [(false, eval (.Tuple [E1, E2] nt pt) env)] _ _
  refine list_method (s := { s with heap := h1', toks := tk1 }) hla1 PySem.F.slot_list_append PySem.F.type_list_append (PySem.P.append_list ?_)
  refine evf_tup hE1 hE2 hs B1 φ1 _ _ _ (fun a o e => G1.mono _ _ (hB _ _ e)) R1 (Er.grow G1) fun B2 φ2 val h2 tk2 G2 R2 V2 => ?_
  have G12 := G1.trans G2
  have hla2 : h2.get? la = some (lstObj ws n) := G2.frame _ _ bs1.off hla1
  have hl := rv.length
  refine ⟨ws.toArray, n, by simpa [hl] using small_size (okIts_small hz), hla2, ?_⟩
  obtain ⟨⟨n', u1⟩, u2⟩ := upd_list hla2 (fun a => a.push val) (ws ++ [val]) (by simp)
  refine k B2 φ2 h2 _ tk2 (ws ++ [val]) n' G12 R2 u2 u1 ?_
  rw [tabL_app]
  exact (VRs.mono (fun a o e => G12.mono _ _ e) (List.prefix_refl _) rv).append (VRs.single (vr_row V2))
end
section
variable {prog : Program} {w : World} {hb : Heap} {mg mb : Str → Option Value} {c : Addr}
theorem meth_rw {PB : Shared → FMap → Prop} {f : Fd} {fa : Addr} {body : List Stmt} {o : Obj} {fd : FuncData} (F : Fn0 hb fa f body o fd) (T : TopOk hb mg mb) {d : Nat} {xs ys vs : List AV} {vs' : Shared → List AV} {v : AV} (hv : v.pure = true)
    (hbind : ∀ (A : Around) (B : FMap) (s : Shared) (E : Value → Shared → Prop) (ia : Addr) (vals : List Value), (∀ a o, hb.get? a = some o → B a = some o) → (∀ a o, B a = some o → s.heap.get? a = some o) → VRs B [] vs vals → wpAny (model prog w) A (bindArgs fd ⟨.ref ia :: vals, []⟩) (BindPostP (PB s) f (.con (.ref ia) :: vs' s) [] B s) E s)
    (hbody : ∀ (A : Around) (env : Env) (B : FMap) (φ : List Addr) (s0 s : Shared) (ia la : Addr) (ws : List Value) (n : Nat) (Q : Flow → Shared → Prop) (E : Value → Shared → Prop), Room A d → PB s0 B → (∀ a o, hb.get? a = some o → s0.heap.get? a = some o) → (∀ a o, s0.heap.get? a = some o → s.heap.get? a = some o) → Rel ⟨hb, f.locs⟩ B φ (f.init (.con (.ref ia) :: vs' s0)) s.heap → EnvR f.sc B φ [] env s.heap → IsTab B c ia la → Beside B φ s.heap la →
      s.heap.get? la = some (lstObj ws n) → VRs B [] xs ws → (∀ (B' : FMap) (φ' : List Addr) (fl : Flow) (h1 h' : Heap) (tk : Nat) (H' : Hp) (ws' : List Value) (n' : Nat), Grow φ B s.heap φ' B' h1 → Rel ⟨hb, f.locs⟩ B' φ' H' h1 → (∀ a o, a ≠ la → h1.get? a = some o → h'.get? a = some o) → h'.get? la = some (lstObj ws' n') → VRs B' [] ys ws' → VR B' φ' v (match fl with | .ret u => u | _ => .none) → Q fl { s with heap := h', toks := tk }) → wpAny (model prog w) A (execs body env) Q E s) :
    MethOk prog w hb c fa (d + 1) xs vs v ys := by
  intro A hA B s Q E ia la ws n vals hbB hBs I hBla hla rv V k
  refine wpAny_call (frame_runP (PB := PB s) F T hA (φ0 := []) (H0 := []) (vs := .con (.ref ia) :: vs' s) hbB hBs rfl List.nodup_nil (by simp) (by simp) (hbind _ B s _ ia vals hbB hBs V) fun env B₁ φ h₂ tk₂ EE hPB S => ?_)
  have S1 : Rel ⟨hb, f.locs⟩ B₁ φ (f.init (.con (.ref ia) :: vs' s)) h₂ := by simpa using S.rel
  have hφs : ∀ a ∈ φ, s.heap.get? a = none := fun a ha => by
    rcases S.new a ha with h | h
    · simp at h
    · exact h
  have bs : Beside B₁ φ h₂ la := by
    refine ⟨⟨_, S.keeps _ _ hla⟩, fun hm => ?_, ?_⟩
    · rw [hφs la hm] at hla; cases hla
    · cases q : B₁ la with
      | none => rfl
      | some o =>
        rcases S.newB la o q with h1 | h1
        · rw [hBla] at h1; cases h1
        · rw [h1] at hla; cases hla
  refine hbody _ env B₁ φ s { s with heap := h₂, toks := tk₂ } ia la ws n _ _ (hA.deeper env) hPB (fun a o e => hBs _ _ (hbB _ _ e)) S.keeps S1 S.env (I.mono S.mono) bs (S.keeps _ _ hla) (VRs.mono S.mono (List.prefix_refl _) rv) fun B' φ' fl' h1 h' tk H' ws' n' G R' hk hla' rv' V' => ?_
  have bs' := bs.grow G
  refine k B' _ h' tk ws' n' (fun a o e => G.mono _ _ (S.mono _ _ e)) (fun a o e => ?_) (fun a o e => hk _ _ (by rintro rfl; rw [bs'.no] at e; cases e) (R'.keep _ _ e)) (fun a o ha e => ?_) hla' rv' (VR.pure hv V')
  · rcases G.newB a o e with h | h | h
    · exact S.newB a o h
    · exact .inr (hφs a h)
    · refine .inr ?_
      cases q : s.heap.get? a with
      | none => rfl
      | some o =>
        have := S.keeps _ _ q
        have h' : h₂.get? a = none := h
        rw [h'] at this; cases this
  · refine hk _ _ ha (G.frame a o (fun hm => ?_) (S.keeps _ _ e))
    rw [hφs a hm] at e; cases e
end
end Mine
end
section
set_option Elab.async false
set_option linter.all false
set_option linter.unusedSimpArgs false
set_option maxRecDepth 100000
namespace Mine
open PySem PyProof.Rows PySem.W PySem.Builtin
noncomputable def fdAdd : Fd where
  params := [Str.ofString "self", Str.ofString "_name", Str.ofString "_value", Str.ofString "_params"]
  locs := [Str.ofString "self", Str.ofString "_name", Str.ofString "_value", Str.ofString "_params", Str.ofString "parts", Str.ofString "k", Str.ofString "v"]
  names := [(Str.ofString "self", .local), (Str.ofString "_name", .local), (Str.ofString "_value", .local), (Str.ofString "_params", .local), (Str.ofString "parts", .local), (Str.ofString "k", .local), (Str.ofString "v", .local), (Str.ofString "_formatparam", .globalImplicit)]
  body := []
noncomputable def aS1 (P : Nat → Pos) : Stmt := .Assign [.Name (Str.ofString "parts") (P 0)] (.List [] (P 1)) (P 2)
noncomputable def aT1 (P : Nat → Pos) : Expr := .Compare (.Name (Str.ofString "_value") (P 3)) [.IsNot] [.Constant .none 0 (P 4)] (P 5)
noncomputable def aS2 (P : Nat → Pos) : Stmt := .Expr (.Call (.Attribute (.Name (Str.ofString "parts") (P 16)) (Str.ofString "append") (P 18)) [.Name (Str.ofString "_value") (P 17)] [] (P 19)) (P 20)
noncomputable def aE2 (P : Nat → Pos) : Expr := .Call (.Attribute (.Constant (.str (Str.ofString "; ")) 0 (P 40)) (Str.ofString "join") (P 42)) [.Name (Str.ofString "parts") (P 41)] [] (P 43)
noncomputable def callConv (p : Nat → Pos) (i : Nat) (x : Str) (b : Bool) : Expr := .Call (.Attribute (.Name (Str.ofString "self") (p i)) (Str.ofString "_convert_string_type") (p (i + 1))) [.Name x (p (i + 2))] [⟨some (Str.ofString "name"), .Constant (.bool b) 0 (p (i + 3)), p (i + 4)⟩] (p (i + 5))
noncomputable def bodyAdd (P : Nat → Pos) (bd : List Stmt) : List Stmt :=
  [aS1 P,
   .If (aT1 P) [
     .Assign [.Name (Str.ofString "_value") (P 6)] (callConv P 7 (Str.ofString "_value") false) (P 13),
     aS2 P] [] (P 21),
   .For (.Tuple [.Name (Str.ofString "k") (P 22), .Name (Str.ofString "v") (P 23)] 0 (P 24)) (.Call (.Attribute (.Name (Str.ofString "_params") (P 25)) (Str.ofString "items") (P 26)) [] [] (P 27)) bd [] (P 28),
   .Expr (.Call (.Attribute (.Attribute (.Name (Str.ofString "self") (P 29)) hdrName (P 30)) (Str.ofString "append") (P 31)) [.Tuple [callConv P 32 (Str.ofString "_name") true, aE2 P] 0 (P 44)] [] (P 45)) (P 46)]
noncomputable def dict0 : Obj := { cls := .type "dict", data := .dict #[] }
section
variable {prog : Program} {w : World} {hb : Heap} {mg mb : Str → Option Value} {c : Addr} {mN : Str → Option Value}
theorem dict0_at {h : Heap} {a : Addr} (e : h.get? a = some dict0) : h.DictAt (strKind prog w) a [] 0 := by
  refine ⟨dict0, #[], e, ⟨rfl, rfl, rfl⟩, rfl, ?_, .nil, List.nodup_nil⟩
  intro e he
  simp at he
theorem add_ok {fa : Addr} {o : Obj} {fd : FuncData} {P : Nat → Pos} {bd : List Stmt} {d : Nat} (F : Fn0 hb fa fdAdd (bodyAdd P bd) o fd) (K : Base prog w hb mg mb c mN d) (hl1 : posOk (P 8) (P 12) = true) (hl2 : posOk (P 18) (P 19) = true) (hl3 : posOk (P 26) (P 27) = true) (hl4 : posOk (P 31) (P 45) = true) (hl5 : posOk (P 33) (P 37) = true) (hl6 : posOk (P 42) (P 43) = true)
    (hbind : ∀ a b c : Value, bindArgs fd ⟨[a, b, c], []⟩ = (alloc dict0 >>= fun D => pure (fdAdd.params.zip [a, b, c, .ref D]))) {its : Its} {nm v : List Nat} (hi : okIts its = true) (hn : okS nm = true) (hv : okS v = true) :
    MethOk prog w hb c fa (d + 1) (tabL its) [.str nm, .str v] .none (tabL (its ++ [(nm, v)])) := by
  obtain ⟨f, of, fdc, M, hcv⟩ := K.conv
  refine meth_rw (PB := fun s B => B s.heap.objs.size = some dict0) (vs' := fun s => [.str nm, .str v, .con (.ref s.heap.objs.size)]) F K.top rfl (fun A B s E ia vals hbB hBs V => ?_) fun A env B φ s0 s ia la ws n Q E hA hPB hb0 hs0 R0 Er I bs hla rv k => ?_
  · simp only [VRs] at V
    obtain ⟨v1, _, rfl, V1, v2, _, rfl, V2, rfl⟩ := V
    rw [hbind]
    have hfn := fresh_none s.heap
    have hBn : B s.heap.objs.size = none := by
      cases q : B s.heap.objs.size with
      | none => rfl
      | some o => have := hBs _ _ q; rw [hfn] at this; cases this
    refine wpAny_bind (wpAny_alloc (wpAny_pure ⟨[.ref ia, v1, v2, .ref s.heap.objs.size], s.heap.push dict0, s.toks, B.add s.heap.objs.size dict0, FMap.add_self, rfl, rfl, push_keeps _ _, FMap.add_mono (.inl hBn), fun a o e => ?_, fun a o e => ?_, fun ψ _ => ?_⟩))
    · unfold FMap.add at e
      by_cases ha : a = s.heap.objs.size
      · subst ha; exact .inr hfn
      · simp [ha] at e; exact .inl e
    · unfold FMap.add at e
      by_cases ha : a = s.heap.objs.size
      · subst ha; simp at e; subst e; exact Heap.get?_push_size _ rfl
      · simp [ha] at e; exact push_keeps _ _ a o (hBs _ _ e)
    · exact VRs.cons (by simp [VR]) (VRs.cons (VR.mono (FMap.add_mono (.inl hBn)) List.nil_prefix V1) (VRs.cons (VR.mono (FMap.add_mono (.inl hBn)) List.nil_prefix V2) (VRs.cons (by simp [VR]) VRs.nil)))
  let g : Gr := ⟨hb, fdAdd.locs⟩
  generalize hpd : s0.heap.objs.size = pd at R0 hPB
  have R : Rel g B φ [.ns [some (.con (.ref ia)), some (.str nm), some (.str v), some (.con (.ref pd)), none, none, none]] s.heap := R0
  have X' : Cx prog w A g nO nC nD := ⟨hA.fine, ⟨_, _, K.top⟩, nOrac⟩
  have c1 : SX prog w A g fdAdd.sc (aS1 P) (sAsg (.loc 4) (oLstM oNil)) := cs_asg rfl (by kernel_rfl) (c_lstM cl_nil) (fun _ => rfl)
  have cT : SB prog w A g fdAdd.sc (aT1 P) (tCmp .IsNot (oLoc 2) (oK .none)) := cb_cmp X' (c_loc (by kernel_rfl)) (c_k rfl)
  have c2 : SX prog w A g fdAdd.sc (aS2 P) (sExp (oApp (oLoc 4) (oLoc 2))) := cs_exp (c_app (fun _ _ _ => rfl) hl2 (c_loc (by kernel_rfl)) (c_loc (by kernel_rfl))) (fun _ => rfl)
  refine wpAny_execs_cons (c1.ev (H := [.ns [some (.con (.ref ia)), some (.str nm), some (.str v), some (.con (.ref pd)), none, none, none]]) (fl := .next) (H' := [.ns [some (.con (.ref ia)), some (.str nm), some (.str v), some (.con (.ref pd)), some (.ref 1), none, none], .list []]) (by rfl) B φ s _ _ R Er fun B2 φ2 fl2 h2 tk2 G2 R2 F2 => ?_)
  have hfl : fl2 = .next := F2
  subst hfl
  have Er2 := Er.grow G2
  refine wpAny_execs_cons (wpAny_If (cT.ev (ξ := []) (H := [.ns [some (.con (.ref ia)), some (.str nm), some (.str v), some (.con (.ref pd)), some (.ref 1), none, none], .list []]) (b := true) (H' := [.ns [some (.con (.ref ia)), some (.str nm), some (.str v), some (.con (.ref pd)), some (.ref 1), none, none], .list []]) (by rfl) B2 φ2 { s with heap := h2, toks := tk2 } _ _ R2 Er2 fun B3 φ3 h3 tk3 G3 R3 => ?_))
  have G13 := G2.trans G3
  have Er3 := Er2.grow G3
  have eS : ∀ (q : Pos) (H : Hp), getLoc H 0 = some (.con (.ref ia)) → Ev prog w A g fdAdd.sc [] env (eval (.Name (Str.ofString "self") q) env) H (.con (.ref ia)) H := fun q H h => ev_loc (i := 0) h rfl rfl (by decide) (by decide)
  refine wpAny_execs_cons (wpAny_Assign_Name (wp_conv (g := g) (sc := fdAdd.sc) (ξ := []) (PlainL.one plain_name) (b := false) (x := v) hA K.cls M (fun sv => hcv sv false _ hv) (fun _ _ _ => rfl) hl1 (eS _ _ rfl) (ev_loc (i := 2) rfl rfl rfl (by decide) (by decide)) (fun B1 φ1 hm => isSelf_con (I.mono fun a o e => hm _ _ (G13.mono _ _ e))) R3 Er3 fun B4 φ4 val h4 tk4 G4 R4 V4 => ?_) rfl)
  refine as_loc (prog := prog) (w := w) (A := A) (g := g) (sc := fdAdd.sc) (i := 2) (v := .str v) (H' := [.ns [some (.con (.ref ia)), some (.str nm), some (.str v), some (.con (.ref pd)), some (.ref 1), none, none], .list []]) rfl rfl rfl (by decide) B4 φ4 _ _ _ val R4 (Er3.grow G4) V4 fun B5 φ5 h5 tk5 G5 R5 => ?_
  have G15 := G13.trans (G4.trans G5)
  have Er5 := (Er3.grow G4).grow G5
  refine wpAny_execs_cons (c2.ev (H := [.ns [some (.con (.ref ia)), some (.str nm), some (.str v), some (.con (.ref pd)), some (.ref 1), none, none], .list []]) (fl := .next) (H' := [.ns [some (.con (.ref ia)), some (.str nm), some (.str v), some (.con (.ref pd)), some (.ref 1), none, none], .list [.str v]]) (by rfl) B5 φ5 { s with heap := h5, toks := tk5 } _ _ R5 Er5 fun B6 φ6 fl6 h6 tk6 G6 R6 F6 => ?_)
  have hfl : fl6 = .next := F6
  subst hfl
  refine wpAny_execs_nil ?_
  have G16 := G15.trans G6
  have Er6 := Er5.grow G6
  have hpdB : B6 pd = some dict0 := G16.mono _ _ hPB
  have hL := Er6.loc
  rw [if_pos (by rfl)] at hL
  obtain ⟨m, hm, hmv⟩ := R6.obj 0 _ _ hL rfl
  have hpdL : pd ≠ env.locals := fun q => by
    have := R6.out 0 _ _ hL rfl rfl
    rw [← q, hpdB] at this; cases this
  have hpdS : (pd == sysModules) = false := by
    rw [← hpd]
    have := modules_low (K.top.lim.keeps hb0)
    simp
    exact Nat.ne_of_gt this
  refine wpAny_execs_cons (wpAny_noRaise (wpAny_For_items_locals (knd := strKind prog w) (kvs := []) (ep := 0) (m := m) (s := { s with heap := h6, toks := tk6 }) hA.1 (by show env.scope.names.lookup _ = _; rw [Er6.names]; decide) (by show env.scope.names.lookup _ = _; rw [Er6.names]; decide) (by rw [Er6.kind]; rfl) hpdL hpdS (dict0_at (R6.keep _ _ hpdB)) hm rfl hl3 (fun Q' hq => ?_) (fun _ m' => m' = m) rfl (fun i k v key m₁ s₁ e => by simp at e) (fun h7 tk7 m' hn7 hJ7 hk7 => ?_) (fun _ => rfl) PassesOwn.never))
  · exact wpAny_Name (wpAny_loadName_local Er6.kind (by show env.scope.names.lookup _ = _; rw [Er6.names]; decide) hm (by obtain ⟨val, e1, e2⟩ := hmv 3 _ _ rfl rfl; simp only [VR] at e2; subst e2; exact e1) hq) (by decide)
  subst hJ7
  have R7 : Rel g B6 φ6 [.ns [some (.con (.ref ia)), some (.str nm), some (.str v), some (.con (.ref pd)), some (.ref 1), none, none], .list [.str v]] h7 := R6.set (k := 0) hL ⟨_, rfl, rfl⟩ hk7 (by obtain ⟨o, _, _, ho, _⟩ := hn7; exact ⟨o, ho⟩) ⟨_, hn7, hmv⟩
  have G7 : Grow φ6 B6 h6 φ6 B6 h7 := Grow.set hL hk7
  have G17 := G16.trans G7
  have Er7 := Er6.grow G7
  have bs7 := bs.grow G17
  have hla7 : h7.get? la = some (lstObj ws n) := G17.frame _ _ bs.off hla
  have eJ : Ev prog w A g fdAdd.sc [] env (eval (aE2 P) env) [.ns [some (.con (.ref ia)), some (.str nm), some (.str v), some (.con (.ref pd)), some (.ref 1), none, none], .list [.str v]] (.str v) [.ns [some (.con (.ref ia)), some (.str nm), some (.str v), some (.con (.ref pd)), some (.ref 1), none, none], .list [.str v]] :=
    ev_join (PlainL.one plain_name) (v := .ref 1) (xs := [.str v]) (ts := [v]) (x := [59, 32]) (fun _ _ _ => rfl) hl6 (ev_k (by rfl)) (ev_loc (i := 4) rfl rfl rfl (by decide) (by decide)) rfl rfl (okS_small hv) (by decide)
  refine wpAny_execs_cons (wp_happ (g := g) (sc := fdAdd.sc) (B0 := B) (x := Str.ofString "self") (E1 := callConv P 32 (Str.ofString "_name") true) (E2 := aE2 P) (nm := nm) (v := v) (its := its) K.cls I hl4 (eS _ _ rfl)
    (evf_conv I (PlainL.one plain_name) hA K.cls M (fun sv => hcv sv true _ hn) (fun _ _ _ => rfl) hl5 (eS _ _ rfl) (ev_loc (i := 1) rfl rfl rfl (by decide) (by decide))) (evf_of eJ) rfl G17.mono R7 Er7 bs7 hla7 (VRs.mono G17.mono (List.prefix_refl _) rv) hi fun B8 φ8 h8 h9 tk9 ws9 n9 G8 R8 hk8 hla9 rv9 => wpAny_execs_nil ?_)
  exact k B8 φ8 _ h8 h9 tk9 _ ws9 n9 (G17.trans G8) R8 hk8 hla9 rv9 (by simp [VR])
end
end Mine
end
section
set_option Elab.async false
set_option linter.all false
set_option linter.unusedSimpArgs false
set_option maxRecDepth 100000
namespace Mine
open PySem PyProof.Rows PySem.W PySem.Builtin
section
variable {prog : Program} {w : World} {A : Around} {g : Gr} {sc : SC} {ξ : List AV} {env : Env} {mg mb : Str → Option Value} {c : Addr} {mN : Str → Option Value} {d : Nat}
theorem atab_eq {c : Addr} {H : Hp} {a : AV} {l : Nat} {xs : List AV} (h : atab c H a = some (l, xs)) : a = .tab c l ∧ H[l]? = some (.list xs) ∧ AV.pures xs = true := by
  obtain ⟨p, ep, h1⟩ := bind_inv h
  obtain ⟨ys, ey, h2⟩ := bind_inv h1
  obtain ⟨hp, h3⟩ := gd_inv h2
  cases h3
  have hp := (Bool.and_eq_true _ _).mp hp
  have hc : p.1 = c := by simpa using hp.1
  exact ⟨by rw [tab_inv ep, hc], getList_inv ey, hp.2⟩
theorem evalArgs_unts {M : Model} {E : Value → Shared → Prop} {s : Shared} {f : Value} {es : List Expr} {Q : Args → Shared → Prop} (h : wpAny M A (spliced (es.map fun e => (false, eval e env))) (fun vs s' => Q ⟨vs, []⟩ s') E s) : wpAny M A (evalArgs f true (es.map fun e => (false, eval e env)) []) Q E s := by
  cases es with
  | cons e r => exact Calls.evalArgs_plain h
  | nil =>
    unfold evalArgs
    show wpAny M A (spliced [] >>= _) Q E s
    refine wpAny_bind (wpAny_mono h (fun vs s' h' => ?_) fun _ _ x => x)
    refine wpAny_bind (wpAny_pure ?_)
    refine wpAny_holding ?_
    exact wpAny_bind (wpAny_pure (wpAny_bind (wpAny_pure (wpAny_pure h'))))
theorem ev_tcall {m : Nat} {x : Str} {fa : Addr} {of : Obj} {fd : FuncData} (K : ClsOk g.hb c mN) (M : Meth g.hb mN x fa of fd) (hA : Room A d) {o : Expr} {es : List Expr} (hpl : PlainL es) {pa p : Pos} {H H1 H2 : Hp} {vs xs ys : List AV} {a v : AV} {l : Nat} (hb : Based o) (hl : (pa.endLine == p.line) = true) (hn : es.length < 5)
    (h1 : Ev prog w A g sc ξ env (eval o env) H a H1) (h2 : EvL prog w A g sc ξ env (spliced (es.map fun e => (false, eval e env))) H1 vs H2) (hp : AV.pures vs = true) (h0 : ∃ q, atab c H1 a = some q) (ht : atab c H2 a = some (l, xs)) (hm : MethOk prog w g.hb c fa d xs vs v ys) :
    Ev prog w A g sc ξ env (eval (.Call (.Attribute o x pa) es [] p) env) H v (H2.set l (.list ys)) := fun B φ s Q E R Er k => by
  obtain ⟨rfl, e2, hpx⟩ := atab_eq ht
  refine own_call (f := fa) (of := of) (fd := fd) M.data (hb _ _ _) (method_few hpl env p hn) hl (h1 B φ s _ _ R Er fun B1 φ1 va h1' tk1 G1 R1 V1 => ?_)
  simp only [VR] at V1
  obtain ⟨ia, la, rfl, hla, I⟩ := V1
  refine ⟨ia, rfl, fun pl Q' hq => get_meth K M R1.hbk R1.keep I hq, ?_⟩
  rw [hpl.back]
  refine evalArgs_unts (h2 B1 φ1 _ _ _ R1 (Er.grow G1) fun B2 φ2 vals h2' tk2 G2 R2 V2 => ⟨R2.hbk _ _ M.get, ?_⟩)
  exact rel_meth R2 hA hm hp V2 (getElem?_prefix G2.pre hla) e2 hpx (I.mono G2.mono) fun B3 val h3 tk3 G3 R3 V3 => k _ _ _ _ _ (G1.trans (G2.trans G3)) R3 V3
theorem ev_tfun (T : TopOk g.hb mg mb) {x : Str} {fa : Addr} (N : Named g.hb mg x fa) (hA : Room A d) {o : Expr} {es : List Expr} (hpl : PlainL (o :: es)) {pn p : Pos} {H H1 H2 : Hp} {vs xs ys : List AV} {a v : AV} {l : Nat} (hx : sc.names.lookup x = some .globalImplicit) (hd : (x == ("__debug__" : Str)) = false)
    (h1 : Ev prog w A g sc ξ env (eval o env) H a H1) (h2 : EvL prog w A g sc ξ env (spliced (es.map fun e => (false, eval e env))) H1 vs H2) (hp : AV.pures vs = true) (ht : atab c H2 a = some (l, xs)) (hm : MethOk prog w g.hb c fa d xs vs v ys) :
    Ev prog w A g sc ξ env (eval (.Call (.Name x pn) (o :: es) [] p) env) H v (H2.set l (.list ys)) := fun B φ s Q E R Er k => by
  obtain ⟨rfl, e2, hpx⟩ := atab_eq ht
  obtain ⟨of, fd, ho, hfd⟩ := N.func
  refine Call_names hpl (name_global T R Er hx N.name ?_ hd)
  refine Calls.callWith_function (o := of) (fd := fd) ?_
  refine Calls.evalArgs_plain (evl_cons h1 h2 B φ s _ _ R Er fun B1 φ1 vals h1' tk1 G1 R1 V1 => ⟨⟨R1.keep _ _ (R1.base _ _ ho), hfd⟩, ?_⟩)
  simp only [VRs] at V1
  obtain ⟨va, vb, rfl, V1, V2⟩ := V1
  simp only [VR] at V1
  obtain ⟨ia, la, rfl, hla, I⟩ := V1
  exact rel_meth R1 hA hm hp V2 hla e2 hpx I fun B3 val h3 tk3 G3 R3 V3 => k _ _ _ _ _ (G1.trans G3) R3 V3
theorem ev_tlen (T : TopOk g.hb mg mb) {fa : Addr} {of : Obj} {fd : FuncData} (K : ClsOk g.hb c mN) (M : Meth g.hb mN (Str.ofString "__len__") fa of fd) (hA : Room A (d + 1)) {o : Expr} (hpl : PlainL [o]) {pn p : Pos} {H H1 : Hp} {xs ys : List AV} {a : AV} {n : Int} {l : Nat} (hx : sc.names.lookup (Str.ofString "len") = some .globalImplicit)
    (h1 : Ev prog w A g sc ξ env (eval o env) H a H1) (ht : atab c H1 a = some (l, xs)) (h0 : 0 ≤ n ∧ n < 2 ^ 63) (hm : MethOk prog w g.hb c fa d xs [] (.int n) ys) :
    Ev prog w A g sc ξ env (eval (.Call (.Name "len" pn) [o] [] p) env) H (.int n) (H1.set l (.list ys)) := fun B φ s Q E R Er k => by
  obtain ⟨rfl, e2, hpx⟩ := atab_eq ht
  refine Call_name1 (hpl env) (name_builtin T R Er hx T.len_ ?_)
  refine PySem.callWith_builtin1 (h1 B φ s _ _ R Er fun B1 φ1 va h1' tk1 G1 R1 V1 => ?_)
  simp only [VR] at V1
  obtain ⟨ia, la, rfl, hla, I⟩ := V1
  obtain ⟨nm, q, N, bs, sn, sub, ab, col, dd, k0, k1, k2, k3, k5, newId, hc, hn⟩ := K.cls
  obtain ⟨y, hy⟩ := M.obj
  obtain ⟨oi, hoi, hci, _⟩ := I.inst (s := { s with heap := h1', toks := tk1 }) R1.keep
  refine len_own (h := h1') (g := s.gens) (d := s.drawn) (t := tk1) (os := s.os) (x := ia) (C := c) (f := fa) (B := "object") ⟨oi, of, nm, q, N, bs, [.type "object"], true, sn, sub, ab, col, dd, k0, k1, k2, k3, k5, newId, mN, y, hoi, hci, R1.hbk _ _ hc, hn.keeps R1.hbk, M.name, R1.hbk _ _ M.get, M.cls, PySem.F.mro_object, hy⟩ ?_
  refine rel_meth (vals := []) R1 hA.in1 hm rfl VRs.nil hla e2 hpx I fun B3 val h3 tk3 G3 R3 V3 => ?_
  simp only [VR] at V3
  obtain ⟨t, rfl⟩ := V3
  exact ⟨n, t, rfl, h0.1, h0.2, k _ _ _ _ _ (G1.trans G3) R3 (by simp [VR])⟩
structure Behind (prog : Program) (w : World) (hb : Heap) (mg mb : Str → Option Value) (O : Oks) (C : Nat → List AV → Option AV) (D : Nat → List AV → List AV → Option (AV × List AV)) (d : Nat) : Prop where
  top : TopOk hb mg mb
  f : ∀ f x, O.f f x = true → ∃ fa, Named hb mg x fa ∧ ∀ vs v, C f vs = some v → CallOk prog w hb fa d vs v
  t : ∀ c m x, O.t c m x = true → ∃ mN fa of fd, ClsOk hb c mN ∧ Meth hb mN x fa of fd ∧ ∀ xs vs v ys, D m xs vs = some (v, ys) → MethOk prog w hb c fa d xs vs v ys
  u : ∀ c m x, O.u c m x = true → ∃ fa, Named hb mg x fa ∧ ∀ xs vs v ys, D m xs vs = some (v, ys) → MethOk prog w hb c fa d xs vs v ys
  n : ∀ c x, O.n c x = true → mg x = some (.ref c) ∧ ∃ (N : Addr) (mN : Str → Option Value) (fa : Addr) (o : Obj) (fd : FuncData) (P : Nat → Pos) (rs bd : List Stmt) (e : Nat), Fn0 hb fa fdInit (bodyInit P rs bd) o fd ∧ ClsAt hb c N mN ∧ mN hdrName = none ∧ mN "__setattr__" = none ∧ mN "__init__" = some (.ref fa) ∧ o.cls = .type "function" ∧
    (mg (Str.ofString "type") = none ∧ mb (Str.ofString "type") = some (.type "type")) ∧ (mg (Str.ofString "list") = none ∧ mb (Str.ofString "list") = some (.type "list")) ∧
    (∀ (a : Value) (s : Shared), (∀ a o, hb.get? a = some o → s.heap.get? a = some o) → BindsTo s fd ⟨[a], []⟩ (fdInit.params.zip [a, .none])) ∧ e + 2 ≤ d
  l : ∀ c m, O.l c m = true → ∃ mN fa of fd e, e + 1 ≤ d ∧ ClsOk hb c mN ∧ Meth hb mN (Str.ofString "__len__") fa of fd ∧ ∀ xs v ys, D m xs [] = some (v, ys) → ∃ n : Int, v = .int n ∧ (0 ≤ n ∧ n < 2 ^ 63) ∧ MethOk prog w hb c fa e xs [] v ys
theorem Behind.orac {hb : Heap} {locs : List Str} {O : Oks} {C : Nat → List AV → Option AV} {D : Nat → List AV → List AV → Option (AV × List AV)} (K : Behind prog w hb mg mb O C D d) (hA : Room A d) : Orac prog w A ⟨hb, locs⟩ O C D where
  f := fun hpl hs ho hx hd h1 hp e => by
    obtain ⟨fa, N, h⟩ := K.f _ _ ho
    exact ev_fcall (g := ⟨hb, locs⟩) K.top hA N hpl hx hd h1 hp (h _ _ e) hs
  t := fun hpl ho hb' hl hn h1 h2 hp h0 ht e => by
    obtain ⟨mN, fa, of, fd, k1, k2, k3⟩ := K.t _ _ _ ho
    exact ev_tcall (m := 0) (g := ⟨hb, locs⟩) k1 k2 hA hpl hb' hl hn h1 h2 hp h0 ht (k3 _ _ _ _ e)
  u := fun hpl ho hx hd h1 h2 hp ht e => by
    obtain ⟨fa, N, h⟩ := K.u _ _ _ ho
    exact ev_tfun (g := ⟨hb, locs⟩) K.top N hA hpl hx hd h1 h2 hp ht (h _ _ _ _ e)
  n := fun ho hx hd => by
    obtain ⟨hm, N, mN, fa, o, fd, P, rs, bd, e, k1, k2, k3, k4, k5, k6, k7, k8, k9, k10⟩ := K.n _ _ ho
    exact ev_tnew (g := ⟨hb, locs⟩) k1 K.top k2 k3 k4 k5 k6 k7 k8 k9 (hA.less k10) hm hx hd
  l := fun hpl ho hx h1 ht e => by
    obtain ⟨mN, fa, of, fd, e', he, k1, k2, k3⟩ := K.l _ _ ho
    obtain ⟨n, rfl, h0, hm⟩ := k3 _ _ _ e
    exact ev_tlen (g := ⟨hb, locs⟩) K.top k1 k2 (hA.less he) hpl hx h1 ht h0 hm
end
end Mine
end
section
set_option Elab.async false
set_option linter.all false
set_option maxRecDepth 100000
namespace Mine
open PySem PyProof.Rows PySem.W PySem.Builtin
structure Bed (K : Frag) (hb : Heap) (mg mb : Str → Option Value) : Prop where
  X : K.In hb
  G : hb.Ns mainGlobals mg
  B : hb.Ns builtinsNs mb
  L : hb.NoLimit
  bb : ∀ x : Str, x ≠ "__name__" → mb x = bootBuiltins x
section
variable {prog : Program} {w : World} {hb : Heap} {mg mb : Str → Option Value} {K : Frag}
theorem ns_some {h : Heap} {N : Addr} {m : Str → Option Value} {n : Str} {v : Value} (X : K.In h) (G : h.Ns N m) (e : nsIn K N n = some (some v)) : m n = some v := by
  obtain ⟨o, es, ep, ho, hd, _, hf⟩ := G
  cases hq : K.lookup N with
  | none => simp [nsIn, hq] at e
  | some ob =>
    have hob := X _ _ hq
    rw [ho] at hob; cases hob
    obtain ⟨oc, od, odt, osl⟩ := o
    cases hd
    simp only [nsIn, hq] at e
    cases hfd : es.toList.find? (·.key.isStr n) with
    | none =>
      rw [hfd] at e
      simp only at e
      split at e <;> cases e
    | some en =>
      rw [hfd] at e
      simp only [Option.some.injEq] at e
      rw [← hf n, ← e]
      show nsFind es n = _
      unfold nsFind findBy
      rw [← Array.find?_toList, hfd]
      rfl
theorem Bed.bnone (b : Bed K hb mg mb) {x : Str} (e : nsIn K mainGlobals x = some none) {v : Value} (e2 : bootBuiltins x = some v) (hx : x ≠ "__name__") : mg x = none ∧ mb x = some v := ⟨ns_none_of b.X b.G e, (b.bb x hx).trans e2⟩
theorem Bed.bsome (b : Bed K hb mg mb) {x : Str} {v : Value} (e : nsIn K mainGlobals x = some (some v)) : mg x = some v := ns_some b.X b.G e
theorem Bed.top (b : Bed K hb mg mb)
    (e : (nsIn K mainGlobals (Str.ofString "len") = some none ∧ nsIn K mainGlobals (Str.ofString "int") = some none ∧ nsIn K mainGlobals (Str.ofString "str") = some none ∧ nsIn K mainGlobals (Str.ofString "range") = some none ∧ nsIn K mainGlobals (Str.ofString "max") = some none ∧ nsIn K mainGlobals (Str.ofString "min") = some none)) : TopOk hb mg mb := by
  obtain ⟨e1, e2, e3, e4, e5, e6⟩ := e
  exact ⟨b.G, b.B, b.L, b.bnone e1 (by kernel_rfl) (by decide), b.bnone e2 (by kernel_rfl) (by decide), b.bnone e3 (by kernel_rfl) (by decide), b.bnone e4 (by kernel_rfl) (by decide), b.bnone e5 (by kernel_rfl) (by decide), b.bnone e6 (by kernel_rfl) (by decide)⟩
theorem no_obj_conv : ∃ y, typeLookup (.type "object") (Str.ofString "_convert_string_type") = pure y := ⟨none, by rw [typeLookup_type, builtinLookup_eq_fast]; kernel_rfl⟩
theorem no_obj_get_all : ∃ y, typeLookup (.type "object") (Str.ofString "get_all") = pure y := ⟨none, by rw [typeLookup_type, builtinLookup_eq_fast]; kernel_rfl⟩
theorem no_obj_add : ∃ y, typeLookup (.type "object") (Str.ofString "add_header") = pure y := ⟨none, by rw [typeLookup_type, builtinLookup_eq_fast]; kernel_rfl⟩
theorem no_obj_len : ∃ y, typeLookup (.type "object") (Str.ofString "__len__") = pure y := ⟨none, by rw [typeLookup_type, builtinLookup_eq_fast]; kernel_rfl⟩
theorem clsOk_of {c N : Addr} {mN : Str → Option Value} (X : ClsAt hb c N mN) (h1 : mN "__getattribute__" = .none) (h2 : mN "__getattr__" = .none) (h3 : mN hdrName = .none) : ClsOk hb c mN := by
  obtain ⟨nm, q, bs, sn, sub, col, dd, k0, k1, k2, k3, k5, hC⟩ := X.obj
  exact ⟨⟨nm, q, N, bs, sn, sub, false, col, dd, k0, k1, k2, k3, k5, _, hC, X.ns⟩, h1, h2, h3⟩
end
end Mine
end
section
set_option Elab.async false
set_option linter.all false
set_option maxRecDepth 100000
namespace Mine
open PySem PyProof.Rows PySem.W PySem.Builtin
theorem ofPys_ints : ∀ ns : List Int, ofPys (ns.map PyData.int) = ns.map WData.int
  | [] => rfl
  | n :: r => by
    have := ofPys_ints r
    simp only [List.map_cons, ofPys, ofPy, this]
theorem vrs_well {P : Params} {h : Heap} {B : FMap} {φ : List Addr} : ∀ {ns : List Int} {vs : List Value} {ds : List WData}, ds = ns.map WData.int → WellAll P h vs ds → VRs B φ (ns.map .int) vs
  | [], _, _, e, .nil => by simp [VRs]
  | n :: r, _, _, e, .cons h1 h2 => by
    simp only [List.map_cons, List.cons.injEq] at e
    obtain ⟨rfl, e⟩ := e
    cases h1
    exact VRs.cons (by simp [VR]) (vrs_well e h2)
  | n :: r, _, _, e, .nil => by cases e
  | [], _, _, e, .cons h1 h2 => by cases e
theorem vr_script {P : Params} {h : Heap} {ns : List Int} {l : Addr} (x : Well P h (.ref l) (ofPy (.list (ns.map .int)))) : VR h.get? [] (.lst (ns.map .int)) (.ref l) := by
  have e : ofPy (.list (ns.map .int)) = .list (ns.map .int) := by simp only [ofPy, ofPys_ints]
  rw [e] at x
  cases x with
  | list h1 h2 =>
    simp only [VR]
    exact ⟨l, _, 0, rfl, h1, vrs_well rfl h2⟩
theorem room_caller : Room callerA 50 := by
  refine ⟨rfl, ?_, ?_⟩
  · show callerA.depth + 50 < 1000
    rw [PyProof.Rows.depth_caller]; decide
  · show callerA.units + 300 + 10 * 50 < cLine
    rw [PyProof.Rows.units_caller]; decide
theorem post_true (R : WRecords) (e : WCtx) : (WShape.has R (.bool true) .bool && WTm.holds R (.eq .res (.lit (.bool true))) { e with res := some (.bool true) }) = true := by
  have h1 : WShape.has R (.bool true) .bool = true := by simp [WShape.has, WShape.arms]
  have h2 : same (.bool true) (.bool true) = true := by simp [same]
  simp [h1, WTm.holds, WTm.value, h2]
end Mine
end
section
set_option Elab.async false
set_option linter.all false
set_option maxRecDepth 100000
namespace Mine
open PySem
section
variable {C : Nat → List AV → Option AV} {D : Nat → List AV → List AV → Option (AV × List AV)} {ξ : List AV} {H H1 H2 H3 : Hp} {a b c v : AV}
theorem oLoc_eq {i : Nat} (h : getLoc H i = some v) : oLoc i ξ H = some (v, H) := by simp only [th, wi, gd, cond_true, cond_false, Option.map, Option.bind, AV.int?, AV.str?, AV.flt?, AV.ref?, AV.tup?, nx, oLoc, h]
theorem oCel_eq {i : Nat} (h : getCel H i = some v) : oCel i ξ H = some (v, H) := by simp only [th, wi, gd, cond_true, cond_false, Option.map, Option.bind, AV.int?, AV.str?, AV.flt?, AV.ref?, AV.tup?, nx, oCel, h]
theorem oCv_eq {i : Nat} (h : ξ[i]? = some v) : oCv i ξ H = some (v, H) := by simp only [th, wi, gd, cond_true, cond_false, Option.map, Option.bind, AV.int?, AV.str?, AV.flt?, AV.ref?, AV.tup?, nx, oCv, h]
theorem oBin_eq {op : Operator} {l r : OE} (h1 : l ξ H = some (a, H1)) (h2 : r ξ H1 = some (b, H2)) (h : abin op a b = some v) : oBin op l r ξ H = some (v, H2) := by simp only [th, wi, gd, cond_true, cond_false, Option.map, Option.bind, AV.int?, AV.str?, AV.flt?, AV.ref?, AV.tup?, nx, oBin, h1, h2, h]
theorem oCmp_eq {op : CmpOp} {l r : OE} {t : Bool} (h1 : l ξ H = some (a, H1)) (h2 : r ξ H1 = some (b, H2)) (h : acmp H2 op a b = some t) : oCmp op l r ξ H = some (.bool t, H2) := by simp only [th, wi, gd, cond_true, cond_false, Option.map, Option.bind, AV.int?, AV.str?, AV.flt?, AV.ref?, AV.tup?, nx, oCmp, tCmp, h1, h2, h]
theorem tCmp_eq {op : CmpOp} {l r : OE} {t : Bool} (h1 : l ξ H = some (a, H1)) (h2 : r ξ H1 = some (b, H2)) (h : acmp H2 op a b = some t) : tCmp op l r ξ H = some (t, H2) := by simp only [th, wi, gd, cond_true, cond_false, Option.map, Option.bind, AV.int?, AV.str?, AV.flt?, AV.ref?, AV.tup?, nx, tCmp, h1, h2, h]
theorem oSub_eq {l r : OE} (h1 : l ξ H = some (a, H1)) (h2 : r ξ H1 = some (b, H2)) (h : asub H2 a b = some v) : oSub l r ξ H = some (v, H2) := by simp only [th, wi, gd, cond_true, cond_false, Option.map, Option.bind, AV.int?, AV.str?, AV.flt?, AV.ref?, AV.tup?, nx, oSub, h1, h2, h]
theorem oCons_eq {e : OE} {r : OL} {vs : List AV} (h1 : e ξ H = some (a, H1)) (h2 : r ξ H1 = some (vs, H2)) : oCons e r ξ H = some (a :: vs, H2) := by simp only [th, wi, gd, cond_true, cond_false, Option.map, Option.bind, AV.int?, AV.str?, AV.flt?, AV.ref?, AV.tup?, nx, oCons, h1, h2]
theorem oLen_eq {e : OE} {n : Int} (h1 : e ξ H = some (a, H1)) (h : alen H1 a = some n) (hs : Nat.ble n.natAbs 100000 = true) : oLen e ξ H = some (.int n, H1) := by simp only [th, wi, gd, cond_true, cond_false, Option.map, Option.bind, AV.int?, AV.str?, AV.flt?, AV.ref?, AV.tup?, nx, oLen, h1, h, hs]
theorem oSm_eq {m : SM} {o : OE} {args : OL} {s : List Nat} {vs : List AV} (h1 : o ξ H = some (.str s, H1)) (h2 : args ξ H1 = some (vs, H2)) (h : asm H2 m s vs = some v) : oSm m o args ξ H = some (v, H2) := by simp only [th, wi, gd, cond_true, cond_false, Option.map, Option.bind, AV.int?, AV.str?, AV.flt?, AV.ref?, AV.tup?, nx, oSm, h1, h2, h]
theorem oFc_eq {f : Nat} {args : OL} {vs : List AV} (h1 : args ξ H = some (vs, H1)) (hp : AV.pures vs = true) (h : C f vs = some v) : oFc C f args ξ H = some (v, H1) := by simp only [th, wi, gd, cond_true, cond_false, Option.map, Option.bind, AV.int?, AV.str?, AV.flt?, AV.ref?, AV.tup?, nx, oFc, h1, hp, h]
theorem oTc_eq {cc : Addr} {m : Nat} {o : OE} {args : OL} {vs xs ys : List AV} {l : Nat} (h1 : o ξ H = some (a, H1)) (h0 : (atab cc H1 a).isSome = true) (h2 : args ξ H1 = some (vs, H2)) (hp : AV.pures vs = true) (ht : atab cc H2 a = some (l, xs)) (h : D m xs vs = some (v, ys)) : oTc D cc m o args ξ H = some (v, H2.set l (.list ys)) := by simp only [th, wi, gd, cond_true, cond_false, Option.map, Option.bind, AV.int?, AV.str?, AV.flt?, AV.ref?, AV.tup?, nx, oTc, dStep, h1, h0, h2, hp, ht, h]
theorem oTf_eq {cc : Addr} {m : Nat} {o : OE} {args : OL} {vs xs ys : List AV} {l : Nat} (h1 : o ξ H = some (a, H1)) (h2 : args ξ H1 = some (vs, H2)) (hp : AV.pures vs = true) (ht : atab cc H2 a = some (l, xs)) (h : D m xs vs = some (v, ys)) : oTf D cc m o args ξ H = some (v, H2.set l (.list ys)) := by simp only [th, wi, gd, cond_true, cond_false, Option.map, Option.bind, AV.int?, AV.str?, AV.flt?, AV.ref?, AV.tup?, nx, oTf, dStep, h1, h2, hp, ht, h]
theorem oTl_eq {cc : Addr} {m : Nat} {o : OE} {xs ys : List AV} {l : Nat} (h1 : o ξ H = some (a, H1)) (ht : atab cc H1 a = some (l, xs)) (h : D m xs [] = some (v, ys)) : oTl D cc m o ξ H = some (v, H1.set l (.list ys)) := by simp only [th, wi, gd, cond_true, cond_false, Option.map, Option.bind, AV.int?, AV.str?, AV.flt?, AV.ref?, AV.tup?, nx, oTl, dStep, h1, ht, h]
theorem oIfe_t {t : OB} {x y : OE} {r : Option (AV × Hp)} (h : t ξ H = some (true, H1)) (h2 : x ξ H1 = r) : oIfe t x y ξ H = r := by simp only [th, wi, gd, cond_true, cond_false, Option.map, Option.bind, AV.int?, AV.str?, AV.flt?, AV.ref?, AV.tup?, nx, oIfe, h, h2]
theorem oIfe_f {t : OB} {x y : OE} {r : Option (AV × Hp)} (h : t ξ H = some (false, H1)) (h2 : y ξ H1 = r) : oIfe t x y ξ H = r := by simp only [th, wi, gd, cond_true, cond_false, Option.map, Option.bind, AV.int?, AV.str?, AV.flt?, AV.ref?, AV.tup?, nx, oIfe, h, h2]
theorem oSlc_eq {x l h : OE} {i j : Int} (h1 : x ξ H = some (a, H1)) (h2 : l ξ H1 = some (.int i, H2)) (h3 : h ξ H2 = some (.int j, H3)) (e : aslice a i (some j) = some v) : oSlc x l h ξ H = some (v, H3) := by simp only [onI, two, th, wi, gd, cond_true, cond_false, Option.map, Option.bind, AV.int?, AV.str?, AV.flt?, AV.ref?, AV.tup?, nx, oSlc, h1, h2, h3, e]
theorem oSlcTo_eq {x h : OE} {j : Int} (h1 : x ξ H = some (a, H1)) (h2 : h ξ H1 = some (.int j, H2)) (e : aslice a 0 (some j) = some v) : oSlcTo x h ξ H = some (v, H2) := by simp only [th, wi, gd, cond_true, cond_false, Option.map, Option.bind, AV.int?, AV.str?, AV.flt?, AV.ref?, AV.tup?, nx, oSlcTo, h1, h2, e]
theorem oSlcFrom_eq {x l : OE} {i : Int} (h1 : x ξ H = some (a, H1)) (h2 : l ξ H1 = some (.int i, H2)) (e : aslice a i none = some v) : oSlcFrom x l ξ H = some (v, H2) := by simp only [th, wi, gd, cond_true, cond_false, Option.map, Option.bind, AV.int?, AV.str?, AV.flt?, AV.ref?, AV.tup?, nx, oSlcFrom, h1, h2, e]
theorem oToInt_eq {e : OE} {w : UInt64} {n : Int} (h1 : e ξ H = some (.flt w, H1)) (h : aint w = some n) : oToInt e ξ H = some (.int n, H1) := by simp only [th, wi, gd, cond_true, cond_false, Option.map, Option.bind, AV.int?, AV.str?, AV.flt?, AV.ref?, AV.tup?, nx, oToInt, h1, h]
theorem tBoo_or_t {l r : OB} (h : l ξ H = some (true, H1)) : tOr l r ξ H = some (true, H1) := by simp only [th, wi, gd, cond_true, cond_false, Option.map, Option.bind, AV.int?, AV.str?, AV.flt?, AV.ref?, AV.tup?, nx, tOr, h]
theorem tBoo_or_f {l r : OB} {q : Option (Bool × Hp)} (h : l ξ H = some (false, H1)) (h2 : r ξ H1 = q) : tOr l r ξ H = q := by simp only [th, wi, gd, cond_true, cond_false, Option.map, Option.bind, AV.int?, AV.str?, AV.flt?, AV.ref?, AV.tup?, nx, tOr, h, h2]
theorem tVal_eq {e : OE} {t : Bool} (h1 : e ξ H = some (a, H1)) (ht : atruth a = some t) : tVal e ξ H = some (t, H1) := by simp only [th, wi, gd, cond_true, cond_false, Option.map, Option.bind, AV.int?, AV.str?, AV.flt?, AV.ref?, AV.tup?, nx, tVal, h1, ht]
theorem tBin_eq {op : Operator} {l r : OE} {t : Bool} (h1 : l ξ H = some (a, H1)) (h2 : r ξ H1 = some (b, H2)) (h : abin op a b = some v) (ht : atruth v = some t) : tVal (oBin op l r) ξ H = some (t, H2) := tVal_eq (oBin_eq h1 h2 h) ht
theorem sAsg_eq {x : OV} {e : OE} (h1 : e [] H = some (a, H1)) (h2 : oSet H1 x a = some H2) : sAsg x e H = some (.next, H2) := by simp only [th, wi, gd, cond_true, cond_false, Option.map, Option.bind, AV.int?, AV.str?, AV.flt?, AV.ref?, AV.tup?, nx, sAsg, h1, h2]
theorem sExp_none {e : OE} (h1 : e [] H = some (.none, H1)) : sExp e H = some (.next, H1) := by simp only [th, wi, gd, cond_true, cond_false, Option.map, Option.bind, AV.int?, AV.str?, AV.flt?, AV.ref?, AV.tup?, nx, sExp, h1, AV.dull]
theorem sIf_t {t : OB} {x y : OS} {r : Option (AF × Hp)} (h : t [] H = some (true, H1)) (h2 : x H1 = r) : sIf t x y H = r := by simp only [th, wi, gd, cond_true, cond_false, Option.map, Option.bind, AV.int?, AV.str?, AV.flt?, AV.ref?, AV.tup?, nx, sIf, h, h2]
theorem sIf_f {t : OB} {x y : OS} {r : Option (AF × Hp)} (h : t [] H = some (false, H1)) (h2 : y H1 = r) : sIf t x y H = r := by simp only [th, wi, gd, cond_true, cond_false, Option.map, Option.bind, AV.int?, AV.str?, AV.flt?, AV.ref?, AV.tup?, nx, sIf, h, h2]
theorem sRet_eq {e : OE} (h1 : e [] H = some (a, H1)) : sRet e H = some (.ret a, H1) := by simp only [th, wi, gd, cond_true, cond_false, Option.map, Option.bind, AV.int?, AV.str?, AV.flt?, AV.ref?, AV.tup?, nx, sRet, h1]
theorem sCons_n {s r : OS} {q : Option (AF × Hp)} (h : s H = some (.next, H1)) (h2 : r H1 = q) : sCons s r H = q := by simp only [th, wi, gd, cond_true, cond_false, Option.map, Option.bind, AV.int?, AV.str?, AV.flt?, AV.ref?, AV.tup?, nx, sCons, h, h2]
theorem sCons_r {s r : OS} (h : s H = some (.ret v, H1)) : sCons s r H = some (.ret v, H1) := by simp only [th, wi, gd, cond_true, cond_false, Option.map, Option.bind, AV.int?, AV.str?, AV.flt?, AV.ref?, AV.tup?, nx, sCons, h]
theorem sSeti_eq {o i e : OE} {k : Nat} {j : Int} {xs : List AV} (h1 : e [] H = some (v, H1)) (h2 : o [] H1 = some (.ref k, H2)) (h3 : i [] H2 = some (.int j, H3)) (hk : H3[k]? = some (.list xs)) (hj : (0 ≤ j ∧ j < xs.length) ∧ small xs.length = true) : sSeti o i e H = some (.next, H3.set k (.list (xs.set j.toNat v))) := by
  have hd : (decide (0 ≤ j ∧ j < xs.length) && small xs.length) = true := (Bool.and_eq_true _ _).mpr ⟨decide_eq_true hj.1, hj.2⟩
  simp only [th, wi, gd, cond_true, cond_false, Option.map, Option.bind, AV.int?, AV.str?, AV.flt?, AV.ref?, AV.tup?, nx, sSeti, h1, h2, h3, getList_of hk, hd]
theorem sForE_eq {t : OT} {it : OE} {body : OS} {xs : List AV} (h1 : it [] H = some (v, H1)) (h : asrc v = some xs) : sForE t it body H = loopLit (oBody t body) xs H1 := by simp only [th, wi, gd, cond_true, cond_false, Option.map, Option.bind, AV.int?, AV.str?, AV.flt?, AV.ref?, AV.tup?, nx, sForE, h1, h]
theorem sForR1_eq {t : OT} {e : OE} {body : OS} {n : Int} (h1 : e [] H = some (.int n, H1)) (h : rngOk 0 n = true) : sForR1 t e body H = loopLit (oBody t body) (rangeL 0 n) H1 := by simp only [th, wi, gd, cond_true, cond_false, Option.map, Option.bind, AV.int?, AV.str?, AV.flt?, AV.ref?, AV.tup?, nx, sForR1, h1, h]
theorem sForR2_eq {t : OT} {e f : OE} {body : OS} {m n : Int} (h1 : e [] H = some (.int m, H1)) (h2 : f [] H1 = some (.int n, H2)) (h : rngOk m n = true) : sForR2 t e f body H = loopLit (oBody t body) (rangeL m n) H2 := by simp only [onI, two, th, wi, gd, cond_true, cond_false, Option.map, Option.bind, AV.int?, AV.str?, AV.flt?, AV.ref?, AV.tup?, nx, sForR2, h1, h2, h]
theorem oBody_eq {t : OT} {body : OS} {v : AV} (h : oTgt H t v = some H1) : oBody t body v H = body H1 := by simp only [th, wi, gd, cond_true, cond_false, Option.map, Option.bind, AV.int?, AV.str?, AV.flt?, AV.ref?, AV.tup?, nx, oBody, h]
theorem loop_next {f : AV → Hp → Option (AF × Hp)} {v : AV} {r : List AV} {q : Option (AF × Hp)} (h : f v H = some (.next, H1)) (h2 : loopLit f r H1 = q) : loopLit f (v :: r) H = q := by simp only [th, wi, gd, cond_true, cond_false, Option.map, Option.bind, AV.int?, AV.str?, AV.flt?, AV.ref?, AV.tup?, nx, loopLit, h, h2]
theorem oComp_eq {elt it : OE} {ifs : OB} {xs ys : List AV} (h1 : it ξ H = some (v, H1)) (h : asrc v = some xs) (hs : small xs.length = true) (h2 : compLit (oTurn elt ifs) xs H1 = some (ys, H2)) : oComp elt it ifs ξ H = some (.lst ys, H2) := by simp only [th, wi, gd, cond_true, cond_false, Option.map, Option.bind, AV.int?, AV.str?, AV.flt?, AV.ref?, AV.tup?, nx, oComp, h1, h, compAll, hs, h2]
theorem oCompR1_eq {elt e : OE} {ifs : OB} {n : Int} {ys : List AV} (h1 : e ξ H = some (.int n, H1)) (h : rngOk 0 n = true) (hs : small (rangeL 0 n).length = true) (h2 : compLit (oTurn elt ifs) (rangeL 0 n) H1 = some (ys, H2)) : oCompR1 elt e ifs ξ H = some (.lst ys, H2) := by simp only [th, wi, gd, cond_true, cond_false, Option.map, Option.bind, AV.int?, AV.str?, AV.flt?, AV.ref?, AV.tup?, nx, oCompR1, h1, h, if_true, compAll, hs, h2]
theorem turn_all {elt : OE} {x : AV} {y : AV} (h : elt [x] H = some (y, H1)) : oTurn elt tNil x H = some (some y, H1) := by simp only [th, wi, gd, cond_true, cond_false, Option.map, Option.bind, AV.int?, AV.str?, AV.flt?, AV.ref?, AV.tup?, nx, oTurn, tNil, h]
theorem comp_skip {f : AV → Hp → Option (Option AV × Hp)} {x : AV} {r ys : List AV} (h : f x H = some (none, H1)) (h2 : compLit f r H1 = some (ys, H2)) : compLit f (x :: r) H = some (ys, H2) := by
  show th (f x H) _ = _
  rw [h]; exact h2
theorem comp_one {f : AV → Hp → Option (Option AV × Hp)} {x y : AV} {r ys : List AV} (h : f x H = some (some y, H1)) (hp : y.pure = true) (h2 : compLit f r H1 = some (ys, H2)) : compLit f (x :: r) H = some (y :: ys, H2) := by simp only [th, wi, gd, cond_true, cond_false, Option.map, Option.bind, AV.int?, AV.str?, AV.flt?, AV.ref?, AV.tup?, nx, compLit, h, hp, h2]
end
end Mine
end
section
set_option Elab.async false
set_option linter.all false
set_option maxRecDepth 100000
namespace Mine
open PySem
end Mine
end
section
set_option Elab.async false
set_option linter.all false
set_option maxRecDepth 100000
namespace Mine
open PySem
noncomputable def o3 : Oks where
  f := fun f x => (f == 0 && x == Str.ofString "rgb_to_hls") || (f == 1 && x == Str.ofString "rgb_to_hsv") || (f == 2 && x == Str.ofString "quotedata") || (f == 3 && x == Str.ofString "_law_free") || (f == 4 && x == Str.ofString "_law_top") || (f == 5 && x == Str.ofString "_law_grown")
  t := fun c m x => c == 213 && ((m == 0 && x == Str.ofString "add_header") || (m == 1 && x == Str.ofString "get_all") || (m == 2 && x == Str.ofString "values"))
  u := fun _ _ _ => false
  n := fun c x => c == 213 && x == Str.ofString "Headers"
  l := fun _ _ => false
end Mine
end
section
set_option Elab.async false
set_option linter.all false
set_option linter.unusedSimpArgs false
set_option maxRecDepth 100000
namespace Mine
open PySem
noncomputable def intsA (l : List Nat) : List AV := l.map fun n : Nat => AV.int (n : Int)
theorem intsA_len (l : List Nat) : (intsA l).length = l.length := by simp [intsA]
theorem small_of {n : Nat} (h : n ≤ 100000) : small n = true := by simp [small, h]
theorem rangeL_nat (n : Nat) : rangeL 0 (n : Int) = (List.range' 0 n).map fun k : Nat => AV.int (k : Int) := by
  simp [rangeL, List.range_eq_range']
theorem arun_eq {o : OS} {f : Fd} {vs : List AV} (h : vs.length = f.params.length) : arun o f vs = aret (o (f.init vs)) := by
  unfold arun; rw [if_pos h]
theorem arun_ret {o : OS} {f : Fd} {vs : List AV} {v : AV} {H : Hp} (h : vs.length = f.params.length) (e : o (f.init vs) = some (.ret v, H)) (hp : v.pure = true) : arun o f vs = some v := by
  rw [arun_eq h, e]
  show (match v.pure with | true => some v | false => none) = some v
  rw [hp]
theorem intsA_pures : ∀ l : List Nat, AV.pures (intsA l) = true
  | [] => rfl
  | _ :: r => intsA_pures r
end Mine
end
section
set_option Elab.async false
set_option linter.all false
set_option linter.unusedSimpArgs false
set_option maxRecDepth 100000
namespace Mine
open PySem
theorem aslc_to {α : Type} {xs : List α} {i j : Nat} (hs : small xs.length = true) : aslc xs (i : Int) (some (j : Int)) = some ((xs.take j).drop i) := by
  unfold aslc
  rw [if_pos ⟨Int.natCast_nonneg i, hs⟩]
  show (if 0 ≤ (j : Int) then _ else _) = _
  rw [if_pos (Int.natCast_nonneg j)]; rfl
theorem aslc_from {α : Type} {xs : List α} {i : Nat} (hs : small xs.length = true) : aslc xs (i : Int) none = some (xs.drop i) := by
  unfold aslc
  rw [if_pos ⟨Int.natCast_nonneg i, hs⟩]; rfl
theorem add_str {a b : List Nat} (h : a.length + b.length ≤ 100000) : abin .Add (.str a) (.str b) = some (.str (a ++ b)) := by
  show orE (gd (small (a.length + b.length)) _) _ = _
  rw [small_of h]; rfl
end Mine
end
section
set_option Elab.async false
set_option linter.all false
set_option linter.unusedSimpArgs false
set_option maxRecDepth 100000
namespace Mine
open PySem
noncomputable def hiGo (c : Nat) : List Nat → Nat → List Nat
  | [], _ => []
  | a :: r, p => if c < a then p :: hiGo c r (p + 1) else hiGo c r (p + 1)
noncomputable def hiW (R : List Nat) (c : Nat) : List Nat := hiGo c R 0
structure RowAt (H : Hp) (k c : Nat) (R : List Nat) : Prop where
  h1 : getCel H 1 = some (.ref 7)
  h7 : H[7]? = some (.list [.ref 4, .ref 5, .ref 6])
  h3 : getCel H 3 = some (.int (k : Int))
  h2 : getCel H 2 = some (.int (c : Int))
  hk : k < 3
  hR : H[4 + k]? = some (.list (intsA R))
  hs : R.length ≤ 1000
theorem aidx_nat {α : Type} {xs : List α} {k : Nat} {v : α} (h : xs[k]? = some v) (hs : k ≤ 1000000) : aidx xs (k : Int) = some v := by
  unfold aidx
  rw [if_pos (Nat.ble_eq_true_of_le (by rw [Int.natAbs_natCast]; exact hs)), if_pos (Int.natCast_nonneg k), Int.toNat_natCast]; exact h
theorem items_ref {H : Hp} {k : Nat} {xs : List AV} (h : H[k]? = some (.list xs)) : items? H (.ref k) = some xs := (getList_of h : getList H k = some xs)
theorem asub_ref {H : Hp} {k : Nat} {xs : List AV} {i : Int} {v : AV} (h : H[k]? = some (.list xs)) (e : aidx xs i = some v) : asub H (.ref k) (.int i) = some v := by
  show (items? H (.ref k)).bind _ = _
  rw [items_ref h]; exact e
theorem intsA_get {R : List Nat} {p a : Nat} (h : R[p]? = some a) : (intsA R)[p]? = some (.int (a : Int)) := by unfold intsA; rw [List.getElem?_map, h]; rfl
theorem RowAt.row {H : Hp} {k c : Nat} {R : List Nat} (r : RowAt H k c R) (ξ : List AV) : oSub (oCel 1) (oCel 3) ξ H = some (.ref (4 + k), H) := by
  have hk := r.hk
  have e : aidx [AV.ref 4, .ref 5, .ref 6] (k : Int) = some (.ref (4 + k)) := by
    refine aidx_nat ?_ (by omega)
    match k, hk with
    | 0, _ => rfl
    | 1, _ => rfl
    | 2, _ => rfl
  exact oSub_eq (oCel_eq r.h1) (oCel_eq r.h3) (asub_ref r.h7 e)
noncomputable def rowIn (R : List Nat) (c : Nat) : List Nat × Option Nat := match hiW R c with
  | [] => (R ++ [c], none)
  | p :: _ => (R.set p c, R[p]?)
noncomputable abbrev gH (w : List Nat) (sg hg pu : Option AV) (c : Nat) (k : Option AV) (R0 R1 R2 G : List Nat) : Hp := [.ns [some (.str w), some (.ref 8), sg, hg, pu], .cell (some (.ref 7)), .cell (some (.int (c : Int))), .cell k, .list (intsA R0), .list (intsA R1), .list (intsA R2), .list [.ref 4, .ref 5, .ref 6], .list (intsA G)]
theorem intsA_set (R : List Nat) (p c : Nat) : (intsA R).set p (.int (c : Int)) = intsA (R.set p c) := by simp [intsA, List.map_set]
end Mine
end
section
set_option Elab.async false
set_option linter.all false
set_option linter.unusedSimpArgs false
set_option maxRecDepth 100000
namespace Mine
open PySem
structure GS where
  a : List Nat
  b : List Nat
  c : List Nat
  g : List Nat
noncomputable def gStep (S : GS) (c : Nat) : GS := match rowIn S.a c with
  | (R0, none) => ⟨R0, S.b, S.c, S.g ++ [0]⟩
  | (R0, some c1) => match rowIn S.b c1 with
    | (R1, none) => ⟨R0, R1, S.c, S.g ++ [1]⟩
    | (R1, some c2) => match rowIn S.c c2 with
      | (R2, none) => ⟨R0, R1, R2, S.g ++ [2]⟩
      | (R2, some _) => ⟨R0, R1, R2, S.g⟩
noncomputable def gIdx (c : Nat) : Nat := if c = 114 then 0 else if c = 103 then 1 else 2
noncomputable def gFold : List Nat → GS → GS
  | [], S => S
  | c :: r, S => gFold r (gStep S (gIdx c))
noncomputable def grownW (w : List Nat) : List Nat := (gFold w ⟨[], [], [], []⟩).g
noncomputable def isRgb (c : Nat) : Bool := c == 114 || c == 103 || c == 98
noncomputable abbrev GS.H (S : GS) (w : List Nat) (sg hg pu : Option AV) (c : Nat) (k : Option AV) : Hp := gH w sg hg pu c k S.a S.b S.c S.g
structure GS.Le (S : GS) (n : Nat) : Prop where
  a : S.a.length ≤ n
  b : S.b.length ≤ n
  c : S.c.length ≤ n
  g : S.g.length ≤ n
end Mine
end
section
set_option Elab.async false
set_option linter.all false
set_option linter.unusedSimpArgs false
set_option maxRecDepth 100000
namespace Mine
open PySem
noncomputable abbrev Wd := List Nat
noncomputable def strsA (l : List Wd) : List AV := l.map .str
theorem asStrs_A : ∀ l : List Wd, asStrs (strsA l) = some l
  | [] => rfl
  | x :: r => by
    show (asStrs (strsA r)).map _ = _
    rw [asStrs_A r]; rfl
structure LS where
  F : List Wd
  i : Nat
  its : Its
noncomputable def okW (w : Wd) : Bool := w.all isRgb && Nat.ble w.length 100
structure LS.Ok (S : LS) : Prop where
  f : ∀ w ∈ S.F, okW w = true
  r : ∀ p ∈ S.its, okS p.1 = true ∧ okS p.2 = true
  fl : S.F.length ≤ 1 + 2 * S.i
  il : S.its.length = S.i
end Mine
end
section
set_option Elab.async false
set_option linter.all false
set_option linter.unusedSimpArgs false
set_option maxRecDepth 100000
namespace Mine
open PySem
structure MC where
  scr : Option AV
  size : Option AV
  start : Option AV
  shape : Option AV
  dr : Option AV
  en : Option AV
  st : Option AV
  one : Option AV
  rest : List (Option AV)
end Mine
end
section
set_option Elab.async false
set_option linter.all false
set_option linter.unusedSimpArgs false
set_option maxRecDepth 100000
namespace Mine
open PySem
noncomputable def AddD (D : Nat → List AV → List AV → Option (AV × List AV)) : Prop := ∀ its nm v, okIts its = true → okS nm = true → okS v = true → D 0 (tabL its) [.str nm, .str v] = some (.none, tabL (its ++ [(nm, v)]))
theorem atab_tabL {c : Addr} {H : Hp} {l : Nat} {its : Its} (h : H[l]? = some (.list (tabL its))) : atab c H (.tab c l) = some (l, tabL its) := by
  have hp := tabL_pures its
  show (getList H l).bind _ = _
  rw [getList_of h]
  show gd (c == c && AV.pures (tabL its)) _ = _
  rw [beq_self_eq_true, hp]; rfl
end Mine
end
section
set_option Elab.async false
set_option linter.all false
set_option linter.unusedSimpArgs false
set_option maxRecDepth 100000
namespace Mine
open PySem
structure KC where
  scr : Option AV
  size : Nat
  start : Option AV
  shape : List Int
  fo : Option AV
  b : List (Option AV)
  dr : Option AV
  en : Wd
  st : List Nat
  fl : AO
  its : Its
structure KL where
  red : Option AV
  green : Option AV
  counts : Option AV
  sent : Option AV
  hue : Option AV
  share : Option AV
  bright : Option AV
  bare : Option AV
  light : Option AV
  depth : Option AV
  most : Option AV
  least : Option AV
  due : Option AV
  words : Option AV
noncomputable def GetD (D : Nat → List AV → List AV → Option (AV × List AV)) : Prop := ∀ its nm, okIts its = true → okS nm = true → D 1 (tabL its) [.str nm] = some (.lst (strsA (getAll its nm)), tabL its)
section
variable {C : Nat → List AV → Option AV} {D : Nat → List AV → List AV → Option (AV × List AV)}
end
end Mine
end
section
set_option Elab.async false
set_option linter.all false
set_option linter.unusedSimpArgs false
set_option maxRecDepth 100000
namespace Mine
open PySem
noncomputable def QuoteC (C : Nat → List AV → Option AV) : Prop := ∀ x : Wd, x.length ≤ 40000 → C 2 [.str x] = some (.str (qd x))
theorem asm_join {H : Hp} {s : Wd} {ts : List Wd} (h : (small (joinL s ts).length && small s.length) = true) : asm H .join s [.lst (strsA ts)] = some (.str (joinL s ts)) := by
  have e : asm H .join s [.lst (strsA ts)] = (asStrs (strsA ts)).bind (fun ts => gd (small (joinL s ts).length && small s.length) (some (AV.str (joinL s ts)))) := rfl
  rw [e, asStrs_A]
  show gd (small (joinL s ts).length && small s.length) (some (AV.str (joinL s ts))) = _
  rw [h]; rfl
noncomputable def mailTxt (en : Wd) (r g b : Nat) : Wd := joinL [] [List.replicate (1 + r) 46 ++ en, List.replicate (1 + g) 46 ++ en, List.replicate (1 + b) 46 ++ en]
structure Heard (en : Wd) (r g b : Nat) (s0 s1 s2 s3 : Wd) : Prop where
  e : splitL (qd (mailTxt en r g b)) = [s0, s1, s2, s3]
  h0 : s0.length = r + 2
  h1 : s1.length = g + 2
  h2 : s2.length = b + 2
  hq : (qd (mailTxt en r g b)).length ≤ 1000
noncomputable def mx3 (r g b : Nat) : Nat := max r (max g b)
noncomputable def mn3 (r g b : Nat) : Nat := min r (min g b)
structure Hues (C : Nat → List AV → Option AV) (r g b : Nat) (a1 a2 a3 b1 b2 b3 h s v h' l s' : UInt64) : Prop where
  d1 : abin .Div (.int ((r + 2 : Nat) : Int)) (.int 8) = some (.flt a1)
  d2 : abin .Div (.int ((g + 2 : Nat) : Int)) (.int 8) = some (.flt a2)
  d3 : abin .Div (.int ((b + 2 : Nat) : Int)) (.int 8) = some (.flt a3)
  d4 : abin .Div (.int (r : Int)) (.int 8) = some (.flt b1)
  d5 : abin .Div (.int (g : Int)) (.int 8) = some (.flt b2)
  d6 : abin .Div (.int (b : Int)) (.int 8) = some (.flt b3)
  c1 : C 1 [.flt a1, .flt a2, .flt a3] = some (.tup [.flt h, .flt s, .flt v])
  c0 : C 0 [.flt b1, .flt b2, .flt b3] = some (.tup [.flt h', .flt l, .flt s'])
  eq : (Float64.cmp h h' == some Ordering.eq) = true
  m8 : aint (Float64.mul v (Float64.ofInt 8)) = some ((mx3 r g b : Nat) + 2)
  m16 : aint (Float64.mul l (Float64.ofInt 16)) = some ((mx3 r g b : Nat) + (mn3 r g b : Nat))
noncomputable def keyTxt (r g b : Nat) : Wd := List.replicate r 82 ++ List.replicate g 103 ++ List.replicate b 66
noncomputable def dueOf (a b c : Int) (x n : Nat) : Int := 1 + bestBy (intLt false) (a - b) [b - c, a - x, n - c]
structure Counted (its : Its) (st : List Nat) (a b c : Int) (r g u : Nat) : Prop where
  len : ((getAll its (keyTxt r g u)).length : Int) = bestBy (intLt true) 0 [dueOf a b c (mx3 r g u) (mn3 r g u)]
  each : ∀ w ∈ getAll its (keyTxt r g u), okW w = true ∧ (getAll its (keyTxt r g u)).count w = 1 ∧ grownW w = st ∧ [w.count 114, w.count 103, w.count 98] = [r, g, u]
  few : (getAll its (keyTxt r g u)).length ≤ 1000
section
variable {C : Nat → List AV → Option AV} {D : Nat → List AV → List AV → Option (AV × List AV)}
end
end Mine
end
section
set_option Elab.async false
set_option linter.all false
set_option linter.unusedSimpArgs false
set_option maxRecDepth 100000
namespace Mine
open PySem
section
variable {C : Nat → List AV → Option AV} {D : Nat → List AV → List AV → Option (AV × List AV)}
end
end Mine
end
section
set_option Elab.async false
set_option linter.all false
set_option linter.unusedSimpArgs false
set_option maxRecDepth 100000
namespace Mine
open PySem
theorem joinL_ones : ∀ l : Wd, joinL [] (l.map fun c => [c]) = l
  | [] => rfl
  | [a] => rfl
  | a :: b :: r => by
    have := joinL_ones (b :: r)
    simp only [List.map_cons] at this ⊢
    rw [joinL]
    rw [this]; rfl
section
variable {C : Nat → List AV → Option AV} {D : Nat → List AV → List AV → Option (AV × List AV)}
end
end Mine
end
section
set_option Elab.async false
set_option linter.all false
set_option linter.unusedSimpArgs false
set_option maxRecDepth 100000
namespace Mine
open PySem
structure Cmp where
  t : Wd
  n : Nat
  F : List Wd
  its : Its
  st : List Nat
end Mine
end
section
set_option Elab.async false
set_option linter.all false
set_option linter.unusedSimpArgs false
set_option maxRecDepth 100000
namespace Mine
open PySem
noncomputable def fltV : Option AV → Option UInt64
  | some (.flt x) => some x
  | _ => none
theorem fltV_eq {o : Option AV} {x : UInt64} (h : fltV o = some x) : o = some (.flt x) := by
  unfold fltV at h
  split at h
  · cases h; rfl
  · cases h
noncomputable def three? : Option AV → Option (UInt64 × UInt64 × UInt64)
  | some (.tup [.flt a, .flt b, .flt c]) => some (a, b, c)
  | _ => none
theorem three_eq {o : Option AV} {a b c : UInt64} (h : three? o = some (a, b, c)) : o = some (.tup [.flt a, .flt b, .flt c]) := by
  unfold three? at h
  split at h
  · cases h; rfl
  · cases h
noncomputable def b3 (A1 A2 A3 : Option UInt64) (F : UInt64 → UInt64 → UInt64 → Bool) : Bool := match A1, A2, A3 with
  | some a, some b, some c => F a b c
  | _, _, _ => false
noncomputable def b1 (A : Option (UInt64 × UInt64 × UInt64)) (F : UInt64 → UInt64 → UInt64 → Bool) : Bool := match A with
  | some (a, b, c) => F a b c
  | none => false
noncomputable def orun (s : OS) (f : Fd) (vs : List AV) : Option AV := aret (s (f.init vs))
noncomputable def dv (n : Nat) : Option AV := abin .Div (.int (n : Int)) (.int 8)
end Mine
end
section
set_option Elab.async false
set_option linter.all false
set_option maxRecDepth 100000
namespace Mine
open PySem
noncomputable def p1_rgb_to_hls : Fd where
  params := [Str.ofString "r", Str.ofString "g", Str.ofString "b"]
  locs := [Str.ofString "r", Str.ofString "g", Str.ofString "b", Str.ofString "maxc", Str.ofString "minc", Str.ofString "sumc", Str.ofString "rangec", Str.ofString "l", Str.ofString "s", Str.ofString "rc", Str.ofString "gc", Str.ofString "bc", Str.ofString "h"]
  names := [(Str.ofString "r", .local), (Str.ofString "g", .local), (Str.ofString "b", .local), (Str.ofString "maxc", .local), (Str.ofString "minc", .local), (Str.ofString "sumc", .local), (Str.ofString "rangec", .local), (Str.ofString "l", .local), (Str.ofString "s", .local), (Str.ofString "rc", .local), (Str.ofString "gc", .local), (Str.ofString "bc", .local), (Str.ofString "h", .local), (Str.ofString "max", .globalImplicit), (Str.ofString "min", .globalImplicit)]
  body := [
 .Assign [(.Name (Str.ofString "maxc") ⟨7, 4, 7, 8⟩)] (.Call (.Name (Str.ofString "max") ⟨7, 11, 7, 14⟩) [(.Name (Str.ofString "r") ⟨7, 15, 7, 16⟩), (.Name (Str.ofString "g") ⟨7, 18, 7, 19⟩), (.Name (Str.ofString "b") ⟨7, 21, 7, 22⟩)] [] ⟨7, 11, 7, 23⟩) ⟨7, 4, 7, 23⟩,
 .Assign [(.Name (Str.ofString "minc") ⟨8, 4, 8, 8⟩)] (.Call (.Name (Str.ofString "min") ⟨8, 11, 8, 14⟩) [(.Name (Str.ofString "r") ⟨8, 15, 8, 16⟩), (.Name (Str.ofString "g") ⟨8, 18, 8, 19⟩), (.Name (Str.ofString "b") ⟨8, 21, 8, 22⟩)] [] ⟨8, 11, 8, 23⟩) ⟨8, 4, 8, 23⟩,
 .Assign [(.Name (Str.ofString "sumc") ⟨9, 4, 9, 8⟩)] (.BinOp (.Name (Str.ofString "maxc") ⟨9, 11, 9, 15⟩) .Add (.Name (Str.ofString "minc") ⟨9, 18, 9, 22⟩) ⟨9, 11, 9, 22⟩) ⟨9, 4, 9, 22⟩,
 .Assign [(.Name (Str.ofString "rangec") ⟨10, 4, 10, 10⟩)] (.BinOp (.Name (Str.ofString "maxc") ⟨10, 13, 10, 17⟩) .Sub (.Name (Str.ofString "minc") ⟨10, 20, 10, 24⟩) ⟨10, 13, 10, 24⟩) ⟨10, 4, 10, 24⟩,
 .Assign [(.Name (Str.ofString "l") ⟨11, 4, 11, 5⟩)] (.BinOp (.Name (Str.ofString "sumc") ⟨11, 8, 11, 12⟩) .Div (.Constant (.float 4611686018427387904) 0 ⟨11, 15, 11, 18⟩) ⟨11, 8, 11, 18⟩) ⟨11, 4, 11, 18⟩,
 .If (.Compare (.Name (Str.ofString "minc") ⟨12, 7, 12, 11⟩) [.Eq] [(.Name (Str.ofString "maxc") ⟨12, 15, 12, 19⟩)] ⟨12, 7, 12, 19⟩) [.Return (some (.Tuple [(.Constant (.float 0) 0 ⟨13, 16, 13, 19⟩), (.Name (Str.ofString "l") ⟨13, 21, 13, 22⟩), (.Constant (.float 0) 0 ⟨13, 24, 13, 27⟩)] 0 ⟨13, 15, 13, 28⟩)) ⟨13, 8, 13, 28⟩] [] ⟨12, 4, 13, 28⟩,
 .If (.Compare (.Name (Str.ofString "l") ⟨14, 7, 14, 8⟩) [.LtE] [(.Constant (.float 4602678819172646912) 0 ⟨14, 12, 14, 15⟩)] ⟨14, 7, 14, 15⟩) [.Assign [(.Name (Str.ofString "s") ⟨15, 8, 15, 9⟩)] (.BinOp (.Name (Str.ofString "rangec") ⟨15, 12, 15, 18⟩) .Div (.Name (Str.ofString "sumc") ⟨15, 21, 15, 25⟩) ⟨15, 12, 15, 25⟩) ⟨15, 8, 15, 25⟩] [.Assign [(.Name (Str.ofString "s") ⟨17, 8, 17, 9⟩)] (.BinOp (.Name (Str.ofString "rangec") ⟨17, 12, 17, 18⟩) .Div (.BinOp (.BinOp (.Constant (.float 4611686018427387904) 0 ⟨17, 22, 17, 25⟩) .Sub (.Name (Str.ofString "maxc") ⟨17, 28, 17, 32⟩) ⟨17, 22, 17, 32⟩) .Sub (.Name (Str.ofString "minc") ⟨17, 35, 17, 39⟩) ⟨17, 22, 17, 39⟩) ⟨17, 12, 17, 40⟩) ⟨17, 8, 17, 40⟩] ⟨14, 4, 17, 40⟩,
 .Assign [(.Name (Str.ofString "rc") ⟨18, 4, 18, 6⟩)] (.BinOp (.BinOp (.Name (Str.ofString "maxc") ⟨18, 10, 18, 14⟩) .Sub (.Name (Str.ofString "r") ⟨18, 17, 18, 18⟩) ⟨18, 10, 18, 18⟩) .Div (.Name (Str.ofString "rangec") ⟨18, 22, 18, 28⟩) ⟨18, 9, 18, 28⟩) ⟨18, 4, 18, 28⟩,
 .Assign [(.Name (Str.ofString "gc") ⟨19, 4, 19, 6⟩)] (.BinOp (.BinOp (.Name (Str.ofString "maxc") ⟨19, 10, 19, 14⟩) .Sub (.Name (Str.ofString "g") ⟨19, 17, 19, 18⟩) ⟨19, 10, 19, 18⟩) .Div (.Name (Str.ofString "rangec") ⟨19, 22, 19, 28⟩) ⟨19, 9, 19, 28⟩) ⟨19, 4, 19, 28⟩,
 .Assign [(.Name (Str.ofString "bc") ⟨20, 4, 20, 6⟩)] (.BinOp (.BinOp (.Name (Str.ofString "maxc") ⟨20, 10, 20, 14⟩) .Sub (.Name (Str.ofString "b") ⟨20, 17, 20, 18⟩) ⟨20, 10, 20, 18⟩) .Div (.Name (Str.ofString "rangec") ⟨20, 22, 20, 28⟩) ⟨20, 9, 20, 28⟩) ⟨20, 4, 20, 28⟩,
 .If (.Compare (.Name (Str.ofString "r") ⟨21, 7, 21, 8⟩) [.Eq] [(.Name (Str.ofString "maxc") ⟨21, 12, 21, 16⟩)] ⟨21, 7, 21, 16⟩) [.Assign [(.Name (Str.ofString "h") ⟨22, 8, 22, 9⟩)] (.BinOp (.Name (Str.ofString "bc") ⟨22, 12, 22, 14⟩) .Sub (.Name (Str.ofString "gc") ⟨22, 17, 22, 19⟩) ⟨22, 12, 22, 19⟩) ⟨22, 8, 22, 19⟩] [.If (.Compare (.Name (Str.ofString "g") ⟨23, 9, 23, 10⟩) [.Eq] [(.Name (Str.ofString "maxc") ⟨23, 14, 23, 18⟩)] ⟨23, 9, 23, 18⟩) [.Assign [(.Name (Str.ofString "h") ⟨24, 8, 24, 9⟩)] (.BinOp (.BinOp (.Constant (.float 4611686018427387904) 0 ⟨24, 12, 24, 15⟩) .Add (.Name (Str.ofString "rc") ⟨24, 18, 24, 20⟩) ⟨24, 12, 24, 20⟩) .Sub (.Name (Str.ofString "bc") ⟨24, 23, 24, 25⟩) ⟨24, 12, 24, 25⟩) ⟨24, 8, 24, 25⟩] [.Assign [(.Name (Str.ofString "h") ⟨26, 8, 26, 9⟩)] (.BinOp (.BinOp (.Constant (.float 4616189618054758400) 0 ⟨26, 12, 26, 15⟩) .Add (.Name (Str.ofString "gc") ⟨26, 18, 26, 20⟩) ⟨26, 12, 26, 20⟩) .Sub (.Name (Str.ofString "rc") ⟨26, 23, 26, 25⟩) ⟨26, 12, 26, 25⟩) ⟨26, 8, 26, 25⟩] ⟨23, 4, 26, 25⟩] ⟨21, 4, 26, 25⟩,
 .Assign [(.Name (Str.ofString "h") ⟨27, 4, 27, 5⟩)] (.BinOp (.BinOp (.Name (Str.ofString "h") ⟨27, 8, 27, 9⟩) .Div (.Constant (.float 4618441417868443648) 0 ⟨27, 12, 27, 15⟩) ⟨27, 8, 27, 15⟩) .Mod (.Constant (.float 4607182418800017408) 0 ⟨27, 18, 27, 21⟩) ⟨27, 8, 27, 21⟩) ⟨27, 4, 27, 21⟩,
 .Return (some (.Tuple [(.Name (Str.ofString "h") ⟨28, 12, 28, 13⟩), (.Name (Str.ofString "l") ⟨28, 15, 28, 16⟩), (.Name (Str.ofString "s") ⟨28, 18, 28, 19⟩)] 0 ⟨28, 11, 28, 20⟩)) ⟨28, 4, 28, 20⟩]
noncomputable def o_p1_rgb_to_hls (C : OC) (D : OD) : OS :=
 (sCons (sAsg (.loc 3) (oMm true (oCons (oLoc 0) (oCons (oLoc 1) (oCons (oLoc 2) oNil)))))
 (sCons (sAsg (.loc 4) (oMm false (oCons (oLoc 0) (oCons (oLoc 1) (oCons (oLoc 2) oNil)))))
 (sCons (sAsg (.loc 5) (oBin .Add (oLoc 3) (oLoc 4)))
 (sCons (sAsg (.loc 6) (oBin .Sub (oLoc 3) (oLoc 4)))
 (sCons (sAsg (.loc 7) (oBin .Div (oLoc 5) (oK (.flt 4611686018427387904))))
 (sCons (sIf (tCmp .Eq (oLoc 4) (oLoc 3)) (sCons (sRet (oTup (oCons (oK (.flt 0)) (oCons (oLoc 7) (oCons (oK (.flt 0)) oNil)))))
 sNil) sNil)
 (sCons (sIf (tCmp .LtE (oLoc 7) (oK (.flt 4602678819172646912))) (sCons (sAsg (.loc 8) (oBin .Div (oLoc 6) (oLoc 5)))
 sNil) (sCons (sAsg (.loc 8) (oBin .Div (oLoc 6) (oBin .Sub (oBin .Sub (oK (.flt 4611686018427387904)) (oLoc 3)) (oLoc 4))))
 sNil))
 (sCons (sAsg (.loc 9) (oBin .Div (oBin .Sub (oLoc 3) (oLoc 0)) (oLoc 6)))
 (sCons (sAsg (.loc 10) (oBin .Div (oBin .Sub (oLoc 3) (oLoc 1)) (oLoc 6)))
 (sCons (sAsg (.loc 11) (oBin .Div (oBin .Sub (oLoc 3) (oLoc 2)) (oLoc 6)))
 (sCons (sIf (tCmp .Eq (oLoc 0) (oLoc 3)) (sCons (sAsg (.loc 12) (oBin .Sub (oLoc 11) (oLoc 10)))
 sNil) (sCons (sIf (tCmp .Eq (oLoc 1) (oLoc 3)) (sCons (sAsg (.loc 12) (oBin .Sub (oBin .Add (oK (.flt 4611686018427387904)) (oLoc 9)) (oLoc 11)))
 sNil) (sCons (sAsg (.loc 12) (oBin .Sub (oBin .Add (oK (.flt 4616189618054758400)) (oLoc 10)) (oLoc 9)))
 sNil))
 sNil))
 (sCons (sAsg (.loc 12) (oBin .Mod (oBin .Div (oLoc 12) (oK (.flt 4618441417868443648))) (oK (.flt 4607182418800017408))))
 (sCons (sRet (oTup (oCons (oLoc 12) (oCons (oLoc 7) (oCons (oLoc 8) oNil)))))
 sNil)))))))))))))
noncomputable def p1_rgb_to_hsv : Fd where
  params := [Str.ofString "r", Str.ofString "g", Str.ofString "b"]
  locs := [Str.ofString "r", Str.ofString "g", Str.ofString "b", Str.ofString "maxc", Str.ofString "minc", Str.ofString "rangec", Str.ofString "v", Str.ofString "s", Str.ofString "rc", Str.ofString "gc", Str.ofString "bc", Str.ofString "h"]
  names := [(Str.ofString "r", .local), (Str.ofString "g", .local), (Str.ofString "b", .local), (Str.ofString "maxc", .local), (Str.ofString "minc", .local), (Str.ofString "rangec", .local), (Str.ofString "v", .local), (Str.ofString "s", .local), (Str.ofString "rc", .local), (Str.ofString "gc", .local), (Str.ofString "bc", .local), (Str.ofString "h", .local), (Str.ofString "max", .globalImplicit), (Str.ofString "min", .globalImplicit)]
  body := [
 .Assign [(.Name (Str.ofString "maxc") ⟨30, 4, 30, 8⟩)] (.Call (.Name (Str.ofString "max") ⟨30, 11, 30, 14⟩) [(.Name (Str.ofString "r") ⟨30, 15, 30, 16⟩), (.Name (Str.ofString "g") ⟨30, 18, 30, 19⟩), (.Name (Str.ofString "b") ⟨30, 21, 30, 22⟩)] [] ⟨30, 11, 30, 23⟩) ⟨30, 4, 30, 23⟩,
 .Assign [(.Name (Str.ofString "minc") ⟨31, 4, 31, 8⟩)] (.Call (.Name (Str.ofString "min") ⟨31, 11, 31, 14⟩) [(.Name (Str.ofString "r") ⟨31, 15, 31, 16⟩), (.Name (Str.ofString "g") ⟨31, 18, 31, 19⟩), (.Name (Str.ofString "b") ⟨31, 21, 31, 22⟩)] [] ⟨31, 11, 31, 23⟩) ⟨31, 4, 31, 23⟩,
 .Assign [(.Name (Str.ofString "rangec") ⟨32, 4, 32, 10⟩)] (.BinOp (.Name (Str.ofString "maxc") ⟨32, 13, 32, 17⟩) .Sub (.Name (Str.ofString "minc") ⟨32, 20, 32, 24⟩) ⟨32, 13, 32, 24⟩) ⟨32, 4, 32, 24⟩,
 .Assign [(.Name (Str.ofString "v") ⟨33, 4, 33, 5⟩)] (.Name (Str.ofString "maxc") ⟨33, 8, 33, 12⟩) ⟨33, 4, 33, 12⟩,
 .If (.Compare (.Name (Str.ofString "minc") ⟨34, 7, 34, 11⟩) [.Eq] [(.Name (Str.ofString "maxc") ⟨34, 15, 34, 19⟩)] ⟨34, 7, 34, 19⟩) [.Return (some (.Tuple [(.Constant (.float 0) 0 ⟨35, 16, 35, 19⟩), (.Constant (.float 0) 0 ⟨35, 21, 35, 24⟩), (.Name (Str.ofString "v") ⟨35, 26, 35, 27⟩)] 0 ⟨35, 15, 35, 28⟩)) ⟨35, 8, 35, 28⟩] [] ⟨34, 4, 35, 28⟩,
 .Assign [(.Name (Str.ofString "s") ⟨36, 4, 36, 5⟩)] (.BinOp (.Name (Str.ofString "rangec") ⟨36, 8, 36, 14⟩) .Div (.Name (Str.ofString "maxc") ⟨36, 17, 36, 21⟩) ⟨36, 8, 36, 21⟩) ⟨36, 4, 36, 21⟩,
 .Assign [(.Name (Str.ofString "rc") ⟨37, 4, 37, 6⟩)] (.BinOp (.BinOp (.Name (Str.ofString "maxc") ⟨37, 10, 37, 14⟩) .Sub (.Name (Str.ofString "r") ⟨37, 17, 37, 18⟩) ⟨37, 10, 37, 18⟩) .Div (.Name (Str.ofString "rangec") ⟨37, 22, 37, 28⟩) ⟨37, 9, 37, 28⟩) ⟨37, 4, 37, 28⟩,
 .Assign [(.Name (Str.ofString "gc") ⟨38, 4, 38, 6⟩)] (.BinOp (.BinOp (.Name (Str.ofString "maxc") ⟨38, 10, 38, 14⟩) .Sub (.Name (Str.ofString "g") ⟨38, 17, 38, 18⟩) ⟨38, 10, 38, 18⟩) .Div (.Name (Str.ofString "rangec") ⟨38, 22, 38, 28⟩) ⟨38, 9, 38, 28⟩) ⟨38, 4, 38, 28⟩,
 .Assign [(.Name (Str.ofString "bc") ⟨39, 4, 39, 6⟩)] (.BinOp (.BinOp (.Name (Str.ofString "maxc") ⟨39, 10, 39, 14⟩) .Sub (.Name (Str.ofString "b") ⟨39, 17, 39, 18⟩) ⟨39, 10, 39, 18⟩) .Div (.Name (Str.ofString "rangec") ⟨39, 22, 39, 28⟩) ⟨39, 9, 39, 28⟩) ⟨39, 4, 39, 28⟩,
 .If (.Compare (.Name (Str.ofString "r") ⟨40, 7, 40, 8⟩) [.Eq] [(.Name (Str.ofString "maxc") ⟨40, 12, 40, 16⟩)] ⟨40, 7, 40, 16⟩) [.Assign [(.Name (Str.ofString "h") ⟨41, 8, 41, 9⟩)] (.BinOp (.Name (Str.ofString "bc") ⟨41, 12, 41, 14⟩) .Sub (.Name (Str.ofString "gc") ⟨41, 17, 41, 19⟩) ⟨41, 12, 41, 19⟩) ⟨41, 8, 41, 19⟩] [.If (.Compare (.Name (Str.ofString "g") ⟨42, 9, 42, 10⟩) [.Eq] [(.Name (Str.ofString "maxc") ⟨42, 14, 42, 18⟩)] ⟨42, 9, 42, 18⟩) [.Assign [(.Name (Str.ofString "h") ⟨43, 8, 43, 9⟩)] (.BinOp (.BinOp (.Constant (.float 4611686018427387904) 0 ⟨43, 12, 43, 15⟩) .Add (.Name (Str.ofString "rc") ⟨43, 18, 43, 20⟩) ⟨43, 12, 43, 20⟩) .Sub (.Name (Str.ofString "bc") ⟨43, 23, 43, 25⟩) ⟨43, 12, 43, 25⟩) ⟨43, 8, 43, 25⟩] [.Assign [(.Name (Str.ofString "h") ⟨45, 8, 45, 9⟩)] (.BinOp (.BinOp (.Constant (.float 4616189618054758400) 0 ⟨45, 12, 45, 15⟩) .Add (.Name (Str.ofString "gc") ⟨45, 18, 45, 20⟩) ⟨45, 12, 45, 20⟩) .Sub (.Name (Str.ofString "rc") ⟨45, 23, 45, 25⟩) ⟨45, 12, 45, 25⟩) ⟨45, 8, 45, 25⟩] ⟨42, 4, 45, 25⟩] ⟨40, 4, 45, 25⟩,
 .Assign [(.Name (Str.ofString "h") ⟨46, 4, 46, 5⟩)] (.BinOp (.BinOp (.Name (Str.ofString "h") ⟨46, 8, 46, 9⟩) .Div (.Constant (.float 4618441417868443648) 0 ⟨46, 12, 46, 15⟩) ⟨46, 8, 46, 15⟩) .Mod (.Constant (.float 4607182418800017408) 0 ⟨46, 18, 46, 21⟩) ⟨46, 8, 46, 21⟩) ⟨46, 4, 46, 21⟩,
 .Return (some (.Tuple [(.Name (Str.ofString "h") ⟨47, 12, 47, 13⟩), (.Name (Str.ofString "s") ⟨47, 15, 47, 16⟩), (.Name (Str.ofString "v") ⟨47, 18, 47, 19⟩)] 0 ⟨47, 11, 47, 20⟩)) ⟨47, 4, 47, 20⟩]
noncomputable def o_p1_rgb_to_hsv (C : OC) (D : OD) : OS :=
 (sCons (sAsg (.loc 3) (oMm true (oCons (oLoc 0) (oCons (oLoc 1) (oCons (oLoc 2) oNil)))))
 (sCons (sAsg (.loc 4) (oMm false (oCons (oLoc 0) (oCons (oLoc 1) (oCons (oLoc 2) oNil)))))
 (sCons (sAsg (.loc 5) (oBin .Sub (oLoc 3) (oLoc 4)))
 (sCons (sAsg (.loc 6) (oLoc 3))
 (sCons (sIf (tCmp .Eq (oLoc 4) (oLoc 3)) (sCons (sRet (oTup (oCons (oK (.flt 0)) (oCons (oK (.flt 0)) (oCons (oLoc 6) oNil)))))
 sNil) sNil)
 (sCons (sAsg (.loc 7) (oBin .Div (oLoc 5) (oLoc 3)))
 (sCons (sAsg (.loc 8) (oBin .Div (oBin .Sub (oLoc 3) (oLoc 0)) (oLoc 5)))
 (sCons (sAsg (.loc 9) (oBin .Div (oBin .Sub (oLoc 3) (oLoc 1)) (oLoc 5)))
 (sCons (sAsg (.loc 10) (oBin .Div (oBin .Sub (oLoc 3) (oLoc 2)) (oLoc 5)))
 (sCons (sIf (tCmp .Eq (oLoc 0) (oLoc 3)) (sCons (sAsg (.loc 11) (oBin .Sub (oLoc 10) (oLoc 9)))
 sNil) (sCons (sIf (tCmp .Eq (oLoc 1) (oLoc 3)) (sCons (sAsg (.loc 11) (oBin .Sub (oBin .Add (oK (.flt 4611686018427387904)) (oLoc 8)) (oLoc 10)))
 sNil) (sCons (sAsg (.loc 11) (oBin .Sub (oBin .Add (oK (.flt 4616189618054758400)) (oLoc 9)) (oLoc 8)))
 sNil))
 sNil))
 (sCons (sAsg (.loc 11) (oBin .Mod (oBin .Div (oLoc 11) (oK (.flt 4618441417868443648))) (oK (.flt 4607182418800017408))))
 (sCons (sRet (oTup (oCons (oLoc 11) (oCons (oLoc 7) (oCons (oLoc 6) oNil)))))
 sNil))))))))))))
noncomputable def p1_law_sign : Fd where
  params := [Str.ofString "paint", Str.ofString "second"]
  locs := [Str.ofString "paint", Str.ofString "second", Str.ofString "main", Str.ofString "parts", Str.ofString "told"]
  names := [(Str.ofString "paint", .local), (Str.ofString "second", .local), (Str.ofString "main", .local), (Str.ofString "parts", .local), (Str.ofString "told", .local), (Str.ofString "rgb_to_hls", .globalImplicit), (Str.ofString "rgb_to_hsv", .globalImplicit), (Str.ofString "int", .globalImplicit)]
  body := [
 .Assign [(.Name (Str.ofString "main") ⟨151, 4, 151, 8⟩)] (.BinOp (.Name (Str.ofString "paint") ⟨151, 11, 151, 16⟩) .Mod (.Constant (.int 3) 0 ⟨151, 19, 151, 20⟩) ⟨151, 11, 151, 20⟩) ⟨151, 4, 151, 20⟩,
 .Assign [(.Name (Str.ofString "parts") ⟨152, 4, 152, 9⟩)] (.List [(.Constant (.int 0) 0 ⟨152, 13, 152, 14⟩), (.Constant (.int 0) 0 ⟨152, 16, 152, 17⟩), (.Constant (.int 0) 0 ⟨152, 19, 152, 20⟩)] ⟨152, 12, 152, 21⟩) ⟨152, 4, 152, 21⟩,
 .Assign [.Subscript (.Name (Str.ofString "parts") ⟨153, 4, 153, 9⟩) (.Name (Str.ofString "main") ⟨153, 10, 153, 14⟩) ⟨153, 4, 153, 15⟩] (.BinOp (.Constant (.int 4) 0 ⟨153, 18, 153, 19⟩) .Add (.BinOp (.BinOp (.Name (Str.ofString "paint") ⟨153, 22, 153, 27⟩) .FloorDiv (.Constant (.int 3) 0 ⟨153, 31, 153, 32⟩) ⟨153, 22, 153, 32⟩) .Mod (.Constant (.int 4) 0 ⟨153, 35, 153, 36⟩) ⟨153, 22, 153, 36⟩) ⟨153, 18, 153, 36⟩) ⟨153, 4, 153, 36⟩,
 .Assign [.Subscript (.Name (Str.ofString "parts") ⟨154, 4, 154, 9⟩) (.BinOp (.BinOp (.Name (Str.ofString "main") ⟨154, 11, 154, 15⟩) .Add (.Constant (.int 1) 0 ⟨154, 18, 154, 19⟩) ⟨154, 11, 154, 19⟩) .Mod (.Constant (.int 3) 0 ⟨154, 23, 154, 24⟩) ⟨154, 10, 154, 24⟩) ⟨154, 4, 154, 25⟩] (.BinOp (.BinOp (.Name (Str.ofString "paint") ⟨154, 28, 154, 33⟩) .FloorDiv (.Constant (.int 12) 0 ⟨154, 37, 154, 39⟩) ⟨154, 28, 154, 39⟩) .Mod (.Constant (.int 4) 0 ⟨154, 42, 154, 43⟩) ⟨154, 28, 154, 43⟩) ⟨154, 4, 154, 43⟩,
 .Assign [.Subscript (.Name (Str.ofString "parts") ⟨155, 4, 155, 9⟩) (.BinOp (.BinOp (.Name (Str.ofString "main") ⟨155, 11, 155, 15⟩) .Add (.Constant (.int 2) 0 ⟨155, 18, 155, 19⟩) ⟨155, 11, 155, 19⟩) .Mod (.Constant (.int 3) 0 ⟨155, 23, 155, 24⟩) ⟨155, 10, 155, 24⟩) ⟨155, 4, 155, 25⟩] (.BinOp (.BinOp (.Name (Str.ofString "paint") ⟨155, 28, 155, 33⟩) .FloorDiv (.Constant (.int 48) 0 ⟨155, 37, 155, 39⟩) ⟨155, 28, 155, 39⟩) .Mod (.Constant (.int 4) 0 ⟨155, 42, 155, 43⟩) ⟨155, 28, 155, 43⟩) ⟨155, 4, 155, 43⟩,
 .If (.Name (Str.ofString "second") ⟨156, 7, 156, 13⟩) [.Assign [(.Name (Str.ofString "told") ⟨157, 8, 157, 12⟩)] (.Call (.Name (Str.ofString "rgb_to_hls") ⟨157, 15, 157, 25⟩) [(.BinOp (.Subscript (.Name (Str.ofString "parts") ⟨157, 26, 157, 31⟩) (.Constant (.int 0) 0 ⟨157, 32, 157, 33⟩) ⟨157, 26, 157, 34⟩) .Div (.Constant (.int 8) 0 ⟨157, 37, 157, 38⟩) ⟨157, 26, 157, 38⟩), (.BinOp (.Subscript (.Name (Str.ofString "parts") ⟨157, 40, 157, 45⟩) (.Constant (.int 1) 0 ⟨157, 46, 157, 47⟩) ⟨157, 40, 157, 48⟩) .Div (.Constant (.int 8) 0 ⟨157, 51, 157, 52⟩) ⟨157, 40, 157, 52⟩), (.BinOp (.Subscript (.Name (Str.ofString "parts") ⟨157, 54, 157, 59⟩) (.Constant (.int 2) 0 ⟨157, 60, 157, 61⟩) ⟨157, 54, 157, 62⟩) .Div (.Constant (.int 8) 0 ⟨157, 65, 157, 66⟩) ⟨157, 54, 157, 66⟩)] [] ⟨157, 15, 157, 67⟩) ⟨157, 8, 157, 67⟩] [.Assign [(.Name (Str.ofString "told") ⟨159, 8, 159, 12⟩)] (.Call (.Name (Str.ofString "rgb_to_hsv") ⟨159, 15, 159, 25⟩) [(.BinOp (.Subscript (.Name (Str.ofString "parts") ⟨159, 26, 159, 31⟩) (.Constant (.int 0) 0 ⟨159, 32, 159, 33⟩) ⟨159, 26, 159, 34⟩) .Div (.Constant (.int 8) 0 ⟨159, 37, 159, 38⟩) ⟨159, 26, 159, 38⟩), (.BinOp (.Subscript (.Name (Str.ofString "parts") ⟨159, 40, 159, 45⟩) (.Constant (.int 1) 0 ⟨159, 46, 159, 47⟩) ⟨159, 40, 159, 48⟩) .Div (.Constant (.int 8) 0 ⟨159, 51, 159, 52⟩) ⟨159, 40, 159, 52⟩), (.BinOp (.Subscript (.Name (Str.ofString "parts") ⟨159, 54, 159, 59⟩) (.Constant (.int 2) 0 ⟨159, 60, 159, 61⟩) ⟨159, 54, 159, 62⟩) .Div (.Constant (.int 8) 0 ⟨159, 65, 159, 66⟩) ⟨159, 54, 159, 66⟩)] [] ⟨159, 15, 159, 67⟩) ⟨159, 8, 159, 67⟩] ⟨156, 4, 159, 67⟩,
 .Return (some (.Subscript (.Constant (.str (Str.ofString ".gb")) 0 ⟨160, 11, 160, 16⟩) (.BinOp (.Call (.Name (Str.ofString "int") ⟨160, 17, 160, 20⟩) [(.BinOp (.BinOp (.Subscript (.Name (Str.ofString "told") ⟨160, 21, 160, 25⟩) (.Constant (.int 0) 0 ⟨160, 26, 160, 27⟩) ⟨160, 21, 160, 28⟩) .Mult (.Constant (.int 3) 0 ⟨160, 31, 160, 32⟩) ⟨160, 21, 160, 32⟩) .Add (.Constant (.float 4602678819172646912) 0 ⟨160, 35, 160, 38⟩) ⟨160, 21, 160, 38⟩)] [] ⟨160, 17, 160, 39⟩) .Mod (.Constant (.int 3) 0 ⟨160, 42, 160, 43⟩) ⟨160, 17, 160, 43⟩) ⟨160, 11, 160, 44⟩)) ⟨160, 4, 160, 44⟩]
noncomputable def o_p1_law_sign (C : OC) (D : OD) : OS :=
 (sCons (sAsg (.loc 2) (oBin .Mod (oLoc 0) (oK (.int 3))))
 (sCons (sAsg (.loc 3) (oLstM (oCons (oK (.int 0)) (oCons (oK (.int 0)) (oCons (oK (.int 0)) oNil)))))
 (sCons (sSeti (oLoc 3) (oLoc 2) (oBin .Add (oK (.int 4)) (oBin .Mod (oBin .FloorDiv (oLoc 0) (oK (.int 3))) (oK (.int 4)))))
 (sCons (sSeti (oLoc 3) (oBin .Mod (oBin .Add (oLoc 2) (oK (.int 1))) (oK (.int 3))) (oBin .Mod (oBin .FloorDiv (oLoc 0) (oK (.int 12))) (oK (.int 4))))
 (sCons (sSeti (oLoc 3) (oBin .Mod (oBin .Add (oLoc 2) (oK (.int 2))) (oK (.int 3))) (oBin .Mod (oBin .FloorDiv (oLoc 0) (oK (.int 48))) (oK (.int 4))))
 (sCons (sIf (tVal (oLoc 1)) (sCons (sAsg (.loc 4) (oFc C 0 (oCons (oBin .Div (oSub (oLoc 3) (oK (.int 0))) (oK (.int 8))) (oCons (oBin .Div (oSub (oLoc 3) (oK (.int 1))) (oK (.int 8))) (oCons (oBin .Div (oSub (oLoc 3) (oK (.int 2))) (oK (.int 8))) oNil)))))
 sNil) (sCons (sAsg (.loc 4) (oFc C 1 (oCons (oBin .Div (oSub (oLoc 3) (oK (.int 0))) (oK (.int 8))) (oCons (oBin .Div (oSub (oLoc 3) (oK (.int 1))) (oK (.int 8))) (oCons (oBin .Div (oSub (oLoc 3) (oK (.int 2))) (oK (.int 8))) oNil)))))
 sNil))
 (sCons (sRet (oSub (oK (.str [46, 103, 98])) (oBin .Mod (oToInt (oBin .Add (oBin .Mult (oSub (oLoc 4) (oK (.int 0))) (oK (.int 3))) (oK (.flt 4602678819172646912)))) (oK (.int 3)))))
 sNil)))))))
noncomputable def p1_law_lay : Fd where
  params := [Str.ofString "table", Str.ofString "three", Str.ofString "place"]
  locs := [Str.ofString "table", Str.ofString "three", Str.ofString "place", Str.ofString "name"]
  names := [(Str.ofString "table", .local), (Str.ofString "three", .local), (Str.ofString "place", .local), (Str.ofString "name", .local), (Str.ofString "min", .globalImplicit), (Str.ofString "len", .globalImplicit)]
  body := [
 .Assign [(.Name (Str.ofString "name") ⟨162, 4, 162, 8⟩)] (.Call (.Name (Str.ofString "min") ⟨162, 11, 162, 14⟩) [(.List [(.Name (Str.ofString "three") ⟨162, 16, 162, 21⟩), (.BinOp (.Subscript (.Name (Str.ofString "three") ⟨162, 23, 162, 28⟩) (.Slice (some (.Constant (.int 1) 0 ⟨162, 29, 162, 30⟩)) none none ⟨162, 29, 162, 31⟩) ⟨162, 23, 162, 32⟩) .Add (.Subscript (.Name (Str.ofString "three") ⟨162, 35, 162, 40⟩) (.Constant (.int 0) 0 ⟨162, 41, 162, 42⟩) ⟨162, 35, 162, 43⟩) ⟨162, 23, 162, 43⟩), (.BinOp (.Subscript (.Name (Str.ofString "three") ⟨162, 45, 162, 50⟩) (.Constant (.int 2) 0 ⟨162, 51, 162, 52⟩) ⟨162, 45, 162, 53⟩) .Add (.Subscript (.Name (Str.ofString "three") ⟨162, 56, 162, 61⟩) (.Slice none (some (.Constant (.int 2) 0 ⟨162, 63, 162, 64⟩)) none ⟨162, 62, 162, 64⟩) ⟨162, 56, 162, 65⟩) ⟨162, 45, 162, 65⟩)] ⟨162, 15, 162, 66⟩)] [] ⟨162, 11, 162, 67⟩) ⟨162, 4, 162, 67⟩,
 .Expr (.Call (.Attribute (.Name (Str.ofString "table") ⟨163, 4, 163, 9⟩) (Str.ofString "add_header") ⟨163, 4, 163, 20⟩) [(.IfExp (.BinOp (.Call (.Name (Str.ofString "len") ⟨163, 37, 163, 40⟩) [(.Name (Str.ofString "table") ⟨163, 41, 163, 46⟩)] [] ⟨163, 37, 163, 47⟩) .Mod (.Constant (.int 2) 0 ⟨163, 50, 163, 51⟩) ⟨163, 37, 163, 51⟩) (.Call (.Attribute (.Name (Str.ofString "name") ⟨163, 21, 163, 25⟩) (Str.ofString "upper") ⟨163, 21, 163, 31⟩) [] [] ⟨163, 21, 163, 33⟩) (.Name (Str.ofString "name") ⟨163, 57, 163, 61⟩) ⟨163, 21, 163, 61⟩), (.Name (Str.ofString "place") ⟨163, 63, 163, 68⟩)] [] ⟨163, 4, 163, 69⟩) ⟨163, 4, 163, 69⟩]
noncomputable def o_p1_law_lay (C : OC) (D : OD) : OS :=
 (sCons (sAsg (.loc 3) (oMin1 (oLst (oCons (oLoc 1) (oCons (oBin .Add (oSlcFrom (oLoc 1) (oK (.int 1))) (oSub (oLoc 1) (oK (.int 0)))) (oCons (oBin .Add (oSub (oLoc 1) (oK (.int 2))) (oSlcTo (oLoc 1) (oK (.int 2)))) oNil))))))
 (sCons (sExp (oTc D 213 0 (oLoc 0) (oCons (oIfe (tVal (oBin .Mod (oTl D 213 4 (oLoc 0)) (oK (.int 2)))) (oSm .upper (oLoc 3) oNil) (oLoc 3)) (oCons (oLoc 2) oNil))))
 sNil))
noncomputable def p1_law_rim : Fd where
  params := [Str.ofString "heard", Str.ofString "size"]
  locs := [Str.ofString "left", Str.ofString "low", Str.ofString "right"]
  names := [(Str.ofString "heard", .cell), (Str.ofString "size", .cell), (Str.ofString "left", .local), (Str.ofString "low", .local), (Str.ofString "right", .local), (Str.ofString "range", .globalImplicit)]
  body := [
 .Assign [(.Name (Str.ofString "left") ⟨165, 4, 165, 8⟩)] (.ListComp (.Subscript (.Subscript (.Name (Str.ofString "heard") ⟨165, 12, 165, 17⟩) (.Name (Str.ofString "k") ⟨165, 18, 165, 19⟩) ⟨165, 12, 165, 20⟩) (.Constant (.int 0) 0 ⟨165, 21, 165, 22⟩) ⟨165, 12, 165, 23⟩) [⟨.Name (Str.ofString "k") ⟨165, 28, 165, 29⟩, .Call (.Name (Str.ofString "range") ⟨165, 33, 165, 38⟩) [(.Name (Str.ofString "size") ⟨165, 39, 165, 43⟩)] [] ⟨165, 33, 165, 44⟩, [], 0⟩] { kind := .function, names := [(Str.ofString ".0", .local), (Str.ofString "k", .local), (Str.ofString "heard", .free)], isGenerator := false, isCoroutine := false, more := [] } ⟨165, 11, 165, 45⟩) ⟨165, 4, 165, 45⟩,
 .Assign [(.Name (Str.ofString "low") ⟨166, 4, 166, 7⟩)] (.ListComp (.Subscript (.Subscript (.Name (Str.ofString "heard") ⟨166, 11, 166, 16⟩) (.Name (Str.ofString "size") ⟨166, 17, 166, 21⟩) ⟨166, 11, 166, 22⟩) (.Name (Str.ofString "k") ⟨166, 23, 166, 24⟩) ⟨166, 11, 166, 25⟩) [⟨.Name (Str.ofString "k") ⟨166, 30, 166, 31⟩, .Call (.Name (Str.ofString "range") ⟨166, 35, 166, 40⟩) [(.Name (Str.ofString "size") ⟨166, 41, 166, 45⟩)] [] ⟨166, 35, 166, 46⟩, [], 0⟩] { kind := .function, names := [(Str.ofString ".0", .local), (Str.ofString "k", .local), (Str.ofString "heard", .free), (Str.ofString "size", .free)], isGenerator := false, isCoroutine := false, more := [] } ⟨166, 10, 166, 47⟩) ⟨166, 4, 166, 47⟩,
 .Assign [(.Name (Str.ofString "right") ⟨167, 4, 167, 9⟩)] (.ListComp (.Subscript (.Subscript (.Name (Str.ofString "heard") ⟨167, 13, 167, 18⟩) (.BinOp (.Name (Str.ofString "size") ⟨167, 19, 167, 23⟩) .Sub (.Name (Str.ofString "k") ⟨167, 26, 167, 27⟩) ⟨167, 19, 167, 27⟩) ⟨167, 13, 167, 28⟩) (.BinOp (.Name (Str.ofString "size") ⟨167, 29, 167, 33⟩) .Sub (.Name (Str.ofString "k") ⟨167, 36, 167, 37⟩) ⟨167, 29, 167, 37⟩) ⟨167, 13, 167, 38⟩) [⟨.Name (Str.ofString "k") ⟨167, 43, 167, 44⟩, .Call (.Name (Str.ofString "range") ⟨167, 48, 167, 53⟩) [(.Name (Str.ofString "size") ⟨167, 54, 167, 58⟩)] [] ⟨167, 48, 167, 59⟩, [], 0⟩] { kind := .function, names := [(Str.ofString ".0", .local), (Str.ofString "k", .local), (Str.ofString "heard", .free), (Str.ofString "size", .free)], isGenerator := false, isCoroutine := false, more := [] } ⟨167, 12, 167, 60⟩) ⟨167, 4, 167, 60⟩,
 .Return (some (.Call (.Attribute (.Constant (.str (Str.ofString "")) 0 ⟨168, 11, 168, 13⟩) (Str.ofString "join") ⟨168, 11, 168, 18⟩) [(.BinOp (.BinOp (.BinOp (.Name (Str.ofString "left") ⟨168, 19, 168, 23⟩) .Add (.Name (Str.ofString "low") ⟨168, 26, 168, 29⟩) ⟨168, 19, 168, 29⟩) .Add (.Name (Str.ofString "right") ⟨168, 32, 168, 37⟩) ⟨168, 19, 168, 37⟩) .Add (.Subscript (.Name (Str.ofString "left") ⟨168, 40, 168, 44⟩) (.Slice none (some (.Constant (.int 1) 0 ⟨168, 46, 168, 47⟩)) none ⟨168, 45, 168, 47⟩) ⟨168, 40, 168, 48⟩) ⟨168, 19, 168, 48⟩)] [] ⟨168, 11, 168, 49⟩)) ⟨168, 4, 168, 49⟩]
noncomputable def o_p1_law_rim (C : OC) (D : OD) : OS :=
 (sCons (sAsg (.loc 0) (oCompR1 (oSub (oSub (oCel 1) (oCv 0)) (oK (.int 0))) (oCel 2) tNil))
 (sCons (sAsg (.loc 1) (oCompR1 (oSub (oSub (oCel 1) (oCel 2)) (oCv 0)) (oCel 2) tNil))
 (sCons (sAsg (.loc 2) (oCompR1 (oSub (oSub (oCel 1) (oBin .Sub (oCel 2) (oCv 0))) (oBin .Sub (oCel 2) (oCv 0))) (oCel 2) tNil))
 (sCons (sRet (oSm .join (oK (.str [])) (oCons (oBin .Add (oBin .Add (oBin .Add (oLoc 0) (oLoc 1)) (oLoc 2)) (oSlcTo (oLoc 0) (oK (.int 1)))) oNil)))
 sNil))))
noncomputable def p1_law_b0 : List Stmt := [
 .Assign [(.Name (Str.ofString "letter") ⟨176, 12, 176, 18⟩)] (.BinOp (.Name (Str.ofString "letter") ⟨176, 21, 176, 27⟩) .Add (.Call (.Name (Str.ofString "_law_sign") ⟨176, 30, 176, 39⟩) [(.Subscript (.Name (Str.ofString "paints") ⟨176, 40, 176, 46⟩) (.Name (Str.ofString "k") ⟨176, 47, 176, 48⟩) ⟨176, 40, 176, 49⟩), (.Compare (.BinOp (.Name (Str.ofString "k") ⟨176, 51, 176, 52⟩) .Mod (.Constant (.int 2) 0 ⟨176, 55, 176, 56⟩) ⟨176, 51, 176, 56⟩) [.Eq] [(.Constant (.int 1) 0 ⟨176, 60, 176, 61⟩)] ⟨176, 51, 176, 61⟩)] [] ⟨176, 30, 176, 62⟩) ⟨176, 21, 176, 62⟩) ⟨176, 12, 176, 62⟩]
noncomputable def p1_law_b1 : List Stmt := [
 .For (.Name (Str.ofString "k") ⟨175, 12, 175, 13⟩) (.Call (.Name (Str.ofString "range") ⟨175, 17, 175, 22⟩) [(.Call (.Name (Str.ofString "len") ⟨175, 23, 175, 26⟩) [(.Name (Str.ofString "paints") ⟨175, 27, 175, 33⟩)] [] ⟨175, 23, 175, 34⟩)] [] ⟨175, 17, 175, 35⟩) p1_law_b0 [] ⟨175, 8, 176, 62⟩,
 .Assign [(.Name (Str.ofString "letter") ⟨177, 8, 177, 14⟩)] (.BinOp (.Name (Str.ofString "letter") ⟨177, 17, 177, 23⟩) .Add (.Subscript (.Tuple [(.Constant (.str (Str.ofString "\n")) 0 ⟨177, 27, 177, 31⟩), (.Constant (.str (Str.ofString "\u000d")) 0 ⟨177, 33, 177, 37⟩), (.Constant (.str (Str.ofString "\u000d\n")) 0 ⟨177, 39, 177, 45⟩)] 0 ⟨177, 26, 177, 46⟩) (.BinOp (.Subscript (.Name (Str.ofString "paints") ⟨177, 47, 177, 53⟩) (.Constant (.int 0) 0 ⟨177, 54, 177, 55⟩) ⟨177, 47, 177, 56⟩) .FloorDiv (.Constant (.int 192) 0 ⟨177, 60, 177, 63⟩) ⟨177, 47, 177, 63⟩) ⟨177, 26, 177, 64⟩) ⟨177, 17, 177, 64⟩) ⟨177, 8, 177, 64⟩]
noncomputable def p1_law_b2 : List Stmt := [
 .Expr (.Call (.Name (Str.ofString "_law_lay") ⟨189, 12, 189, 20⟩) [(.Name (Str.ofString "table") ⟨189, 21, 189, 26⟩), (.BinOp (.BinOp (.Subscript (.Name (Str.ofString "over") ⟨189, 28, 189, 32⟩) (.Name (Str.ofString "k") ⟨189, 33, 189, 34⟩) ⟨189, 28, 189, 35⟩) .Add (.Subscript (.Name (Str.ofString "under") ⟨189, 38, 189, 43⟩) (.Name (Str.ofString "k") ⟨189, 44, 189, 45⟩) ⟨189, 38, 189, 46⟩) ⟨189, 28, 189, 46⟩) .Add (.Subscript (.Name (Str.ofString "under") ⟨189, 49, 189, 54⟩) (.BinOp (.Name (Str.ofString "k") ⟨189, 55, 189, 56⟩) .Add (.Constant (.int 1) 0 ⟨189, 59, 189, 60⟩) ⟨189, 55, 189, 60⟩) ⟨189, 49, 189, 61⟩) ⟨189, 28, 189, 61⟩), (.BinOp (.BinOp (.Call (.Name (Str.ofString "str") ⟨189, 63, 189, 66⟩) [(.Name (Str.ofString "size") ⟨189, 67, 189, 71⟩)] [] ⟨189, 63, 189, 72⟩) .Add (.Call (.Name (Str.ofString "str") ⟨189, 75, 189, 78⟩) [(.Name (Str.ofString "k") ⟨189, 79, 189, 80⟩)] [] ⟨189, 75, 189, 81⟩) ⟨189, 63, 189, 81⟩) .Add (.Constant (.str (Str.ofString "u")) 0 ⟨189, 84, 189, 87⟩) ⟨189, 63, 189, 87⟩)] [] ⟨189, 12, 189, 88⟩) ⟨189, 12, 189, 88⟩]
noncomputable def p1_law_b3 : List Stmt := [
 .Expr (.Call (.Name (Str.ofString "_law_lay") ⟨191, 12, 191, 20⟩) [(.Name (Str.ofString "table") ⟨191, 21, 191, 26⟩), (.BinOp (.BinOp (.Subscript (.Name (Str.ofString "over") ⟨191, 28, 191, 32⟩) (.Name (Str.ofString "k") ⟨191, 33, 191, 34⟩) ⟨191, 28, 191, 35⟩) .Add (.Subscript (.Name (Str.ofString "under") ⟨191, 38, 191, 43⟩) (.BinOp (.Name (Str.ofString "k") ⟨191, 44, 191, 45⟩) .Add (.Constant (.int 1) 0 ⟨191, 48, 191, 49⟩) ⟨191, 44, 191, 49⟩) ⟨191, 38, 191, 50⟩) ⟨191, 28, 191, 50⟩) .Add (.Subscript (.Name (Str.ofString "over") ⟨191, 53, 191, 57⟩) (.BinOp (.Name (Str.ofString "k") ⟨191, 58, 191, 59⟩) .Add (.Constant (.int 1) 0 ⟨191, 62, 191, 63⟩) ⟨191, 58, 191, 63⟩) ⟨191, 53, 191, 64⟩) ⟨191, 28, 191, 64⟩), (.BinOp (.BinOp (.Call (.Name (Str.ofString "str") ⟨191, 66, 191, 69⟩) [(.Name (Str.ofString "size") ⟨191, 70, 191, 74⟩)] [] ⟨191, 66, 191, 75⟩) .Add (.Call (.Name (Str.ofString "str") ⟨191, 78, 191, 81⟩) [(.Name (Str.ofString "k") ⟨191, 82, 191, 83⟩)] [] ⟨191, 78, 191, 84⟩) ⟨191, 66, 191, 84⟩) .Add (.Constant (.str (Str.ofString "d")) 0 ⟨191, 87, 191, 90⟩) ⟨191, 66, 191, 90⟩)] [] ⟨191, 12, 191, 91⟩) ⟨191, 12, 191, 91⟩]
noncomputable def p1_law_b4 : List Stmt := [
 .Assign [(.Name (Str.ofString "turned") ⟨198, 12, 198, 18⟩)] (.BinOp (.BinOp (.Name (Str.ofString "turned") ⟨198, 21, 198, 27⟩) .Add (.BinOp (.BinOp (.BinOp (.Call (.Attribute (.Constant (.str (Str.ofString ".gb")) 0 ⟨198, 31, 198, 36⟩) (Str.ofString "index") ⟨198, 31, 198, 42⟩) [(.Subscript (.Name (Str.ofString "rim") ⟨198, 43, 198, 46⟩) (.BinOp (.Name (Str.ofString "k") ⟨198, 47, 198, 48⟩) .Add (.Constant (.int 1) 0 ⟨198, 51, 198, 52⟩) ⟨198, 47, 198, 52⟩) ⟨198, 43, 198, 53⟩)] [] ⟨198, 31, 198, 54⟩) .Sub (.Call (.Attribute (.Constant (.str (Str.ofString ".gb")) 0 ⟨198, 57, 198, 62⟩) (Str.ofString "index") ⟨198, 57, 198, 68⟩) [(.Subscript (.Name (Str.ofString "rim") ⟨198, 69, 198, 72⟩) (.Name (Str.ofString "k") ⟨198, 73, 198, 74⟩) ⟨198, 69, 198, 75⟩)] [] ⟨198, 57, 198, 76⟩) ⟨198, 31, 198, 76⟩) .Add (.Constant (.int 1) 0 ⟨198, 79, 198, 80⟩) ⟨198, 31, 198, 80⟩) .Mod (.Constant (.int 3) 0 ⟨198, 84, 198, 85⟩) ⟨198, 30, 198, 85⟩) ⟨198, 21, 198, 85⟩) .Sub (.Constant (.int 1) 0 ⟨198, 88, 198, 89⟩) ⟨198, 21, 198, 89⟩) ⟨198, 12, 198, 89⟩,
 .If (.BoolOp .Or [(.Compare (.Subscript (.Name (Str.ofString "rim") ⟨199, 15, 199, 18⟩) (.Slice (some (.Name (Str.ofString "k") ⟨199, 19, 199, 20⟩)) (some (.BinOp (.Name (Str.ofString "k") ⟨199, 21, 199, 22⟩) .Add (.Constant (.int 2) 0 ⟨199, 25, 199, 26⟩) ⟨199, 21, 199, 26⟩)) none ⟨199, 19, 199, 26⟩) ⟨199, 15, 199, 27⟩) [.Eq] [(.Constant (.str (Str.ofString ".g")) 0 ⟨199, 31, 199, 35⟩)] ⟨199, 15, 199, 35⟩), (.Compare (.Subscript (.Name (Str.ofString "rim") ⟨199, 39, 199, 42⟩) (.Slice (some (.Name (Str.ofString "k") ⟨199, 43, 199, 44⟩)) (some (.BinOp (.Name (Str.ofString "k") ⟨199, 45, 199, 46⟩) .Add (.Constant (.int 2) 0 ⟨199, 49, 199, 50⟩) ⟨199, 45, 199, 50⟩)) none ⟨199, 43, 199, 50⟩) ⟨199, 39, 199, 51⟩) [.Eq] [(.Constant (.str (Str.ofString "g.")) 0 ⟨199, 55, 199, 59⟩)] ⟨199, 39, 199, 59⟩)] ⟨199, 15, 199, 59⟩) [.Assign [(.Name (Str.ofString "doors") ⟨200, 16, 200, 21⟩)] (.BinOp (.Name (Str.ofString "doors") ⟨200, 24, 200, 29⟩) .Add (.Constant (.int 1) 0 ⟨200, 32, 200, 33⟩) ⟨200, 24, 200, 33⟩) ⟨200, 16, 200, 33⟩] [] ⟨199, 12, 200, 33⟩]
noncomputable def p1_law_b5 : List Stmt := [
 .Assign [(.Name (Str.ofString "over") ⟨186, 8, 186, 12⟩)] (.Subscript (.Name (Str.ofString "heard") ⟨186, 15, 186, 20⟩) (.BinOp (.Name (Str.ofString "size") ⟨186, 21, 186, 25⟩) .Sub (.Constant (.int 1) 0 ⟨186, 28, 186, 29⟩) ⟨186, 21, 186, 29⟩) ⟨186, 15, 186, 30⟩) ⟨186, 8, 186, 30⟩,
 .Assign [(.Name (Str.ofString "under") ⟨187, 8, 187, 13⟩)] (.Subscript (.Name (Str.ofString "heard") ⟨187, 16, 187, 21⟩) (.Name (Str.ofString "size") ⟨187, 22, 187, 26⟩) ⟨187, 16, 187, 27⟩) ⟨187, 8, 187, 27⟩,
 .For (.Name (Str.ofString "k") ⟨188, 12, 188, 13⟩) (.Call (.Name (Str.ofString "range") ⟨188, 17, 188, 22⟩) [(.Name (Str.ofString "size") ⟨188, 23, 188, 27⟩)] [] ⟨188, 17, 188, 28⟩) p1_law_b2 [] ⟨188, 8, 189, 88⟩,
 .For (.Name (Str.ofString "k") ⟨190, 12, 190, 13⟩) (.Call (.Name (Str.ofString "range") ⟨190, 17, 190, 22⟩) [(.BinOp (.Name (Str.ofString "size") ⟨190, 23, 190, 27⟩) .Sub (.Constant (.int 1) 0 ⟨190, 30, 190, 31⟩) ⟨190, 23, 190, 31⟩)] [] ⟨190, 17, 190, 32⟩) p1_law_b3 [] ⟨190, 8, 191, 91⟩,
 .Assign [(.Name (Str.ofString "onward") ⟨192, 8, 192, 14⟩)] (.Call (.Name (Str.ofString "len") ⟨192, 17, 192, 20⟩) [(.Call (.Attribute (.Name (Str.ofString "table") ⟨192, 21, 192, 26⟩) (Str.ofString "get_all") ⟨192, 21, 192, 34⟩) [(.Constant (.str (Str.ofString ".gB")) 0 ⟨192, 35, 192, 40⟩)] [] ⟨192, 21, 192, 41⟩)] [] ⟨192, 17, 192, 42⟩) ⟨192, 8, 192, 42⟩,
 .Assign [(.Name (Str.ofString "back") ⟨193, 8, 193, 12⟩)] (.Call (.Name (Str.ofString "len") ⟨193, 15, 193, 18⟩) [(.Call (.Attribute (.Name (Str.ofString "table") ⟨193, 19, 193, 24⟩) (Str.ofString "get_all") ⟨193, 19, 193, 32⟩) [(.Constant (.str (Str.ofString ".Bg")) 0 ⟨193, 33, 193, 38⟩)] [] ⟨193, 19, 193, 39⟩)] [] ⟨193, 15, 193, 40⟩) ⟨193, 8, 193, 40⟩,
 .Assign [(.Name (Str.ofString "rim") ⟨194, 8, 194, 11⟩)] (.Call (.Name (Str.ofString "_law_rim") ⟨194, 14, 194, 22⟩) [(.Name (Str.ofString "heard") ⟨194, 23, 194, 28⟩), (.Name (Str.ofString "size") ⟨194, 30, 194, 34⟩)] [] ⟨194, 14, 194, 35⟩) ⟨194, 8, 194, 35⟩,
 .Assign [(.Name (Str.ofString "turned") ⟨195, 8, 195, 14⟩)] (.Constant (.int 0) 0 ⟨195, 17, 195, 18⟩) ⟨195, 8, 195, 18⟩,
 .Assign [(.Name (Str.ofString "doors") ⟨196, 8, 196, 13⟩)] (.Constant (.int 0) 0 ⟨196, 16, 196, 17⟩) ⟨196, 8, 196, 17⟩,
 .For (.Name (Str.ofString "k") ⟨197, 12, 197, 13⟩) (.Call (.Name (Str.ofString "range") ⟨197, 17, 197, 22⟩) [(.BinOp (.Constant (.int 3) 0 ⟨197, 23, 197, 24⟩) .Mult (.Name (Str.ofString "size") ⟨197, 27, 197, 31⟩) ⟨197, 23, 197, 31⟩)] [] ⟨197, 17, 197, 32⟩) p1_law_b4 [] ⟨197, 8, 200, 33⟩,
 .If (.BoolOp .Or [(.Compare (.BinOp (.Constant (.int 3) 0 ⟨201, 11, 201, 12⟩) .Mult (.BinOp (.Name (Str.ofString "onward") ⟨201, 16, 201, 22⟩) .Sub (.Name (Str.ofString "back") ⟨201, 25, 201, 29⟩) ⟨201, 16, 201, 29⟩) ⟨201, 11, 201, 30⟩) [.NotEq] [(.Name (Str.ofString "turned") ⟨201, 34, 201, 40⟩)] ⟨201, 11, 201, 40⟩), (.Compare (.BinOp (.BinOp (.Name (Str.ofString "onward") ⟨201, 45, 201, 51⟩) .Add (.Name (Str.ofString "back") ⟨201, 54, 201, 58⟩) ⟨201, 45, 201, 58⟩) .Mod (.Constant (.int 2) 0 ⟨201, 62, 201, 63⟩) ⟨201, 44, 201, 63⟩) [.NotEq] [(.BinOp (.Name (Str.ofString "doors") ⟨201, 67, 201, 72⟩) .Mod (.Constant (.int 2) 0 ⟨201, 75, 201, 76⟩) ⟨201, 67, 201, 76⟩)] ⟨201, 44, 201, 76⟩)] ⟨201, 11, 201, 76⟩) [.Return (some (.Constant (.bool false) 0 ⟨202, 19, 202, 24⟩)) ⟨202, 12, 202, 24⟩] [] ⟨201, 8, 202, 24⟩]
noncomputable def p1_law : Fd where
  params := [Str.ofString "script"]
  locs := [Str.ofString "script", Str.ofString "size", Str.ofString "rows", Str.ofString "letter", Str.ofString "paints", Str.ofString "k", Str.ofString "sent", Str.ofString "heard", Str.ofString "table", Str.ofString "over", Str.ofString "under", Str.ofString "onward", Str.ofString "back", Str.ofString "rim", Str.ofString "turned", Str.ofString "doors"]
  names := [(Str.ofString "script", .local), (Str.ofString "drawn", .cell), (Str.ofString "size", .local), (Str.ofString "rows", .local), (Str.ofString "letter", .local), (Str.ofString "paints", .local), (Str.ofString "k", .local), (Str.ofString "sent", .local), (Str.ofString "heard", .local), (Str.ofString "table", .local), (Str.ofString "over", .local), (Str.ofString "under", .local), (Str.ofString "onward", .local), (Str.ofString "back", .local), (Str.ofString "rim", .local), (Str.ofString "turned", .local), (Str.ofString "doors", .local), (Str.ofString "len", .globalImplicit), (Str.ofString "range", .globalImplicit), (Str.ofString "_law_sign", .globalImplicit), (Str.ofString "quotedata", .globalImplicit), (Str.ofString "Headers", .globalImplicit), (Str.ofString "_law_lay", .globalImplicit), (Str.ofString "str", .globalImplicit), (Str.ofString "_law_rim", .globalImplicit)]
  body := [
 .Assign [(.Name (Str.ofString "drawn") ⟨170, 4, 170, 9⟩)] (.ListComp (.BinOp (.Name (Str.ofString "x") ⟨170, 13, 170, 14⟩) .Mod (.Constant (.int 576) 0 ⟨170, 17, 170, 20⟩) ⟨170, 13, 170, 20⟩) [⟨.Name (Str.ofString "x") ⟨170, 25, 170, 26⟩, (.Subscript (.Name (Str.ofString "script") ⟨170, 30, 170, 36⟩) (.Slice none (some (.Constant (.int 15) 0 ⟨170, 38, 170, 40⟩)) none ⟨170, 37, 170, 40⟩) ⟨170, 30, 170, 41⟩), [], 0⟩] { kind := .function, names := [(Str.ofString ".0", .local), (Str.ofString "x", .local)], isGenerator := false, isCoroutine := false, more := [] } ⟨170, 12, 170, 42⟩) ⟨170, 4, 170, 42⟩,
 .Assign [(.Name (Str.ofString "drawn") ⟨171, 4, 171, 9⟩)] (.BinOp (.Name (Str.ofString "drawn") ⟨171, 12, 171, 17⟩) .Add (.Subscript (.List [(.Constant (.int 0) 0 ⟨171, 21, 171, 22⟩), (.Constant (.int 3) 0 ⟨171, 24, 171, 25⟩), (.Constant (.int 8) 0 ⟨171, 27, 171, 28⟩), (.Constant (.int 397) 0 ⟨171, 30, 171, 33⟩), (.Constant (.int 36) 0 ⟨171, 35, 171, 37⟩), (.Constant (.int 50) 0 ⟨171, 39, 171, 41⟩), (.Constant (.int 99) 0 ⟨171, 43, 171, 45⟩), (.Constant (.int 5) 0 ⟨171, 47, 171, 48⟩), (.Constant (.int 22) 0 ⟨171, 50, 171, 52⟩), (.Constant (.int 191) 0 ⟨171, 54, 171, 57⟩), (.Constant (.int 196) 0 ⟨171, 59, 171, 62⟩), (.Constant (.int 2) 0 ⟨171, 64, 171, 65⟩), (.Constant (.int 25) 0 ⟨171, 67, 171, 69⟩), (.Constant (.int 101) 0 ⟨171, 71, 171, 74⟩), (.Constant (.int 182) 0 ⟨171, 76, 171, 79⟩)] ⟨171, 20, 171, 80⟩) (.Slice (some (.Call (.Name (Str.ofString "len") ⟨171, 81, 171, 84⟩) [(.Name (Str.ofString "drawn") ⟨171, 85, 171, 90⟩)] [] ⟨171, 81, 171, 91⟩)) none none ⟨171, 81, 171, 92⟩) ⟨171, 20, 171, 93⟩) ⟨171, 12, 171, 93⟩) ⟨171, 4, 171, 93⟩,
 .Assign [(.Name (Str.ofString "rows") ⟨172, 4, 172, 8⟩)] (.ListComp (.Subscript (.Subscript (.Name (Str.ofString "drawn") ⟨172, 12, 172, 17⟩) (.Slice (some (.BinOp (.BinOp (.Name (Str.ofString "size") ⟨172, 18, 172, 22⟩) .Mult (.BinOp (.Name (Str.ofString "size") ⟨172, 26, 172, 30⟩) .Add (.Constant (.int 1) 0 ⟨172, 33, 172, 34⟩) ⟨172, 26, 172, 34⟩) ⟨172, 18, 172, 35⟩) .FloorDiv (.Constant (.int 2) 0 ⟨172, 39, 172, 40⟩) ⟨172, 18, 172, 40⟩)) none none ⟨172, 18, 172, 41⟩) ⟨172, 12, 172, 42⟩) (.Slice none (some (.BinOp (.Name (Str.ofString "size") ⟨172, 44, 172, 48⟩) .Add (.Constant (.int 1) 0 ⟨172, 51, 172, 52⟩) ⟨172, 44, 172, 52⟩)) none ⟨172, 43, 172, 52⟩) ⟨172, 12, 172, 53⟩) [⟨.Name (Str.ofString "size") ⟨172, 58, 172, 62⟩, .Call (.Name (Str.ofString "range") ⟨172, 66, 172, 71⟩) [(.Constant (.int 5) 0 ⟨172, 72, 172, 73⟩)] [] ⟨172, 66, 172, 74⟩, [], 0⟩] { kind := .function, names := [(Str.ofString ".0", .local), (Str.ofString "size", .local), (Str.ofString "drawn", .free)], isGenerator := false, isCoroutine := false, more := [] } ⟨172, 11, 172, 75⟩) ⟨172, 4, 172, 75⟩,
 .Assign [(.Name (Str.ofString "letter") ⟨173, 4, 173, 10⟩)] (.Constant (.str (Str.ofString "")) 0 ⟨173, 13, 173, 15⟩) ⟨173, 4, 173, 15⟩,
 .For (.Name (Str.ofString "paints") ⟨174, 8, 174, 14⟩) (.Name (Str.ofString "rows") ⟨174, 18, 174, 22⟩) p1_law_b1 [] ⟨174, 4, 177, 64⟩,
 .Assign [(.Name (Str.ofString "sent") ⟨178, 4, 178, 8⟩)] (.Call (.Attribute (.Call (.Name (Str.ofString "quotedata") ⟨178, 11, 178, 20⟩) [(.Name (Str.ofString "letter") ⟨178, 21, 178, 27⟩)] [] ⟨178, 11, 178, 28⟩) (Str.ofString "split") ⟨178, 11, 178, 34⟩) [(.Constant (.str (Str.ofString "\u000d\n")) 0 ⟨178, 35, 178, 41⟩)] [] ⟨178, 11, 178, 42⟩) ⟨178, 4, 178, 42⟩,
 .Assign [(.Name (Str.ofString "heard") ⟨179, 4, 179, 9⟩)] (.ListComp (.IfExp (.Compare (.Subscript (.Name (Str.ofString "line") ⟨179, 25, 179, 29⟩) (.Slice none (some (.Constant (.int 1) 0 ⟨179, 31, 179, 32⟩)) none ⟨179, 30, 179, 32⟩) ⟨179, 25, 179, 33⟩) [.Eq] [(.Constant (.str (Str.ofString ".")) 0 ⟨179, 37, 179, 40⟩)] ⟨179, 25, 179, 40⟩) (.Subscript (.Name (Str.ofString "line") ⟨179, 13, 179, 17⟩) (.Slice (some (.Constant (.int 1) 0 ⟨179, 18, 179, 19⟩)) none none ⟨179, 18, 179, 20⟩) ⟨179, 13, 179, 21⟩) (.Name (Str.ofString "line") ⟨179, 46, 179, 50⟩) ⟨179, 13, 179, 50⟩) [⟨.Name (Str.ofString "line") ⟨179, 55, 179, 59⟩, (.Name (Str.ofString "sent") ⟨179, 63, 179, 67⟩), [], 0⟩] { kind := .function, names := [(Str.ofString ".0", .local), (Str.ofString "line", .local)], isGenerator := false, isCoroutine := false, more := [] } ⟨179, 12, 179, 68⟩) ⟨179, 4, 179, 68⟩,
 .If (.Compare (.Name (Str.ofString "heard") ⟨180, 7, 180, 12⟩) [.NotEq] [(.BinOp (.ListComp (.Call (.Attribute (.Constant (.str (Str.ofString "")) 0 ⟨180, 17, 180, 19⟩) (Str.ofString "join") ⟨180, 17, 180, 24⟩) [(.ListComp (.Subscript (.Constant (.str (Str.ofString ".gb")) 0 ⟨180, 26, 180, 31⟩) (.BinOp (.Name (Str.ofString "paint") ⟨180, 32, 180, 37⟩) .Mod (.Constant (.int 3) 0 ⟨180, 40, 180, 41⟩) ⟨180, 32, 180, 41⟩) ⟨180, 26, 180, 42⟩) [⟨.Name (Str.ofString "paint") ⟨180, 47, 180, 52⟩, (.Name (Str.ofString "paints") ⟨180, 56, 180, 62⟩), [], 0⟩] { kind := .function, names := [(Str.ofString ".0", .local), (Str.ofString "paint", .local)], isGenerator := false, isCoroutine := false, more := [] } ⟨180, 25, 180, 63⟩)] [] ⟨180, 17, 180, 64⟩) [⟨.Name (Str.ofString "paints") ⟨180, 69, 180, 75⟩, (.Name (Str.ofString "rows") ⟨180, 79, 180, 83⟩), [], 0⟩] { kind := .function, names := [(Str.ofString ".0", .local), (Str.ofString "paints", .local)], isGenerator := false, isCoroutine := false, more := [] } ⟨180, 16, 180, 84⟩) .Add (.List [(.Constant (.str (Str.ofString "")) 0 ⟨180, 88, 180, 90⟩)] ⟨180, 87, 180, 91⟩) ⟨180, 16, 180, 91⟩)] ⟨180, 7, 180, 91⟩) [.Return (some (.Constant (.bool false) 0 ⟨181, 15, 181, 20⟩)) ⟨181, 8, 181, 20⟩] [] ⟨180, 4, 181, 20⟩,
 .If (.Compare (.Call (.Name (Str.ofString "len") ⟨182, 7, 182, 10⟩) [(.Call (.Attribute (.Constant (.str (Str.ofString "")) 0 ⟨182, 11, 182, 13⟩) (Str.ofString "join") ⟨182, 11, 182, 18⟩) [(.Name (Str.ofString "sent") ⟨182, 19, 182, 23⟩)] [] ⟨182, 11, 182, 24⟩)] [] ⟨182, 7, 182, 25⟩) [.NotEq] [(.BinOp (.Constant (.int 15) 0 ⟨182, 29, 182, 31⟩) .Add (.Call (.Name (Str.ofString "len") ⟨182, 34, 182, 37⟩) [(.ListComp (.Name (Str.ofString "line") ⟨182, 39, 182, 43⟩) [⟨.Name (Str.ofString "line") ⟨182, 48, 182, 52⟩, (.Name (Str.ofString "heard") ⟨182, 56, 182, 61⟩), [(.Compare (.Subscript (.Name (Str.ofString "line") ⟨182, 65, 182, 69⟩) (.Slice none (some (.Constant (.int 1) 0 ⟨182, 71, 182, 72⟩)) none ⟨182, 70, 182, 72⟩) ⟨182, 65, 182, 73⟩) [.Eq] [(.Constant (.str (Str.ofString ".")) 0 ⟨182, 77, 182, 80⟩)] ⟨182, 65, 182, 80⟩)], 0⟩] { kind := .function, names := [(Str.ofString ".0", .local), (Str.ofString "line", .local)], isGenerator := false, isCoroutine := false, more := [] } ⟨182, 38, 182, 81⟩)] [] ⟨182, 34, 182, 82⟩) ⟨182, 29, 182, 82⟩)] ⟨182, 7, 182, 82⟩) [.Return (some (.Constant (.bool false) 0 ⟨183, 15, 183, 20⟩)) ⟨183, 8, 183, 20⟩] [] ⟨182, 4, 183, 20⟩,
 .Assign [(.Name (Str.ofString "table") ⟨184, 4, 184, 9⟩)] (.Call (.Name (Str.ofString "Headers") ⟨184, 12, 184, 19⟩) [] [] ⟨184, 12, 184, 21⟩) ⟨184, 4, 184, 21⟩,
 .For (.Name (Str.ofString "size") ⟨185, 8, 185, 12⟩) (.Call (.Name (Str.ofString "range") ⟨185, 16, 185, 21⟩) [(.Constant (.int 1) 0 ⟨185, 22, 185, 23⟩), (.Constant (.int 5) 0 ⟨185, 25, 185, 26⟩)] [] ⟨185, 16, 185, 27⟩) p1_law_b5 [] ⟨185, 4, 202, 24⟩,
 .Return (some (.Compare (.Call (.Name (Str.ofString "len") ⟨203, 11, 203, 14⟩) [(.Name (Str.ofString "table") ⟨203, 15, 203, 20⟩)] [] ⟨203, 11, 203, 21⟩) [.Eq] [(.Constant (.int 16) 0 ⟨203, 25, 203, 27⟩)] ⟨203, 11, 203, 27⟩)) ⟨203, 4, 203, 27⟩]
noncomputable def o_p1_law_b0 (C : OC) (D : OD) : OS :=
 (sCons (sAsg (.loc 3) (oBin .Add (oLoc 3) (oFc C 3 (oCons (oSub (oLoc 4) (oLoc 5)) (oCons (oCmp .Eq (oBin .Mod (oLoc 5) (oK (.int 2))) (oK (.int 1))) oNil)))))
 sNil)
noncomputable def o_p1_law_b1 (C : OC) (D : OD) : OS :=
 (sCons (sForR1 (.one (.loc 5)) (oLen (oLoc 4)) (o_p1_law_b0 C D))
 (sCons (sAsg (.loc 3) (oBin .Add (oLoc 3) (oSub (oTup (oCons (oK (.str [10])) (oCons (oK (.str [13])) (oCons (oK (.str [13, 10])) oNil)))) (oBin .FloorDiv (oSub (oLoc 4) (oK (.int 0))) (oK (.int 192))))))
 sNil))
noncomputable def o_p1_law_b2 (C : OC) (D : OD) : OS :=
 (sCons (sExp (oTf D 213 3 (oLoc 8) (oCons (oBin .Add (oBin .Add (oSub (oLoc 9) (oLoc 5)) (oSub (oLoc 10) (oLoc 5))) (oSub (oLoc 10) (oBin .Add (oLoc 5) (oK (.int 1))))) (oCons (oBin .Add (oBin .Add (oToStr (oLoc 1)) (oToStr (oLoc 5))) (oK (.str [117]))) oNil))))
 sNil)
noncomputable def o_p1_law_b3 (C : OC) (D : OD) : OS :=
 (sCons (sExp (oTf D 213 3 (oLoc 8) (oCons (oBin .Add (oBin .Add (oSub (oLoc 9) (oLoc 5)) (oSub (oLoc 10) (oBin .Add (oLoc 5) (oK (.int 1))))) (oSub (oLoc 9) (oBin .Add (oLoc 5) (oK (.int 1))))) (oCons (oBin .Add (oBin .Add (oToStr (oLoc 1)) (oToStr (oLoc 5))) (oK (.str [100]))) oNil))))
 sNil)
noncomputable def o_p1_law_b4 (C : OC) (D : OD) : OS :=
 (sCons (sAsg (.loc 14) (oBin .Sub (oBin .Add (oLoc 14) (oBin .Mod (oBin .Add (oBin .Sub (oSm .index (oK (.str [46, 103, 98])) (oCons (oSub (oLoc 13) (oBin .Add (oLoc 5) (oK (.int 1)))) oNil)) (oSm .index (oK (.str [46, 103, 98])) (oCons (oSub (oLoc 13) (oLoc 5)) oNil))) (oK (.int 1))) (oK (.int 3)))) (oK (.int 1))))
 (sCons (sIf (tOr (tCmp .Eq (oSlc (oLoc 13) (oLoc 5) (oBin .Add (oLoc 5) (oK (.int 2)))) (oK (.str [46, 103]))) (tCmp .Eq (oSlc (oLoc 13) (oLoc 5) (oBin .Add (oLoc 5) (oK (.int 2)))) (oK (.str [103, 46])))) (sCons (sAsg (.loc 15) (oBin .Add (oLoc 15) (oK (.int 1))))
 sNil) sNil)
 sNil))
noncomputable def o_p1_law_b5 (C : OC) (D : OD) : OS :=
 (sCons (sAsg (.loc 9) (oSub (oLoc 7) (oBin .Sub (oLoc 1) (oK (.int 1)))))
 (sCons (sAsg (.loc 10) (oSub (oLoc 7) (oLoc 1)))
 (sCons (sForR1 (.one (.loc 5)) (oLoc 1) (o_p1_law_b2 C D))
 (sCons (sForR1 (.one (.loc 5)) (oBin .Sub (oLoc 1) (oK (.int 1))) (o_p1_law_b3 C D))
 (sCons (sAsg (.loc 11) (oLen (oTc D 213 1 (oLoc 8) (oCons (oK (.str [46, 103, 66])) oNil))))
 (sCons (sAsg (.loc 12) (oLen (oTc D 213 1 (oLoc 8) (oCons (oK (.str [46, 66, 103])) oNil))))
 (sCons (sAsg (.loc 13) (oFc C 4 (oCons (oLoc 7) (oCons (oLoc 1) oNil))))
 (sCons (sAsg (.loc 14) (oK (.int 0)))
 (sCons (sAsg (.loc 15) (oK (.int 0)))
 (sCons (sForR1 (.one (.loc 5)) (oBin .Mult (oK (.int 3)) (oLoc 1)) (o_p1_law_b4 C D))
 (sCons (sIf (tOr (tCmp .NotEq (oBin .Mult (oK (.int 3)) (oBin .Sub (oLoc 11) (oLoc 12))) (oLoc 14)) (tCmp .NotEq (oBin .Mod (oBin .Add (oLoc 11) (oLoc 12)) (oK (.int 2))) (oBin .Mod (oLoc 15) (oK (.int 2))))) (sCons (sRet (oK (.bool false)))
 sNil) sNil)
 sNil)))))))))))
noncomputable def o_p1_law (C : OC) (D : OD) : OS :=
 (sCons (sAsg (.cel 1) (oComp (oBin .Mod (oCv 0) (oK (.int 576))) (oSlcTo (oLoc 0) (oK (.int 15))) tNil))
 (sCons (sAsg (.cel 1) (oBin .Add (oCel 1) (oSlcFrom (oLst (oCons (oK (.int 0)) (oCons (oK (.int 3)) (oCons (oK (.int 8)) (oCons (oK (.int 397)) (oCons (oK (.int 36)) (oCons (oK (.int 50)) (oCons (oK (.int 99)) (oCons (oK (.int 5)) (oCons (oK (.int 22)) (oCons (oK (.int 191)) (oCons (oK (.int 196)) (oCons (oK (.int 2)) (oCons (oK (.int 25)) (oCons (oK (.int 101)) (oCons (oK (.int 182)) oNil)))))))))))))))) (oLen (oCel 1)))))
 (sCons (sAsg (.loc 2) (oCompR1 (oSlcTo (oSlcFrom (oCel 1) (oBin .FloorDiv (oBin .Mult (oCv 0) (oBin .Add (oCv 0) (oK (.int 1)))) (oK (.int 2)))) (oBin .Add (oCv 0) (oK (.int 1)))) (oK (.int 5)) tNil))
 (sCons (sAsg (.loc 3) (oK (.str [])))
 (sCons (sForE (.one (.loc 4)) (oLoc 2) (o_p1_law_b1 C D))
 (sCons (sAsg (.loc 6) (oSm .split (oFc C 2 (oCons (oLoc 3) oNil)) (oCons (oK (.str [13, 10])) oNil)))
 (sCons (sAsg (.loc 7) (oComp (oIfe (tCmp .Eq (oSlcTo (oCv 0) (oK (.int 1))) (oK (.str [46]))) (oSlcFrom (oCv 0) (oK (.int 1))) (oCv 0)) (oLoc 6) tNil))
 (sCons (sIf (tCmp .NotEq (oLoc 7) (oBin .Add (oComp (oSm .join (oK (.str [])) (oCons (oComp (oSub (oK (.str [46, 103, 98])) (oBin .Mod (oCv 0) (oK (.int 3)))) (oCv 0) tNil) oNil)) (oLoc 2) tNil) (oLst (oCons (oK (.str [])) oNil)))) (sCons (sRet (oK (.bool false)))
 sNil) sNil)
 (sCons (sIf (tCmp .NotEq (oLen (oSm .join (oK (.str [])) (oCons (oLoc 6) oNil))) (oBin .Add (oK (.int 15)) (oLen (oComp (oCv 0) (oLoc 7) (tOne (tCmp .Eq (oSlcTo (oCv 0) (oK (.int 1))) (oK (.str [46])))))))) (sCons (sRet (oK (.bool false)))
 sNil) sNil)
 (sCons (sAsg (.loc 8) (oTn 213))
 (sCons (sForR2 (.one (.loc 1)) (oK (.int 1)) (oK (.int 5)) (o_p1_law_b5 C D))
 (sCons (sRet (oCmp .Eq (oTl D 213 4 (oLoc 8)) (oK (.int 16))))
 sNil))))))))))))
end Mine
end
section
set_option Elab.async false
set_option linter.all false
set_option maxRecDepth 100000
namespace Mine
open PySem
noncomputable def o1a : Oks where
  f := fun f x => (f == 0 && x == Str.ofString "rgb_to_hls") || (f == 1 && x == Str.ofString "rgb_to_hsv")
  t := fun c m x => false
  u := fun c m x => false
  n := fun c x => false
  l := fun c m => false
noncomputable def o1b : Oks where
  f := fun f x => false
  t := fun c m x => c == 213 && ((m == 0 && x == Str.ofString "add_header"))
  u := fun c m x => false
  n := fun c x => false
  l := fun c m => c == 213 && m == 4
noncomputable def o1 : Oks where
  f := fun f x => (f == 2 && x == Str.ofString "quotedata") || (f == 3 && x == Str.ofString "_law_sign") || (f == 4 && x == Str.ofString "_law_rim")
  t := fun c m x => c == 213 && ((m == 1 && x == Str.ofString "get_all"))
  u := fun c m x => c == 213 && ((m == 3 && x == Str.ofString "_law_lay"))
  n := fun c x => c == 213 && x == Str.ofString "Headers"
  l := fun c m => c == 213 && m == 4
theorem q_p1_rgb_to_hls {prog : Program} {w : World} {A : Around} {hb : Heap} {O : Oks} {C : OC} {D : OD} (X : Cx prog w A ⟨hb, p1_rgb_to_hls.locs⟩ O C D) : SS prog w A ⟨hb, p1_rgb_to_hls.locs⟩ p1_rgb_to_hls.sc p1_rgb_to_hls.body (o_p1_rgb_to_hls C D) :=
 (ss_cons (cs_asg rfl (by kernel_rfl) (c_mm X true (by kernel_rfl) (c_loc (by kernel_rfl)) (cl_cons (c_loc (by kernel_rfl)) (cl_cons (c_loc (by kernel_rfl)) cl_nil))) (fun _ => rfl))
 (ss_cons (cs_asg rfl (by kernel_rfl) (c_mm X false (by kernel_rfl) (c_loc (by kernel_rfl)) (cl_cons (c_loc (by kernel_rfl)) (cl_cons (c_loc (by kernel_rfl)) cl_nil))) (fun _ => rfl))
 (ss_cons (cs_asg rfl (by kernel_rfl) (c_bin (c_loc (by kernel_rfl)) (c_loc (by kernel_rfl))) (fun _ => rfl))
 (ss_cons (cs_asg rfl (by kernel_rfl) (c_bin (c_loc (by kernel_rfl)) (c_loc (by kernel_rfl))) (fun _ => rfl))
 (ss_cons (cs_asg rfl (by kernel_rfl) (c_bin (c_loc (by kernel_rfl)) (c_k (by kernel_rfl))) (fun _ => rfl))
 (ss_cons (cs_if (cb_cmp X (c_loc (by kernel_rfl)) (c_loc (by kernel_rfl))) (ss_cons (cs_ret (c_tup (cl_cons (c_k (by kernel_rfl)) (cl_cons (c_loc (by kernel_rfl)) (cl_cons (c_k (by kernel_rfl)) cl_nil)))))
 ss_nil) ss_nil)
 (ss_cons (cs_if (cb_cmp X (c_loc (by kernel_rfl)) (c_k (by kernel_rfl))) (ss_cons (cs_asg rfl (by kernel_rfl) (c_bin (c_loc (by kernel_rfl)) (c_loc (by kernel_rfl))) (fun _ => rfl))
 ss_nil) (ss_cons (cs_asg rfl (by kernel_rfl) (c_bin (c_loc (by kernel_rfl)) (c_bin (c_bin (c_k (by kernel_rfl)) (c_loc (by kernel_rfl))) (c_loc (by kernel_rfl)))) (fun _ => rfl))
 ss_nil))
 (ss_cons (cs_asg rfl (by kernel_rfl) (c_bin (c_bin (c_loc (by kernel_rfl)) (c_loc (by kernel_rfl))) (c_loc (by kernel_rfl))) (fun _ => rfl))
 (ss_cons (cs_asg rfl (by kernel_rfl) (c_bin (c_bin (c_loc (by kernel_rfl)) (c_loc (by kernel_rfl))) (c_loc (by kernel_rfl))) (fun _ => rfl))
 (ss_cons (cs_asg rfl (by kernel_rfl) (c_bin (c_bin (c_loc (by kernel_rfl)) (c_loc (by kernel_rfl))) (c_loc (by kernel_rfl))) (fun _ => rfl))
 (ss_cons (cs_if (cb_cmp X (c_loc (by kernel_rfl)) (c_loc (by kernel_rfl))) (ss_cons (cs_asg rfl (by kernel_rfl) (c_bin (c_loc (by kernel_rfl)) (c_loc (by kernel_rfl))) (fun _ => rfl))
 ss_nil) (ss_cons (cs_if (cb_cmp X (c_loc (by kernel_rfl)) (c_loc (by kernel_rfl))) (ss_cons (cs_asg rfl (by kernel_rfl) (c_bin (c_bin (c_k (by kernel_rfl)) (c_loc (by kernel_rfl))) (c_loc (by kernel_rfl))) (fun _ => rfl))
 ss_nil) (ss_cons (cs_asg rfl (by kernel_rfl) (c_bin (c_bin (c_k (by kernel_rfl)) (c_loc (by kernel_rfl))) (c_loc (by kernel_rfl))) (fun _ => rfl))
 ss_nil))
 ss_nil))
 (ss_cons (cs_asg rfl (by kernel_rfl) (c_bin (c_bin (c_loc (by kernel_rfl)) (c_k (by kernel_rfl))) (c_k (by kernel_rfl))) (fun _ => rfl))
 (ss_cons (cs_ret (c_tup (cl_cons (c_loc (by kernel_rfl)) (cl_cons (c_loc (by kernel_rfl)) (cl_cons (c_loc (by kernel_rfl)) cl_nil)))))
 ss_nil)))))))))))))
theorem q_p1_rgb_to_hsv {prog : Program} {w : World} {A : Around} {hb : Heap} {O : Oks} {C : OC} {D : OD} (X : Cx prog w A ⟨hb, p1_rgb_to_hsv.locs⟩ O C D) : SS prog w A ⟨hb, p1_rgb_to_hsv.locs⟩ p1_rgb_to_hsv.sc p1_rgb_to_hsv.body (o_p1_rgb_to_hsv C D) :=
 (ss_cons (cs_asg rfl (by kernel_rfl) (c_mm X true (by kernel_rfl) (c_loc (by kernel_rfl)) (cl_cons (c_loc (by kernel_rfl)) (cl_cons (c_loc (by kernel_rfl)) cl_nil))) (fun _ => rfl))
 (ss_cons (cs_asg rfl (by kernel_rfl) (c_mm X false (by kernel_rfl) (c_loc (by kernel_rfl)) (cl_cons (c_loc (by kernel_rfl)) (cl_cons (c_loc (by kernel_rfl)) cl_nil))) (fun _ => rfl))
 (ss_cons (cs_asg rfl (by kernel_rfl) (c_bin (c_loc (by kernel_rfl)) (c_loc (by kernel_rfl))) (fun _ => rfl))
 (ss_cons (cs_asg rfl (by kernel_rfl) (c_loc (by kernel_rfl)) (fun _ => rfl))
 (ss_cons (cs_if (cb_cmp X (c_loc (by kernel_rfl)) (c_loc (by kernel_rfl))) (ss_cons (cs_ret (c_tup (cl_cons (c_k (by kernel_rfl)) (cl_cons (c_k (by kernel_rfl)) (cl_cons (c_loc (by kernel_rfl)) cl_nil)))))
 ss_nil) ss_nil)
 (ss_cons (cs_asg rfl (by kernel_rfl) (c_bin (c_loc (by kernel_rfl)) (c_loc (by kernel_rfl))) (fun _ => rfl))
 (ss_cons (cs_asg rfl (by kernel_rfl) (c_bin (c_bin (c_loc (by kernel_rfl)) (c_loc (by kernel_rfl))) (c_loc (by kernel_rfl))) (fun _ => rfl))
 (ss_cons (cs_asg rfl (by kernel_rfl) (c_bin (c_bin (c_loc (by kernel_rfl)) (c_loc (by kernel_rfl))) (c_loc (by kernel_rfl))) (fun _ => rfl))
 (ss_cons (cs_asg rfl (by kernel_rfl) (c_bin (c_bin (c_loc (by kernel_rfl)) (c_loc (by kernel_rfl))) (c_loc (by kernel_rfl))) (fun _ => rfl))
 (ss_cons (cs_if (cb_cmp X (c_loc (by kernel_rfl)) (c_loc (by kernel_rfl))) (ss_cons (cs_asg rfl (by kernel_rfl) (c_bin (c_loc (by kernel_rfl)) (c_loc (by kernel_rfl))) (fun _ => rfl))
 ss_nil) (ss_cons (cs_if (cb_cmp X (c_loc (by kernel_rfl)) (c_loc (by kernel_rfl))) (ss_cons (cs_asg rfl (by kernel_rfl) (c_bin (c_bin (c_k (by kernel_rfl)) (c_loc (by kernel_rfl))) (c_loc (by kernel_rfl))) (fun _ => rfl))
 ss_nil) (ss_cons (cs_asg rfl (by kernel_rfl) (c_bin (c_bin (c_k (by kernel_rfl)) (c_loc (by kernel_rfl))) (c_loc (by kernel_rfl))) (fun _ => rfl))
 ss_nil))
 ss_nil))
 (ss_cons (cs_asg rfl (by kernel_rfl) (c_bin (c_bin (c_loc (by kernel_rfl)) (c_k (by kernel_rfl))) (c_k (by kernel_rfl))) (fun _ => rfl))
 (ss_cons (cs_ret (c_tup (cl_cons (c_loc (by kernel_rfl)) (cl_cons (c_loc (by kernel_rfl)) (cl_cons (c_loc (by kernel_rfl)) cl_nil)))))
 ss_nil))))))))))))
theorem q_p1_law_sign {prog : Program} {w : World} {A : Around} {hb : Heap} {C : OC} {D : OD} (X : Cx prog w A ⟨hb, p1_law_sign.locs⟩ o1a C D) : SS prog w A ⟨hb, p1_law_sign.locs⟩ p1_law_sign.sc p1_law_sign.body (o_p1_law_sign C D) :=
 (ss_cons (cs_asg rfl (by kernel_rfl) (c_bin (c_loc (by kernel_rfl)) (c_k (by kernel_rfl))) (fun _ => rfl))
 (ss_cons (cs_asg rfl (by kernel_rfl) (c_lstM (cl_cons (c_k (by kernel_rfl)) (cl_cons (c_k (by kernel_rfl)) (cl_cons (c_k (by kernel_rfl)) cl_nil)))) (fun _ => rfl))
 (ss_cons (cs_seti (c_bin (c_k (by kernel_rfl)) (c_bin (c_bin (c_loc (by kernel_rfl)) (c_k (by kernel_rfl))) (c_k (by kernel_rfl)))) (c_loc (by kernel_rfl)) (c_loc (by kernel_rfl)) (fun _ => rfl))
 (ss_cons (cs_seti (c_bin (c_bin (c_loc (by kernel_rfl)) (c_k (by kernel_rfl))) (c_k (by kernel_rfl))) (c_loc (by kernel_rfl)) (c_bin (c_bin (c_loc (by kernel_rfl)) (c_k (by kernel_rfl))) (c_k (by kernel_rfl))) (fun _ => rfl))
 (ss_cons (cs_seti (c_bin (c_bin (c_loc (by kernel_rfl)) (c_k (by kernel_rfl))) (c_k (by kernel_rfl))) (c_loc (by kernel_rfl)) (c_bin (c_bin (c_loc (by kernel_rfl)) (c_k (by kernel_rfl))) (c_k (by kernel_rfl))) (fun _ => rfl))
 (ss_cons (cs_if (cb_val (c_loc (by kernel_rfl)) (fun _ => rfl)) (ss_cons (cs_asg rfl (by kernel_rfl) (c_fc X rfl (by kernel_rfl) (by kernel_rfl) (cl_cons (c_bin (c_sub (c_loc (by kernel_rfl)) (c_k (by kernel_rfl))) (c_k (by kernel_rfl))) (cl_cons (c_bin (c_sub (c_loc (by kernel_rfl)) (c_k (by kernel_rfl))) (c_k (by kernel_rfl))) (cl_cons (c_bin (c_sub (c_loc (by kernel_rfl)) (c_k (by kernel_rfl))) (c_k (by kernel_rfl))) cl_nil)))) (fun _ => rfl))
 ss_nil) (ss_cons (cs_asg rfl (by kernel_rfl) (c_fc X rfl (by kernel_rfl) (by kernel_rfl) (cl_cons (c_bin (c_sub (c_loc (by kernel_rfl)) (c_k (by kernel_rfl))) (c_k (by kernel_rfl))) (cl_cons (c_bin (c_sub (c_loc (by kernel_rfl)) (c_k (by kernel_rfl))) (c_k (by kernel_rfl))) (cl_cons (c_bin (c_sub (c_loc (by kernel_rfl)) (c_k (by kernel_rfl))) (c_k (by kernel_rfl))) cl_nil)))) (fun _ => rfl))
 ss_nil))
 (ss_cons (cs_ret (c_sub (c_k (by kernel_rfl)) (c_bin (c_toInt X (by kernel_rfl) (c_bin (c_bin (c_sub (c_loc (by kernel_rfl)) (c_k (by kernel_rfl))) (c_k (by kernel_rfl))) (c_k (by kernel_rfl)))) (c_k (by kernel_rfl)))))
 ss_nil)))))))
theorem q_p1_law_lay {prog : Program} {w : World} {A : Around} {hb : Heap} {C : OC} {D : OD} (X : Cx prog w A ⟨hb, p1_law_lay.locs⟩ o1b C D) : SS prog w A ⟨hb, p1_law_lay.locs⟩ p1_law_lay.sc p1_law_lay.body (o_p1_law_lay C D) :=
 (ss_cons (cs_asg rfl (by kernel_rfl) (c_min1 X (by kernel_rfl) (c_lst (cl_cons (c_loc (by kernel_rfl)) (cl_cons (c_bin (c_slcFrom (c_loc (by kernel_rfl)) (c_k (by kernel_rfl))) (c_sub (c_loc (by kernel_rfl)) (c_k (by kernel_rfl)))) (cl_cons (c_bin (c_sub (c_loc (by kernel_rfl)) (c_k (by kernel_rfl))) (c_slcTo (c_loc (by kernel_rfl)) (c_k (by kernel_rfl)))) cl_nil))))) (fun _ => rfl))
 (ss_cons (cs_exp (c_tc X (by kernel_rfl) (fun _ _ _ => rfl) (by kernel_rfl) (by decide) (c_loc (by kernel_rfl)) (cl_cons (c_ife (cb_val (c_bin (c_tl X (by kernel_rfl) (by kernel_rfl) (c_loc (by kernel_rfl))) (c_k (by kernel_rfl))) (fun _ => rfl)) (c_upper (fun _ _ _ => rfl) (by kernel_rfl) (c_loc (by kernel_rfl))) (c_loc (by kernel_rfl))) (cl_cons (c_loc (by kernel_rfl)) cl_nil))) (fun _ => rfl))
 ss_nil))
theorem q_p1_law_rim {prog : Program} {w : World} {A : Around} {hb : Heap} {O : Oks} {C : OC} {D : OD} (X : Cx prog w A ⟨hb, p1_law_rim.locs⟩ O C D) : SS prog w A ⟨hb, p1_law_rim.locs⟩ p1_law_rim.sc p1_law_rim.body (o_p1_law_rim C D) :=
 (ss_cons (cs_asgR1 X rfl (by kernel_rfl) (by kernel_rfl) (by kernel_rfl) (c_cel (by kernel_rfl)) ct_nil (c_sub (c_sub (c_cel (by kernel_rfl)) (c_cv (by kernel_rfl))) (c_k (by kernel_rfl))))
 (ss_cons (cs_asgR1 X rfl (by kernel_rfl) (by kernel_rfl) (by kernel_rfl) (c_cel (by kernel_rfl)) ct_nil (c_sub (c_sub (c_cel (by kernel_rfl)) (c_cel (by kernel_rfl))) (c_cv (by kernel_rfl))))
 (ss_cons (cs_asgR1 X rfl (by kernel_rfl) (by kernel_rfl) (by kernel_rfl) (c_cel (by kernel_rfl)) ct_nil (c_sub (c_sub (c_cel (by kernel_rfl)) (c_bin (c_cel (by kernel_rfl)) (c_cv (by kernel_rfl)))) (c_bin (c_cel (by kernel_rfl)) (c_cv (by kernel_rfl)))))
 (ss_cons (cs_ret (c_join (fun _ _ _ => rfl) (by kernel_rfl) (c_k (by kernel_rfl)) (c_bin (c_bin (c_bin (c_loc (by kernel_rfl)) (c_loc (by kernel_rfl))) (c_loc (by kernel_rfl))) (c_slcTo (c_loc (by kernel_rfl)) (c_k (by kernel_rfl))))))
 ss_nil))))
theorem q_p1_law_b0 {prog : Program} {w : World} {A : Around} {hb : Heap} {C : OC} {D : OD} (X : Cx prog w A ⟨hb, p1_law.locs⟩ o1 C D) : SS prog w A ⟨hb, p1_law.locs⟩ p1_law.sc p1_law_b0 (o_p1_law_b0 C D) :=
 (ss_cons (cs_asg rfl (by kernel_rfl) (c_bin (c_loc (by kernel_rfl)) (c_fc X rfl (by kernel_rfl) (by kernel_rfl) (cl_cons (c_sub (c_loc (by kernel_rfl)) (c_loc (by kernel_rfl))) (cl_cons (c_cmp X (c_bin (c_loc (by kernel_rfl)) (c_k (by kernel_rfl))) (c_k (by kernel_rfl))) cl_nil)))) (fun _ => rfl))
 ss_nil)
theorem q_p1_law_b1 {prog : Program} {w : World} {A : Around} {hb : Heap} {C : OC} {D : OD} (X : Cx prog w A ⟨hb, p1_law.locs⟩ o1 C D) : SS prog w A ⟨hb, p1_law.locs⟩ p1_law.sc p1_law_b1 (o_p1_law_b1 C D) :=
 (ss_cons (cs_forR1 X rfl (sa_one rfl (by kernel_rfl)) (by kernel_rfl) (c_len X (by kernel_rfl) (c_loc (by kernel_rfl))) (q_p1_law_b0 X))
 (ss_cons (cs_asg rfl (by kernel_rfl) (c_bin (c_loc (by kernel_rfl)) (c_sub (c_tup (cl_cons (c_k (by kernel_rfl)) (cl_cons (c_k (by kernel_rfl)) (cl_cons (c_k (by kernel_rfl)) cl_nil)))) (c_bin (c_sub (c_loc (by kernel_rfl)) (c_k (by kernel_rfl))) (c_k (by kernel_rfl))))) (fun _ => rfl))
 ss_nil))
theorem q_p1_law_b2 {prog : Program} {w : World} {A : Around} {hb : Heap} {C : OC} {D : OD} (X : Cx prog w A ⟨hb, p1_law.locs⟩ o1 C D) : SS prog w A ⟨hb, p1_law.locs⟩ p1_law.sc p1_law_b2 (o_p1_law_b2 C D) :=
 (ss_cons (cs_exp (c_tf X (by kernel_rfl) (by kernel_rfl) (c_loc (by kernel_rfl)) (cl_cons (c_bin (c_bin (c_sub (c_loc (by kernel_rfl)) (c_loc (by kernel_rfl))) (c_sub (c_loc (by kernel_rfl)) (c_loc (by kernel_rfl)))) (c_sub (c_loc (by kernel_rfl)) (c_bin (c_loc (by kernel_rfl)) (c_k (by kernel_rfl))))) (cl_cons (c_bin (c_bin (c_toStr X (by kernel_rfl) (c_loc (by kernel_rfl))) (c_toStr X (by kernel_rfl) (c_loc (by kernel_rfl)))) (c_k (by kernel_rfl))) cl_nil))) (fun _ => rfl))
 ss_nil)
theorem q_p1_law_b3 {prog : Program} {w : World} {A : Around} {hb : Heap} {C : OC} {D : OD} (X : Cx prog w A ⟨hb, p1_law.locs⟩ o1 C D) : SS prog w A ⟨hb, p1_law.locs⟩ p1_law.sc p1_law_b3 (o_p1_law_b3 C D) :=
 (ss_cons (cs_exp (c_tf X (by kernel_rfl) (by kernel_rfl) (c_loc (by kernel_rfl)) (cl_cons (c_bin (c_bin (c_sub (c_loc (by kernel_rfl)) (c_loc (by kernel_rfl))) (c_sub (c_loc (by kernel_rfl)) (c_bin (c_loc (by kernel_rfl)) (c_k (by kernel_rfl))))) (c_sub (c_loc (by kernel_rfl)) (c_bin (c_loc (by kernel_rfl)) (c_k (by kernel_rfl))))) (cl_cons (c_bin (c_bin (c_toStr X (by kernel_rfl) (c_loc (by kernel_rfl))) (c_toStr X (by kernel_rfl) (c_loc (by kernel_rfl)))) (c_k (by kernel_rfl))) cl_nil))) (fun _ => rfl))
 ss_nil)
theorem q_p1_law_b4 {prog : Program} {w : World} {A : Around} {hb : Heap} {C : OC} {D : OD} (X : Cx prog w A ⟨hb, p1_law.locs⟩ o1 C D) : SS prog w A ⟨hb, p1_law.locs⟩ p1_law.sc p1_law_b4 (o_p1_law_b4 C D) :=
 (ss_cons (cs_asg rfl (by kernel_rfl) (c_bin (c_bin (c_loc (by kernel_rfl)) (c_bin (c_bin (c_bin (c_index (fun _ _ _ => rfl) (by kernel_rfl) (c_k (by kernel_rfl)) (c_sub (c_loc (by kernel_rfl)) (c_bin (c_loc (by kernel_rfl)) (c_k (by kernel_rfl))))) (c_index (fun _ _ _ => rfl) (by kernel_rfl) (c_k (by kernel_rfl)) (c_sub (c_loc (by kernel_rfl)) (c_loc (by kernel_rfl))))) (c_k (by kernel_rfl))) (c_k (by kernel_rfl)))) (c_k (by kernel_rfl))) (fun _ => rfl))
 (ss_cons (cs_if (cb_or (cb_cmp X (c_slc (c_loc (by kernel_rfl)) (c_loc (by kernel_rfl)) (c_bin (c_loc (by kernel_rfl)) (c_k (by kernel_rfl)))) (c_k (by kernel_rfl))) (cb_cmp X (c_slc (c_loc (by kernel_rfl)) (c_loc (by kernel_rfl)) (c_bin (c_loc (by kernel_rfl)) (c_k (by kernel_rfl)))) (c_k (by kernel_rfl)))) (ss_cons (cs_asg rfl (by kernel_rfl) (c_bin (c_loc (by kernel_rfl)) (c_k (by kernel_rfl))) (fun _ => rfl))
 ss_nil) ss_nil)
 ss_nil))
theorem q_p1_law_b5 {prog : Program} {w : World} {A : Around} {hb : Heap} {C : OC} {D : OD} (X : Cx prog w A ⟨hb, p1_law.locs⟩ o1 C D) : SS prog w A ⟨hb, p1_law.locs⟩ p1_law.sc p1_law_b5 (o_p1_law_b5 C D) :=
 (ss_cons (cs_asg rfl (by kernel_rfl) (c_sub (c_loc (by kernel_rfl)) (c_bin (c_loc (by kernel_rfl)) (c_k (by kernel_rfl)))) (fun _ => rfl))
 (ss_cons (cs_asg rfl (by kernel_rfl) (c_sub (c_loc (by kernel_rfl)) (c_loc (by kernel_rfl))) (fun _ => rfl))
 (ss_cons (cs_forR1 X rfl (sa_one rfl (by kernel_rfl)) (by kernel_rfl) (c_loc (by kernel_rfl)) (q_p1_law_b2 X))
 (ss_cons (cs_forR1 X rfl (sa_one rfl (by kernel_rfl)) (by kernel_rfl) (c_bin (c_loc (by kernel_rfl)) (c_k (by kernel_rfl))) (q_p1_law_b3 X))
 (ss_cons (cs_asg rfl (by kernel_rfl) (c_len X (by kernel_rfl) (c_tc X (by kernel_rfl) (fun _ _ _ => rfl) (by kernel_rfl) (by decide) (c_loc (by kernel_rfl)) (cl_cons (c_k (by kernel_rfl)) cl_nil))) (fun _ => rfl))
 (ss_cons (cs_asg rfl (by kernel_rfl) (c_len X (by kernel_rfl) (c_tc X (by kernel_rfl) (fun _ _ _ => rfl) (by kernel_rfl) (by decide) (c_loc (by kernel_rfl)) (cl_cons (c_k (by kernel_rfl)) cl_nil))) (fun _ => rfl))
 (ss_cons (cs_asg rfl (by kernel_rfl) (c_fc X rfl (by kernel_rfl) (by kernel_rfl) (cl_cons (c_loc (by kernel_rfl)) (cl_cons (c_loc (by kernel_rfl)) cl_nil))) (fun _ => rfl))
 (ss_cons (cs_asg rfl (by kernel_rfl) (c_k (by kernel_rfl)) (fun _ => rfl))
 (ss_cons (cs_asg rfl (by kernel_rfl) (c_k (by kernel_rfl)) (fun _ => rfl))
 (ss_cons (cs_forR1 X rfl (sa_one rfl (by kernel_rfl)) (by kernel_rfl) (c_bin (c_k (by kernel_rfl)) (c_loc (by kernel_rfl))) (q_p1_law_b4 X))
 (ss_cons (cs_if (cb_or (cb_cmp X (c_bin (c_k (by kernel_rfl)) (c_bin (c_loc (by kernel_rfl)) (c_loc (by kernel_rfl)))) (c_loc (by kernel_rfl))) (cb_cmp X (c_bin (c_bin (c_loc (by kernel_rfl)) (c_loc (by kernel_rfl))) (c_k (by kernel_rfl))) (c_bin (c_loc (by kernel_rfl)) (c_k (by kernel_rfl))))) (ss_cons (cs_ret (c_k (by kernel_rfl)))
 ss_nil) ss_nil)
 ss_nil)))))))))))
theorem q_p1_law {prog : Program} {w : World} {A : Around} {hb : Heap} {C : OC} {D : OD} (X : Cx prog w A ⟨hb, p1_law.locs⟩ o1 C D) : SS prog w A ⟨hb, p1_law.locs⟩ p1_law.sc p1_law.body (o_p1_law C D) :=
 (ss_cons (cs_asgC X rfl (by kernel_rfl) (by kernel_rfl) (c_slcTo (c_loc (by kernel_rfl)) (c_k (by kernel_rfl))) ct_nil (c_bin (c_cv (by kernel_rfl)) (c_k (by kernel_rfl))))
 (ss_cons (cs_asg rfl (by kernel_rfl) (c_bin (c_cel (by kernel_rfl)) (c_slcFrom (c_lst (cl_cons (c_k (by kernel_rfl)) (cl_cons (c_k (by kernel_rfl)) (cl_cons (c_k (by kernel_rfl)) (cl_cons (c_k (by kernel_rfl)) (cl_cons (c_k (by kernel_rfl)) (cl_cons (c_k (by kernel_rfl)) (cl_cons (c_k (by kernel_rfl)) (cl_cons (c_k (by kernel_rfl)) (cl_cons (c_k (by kernel_rfl)) (cl_cons (c_k (by kernel_rfl)) (cl_cons (c_k (by kernel_rfl)) (cl_cons (c_k (by kernel_rfl)) (cl_cons (c_k (by kernel_rfl)) (cl_cons (c_k (by kernel_rfl)) (cl_cons (c_k (by kernel_rfl)) cl_nil)))))))))))))))) (c_len X (by kernel_rfl) (c_cel (by kernel_rfl))))) (fun _ => rfl))
 (ss_cons (cs_asgR1 X rfl (by kernel_rfl) (by kernel_rfl) (by kernel_rfl) (c_k (by kernel_rfl)) ct_nil (c_slcTo (c_slcFrom (c_cel (by kernel_rfl)) (c_bin (c_bin (c_cv (by kernel_rfl)) (c_bin (c_cv (by kernel_rfl)) (c_k (by kernel_rfl)))) (c_k (by kernel_rfl)))) (c_bin (c_cv (by kernel_rfl)) (c_k (by kernel_rfl)))))
 (ss_cons (cs_asg rfl (by kernel_rfl) (c_k (by kernel_rfl)) (fun _ => rfl))
 (ss_cons (cs_forE X rfl (sa_one rfl (by kernel_rfl)) (c_loc (by kernel_rfl)) (q_p1_law_b1 X))
 (ss_cons (cs_asg rfl (by kernel_rfl) (c_split (fun _ _ _ => rfl) (by kernel_rfl) (c_fc X rfl (by kernel_rfl) (by kernel_rfl) (cl_cons (c_loc (by kernel_rfl)) cl_nil)) (c_k (by kernel_rfl))) (fun _ => rfl))
 (ss_cons (cs_asgC X rfl (by kernel_rfl) (by kernel_rfl) (c_loc (by kernel_rfl)) ct_nil (c_ife (cb_cmp X (c_slcTo (c_cv (by kernel_rfl)) (c_k (by kernel_rfl))) (c_k (by kernel_rfl))) (c_slcFrom (c_cv (by kernel_rfl)) (c_k (by kernel_rfl))) (c_cv (by kernel_rfl))))
 (ss_cons (cs_if (cb_cmp X (c_loc (by kernel_rfl)) (c_bin (c_comp X (by kernel_rfl) (c_loc (by kernel_rfl)) ct_nil (c_join (fun _ _ _ => rfl) (by kernel_rfl) (c_k (by kernel_rfl)) (c_comp X (by kernel_rfl) (c_cv (by kernel_rfl)) ct_nil (c_sub (c_k (by kernel_rfl)) (c_bin (c_cv (by kernel_rfl)) (c_k (by kernel_rfl))))))) (c_lst (cl_cons (c_k (by kernel_rfl)) cl_nil)))) (ss_cons (cs_ret (c_k (by kernel_rfl)))
 ss_nil) ss_nil)
 (ss_cons (cs_if (cb_cmp X (c_len X (by kernel_rfl) (c_join (fun _ _ _ => rfl) (by kernel_rfl) (c_k (by kernel_rfl)) (c_loc (by kernel_rfl)))) (c_bin (c_k (by kernel_rfl)) (c_len X (by kernel_rfl) (c_comp X (by kernel_rfl) (c_loc (by kernel_rfl)) (ct_one (cb_cmp X (c_slcTo (c_cv (by kernel_rfl)) (c_k (by kernel_rfl))) (c_k (by kernel_rfl)))) (c_cv (by kernel_rfl)))))) (ss_cons (cs_ret (c_k (by kernel_rfl)))
 ss_nil) ss_nil)
 (ss_cons (cs_asg rfl (by kernel_rfl) (c_tn X (by kernel_rfl) (by kernel_rfl)) (fun _ => rfl))
 (ss_cons (cs_forR2 X rfl (sa_one rfl (by kernel_rfl)) (by kernel_rfl) (c_k (by kernel_rfl)) (c_k (by kernel_rfl)) (q_p1_law_b5 X))
 (ss_cons (cs_ret (c_cmp X (c_tl X (by kernel_rfl) (by kernel_rfl) (c_loc (by kernel_rfl))) (c_k (by kernel_rfl))))
 ss_nil))))))))))))
end Mine
end
section
set_option Elab.async false
set_option linter.all false
set_option linter.unusedSimpArgs false
set_option maxRecDepth 100000
namespace Mine
open PySem
noncomputable def sg (p : Nat) : Nat := if p % 3 = 0 then 46 else if p % 3 = 1 then 103 else 98
theorem ob {α β : Type} {x : Option α} {f : α → Option β} {v : β} (h : x.bind f = some v) : ∃ a, x = some a ∧ f a = some v := bind_inv h
noncomputable def toldOf (f : List AV → Option AV) (x y z : Nat) : Option Int :=
  (fltV (dv x)).bind fun a => (fltV (dv y)).bind fun b => (fltV (dv z)).bind fun c => (three? (f [.flt a, .flt b, .flt c])).bind fun t => aint (Float64.add (Float64.mul t.1 (Float64.ofInt 3)) 4602678819172646912)
theorem told_inv {f : List AV → Option AV} {x y z : Nat} {n : Int} (h : toldOf f x y z = some n) : ∃ a b c t l s, dv x = some (.flt a) ∧ dv y = some (.flt b) ∧ dv z = some (.flt c) ∧ f [.flt a, .flt b, .flt c] = some (.tup [.flt t, .flt l, .flt s]) ∧ aint (Float64.add (Float64.mul t (Float64.ofInt 3)) 4602678819172646912) = some n := by
  obtain ⟨a, e1, h⟩ := ob h
  obtain ⟨b, e2, h⟩ := ob h
  obtain ⟨c, e3, h⟩ := ob h
  obtain ⟨⟨t, l, s⟩, e4, h⟩ := ob h
  exact ⟨a, b, c, t, l, s, fltV_eq e1, fltV_eq e2, fltV_eq e3, three_eq e4, h⟩
noncomputable def hls1 (vs : List AV) : Option AV := orun (o_p1_rgb_to_hls nC nD) p1_rgb_to_hls vs
noncomputable def hsv1 (vs : List AV) : Option AV := orun (o_p1_rgb_to_hsv nC nD) p1_rgb_to_hsv vs
noncomputable def part (m a b c k : Nat) : Nat := if k = m then 4 + a else if k = (m + 1) % 3 then b else c
noncomputable def parts3 (m a b c : Nat) : List Nat := [part m a b c 0, part m a b c 1, part m a b c 2]
noncomputable def optIs (n : Nat) : Option Int → Bool
  | some i => decide (i % 3 = n)
  | none => false
noncomputable def signChkA (f : List AV → Option AV) (m a : Nat) : Bool := (List.range 4).all fun b => (List.range 4).all fun c => optIs m (toldOf f (part m a b c 0) (part m a b c 1) (part m a b c 2))
noncomputable def signChk (f : List AV → Option AV) (m : Nat) : Bool := (List.range 4).all fun a => signChkA f m a
theorem all4 {P : Nat → Bool} (h0 : P 0 = true) (h1 : P 1 = true) (h2 : P 2 = true) (h3 : P 3 = true) : ((List.range 4).all fun a => P a) = true := by
  show (P 0 && (P 1 && (P 2 && (P 3 && true)))) = true
  rw [h0, h1, h2, h3]; rfl
theorem sign_l00 : signChkA hls1 0 0 = true := by kernel_rfl
theorem sign_l01 : signChkA hls1 0 1 = true := by kernel_rfl
theorem sign_l02 : signChkA hls1 0 2 = true := by kernel_rfl
theorem sign_l03 : signChkA hls1 0 3 = true := by kernel_rfl
theorem sign_l0 : signChk hls1 0 = true := all4 sign_l00 sign_l01 sign_l02 sign_l03
theorem sign_l10 : signChkA hls1 1 0 = true := by kernel_rfl
theorem sign_l11 : signChkA hls1 1 1 = true := by kernel_rfl
theorem sign_l12 : signChkA hls1 1 2 = true := by kernel_rfl
theorem sign_l13 : signChkA hls1 1 3 = true := by kernel_rfl
theorem sign_l1 : signChk hls1 1 = true := all4 sign_l10 sign_l11 sign_l12 sign_l13
theorem sign_l20 : signChkA hls1 2 0 = true := by kernel_rfl
theorem sign_l21 : signChkA hls1 2 1 = true := by kernel_rfl
theorem sign_l22 : signChkA hls1 2 2 = true := by kernel_rfl
theorem sign_l23 : signChkA hls1 2 3 = true := by kernel_rfl
theorem sign_l2 : signChk hls1 2 = true := all4 sign_l20 sign_l21 sign_l22 sign_l23
theorem sign_v00 : signChkA hsv1 0 0 = true := by kernel_rfl
theorem sign_v01 : signChkA hsv1 0 1 = true := by kernel_rfl
theorem sign_v02 : signChkA hsv1 0 2 = true := by kernel_rfl
theorem sign_v03 : signChkA hsv1 0 3 = true := by kernel_rfl
theorem sign_v0 : signChk hsv1 0 = true := all4 sign_v00 sign_v01 sign_v02 sign_v03
theorem sign_v10 : signChkA hsv1 1 0 = true := by kernel_rfl
theorem sign_v11 : signChkA hsv1 1 1 = true := by kernel_rfl
theorem sign_v12 : signChkA hsv1 1 2 = true := by kernel_rfl
theorem sign_v13 : signChkA hsv1 1 3 = true := by kernel_rfl
theorem sign_v1 : signChk hsv1 1 = true := all4 sign_v10 sign_v11 sign_v12 sign_v13
theorem sign_v20 : signChkA hsv1 2 0 = true := by kernel_rfl
theorem sign_v21 : signChkA hsv1 2 1 = true := by kernel_rfl
theorem sign_v22 : signChkA hsv1 2 2 = true := by kernel_rfl
theorem sign_v23 : signChkA hsv1 2 3 = true := by kernel_rfl
theorem sign_v2 : signChk hsv1 2 = true := all4 sign_v20 sign_v21 sign_v22 sign_v23
theorem signChk_inv {f : List AV → Option AV} {m a b c : Nat} (h : signChk f m = true) (ha : a < 4) (hb : b < 4) (hc : c < 4) : ∃ n : Int, toldOf f (part m a b c 0) (part m a b c 1) (part m a b c 2) = some n ∧ n % 3 = m := by
  have h1 := List.all_eq_true.mp (List.all_eq_true.mp (List.all_eq_true.mp h a (List.mem_range.mpr ha)) b (List.mem_range.mpr hb)) c (List.mem_range.mpr hc)
  cases e : toldOf f (part m a b c 0) (part m a b c 1) (part m a b c 2) with
  | none => rw [e] at h1; cases h1
  | some n => rw [e] at h1; exact ⟨n, rfl, of_decide_eq_true h1⟩
end Mine
end
section
set_option Elab.async false
set_option linter.all false
set_option linter.unusedSimpArgs false
set_option maxRecDepth 100000
namespace Mine
open PySem
section
variable {C : Nat → List AV → Option AV} {D : Nat → List AV → List AV → Option (AV × List AV)}
noncomputable abbrev sgH (p : Nat) (b : Bool) (main parts told : Option AV) (xs : List AO) : Hp := .ns [some (.int (p : Int)), some (.bool b), main, parts, told] :: xs
theorem parts_set {m a b c : Nat} (hm : m < 3) : ((([0, 0, 0] : List Nat).set m (4 + a)).set ((m + 1) % 3) b).set ((m + 2) % 3) c = parts3 m a b c := by
  match m, hm with
  | 0, _ => rfl
  | 1, _ => rfl
  | 2, _ => rfl
theorem fmod_nat (p k : Nat) : ((p : Int)).fmod (k : Int) = ((p % k : Nat) : Int) := by
  rw [Int.fmod_eq_emod_of_nonneg _ (by omega)]; omega
theorem fdiv_nat (p k : Nat) : ((p : Int)).fdiv (k : Int) = ((p / k : Nat) : Int) := by
  rw [Int.fdiv_eq_ediv_of_nonneg _ (by omega)]; omega
theorem abin_mod {p k : Nat} (hk : k ≠ 0) : abin .Mod (.int (p : Int)) (.int (k : Int)) = some (.int ((p % k : Nat) : Int)) := by
  show orE (gd (!(decide ((k : Int) = 0))) (some (AV.int (((p : Int)).fmod (k : Int))))) _ = _
  rw [decide_eq_false (by omega), fmod_nat]; rfl
theorem abin_fdiv {p k : Nat} (hk : k ≠ 0) (hb : k ≤ 1000000000) : abin .FloorDiv (.int (p : Int)) (.int (k : Int)) = some (.int ((p / k : Nat) : Int)) := by
  show gd (!(decide ((k : Int) = 0))) (gd (Nat.ble ((k : Int)).natAbs 1000000000) (some (AV.int (((p : Int)).fdiv (k : Int))))) = _
  rw [decide_eq_false (by omega), fdiv_nat, Nat.ble_eq_true_of_le (by rw [Int.natAbs_natCast]; exact hb)]; rfl
theorem abin_add (a b : Nat) : abin .Add (.int (a : Int)) (.int (b : Int)) = some (.int ((a + b : Nat) : Int)) := rfl
theorem sign_sub {H : Hp} {m : Nat} {n : Int} (hm : m < 3) (h : n % 3 = m) : abin .Mod (.int n) (.int 3) = some (.int (m : Int)) ∧ asub H (.str [46, 103, 98]) (.int (m : Int)) = some (.str [if m = 0 then 46 else if m = 1 then 103 else 98]) := by
  refine ⟨?_, ?_⟩
  · show some (AV.int (n.fmod 3)) = _
    rw [Int.fmod_eq_emod_of_nonneg _ (by decide), h]
  · match m, hm with
    | 0, _ => rfl
    | 1, _ => rfl
    | 2, _ => rfl
theorem sign_tail {f : List AV → Option AV} {p : Nat} {bl : Bool} {m a b c : Nat} {n : Int} (hm : m < 3) (ht : toldOf f (part m a b c 0) (part m a b c 1) (part m a b c 2) = some n) (hn : n % 3 = m) {q : Nat} (hC : ∀ vs, vs.length = 3 → C q vs = f vs) (mn : Option AV) :
    ∃ told, sAsg (.loc 4) (oFc C q (oCons (oBin .Div (oSub (oLoc 3) (oK (.int 0))) (oK (.int 8))) (oCons (oBin .Div (oSub (oLoc 3) (oK (.int 1))) (oK (.int 8))) (oCons (oBin .Div (oSub (oLoc 3) (oK (.int 2))) (oK (.int 8))) oNil)))) (sgH p bl mn (some (.ref 1)) none [.list (intsA (parts3 m a b c))]) = some (.next, sgH p bl mn (some (.ref 1)) told [.list (intsA (parts3 m a b c))]) ∧
    sRet (oSub (oK (.str [46, 103, 98])) (oBin .Mod (oToInt (oBin .Add (oBin .Mult (oSub (oLoc 4) (oK (.int 0))) (oK (.int 3))) (oK (.flt 4602678819172646912)))) (oK (.int 3)))) (sgH p bl mn (some (.ref 1)) told [.list (intsA (parts3 m a b c))]) = some (.ret (.str [if m = 0 then 46 else if m = 1 then 103 else 98]), sgH p bl mn (some (.ref 1)) told [.list (intsA (parts3 m a b c))]) := by
  obtain ⟨x, y, z, t, l, s, e1, e2, e3, e4, e5⟩ := told_inv ht
  refine ⟨some (.tup [.flt t, .flt l, .flt s]), ?_, ?_⟩
  · exact sAsg_eq (oFc_eq (oCons_eq (oBin_eq (oSub_eq (v := .int ((part m a b c 0 : Nat) : Int)) (oLoc_eq rfl) rfl rfl) rfl e1) (oCons_eq (oBin_eq (oSub_eq (v := .int ((part m a b c 1 : Nat) : Int)) (oLoc_eq rfl) rfl rfl) rfl e2) (oCons_eq (oBin_eq (oSub_eq (v := .int ((part m a b c 2 : Nat) : Int)) (oLoc_eq rfl) rfl rfl) rfl e3) rfl))) rfl ((hC _ rfl).trans e4)) rfl
  · obtain ⟨h1, h2⟩ := sign_sub (H := sgH p bl mn (some (.ref 1)) (some (.tup [.flt t, .flt l, .flt s])) [.list (intsA (parts3 m a b c))]) hm hn
    exact sRet_eq (oSub_eq rfl (oBin_eq (oToInt_eq (oBin_eq (oBin_eq (oSub_eq (v := .flt t) (oLoc_eq rfl) rfl rfl) rfl rfl) rfl rfl) e5) rfl h1) h2)
theorem sign_run {p : Nat} (h0 : ∀ vs, vs.length = 3 → C 0 vs = hls1 vs) (h1 : ∀ vs, vs.length = 3 → C 1 vs = hsv1 vs) (bl : Bool) : arun (o_p1_law_sign C D) p1_law_sign [.int (p : Int), .bool bl] = some (.str [sg p]) := by
  let m := p % 3
  let a := p / 3 % 4
  let b := p / 12 % 4
  let c := p / 48 % 4
  have hm : m < 3 := Nat.mod_lt _ (by decide)
  have ha : a < 4 := Nat.mod_lt _ (by decide)
  have hb : b < 4 := Nat.mod_lt _ (by decide)
  have hc : c < 4 := Nat.mod_lt _ (by decide)
  have kl : signChk hls1 m = true := by
    match m, hm with
    | 0, _ => exact sign_l0
    | 1, _ => exact sign_l1
    | 2, _ => exact sign_l2
  have kv : signChk hsv1 m = true := by
    match m, hm with
    | 0, _ => exact sign_v0
    | 1, _ => exact sign_v1
    | 2, _ => exact sign_v2
  let Z : Option AV → List AO → Hp := fun mn xs => sgH p bl mn (some (.ref 1)) none xs
  let mn : Option AV := some (.int (m : Int))
  have s1 : sAsg (.loc 2) (oBin .Mod (oLoc 0) (oK (.int 3))) (sgH p bl none none none []) = some (.next, sgH p bl mn none none []) := sAsg_eq (oBin_eq (oLoc_eq rfl) rfl (abin_mod (p := p) (k := 3) (by decide))) rfl
  have s2 : sAsg (.loc 3) (oLstM (oCons (oK (.int 0)) (oCons (oK (.int 0)) (oCons (oK (.int 0)) oNil)))) (sgH p bl mn none none []) = some (.next, Z mn [.list (intsA [0, 0, 0])]) := rfl
  have st : ∀ {i e : OE} {l : List Nat} {j v : Nat}, l.length = 3 → e [] (Z mn [.list (intsA l)]) = some (.int (v : Int), Z mn [.list (intsA l)]) → i [] (Z mn [.list (intsA l)]) = some (.int (j : Int), Z mn [.list (intsA l)]) → j < 3 → sSeti (oLoc 3) i e (Z mn [.list (intsA l)]) = some (.next, Z mn [.list (intsA (l.set j v))]) := fun {i e l j v} hl he hi hj => by
    refine (sSeti_eq he (oLoc_eq rfl) hi rfl ⟨⟨by omega, by rw [intsA_len, hl]; omega⟩, small_of (by rw [intsA_len, hl]; decide)⟩).trans ?_
    rw [Int.toNat_natCast, intsA_set]; rfl
  have ev : ∀ {l : List Nat} (k : Nat), k ≠ 0 → k ≤ 1000000000 → oBin .Mod (oBin .FloorDiv (oLoc 0) (oK (.int (k : Int)))) (oK (.int 4)) [] (Z mn [.list (intsA l)]) = some (.int ((p / k % 4 : Nat) : Int), Z mn [.list (intsA l)]) := fun k hk hb => oBin_eq (oBin_eq (oLoc_eq rfl) rfl (abin_fdiv hk hb)) rfl (abin_mod (p := p / k) (k := 4) (by decide))
  have ei : ∀ {l : List Nat} (k : Nat), oBin .Mod (oBin .Add (oLoc 2) (oK (.int (k : Int)))) (oK (.int 3)) [] (Z mn [.list (intsA l)]) = some (.int (((m + k) % 3 : Nat) : Int), Z mn [.list (intsA l)]) := fun k => oBin_eq (oBin_eq (oLoc_eq rfl) rfl (abin_add m k)) rfl (abin_mod (p := m + k) (k := 3) (by decide))
  have s3 := st (i := oLoc 2) (e := oBin .Add (oK (.int 4)) (oBin .Mod (oBin .FloorDiv (oLoc 0) (oK (.int 3))) (oK (.int 4)))) (l := [0, 0, 0]) (j := m) (v := 4 + a) rfl (oBin_eq rfl (ev 3 (by decide) (by decide)) (abin_add 4 a)) (oLoc_eq rfl) hm
  have s4 := st (i := oBin .Mod (oBin .Add (oLoc 2) (oK (.int 1))) (oK (.int 3))) (e := oBin .Mod (oBin .FloorDiv (oLoc 0) (oK (.int 12))) (oK (.int 4))) (l := ([0, 0, 0] : List Nat).set m (4 + a)) (j := (m + 1) % 3) (v := b) (by simp) (ev 12 (by decide) (by decide)) (ei 1) (Nat.mod_lt _ (by decide))
  have s5 := st (i := oBin .Mod (oBin .Add (oLoc 2) (oK (.int 2))) (oK (.int 3))) (e := oBin .Mod (oBin .FloorDiv (oLoc 0) (oK (.int 48))) (oK (.int 4))) (l := (([0, 0, 0] : List Nat).set m (4 + a)).set ((m + 1) % 3) b) (j := (m + 2) % 3) (v := c) (by simp) (ev 48 (by decide) (by decide)) (ei 2) (Nat.mod_lt _ (by decide))
  rw [parts_set hm] at s5
  cases bl with
  | true =>
    obtain ⟨n, e1, e2⟩ := signChk_inv kl ha hb hc
    obtain ⟨told, t1, t2⟩ := sign_tail (C := C) (p := p) (bl := true) hm e1 e2 h0 mn
    exact arun_ret rfl (sCons_n s1 (sCons_n s2 (sCons_n s3 (sCons_n s4 (sCons_n s5 (sCons_n (sIf_t (tVal_eq (oLoc_eq rfl) rfl) (sCons_n t1 rfl)) (sCons_r t2))))))) rfl
  | false =>
    obtain ⟨n, e1, e2⟩ := signChk_inv kv ha hb hc
    obtain ⟨told, t1, t2⟩ := sign_tail (C := C) (p := p) (bl := false) hm e1 e2 h1 mn
    exact arun_ret rfl (sCons_n s1 (sCons_n s2 (sCons_n s3 (sCons_n s4 (sCons_n s5 (sCons_n (sIf_f (tVal_eq (oLoc_eq rfl) rfl) (sCons_n t1 rfl)) (sCons_r t2))))))) rfl
end
end Mine
end
section
set_option Elab.async false
set_option linter.all false
set_option maxRecDepth 100000
namespace Mine
open PySem PyProof.Rows PySem.W PySem.Builtin
noncomputable def Fd.tk (f : Fd) : Nat := (cellNames f.names).length + 1
noncomputable def Fd.initT (f : Fd) (c : Addr) (xs vs : List AV) : Hp := f.init (.tab c f.tk :: vs) ++ [.list xs]
noncomputable def tval : AF → Option AV
  | .ret v => gd v.pure (some v)
  | .next => some .none
  | .brk => none
noncomputable def trun (o : OS) (f : Fd) (c : Addr) (xs vs : List AV) : Option (AV × List AV) :=
  gd (decide (vs.length + 1 = f.params.length)) (th (o (f.initT c xs vs)) fun fl H => (tval fl).bind fun v => (getList H f.tk).bind fun ys => gd (AV.pures ys) (some (v, ys)))
theorem tval_inv {fl : AF} {v : AV} (h : tval fl = some v) : (∃ u, fl = .ret u ∧ u.pure = true ∧ u = v) ∨ (fl = .next ∧ v = .none) := by
  cases fl with
  | next => cases h; exact .inr ⟨rfl, rfl⟩
  | brk => cases h
  | ret u =>
    obtain ⟨hp, e⟩ := gd_inv h
    cases e
    exact .inl ⟨_, rfl, hp, rfl⟩
section
variable {prog : Program} {w : World} {hb : Heap} {mg mb : Str → Option Value} {c : Addr}
theorem tcall_of {f : Fd} {fa : Addr} {body : List Stmt} {o : Obj} {fd : FuncData} (F : Fn0 hb fa f body o fd) (T : TopOk hb mg mb) {d : Nat} {xs ys vs : List AV} {v : AV} (hbind : ∀ vals : List Value, vals.length = vs.length + 1 → bindArgs fd ⟨vals, []⟩ = pure (f.params.zip vals))
    {fl : AF} {H' : Hp} (hx : ∀ A env, Room A d → Ex prog w A ⟨hb, f.locs⟩ f.sc env (execs body env) (f.initT c xs vs) fl H') (hv : (∃ u, fl = .ret u ∧ u.pure = true ∧ u = v) ∨ (fl = .next ∧ v = .none)) (hy : H'[f.tk]? = some (.list ys)) (hyp : AV.pures ys = true) : MethOk prog w hb c fa (d + 1) xs vs v ys := by
  intro A hA B s Q E ia la ws n vals hbB hBs I hBla hla rv V k
  refine wpAny_call (frame_run F T hA (φ0 := [la]) (H0 := [.list xs]) (vs := .tab c f.tk :: vs) hbB hBs rfl (List.nodup_cons.mpr ⟨by simp, List.nodup_nil⟩) (fun a ha => by rw [List.mem_singleton.mp ha]; exact hBla) (fun j a x e1 e2 => ?_) ?_ fun env B₁ φ h₂ tk₂ EE S => ?_)
  · cases j with
    | zero => cases e1; cases e2; exact ⟨xs, ws, n, rfl, hla, rv⟩
    | succ j => cases e1
  · rw [hbind (.ref ia :: vals) (by rw [List.length_cons, V.length])]
    refine wpAny_pure ⟨.ref ia :: vals, s.heap, s.toks, B, trivial, rfl, rfl, fun _ _ e => e, fun _ _ e => e, fun _ _ e => .inl e, hBs, fun ψ hψ => VRs.cons ?_ (VRs.mono (fun _ _ e => e) List.nil_prefix V)⟩
    simp only [VR]
    refine ⟨ia, la, rfl, ?_, I⟩
    have hk : ψ.length = f.tk := hψ
    rw [← hk, List.getElem?_append_right (Nat.le_refl _), Nat.sub_self]; rfl
  · refine hx _ env (hA.deeper env) B₁ φ { s with heap := h₂, toks := tk₂ } _ _ S.rel S.env fun B' φ' fl' h' tk G R' F' => ?_
    obtain ⟨ψ, hψ, hφ⟩ := S.own
    have hk : ψ.length = f.tk := hψ
    have hl0 : φ[f.tk]? = some la := by rw [hφ, ← hk, List.getElem?_append_right (Nat.le_refl _), Nat.sub_self]; rfl
    have hl := getElem?_prefix G.pre hl0
    obtain ⟨ws', n', ho', rv'⟩ := R'.obj _ _ _ hl hy
    have hla' := R'.out _ _ _ hl hy rfl
    have hin : ∀ a ∈ φ, a ≠ la → s.heap.get? a = none := fun a ha hne => by
      rcases S.new a ha with h | h
      · exact absurd (List.mem_singleton.mp h) hne
      · exact h
    refine k B' _ h' tk ws' n' (fun a o e => G.mono _ _ (S.mono _ _ e)) (fun a o e => ?_) R'.keep (fun a o ha e => ?_) ho' (VRs.pure hyp rv') ?_
    · rcases G.newB a o e with h | h | h
      · exact S.newB a o h
      · exact .inr (hin a h (by rintro rfl; rw [hla'] at e; cases e))
      · refine .inr ?_
        cases q : s.heap.get? a with
        | none => rfl
        | some o =>
          have := S.keeps _ _ q
          have h' : h₂.get? a = none := h
          rw [h'] at this; cases this
    · refine G.frame a o (fun hm => ?_) (S.keeps _ _ e)
      rw [hin a hm ha] at e; cases e
    · rcases hv with ⟨u, rfl, hp, rfl⟩ | ⟨rfl, rfl⟩
      · obtain ⟨val, rfl, hV⟩ := F'
        exact VR.pure hp hV
      · have : fl' = .next := F'
        subst this; simp [VR]
theorem tfn_call {f : Fd} {fa : Addr} {o : Obj} {fd : FuncData} (F : Fn hb fa f o fd) (T : TopOk hb mg mb) {d : Nat} {q : OS} (K : ∀ A, Room A d → SS prog w A ⟨hb, f.locs⟩ f.sc f.body q) {xs vs ys : List AV} {v : AV} (e : trun q f c xs vs = some (v, ys)) : MethOk prog w hb c fa (d + 1) xs vs v ys := by
  obtain ⟨hl, e⟩ := gd_inv e
  obtain ⟨fl, H', ea, e⟩ := th_inv e
  obtain ⟨u, eu, e⟩ := bind_inv e
  obtain ⟨zs, ez, e⟩ := bind_inv e
  obtain ⟨hp, e⟩ := gd_inv e
  cases e
  exact tcall_of F.toFn0 T (fun vals hv => F.binds vals (hv.trans (by simpa using hl))) (fun A env hA => (K A hA).ev ea) (tval_inv eu) (getList_inv ez) hp
end
end Mine
end
section
set_option Elab.async false
set_option linter.all false
set_option linter.unusedSimpArgs false
set_option maxRecDepth 100000
namespace Mine
open PySem
theorem asub_lst {H : Hp} {xs : List AV} {k : Nat} {v : AV} (h : xs[k]? = some v) (hk : k ≤ 1000000) : asub H (.lst xs) (.int (k : Int)) = some v := by
  show orE none (aidx xs (k : Int)) = _
  rw [aidx_nat h hk]; rfl
theorem asub_str {H : Hp} {s : Wd} {k c : Nat} (h : s[k]? = some c) (hk : k ≤ 1000000) : asub H (.str s) (.int (k : Int)) = some (.str [c]) := by
  show orE ((aidx s (k : Int)).map fun c => AV.str [c]) _ = _
  rw [aidx_nat h hk]; rfl
theorem add_lst {a b : List AV} (h : a.length + b.length ≤ 100000) : abin .Add (.lst a) (.lst b) = some (.lst (a ++ b)) := by
  show gd (small (a.length + b.length)) _ = _
  rw [small_of h]; rfl
theorem abin_sub {a b : Nat} (h : b ≤ a) : abin .Sub (.int (a : Int)) (.int (b : Int)) = some (.int ((a - b : Nat) : Int)) := by
  show some (AV.int _) = _
  congr 2; omega
noncomputable def onesA (l : Wd) : List AV := l.map fun c => AV.str [c]
theorem onesA_eq (l : Wd) : onesA l = strsA (l.map fun c => [c]) := by simp [onesA, strsA]
theorem onesA_len (l : Wd) : (onesA l).length = l.length := by simp [onesA]
theorem join_ones {H : Hp} {l : Wd} (h : l.length ≤ 100000) : asm H .join [] [.lst (onesA l)] = some (.str l) := by
  have := asm_join (H := H) (s := []) (ts := l.map fun c => [c]) (by rw [joinL_ones, small_of h]; rfl)
  rw [joinL_ones, ← onesA_eq] at this; exact this
theorem comp_nat {elt : OE} {H : Hp} {f : Nat → AV} (hp : ∀ k, (f k).pure = true) : ∀ (n k0 : Nat), (∀ k, k0 ≤ k → k < k0 + n → elt [.int (k : Int)] H = some (f k, H)) →
    compLit (oTurn elt tNil) ((List.range' k0 n).map fun k : Nat => AV.int (k : Int)) H = some ((List.range' k0 n).map f, H)
  | 0, k0, _ => rfl
  | n + 1, k0, h => by
    rw [List.range'_succ, List.map_cons, List.map_cons]
    exact comp_one (turn_all (h k0 (Nat.le_refl _) (by omega))) (hp k0) (comp_nat hp n (k0 + 1) fun k h1 h2 => h k (by omega) (by omega))
theorem compR_nat {elt e : OE} {H : Hp} {ξ : List AV} {f : Nat → AV} {n : Nat} (hn : n ≤ 100000) (h1 : e ξ H = some (.int (n : Int), H)) (hp : ∀ k, (f k).pure = true) (h : ∀ k, k < n → elt [.int (k : Int)] H = some (f k, H)) :
    oCompR1 elt e tNil ξ H = some (.lst ((List.range n).map f), H) := by
  have e2 := comp_nat (elt := elt) (H := H) hp n 0 (fun k _ hk => h k (by omega))
  rw [← rangeL_nat, ← List.range_eq_range'] at e2
  exact oCompR1_eq h1 (by simp [rngOk]; omega) (small_of (by rw [rangeL_nat]; simp; omega)) e2
theorem take_one {f : Nat → Nat} : ∀ {s : Nat}, 1 ≤ s → (onesA ((List.range s).map f)).take 1 = onesA [f 0]
  | n + 1, _ => by simp [onesA, List.range_succ_eq_map]
section
variable {C : Nat → List AV → Option AV} {D : Nat → List AV → List AV → Option (AV × List AV)}
structure Rows (R : List Wd) (ch : Nat → Nat → Nat) : Prop where
  row : ∀ i, i < 5 → ∃ w, R[i]? = some w ∧ w.length = i + 1 ∧ ∀ j, j ≤ i → w[j]? = some (ch i j)
noncomputable def rimW (ch : Nat → Nat → Nat) (s : Nat) : Wd := (List.range s).map (fun k => ch k 0) ++ (List.range s).map (fun k => ch s k) ++ (List.range s).map (fun k => ch (s - k) (s - k)) ++ [ch 0 0]
noncomputable abbrev rmH (R : List Wd) (s : Nat) (l w r : Option AV) : Hp := [.ns [l, w, r], .cell (some (.lst (strsA R))), .cell (some (.int (s : Int)))]
theorem rim_run {R : List Wd} {ch : Nat → Nat → Nat} (hR : Rows R ch) {s : Nat} (h1 : 1 ≤ s) (h4 : s ≤ 4) : arun (o_p1_law_rim C D) p1_law_rim [.lst (strsA R), .int (s : Int)] = some (.str (rimW ch s)) := by
  have cc : ∀ {H : Hp} {e1 e2 : OE} {ξ : List AV} {i j : Nat}, getCel H 1 = some (.lst (strsA R)) → i < 5 → j ≤ i → e1 ξ H = some (.int (i : Int), H) → e2 ξ H = some (.int (j : Int), H) → oSub (oSub (oCel 1) e1) e2 ξ H = some (.str [ch i j], H) := fun {H e1 e2 ξ i j} hc hi hj he1 he2 => by
    obtain ⟨w, k1, k2, k3⟩ := hR.row i hi
    have k4 : (strsA R)[i]? = some (.str w) := by unfold strsA; rw [List.getElem?_map, k1]; rfl
    exact oSub_eq (oSub_eq (oCel_eq hc) he1 (asub_lst k4 (by omega))) he2 (asub_str (k3 j hj) (by omega))
  have mp : ∀ f : Nat → Nat, (List.range s).map (fun k => AV.str [f k]) = onesA ((List.range s).map f) := fun f => by simp [onesA]
  let L := (List.range s).map fun k => ch k 0
  let W := (List.range s).map fun k => ch s k
  let T := (List.range s).map fun k => ch (s - k) (s - k)
  have p1 : sAsg (.loc 0) (oCompR1 (oSub (oSub (oCel 1) (oCv 0)) (oK (.int 0))) (oCel 2) tNil) (rmH R s none none none) = some (.next, rmH R s (some (.lst (onesA L))) none none) := by
    have := compR_nat (H := rmH R s none none none) (ξ := []) (e := oCel 2) (elt := oSub (oSub (oCel 1) (oCv 0)) (oK (.int 0))) (f := fun k => AV.str [ch k 0]) (n := s) (by omega) (oCel_eq rfl) (fun _ => rfl) (fun k hk => cc rfl (by omega) (by omega) (oCv_eq rfl) rfl)
    rw [mp] at this
    exact sAsg_eq this rfl
  have p2 : sAsg (.loc 1) (oCompR1 (oSub (oSub (oCel 1) (oCel 2)) (oCv 0)) (oCel 2) tNil) (rmH R s (some (.lst (onesA L))) none none) = some (.next, rmH R s (some (.lst (onesA L))) (some (.lst (onesA W))) none) := by
    have := compR_nat (H := rmH R s (some (.lst (onesA L))) none none) (ξ := []) (e := oCel 2) (elt := oSub (oSub (oCel 1) (oCel 2)) (oCv 0)) (f := fun k => AV.str [ch s k]) (n := s) (by omega) (oCel_eq rfl) (fun _ => rfl) (fun k hk => cc rfl (by omega) (by omega) (oCel_eq rfl) (oCv_eq rfl))
    rw [mp] at this
    exact sAsg_eq this rfl
  have p3 : sAsg (.loc 2) (oCompR1 (oSub (oSub (oCel 1) (oBin .Sub (oCel 2) (oCv 0))) (oBin .Sub (oCel 2) (oCv 0))) (oCel 2) tNil) (rmH R s (some (.lst (onesA L))) (some (.lst (onesA W))) none) = some (.next, rmH R s (some (.lst (onesA L))) (some (.lst (onesA W))) (some (.lst (onesA T)))) := by
    have := compR_nat (H := rmH R s (some (.lst (onesA L))) (some (.lst (onesA W))) none) (ξ := []) (e := oCel 2) (elt := oSub (oSub (oCel 1) (oBin .Sub (oCel 2) (oCv 0))) (oBin .Sub (oCel 2) (oCv 0))) (f := fun k => AV.str [ch (s - k) (s - k)]) (n := s) (by omega) (oCel_eq rfl) (fun _ => rfl) (fun k hk => cc rfl (by omega) (Nat.le_refl _) (oBin_eq (oCel_eq rfl) (oCv_eq rfl) (abin_sub (by omega))) (oBin_eq (oCel_eq rfl) (oCv_eq rfl) (abin_sub (by omega))))
    rw [mp] at this
    exact sAsg_eq this rfl
  have hl : ∀ f : Nat → Nat, (onesA ((List.range s).map f)).length = s := fun f => by simp [onesA]
  have e1 : aslice (.lst (onesA L)) 0 (some 1) = some (.lst (onesA [ch 0 0])) := by
    show (aslc (onesA L) ((0 : Nat) : Int) (some ((1 : Nat) : Int))).map AV.lst = _
    rw [aslc_to (small_of (by rw [hl]; omega))]
    have : (onesA L).take 1 = onesA [ch 0 0] := take_one h1
    show some (AV.lst ((onesA L).take 1)) = _
    rw [this]
  have ap : onesA L ++ onesA W ++ onesA T ++ onesA [ch 0 0] = onesA (rimW ch s) := by simp [onesA, rimW, L, W, T]
  have a1 : abin .Add (.lst (onesA L)) (.lst (onesA W)) = some (.lst (onesA L ++ onesA W)) := add_lst (by rw [hl, hl]; omega)
  have a2 : abin .Add (.lst (onesA L ++ onesA W)) (.lst (onesA T)) = some (.lst (onesA L ++ onesA W ++ onesA T)) := add_lst (by rw [List.length_append, hl, hl, hl]; omega)
  have a3 : abin .Add (.lst (onesA L ++ onesA W ++ onesA T)) (.lst (onesA [ch 0 0])) = some (.lst (onesA (rimW ch s))) := by
    rw [← ap]; exact add_lst (by rw [List.length_append, List.length_append, hl, hl, hl, onesA_len]; simp; omega)
  have hj := join_ones (H := rmH R s (some (.lst (onesA L))) (some (.lst (onesA W))) (some (.lst (onesA T)))) (l := rimW ch s) (by simp [rimW]; omega)
  exact arun_ret rfl (sCons_n p1 (sCons_n p2 (sCons_n p3 (sCons_r (sRet_eq (oSm_eq rfl (oCons_eq (oBin_eq (oBin_eq (oBin_eq (oLoc_eq rfl) (oLoc_eq rfl) a1) (oLoc_eq rfl) a2) (oSlcTo_eq (oLoc_eq rfl) rfl e1) a3) rfl) hj)))))) rfl
noncomputable def isSg (c : Nat) : Bool := c == 46 || c == 103 || c == 98
noncomputable def min3 (a b c : Nat) : Wd := bestBy strLt [a, b, c] [[b, c, a], [c, a, b]]
noncomputable def nmOf (n a b c : Nat) : Wd := if n % 2 = 0 then min3 a b c else (min3 a b c).map upC
noncomputable def LenD (D : Nat → List AV → List AV → Option (AV × List AV)) : Prop := ∀ its, okIts its = true → D 4 (tabL its) [] = some (.int (its.length : Int), tabL its)
theorem min3_is (a b c : Nat) : min3 a b c = [a, b, c] ∨ min3 a b c = [b, c, a] ∨ min3 a b c = [c, a, b] := by
  unfold min3 bestBy bestBy bestBy
  split <;> split <;> simp
theorem isSg_plain {c : Nat} (h : isSg c = true) : plainC c = true ∧ plainC (upC c) = true := by
  simp only [isSg, Bool.or_eq_true, beq_iff_eq] at h
  rcases h with (rfl | rfl) | rfl <;> exact ⟨rfl, rfl⟩
theorem okS_three {a b c : Nat} (ha : plainC a = true) (hb : plainC b = true) (hc : plainC c = true) : okS [a, b, c] = true := by
  simp [okS, ha, hb, hc]
theorem min3_ok {a b c : Nat} (ha : isSg a = true) (hb : isSg b = true) (hc : isSg c = true) : okS (min3 a b c) = true ∧ okS ((min3 a b c).map upC) = true := by
  obtain ⟨a1, a2⟩ := isSg_plain ha
  obtain ⟨b1, b2⟩ := isSg_plain hb
  obtain ⟨c1, c2⟩ := isSg_plain hc
  rcases min3_is a b c with h | h | h <;> rw [h]
  · exact ⟨okS_three a1 b1 c1, okS_three a2 b2 c2⟩
  · exact ⟨okS_three b1 c1 a1, okS_three b2 c2 a2⟩
  · exact ⟨okS_three c1 a1 b1, okS_three c2 a2 b2⟩
theorem nmOf_ok {n a b c : Nat} (ha : isSg a = true) (hb : isSg b = true) (hc : isSg c = true) : okS (nmOf n a b c) = true := by
  unfold nmOf
  obtain ⟨h1, h2⟩ := min3_ok ha hb hc
  split
  · exact h1
  · exact h2
noncomputable abbrev lyH (a b c : Nat) (pl : Wd) (nm : Option AV) (its : Its) : Hp := [.ns [some (.tab 213 1), some (.str [a, b, c]), some (.str pl), nm], .list (tabL its)]
theorem lay_run (hA : AddD D) (hL : LenD D) {its : Its} (hi : okIts its = true) {a b c : Nat} (ha : isSg a = true) (hb : isSg b = true) (hc : isSg c = true) {pl : Wd} (hp : okS pl = true) :
    trun (o_p1_law_lay C D) p1_law_lay 213 (tabL its) [.str [a, b, c], .str pl] = some (.none, tabL (its ++ [(nmOf its.length a b c, pl)])) := by
  let H := lyH a b c pl none its
  let Z := lyH a b c pl (some (.str (min3 a b c))) its
  obtain ⟨k1, k2⟩ := min3_ok ha hb hc
  have p1 : sAsg (.loc 3) (oMin1 (oLst (oCons (oLoc 1) (oCons (oBin .Add (oSlcFrom (oLoc 1) (oK (.int 1))) (oSub (oLoc 1) (oK (.int 0)))) (oCons (oBin .Add (oSub (oLoc 1) (oK (.int 2))) (oSlcTo (oLoc 1) (oK (.int 2)))) oNil))))) H = some (.next, Z) := rfl
  have ht : ∀ {nm : Option AV} {its' : Its}, atab 213 (lyH a b c pl nm its') (.tab 213 1) = some (1, tabL its') := atab_tabL rfl
  have el : oTl D 213 4 (oLoc 0) [] Z = some (.int (its.length : Int), Z) := oTl_eq (l := 1) (oLoc_eq rfl) ht (hL its hi)
  have ei : oIfe (tVal (oBin .Mod (oTl D 213 4 (oLoc 0)) (oK (.int 2)))) (oSm .upper (oLoc 3) oNil) (oLoc 3) [] Z = some (.str (nmOf its.length a b c), Z) := by
    have hm := abin_mod (p := its.length) (k := 2) (by decide)
    by_cases h : its.length % 2 = 0
    · have hr : nmOf its.length a b c = min3 a b c := if_pos h
      rw [hr]
      exact oIfe_f (tBin_eq el rfl hm (by rw [h]; rfl)) (oLoc_eq rfl)
    · have hr : nmOf its.length a b c = (min3 a b c).map upC := if_neg h
      have h1 : its.length % 2 = 1 := by omega
      rw [hr]
      refine oIfe_t (tBin_eq el rfl hm (by rw [h1]; rfl)) (oSm_eq (oLoc_eq rfl) rfl ?_)
      show gd (ascii (min3 a b c) && small (min3 a b c).length) _ = _
      rw [okS_ascii k1, okS_small k1]; rfl
  have p2 : sExp (oTc D 213 0 (oLoc 0) (oCons (oIfe (tVal (oBin .Mod (oTl D 213 4 (oLoc 0)) (oK (.int 2)))) (oSm .upper (oLoc 3) oNil) (oLoc 3)) (oCons (oLoc 2) oNil))) Z = some (.next, lyH a b c pl (some (.str (min3 a b c))) (its ++ [(nmOf its.length a b c, pl)])) :=
    sExp_none ((oTc_eq (l := 1) (xs := tabL its) (oLoc_eq rfl) (by rw [ht]; rfl) (oCons_eq ei (oCons_eq (oLoc_eq rfl) rfl)) rfl ht (hA its _ _ hi (nmOf_ok ha hb hc) hp)).trans rfl)
  have e : o_p1_law_lay C D (p1_law_lay.initT 213 (tabL its) [.str [a, b, c], .str pl]) = some (.next, lyH a b c pl (some (.str (min3 a b c))) (its ++ [(nmOf its.length a b c, pl)])) := sCons_n (H1 := Z) p1 (sCons_n p2 rfl)
  unfold trun
  rw [e]
  show gd (AV.pures (tabL (its ++ [(nmOf its.length a b c, pl)]))) (some (AV.none, tabL (its ++ [(nmOf its.length a b c, pl)]))) = _
  rw [tabL_pures]; rfl
end
end Mine
end
section
set_option Elab.async false
set_option linter.all false
set_option linter.unusedSimpArgs false
set_option maxRecDepth 100000
namespace Mine
open PySem
noncomputable def noEnd (w : List Nat) : Prop := ∀ c ∈ w, c ≠ 13 ∧ c ≠ 10
noncomputable def dot1 (w : List Nat) : List Nat := if w.head? = some 46 then 46 :: w else w
theorem crlf_skip {c : Nat} {r : List Nat} (h : c ≠ 13 ∧ c ≠ 10) : crlf (c :: r) = c :: crlf r := by
  have e : crlf (c :: r) = (if c = 13 ∨ c = 10 then [13, 10] else [c]) ++ crlf r := by
    rw [crlf]
    intro r' hc; exact absurd hc h.1
  rw [e, if_neg (fun q => q.elim h.1 h.2)]; rfl
theorem crlf_row : ∀ {w : List Nat} (x : List Nat), noEnd w → crlf (w ++ x) = w ++ crlf x
  | [], x, _ => rfl
  | c :: w, x, h => by
    rw [List.cons_append, crlf_skip (h c (List.mem_cons_self ..)), crlf_row x fun d hd => h d (List.mem_cons_of_mem _ hd)]; rfl
theorem crlf_end {e x : List Nat} (h : e = [10] ∨ (e = [13] ∧ x.head? ≠ some 10) ∨ e = [13, 10]) : crlf (e ++ x) = 13 :: 10 :: crlf x := by
  rcases h with rfl | ⟨rfl, h⟩ | rfl
  · rfl
  · cases x with
    | nil => rfl
    | cons d r =>
      have hd : d ≠ 10 := fun q => h (by rw [q]; rfl)
      show crlf (13 :: d :: r) = _
      rw [crlf]
      · rfl
      · intro r' _ hr; exact hd (List.cons.inj hr).1
  · rfl
theorem dots_row : ∀ {w : List Nat} (x : List Nat), noEnd w → dots false (w ++ x) = w ++ dots false x
  | [], x, _ => rfl
  | c :: w, x, h => by
    have hc := h c (List.mem_cons_self ..)
    show [c] ++ dots (c == 10) (w ++ x) = _
    rw [beq_false_of_ne hc.2, dots_row x fun d hd => h d (List.mem_cons_of_mem _ hd)]; rfl
theorem dots_line {w x : List Nat} (h : noEnd w) : dots true (w ++ 13 :: 10 :: x) = dot1 w ++ 13 :: 10 :: dots true x := by
  cases w with
  | nil => rfl
  | cons c r =>
    have hc := h c (List.mem_cons_self ..)
    have hr : noEnd r := fun d hd => h d (List.mem_cons_of_mem _ hd)
    show (if (true && c == 46) = true then [46, 46] else [c]) ++ dots (c == 10) (r ++ 13 :: 10 :: x) = _
    rw [beq_false_of_ne hc.2, dots_row _ hr]
    by_cases h46 : c = 46
    · subst h46; rfl
    · have : dot1 (c :: r) = c :: r := if_neg (fun q => h46 (Option.some.inj q))
      rw [this, Bool.true_and, if_neg (by simpa using h46)]; rfl
theorem dot1_noEnd {w : List Nat} (h : noEnd w) : noEnd (dot1 w) := by
  unfold dot1
  split
  · intro c hc
    rcases List.mem_cons.mp hc with rfl | hc
    · decide
    · exact h c hc
  · exact h
theorem split_line {w x : List Nat} (h : noEnd w) : splitL (w ++ 13 :: 10 :: x) = w :: splitL x := by
  refine splitL_cut w x fun i hi e => ?_
  have h1 := e.1
  rw [List.getElem?_append_left hi] at h1
  exact (h _ (List.mem_of_getElem? h1)).1 rfl
noncomputable def mailTx (l : List (List Nat × List Nat)) : List Nat := l.flatMap fun p => p.1 ++ p.2
noncomputable def okMail : List (List Nat × List Nat) → Prop
  | [] => True
  | p :: r => noEnd p.1 ∧ (p.2 = [10] ∨ (p.2 = [13] ∧ (mailTx r).head? ≠ some 10) ∨ p.2 = [13, 10]) ∧ okMail r
theorem crlf_mail : ∀ {l : List (List Nat × List Nat)}, okMail l → crlf (mailTx l) = mailTx (l.map fun p => (p.1, [13, 10]))
  | [], _ => rfl
  | p :: r, h => by
    show crlf (p.1 ++ p.2 ++ mailTx r) = p.1 ++ [13, 10] ++ mailTx (r.map _)
    rw [List.append_assoc, crlf_row _ h.1, crlf_end h.2.1, crlf_mail h.2.2, List.append_assoc]; rfl
theorem dots_mail : ∀ {l : List (List Nat × List Nat)}, okMail l → dots true (mailTx (l.map fun p => (p.1, [13, 10]))) = mailTx (l.map fun p => (dot1 p.1, [13, 10]))
  | [], _ => rfl
  | p :: r, h => by
    show dots true (p.1 ++ [13, 10] ++ mailTx (r.map _)) = dot1 p.1 ++ [13, 10] ++ mailTx (r.map _)
    rw [List.append_assoc, List.append_assoc]
    show dots true (p.1 ++ 13 :: 10 :: mailTx (r.map _)) = dot1 p.1 ++ 13 :: 10 :: mailTx (r.map _)
    rw [dots_line h.1, dots_mail h.2.2]
theorem split_mail : ∀ {l : List (List Nat × List Nat)}, okMail l → splitL (mailTx (l.map fun p => (dot1 p.1, [13, 10]))) = l.map (fun p => dot1 p.1) ++ [[]]
  | [], _ => rfl
  | p :: r, h => by
    show splitL (dot1 p.1 ++ [13, 10] ++ mailTx (r.map _)) = _
    rw [List.append_assoc]
    show splitL (dot1 p.1 ++ 13 :: 10 :: mailTx (r.map _)) = _
    rw [split_line (dot1_noEnd h.1), split_mail h.2.2]; rfl
theorem qd_mail {l : List (List Nat × List Nat)} (h : okMail l) : qd (mailTx l) = mailTx (l.map fun p => (dot1 p.1, [13, 10])) := by
  unfold qd; rw [crlf_mail h, dots_mail h]
theorem heard_mail {l : List (List Nat × List Nat)} (h : okMail l) : splitL (qd (mailTx l)) = l.map (fun p => dot1 p.1) ++ [[]] := by rw [qd_mail h, split_mail h]
theorem dot1_len (w : List Nat) : (dot1 w).length = w.length + (if w.head? = some 46 then 1 else 0) := by
  unfold dot1; split <;> simp
end Mine
end
section
set_option Elab.async false
set_option linter.all false
set_option linter.unusedSimpArgs false
set_option maxRecDepth 100000
namespace Mine
open PySem
noncomputable def SignC (C : Nat → List AV → Option AV) : Prop := ∀ (p : Nat) (b : Bool), C 3 [.int (p : Int), .bool b] = some (.str [sg p])
noncomputable def en1 (d : Nat) : Wd := if d / 192 = 0 then [10] else if d / 192 = 1 then [13] else [13, 10]
noncomputable def rowTx (p : List Nat) : Wd × Wd := (p.map sg, en1 (p.headD 0))
section
variable {C : Nat → List AV → Option AV} {D : Nat → List AV → List AV → Option (AV × List AV)}
noncomputable abbrev eH (scr rows dr : Option AV) (letter : Wd) (paints k : Option AV) : Hp := [.ns [scr, none, rows, some (.str letter), paints, k, none, none, none, none, none, none, none, none, none, none], .cell dr]
theorem letter_turn (hS : SignC C) {scr rows dr : Option AV} {letter : Wd} {p : List Nat} {k d : Nat} {k' : Option AV} (hd : p[k]? = some d) (hk : k ≤ 1000) (hl : letter.length ≤ 10000) :
    oBody (.one (.loc 5)) (o_p1_law_b0 C D) (.int (k : Int)) (eH scr rows dr letter (some (.lst (intsA p))) k') = some (.next, eH scr rows dr (letter ++ [sg d]) (some (.lst (intsA p))) (some (.int (k : Int)))) := by
  have hx : asub (eH scr rows dr letter (some (.lst (intsA p))) (some (.int (k : Int)))) (.lst (intsA p)) (.int (k : Int)) = some (.int (d : Int)) := asub_lst (intsA_get hd) (by omega)
  refine (oBody_eq (H1 := eH scr rows dr letter (some (.lst (intsA p))) (some (.int (k : Int)))) rfl).trans ?_
  exact sCons_n (sAsg_eq (oBin_eq (oLoc_eq rfl) (oFc_eq (oCons_eq (oSub_eq (oLoc_eq rfl) (oLoc_eq rfl) hx) (oCons_eq (oCmp_eq (oBin_eq (oLoc_eq rfl) rfl (abin_mod (p := k) (k := 2) (by decide))) rfl rfl) rfl)) rfl (hS d _)) (add_str (by simp; omega))) rfl) rfl
theorem letter_loop (hS : SignC C) {scr rows dr : Option AV} {p : List Nat} (hp : p.length ≤ 1000) : ∀ (r : List Nat) (k : Nat) (letter : Wd) (k' : Option AV), p.drop k = r → letter.length + r.length ≤ 10000 →
    ∃ k'', loopLit (oBody (.one (.loc 5)) (o_p1_law_b0 C D)) ((List.range' k r.length).map fun k : Nat => AV.int (k : Int)) (eH scr rows dr letter (some (.lst (intsA p))) k') = some (.next, eH scr rows dr (letter ++ r.map sg) (some (.lst (intsA p))) k'')
  | [], k, letter, k', _, _ => ⟨k', by rw [List.map_nil, List.append_nil]; rfl⟩
  | d :: r, k, letter, k', hd, hl => by
    have hk : k < p.length := by
      have := congrArg List.length hd
      simp at this; omega
    have hc : p[k]? = some d := by
      have : (p.drop k)[0]? = some d := by rw [hd]; rfl
      simpa using this
    have hr : p.drop (k + 1) = r := by
      have : (p.drop k).drop 1 = r := by rw [hd]; rfl
      simpa [List.drop_drop, Nat.add_comm] using this
    simp only [List.length_cons] at hl
    obtain ⟨k'', e⟩ := letter_loop hS hp r (k + 1) (letter ++ [sg d]) (some (.int (k : Int))) hr (by simp; omega)
    refine ⟨k'', ?_⟩
    rw [List.length_cons, List.range'_succ, List.map_cons]
    refine loop_next (letter_turn hS hc (by omega) (by omega)) ?_
    rw [e, List.append_assoc]; rfl
theorem en1_sub {H : Hp} {d : Nat} (h : d < 576) : asub H (.tup [.str [10], .str [13], .str [13, 10]]) (.int ((d / 192 : Nat) : Int)) = some (.str (en1 d)) := by
  have h3 : d / 192 < 3 := by omega
  unfold en1
  match d / 192, h3 with
  | 0, _ => rfl
  | 1, _ => rfl
  | 2, _ => rfl
theorem en1_len (d : Nat) : (en1 d).length ≤ 2 := by unfold en1; split <;> (try split) <;> simp
theorem row_turn (hS : SignC C) {scr rows dr : Option AV} {letter : Wd} {p : List Nat} {x y : Option AV} (h1 : 1 ≤ p.length) (h5 : p.length ≤ 100) (h6 : ∀ d ∈ p, d < 576) (hl : letter.length ≤ 5000) :
    ∃ x' y', oBody (.one (.loc 4)) (o_p1_law_b1 C D) (.lst (intsA p)) (eH scr rows dr letter x y) = some (.next, eH scr rows dr (letter ++ ((rowTx p).1 ++ (rowTx p).2)) x' y') := by
  obtain ⟨k, e⟩ := letter_loop (C := C) (D := D) hS (scr := scr) (rows := rows) (dr := dr) (p := p) (by omega) p 0 letter y rfl (by omega)
  rw [← rangeL_nat] at e
  refine ⟨some (.lst (intsA p)), k, ?_⟩
  refine (oBody_eq (H1 := eH scr rows dr letter (some (.lst (intsA p))) y) rfl).trans ?_
  obtain ⟨d, r, rfl⟩ : ∃ d r, p = d :: r := by
    cases p with
    | nil => simp at h1
    | cons d r => exact ⟨d, r, rfl⟩
  have hd := h6 d (List.mem_cons_self ..)
  have hn : alen (eH scr rows dr letter (some (.lst (intsA (d :: r)))) y) (.lst (intsA (d :: r))) = some ((d :: r).length : Int) := by
    show some ((((intsA (d :: r)).length : Nat)) : Int) = _
    rw [intsA_len]
  have hb : Nat.ble (((d :: r).length : Int)).natAbs 100000 = true := Nat.ble_eq_true_of_le (by rw [Int.natAbs_natCast]; omega)
  have hr : rngOk 0 ((d :: r).length : Int) = true := (Bool.and_eq_true _ _).mpr ⟨rfl, Nat.ble_eq_true_of_le (by rw [Int.natAbs_natCast]; omega)⟩
  have he := en1_len d
  refine sCons_n ((sForR1_eq (oLen_eq (oLoc_eq rfl) hn hb) hr).trans e) (sCons_n (sAsg_eq (oBin_eq (oLoc_eq rfl) (oSub_eq (a := .tup [.str [10], .str [13], .str [13, 10]]) rfl (oBin_eq (oSub_eq (v := .int (d : Int)) (oLoc_eq rfl) rfl rfl) rfl (abin_fdiv (p := d) (k := 192) (by decide) (by decide))) (en1_sub hd)) (add_str (by simp at h5 ⊢; omega))) rfl) ?_)
  show some (AF.next, eH scr rows dr (letter ++ (d :: r).map sg ++ en1 d) (some (.lst (intsA (d :: r)))) k) = _
  rw [List.append_assoc]; rfl
theorem rows_loop (hS : SignC C) {scr rows dr : Option AV} : ∀ (l : List (List Nat)) (letter : Wd) (x y : Option AV), (∀ p ∈ l, 1 ≤ p.length ∧ p.length ≤ 100 ∧ ∀ d ∈ p, d < 576) → letter.length + 102 * l.length ≤ 5000 →
    ∃ x' y', loopLit (oBody (.one (.loc 4)) (o_p1_law_b1 C D)) (l.map fun p => AV.lst (intsA p)) (eH scr rows dr letter x y) = some (.next, eH scr rows dr (letter ++ mailTx (l.map rowTx)) x' y')
  | [], letter, x, y, _, _ => ⟨x, y, by rw [List.map_nil, List.map_nil]; show some (AF.next, _) = some (AF.next, eH scr rows dr (letter ++ []) x y); rw [List.append_nil]⟩
  | p :: l, letter, x, y, h, hl => by
    obtain ⟨h1, h2, h3⟩ := h p (List.mem_cons_self ..)
    simp only [List.length_cons] at hl
    obtain ⟨x1, y1, e1⟩ := row_turn (C := C) (D := D) hS (scr := scr) (rows := rows) (dr := dr) (letter := letter) (x := x) (y := y) h1 h2 h3 (by omega)
    have hb : (rowTx p).1.length + (rowTx p).2.length ≤ 102 := by
      have := en1_len (p.headD 0)
      show (p.map sg).length + (en1 (p.headD 0)).length ≤ 102
      rw [List.length_map]; omega
    obtain ⟨x2, y2, e2⟩ := rows_loop hS l (letter ++ ((rowTx p).1 ++ (rowTx p).2)) x1 y1 (fun q hq => h q (List.mem_cons_of_mem _ hq)) (by simp; omega)
    refine ⟨x2, y2, ?_⟩
    rw [List.map_cons]
    refine loop_next e1 ?_
    rw [e2, List.append_assoc]; rfl
end
end Mine
end
section
set_option Elab.async false
set_option linter.all false
set_option linter.unusedSimpArgs false
set_option maxRecDepth 100000
namespace Mine
open PySem
noncomputable def natsOf (l : List Int) : List Nat := l.map Int.toNat
theorem natsOf_eq : ∀ {l : List Int}, (∀ x ∈ l, 0 ≤ x) → (natsOf l).map (fun n : Nat => (n : Int)) = l
  | [], _ => rfl
  | x :: l, h => by
    have hx := h x (List.mem_cons_self ..)
    show ((x.toNat : Nat) : Int) :: (natsOf l).map _ = _
    rw [natsOf_eq fun y hy => h y (List.mem_cons_of_mem _ hy), Int.toNat_of_nonneg hx]
theorem fmod_in {x m : Int} (hm : 0 < m) : 0 ≤ x.fmod m ∧ x.fmod m < m := by
  rw [Int.fmod_eq_emod_of_nonneg _ (by omega)]
  exact ⟨Int.emod_nonneg _ (by omega), Int.emod_lt_of_pos _ hm⟩
theorem drawn_of (ns : List Int) {m : Int} (hm : 0 < m) {n : Nat} {df : List Int} (hl : df.length = n) (hd : ∀ x ∈ df, 0 ≤ x ∧ x < m) : ∃ ds : List Nat, ds.length = n ∧ (∀ d ∈ ds, (d : Int) < m) ∧ ((ns.take n).map fun x => x.fmod m) ++ df.drop ((ns.take n).map fun x => x.fmod m).length = ds.map (fun k : Nat => (k : Int)) := by
  have hall : ∀ x ∈ ((ns.take n).map fun x => x.fmod m) ++ df.drop ((ns.take n).map fun x => x.fmod m).length, 0 ≤ x ∧ x < m := fun x hx => by
    rcases List.mem_append.mp hx with h | h
    · obtain ⟨y, _, rfl⟩ := List.mem_map.mp h
      exact fmod_in hm
    · exact hd x (List.mem_of_mem_drop h)
  refine ⟨natsOf (((ns.take n).map fun x => x.fmod m) ++ df.drop ((ns.take n).map fun x => x.fmod m).length), ?_, fun d hd' => ?_, (natsOf_eq fun x hx => (hall x hx).1).symm⟩
  · simp [natsOf, hl]; omega
  · obtain ⟨x, hx, rfl⟩ := List.mem_map.mp hd'
    have := hall x hx
    rw [Int.toNat_of_nonneg this.1]; exact this.2
theorem intsA_cast (ds : List Nat) : (ds.map (fun k : Nat => (k : Int))).map AV.int = intsA ds := by simp [intsA]
section
variable {C : Nat → List AV → Option AV} {D : Nat → List AV → List AV → Option (AV × List AV)}
theorem comp_fmod {m : Int} (hm : m ≠ 0) {H : Hp} : ∀ l : List Int, compLit (oTurn (oBin .Mod (oCv 0) (oK (.int m))) tNil) (l.map .int) H = some ((l.map fun x => x.fmod m).map .int, H)
  | [] => rfl
  | x :: l => by
    have e : abin .Mod (.int x) (.int m) = some (.int (x.fmod m)) := by
      show orE (gd (!(decide (m = 0))) (some (AV.int (x.fmod m)))) _ = _
      rw [decide_eq_false hm]; rfl
    exact comp_one (turn_all (oBin_eq (oCv_eq rfl) rfl e)) rfl (comp_fmod hm l)
theorem aslice_lst_to {xs : List AV} {j : Nat} (h : xs.length ≤ 100000) : aslice (.lst xs) 0 (some (j : Int)) = some (.lst (xs.take j)) := by
  show (aslc xs ((0 : Nat) : Int) (some (j : Int))).map AV.lst = _
  rw [aslc_to (small_of h)]; rfl
theorem aslice_lst_from {xs : List AV} {i : Nat} (h : xs.length ≤ 100000) : aslice (.lst xs) (i : Int) none = some (.lst (xs.drop i)) := by
  show (aslc xs (i : Int) none).map AV.lst = _
  rw [aslc_from (small_of h)]; rfl
theorem aslice_str_to {s : Wd} {j : Nat} (h : s.length ≤ 100000) : aslice (.str s) 0 (some (j : Int)) = some (.str (s.take j)) := by
  show orE ((aslc s ((0 : Nat) : Int) (some (j : Int))).map AV.str) _ = _
  rw [aslc_to (small_of h)]; rfl
theorem aslice_str_from {s : Wd} {i : Nat} (h : s.length ≤ 100000) : aslice (.str s) (i : Int) none = some (.str (s.drop i)) := by
  show orE ((aslc s (i : Int) none).map AV.str) _ = _
  rw [aslc_from (small_of h)]; rfl
theorem len_eq {e : OE} {ξ : List AV} {H H1 : Hp} {xs : List AV} (h : e ξ H = some (.lst xs, H1)) (hl : xs.length ≤ 100000) : oLen e ξ H = some (.int (xs.length : Int), H1) :=
  oLen_eq h rfl (Nat.ble_eq_true_of_le (by rw [Int.natAbs_natCast]; exact hl))
theorem len_str {e : OE} {ξ : List AV} {H H1 : Hp} {s : Wd} (h : e ξ H = some (.str s, H1)) (hl : s.length ≤ 100000) : oLen e ξ H = some (.int (s.length : Int), H1) :=
  oLen_eq h rfl (Nat.ble_eq_true_of_le (by rw [Int.natAbs_natCast]; exact hl))
theorem comp_strs {elt : OE} {H : Hp} {g : Wd → Wd} : ∀ {l : List Wd}, (∀ w ∈ l, elt [.str w] H = some (.str (g w), H)) → compLit (oTurn elt tNil) (strsA l) H = some (strsA (l.map g), H)
  | [], _ => rfl
  | w :: l, h => comp_one (turn_all (h w (List.mem_cons_self ..))) rfl (comp_strs fun x hx => h x (List.mem_cons_of_mem _ hx))
theorem comp_ints {elt : OE} {H : Hp} {g : Nat → AV} (hg : ∀ n, (g n).pure = true) : ∀ {l : List Nat}, (∀ n ∈ l, elt [.int (n : Int)] H = some (g n, H)) → compLit (oTurn elt tNil) (intsA l) H = some (l.map g, H)
  | [], _ => rfl
  | n :: l, h => comp_one (turn_all (h n (List.mem_cons_self ..))) (hg n) (comp_ints hg fun x hx => h x (List.mem_cons_of_mem _ hx))
theorem comp_lists {elt : OE} {H : Hp} {g : List Nat → Wd} : ∀ {l : List (List Nat)}, (∀ p ∈ l, elt [.lst (intsA p)] H = some (.str (g p), H)) → compLit (oTurn elt tNil) (l.map fun p => .lst (intsA p)) H = some (strsA (l.map g), H)
  | [], _ => rfl
  | p :: l, h => comp_one (turn_all (h p (List.mem_cons_self ..))) rfl (comp_lists fun x hx => h x (List.mem_cons_of_mem _ hx))
theorem comp_filter {ifs : OB} {H : Hp} {P : Wd → Bool} : ∀ {l : List Wd}, (∀ w ∈ l, ifs [.str w] H = some (P w, H)) → compLit (oTurn (oCv 0) ifs) (strsA l) H = some (strsA (l.filter P), H)
  | [], _ => rfl
  | w :: l, h => by
    have h0 := h w (List.mem_cons_self ..)
    have ih := comp_filter (ifs := ifs) (H := H) (P := P) (l := l) fun x hx => h x (List.mem_cons_of_mem _ hx)
    cases hp : P w with
    | true =>
      rw [hp] at h0
      rw [List.filter_cons_of_pos (by rw [hp])]
      refine comp_one (y := .str w) (H1 := H) ?_ rfl ih
      show th (ifs [.str w] H) _ = _
      rw [h0]; rfl
    | false =>
      rw [hp] at h0
      rw [List.filter_cons_of_neg (by rw [hp]; decide)]
      refine comp_skip (H1 := H) ?_ ih
      show th (ifs [.str w] H) _ = _
      rw [h0]; rfl
theorem strs_same {H : Hp} {w : Wd} {l : List Wd} (ha : (w :: l).all ascii = true) : acmp H .NotEq (.lst (strsA (w :: l))) (.lst (strsA (w :: l))) = some false := by
  show (aeqs (strsA (w :: l)) (strsA (w :: l))).map not = _
  have e : aeqs (strsA (w :: l)) (strsA (w :: l)) = two (asStrs (strsA (w :: l))) (asStrs (strsA (w :: l))) fun a b => gd (a.all ascii && b.all ascii) (some (decide (a = b))) := rfl
  rw [e, asStrs_A]
  show (gd ((w :: l).all ascii && (w :: l).all ascii) (some (decide ((w :: l) = (w :: l))))).map not = _
  rw [ha, decide_eq_true rfl]; rfl
theorem joinL_len : ∀ l : List Wd, (joinL [] l).length = (l.map List.length).sum
  | [] => rfl
  | [x] => by simp [joinL]
  | x :: y :: r => by
    show (x ++ ([] ++ joinL [] (y :: r))).length = _
    rw [List.nil_append, List.length_append, joinL_len (y :: r)]; simp
theorem mailTx_len {B : Nat} : ∀ {l : List (Wd × Wd)}, (∀ p ∈ l, p.1.length + p.2.length ≤ B) → (mailTx l).length ≤ B * l.length
  | [], _ => Nat.zero_le _
  | p :: l, h => by
    have h1 := h p (List.mem_cons_self ..)
    have h2 := mailTx_len (B := B) (l := l) fun q hq => h q (List.mem_cons_of_mem _ hq)
    show (p.1 ++ p.2 ++ mailTx l).length ≤ B * (l.length + 1)
    rw [List.length_append, List.length_append, Nat.mul_add]; omega
noncomputable def pr (ds : List Nat) (k : Nat) : List Nat := (ds.drop (k * (k + 1) / 2)).take (k + 1)
noncomputable def PRs (ds : List Nat) : List (List Nat) := (List.range 5).map (pr ds)
noncomputable def RWs (ds : List Nat) : List Wd := (PRs ds).map fun p => p.map sg
theorem sg_sg (p : Nat) : isSg (sg p) = true := by unfold sg; split <;> (try split) <;> rfl
theorem pr_len {ds : List Nat} (h : ds.length = 15) {k : Nat} (hk : k < 5) : (pr ds k).length = k + 1 := by
  unfold pr
  rw [List.length_take, List.length_drop, h]
  match k, hk with
  | 0, _ => rfl
  | 1, _ => rfl
  | 2, _ => rfl
  | 3, _ => rfl
  | 4, _ => rfl
theorem PRs_ok {ds : List Nat} (h : ds.length = 15) (h6 : ∀ d ∈ ds, d < 576) : ∀ p ∈ PRs ds, 1 ≤ p.length ∧ p.length ≤ 5 ∧ ∀ d ∈ p, d < 576 := fun p hp => by
  obtain ⟨k, hk, rfl⟩ := List.mem_map.mp hp
  have := pr_len h (List.mem_range.mp hk)
  have hk' := List.mem_range.mp hk
  exact ⟨by omega, by omega, fun d hd => h6 d (List.mem_of_mem_drop (List.mem_of_mem_take hd))⟩
theorem isSg_end {c : Nat} (h : isSg c = true) : c ≠ 13 ∧ c ≠ 10 := by
  simp only [isSg, Bool.or_eq_true, beq_iff_eq] at h
  rcases h with (rfl | rfl) | rfl <;> decide
theorem sgs_noEnd (p : List Nat) : noEnd (p.map sg) := fun c hc => by
  obtain ⟨d, _, rfl⟩ := List.mem_map.mp hc
  exact isSg_end (sg_sg d)
theorem en1_cases (d : Nat) : en1 d = [10] ∨ en1 d = [13] ∨ en1 d = [13, 10] := by
  unfold en1
  split
  · exact .inl rfl
  · split
    · exact .inr (.inl rfl)
    · exact .inr (.inr rfl)
theorem okMail_rows : ∀ {l : List (List Nat)}, (∀ p ∈ l, 1 ≤ p.length) → okMail (l.map rowTx)
  | [], _ => trivial
  | p :: l, h => by
    refine ⟨sgs_noEnd p, ?_, okMail_rows fun q hq => h q (List.mem_cons_of_mem _ hq)⟩
    have hh : (mailTx (l.map rowTx)).head? ≠ some 10 := by
      cases l with
      | nil => exact fun q => nomatch q
      | cons q r =>
        have hq := h q (List.mem_cons_of_mem _ (List.mem_cons_self ..))
        cases q with
        | nil => simp at hq
        | cons d t =>
          intro e
          have e' : some (sg d) = some 10 := e
          exact (isSg_end (sg_sg d)).2 (Option.some.inj e')
    rcases en1_cases (p.headD 0) with e | e | e
    · exact .inl e
    · exact .inr (.inl ⟨e, hh⟩)
    · exact .inr (.inr e)
theorem sent_eq {ds : List Nat} (h : ds.length = 15) (h6 : ∀ d ∈ ds, d < 576) : splitL (qd (mailTx ((PRs ds).map rowTx))) = (RWs ds).map dot1 ++ [[]] := by
  rw [heard_mail (okMail_rows fun p hp => (PRs_ok h h6 p hp).1)]
  simp [RWs, rowTx]
end
end Mine
end
section
set_option Elab.async false
set_option linter.all false
set_option linter.unusedSimpArgs false
set_option maxRecDepth 100000
namespace Mine
open PySem
noncomputable def un1 (w : Wd) : Wd := if w.take 1 = [46] then w.drop 1 else w
noncomputable def is46 (w : Wd) : Bool := decide (w.take 1 = [46])
theorem take46 {w : Wd} : w.take 1 = [46] ↔ w.head? = some 46 := by
  cases w with
  | nil => simp
  | cons c r => simp
theorem un_dot (w : Wd) : un1 (dot1 w) = w := by
  unfold dot1
  by_cases h : w.head? = some 46
  · rw [if_pos h]; rfl
  · rw [if_neg h]; exact if_neg fun q => h (take46.mp q)
theorem map_un (l : List Wd) : (l.map dot1 ++ [[]]).map un1 = l ++ [[]] := by
  rw [List.map_append, List.map_map, show (un1 ∘ dot1) = id from funext un_dot, List.map_id]; rfl
theorem sum_dot : ∀ l : List Wd, ((l.map dot1).map List.length).sum = (l.map List.length).sum + (l.filter is46).length
  | [] => rfl
  | w :: l => by
    have ih := sum_dot l
    have hl := dot1_len w
    by_cases h : w.head? = some 46
    · rw [if_pos h] at hl
      have hp : is46 w = true := decide_eq_true (take46.mpr h)
      rw [List.filter_cons_of_pos hp]
      simp only [List.map_cons, List.sum_cons, List.length_cons]; omega
    · rw [if_neg h] at hl
      have hp : ¬ is46 w = true := fun q => h (take46.mp (of_decide_eq_true q))
      rw [List.filter_cons_of_neg hp]
      simp only [List.map_cons, List.sum_cons]; omega
theorem RWs_lens {ds : List Nat} (h : ds.length = 15) : (RWs ds).map List.length = [1, 2, 3, 4, 5] := by
  have e : (RWs ds).map List.length = (List.range 5).map fun k => k + 1 := by
    unfold RWs PRs
    rw [List.map_map, List.map_map]
    refine List.map_congr_left fun k hk => ?_
    show ((pr ds k).map sg).length = k + 1
    rw [List.length_map, pr_len h (List.mem_range.mp hk)]
  rw [e]; rfl
theorem RWs_len {ds : List Nat} (h : ds.length = 15) (h6 : ∀ d ∈ ds, d < 576) : ∀ w ∈ RWs ds, w.length ≤ 5 := fun w hw => by
  obtain ⟨p, hp, rfl⟩ := List.mem_map.mp hw
  rw [List.length_map]; exact (PRs_ok h h6 p hp).2.1
theorem RWs_count (ds : List Nat) : (RWs ds).length = 5 := rfl
theorem dot1_le (w : Wd) : (dot1 w).length ≤ w.length + 1 := by rw [dot1_len]; split <;> omega
theorem sg_chk {H : Hp} (d : Nat) : asub H (.str [46, 103, 98]) (.int ((d % 3 : Nat) : Int)) = some (.str [sg d]) := by
  have h3 : d % 3 < 3 := Nat.mod_lt _ (by decide)
  unfold sg
  match d % 3, h3 with
  | 0, _ => rfl
  | 1, _ => rfl
  | 2, _ => rfl
theorem sgs_ascii (p : List Nat) : ascii (p.map sg) = true := by
  refine List.all_eq_true.mpr fun c hc => ?_
  obtain ⟨d, _, rfl⟩ := List.mem_map.mp hc
  unfold sg; split <;> (try split) <;> rfl
section
variable {C : Nat → List AV → Option AV} {D : Nat → List AV → List AV → Option (AV × List AV)}
noncomputable def df1 : List Int := [0, 3, 8, 397, 36, 50, 99, 5, 22, 191, 196, 2, 25, 101, 182]
noncomputable abbrev aH (scr rows dr letter paints k sent heard : Option AV) : Hp := [.ns [scr, none, rows, letter, paints, k, sent, heard, none, none, none, none, none, none, none, none], .cell dr]
theorem head_drawn {ns : List Int} (hns : ns.length ≤ 63) {ds : List Nat} (hl : ds.length = 15) (hd : ((ns.take 15).map fun x => x.fmod 576) ++ df1.drop ((ns.take 15).map fun x => x.fmod 576).length = ds.map (fun k : Nat => (k : Int))) {q : Option (AF × Hp)} {r : OS}
    (h : r (aH (some (.lst (ns.map .int))) none (some (.lst (intsA ds))) none none none none none) = q) :
    sCons (sAsg (.cel 1) (oComp (oBin .Mod (oCv 0) (oK (.int 576))) (oSlcTo (oLoc 0) (oK (.int 15))) tNil))
      (sCons (sAsg (.cel 1) (oBin .Add (oCel 1) (oSlcFrom (oLst (oCons (oK (.int 0)) (oCons (oK (.int 3)) (oCons (oK (.int 8)) (oCons (oK (.int 397)) (oCons (oK (.int 36)) (oCons (oK (.int 50)) (oCons (oK (.int 99)) (oCons (oK (.int 5)) (oCons (oK (.int 22)) (oCons (oK (.int 191)) (oCons (oK (.int 196)) (oCons (oK (.int 2)) (oCons (oK (.int 25)) (oCons (oK (.int 101)) (oCons (oK (.int 182)) oNil)))))))))))))))) (oLen (oCel 1))))) r) (p1_law.init [.lst (ns.map .int)]) = q := by
  let scr : Option AV := some (.lst (ns.map .int))
  let l0 := (ns.take 15).map fun x => x.fmod 576
  have ln : l0.length ≤ 15 := by simp [l0]; omega
  have h0 : p1_law.init [.lst (ns.map .int)] = aH scr none none none none none none none := rfl
  rw [h0]
  have hsl : aslice (.lst (ns.map .int)) 0 (some ((15 : Nat) : Int)) = some (.lst ((ns.take 15).map .int)) := by
    rw [aslice_lst_to (by simp; omega), List.map_take]
  have s1 : sAsg (.cel 1) (oComp (oBin .Mod (oCv 0) (oK (.int 576))) (oSlcTo (oLoc 0) (oK (.int 15))) tNil) (aH scr none none none none none none none) = some (.next, aH scr none (some (.lst (l0.map .int))) none none none none none) :=
    sAsg_eq (oComp_eq (oSlcTo_eq (oLoc_eq rfl) rfl hsl) rfl (small_of (by simp; omega)) (comp_fmod (by decide) (ns.take 15))) rfl
  have hs2 : aslice (.lst (df1.map .int)) (l0.length : Int) none = some (.lst ((df1.drop l0.length).map .int)) := by
    rw [aslice_lst_from (by decide), List.map_drop]
  have hadd : abin .Add (.lst (l0.map .int)) (.lst ((df1.drop l0.length).map .int)) = some (.lst (intsA ds)) := by
    have hx : l0 ++ df1.drop l0.length = ds.map (fun k : Nat => (k : Int)) := hd
    rw [add_lst (by simp [df1]; omega), ← List.map_append, hx, intsA_cast]
  have hln := len_eq (e := oCel 1) (ξ := []) (H := aH scr none (some (.lst (l0.map .int))) none none none none none) (oCel_eq (v := .lst (l0.map .int)) rfl) (by rw [List.length_map]; omega)
  rw [List.length_map] at hln
  exact sCons_n s1 (sCons_n (sAsg_eq (oBin_eq (oCel_eq rfl) (oSlcFrom_eq (a := .lst (df1.map .int)) rfl hln hs2) hadd) rfl) h)
theorem head_rows {scr : Option AV} {ds : List Nat} (hl : ds.length = 15) : sAsg (.loc 2) (oCompR1 (oSlcTo (oSlcFrom (oCel 1) (oBin .FloorDiv (oBin .Mult (oCv 0) (oBin .Add (oCv 0) (oK (.int 1)))) (oK (.int 2)))) (oBin .Add (oCv 0) (oK (.int 1)))) (oK (.int 5)) tNil) (aH scr none (some (.lst (intsA ds))) none none none none none) =
    some (.next, aH scr (some (.lst ((PRs ds).map fun p => AV.lst (intsA p)))) (some (.lst (intsA ds))) none none none none none) := by
  have := compR_nat (H := aH scr none (some (.lst (intsA ds))) none none none none none) (ξ := []) (e := oK (.int 5)) (elt := oSlcTo (oSlcFrom (oCel 1) (oBin .FloorDiv (oBin .Mult (oCv 0) (oBin .Add (oCv 0) (oK (.int 1)))) (oK (.int 2)))) (oBin .Add (oCv 0) (oK (.int 1)))) (f := fun k => AV.lst (intsA (pr ds k))) (n := 5) (by decide) rfl (fun k => intsA_pures _) (fun k hk => ?_)
  · rw [show (List.range 5).map (fun k => AV.lst (intsA (pr ds k))) = (PRs ds).map fun p => AV.lst (intsA p) from rfl] at this
    exact sAsg_eq this rfl
  · have e1 : aslice (.lst (intsA ds)) ((k * (k + 1) / 2 : Nat) : Int) none = some (.lst (intsA (ds.drop (k * (k + 1) / 2)))) := by
      rw [aslice_lst_from (by rw [intsA_len]; omega)]; unfold intsA; rw [List.map_drop]
    have e2 : aslice (.lst (intsA (ds.drop (k * (k + 1) / 2)))) 0 (some ((k + 1 : Nat) : Int)) = some (.lst (intsA (pr ds k))) := by
      rw [aslice_lst_to (by rw [intsA_len, List.length_drop]; omega)]; unfold intsA pr; rw [List.map_take]
    have e3 : abin .Mult (.int (k : Int)) (.int ((k + 1 : Nat) : Int)) = some (.int ((k * (k + 1) : Nat) : Int)) := by
      show orE (gd (Nat.ble ((k : Int)).natAbs 4294967296 || Nat.ble (((k + 1 : Nat) : Int)).natAbs 4294967296) (some (AV.int ((k : Int) * ((k + 1 : Nat) : Int))))) _ = _
      rw [Nat.ble_eq_true_of_le (n := ((k : Int)).natAbs) (by rw [Int.natAbs_natCast]; omega), ← Int.natCast_mul]; rfl
    exact oSlcTo_eq (oSlcFrom_eq (oCel_eq rfl) (oBin_eq (oBin_eq (oCv_eq rfl) (oBin_eq (oCv_eq rfl) rfl (abin_add k 1)) e3) rfl (abin_fdiv (p := k * (k + 1)) (k := 2) (by decide) (by decide))) e1) (oBin_eq (oCv_eq rfl) rfl (abin_add k 1)) e2
theorem len_mail {ds : List Nat} (h : ds.length = 15) (h6 : ∀ d ∈ ds, d < 576) : (mailTx ((PRs ds).map rowTx)).length ≤ 100 ∧ (qd (mailTx ((PRs ds).map rowTx))).length ≤ 100 := by
  have hp := PRs_ok h h6
  have hc : (PRs ds).length = 5 := rfl
  constructor
  · have := mailTx_len (B := 7) (l := (PRs ds).map rowTx) fun q hq => by
      obtain ⟨p, hp', rfl⟩ := List.mem_map.mp hq
      have h1 := en1_len (p.headD 0)
      have h2 := (hp p hp').2.1
      show (p.map sg).length + (en1 (p.headD 0)).length ≤ 7
      rw [List.length_map]; omega
    rw [List.length_map, hc] at this; omega
  · rw [qd_mail (okMail_rows fun p hq => (hp p hq).1)]
    have := mailTx_len (B := 8) (l := ((PRs ds).map rowTx).map fun p => (dot1 p.1, [13, 10])) fun q hq => by
      obtain ⟨p', hp', rfl⟩ := List.mem_map.mp hq
      obtain ⟨p, hp'', rfl⟩ := List.mem_map.mp hp'
      have h1 := dot1_le (p.map sg)
      have h2 := (hp p hp'').2.1
      rw [List.length_map] at h1
      show (dot1 (p.map sg)).length + 2 ≤ 8
      omega
    rw [List.length_map, List.length_map, hc] at this; exact Nat.le_trans this (by decide)
noncomputable abbrev sentL (ds : List Nat) : List Wd := (RWs ds).map dot1 ++ [[]]
noncomputable abbrev heardL (ds : List Nat) : List Wd := RWs ds ++ [[]]
theorem sentL_len {ds : List Nat} (h : ds.length = 15) (h6 : ∀ d ∈ ds, d < 576) : ∀ w ∈ sentL ds, w.length ≤ 6 := fun w hw => by
  rcases List.mem_append.mp hw with h1 | h1
  · obtain ⟨x, hx, rfl⟩ := List.mem_map.mp h1
    have := RWs_len h h6 x hx
    have := dot1_le x; omega
  · rw [List.mem_singleton.mp h1]; exact Nat.zero_le _
theorem head_sent (hQ : QuoteC C) {scr rows dr x y : Option AV} {ds : List Nat} (h : ds.length = 15) (h6 : ∀ d ∈ ds, d < 576) : sAsg (.loc 6) (oSm .split (oFc C 2 (oCons (oLoc 3) oNil)) (oCons (oK (.str [13, 10])) oNil)) (eH scr rows dr (mailTx ((PRs ds).map rowTx)) x y) =
    some (.next, aH scr rows dr (some (.str (mailTx ((PRs ds).map rowTx)))) x y (some (.lst (strsA (sentL ds)))) none) := by
  obtain ⟨l1, l2⟩ := len_mail h h6
  have e : asm (eH scr rows dr (mailTx ((PRs ds).map rowTx)) x y) .split (qd (mailTx ((PRs ds).map rowTx))) [.str [13, 10]] = some (.lst (strsA (sentL ds))) := by
    show gd (decide (([13, 10] : Wd) = [13, 10]) && small (qd (mailTx ((PRs ds).map rowTx))).length) (some (AV.lst ((splitL (qd (mailTx ((PRs ds).map rowTx)))).map .str))) = _
    rw [small_of (by omega), sent_eq h h6]; rfl
  exact sAsg_eq (oSm_eq (oFc_eq (oCons_eq (oLoc_eq rfl) rfl) rfl (hQ _ (by omega))) rfl e) rfl
theorem head_heard {scr rows dr letter x y : Option AV} {ds : List Nat} (h : ds.length = 15) (h6 : ∀ d ∈ ds, d < 576) : sAsg (.loc 7) (oComp (oIfe (tCmp .Eq (oSlcTo (oCv 0) (oK (.int 1))) (oK (.str [46]))) (oSlcFrom (oCv 0) (oK (.int 1))) (oCv 0)) (oLoc 6) tNil) (aH scr rows dr letter x y (some (.lst (strsA (sentL ds)))) none) =
    some (.next, aH scr rows dr letter x y (some (.lst (strsA (sentL ds)))) (some (.lst (strsA (heardL ds))))) := by
  have hc := comp_strs (H := aH scr rows dr letter x y (some (.lst (strsA (sentL ds)))) none) (elt := oIfe (tCmp .Eq (oSlcTo (oCv 0) (oK (.int 1))) (oK (.str [46]))) (oSlcFrom (oCv 0) (oK (.int 1))) (oCv 0)) (g := un1) (l := sentL ds) fun w hw => by
    have hl := sentL_len h h6 w hw
    have t : tCmp .Eq (oSlcTo (oCv 0) (oK (.int 1))) (oK (.str [46])) [.str w] (aH scr rows dr letter x y (some (.lst (strsA (sentL ds)))) none) = some (decide (w.take 1 = [46]), aH scr rows dr letter x y (some (.lst (strsA (sentL ds)))) none) :=
      tCmp_eq (oSlcTo_eq (oCv_eq rfl) rfl (aslice_str_to (j := 1) (by omega))) rfl rfl
    by_cases hd : w.take 1 = [46]
    · rw [decide_eq_true hd] at t
      rw [show un1 w = w.drop 1 from if_pos hd]
      exact oIfe_t t (oSlcFrom_eq (oCv_eq rfl) rfl (aslice_str_from (i := 1) (by omega)))
    · rw [decide_eq_false hd] at t
      rw [show un1 w = w from if_neg hd]
      exact oIfe_f t (oCv_eq rfl)
  rw [map_un] at hc
  exact sAsg_eq (oComp_eq (oLoc_eq rfl) rfl (small_of (by show (strsA (sentL ds)).length ≤ 100000; simp [strsA, sentL, RWs_count])) hc) rfl
theorem head_same {scr dr letter x y sent : Option AV} {ds : List Nat} (h : ds.length = 15) (h6 : ∀ d ∈ ds, d < 576) : sIf (tCmp .NotEq (oLoc 7) (oBin .Add (oComp (oSm .join (oK (.str [])) (oCons (oComp (oSub (oK (.str [46, 103, 98])) (oBin .Mod (oCv 0) (oK (.int 3)))) (oCv 0) tNil) oNil)) (oLoc 2) tNil) (oLst (oCons (oK (.str [])) oNil)))) (sCons (sRet (oK (.bool false))) sNil) sNil (aH scr (some (.lst ((PRs ds).map fun p => AV.lst (intsA p)))) dr letter x y sent (some (.lst (strsA (heardL ds))))) =
    some (.next, aH scr (some (.lst ((PRs ds).map fun p => AV.lst (intsA p)))) dr letter x y sent (some (.lst (strsA (heardL ds))))) := by
  let Z := aH scr (some (.lst ((PRs ds).map fun p => AV.lst (intsA p)))) dr letter x y sent (some (.lst (strsA (heardL ds))))
  have hc := comp_lists (H := Z) (elt := oSm .join (oK (.str [])) (oCons (oComp (oSub (oK (.str [46, 103, 98])) (oBin .Mod (oCv 0) (oK (.int 3)))) (oCv 0) tNil) oNil)) (g := fun p => p.map sg) (l := PRs ds) fun p hp => by
    have hl := (PRs_ok h h6 p hp).2.1
    have e := comp_ints (H := Z) (elt := oSub (oK (.str [46, 103, 98])) (oBin .Mod (oCv 0) (oK (.int 3)))) (g := fun d => AV.str [sg d]) (fun _ => rfl) (l := p) fun d _ => oSub_eq rfl (oBin_eq (oCv_eq rfl) rfl (abin_mod (p := d) (k := 3) (by decide))) (sg_chk d)
    have e' : p.map (fun d => AV.str [sg d]) = onesA (p.map sg) := by simp [onesA]
    rw [e'] at e
    exact oSm_eq rfl (oCons_eq (oComp_eq (oCv_eq rfl) rfl (small_of (by rw [intsA_len]; omega)) e) rfl) (join_ones (by rw [List.length_map]; omega))
  have ha : abin .Add (.lst (strsA (RWs ds))) (.lst [.str []]) = some (.lst (strsA (heardL ds))) := by
    rw [add_lst (by simp [strsA, RWs_count])]; simp [strsA, heardL]
  have hs : acmp Z .NotEq (.lst (strsA (heardL ds))) (.lst (strsA (heardL ds))) = some false := by
    refine strs_same (H := Z) (w := (pr ds 0).map sg) (l := [(pr ds 1).map sg, (pr ds 2).map sg, (pr ds 3).map sg, (pr ds 4).map sg, []]) (List.all_eq_true.mpr fun w hw => ?_)
    simp only [List.mem_cons, List.not_mem_nil, or_false] at hw
    rcases hw with rfl | rfl | rfl | rfl | rfl | rfl
    · exact sgs_ascii _
    · exact sgs_ascii _
    · exact sgs_ascii _
    · exact sgs_ascii _
    · exact sgs_ascii _
    · rfl
  refine sIf_f (H1 := Z) (tCmp_eq (oLoc_eq rfl) (oBin_eq (a := .lst (strsA (RWs ds))) (b := .lst [.str []]) (oComp_eq (v := .lst ((PRs ds).map fun p => AV.lst (intsA p))) (oLoc_eq rfl) rfl (small_of (by show 5 ≤ 100000; decide)) hc) rfl ha) hs) rfl
theorem head_count {scr rows dr letter x y : Option AV} {ds : List Nat} (h : ds.length = 15) (h6 : ∀ d ∈ ds, d < 576) : sIf (tCmp .NotEq (oLen (oSm .join (oK (.str [])) (oCons (oLoc 6) oNil))) (oBin .Add (oK (.int 15)) (oLen (oComp (oCv 0) (oLoc 7) (tOne (tCmp .Eq (oSlcTo (oCv 0) (oK (.int 1))) (oK (.str [46])))))))) (sCons (sRet (oK (.bool false))) sNil) sNil (aH scr rows dr letter x y (some (.lst (strsA (sentL ds)))) (some (.lst (strsA (heardL ds))))) =
    some (.next, aH scr rows dr letter x y (some (.lst (strsA (sentL ds)))) (some (.lst (strsA (heardL ds))))) := by
  let Z := aH scr rows dr letter x y (some (.lst (strsA (sentL ds)))) (some (.lst (strsA (heardL ds))))
  have hj : (joinL [] (sentL ds)).length = 15 + ((heardL ds).filter is46).length := by
    rw [joinL_len]
    have e1 := sum_dot (RWs ds)
    rw [RWs_lens h] at e1
    have e2 : ((heardL ds).filter is46).length = ((RWs ds).filter is46).length := by simp [heardL, is46]
    rw [e2]
    have e3 : ((sentL ds).map List.length).sum = (((RWs ds).map dot1).map List.length).sum := by simp [sentL]
    rw [e3, e1]; rfl
  have hf : ((heardL ds).filter is46).length ≤ 6 := Nat.le_trans (List.length_filter_le _ _) (by simp [heardL, RWs_count])
  have c1 : oLen (oSm .join (oK (.str [])) (oCons (oLoc 6) oNil)) [] Z = some (.int ((joinL [] (sentL ds)).length : Int), Z) :=
    len_str (oSm_eq rfl (oCons_eq (oLoc_eq rfl) rfl) (asm_join (by rw [small_of (by omega)]; rfl))) (by omega)
  have hc := comp_filter (H := Z) (ifs := tOne (tCmp .Eq (oSlcTo (oCv 0) (oK (.int 1))) (oK (.str [46])))) (P := is46) (l := heardL ds) fun w hw => by
    have hl : w.length ≤ 6 := by
      rcases List.mem_append.mp hw with h1 | h1
      · have := RWs_len h h6 w h1; omega
      · rw [List.mem_singleton.mp h1]; exact Nat.zero_le _
    exact tCmp_eq (oSlcTo_eq (oCv_eq rfl) rfl (aslice_str_to (j := 1) (by omega))) rfl rfl
  have c2 : oLen (oComp (oCv 0) (oLoc 7) (tOne (tCmp .Eq (oSlcTo (oCv 0) (oK (.int 1))) (oK (.str [46]))))) [] Z = some (.int (((heardL ds).filter is46).length : Int), Z) := by
    have hfl : (strsA ((heardL ds).filter is46)).length = ((heardL ds).filter is46).length := List.length_map _
    have := len_eq (oComp_eq (oLoc_eq (i := 7) (ξ := []) (H := Z) (v := .lst (strsA (heardL ds))) rfl) rfl (small_of (by simp [strsA, heardL, RWs_count])) hc) (by rw [hfl]; omega)
    rw [hfl] at this
    exact this
  have hq : acmp Z .NotEq (.int ((joinL [] (sentL ds)).length : Int)) (.int ((15 + ((heardL ds).filter is46).length : Nat) : Int)) = some false := by
    rw [hj]
    show some (!(decide (((15 + ((heardL ds).filter is46).length : Nat) : Int) = ((15 + ((heardL ds).filter is46).length : Nat) : Int)))) = _
    rw [decide_eq_true rfl]; rfl
  exact sIf_f (H1 := Z) (tCmp_eq c1 (oBin_eq rfl c2 (abin_add 15 _)) hq) rfl
end
end Mine
end
section
set_option Elab.async false
set_option linter.all false
set_option linter.unusedSimpArgs false
set_option maxRecDepth 100000
namespace Mine
open PySem
noncomputable def ix (c : Nat) : Int := if c = 46 then 0 else if c = 103 then 1 else 2
noncomputable def turnW (x y : Nat) : Int := ((ix y - ix x + 1).fmod 3) - 1
noncomputable def doorW (x y : Nat) : Int := if [x, y] = [46, 103] ∨ [x, y] = [103, 46] then 1 else 0
noncomputable def turnsGo : Wd → Int → Int
  | [], t => t
  | x :: r, t => match r with
    | [] => t
    | y :: _ => turnsGo r (t + turnW x y)
noncomputable def doorsGo : Wd → Int → Int
  | [], t => t
  | x :: r, t => match r with
    | [] => t
    | y :: _ => doorsGo r (t + doorW x y)
noncomputable def plc (s k c : Nat) : Wd := digits (s : Int) ++ digits (k : Int) ++ [c]
noncomputable def layUp (ch : Nat → Nat → Nat) (s : Nat) (its : Its) (k : Nat) : Its := its ++ [(nmOf its.length (ch (s - 1) k) (ch s k) (ch s (k + 1)), plc s k 117)]
noncomputable def layDn (ch : Nat → Nat → Nat) (s : Nat) (its : Its) (k : Nat) : Its := its ++ [(nmOf its.length (ch (s - 1) k) (ch s (k + 1)) (ch (s - 1) (k + 1)), plc s k 100)]
theorem plc_ok {s k c : Nat} (hs : s < 5) (hk : k < 5) (hc : plainC c = true) : okS (plc s k c) = true ∧ (digits (s : Int)).length ≤ 10 ∧ (digits (k : Int)).length ≤ 10 := by
  have h : ∀ n : Nat, n < 5 → (digits (n : Int)).all plainC = true ∧ (digits (n : Int)).length ≤ 10 := fun n hn => by
    match n, hn with
    | 0, _ => decide +kernel
    | 1, _ => decide +kernel
    | 2, _ => decide +kernel
    | 3, _ => decide +kernel
    | 4, _ => decide +kernel
  obtain ⟨a1, a2⟩ := h s hs
  obtain ⟨b1, b2⟩ := h k hk
  refine ⟨?_, a2, b2⟩
  unfold plc okS
  rw [List.all_append, List.all_append, a1, b1, List.length_append, List.length_append]
  simp [hc]; omega
theorem okIts_app {its : Its} {nm v : Wd} (h : okIts its = true) (h1 : okS nm = true) (h2 : okS v = true) (hl : its.length < 1000) : okIts (its ++ [(nm, v)]) = true := by
  simp only [okIts, Bool.and_eq_true] at h ⊢
  refine ⟨?_, by rw [List.length_append]; exact Nat.ble_eq_true_of_le (by simp; omega)⟩
  rw [List.all_append, h.1]; simp [h1, h2]
section
variable {C : Nat → List AV → Option AV} {D : Nat → List AV → List AV → Option (AV × List AV)}
noncomputable def LayD (D : Nat → List AV → List AV → Option (AV × List AV)) : Prop := ∀ its (a b c : Nat) pl, okIts its = true → isSg a = true → isSg b = true → isSg c = true → okS pl = true → D 3 (tabL its) [.str [a, b, c], .str pl] = some (.none, tabL (its ++ [(nmOf its.length a b c, pl)]))
noncomputable def RimC (C : Nat → List AV → Option AV) : Prop := ∀ (R : List Wd) (ch : Nat → Nat → Nat) (s : Nat), Rows R ch → 1 ≤ s → s ≤ 4 → C 4 [.lst (strsA R), .int (s : Int)] = some (.str (rimW ch s))
structure ZC where
  scr : Option AV
  rows : Option AV
  letter : Option AV
  paints : Option AV
  sent : Option AV
  dr : Option AV
  R : List Wd
structure ZV where
  k : Option AV
  over : Option AV
  under : Option AV
  onward : Option AV
  back : Option AV
  rim : Option AV
  turned : Option AV
  doors : Option AV
noncomputable abbrev zH (m : ZC) (size : Option AV) (v : ZV) (its : Its) : Hp := [.ns [m.scr, size, m.rows, m.letter, m.paints, v.k, m.sent, some (.lst (strsA m.R)), some (.tab 213 2), v.over, v.under, v.onward, v.back, v.rim, v.turned, v.doors], .cell m.dr, .list (tabL its)]
theorem ch_sub1 {H : Hp} {w : Wd} {k c : Nat} (h : w[k]? = some c) (hk : k ≤ 1000) : asub H (.str w) (.int (k : Int)) = some (.str [c]) := asub_str h (by omega)
theorem tostr {i : Nat} {H : Hp} {n : Nat} (h : getLoc H i = some (.int (n : Int))) (hn : n ≤ 1000) : oToStr (oLoc i) [] H = some (.str (digits (n : Int)), H) := by
  have hb : Nat.ble ((n : Int)).natAbs 1000000000 = true := Nat.ble_eq_true_of_le (by rw [Int.natAbs_natCast]; omega)
  show th (oLoc i [] H) _ = _
  rw [oLoc_eq h]
  show gd (Nat.ble ((n : Int)).natAbs 1000000000) (some (AV.str (digits (n : Int)), H)) = _
  rw [hb]; rfl
theorem up_turn (hL : LayD D) {m : ZC} {s k : Nat} {v : ZV} {its : Its} {ch : Nat → Nat → Nat} (hs : 1 ≤ s) (hs4 : s ≤ 4) (hk : k < s) {wo wu : Wd} (ho : v.over = some (.str wo)) (hu : v.under = some (.str wu)) (h1 : wo[k]? = some (ch (s - 1) k)) (h2 : wu[k]? = some (ch s k)) (h3 : wu[k + 1]? = some (ch s (k + 1)))
    (hsg : ∀ i j, isSg (ch i j) = true) (hi : okIts its = true) : oBody (.one (.loc 5)) (o_p1_law_b2 C D) (.int (k : Int)) (zH m (some (.int (s : Int))) v its) = some (.next, zH m (some (.int (s : Int))) { v with k := some (.int (k : Int)) } (layUp ch s its k)) := by
  obtain ⟨vk, vo, vu, x1, x2, x3, x4, x5⟩ := v
  simp only at ho hu
  subst ho hu
  let Z := zH m (some (.int (s : Int))) ⟨some (.int (k : Int)), some (.str wo), some (.str wu), x1, x2, x3, x4, x5⟩ its
  refine (oBody_eq (H1 := Z) rfl).trans ?_
  obtain ⟨p1, p2, p3⟩ := plc_ok (s := s) (k := k) (c := 117) (by omega) (by omega) rfl
  have ht : atab 213 Z (.tab 213 2) = some (2, tabL its) := atab_tabL rfl
  have e1 : oBin .Add (oBin .Add (oSub (oLoc 9) (oLoc 5)) (oSub (oLoc 10) (oLoc 5))) (oSub (oLoc 10) (oBin .Add (oLoc 5) (oK (.int 1)))) [] Z = some (.str [ch (s - 1) k, ch s k, ch s (k + 1)], Z) :=
    oBin_eq (oBin_eq (oSub_eq (oLoc_eq rfl) (oLoc_eq rfl) (ch_sub1 h1 (by omega))) (oSub_eq (oLoc_eq rfl) (oLoc_eq rfl) (ch_sub1 h2 (by omega))) rfl) (oSub_eq (oLoc_eq rfl) (oBin_eq (oLoc_eq rfl) rfl (abin_add k 1)) (ch_sub1 h3 (by omega))) rfl
  have e2 : oBin .Add (oBin .Add (oToStr (oLoc 1)) (oToStr (oLoc 5))) (oK (.str [117])) [] Z = some (.str (plc s k 117), Z) :=
    oBin_eq (oBin_eq (tostr rfl (by omega)) (tostr rfl (by omega)) (add_str (by omega))) rfl (add_str (by rw [List.length_append]; simp; omega))
  exact sCons_n (sExp_none ((oTf_eq (l := 2) (oLoc_eq rfl) (oCons_eq e1 (oCons_eq e2 rfl)) rfl ht (hL its _ _ _ _ hi (hsg _ _) (hsg _ _) (hsg _ _) p1)).trans rfl)) rfl
theorem dn_turn (hL : LayD D) {m : ZC} {s k : Nat} {v : ZV} {its : Its} {ch : Nat → Nat → Nat} (hs : 1 ≤ s) (hs4 : s ≤ 4) (hk : k < s) {wo wu : Wd} (ho : v.over = some (.str wo)) (hu : v.under = some (.str wu)) (h1 : wo[k]? = some (ch (s - 1) k)) (h2 : wu[k + 1]? = some (ch s (k + 1))) (h3 : wo[k + 1]? = some (ch (s - 1) (k + 1)))
    (hsg : ∀ i j, isSg (ch i j) = true) (hi : okIts its = true) : oBody (.one (.loc 5)) (o_p1_law_b3 C D) (.int (k : Int)) (zH m (some (.int (s : Int))) v its) = some (.next, zH m (some (.int (s : Int))) { v with k := some (.int (k : Int)) } (layDn ch s its k)) := by
  obtain ⟨vk, vo, vu, x1, x2, x3, x4, x5⟩ := v
  simp only at ho hu
  subst ho hu
  let Z := zH m (some (.int (s : Int))) ⟨some (.int (k : Int)), some (.str wo), some (.str wu), x1, x2, x3, x4, x5⟩ its
  refine (oBody_eq (H1 := Z) rfl).trans ?_
  obtain ⟨p1, p2, p3⟩ := plc_ok (s := s) (k := k) (c := 100) (by omega) (by omega) rfl
  have ht : atab 213 Z (.tab 213 2) = some (2, tabL its) := atab_tabL rfl
  have e1 : oBin .Add (oBin .Add (oSub (oLoc 9) (oLoc 5)) (oSub (oLoc 10) (oBin .Add (oLoc 5) (oK (.int 1))))) (oSub (oLoc 9) (oBin .Add (oLoc 5) (oK (.int 1)))) [] Z = some (.str [ch (s - 1) k, ch s (k + 1), ch (s - 1) (k + 1)], Z) :=
    oBin_eq (oBin_eq (oSub_eq (oLoc_eq rfl) (oLoc_eq rfl) (ch_sub1 h1 (by omega))) (oSub_eq (oLoc_eq rfl) (oBin_eq (oLoc_eq rfl) rfl (abin_add k 1)) (ch_sub1 h2 (by omega))) rfl) (oSub_eq (oLoc_eq rfl) (oBin_eq (oLoc_eq rfl) rfl (abin_add k 1)) (ch_sub1 h3 (by omega))) rfl
  have e2 : oBin .Add (oBin .Add (oToStr (oLoc 1)) (oToStr (oLoc 5))) (oK (.str [100])) [] Z = some (.str (plc s k 100), Z) :=
    oBin_eq (oBin_eq (tostr rfl (by omega)) (tostr rfl (by omega)) (add_str (by omega))) rfl (add_str (by rw [List.length_append]; simp; omega))
  exact sCons_n (sExp_none ((oTf_eq (l := 2) (oLoc_eq rfl) (oCons_eq e1 (oCons_eq e2 rfl)) rfl ht (hL its _ _ _ _ hi (hsg _ _) (hsg _ _) (hsg _ _) p1)).trans rfl)) rfl
theorem layUp_ok {ch : Nat → Nat → Nat} (hsg : ∀ i j, isSg (ch i j) = true) {s k : Nat} {its : Its} (hs : s < 5) (hk : k < 5) (h : okIts its = true) (hl : its.length < 1000) : okIts (layUp ch s its k) = true := okIts_app h (nmOf_ok (hsg _ _) (hsg _ _) (hsg _ _)) (plc_ok hs hk rfl).1 hl
theorem layDn_ok {ch : Nat → Nat → Nat} (hsg : ∀ i j, isSg (ch i j) = true) {s k : Nat} {its : Its} (hs : s < 5) (hk : k < 5) (h : okIts its = true) (hl : its.length < 1000) : okIts (layDn ch s its k) = true := okIts_app h (nmOf_ok (hsg _ _) (hsg _ _) (hsg _ _)) (plc_ok hs hk rfl).1 hl
theorem up_loop (hL : LayD D) {m : ZC} {s : Nat} {ch : Nat → Nat → Nat} (hs : 1 ≤ s) (hs4 : s ≤ 4) (hsg : ∀ i j, isSg (ch i j) = true) {wo wu : Wd} (ho : ∀ k, k < s → wo[k]? = some (ch (s - 1) k)) (hu : ∀ k, k ≤ s → wu[k]? = some (ch s k)) : ∀ (n k : Nat) (v : ZV) (its : Its), v.over = some (.str wo) → v.under = some (.str wu) → k + n ≤ s → okIts its = true → its.length + n ≤ 900 →
    ∃ k', loopLit (oBody (.one (.loc 5)) (o_p1_law_b2 C D)) ((List.range' k n).map fun k : Nat => AV.int (k : Int)) (zH m (some (.int (s : Int))) v its) = some (.next, zH m (some (.int (s : Int))) { v with k := k' } ((List.range' k n).foldl (layUp ch s) its)) ∧ okIts ((List.range' k n).foldl (layUp ch s) its) = true
  | 0, k, v, its, _, _, _, hi, _ => ⟨v.k, rfl, hi⟩
  | n + 1, k, v, its, e1, e2, hk, hi, hl => by
    have t := up_turn (C := C) (D := D) hL (m := m) (v := v) (its := its) (ch := ch) hs hs4 (by omega : k < s) e1 e2 (ho k (by omega)) (hu k (by omega)) (hu (k + 1) (by omega)) hsg hi
    have hk' := layUp_ok hsg (s := s) (k := k) (by omega) (by omega) hi (by omega)
    obtain ⟨k', e, h⟩ := up_loop hL (m := m) hs hs4 hsg ho hu n (k + 1) { v with k := some (.int (k : Int)) } (layUp ch s its k) e1 e2 (by omega) hk' (by unfold layUp; simp; omega)
    refine ⟨k', ?_, ?_⟩
    · rw [List.range'_succ, List.map_cons, List.foldl_cons]
      exact loop_next t e
    · rw [List.range'_succ, List.foldl_cons]; exact h
theorem dn_loop (hL : LayD D) {m : ZC} {s : Nat} {ch : Nat → Nat → Nat} (hs : 1 ≤ s) (hs4 : s ≤ 4) (hsg : ∀ i j, isSg (ch i j) = true) {wo wu : Wd} (ho : ∀ k, k < s → wo[k]? = some (ch (s - 1) k)) (hu : ∀ k, k ≤ s → wu[k]? = some (ch s k)) : ∀ (n k : Nat) (v : ZV) (its : Its), v.over = some (.str wo) → v.under = some (.str wu) → k + n + 1 ≤ s → okIts its = true → its.length + n ≤ 900 →
    ∃ k', loopLit (oBody (.one (.loc 5)) (o_p1_law_b3 C D)) ((List.range' k n).map fun k : Nat => AV.int (k : Int)) (zH m (some (.int (s : Int))) v its) = some (.next, zH m (some (.int (s : Int))) { v with k := k' } ((List.range' k n).foldl (layDn ch s) its)) ∧ okIts ((List.range' k n).foldl (layDn ch s) its) = true
  | 0, k, v, its, _, _, _, hi, _ => ⟨v.k, rfl, hi⟩
  | n + 1, k, v, its, e1, e2, hk, hi, hl => by
    have t := dn_turn (C := C) (D := D) hL (m := m) (v := v) (its := its) (ch := ch) hs hs4 (by omega : k < s) e1 e2 (ho k (by omega)) (hu (k + 1) (by omega)) (ho (k + 1) (by omega)) hsg hi
    have hk' := layDn_ok hsg (s := s) (k := k) (by omega) (by omega) hi (by omega)
    obtain ⟨k', e, h⟩ := dn_loop hL (m := m) hs hs4 hsg ho hu n (k + 1) { v with k := some (.int (k : Int)) } (layDn ch s its k) e1 e2 (by omega) hk' (by unfold layDn; simp; omega)
    refine ⟨k', ?_, ?_⟩
    · rw [List.range'_succ, List.map_cons, List.foldl_cons]
      exact loop_next t e
    · rw [List.range'_succ, List.foldl_cons]; exact h
theorem index_sg {H : Hp} {c : Nat} (h : isSg c = true) : asm H .index [46, 103, 98] [.str [c]] = some (.int (ix c)) := by
  simp only [isSg, Bool.or_eq_true, beq_iff_eq] at h
  rcases h with (rfl | rfl) | rfl <;> rfl
theorem slice2 {rim : Wd} {k x y : Nat} (hl : rim.length ≤ 1000) (h1 : rim[k]? = some x) (h2 : rim[k + 1]? = some y) : aslice (.str rim) (k : Int) (some ((k + 2 : Nat) : Int)) = some (.str [x, y]) := by
  show orE ((aslc rim (k : Int) (some ((k + 2 : Nat) : Int))).map AV.str) _ = _
  rw [aslc_to (small_of (by omega))]
  have e : (rim.take (k + 2)).drop k = [x, y] := by
    obtain ⟨a1, a2⟩ := List.getElem?_eq_some_iff.mp h1
    obtain ⟨b1, b2⟩ := List.getElem?_eq_some_iff.mp h2
    rw [List.drop_take, show k + 2 - k = 2 by omega, List.drop_eq_getElem_cons a1, List.drop_eq_getElem_cons b1, a2, b2]; rfl
  rw [e]; rfl
theorem rim_turn {m : ZC} {s k x y : Nat} {v : ZV} {its : Its} {rim : Wd} {t d : Int} (hr : v.rim = some (.str rim)) (ht : v.turned = some (.int t)) (hd : v.doors = some (.int d)) (hl : rim.length ≤ 1000) (h1 : rim[k]? = some x) (h2 : rim[k + 1]? = some y) (hx : isSg x = true) (hy : isSg y = true) (hk : k ≤ 900) :
    oBody (.one (.loc 5)) (o_p1_law_b4 C D) (.int (k : Int)) (zH m (some (.int (s : Int))) v its) = some (.next, zH m (some (.int (s : Int))) { v with k := some (.int (k : Int)), turned := some (.int (t + turnW x y)), doors := some (.int (d + doorW x y)) } its) := by
  obtain ⟨vk, vo, vu, x1, x2, x3, x4, x5⟩ := v
  simp only at hr ht hd
  subst hr ht hd
  let Z := zH m (some (.int (s : Int))) ⟨some (.int (k : Int)), vo, vu, x1, x2, some (.str rim), some (.int t), some (.int d)⟩ its
  let Y := zH m (some (.int (s : Int))) ⟨some (.int (k : Int)), vo, vu, x1, x2, some (.str rim), some (.int (t + turnW x y)), some (.int d)⟩ its
  refine (oBody_eq (H1 := Z) rfl).trans ?_
  have e1 : abin .Sub (.int (t + ((ix y - ix x + 1).fmod 3))) (.int 1) = some (.int (t + turnW x y)) := by
    show some (AV.int _) = _
    congr 2; unfold turnW; omega
  have s1 : sAsg (.loc 14) (oBin .Sub (oBin .Add (oLoc 14) (oBin .Mod (oBin .Add (oBin .Sub (oSm .index (oK (.str [46, 103, 98])) (oCons (oSub (oLoc 13) (oBin .Add (oLoc 5) (oK (.int 1)))) oNil)) (oSm .index (oK (.str [46, 103, 98])) (oCons (oSub (oLoc 13) (oLoc 5)) oNil))) (oK (.int 1))) (oK (.int 3)))) (oK (.int 1))) Z = some (.next, Y) :=
    sAsg_eq (oBin_eq (oBin_eq (oLoc_eq rfl) (oBin_eq (oBin_eq (oBin_eq (oSm_eq rfl (oCons_eq (oSub_eq (oLoc_eq rfl) (oBin_eq (oLoc_eq rfl) rfl (abin_add k 1)) (ch_sub1 h2 (by omega))) rfl) (index_sg hy)) (oSm_eq rfl (oCons_eq (oSub_eq (oLoc_eq rfl) (oLoc_eq rfl) (ch_sub1 h1 (by omega))) rfl) (index_sg hx)) rfl) rfl rfl) rfl rfl) rfl) rfl e1) rfl
  have sl : oSlc (oLoc 13) (oLoc 5) (oBin .Add (oLoc 5) (oK (.int 2))) [] Y = some (.str [x, y], Y) := oSlc_eq (oLoc_eq rfl) (oLoc_eq rfl) (oBin_eq (oLoc_eq rfl) rfl (abin_add k 2)) (slice2 hl h1 h2)
  have cm : ∀ (q : Wd) {b : Bool}, decide ([x, y] = q) = b → tCmp .Eq (oSlc (oLoc 13) (oLoc 5) (oBin .Add (oLoc 5) (oK (.int 2)))) (oK (.str q)) [] Y = some (b, Y) := fun q b h => tCmp_eq sl rfl (congrArg some h)
  refine sCons_n s1 ?_
  by_cases ha : [x, y] = [46, 103]
  · have hd1 : doorW x y = 1 := if_pos (.inl ha)
    rw [hd1]
    exact sCons_n (sIf_t (tBoo_or_t (cm [46, 103] (decide_eq_true ha))) (sCons_n (sAsg_eq (oBin_eq (oLoc_eq rfl) rfl rfl) rfl) rfl)) rfl
  · have c1 := cm [46, 103] (decide_eq_false ha)
    by_cases hb : [x, y] = [103, 46]
    · have hd1 : doorW x y = 1 := if_pos (.inr hb)
      rw [hd1]
      exact sCons_n (sIf_t (tBoo_or_f c1 (cm [103, 46] (decide_eq_true hb))) (sCons_n (sAsg_eq (oBin_eq (oLoc_eq rfl) rfl rfl) rfl) rfl)) rfl
    · have hd0 : doorW x y = 0 := if_neg (fun q => q.elim ha hb)
      rw [hd0, Int.add_zero]
      exact sCons_n (sIf_f (tBoo_or_f c1 (cm [103, 46] (decide_eq_false hb))) rfl) rfl
theorem rim_loop {m : ZC} {s : Nat} {its : Its} {rim : Wd} (hl : rim.length ≤ 900) (hsg : ∀ c ∈ rim, isSg c = true) : ∀ (r : Wd) (x k : Nat) (v : ZV) (t d : Int), v.rim = some (.str rim) → v.turned = some (.int t) → v.doors = some (.int d) → rim.drop k = x :: r →
    ∃ k', loopLit (oBody (.one (.loc 5)) (o_p1_law_b4 C D)) ((List.range' k r.length).map fun k : Nat => AV.int (k : Int)) (zH m (some (.int (s : Int))) v its) = some (.next, zH m (some (.int (s : Int))) { v with k := k', turned := some (.int (turnsGo (x :: r) t)), doors := some (.int (doorsGo (x :: r) d)) } its)
  | [], x, k, v, t, d, e1, e2, e3, _ => ⟨v.k, by
    obtain ⟨vk, vo, vu, x1, x2, x3, x4, x5⟩ := v
    simp only at e1 e2 e3
    subst e1 e2 e3; rfl⟩
  | y :: r, x, k, v, t, d, e1, e2, e3, hd => by
    have hk : k < rim.length := by
      have := congrArg List.length hd
      simp at this; omega
    have h1 : rim[k]? = some x := by
      have : (rim.drop k)[0]? = some x := by rw [hd]; rfl
      simpa using this
    have h2 : rim[k + 1]? = some y := by
      have : (rim.drop k)[1]? = some y := by rw [hd]; rfl
      simpa using this
    have hr : rim.drop (k + 1) = y :: r := by
      have : (rim.drop k).drop 1 = y :: r := by rw [hd]; rfl
      simpa [List.drop_drop, Nat.add_comm] using this
    have tt := rim_turn (C := C) (D := D) (m := m) (s := s) (its := its) e1 e2 e3 (by omega) h1 h2 (hsg _ (List.mem_of_getElem? h1)) (hsg _ (List.mem_of_getElem? h2)) (by omega)
    obtain ⟨k', e⟩ := rim_loop hl hsg r y (k + 1) { v with k := some (.int (k : Int)), turned := some (.int (t + turnW x y)), doors := some (.int (d + doorW x y)) } (t + turnW x y) (d + doorW x y) e1 rfl rfl hr
    refine ⟨k', ?_⟩
    rw [List.length_cons, List.range'_succ, List.map_cons]
    exact loop_next tt e
end
end Mine
end
section
set_option Elab.async false
set_option linter.all false
set_option linter.unusedSimpArgs false
set_option maxRecDepth 100000
namespace Mine
open PySem
noncomputable def qOn : Wd := [46, 103, 66]
noncomputable def qBk : Wd := [46, 66, 103]
noncomputable def upAll (ch : Nat → Nat → Nat) (s : Nat) (its : Its) : Its := (List.range' 0 s).foldl (layUp ch s) its
noncomputable def dnAll (ch : Nat → Nat → Nat) (s : Nat) (its : Its) : Its := (List.range' 0 (s - 1)).foldl (layDn ch s) its
noncomputable def sizeAll (ch : Nat → Nat → Nat) (s : Nat) (its : Its) : Its := dnAll ch s (upAll ch s its)
structure RimOk (ch : Nat → Nat → Nat) (s : Nat) (I : Its) : Prop where
  turned : 3 * (((getAll I qOn).length : Int) - ((getAll I qBk).length : Int)) = turnsGo (rimW ch s) 0
  doors : (((getAll I qOn).length : Int) + ((getAll I qBk).length : Int)).fmod 2 = (doorsGo (rimW ch s) 0).fmod 2
theorem foldUp_len {ch : Nat → Nat → Nat} {s : Nat} : ∀ (l : List Nat) (its : Its), (l.foldl (layUp ch s) its).length = its.length + l.length
  | [], its => rfl
  | k :: l, its => by rw [List.foldl_cons, foldUp_len l]; simp [layUp]; omega
theorem foldDn_len {ch : Nat → Nat → Nat} {s : Nat} : ∀ (l : List Nat) (its : Its), (l.foldl (layDn ch s) its).length = its.length + l.length
  | [], its => rfl
  | k :: l, its => by rw [List.foldl_cons, foldDn_len l]; simp [layDn]; omega
theorem sizeAll_len {ch : Nat → Nat → Nat} {s : Nat} {its : Its} : (sizeAll ch s its).length = its.length + s + (s - 1) := by
  unfold sizeAll dnAll upAll
  rw [foldDn_len, foldUp_len]; simp
theorem getAll_len (I : Its) (q : Wd) : (getAll I q).length ≤ I.length := by unfold getAll; exact List.length_filterMap_le _ _
theorem rimW_cons {ch : Nat → Nat → Nat} {s : Nat} (h : 1 ≤ s) : ∃ x r, rimW ch s = x :: r ∧ r.length = 3 * s := by
  cases e : rimW ch s with
  | nil => have := congrArg List.length e; simp [rimW] at this
  | cons x r =>
    have := congrArg List.length e
    simp [rimW] at this
    exact ⟨x, r, rfl, by omega⟩
theorem rimW_sg {ch : Nat → Nat → Nat} (hsg : ∀ i j, isSg (ch i j) = true) {s : Nat} : ∀ c ∈ rimW ch s, isSg c = true := fun c hc => by
  simp only [rimW, List.mem_append, List.mem_map, List.mem_singleton] at hc
  rcases hc with ((⟨k, _, rfl⟩ | ⟨k, _, rfl⟩) | ⟨k, _, rfl⟩) | rfl <;> exact hsg _ _
section
variable {C : Nat → List AV → Option AV} {D : Nat → List AV → List AV → Option (AV × List AV)}
theorem size_turn (hL : LayD D) (hG : GetD D) (hM : RimC C) {m : ZC} {ch : Nat → Nat → Nat} (hR : Rows m.R ch) (hsg : ∀ i j, isSg (ch i j) = true) {s : Nat} (h1 : 1 ≤ s) (h4 : s ≤ 4) {its : Its} (hi : okIts its = true) (hl : its.length ≤ 800) (hO : RimOk ch s (sizeAll ch s its)) (sz : Option AV) (v : ZV) :
    okIts (sizeAll ch s its) = true ∧ ∃ v', oBody (.one (.loc 1)) (o_p1_law_b5 C D) (.int (s : Int)) (zH m sz v its) = some (.next, zH m (some (.int (s : Int))) v' (sizeAll ch s its)) := by
  obtain ⟨k0, vo, vu, x1, x2, x3, x4, x5⟩ := v
  obtain ⟨wo, r1, r2, r3⟩ := hR.row (s - 1) (by omega)
  obtain ⟨wu, q1, q2, q3⟩ := hR.row s (by omega)
  have ho : ∀ k, k < s → wo[k]? = some (ch (s - 1) k) := fun k hk => r3 k (by omega)
  have hu : ∀ k, k ≤ s → wu[k]? = some (ch s k) := fun k hk => q3 k hk
  let V : Option AV → Option AV → Option AV → ZV := fun k a b => ⟨k, a, b, x1, x2, x3, x4, x5⟩
  let Z : ZV → Its → Hp := fun v i => zH m (some (.int (s : Int))) v i
  have rA : ∀ {i : Nat} {w : Wd}, m.R[i]? = some w → (strsA m.R)[i]? = some (AV.str w) := fun {i w} h => by unfold strsA; rw [List.getElem?_map, h]; rfl
  have t1 : sAsg (.loc 9) (oSub (oLoc 7) (oBin .Sub (oLoc 1) (oK (.int 1)))) (Z (V k0 vo vu) its) = some (.next, Z (V k0 (some (.str wo)) vu) its) :=
    sAsg_eq (oSub_eq (oLoc_eq rfl) (oBin_eq (oLoc_eq rfl) rfl (abin_sub (a := s) (b := 1) h1)) (asub_lst (rA r1) (by omega))) rfl
  have t2 : sAsg (.loc 10) (oSub (oLoc 7) (oLoc 1)) (Z (V k0 (some (.str wo)) vu) its) = some (.next, Z (V k0 (some (.str wo)) (some (.str wu))) its) :=
    sAsg_eq (oSub_eq (oLoc_eq rfl) (oLoc_eq rfl) (asub_lst (rA q1) (by omega))) rfl
  obtain ⟨k1, e3, i3⟩ := up_loop (C := C) (D := D) hL (m := m) h1 h4 hsg ho hu s 0 (V k0 (some (.str wo)) (some (.str wu))) its rfl rfl (by omega) hi (by omega)
  have hul : (upAll ch s its).length = its.length + s := by unfold upAll; rw [foldUp_len]; simp
  obtain ⟨k2, e4, i4⟩ := dn_loop (C := C) (D := D) hL (m := m) h1 h4 hsg ho hu (s - 1) 0 (V k1 (some (.str wo)) (some (.str wu))) (upAll ch s its) rfl rfl (by omega) i3 (by omega)
  rw [← rangeL_nat] at e3 e4
  refine ⟨i4, ?_⟩
  let I := sizeAll ch s its
  have hIl : I.length = its.length + s + (s - 1) := sizeAll_len
  let W : Option AV → Option AV → Option AV → Option AV → Option AV → ZV := fun a b c d e => ⟨k2, some (.str wo), some (.str wu), a, b, c, d, e⟩
  have ht : ∀ v, atab 213 (Z v I) (.tab 213 2) = some (2, tabL I) := fun v => atab_tabL rfl
  have gl : ∀ (q : Wd) (v : ZV), okS q = true → oLen (oTc D 213 1 (oLoc 8) (oCons (oK (.str q)) oNil)) [] (Z v I) = some (.int ((getAll I q).length : Int), Z v I) := fun q v hq => by
    have hf : (strsA (getAll I q)).length = (getAll I q).length := List.length_map _
    have ha : oCons (oK (.str q)) oNil [] (Z v I) = some ([.str q], Z v I) := rfl
    have hb : oTc D 213 1 (oLoc 8) (oCons (oK (.str q)) oNil) [] (Z v I) = some (.lst (strsA (getAll I q)), Z v I) := (oTc_eq (l := 2) (xs := tabL I) (oLoc_eq rfl) (by rw [ht]; rfl) ha rfl (ht v) (hG I q i4 hq)).trans rfl
    have := len_eq hb (by rw [hf]; have := getAll_len I q; omega)
    rw [hf] at this; exact this
  let nO : Option AV := some (.int ((getAll I qOn).length : Int))
  let nB : Option AV := some (.int ((getAll I qBk).length : Int))
  have t5 : sAsg (.loc 11) (oLen (oTc D 213 1 (oLoc 8) (oCons (oK (.str [46, 103, 66])) oNil))) (Z (W x1 x2 x3 x4 x5) I) = some (.next, Z (W nO x2 x3 x4 x5) I) := sAsg_eq (gl qOn _ rfl) rfl
  have t6 : sAsg (.loc 12) (oLen (oTc D 213 1 (oLoc 8) (oCons (oK (.str [46, 66, 103])) oNil))) (Z (W nO x2 x3 x4 x5) I) = some (.next, Z (W nO nB x3 x4 x5) I) := sAsg_eq (gl qBk _ rfl) rfl
  have hp : AV.pures [.lst (strsA m.R), .int (s : Int)] = true := by
    show (AV.pures (strsA m.R) && (true && true)) = true
    rw [show AV.pures (strsA m.R) = true from str_pures _]; rfl
  have t7 : sAsg (.loc 13) (oFc C 4 (oCons (oLoc 7) (oCons (oLoc 1) oNil))) (Z (W nO nB x3 x4 x5) I) = some (.next, Z (W nO nB (some (.str (rimW ch s))) x4 x5) I) :=
    sAsg_eq (oFc_eq (oCons_eq (oLoc_eq rfl) (oCons_eq (oLoc_eq rfl) rfl)) hp (hM _ _ _ hR h1 h4)) rfl
  obtain ⟨x, r, hx, hr⟩ := rimW_cons (ch := ch) h1
  have hrl : (rimW ch s).length ≤ 900 := by rw [hx, List.length_cons, hr]; omega
  obtain ⟨k3, e10⟩ := rim_loop (C := C) (D := D) (m := m) (s := s) (its := I) hrl (rimW_sg hsg) r x 0 (W nO nB (some (.str (rimW ch s))) (some (.int 0)) (some (.int 0))) 0 0 rfl rfl rfl (by rw [hx]; rfl)
  rw [hr, ← rangeL_nat, ← hx] at e10
  let v' : ZV := { W nO nB (some (.str (rimW ch s))) (some (.int 0)) (some (.int 0)) with k := k3, turned := some (.int (turnsGo (rimW ch s) 0)), doors := some (.int (doorsGo (rimW ch s) 0)) }
  refine ⟨v', ?_⟩
  have c1 : tCmp .NotEq (oBin .Mult (oK (.int 3)) (oBin .Sub (oLoc 11) (oLoc 12))) (oLoc 14) [] (Z v' I) = some (false, Z v' I) := by
    have hm : abin .Mult (.int 3) (.int (((getAll I qOn).length : Int) - ((getAll I qBk).length : Int))) = some (.int (3 * (((getAll I qOn).length : Int) - ((getAll I qBk).length : Int)))) := rfl
    refine tCmp_eq (oBin_eq rfl (oBin_eq (oLoc_eq rfl) (oLoc_eq rfl) rfl) hm) (oLoc_eq rfl) ?_
    show some (!(decide (3 * (((getAll I qOn).length : Int) - ((getAll I qBk).length : Int)) = turnsGo (rimW ch s) 0))) = _
    rw [decide_eq_true hO.turned]; rfl
  have c2 : tCmp .NotEq (oBin .Mod (oBin .Add (oLoc 11) (oLoc 12)) (oK (.int 2))) (oBin .Mod (oLoc 15) (oK (.int 2))) [] (Z v' I) = some (false, Z v' I) := by
    refine tCmp_eq (oBin_eq (oBin_eq (oLoc_eq rfl) (oLoc_eq rfl) rfl) rfl rfl) (oBin_eq (oLoc_eq rfl) rfl rfl) ?_
    show some (!(decide ((((getAll I qOn).length : Int) + ((getAll I qBk).length : Int)).fmod 2 = (doorsGo (rimW ch s) 0).fmod 2))) = _
    rw [decide_eq_true hO.doors]; rfl
  have rg : ∀ n : Nat, n ≤ 1000 → rngOk 0 (n : Int) = true := fun n hn => (Bool.and_eq_true _ _).mpr ⟨rfl, Nat.ble_eq_true_of_le (by rw [Int.natAbs_natCast]; omega)⟩
  have h3s : abin .Mult (.int 3) (.int (s : Int)) = some (.int ((3 * s : Nat) : Int)) := by
    show some (AV.int _) = _
    rw [Int.natCast_mul]; rfl
  refine (oBody_eq (H1 := Z (V k0 vo vu) its) rfl).trans ?_
  exact sCons_n t1 (sCons_n t2 (sCons_n ((sForR1_eq (oLoc_eq rfl) (rg s (by omega))).trans e3) (sCons_n ((sForR1_eq (oBin_eq (oLoc_eq rfl) rfl (abin_sub (a := s) (b := 1) h1)) (rg (s - 1) (by omega))).trans e4) (sCons_n t5 (sCons_n t6 (sCons_n t7 (sCons_n (H1 := Z (W nO nB (some (.str (rimW ch s))) (some (.int 0)) x5) I) rfl (sCons_n (H1 := Z (W nO nB (some (.str (rimW ch s))) (some (.int 0)) (some (.int 0))) I) rfl
    (sCons_n ((sForR1_eq (oBin_eq rfl (oLoc_eq rfl) h3s) (rg (3 * s) (by omega))).trans e10) (sCons_n (sIf_f (tBoo_or_f c1 c2) rfl) rfl))))))))))
noncomputable def I1 (ch : Nat → Nat → Nat) : Its := sizeAll ch 1 []
noncomputable def I2 (ch : Nat → Nat → Nat) : Its := sizeAll ch 2 (I1 ch)
noncomputable def I3 (ch : Nat → Nat → Nat) : Its := sizeAll ch 3 (I2 ch)
noncomputable def I4 (ch : Nat → Nat → Nat) : Its := sizeAll ch 4 (I3 ch)
theorem I_lens (ch : Nat → Nat → Nat) : (I1 ch).length = 1 ∧ (I2 ch).length = 4 ∧ (I3 ch).length = 9 ∧ (I4 ch).length = 16 := by
  have a : (I1 ch).length = 1 := sizeAll_len
  have b : (I2 ch).length = 4 := by unfold I2; rw [sizeAll_len, a]
  have c : (I3 ch).length = 9 := by unfold I3; rw [sizeAll_len, b]
  exact ⟨a, b, c, by unfold I4; rw [sizeAll_len, c]⟩
structure AllRims (ch : Nat → Nat → Nat) : Prop where
  r1 : RimOk ch 1 (I1 ch)
  r2 : RimOk ch 2 (I2 ch)
  r3 : RimOk ch 3 (I3 ch)
  r4 : RimOk ch 4 (I4 ch)
theorem size_loop (hL : LayD D) (hG : GetD D) (hM : RimC C) {m : ZC} {ch : Nat → Nat → Nat} (hR : Rows m.R ch) (hsg : ∀ i j, isSg (ch i j) = true) (hA : AllRims ch) (sz : Option AV) (v : ZV) :
    okIts (I4 ch) = true ∧ ∃ v', loopLit (oBody (.one (.loc 1)) (o_p1_law_b5 C D)) (rangeL 1 5) (zH m sz v []) = some (.next, zH m (some (.int 4)) v' (I4 ch)) := by
  obtain ⟨l1, l2, l3, l4⟩ := I_lens ch
  obtain ⟨o1, v1, e1⟩ := size_turn (C := C) (D := D) hL hG hM hR hsg (s := 1) (by decide) (by decide) (its := []) rfl (by decide) hA.r1 sz v
  obtain ⟨o2, v2, e2⟩ := size_turn (C := C) (D := D) hL hG hM hR hsg (s := 2) (by decide) (by decide) (its := I1 ch) o1 (by omega) hA.r2 (some (.int 1)) v1
  obtain ⟨o3, v3, e3⟩ := size_turn (C := C) (D := D) hL hG hM hR hsg (s := 3) (by decide) (by decide) (its := I2 ch) o2 (by omega) hA.r3 (some (.int 2)) v2
  obtain ⟨o4, v4, e4⟩ := size_turn (C := C) (D := D) hL hG hM hR hsg (s := 4) (by decide) (by decide) (its := I3 ch) o3 (by omega) hA.r4 (some (.int 3)) v3
  exact ⟨o4, v4, loop_next e1 (loop_next e2 (loop_next e3 (loop_next e4 rfl)))⟩
theorem law1_run (hS : SignC C) (hQ : QuoteC C) (hL : LayD D) (hG : GetD D) (hM : RimC C) (hN : LenD D) {ns : List Int} (hns : ns.length ≤ 63) {ds : List Nat} (h : ds.length = 15) (h6 : ∀ d ∈ ds, d < 576) (hd : ((ns.take 15).map fun x => x.fmod 576) ++ df1.drop ((ns.take 15).map fun x => x.fmod 576).length = ds.map (fun k : Nat => (k : Int)))
    {ch : Nat → Nat → Nat} (hR : Rows (heardL ds) ch) (hsg : ∀ i j, isSg (ch i j) = true) (hA : AllRims ch) : ∃ H', o_p1_law C D (p1_law.init [.lst (ns.map .int)]) = some (.ret (.bool true), H') := by
  let scr : Option AV := some (.lst (ns.map .int))
  let dr : Option AV := some (.lst (intsA ds))
  let rw' : Option AV := some (.lst ((PRs ds).map fun p => AV.lst (intsA p)))
  let lt : Option AV := some (.str (mailTx ((PRs ds).map rowTx)))
  let sn : Option AV := some (.lst (strsA (sentL ds)))
  obtain ⟨x, y, eL⟩ := rows_loop (C := C) (D := D) hS (scr := scr) (rows := rw') (dr := dr) (PRs ds) [] none none (fun p hp => by have := PRs_ok h h6 p hp; exact ⟨this.1, by omega, this.2.2⟩) (by show 0 + 102 * 5 ≤ 5000; decide)
  let m : ZC := ⟨scr, rw', lt, x, sn, dr, heardL ds⟩
  obtain ⟨o4, v', eZ⟩ := size_loop (C := C) (D := D) hL hG hM (m := m) hR hsg hA none ⟨y, none, none, none, none, none, none, none⟩
  have ht : atab 213 (zH m (some (.int 4)) v' (I4 ch)) (.tab 213 2) = some (2, tabL (I4 ch)) := atab_tabL rfl
  have eR : oCmp .Eq (oTl D 213 4 (oLoc 8)) (oK (.int 16)) [] (zH m (some (.int 4)) v' (I4 ch)) = some (.bool true, zH m (some (.int 4)) v' (I4 ch)) := by
    refine oCmp_eq (a := .int ((I4 ch).length : Int)) ((oTl_eq (l := 2) (oLoc_eq rfl) ht (hN _ o4)).trans rfl) rfl ?_
    rw [(I_lens ch).2.2.2]; rfl
  refine ⟨zH m (some (.int 4)) v' (I4 ch), ?_⟩
  unfold o_p1_law
  refine head_drawn hns h hd (sCons_n (head_rows h) (sCons_n (H1 := eH scr rw' dr [] none none) rfl (sCons_n ((sForE_eq (oLoc_eq rfl) rfl).trans eL) (sCons_n (head_sent hQ h h6) (sCons_n (head_heard h h6) (sCons_n (head_same h h6) (sCons_n (head_count h h6) (sCons_n (H1 := zH m none ⟨y, none, none, none, none, none, none, none⟩ []) rfl (sCons_n ((sForR2_eq (m := 1) (n := 5) rfl rfl rfl).trans eZ) (sCons_r (sRet_eq eR)))))))))))
end
end Mine
end
section
set_option Elab.async false
set_option linter.all false
set_option linter.unusedSimpArgs false
set_option maxRecDepth 100000
namespace Mine
open PySem
noncomputable def dl (q : Wd) (a b c : Nat) : Int := if min3 a b c = lowS q then 1 else 0
noncomputable def cnt (q : Wd) (I : Its) : Int := ((getAll I q).length : Int)
theorem sg_cases {c : Nat} (h : isSg c = true) : c = 46 ∨ c = 103 ∨ c = 98 := by
  simp only [isSg, Bool.or_eq_true, beq_iff_eq] at h
  rcases h with (h | h) | h
  · exact .inl h
  · exact .inr (.inl h)
  · exact .inr (.inr h)
theorem low_min3 {n a b c : Nat} (ha : isSg a = true) (hb : isSg b = true) (hc : isSg c = true) : lowS (nmOf n a b c) = min3 a b c := by
  have h : lowS (min3 a b c) = min3 a b c ∧ lowS ((min3 a b c).map upC) = min3 a b c := by
    rcases sg_cases ha with rfl | rfl | rfl <;> rcases sg_cases hb with rfl | rfl | rfl <;> rcases sg_cases hc with rfl | rfl | rfl <;> exact ⟨rfl, rfl⟩
  unfold nmOf
  split
  · exact h.1
  · exact h.2
theorem cnt_app {q : Wd} {its : Its} {n a b c : Nat} {v : Wd} (ha : isSg a = true) (hb : isSg b = true) (hc : isSg c = true) : cnt q (its ++ [(nmOf n a b c, v)]) = cnt q its + dl q a b c := by
  unfold cnt getAll dl
  rw [List.filterMap_append, List.length_append, Int.natCast_add]
  congr 1
  have e := low_min3 (n := n) ha hb hc
  by_cases h : min3 a b c = lowS q
  · rw [if_pos h]; simp [e, h]
  · rw [if_neg h]; simp [e, h]
theorem cnt_up {ch : Nat → Nat → Nat} (hsg : ∀ i j, isSg (ch i j) = true) (q : Wd) (s : Nat) (its : Its) (k : Nat) : cnt q (layUp ch s its k) = cnt q its + dl q (ch (s - 1) k) (ch s k) (ch s (k + 1)) := cnt_app (hsg _ _) (hsg _ _) (hsg _ _)
theorem cnt_dn {ch : Nat → Nat → Nat} (hsg : ∀ i j, isSg (ch i j) = true) (q : Wd) (s : Nat) (its : Its) (k : Nat) : cnt q (layDn ch s its k) = cnt q its + dl q (ch (s - 1) k) (ch s (k + 1)) (ch (s - 1) (k + 1)) := cnt_app (hsg _ _) (hsg _ _) (hsg _ _)
theorem tri_turn {a b c : Nat} (ha : isSg a = true) (hb : isSg b = true) (hc : isSg c = true) : 3 * (dl qOn a b c - dl qBk a b c) = turnW a b + turnW b c + turnW c a := by
  rcases sg_cases ha with rfl | rfl | rfl <;> rcases sg_cases hb with rfl | rfl | rfl <;> rcases sg_cases hc with rfl | rfl | rfl <;> rfl
theorem tri_door {a b c : Nat} (ha : isSg a = true) (hb : isSg b = true) (hc : isSg c = true) : (dl qOn a b c + dl qBk a b c - doorW a b - doorW b c - doorW c a) % 2 = 0 := by
  rcases sg_cases ha with rfl | rfl | rfl <;> rcases sg_cases hb with rfl | rfl | rfl <;> rcases sg_cases hc with rfl | rfl | rfl <;> rfl
theorem turn_back {a b : Nat} (ha : isSg a = true) (hb : isSg b = true) : turnW b a = - turnW a b := by
  rcases sg_cases ha with rfl | rfl | rfl <;> rcases sg_cases hb with rfl | rfl | rfl <;> rfl
theorem door_back {a b : Nat} (ha : isSg a = true) (hb : isSg b = true) : doorW b a = doorW a b := by
  rcases sg_cases ha with rfl | rfl | rfl <;> rcases sg_cases hb with rfl | rfl | rfl <;> rfl
section
variable {ch : Nat → Nat → Nat}
theorem cnt_I1 (hsg : ∀ i j, isSg (ch i j) = true) (q : Wd) : cnt q (I1 ch) = 0 + dl q (ch 0 0) (ch 1 0) (ch 1 1) := by
  show cnt q (layUp ch 1 [] 0) = _
  simp only [cnt_dn hsg, cnt_up hsg, Nat.reduceSub, Nat.reduceAdd, Nat.zero_add]
  rfl
theorem rim_1 : turnsGo (rimW ch 1) 0 = 0 + turnW (ch 0 0) (ch 1 0) + turnW (ch 1 0) (ch 1 1) + turnW (ch 1 1) (ch 0 0) ∧ doorsGo (rimW ch 1) 0 = 0 + doorW (ch 0 0) (ch 1 0) + doorW (ch 1 0) (ch 1 1) + doorW (ch 1 1) (ch 0 0) := ⟨rfl, rfl⟩
theorem cnt_I2 (hsg : ∀ i j, isSg (ch i j) = true) (q : Wd) : cnt q (I2 ch) = cnt q (I1 ch) + dl q (ch 1 0) (ch 2 0) (ch 2 1) + dl q (ch 1 1) (ch 2 1) (ch 2 2) + dl q (ch 1 0) (ch 2 1) (ch 1 1) := by
  show cnt q (layDn ch 2 (layUp ch 2 (layUp ch 2 (I1 ch) 0) 1) 0) = _
  simp only [cnt_dn hsg, cnt_up hsg, Nat.reduceSub, Nat.reduceAdd, Nat.zero_add]
theorem rim_2 : turnsGo (rimW ch 2) 0 = 0 + turnW (ch 0 0) (ch 1 0) + turnW (ch 1 0) (ch 2 0) + turnW (ch 2 0) (ch 2 1) + turnW (ch 2 1) (ch 2 2) + turnW (ch 2 2) (ch 1 1) + turnW (ch 1 1) (ch 0 0) ∧ doorsGo (rimW ch 2) 0 = 0 + doorW (ch 0 0) (ch 1 0) + doorW (ch 1 0) (ch 2 0) + doorW (ch 2 0) (ch 2 1) + doorW (ch 2 1) (ch 2 2) + doorW (ch 2 2) (ch 1 1) + doorW (ch 1 1) (ch 0 0) := ⟨rfl, rfl⟩
theorem cnt_I3 (hsg : ∀ i j, isSg (ch i j) = true) (q : Wd) : cnt q (I3 ch) = cnt q (I2 ch) + dl q (ch 2 0) (ch 3 0) (ch 3 1) + dl q (ch 2 1) (ch 3 1) (ch 3 2) + dl q (ch 2 2) (ch 3 2) (ch 3 3) + dl q (ch 2 0) (ch 3 1) (ch 2 1) + dl q (ch 2 1) (ch 3 2) (ch 2 2) := by
  show cnt q (layDn ch 3 (layDn ch 3 (layUp ch 3 (layUp ch 3 (layUp ch 3 (I2 ch) 0) 1) 2) 0) 1) = _
  simp only [cnt_dn hsg, cnt_up hsg, Nat.reduceSub, Nat.reduceAdd, Nat.zero_add]
theorem rim_3 : turnsGo (rimW ch 3) 0 = 0 + turnW (ch 0 0) (ch 1 0) + turnW (ch 1 0) (ch 2 0) + turnW (ch 2 0) (ch 3 0) + turnW (ch 3 0) (ch 3 1) + turnW (ch 3 1) (ch 3 2) + turnW (ch 3 2) (ch 3 3) + turnW (ch 3 3) (ch 2 2) + turnW (ch 2 2) (ch 1 1) + turnW (ch 1 1) (ch 0 0) ∧ doorsGo (rimW ch 3) 0 = 0 + doorW (ch 0 0) (ch 1 0) + doorW (ch 1 0) (ch 2 0) + doorW (ch 2 0) (ch 3 0) + doorW (ch 3 0) (ch 3 1) + doorW (ch 3 1) (ch 3 2) + doorW (ch 3 2) (ch 3 3) + doorW (ch 3 3) (ch 2 2) + doorW (ch 2 2) (ch 1 1) + doorW (ch 1 1) (ch 0 0) := ⟨rfl, rfl⟩
theorem cnt_I4 (hsg : ∀ i j, isSg (ch i j) = true) (q : Wd) : cnt q (I4 ch) = cnt q (I3 ch) + dl q (ch 3 0) (ch 4 0) (ch 4 1) + dl q (ch 3 1) (ch 4 1) (ch 4 2) + dl q (ch 3 2) (ch 4 2) (ch 4 3) + dl q (ch 3 3) (ch 4 3) (ch 4 4) + dl q (ch 3 0) (ch 4 1) (ch 3 1) + dl q (ch 3 1) (ch 4 2) (ch 3 2) + dl q (ch 3 2) (ch 4 3) (ch 3 3) := by
  show cnt q (layDn ch 4 (layDn ch 4 (layDn ch 4 (layUp ch 4 (layUp ch 4 (layUp ch 4 (layUp ch 4 (I3 ch) 0) 1) 2) 3) 0) 1) 2) = _
  simp only [cnt_dn hsg, cnt_up hsg, Nat.reduceSub, Nat.reduceAdd, Nat.zero_add]
theorem rim_4 : turnsGo (rimW ch 4) 0 = 0 + turnW (ch 0 0) (ch 1 0) + turnW (ch 1 0) (ch 2 0) + turnW (ch 2 0) (ch 3 0) + turnW (ch 3 0) (ch 4 0) + turnW (ch 4 0) (ch 4 1) + turnW (ch 4 1) (ch 4 2) + turnW (ch 4 2) (ch 4 3) + turnW (ch 4 3) (ch 4 4) + turnW (ch 4 4) (ch 3 3) + turnW (ch 3 3) (ch 2 2) + turnW (ch 2 2) (ch 1 1) + turnW (ch 1 1) (ch 0 0) ∧ doorsGo (rimW ch 4) 0 = 0 + doorW (ch 0 0) (ch 1 0) + doorW (ch 1 0) (ch 2 0) + doorW (ch 2 0) (ch 3 0) + doorW (ch 3 0) (ch 4 0) + doorW (ch 4 0) (ch 4 1) + doorW (ch 4 1) (ch 4 2) + doorW (ch 4 2) (ch 4 3) + doorW (ch 4 3) (ch 4 4) + doorW (ch 4 4) (ch 3 3) + doorW (ch 3 3) (ch 2 2) + doorW (ch 2 2) (ch 1 1) + doorW (ch 1 1) (ch 0 0) := ⟨rfl, rfl⟩
theorem rimOk1 (hsg : ∀ i j, isSg (ch i j) = true) : RimOk ch 1 (I1 ch) := by
  have a1 := cnt_I1 hsg qOn
  have b1 := cnt_I1 hsg qBk
  obtain ⟨r1, r2⟩ := rim_1 (ch := ch)
  have t0 := tri_turn (hsg 0 0) (hsg 1 0) (hsg 1 1)
  have d0 := tri_door (hsg 0 0) (hsg 1 0) (hsg 1 1)
  refine ⟨?_, ?_⟩
  · show 3 * (cnt qOn (I1 ch) - cnt qBk (I1 ch)) = _
    rw [r1]
    clear d0 r2
    omega
  · show (cnt qOn (I1 ch) + cnt qBk (I1 ch)).fmod 2 = _
    rw [r2, Int.fmod_eq_emod_of_nonneg _ (by decide), Int.fmod_eq_emod_of_nonneg _ (by decide)]
    clear t0 r1
    omega
theorem rimOk2 (hsg : ∀ i j, isSg (ch i j) = true) : RimOk ch 2 (I2 ch) := by
  have a1 := cnt_I1 hsg qOn
  have b1 := cnt_I1 hsg qBk
  have a2 := cnt_I2 hsg qOn
  have b2 := cnt_I2 hsg qBk
  obtain ⟨r1, r2⟩ := rim_2 (ch := ch)
  have t0 := tri_turn (hsg 0 0) (hsg 1 0) (hsg 1 1)
  have d0 := tri_door (hsg 0 0) (hsg 1 0) (hsg 1 1)
  have t1 := tri_turn (hsg 1 0) (hsg 2 0) (hsg 2 1)
  have d1 := tri_door (hsg 1 0) (hsg 2 0) (hsg 2 1)
  have t2 := tri_turn (hsg 1 1) (hsg 2 1) (hsg 2 2)
  have d2 := tri_door (hsg 1 1) (hsg 2 1) (hsg 2 2)
  have t3 := tri_turn (hsg 1 0) (hsg 2 1) (hsg 1 1)
  have d3 := tri_door (hsg 1 0) (hsg 2 1) (hsg 1 1)
  have e1 := turn_back (hsg 1 0) (hsg 1 1)
  have f1 := door_back (hsg 1 0) (hsg 1 1)
  have e2 := turn_back (hsg 2 1) (hsg 1 0)
  have f2 := door_back (hsg 2 1) (hsg 1 0)
  have e3 := turn_back (hsg 1 1) (hsg 2 1)
  have f3 := door_back (hsg 1 1) (hsg 2 1)
  refine ⟨?_, ?_⟩
  · show 3 * (cnt qOn (I2 ch) - cnt qBk (I2 ch)) = _
    rw [r1]
    clear d0 d1 d2 d3 r2 f1 f2 f3
    omega
  · show (cnt qOn (I2 ch) + cnt qBk (I2 ch)).fmod 2 = _
    rw [r2, Int.fmod_eq_emod_of_nonneg _ (by decide), Int.fmod_eq_emod_of_nonneg _ (by decide)]
    clear t0 t1 t2 t3 r1 e1 e2 e3
    omega
theorem rimOk3 (hsg : ∀ i j, isSg (ch i j) = true) : RimOk ch 3 (I3 ch) := by
  have a1 := cnt_I1 hsg qOn
  have b1 := cnt_I1 hsg qBk
  have a2 := cnt_I2 hsg qOn
  have b2 := cnt_I2 hsg qBk
  have a3 := cnt_I3 hsg qOn
  have b3 := cnt_I3 hsg qBk
  obtain ⟨r1, r2⟩ := rim_3 (ch := ch)
  have t0 := tri_turn (hsg 0 0) (hsg 1 0) (hsg 1 1)
  have d0 := tri_door (hsg 0 0) (hsg 1 0) (hsg 1 1)
  have t1 := tri_turn (hsg 1 0) (hsg 2 0) (hsg 2 1)
  have d1 := tri_door (hsg 1 0) (hsg 2 0) (hsg 2 1)
  have t2 := tri_turn (hsg 1 1) (hsg 2 1) (hsg 2 2)
  have d2 := tri_door (hsg 1 1) (hsg 2 1) (hsg 2 2)
  have t3 := tri_turn (hsg 1 0) (hsg 2 1) (hsg 1 1)
  have d3 := tri_door (hsg 1 0) (hsg 2 1) (hsg 1 1)
  have t4 := tri_turn (hsg 2 0) (hsg 3 0) (hsg 3 1)
  have d4 := tri_door (hsg 2 0) (hsg 3 0) (hsg 3 1)
  have t5 := tri_turn (hsg 2 1) (hsg 3 1) (hsg 3 2)
  have d5 := tri_door (hsg 2 1) (hsg 3 1) (hsg 3 2)
  have t6 := tri_turn (hsg 2 2) (hsg 3 2) (hsg 3 3)
  have d6 := tri_door (hsg 2 2) (hsg 3 2) (hsg 3 3)
  have t7 := tri_turn (hsg 2 0) (hsg 3 1) (hsg 2 1)
  have d7 := tri_door (hsg 2 0) (hsg 3 1) (hsg 2 1)
  have t8 := tri_turn (hsg 2 1) (hsg 3 2) (hsg 2 2)
  have d8 := tri_door (hsg 2 1) (hsg 3 2) (hsg 2 2)
  have e1 := turn_back (hsg 1 0) (hsg 1 1)
  have f1 := door_back (hsg 1 0) (hsg 1 1)
  have e2 := turn_back (hsg 2 0) (hsg 2 1)
  have f2 := door_back (hsg 2 0) (hsg 2 1)
  have e3 := turn_back (hsg 2 1) (hsg 1 0)
  have f3 := door_back (hsg 2 1) (hsg 1 0)
  have e4 := turn_back (hsg 1 1) (hsg 2 1)
  have f4 := door_back (hsg 1 1) (hsg 2 1)
  have e5 := turn_back (hsg 2 1) (hsg 2 2)
  have f5 := door_back (hsg 2 1) (hsg 2 2)
  have e6 := turn_back (hsg 3 1) (hsg 2 0)
  have f6 := door_back (hsg 3 1) (hsg 2 0)
  have e7 := turn_back (hsg 2 1) (hsg 3 1)
  have f7 := door_back (hsg 2 1) (hsg 3 1)
  have e8 := turn_back (hsg 3 2) (hsg 2 1)
  have f8 := door_back (hsg 3 2) (hsg 2 1)
  have e9 := turn_back (hsg 2 2) (hsg 3 2)
  have f9 := door_back (hsg 2 2) (hsg 3 2)
  refine ⟨?_, ?_⟩
  · show 3 * (cnt qOn (I3 ch) - cnt qBk (I3 ch)) = _
    rw [r1]
    clear d0 d1 d2 d3 d4 d5 d6 d7 d8 r2 f1 f2 f3 f4 f5 f6 f7 f8 f9
    omega
  · show (cnt qOn (I3 ch) + cnt qBk (I3 ch)).fmod 2 = _
    rw [r2, Int.fmod_eq_emod_of_nonneg _ (by decide), Int.fmod_eq_emod_of_nonneg _ (by decide)]
    clear t0 t1 t2 t3 t4 t5 t6 t7 t8 r1 e1 e2 e3 e4 e5 e6 e7 e8 e9
    omega
theorem rimOk4 (hsg : ∀ i j, isSg (ch i j) = true) : RimOk ch 4 (I4 ch) := by
  have a1 := cnt_I1 hsg qOn
  have b1 := cnt_I1 hsg qBk
  have a2 := cnt_I2 hsg qOn
  have b2 := cnt_I2 hsg qBk
  have a3 := cnt_I3 hsg qOn
  have b3 := cnt_I3 hsg qBk
  have a4 := cnt_I4 hsg qOn
  have b4 := cnt_I4 hsg qBk
  obtain ⟨r1, r2⟩ := rim_4 (ch := ch)
  have t0 := tri_turn (hsg 0 0) (hsg 1 0) (hsg 1 1)
  have d0 := tri_door (hsg 0 0) (hsg 1 0) (hsg 1 1)
  have t1 := tri_turn (hsg 1 0) (hsg 2 0) (hsg 2 1)
  have d1 := tri_door (hsg 1 0) (hsg 2 0) (hsg 2 1)
  have t2 := tri_turn (hsg 1 1) (hsg 2 1) (hsg 2 2)
  have d2 := tri_door (hsg 1 1) (hsg 2 1) (hsg 2 2)
  have t3 := tri_turn (hsg 1 0) (hsg 2 1) (hsg 1 1)
  have d3 := tri_door (hsg 1 0) (hsg 2 1) (hsg 1 1)
  have t4 := tri_turn (hsg 2 0) (hsg 3 0) (hsg 3 1)
  have d4 := tri_door (hsg 2 0) (hsg 3 0) (hsg 3 1)
  have t5 := tri_turn (hsg 2 1) (hsg 3 1) (hsg 3 2)
  have d5 := tri_door (hsg 2 1) (hsg 3 1) (hsg 3 2)
  have t6 := tri_turn (hsg 2 2) (hsg 3 2) (hsg 3 3)
  have d6 := tri_door (hsg 2 2) (hsg 3 2) (hsg 3 3)
  have t7 := tri_turn (hsg 2 0) (hsg 3 1) (hsg 2 1)
  have d7 := tri_door (hsg 2 0) (hsg 3 1) (hsg 2 1)
  have t8 := tri_turn (hsg 2 1) (hsg 3 2) (hsg 2 2)
  have d8 := tri_door (hsg 2 1) (hsg 3 2) (hsg 2 2)
  have t9 := tri_turn (hsg 3 0) (hsg 4 0) (hsg 4 1)
  have d9 := tri_door (hsg 3 0) (hsg 4 0) (hsg 4 1)
  have t10 := tri_turn (hsg 3 1) (hsg 4 1) (hsg 4 2)
  have d10 := tri_door (hsg 3 1) (hsg 4 1) (hsg 4 2)
  have t11 := tri_turn (hsg 3 2) (hsg 4 2) (hsg 4 3)
  have d11 := tri_door (hsg 3 2) (hsg 4 2) (hsg 4 3)
  have t12 := tri_turn (hsg 3 3) (hsg 4 3) (hsg 4 4)
  have d12 := tri_door (hsg 3 3) (hsg 4 3) (hsg 4 4)
  have t13 := tri_turn (hsg 3 0) (hsg 4 1) (hsg 3 1)
  have d13 := tri_door (hsg 3 0) (hsg 4 1) (hsg 3 1)
  have t14 := tri_turn (hsg 3 1) (hsg 4 2) (hsg 3 2)
  have d14 := tri_door (hsg 3 1) (hsg 4 2) (hsg 3 2)
  have t15 := tri_turn (hsg 3 2) (hsg 4 3) (hsg 3 3)
  have d15 := tri_door (hsg 3 2) (hsg 4 3) (hsg 3 3)
  have e1 := turn_back (hsg 1 0) (hsg 1 1)
  have f1 := door_back (hsg 1 0) (hsg 1 1)
  have e2 := turn_back (hsg 2 0) (hsg 2 1)
  have f2 := door_back (hsg 2 0) (hsg 2 1)
  have e3 := turn_back (hsg 2 1) (hsg 1 0)
  have f3 := door_back (hsg 2 1) (hsg 1 0)
  have e4 := turn_back (hsg 1 1) (hsg 2 1)
  have f4 := door_back (hsg 1 1) (hsg 2 1)
  have e5 := turn_back (hsg 2 1) (hsg 2 2)
  have f5 := door_back (hsg 2 1) (hsg 2 2)
  have e6 := turn_back (hsg 3 0) (hsg 3 1)
  have f6 := door_back (hsg 3 0) (hsg 3 1)
  have e7 := turn_back (hsg 3 1) (hsg 2 0)
  have f7 := door_back (hsg 3 1) (hsg 2 0)
  have e8 := turn_back (hsg 2 1) (hsg 3 1)
  have f8 := door_back (hsg 2 1) (hsg 3 1)
  have e9 := turn_back (hsg 3 1) (hsg 3 2)
  have f9 := door_back (hsg 3 1) (hsg 3 2)
  have e10 := turn_back (hsg 3 2) (hsg 2 1)
  have f10 := door_back (hsg 3 2) (hsg 2 1)
  have e11 := turn_back (hsg 2 2) (hsg 3 2)
  have f11 := door_back (hsg 2 2) (hsg 3 2)
  have e12 := turn_back (hsg 3 2) (hsg 3 3)
  have f12 := door_back (hsg 3 2) (hsg 3 3)
  have e13 := turn_back (hsg 4 1) (hsg 3 0)
  have f13 := door_back (hsg 4 1) (hsg 3 0)
  have e14 := turn_back (hsg 3 1) (hsg 4 1)
  have f14 := door_back (hsg 3 1) (hsg 4 1)
  have e15 := turn_back (hsg 4 2) (hsg 3 1)
  have f15 := door_back (hsg 4 2) (hsg 3 1)
  have e16 := turn_back (hsg 3 2) (hsg 4 2)
  have f16 := door_back (hsg 3 2) (hsg 4 2)
  have e17 := turn_back (hsg 4 3) (hsg 3 2)
  have f17 := door_back (hsg 4 3) (hsg 3 2)
  have e18 := turn_back (hsg 3 3) (hsg 4 3)
  have f18 := door_back (hsg 3 3) (hsg 4 3)
  refine ⟨?_, ?_⟩
  · show 3 * (cnt qOn (I4 ch) - cnt qBk (I4 ch)) = _
    rw [r1]
    clear d0 d1 d2 d3 d4 d5 d6 d7 d8 d9 d10 d11 d12 d13 d14 d15 r2 f1 f2 f3 f4 f5 f6 f7 f8 f9 f10 f11 f12 f13 f14 f15 f16 f17 f18
    omega
  · show (cnt qOn (I4 ch) + cnt qBk (I4 ch)).fmod 2 = _
    rw [r2, Int.fmod_eq_emod_of_nonneg _ (by decide), Int.fmod_eq_emod_of_nonneg _ (by decide)]
    clear t0 t1 t2 t3 t4 t5 t6 t7 t8 t9 t10 t11 t12 t13 t14 t15 r1 e1 e2 e3 e4 e5 e6 e7 e8 e9 e10 e11 e12 e13 e14 e15 e16 e17 e18
    omega
theorem allRims (hsg : ∀ i j, isSg (ch i j) = true) : AllRims ch := ⟨rimOk1 hsg, rimOk2 hsg, rimOk3 hsg, rimOk4 hsg⟩
end
end Mine
end
section
open PySem PySem.W PyProof.Rows
set_option Elab.async false
set_option maxRecDepth 100000
set_option maxHeartbeats 8000000
open_top hd01 for PySem.Challenge.rw_pe0227_01
end
section
set_option Elab.async false
set_option linter.all false
set_option maxRecDepth 100000
namespace Mine
open PySem PyProof.Rows PySem.W PySem.Builtin
noncomputable def q1PConv : Nat → Pos := fun n => ([⟨80, 11, 80, 15⟩, ⟨80, 16, 80, 21⟩, ⟨80, 11, 80, 22⟩, ⟨80, 26, 80, 29⟩, ⟨80, 11, 80, 29⟩, ⟨81, 12, 81, 17⟩, ⟨81, 43, 81, 47⟩, ⟨81, 20, 81, 39⟩, ⟨81, 53, 81, 73⟩, ⟨81, 20, 81, 73⟩, ⟨81, 12, 81, 73⟩, ⟨82, 15, 82, 20⟩, ⟨82, 15, 82, 27⟩, ⟨82, 28, 82, 33⟩, ⟨82, 15, 82, 34⟩, ⟨82, 12, 83, 77⟩, ⟨84, 19, 84, 24⟩, ⟨84, 12, 84, 24⟩, ⟨80, 8, 84, 24⟩] : List Pos).getD n ⟨0, 0, 0, 0⟩
noncomputable def q1PGetAll : Nat → Pos := fun n => ([⟨105, 8, 105, 12⟩, ⟨105, 15, 105, 19⟩, ⟨105, 15, 105, 40⟩, ⟨105, 41, 105, 45⟩, ⟨105, 41, 105, 51⟩, ⟨105, 41, 105, 53⟩, ⟨105, 60, 105, 64⟩, ⟨105, 55, 105, 64⟩, ⟨105, 15, 105, 65⟩, ⟨105, 8, 105, 65⟩, ⟨106, 16, 106, 18⟩, ⟨106, 19, 106, 20⟩, ⟨106, 16, 106, 21⟩, ⟨106, 26, 106, 28⟩, ⟨106, 32, 106, 36⟩, ⟨106, 32, 106, 45⟩, ⟨106, 49, 106, 51⟩, ⟨106, 52, 106, 53⟩, ⟨106, 49, 106, 54⟩, ⟨106, 49, 106, 60⟩, ⟨106, 49, 106, 62⟩, ⟨106, 66, 106, 70⟩, ⟨106, 49, 106, 70⟩, ⟨106, 15, 106, 71⟩, ⟨106, 8, 106, 71⟩] : List Pos).getD n ⟨0, 0, 0, 0⟩
noncomputable def q1PLen : Nat → Pos := fun n => ([⟨88, 15, 88, 18⟩, ⟨88, 19, 88, 23⟩, ⟨88, 19, 88, 32⟩, ⟨88, 15, 88, 33⟩, ⟨88, 8, 88, 33⟩] : List Pos).getD n ⟨0, 0, 0, 0⟩
noncomputable def q1PInit : Nat → Pos := fun n => ([⟨70, 8, 70, 15⟩, ⟨70, 29, 70, 36⟩, ⟨70, 44, 70, 48⟩, ⟨70, 29, 70, 48⟩, ⟨70, 18, 70, 25⟩, ⟨70, 54, 70, 56⟩, ⟨70, 18, 70, 56⟩, ⟨70, 8, 70, 56⟩, ⟨71, 11, 71, 15⟩, ⟨71, 16, 71, 23⟩, ⟨71, 11, 71, 24⟩, ⟨71, 32, 71, 36⟩, ⟨71, 11, 71, 36⟩, ⟨71, 8, 72, 74⟩, ⟨73, 8, 73, 12⟩, ⟨73, 8, 73, 21⟩, ⟨73, 24, 73, 31⟩, ⟨73, 8, 73, 31⟩, ⟨74, 11, 74, 20⟩, ⟨75, 16, 75, 17⟩, ⟨75, 19, 75, 20⟩, ⟨75, 16, 75, 20⟩, ⟨75, 24, 75, 31⟩, ⟨75, 12, 77, 56⟩, ⟨74, 8, 77, 56⟩] : List Pos).getD n ⟨0, 0, 0, 0⟩
noncomputable def q1PAdd : Nat → Pos := fun n => ([⟨137, 8, 137, 13⟩, ⟨137, 16, 137, 18⟩, ⟨137, 8, 137, 18⟩, ⟨138, 11, 138, 17⟩, ⟨138, 25, 138, 29⟩, ⟨138, 11, 138, 29⟩, ⟨139, 12, 139, 18⟩, ⟨139, 21, 139, 25⟩, ⟨139, 21, 139, 46⟩, ⟨139, 47, 139, 53⟩, ⟨139, 60, 139, 65⟩, ⟨139, 55, 139, 65⟩, ⟨139, 21, 139, 66⟩, ⟨139, 12, 139, 66⟩, ⟨0, 0, 0, 0⟩, ⟨0, 0, 0, 0⟩, ⟨140, 12, 140, 17⟩, ⟨140, 25, 140, 31⟩, ⟨140, 12, 140, 24⟩, ⟨140, 12, 140, 32⟩, ⟨140, 12, 140, 32⟩, ⟨138, 8, 140, 32⟩, ⟨141, 12, 141, 13⟩, ⟨141, 15, 141, 16⟩, ⟨141, 12, 141, 16⟩, ⟨141, 20, 141, 27⟩, ⟨141, 20, 141, 33⟩, ⟨141, 20, 141, 35⟩, ⟨141, 8, 147, 66⟩, ⟨148, 8, 148, 12⟩, ⟨148, 8, 148, 21⟩, ⟨148, 8, 148, 28⟩, ⟨148, 30, 148, 34⟩, ⟨148, 30, 148, 55⟩, ⟨148, 56, 148, 61⟩, ⟨148, 68, 148, 72⟩, ⟨148, 63, 148, 72⟩, ⟨148, 30, 148, 73⟩, ⟨0, 0, 0, 0⟩, ⟨0, 0, 0, 0⟩, ⟨148, 75, 148, 79⟩, ⟨148, 85, 148, 90⟩, ⟨148, 75, 148, 84⟩, ⟨148, 75, 148, 91⟩, ⟨148, 29, 148, 92⟩, ⟨148, 8, 148, 93⟩, ⟨148, 8, 148, 93⟩] : List Pos).getD n ⟨0, 0, 0, 0⟩
section
variable {prog : Program} {w : World} {hb : Heap} {mg mb : Str → Option Value}
theorem b1_top (b : Bed (hd01.heap_39 w.params) hb mg mb) : TopOk hb mg mb := b.top ⟨by kernel_rfl, by kernel_rfl, by kernel_rfl, by kernel_rfl, by kernel_rfl, by kernel_rfl⟩
theorem b1_cls (b : Bed (hd01.heap_39 w.params) hb mg mb) : ClsAt hb 213 212 (hb.nsMap 212) := ⟨⟨_, _, _, _, _, _, _, _, _, _, _, _, b.X 213 _ rfl⟩, .of_isNs (isNs_of_in b.X (by kernel_rfl))⟩
theorem b1_ok (b : Bed (hd01.heap_39 w.params) hb mg mb) : ClsOk hb 213 (hb.nsMap 212) := clsOk_of (b1_cls b) (ns_none_of b.X (b1_cls b).ns (by kernel_rfl)) (ns_none_of b.X (b1_cls b).ns (by kernel_rfl)) (ns_none_of b.X (b1_cls b).ns (by kernel_rfl))
theorem b1_conv (b : Bed (hd01.heap_39 w.params) hb mg mb) : ∃ f of fd, Meth hb (hb.nsMap 212) (Str.ofString "_convert_string_type") f of fd ∧ ∀ sv b x, okS x = true → CallOkK prog w hb f 1 mkConv [.con sv, .str x, .bool b] (.str x) :=
  ⟨114, _, _, ⟨ns_some b.X (b1_cls b).ns (by kernel_rfl), b.X 114 _ rfl, rfl, rfl, by decide, no_obj_conv⟩, fun sv c x hx => by
    simp only [okS, Bool.and_eq_true] at hx
    exact conv_ok (P := q1PConv) (by rfl) ⟨b.X 114 _ rfl, rfl, codeRec_of b.X (by kernel_rfl), rfl, rfl, rfl, rfl, rfl, rfl, rfl, rfl, by decide +kernel⟩ (b1_top b) (fun _ _ _ => by kernel_rfl) (b.bnone (by kernel_rfl) (by kernel_rfl) (by decide)) (a1 := 79) (a2 := 84) (b.bsome (by kernel_rfl)) (b.bsome (by kernel_rfl)) ⟨_, 78, _, _, b.X 79 _ rfl, rfl, rfl, rfl, b.X 78 _ rfl, by kernel_rfl⟩ ⟨_, 83, _, _, b.X 84 _ rfl, rfl, rfl, rfl, b.X 83 _ rfl, by kernel_rfl⟩ (by have := Nat.le_of_ble_eq_true hx.2; omega) hx.1⟩
theorem b1_base (b : Bed (hd01.heap_39 w.params) hb mg mb) : Base prog w hb mg mb 213 (hb.nsMap 212) 1 := ⟨b1_top b, b1_ok b, b1_conv b⟩
theorem b1_get_all (b : Bed (hd01.heap_39 w.params) hb mg mb) : ∃ of fd, Meth hb (hb.nsMap 212) (Str.ofString "get_all") 152 of fd ∧ ∀ its nm, okIts its = true → okS nm = true → MethOk prog w hb 213 152 2 (tabL its) [.str nm] (.lst ((getAll its nm).map .str)) (tabL its) :=
  ⟨_, _, ⟨ns_some b.X (b1_cls b).ns (by kernel_rfl), b.X 152 _ rfl, rfl, rfl, by decide, no_obj_get_all⟩, fun its nm hi hn => get_all_ok (P := q1PGetAll) ⟨b.X 152 _ rfl, rfl, codeRec_of b.X (by kernel_rfl), rfl, rfl, rfl, rfl, rfl, rfl, rfl, rfl, by decide +kernel⟩ (b1_base b) (by rfl) (by rfl) (by rfl) (fun _ _ => by kernel_rfl) hi hn⟩
theorem b1_len (b : Bed (hd01.heap_39 w.params) hb mg mb) : ∃ of fd, Meth hb (hb.nsMap 212) (Str.ofString "__len__") 121 of fd ∧ ∀ its, okIts its = true → MethOk prog w hb 213 121 1 (tabL its) [] (.int its.length) (tabL its) :=
  ⟨_, _, ⟨ns_some b.X (b1_cls b).ns (by kernel_rfl), b.X 121 _ rfl, rfl, rfl, by decide, no_obj_len⟩, fun its hi => len_ok (P := q1PLen) ⟨b.X 121 _ rfl, rfl, codeRec_of b.X (by kernel_rfl), rfl, rfl, rfl, rfl, rfl, rfl, rfl, rfl, by decide +kernel⟩ (b1_top b) (b1_ok b) (fun _ => by kernel_rfl) hi⟩
theorem b1_add (b : Bed (hd01.heap_39 w.params) hb mg mb) : ∃ of fd, Meth hb (hb.nsMap 212) (Str.ofString "add_header") 210 of fd ∧ ∀ its nm v, okIts its = true → okS nm = true → okS v = true → MethOk prog w hb 213 210 2 (tabL its) [.str nm, .str v] .none (tabL (its ++ [(nm, v)])) :=
  ⟨_, _, ⟨ns_some b.X (b1_cls b).ns (by kernel_rfl), b.X 210 _ rfl, rfl, rfl, by decide, no_obj_add⟩, fun its nm v hi hn hv => add_ok (P := q1PAdd) ⟨b.X 210 _ rfl, rfl, codeRec_of b.X (by kernel_rfl), rfl, rfl, rfl, rfl, rfl, rfl, rfl, rfl, by decide +kernel⟩ (b1_base b) (by rfl) (by rfl) (by rfl) (by rfl) (by rfl) (by rfl) (fun _ _ _ => by kernel_rfl) hi hn hv⟩
theorem b1_init (b : Bed (hd01.heap_39 w.params) hb mg mb) : ∃ (N : Addr) (mN : Str → Option Value) (fa : Addr) (o : Obj) (fd : FuncData) (P : Nat → Pos) (rs bd : List Stmt) (e : Nat), Fn0 hb fa fdInit (bodyInit P rs bd) o fd ∧ ClsAt hb 213 N mN ∧ mN hdrName = none ∧ mN "__setattr__" = none ∧ mN "__init__" = some (.ref fa) ∧ o.cls = .type "function" ∧
    (mg (Str.ofString "type") = none ∧ mb (Str.ofString "type") = some (.type "type")) ∧ (mg (Str.ofString "list") = none ∧ mb (Str.ofString "list") = some (.type "list")) ∧
    (∀ (a : Value) (s : Shared), (∀ a o, hb.get? a = some o → s.heap.get? a = some o) → BindsTo s fd ⟨[a], []⟩ (fdInit.params.zip [a, .none])) ∧ e + 2 ≤ 3 :=
  ⟨212, _, 107, _, _, q1PInit, _, _, 0, ⟨b.X 107 _ rfl, rfl, codeRec_of b.X (by kernel_rfl), rfl, rfl, rfl, rfl, rfl, rfl, rfl, rfl, by decide +kernel⟩, b1_cls b, ns_none_of b.X (b1_cls b).ns (by kernel_rfl), ns_none_of b.X (b1_cls b).ns (by kernel_rfl), ns_some b.X (b1_cls b).ns (by kernel_rfl), rfl, b.bnone (by kernel_rfl) (by kernel_rfl) (by decide), b.bnone (by kernel_rfl) (by kernel_rfl) (by decide), fun a s hk => BindsTo.of_defaults (T := 100) rfl (hk _ _ (b.X 100 _ rfl)) rfl (by rfl) (by kernel_rfl), by decide⟩
theorem b1_quote (b : Bed (hd01.heap_39 w.params) hb mg mb) {d : Nat} {x : List Nat} (hx : x.length ≤ 40000) : CallOk prog w hb 69 (d + 1) [.str x] (.str (qd x)) :=
  quote_ok ⟨b.X 69 _ rfl, rfl, codeRec_of b.X (by kernel_rfl), rfl, rfl, rfl, rfl, rfl, rfl, rfl, rfl, by decide +kernel⟩ (b1_top b) (fun vals hl => match vals, hl with | [a], _ => by kernel_rfl) (t := 388) (a1 := 57) (a2 := 62) (b.bsome (by kernel_rfl)) (b.bsome (by kernel_rfl)) (b.bsome (by kernel_rfl)) ⟨_, 56, _, _, b.X 57 _ rfl, rfl, rfl, rfl, b.X 56 _ rfl, by kernel_rfl⟩ ⟨_, 61, _, _, b.X 62 _ rfl, rfl, rfl, rfl, b.X 61 _ rfl, by kernel_rfl⟩ hx
theorem b1_rgb_to_hls (b : Bed (hd01.heap_39 w.params) hb mg mb) : ∃ o fd, Fn hb 45 p1_rgb_to_hls o fd :=
  ⟨_, _, ⟨⟨b.X 45 _ rfl, rfl, codeRec_of b.X (by kernel_rfl), rfl, rfl, rfl, rfl, rfl, rfl, rfl, rfl, by decide +kernel⟩, fun vals hl => match vals, hl with | [a, b, c], _ => by kernel_rfl⟩⟩
theorem b1_rgb_to_hsv (b : Bed (hd01.heap_39 w.params) hb mg mb) : ∃ o fd, Fn hb 52 p1_rgb_to_hsv o fd :=
  ⟨_, _, ⟨⟨b.X 52 _ rfl, rfl, codeRec_of b.X (by kernel_rfl), rfl, rfl, rfl, rfl, rfl, rfl, rfl, rfl, by decide +kernel⟩, fun vals hl => match vals, hl with | [a, b, c], _ => by kernel_rfl⟩⟩
theorem b1_law_sign (b : Bed (hd01.heap_39 w.params) hb mg mb) : ∃ o fd, Fn hb 224 p1_law_sign o fd :=
  ⟨_, _, ⟨⟨b.X 224 _ rfl, rfl, codeRec_of b.X (by kernel_rfl), rfl, rfl, rfl, rfl, rfl, rfl, rfl, rfl, by decide +kernel⟩, fun vals hl => match vals, hl with | [a, b], _ => by kernel_rfl⟩⟩
theorem b1_law_lay (b : Bed (hd01.heap_39 w.params) hb mg mb) : ∃ o fd, Fn hb 231 p1_law_lay o fd :=
  ⟨_, _, ⟨⟨b.X 231 _ rfl, rfl, codeRec_of b.X (by kernel_rfl), rfl, rfl, rfl, rfl, rfl, rfl, rfl, rfl, by decide +kernel⟩, fun vals hl => match vals, hl with | [a, b, c], _ => by kernel_rfl⟩⟩
theorem b1_law_rim (b : Bed (hd01.heap_39 w.params) hb mg mb) : ∃ o fd, Fn hb 236 p1_law_rim o fd :=
  ⟨_, _, ⟨⟨b.X 236 _ rfl, rfl, codeRec_of b.X (by kernel_rfl), rfl, rfl, rfl, rfl, rfl, rfl, rfl, rfl, by decide +kernel⟩, fun vals hl => match vals, hl with | [a, b], _ => by kernel_rfl⟩⟩
theorem b1_law (b : Bed (hd01.heap_39 w.params) hb mg mb) : ∃ o fd, Fn hb 241 p1_law o fd :=
  ⟨_, _, ⟨⟨b.X 241 _ rfl, rfl, codeRec_of b.X (by kernel_rfl), rfl, rfl, rfl, rfl, rfl, rfl, rfl, rfl, by decide +kernel⟩, fun vals hl => match vals, hl with | [a], _ => by kernel_rfl⟩⟩
end
end Mine
end
section
set_option Elab.async false
set_option linter.all false
set_option linter.unusedSimpArgs false
set_option maxRecDepth 100000
namespace Mine
open PySem PyProof.Rows PySem.W PySem.Builtin
noncomputable def unRow : AV → Option (List Nat × List Nat)
  | .tup [.str a, .str b] => some (a, b)
  | _ => none
theorem unRow_eq {x : AV} {p : List Nat × List Nat} (h : unRow x = some p) : x = .tup [.str p.1, .str p.2] := by
  unfold unRow at h
  split at h
  · cases h; rfl
  · cases h
noncomputable def unTab : List AV → Option Its
  | [] => some []
  | x :: r => match unRow x, unTab r with
    | some p, some q => some (p :: q)
    | _, _ => none
theorem unTab_tabL : ∀ its : Its, unTab (tabL its) = some its
  | [] => rfl
  | p :: r => by
    have := unTab_tabL r
    show (match unRow (.tup [.str p.1, .str p.2]), unTab (tabL r) with | some p, some q => some (p :: q) | _, _ => none) = _
    rw [this]; rfl
theorem unTab_eq : ∀ {xs : List AV} {its : Its}, unTab xs = some its → xs = tabL its
  | [], its, h => by simp only [unTab, Option.some.injEq] at h; subst h; rfl
  | x :: r, its, h => by
    simp only [unTab] at h
    split at h
    · rename_i p q e1 e2
      cases h
      rw [unRow_eq e1, unTab_eq e2]; rfl
    · cases h
theorem CallOk.up {prog : Program} {w : World} {hb : Heap} {fa : Addr} {d e : Nat} {vs : List AV} {v : AV} (h : CallOk prog w hb fa d vs v) (hd : d ≤ e) : CallOk prog w hb fa e vs v := fun A hA => h A (hA.less hd)
theorem MethOk.up {prog : Program} {w : World} {hb : Heap} {c fa : Addr} {d e : Nat} {xs vs ys : List AV} {v : AV} (h : MethOk prog w hb c fa d xs vs v ys) (hd : d ≤ e) : MethOk prog w hb c fa e xs vs v ys := fun A hA => h A (hA.less hd)
noncomputable def qC (s : List Nat) : Option AV := if Nat.ble s.length 40000 then some (.str (qd s)) else none
noncomputable def qV : List AV → Option AV
  | [.str s] => qC s
  | _ => none
section
variable {prog : Program} {w : World} {hb : Heap} {mg mb : Str → Option Value}
theorem named_of {K : Frag} (b : Bed K hb mg mb) {x : Str} {fa : Addr} (e : nsIn K mainGlobals x = some (some (.ref fa))) {o : Obj} {fd : FuncData} (ho : hb.get? fa = some o) (hd : o.data = .func fd) : Named hb mg x fa := ⟨b.bsome e, o, fd, ho, hd⟩
end
end Mine
end
section
set_option Elab.async false
set_option linter.all false
set_option linter.unusedSimpArgs false
set_option maxRecDepth 100000
namespace Mine
open PySem PyProof.Rows PySem.W PySem.Builtin
noncomputable def addV (its : Its) (a b : Wd) : Option (AV × List AV) := gd (okIts its && (okS a && okS b)) (some (.none, tabL (its ++ [(a, b)])))
noncomputable def getV (its : Its) (a : Wd) : Option (AV × List AV) := gd (okIts its && okS a) (some (.lst (strsA (getAll its a)), tabL its))
noncomputable def lenV (its : Its) : Option (AV × List AV) := gd (okIts its) (some (.int (its.length : Int), tabL its))
noncomputable def str2 (vs : List AV) : Option (Wd × Wd) := prs (fun a b => two a.str? b.str? fun x y => some (x, y)) vs
noncomputable def str1 (vs : List AV) : Option Wd := (one? vs).bind AV.str?
noncomputable def addD' (xs vs : List AV) : Option (AV × List AV) := (str2 vs).bind fun p => (unTab xs).bind fun its => addV its p.1 p.2
noncomputable def getD' (xs vs : List AV) : Option (AV × List AV) := (str1 vs).bind fun a => (unTab xs).bind fun its => getV its a
noncomputable def lenD' (xs vs : List AV) : Option (AV × List AV) := gd vs.isEmpty ((unTab xs).bind lenV)
theorem str2_inv {vs : List AV} {p : Wd × Wd} (h : str2 vs = some p) : vs = [.str p.1, .str p.2] := by
  obtain ⟨a, b, rfl, h⟩ := prs_inv h
  obtain ⟨x, y, e1, e2, h⟩ := two_inv h
  cases h
  rw [str_inv e1, str_inv e2]
theorem str1_inv {vs : List AV} {a : Wd} (h : str1 vs = some a) : vs = [.str a] := by
  obtain ⟨v, e, h⟩ := bind_inv h
  rw [one_inv e, str_inv h]
theorem addD_inv {xs vs ys : List AV} {v : AV} (h : addD' xs vs = some (v, ys)) : ∃ its a b, xs = tabL its ∧ vs = [.str a, .str b] ∧ okIts its = true ∧ okS a = true ∧ okS b = true ∧ v = .none ∧ ys = tabL (its ++ [(a, b)]) := by
  obtain ⟨p, e, h⟩ := bind_inv h
  obtain ⟨its, e2, h⟩ := bind_inv h
  obtain ⟨hk, h⟩ := gd_inv h
  simp only [Bool.and_eq_true] at hk
  cases h
  exact ⟨its, p.1, p.2, unTab_eq e2, str2_inv e, hk.1, hk.2.1, hk.2.2, rfl, rfl⟩
theorem getD_inv {xs vs ys : List AV} {v : AV} (h : getD' xs vs = some (v, ys)) : ∃ its a, xs = tabL its ∧ vs = [.str a] ∧ okIts its = true ∧ okS a = true ∧ v = .lst (strsA (getAll its a)) ∧ ys = tabL its := by
  obtain ⟨p, e, h⟩ := bind_inv h
  obtain ⟨its, e2, h⟩ := bind_inv h
  obtain ⟨hk, h⟩ := gd_inv h
  simp only [Bool.and_eq_true] at hk
  cases h
  exact ⟨its, p, unTab_eq e2, str1_inv e, hk.1, hk.2, rfl, rfl⟩
theorem lenD_inv {xs vs ys : List AV} {v : AV} (h : lenD' xs vs = some (v, ys)) : ∃ its, xs = tabL its ∧ vs = [] ∧ okIts its = true ∧ v = .int (its.length : Int) ∧ ys = tabL its := by
  obtain ⟨hv, h⟩ := gd_inv h
  obtain ⟨its, e2, h⟩ := bind_inv h
  obtain ⟨hk, h⟩ := gd_inv h
  cases h
  exact ⟨its, unTab_eq e2, List.isEmpty_iff.mp hv, hk, rfl, rfl⟩
theorem addD'_eq {its : Its} {a b : Wd} (h1 : okIts its = true) (h2 : okS a = true) (h3 : okS b = true) : addD' (tabL its) [.str a, .str b] = some (.none, tabL (its ++ [(a, b)])) := by
  show (unTab (tabL its)).bind (fun its => addV its a b) = _
  rw [unTab_tabL]
  show gd (okIts its && (okS a && okS b)) _ = _
  rw [h1, h2, h3]; rfl
theorem getD'_eq {its : Its} {a : Wd} (h1 : okIts its = true) (h2 : okS a = true) : getD' (tabL its) [.str a] = some (.lst (strsA (getAll its a)), tabL its) := by
  show (unTab (tabL its)).bind (fun its => getV its a) = _
  rw [unTab_tabL]
  show gd (okIts its && okS a) _ = _
  rw [h1, h2]; rfl
theorem lenD'_eq {its : Its} (h1 : okIts its = true) : lenD' (tabL its) [] = some (.int (its.length : Int), tabL its) := by
  show (unTab (tabL its)).bind lenV = _
  rw [unTab_tabL]
  show gd (okIts its) _ = _
  rw [h1]; rfl
end Mine
end
section
set_option Elab.async false
set_option linter.all false
set_option linter.unusedSimpArgs false
set_option maxRecDepth 100000
namespace Mine
open PySem PyProof.Rows PySem.W PySem.Builtin
noncomputable def c1a : Nat → List AV → Option AV := fun f vs => match f with
  | 0 => arun (o_p1_rgb_to_hls nC nD) p1_rgb_to_hls vs
  | 1 => arun (o_p1_rgb_to_hsv nC nD) p1_rgb_to_hsv vs
  | _ => none
noncomputable def d1a : Nat → List AV → List AV → Option (AV × List AV) := fun m xs vs => match m with
  | 0 => addD' xs vs
  | 4 => lenD' xs vs
  | _ => none
noncomputable def d1 : Nat → List AV → List AV → Option (AV × List AV) := fun m xs vs => match m with
  | 1 => getD' xs vs
  | 3 => trun (o_p1_law_lay nC d1a) p1_law_lay 213 xs vs
  | 4 => lenD' xs vs
  | _ => none
noncomputable def c1 : Nat → List AV → Option AV := fun f vs => match f with
  | 2 => qV vs
  | 3 => arun (o_p1_law_sign c1a nD) p1_law_sign vs
  | 4 => arun (o_p1_law_rim nC nD) p1_law_rim vs
  | _ => none
theorem c1a_hls (vs : List AV) (h : vs.length = 3) : c1a 0 vs = hls1 vs := by
  show arun (o_p1_rgb_to_hls nC nD) p1_rgb_to_hls vs = _
  rw [arun_eq h]; rfl
theorem c1a_hsv (vs : List AV) (h : vs.length = 3) : c1a 1 vs = hsv1 vs := by
  show arun (o_p1_rgb_to_hsv nC nD) p1_rgb_to_hsv vs = _
  rw [arun_eq h]; rfl
theorem signC_c1 : SignC c1 := fun p b => sign_run c1a_hls c1a_hsv b
theorem quoteC_c1 : QuoteC c1 := fun x hx => by
  show qC x = _
  unfold qC
  rw [if_pos (by simp; exact hx)]
theorem rimC_c1 : RimC c1 := fun R ch s hR h1 h4 => rim_run hR h1 h4
theorem layD_d1 : LayD d1 := fun its a b c pl hi ha hb hc hp => lay_run (C := nC) (D := d1a) (fun its nm v h1 h2 h3 => addD'_eq h1 h2 h3) (fun its h => lenD'_eq h) hi ha hb hc hp
theorem getD_d1 : GetD d1 := fun its nm h1 h2 => getD'_eq h1 h2
theorem lenD_d1 : LenD d1 := fun its h => lenD'_eq h
section
variable {prog : Program} {w : World} {hb : Heap} {mg mb : Str → Option Value}
theorem behind1a (b : Bed (hd01.heap_39 w.params) hb mg mb) : Behind prog w hb mg mb o1a c1a nD 1 where
  top := b1_top b
  f := fun f x h => by
    simp only [o1a, Bool.or_eq_true, Bool.and_eq_true, beq_iff_eq] at h
    rcases h with ⟨rfl, rfl⟩ | ⟨rfl, rfl⟩
    · obtain ⟨o, fd, F⟩ := b1_rgb_to_hls b
      exact ⟨45, named_of b (by kernel_rfl) F.get F.data, fun vs v e => fn_call F (b1_top b) (fun A hA => q_p1_rgb_to_hls (O := nO) ⟨hA.fine, ⟨_, _, b1_top b⟩, nOrac⟩) e⟩
    · obtain ⟨o, fd, F⟩ := b1_rgb_to_hsv b
      exact ⟨52, named_of b (by kernel_rfl) F.get F.data, fun vs v e => fn_call F (b1_top b) (fun A hA => q_p1_rgb_to_hsv (O := nO) ⟨hA.fine, ⟨_, _, b1_top b⟩, nOrac⟩) e⟩
  t := fun _ _ _ h => by simp [o1a] at h
  u := fun _ _ _ h => by simp [o1a] at h
  n := fun _ _ h => by simp [o1a] at h
  l := fun _ _ h => by simp [o1a] at h
theorem behind1b (b : Bed (hd01.heap_39 w.params) hb mg mb) : Behind prog w hb mg mb o1b nC d1a 2 where
  top := b1_top b
  f := fun _ _ h => by simp [o1b] at h
  t := fun c m x h => by
    simp only [o1b, Bool.and_eq_true, beq_iff_eq] at h
    obtain ⟨rfl, rfl, rfl⟩ := h
    obtain ⟨of, fd, M, h⟩ := b1_add (prog := prog) b
    refine ⟨_, _, of, fd, b1_ok b, M, fun xs vs v ys e => ?_⟩
    obtain ⟨its, x, y, rfl, rfl, k1, k2, k3, rfl, rfl⟩ := addD_inv e
    exact h its _ _ k1 k2 k3
  u := fun _ _ _ h => by simp [o1b] at h
  n := fun _ _ h => by simp [o1b] at h
  l := fun c m h => by
    simp only [o1b, Bool.and_eq_true, beq_iff_eq] at h
    obtain ⟨rfl, rfl⟩ := h
    obtain ⟨of, fd, M, h⟩ := b1_len (prog := prog) b
    refine ⟨_, _, of, fd, 1, by decide, b1_ok b, M, fun xs v ys e => ?_⟩
    obtain ⟨its, rfl, _, k1, rfl, rfl⟩ := lenD_inv e
    have hl : its.length ≤ 1000 := by simp only [okIts, Bool.and_eq_true] at k1; exact Nat.le_of_ble_eq_true k1.2
    exact ⟨_, rfl, ⟨by omega, by omega⟩, h its k1⟩
theorem behind1 (b : Bed (hd01.heap_39 w.params) hb mg mb) : Behind prog w hb mg mb o1 c1 d1 3 where
  top := b1_top b
  f := fun f x h => by
    simp only [o1, Bool.or_eq_true, Bool.and_eq_true, beq_iff_eq] at h
    rcases h with (⟨rfl, rfl⟩ | ⟨rfl, rfl⟩) | ⟨rfl, rfl⟩
    · refine ⟨69, named_of b (by kernel_rfl) (b.X 69 _ rfl) rfl, fun vs v e => ?_⟩
      have e' : qV vs = some v := e
      unfold qV at e'
      split at e'
      · rename_i s
        unfold qC at e'
        split at e'
        · rename_i hs
          cases e'
          exact (b1_quote b (d := 0) (Nat.le_of_ble_eq_true hs)).up (by decide)
        · cases e'
      · cases e'
    · obtain ⟨o, fd, F⟩ := b1_law_sign b
      exact ⟨224, named_of b (by kernel_rfl) F.get F.data, fun vs v e => (fn_call F (b1_top b) (d := 1) (fun A hA => q_p1_law_sign ⟨hA.fine, ⟨_, _, b1_top b⟩, (behind1a b).orac hA⟩) e).up (by decide)⟩
    · obtain ⟨o, fd, F⟩ := b1_law_rim b
      exact ⟨236, named_of b (by kernel_rfl) F.get F.data, fun vs v e => (fn_call F (b1_top b) (d := 0) (fun A hA => q_p1_law_rim (O := nO) ⟨hA.fine, ⟨_, _, b1_top b⟩, nOrac⟩) e).up (by decide)⟩
  t := fun c m x h => by
    simp only [o1, Bool.and_eq_true, beq_iff_eq] at h
    obtain ⟨rfl, rfl, rfl⟩ := h
    obtain ⟨of, fd, M, h⟩ := b1_get_all (prog := prog) b
    refine ⟨_, _, of, fd, b1_ok b, M, fun xs vs v ys e => ?_⟩
    obtain ⟨its, x, rfl, rfl, k1, k2, rfl, rfl⟩ := getD_inv e
    exact (h its _ k1 k2).up (by decide)
  u := fun c m x h => by
    simp only [o1, Bool.and_eq_true, beq_iff_eq] at h
    obtain ⟨rfl, rfl, rfl⟩ := h
    obtain ⟨o, fd, F⟩ := b1_law_lay b
    exact ⟨231, named_of b (by kernel_rfl) F.get F.data, fun xs vs v ys e => tfn_call F (b1_top b) (fun A hA => q_p1_law_lay ⟨hA.fine, ⟨_, _, b1_top b⟩, (behind1b b).orac hA⟩) e⟩
  n := fun c x h => by
    simp only [o1, Bool.and_eq_true, beq_iff_eq] at h
    obtain ⟨rfl, rfl⟩ := h
    exact ⟨b.bsome (by kernel_rfl), b1_init b⟩
  l := fun c m h => by
    simp only [o1, Bool.and_eq_true, beq_iff_eq] at h
    obtain ⟨rfl, rfl⟩ := h
    obtain ⟨of, fd, M, h⟩ := b1_len (prog := prog) b
    refine ⟨_, _, of, fd, 1, by decide, b1_ok b, M, fun xs v ys e => ?_⟩
    obtain ⟨its, rfl, _, k1, rfl, rfl⟩ := lenD_inv e
    have hl : its.length ≤ 1000 := by simp only [okIts, Bool.and_eq_true] at k1; exact Nat.le_of_ble_eq_true k1.2
    exact ⟨_, rfl, ⟨by omega, by omega⟩, h its k1⟩
end
end Mine
end
section
set_option Elab.async false
set_option linter.all false
set_option maxRecDepth 100000
namespace Mine
open PySem PyProof.Rows PySem.W PySem.Builtin
theorem holds1 (hlaw : ∀ {prog : Program} {w : World} {hb : Heap} {mg mb : Str → Option Value}, Bed (hd01.heap_39 w.params) hb mg mb → ∀ ns : List Int, ns.length ≤ 63 → CallOk prog w hb 241 4 [.lst (ns.map .int)] (.bool true)) : PySem.Challenge.rw_pe0227_01.Holds := hd01 (by
  intro w s₀ s₁ mg mb G Y fa o pm cd doc dV kV ho hd hcd hD hmg hg args vals as hpre hlay hrd hwl hlo
  have KX := kIn_of Y
  have b : Bed (hd01.heap_39 w.params) s₁.heap mg mb := ⟨KX, G.T.g, G.T.b, G.T.nolimit, G.T.builtins⟩
  have hfa : fa = 241 := by
    have e := b.bsome (x := Str.ofString "law") (v := .ref 241) (by kernel_rfl)
    have e' : mg (Str.ofString "law") = some (.ref fa) := hmg
    rw [e] at e'; cases e'; rfl
  subst hfa
  clear hd hcd hD hmg
  wrow_args hpre hlay hrd hwl hlo
  rename_i ns _ _ _ _ _ _ _ l _ _ _ _ w1 _ _ _ hlen _
  refine hlaw b ns (by omega) callerA (room_caller.less (by decide)) s₁.heap.get? s₁ _ _ [.ref l] (fun _ _ e => e) (fun _ _ e => e) (VRs.single (vr_script w1)) fun B' val h' tk hm hn hk hf V' => ?_
  simp only [VR] at V'
  subst V'
  refine GoodW.toG ⟨.inl ⟨.bool true, .bool true, [], rfl, fun _ => rfl, .bool true, post_true _ { args := _, after := _ }, fun _ => ⟨List.nodup_nil, by simp⟩⟩, hf, rfl, hg⟩)
end Mine
end
section
set_option Elab.async false
set_option linter.all false
set_option linter.unusedSimpArgs false
set_option maxRecDepth 100000
namespace Mine
open PySem PyProof.Rows PySem.W PySem.Builtin
noncomputable def chOf1 (ds : List Nat) (i j : Nat) : Nat := (((heardL ds)[i]?.getD [])[j]?).getD 46
theorem chOf1_sg (ds : List Nat) (i j : Nat) : isSg (chOf1 ds i j) = true := by
  unfold chOf1
  cases e : (heardL ds)[i]? with
  | none => rfl
  | some w =>
    show isSg ((w[j]?).getD 46) = true
    cases e2 : w[j]? with
    | none => rfl
    | some c =>
      show isSg c = true
      have hw := List.mem_of_getElem? e
      have hc := List.mem_of_getElem? e2
      rcases List.mem_append.mp hw with h | h
      · obtain ⟨p, _, rfl⟩ := List.mem_map.mp h
        obtain ⟨d, _, rfl⟩ := List.mem_map.mp hc
        exact sg_sg d
      · rw [List.mem_singleton.mp h] at hc; cases hc
theorem heardL_get {ds : List Nat} {i : Nat} (hi : i < 5) : (heardL ds)[i]? = some ((pr ds i).map sg) := by
  match i, hi with
  | 0, _ => rfl
  | 1, _ => rfl
  | 2, _ => rfl
  | 3, _ => rfl
  | 4, _ => rfl
theorem rows1 {ds : List Nat} (h : ds.length = 15) : Rows (heardL ds) (chOf1 ds) := ⟨fun i hi => by
  refine ⟨(pr ds i).map sg, heardL_get hi, by rw [List.length_map, pr_len h hi], fun j hj => ?_⟩
  have hl : j < ((pr ds i).map sg).length := by rw [List.length_map, pr_len h hi]; omega
  unfold chOf1
  rw [heardL_get hi]
  show ((pr ds i).map sg)[j]? = some ((((pr ds i).map sg)[j]?).getD 46)
  rw [List.getElem?_eq_getElem hl]; rfl⟩
theorem law1_true {ns : List Int} (hns : ns.length ≤ 63) : arun (o_p1_law c1 d1) p1_law [.lst (ns.map .int)] = some (.bool true) := by
  obtain ⟨ds, h, h6, hd⟩ := drawn_of ns (m := 576) (by decide) (n := 15) (df := df1) rfl (by decide)
  obtain ⟨H', e⟩ := law1_run (C := c1) (D := d1) signC_c1 quoteC_c1 layD_d1 getD_d1 rimC_c1 lenD_d1 hns h (fun d hd' => by have := h6 d hd'; omega) hd (rows1 h) (chOf1_sg ds) (allRims (chOf1_sg ds))
  rw [arun_eq (by rfl), e]
  rfl
theorem law1_call {prog : Program} {w : World} {hb : Heap} {mg mb : Str → Option Value} (b : Bed (hd01.heap_39 w.params) hb mg mb) (ns : List Int) (hns : ns.length ≤ 63) : CallOk prog w hb 241 4 [.lst (ns.map .int)] (.bool true) := by
  obtain ⟨o, fd, F⟩ := b1_law b
  exact fn_call F (b1_top b) (fun A hA => q_p1_law ⟨hA.fine, ⟨_, _, b1_top b⟩, (behind1 b).orac hA⟩) (law1_true hns)
theorem fin1 : PySem.Challenge.rw_pe0227_01.Holds := holds1 fun b ns hns => law1_call b ns hns
end Mine
end
theorem PySem.Challenge.cw_pe0227_01_holds : PySem.Challenge.rw_pe0227_01.Holds :=
  Mine.fin1
