import JvmDerived
import JvmDerived.Pilot.@@N@@Statement
import JvmDerived.Pilot.@@N@@Code
set_option linter.unusedVariables false
set_option linter.unusedSimpArgs false
namespace Jvm.Sh
open Jvm Jvm.ClassFile Sem Op Lib Jvm.Free Jvm.Stand Jvm.LawKit Jvm.RoadKit Bundle
/-! A shadow of what a law makes. A shadow heap H is the list of the cells made since the start: an object (its class, its fields' names, kinds and values) or an array (its component's kind, its values). A shadow reference i stands for the address n0 + i. -/
abbrev SC := (String × List (String × String × Value)) ⊕ (FieldType × List Value)
abbrev SH := List SC
def lf (n0 : Nat) : Value → Value
  | .ref i => .ref (n0 + i)
  | v => v
def lz (n0 : Nat) : Slot → Slot
  | .val v => .val (lf n0 v)
  | x => x
abbrev LL (n0 : Nat) (L : List Slot) : Array Slot := (L.map (lz n0)).toArray
theorem lf_cat (n0 : Nat) (v : Value) : (lf n0 v).category = v.category := by cases v <;> rfl
theorem lf_isRef (n0 : Nat) (v : Value) : (lf n0 v).isRef = v.isRef := by cases v <;> rfl
theorem LL_get {n0 k : Nat} {L : List Slot} {v : Value} (h : L[k]? = some (.val v)) : (LL n0 L)[k]? = some (.val (lf n0 v)) := by simp [h, lz]
/-- an object's or an array's cell, as the shadow says -/
def CellOk (Z : State) (a0 : Array Value) (n0 : Nat) (h : Heap) (a : Addr) : SC → Prop
  | .inl (C, fs) => Exa Z h a C ∧ (∃ k, (Cond.instantiable C k).before a0 Z = true) ∧ (fs.map (·.1)).Nodup ∧
      ∀ f ∈ fs, Laid Z a0 C C f.1 f.2.1 ∧ (∃ ty, parseFieldDescriptor f.2.1 = some ty) ∧ Fld Z h a C f.1 f.2.1 (lf n0 f.2.2)
  | .inr (ty, vs) => ∃ c : Cell, Arr Z h a c ty ∧ c.slots = (vs.map (lf n0)).toArray ∧ vs.length < 2 ^ 31
def Rep (Z : State) (a0 : Array Value) (n0 : Nat) (h : Heap) (H : SH) : Prop :=
  h.size = n0 + H.length ∧ ∀ i c, H[i]? = some c → CellOk Z a0 n0 h (n0 + i) c
theorem CellOk.ext {Z : State} {a0 : Array Value} {n0 : Nat} {h h' : Heap} {a : Addr} {c : SC} (E : Ext h h') (K : CellOk Z a0 n0 h a c) : CellOk Z a0 n0 h' a c := by
  rcases c with ⟨C, fs⟩ | ⟨ty, vs⟩
  · exact ⟨K.1.ext E, K.2.1, K.2.2.1, fun f hf => ⟨(K.2.2.2 f hf).1, (K.2.2.2 f hf).2.1, (K.2.2.2 f hf).2.2.ext E⟩⟩
  · obtain ⟨c, A, r⟩ := K
    exact ⟨c, A.ext E, r⟩
theorem CellOk.other {Z : State} {a0 : Array Value} {n0 : Nat} {h h' : Heap} {a b : Addr} {sl : Nat} {v : Value} {c : SC} (W : Wr h h' a sl v) (K : CellOk Z a0 n0 h b c) (hne : b ≠ a) : CellOk Z a0 n0 h' b c := by
  rcases c with ⟨C, fs⟩ | ⟨ty, vs⟩
  · exact ⟨K.1.wr W, K.2.1, K.2.2.1, fun f hf => ⟨(K.2.2.2 f hf).1, (K.2.2.2 f hf).2.1, (K.2.2.2 f hf).2.2.other W (Or.inl hne)⟩⟩
  · obtain ⟨c, A, r⟩ := K
    exact ⟨c, A.other W hne, r⟩
theorem Rep.set {Z : State} {a0 : Array Value} {n0 i : Nat} {h h' : Heap} {H : SH} {sl : Nat} {v : Value} {c : SC} (K : Rep Z a0 n0 h H) (W : Wr h h' (n0 + i) sl v) (hi : i < H.length) (hc : CellOk Z a0 n0 h' (n0 + i) c) : Rep Z a0 n0 h' (H.set i c) := by
  refine ⟨by rw [W.size, List.length_set]; exact K.1, fun j d hd => ?_⟩
  by_cases e : j = i
  · subst e
    rw [List.getElem?_set_self hi] at hd
    cases hd
    exact hc
  · rw [List.getElem?_set_ne (Ne.symm e)] at hd
    exact (K.2 j d hd).other W (fun q => e (Nat.add_left_cancel q))
theorem Rep.push {Z : State} {a0 : Array Value} {n0 : Nat} {h h' : Heap} {H : SH} {c : SC} (K : Rep Z a0 n0 h H) (E : Ext h h') (hs : h'.size = h.size + 1) (hc : CellOk Z a0 n0 h' h.size c) : Rep Z a0 n0 h' (H ++ [c]) := by
  refine ⟨by rw [hs, K.1, List.length_append]; simp; omega, fun j d hd => ?_⟩
  rcases Nat.lt_trichotomy j H.length with q | q | q
  · rw [List.getElem?_append_left q] at hd
    exact (K.2 j d hd).ext E
  · subst q
    simp at hd
    subst hd
    rw [← K.1]; exact hc
  · rw [List.getElem?_eq_none (by simp; omega)] at hd
    cases hd
abbrev Bdy := MethodName × ByteArray × Nat × Option FieldType
/-- From this place (pc, locals, stack, shadow heap; k cells and n slots made by this call so far) the method comes to its end and returns v over H' such that Q v H'. -/
def WP (l : Launch) (Z : State) (a0 : Array Value) (n0 : Nat) (B : Bdy) (R : Room) (k n pc : Nat) (L : List Slot) (S : List Value) (H : SH) (Q : Option Value → SH → Prop) : Prop :=
  ∀ (p : Program) (e : Env) (s : State) (m : MethodId) (args : Array Value) (below : List Frame) (meth : Method) (c : Code) (T : State) (locs : List Loc),
    Stand p l e R s m args below meth c T locs k n → p.tables.exec = Jvm.exec → c.code = B.2.1 → c.maxLocals = B.2.2.1 → meth.sig.returnType = B.2.2.2 → meth.locks = false → Z.Warmed39 s.vm →
    s.vm.findClass B.1.cls = some m.cls → meth.name = B.1.name → Fr n0 locs → Rep Z a0 n0 T.heap H →
    ∃ t o, Steps p.tables e below (T.setTop (mkF m pc (LL n0 L) (S.map (lf n0)))) t ∧ t.status = .running ∧ Ended t below o ∧
      ∃ v L', o = .returned (v.map (lf n0)) ∧ (∃ H', Q v H' ∧ Rep Z a0 n0 t.heap H') ∧ Fr n0 L' ∧ FrameEnd s o t L' R.cells R.slots
/-- The method, called with these (shadow) values over this shadow heap, returns v over H' such that Q v H'. -/
def Meth (l : Launch) (Z : State) (a0 : Array Value) (n0 : Nat) (B : Bdy) (R : Room) (as : List Value) (H : SH) (Q : Option Value → SH → Prop) : Prop :=
  ∀ (h0 : Heap) (ws : List Jvm.Cond), Rep Z a0 n0 h0 H →
    MetFree l B.1 (head1 (Jvm.Cond.code B.1 B.2.1 B.2.2.1 B.2.2.2 :: ws) R) (fun a U => a = (as.map (lf n0)).toArray ∧ Z.Warmed39 U.vm ∧ U.heap = h0) (fun _ _ _ _ _ => True)
      (fun _ U o U' => ∃ v L, o = .returned v ∧ (∃ v' H', v = v'.map (lf n0) ∧ Q v' H' ∧ Rep Z a0 n0 U'.heap H' ∧ Fr n0 L) ∧ FrameEnd U o U' L R.cells R.slots)
def entryL (as : List Value) (ml : Nat) : List Slot :=
  as.foldr (fun v r => if v.category = 2 then .val v :: .second :: r else .val v :: r) [] ++ List.replicate (ml - (as.foldr (fun v r => v.category + r) 0)) .unset
section
variable {l : Launch} {Z : State} {a0 : Array Value} {n0 : Nat} {B : Bdy} {R : Room} {k n pc : Nat} {L : List Slot} {S : List Value} {H : SH} {Q : Option Value → SH → Prop}
theorem cat_pos (v : Value) : v.category = 1 ∨ v.category = 2 := by cases v <;> simp [Value.category]
theorem entry_acc (n0 : Nat) (as : List Value) (acc : Array Slot) : (as.map (lf n0)).foldl (fun acc v => if v.category = 2 then (acc.push (Slot.val v)).push Slot.second else acc.push (.val v)) acc =
    acc ++ ((as.foldr (fun v r => if v.category = 2 then Slot.val v :: Slot.second :: r else .val v :: r) []).map (lz n0)).toArray := by
  induction as generalizing acc with
  | nil => simp
  | cons v as ih =>
    simp only [List.map_cons, List.foldl_cons, List.foldr_cons, lf_cat]
    rw [ih]
    by_cases q : v.category = 2
    · simp [q, lz]
    · simp [q, lz]
theorem entry_len (as : List Value) : (as.foldr (fun v r => if v.category = 2 then Slot.val v :: Slot.second :: r else .val v :: r) []).length = as.foldr (fun v r => v.category + r) 0 := by
  induction as with
  | nil => rfl
  | cons v as ih =>
    rcases cat_pos v with q | q <;> simp [q] at ih ⊢ <;> omega
theorem entry_eq (n0 : Nat) (m : MethodId) (as : List Value) (ml : Nat) : entryFrame m (as.map (lf n0)).toArray ml = mkF m 0 (LL n0 (entryL as ml)) [] := by
  have e : argsToLocals (as.map (lf n0)).toArray ml = LL n0 (entryL as ml) := by
    simp only [argsToLocals, LL, entryL, List.foldl_toArray']
    rw [entry_acc]
    apply Array.toList_inj.mp
    simp [entry_len, lz]
  simp [entryFrame, e, mkF]
theorem Meth.of {as : List Value} (hp : plainFor B.1 = true) (hL : entryL as B.2.2.1 = L) (hW : WP l Z a0 n0 B R 0 0 0 L [] H Q) : Meth l Z a0 n0 B R as H Q := by
  intro h0 ws hR
  refine MetFree.of_bodySF hp hisR ?_
  intro p e s m args below meth c s₁ Bd hml0 hP hK
  obtain ⟨rfl, hZ, hh⟩ := hP
  have e0 : s₁.heap = h0 := by rw [← hh, Bd.state]; rfl
  subst hL
  obtain ⟨t, o, h1, h2, h3, v, L', h4, ⟨H', h5, h6⟩, h7, h8⟩ := hW p e s m _ below meth c s₁ [] (Stand.of_body Bd) Bd.exec Bd.bytes hml0 Bd.returns Bd.notSynchronized hZ (findClass_of_methodNamed Bd.named) (name_of_methodNamed Bd.named Bd.method).1 (Fr.nil n0) (by rw [e0]; exact hR)
  exact ⟨t, o, castTop (entry_eq n0 m as _) h1, h2, h3, _, L', h4, ⟨v, H', rfl, h5, h6, h7⟩, h8⟩
theorem WP.mono {Q' : Option Value → SH → Prop} (hW : WP l Z a0 n0 B R k n pc L S H Q) (hq : ∀ v H', Q v H' → Q' v H') : WP l Z a0 n0 B R k n pc L S H Q' := by
  intro p e s m args below meth c T locs X hx hc hml hret hlk hZ hown hnm hF hR
  obtain ⟨t, o, h1, h2, h3, v, L', h4, ⟨H', h5, h6⟩, h7⟩ := hW p e s m args below meth c T locs X hx hc hml hret hlk hZ hown hnm hF hR
  exact ⟨t, o, h1, h2, h3, v, L', h4, ⟨H', hq _ _ h5, h6⟩, h7⟩
theorem Meth.mono {as : List Value} {Q' : Option Value → SH → Prop} (hM : Meth l Z a0 n0 B R as H Q) (hq : ∀ v H', Q v H' → Q' v H') : Meth l Z a0 n0 B R as H Q' := by
  intro h0 ws hR p e ha hc hk s m args below hf happ hP hK
  obtain ⟨n, o, h1, h2, h3, v, L, h4, ⟨v', H', h5, h6, h7⟩, h8⟩ := hM h0 ws hR p e ha hc hk s m args below hf happ hP hK
  exact ⟨n, o, h1, h2, h3, v, L, h4, ⟨v', H', h5, hq _ _ h6, h7⟩, h8⟩
/-- a step that moves nothing but the frame -/
theorem pure {pc' : Nat} {L' : List Slot} {S' : List Value} (hr : WP l Z a0 n0 B R k n pc' L' S' H Q)
    (f : ∀ {p : Program} {e : Env} {below : List Frame} {T target : State} {m : MethodId} {c : Code}, At T m c below → p.tables.exec = Jvm.exec → c.code = B.2.1 →
      Steps p.tables e below (T.setTop (mkF m pc' (LL n0 L') (S'.map (lf n0)))) target → Steps p.tables e below (T.setTop (mkF m pc (LL n0 L) (S.map (lf n0)))) target) : WP l Z a0 n0 B R k n pc L S H Q := by
  intro p e s m args below meth c T locs X hx hc hml hret hlk hZ hown hnm hF hR
  obtain ⟨t, o, h1, h2⟩ := hr p e s m args below meth c T locs X hx hc hml hret hlk hZ hown hnm hF hR
  exact ⟨t, o, f X.here hx hc h1, h2⟩
/-! ### loads, constants -/
theorem aload_n {j : Fin 4} {v : Value} (d : decode B.2.1 pc = .ok (.aload_n j, 1)) (hl : L[j.val]? = some (.val v)) (hv : v.isRef = true) (hr : WP l Z a0 n0 B R k n (pc + 1) L (v :: S) H Q) : WP l Z a0 n0 B R k n pc L S H Q :=
  pure hr fun h hx hc st => XS.aloadN h hx rfl (hb hc d) (LL_get hl) (by rw [lf_isRef]; exact hv) st
theorem aload {j : Nat} {v : Value} (d : decode B.2.1 pc = .ok (.aload j, 2)) (hl : L[j]? = some (.val v)) (hv : v.isRef = true) (hr : WP l Z a0 n0 B R k n (pc + 2) L (v :: S) H Q) : WP l Z a0 n0 B R k n pc L S H Q :=
  pure hr fun h hx hc st => XS.aload h hx rfl (hb hc d) (LL_get hl) (by rw [lf_isRef]; exact hv) st
theorem iload_n {j : Fin 4} {x : Int32} (d : decode B.2.1 pc = .ok (.iload_n j, 1)) (hl : L[j.val]? = some (.val (.int x))) (hr : WP l Z a0 n0 B R k n (pc + 1) L (.int x :: S) H Q) : WP l Z a0 n0 B R k n pc L S H Q :=
  pure hr fun h hx hc st => XS.iloadN h hx rfl (hb hc d) (LL_get (n0 := n0) hl) st
theorem iload {j : Nat} {x : Int32} (d : decode B.2.1 pc = .ok (.iload j, 2)) (hl : L[j]? = some (.val (.int x))) (hr : WP l Z a0 n0 B R k n (pc + 2) L (.int x :: S) H Q) : WP l Z a0 n0 B R k n pc L S H Q :=
  pure hr fun h hx hc st => XS.iload h hx rfl (hb hc d) (LL_get (n0 := n0) hl) st
theorem lload_n {j : Fin 4} {x : Int64} (d : decode B.2.1 pc = .ok (.lload_n j, 1)) (hl : L[j.val]? = some (.val (.long x))) (hr : WP l Z a0 n0 B R k n (pc + 1) L (.long x :: S) H Q) : WP l Z a0 n0 B R k n pc L S H Q :=
  pure hr fun h hx hc st => XT.lloadN h hx rfl (hb hc d) (LL_get (n0 := n0) hl) st
theorem lload {j : Nat} {x : Int64} (d : decode B.2.1 pc = .ok (.lload j, 2)) (hl : L[j]? = some (.val (.long x))) (hr : WP l Z a0 n0 B R k n (pc + 2) L (.long x :: S) H Q) : WP l Z a0 n0 B R k n pc L S H Q :=
  pure hr fun h hx hc st => XT.lload h hx rfl (hb hc d) (LL_get (n0 := n0) hl) st
theorem iconst {i : Int} {x : Int32} (d : decode B.2.1 pc = .ok (.iconst i, 1)) (hx' : Int32.ofInt i = x) (hr : WP l Z a0 n0 B R k n (pc + 1) L (.int x :: S) H Q) : WP l Z a0 n0 B R k n pc L S H Q :=
  pure (hx' ▸ hr) fun h hx hc st => XS.iconst h hx rfl (hb hc d) st
theorem bipush {i : Int} {x : Int32} (d : decode B.2.1 pc = .ok (.bipush i, 2)) (hx' : (Int8.ofInt i).toInt32 = x) (hr : WP l Z a0 n0 B R k n (pc + 2) L (.int x :: S) H Q) : WP l Z a0 n0 B R k n pc L S H Q :=
  pure (hx' ▸ hr) fun h hx hc st => XS.bipush h hx rfl (hb hc d) st
theorem sipush {i : Int} {x : Int32} (d : decode B.2.1 pc = .ok (.sipush i, 3)) (hx' : (Int16.ofInt i).toInt32 = x) (hr : WP l Z a0 n0 B R k n (pc + 3) L (.int x :: S) H Q) : WP l Z a0 n0 B R k n pc L S H Q :=
  pure (hx' ▸ hr) fun h hx hc st => XS.sipush h hx rfl (hb hc d) st
theorem lconst {i : Fin 2} {x : Int64} (d : decode B.2.1 pc = .ok (.lconst i, 1)) (hx' : Int64.ofNat i = x) (hr : WP l Z a0 n0 B R k n (pc + 1) L (.long x :: S) H Q) : WP l Z a0 n0 B R k n pc L S H Q :=
  pure (hx' ▸ hr) fun h hx hc st => XT.lconst h hx rfl (hb hc d) st
theorem aconst_null (d : decode B.2.1 pc = .ok (.aconst_null, 1)) (hr : WP l Z a0 n0 B R k n (pc + 1) L (.null :: S) H Q) : WP l Z a0 n0 B R k n pc L S H Q :=
  pure hr fun h hx hc st => XS.aconstNull h hx rfl (hb hc d) st
theorem ldcI {W : List Jvm.Cond} (hw : ∀ d ∈ W, d.before a0 Z = true) {i idx : Nat} {x : Int32} (w : W[i]? = some (.constant B.1.cls idx x)) (d : decode B.2.1 pc = .ok (.ldc idx, 2)) (hr : WP l Z a0 n0 B R k n (pc + 2) L (.int x :: S) H Q) : WP l Z a0 n0 B R k n pc L S H Q := by
  intro p e s m args below meth c T locs X hx hc hml hret hlk hZ hown hnm hF hR
  obtain ⟨t, o, h1, h2⟩ := hr p e s m args below meth c T locs X hx hc hml hret hlk hZ hown hnm hF hR
  have v1 := hw _ (List.mem_of_getElem? w)
  exact ⟨t, o, X.ldcInt hx hown (mv hZ v1) (g := mkF m pc (LL n0 L) (S.map (lf n0))) rfl (hb hc d) _ h1, h2⟩
theorem ldc2L {W : List Jvm.Cond} (hw : ∀ d ∈ W, d.before a0 Z = true) {i idx : Nat} {x : Int64} (w : W[i]? = some (.constantLong B.1.cls idx x)) (d : decode B.2.1 pc = .ok (.ldc2_w idx, 3)) (hr : WP l Z a0 n0 B R k n (pc + 3) L (.long x :: S) H Q) : WP l Z a0 n0 B R k n pc L S H Q := by
  intro p e s m args below meth c T locs X hx hc hml hret hlk hZ hown hnm hF hR
  obtain ⟨t, o, h1, h2⟩ := hr p e s m args below meth c T locs X hx hc hml hret hlk hZ hown hnm hF hR
  have v1 := hw _ (List.mem_of_getElem? w)
  exact ⟨t, o, X.ldc2Long hx hown (mv hZ v1) (g := mkF m pc (LL n0 L) (S.map (lf n0))) rfl (hb hc d) _ h1, h2⟩

/-! ### stores -/
def okS : Slot → Bool
  | .unset => true
  | .val w => w.category == 1
  | .second => false
def nS : Slot → Bool
  | .second => false
  | _ => true
def n2 : Slot → Bool
  | .val w => w.category == 1
  | _ => true
def stOK (L : List Slot) (k : Nat) (v : Value) (L' : List Slot) : Prop := ∀ n0, storeLocals (LL n0 L) k (lf n0 v) = some (LL n0 L')
theorem LL_at {n0 j : Nat} {o : Slot} (h : L[j]? = some o) : (LL n0 L)[j]? = some (lz n0 o) := by simp [h]
theorem LL_set {n0 j : Nat} {o : Slot} : (LL n0 L).setIfInBounds j (lz n0 o) = LL n0 (L.set j o) := by
  apply Array.toList_inj.mp; simp [List.map_set]
theorem st1 {L' : List Slot} {j : Nat} {o : Slot} {v : Value} (h : L[j]? = some o) (ho : okS o = true) (hv : v.category = 1) (e : L.set j (.val v) = L') : stOK L j v L' := by
  intro n0
  rw [XS.store1 (LL_at h) (by cases o <;> simp_all [okS, lz, lf_cat]) (by rw [lf_cat]; exact hv), ← e, ← LL_set]
  rfl
theorem LL_size {n0 : Nat} : (LL n0 L).size = L.length := by simp
theorem lt_of_at {α : Type} {l : List α} {j : Nat} {o : α} (h : l[j]? = some o) : j < l.length := (List.getElem?_eq_some_iff.mp h).1
theorem setAt_LL {n0 j : Nat} {o : Slot} (h : j < L.length) : setAt (LL n0 L) j (lz n0 o) = some (LL n0 (L.set j o)) := by
  simp only [setAt, LL_size, h, if_true, LL_set]
theorem self1 {n0 j : Nat} {v : Value} (h : j < L.length) (hv : v.category = 1) : storeSelf (LL n0 L) j (lf n0 v) = some (LL n0 (L.set j (.val v))) := by
  have e := setAt_LL (n0 := n0) (o := .val v) h
  simp only [lz] at e
  simp [storeSelf, e, lf_cat, hv]
theorem self2 {n0 j : Nat} {v : Value} {o : Slot} (h : L[j + 1]? = some o) (ho : n2 o = true) (hv : v.category = 2) : storeSelf (LL n0 L) j (lf n0 v) = some (LL n0 ((L.set j (.val v)).set (j + 1) .second)) := by
  have h1 := lt_of_at h
  have e := setAt_LL (n0 := n0) (o := .val v) (show j < L.length by omega)
  simp only [lz] at e
  have e2 := setAt_LL (n0 := n0) (L := L.set j (.val v)) (o := .second) (j := j + 1) (by simpa using h1)
  simp only [lz] at e2
  have e3 : (LL n0 (L.set j (.val v)))[j + 1]? = some (lz n0 o) := LL_at (by rw [List.getElem?_set_ne (by omega)]; exact h)
  simp only [storeSelf, e, lf_cat, hv, Option.bind_eq_bind, Option.bind_some, if_true, e3]
  cases o with
  | unset => simpa [lz] using e2
  | second => simpa [lz] using e2
  | val w =>
    have hw : w.category = 1 := by simpa [n2] using ho
    simpa [lz, lf_cat, hw] using e2
theorem st1s {L' : List Slot} {j : Nat} {v : Value} (h : L[j + 1]? = some .second) (hv : v.category = 1) (e : (L.set j .unset).set (j + 1) (.val v) = L') : stOK L (j + 1) v L' := by
  intro n0
  subst e
  have h1 := lt_of_at h
  have e1 := LL_at (n0 := n0) h
  have e2 := setAt_LL (n0 := n0) (o := .unset) (show j < L.length by omega)
  simp only [lz] at e1 e2
  have e3 := self1 (n0 := n0) (L := L.set j .unset) (j := j + 1) (by simpa using h1) hv
  simp only [storeLocals, e1, Option.bind_eq_bind, Option.bind_some, Nat.add_sub_cancel, e2, e3]
theorem st1w {L' : List Slot} {j : Nat} {w v : Value} (h : L[j]? = some (.val w)) (hw : w.category = 2) (hl : j + 1 < L.length) (hv : v.category = 1) (e : (L.set (j + 1) .unset).set j (.val v) = L') : stOK L j v L' := by
  intro n0
  subst e
  have h1 := lt_of_at h
  have e1 := LL_at (n0 := n0) h
  have e2 := setAt_LL (n0 := n0) (o := .unset) hl
  simp only [lz] at e1 e2
  have e3 := self1 (n0 := n0) (L := L.set (j + 1) .unset) (j := j) (by simpa using h1) hv
  simp only [storeLocals, e1, lf_cat, hw, if_true, Option.bind_eq_bind, Option.bind_some, e2, e3]
theorem st2 {L' : List Slot} {j : Nat} {o o2 : Slot} {v : Value} (h : L[j]? = some o) (ho : nS o = true) (h2 : L[j + 1]? = some o2) (ho2 : n2 o2 = true) (hv : v.category = 2) (e : (L.set j (.val v)).set (j + 1) .second = L') : stOK L j v L' := by
  intro n0
  subst e
  have e1 := LL_at (n0 := n0) h
  have h3 := lt_of_at h2
  cases o with
  | second => simp [nS] at ho
  | unset =>
    simp only [lz] at e1
    simp only [storeLocals, e1, Option.bind_eq_bind, Option.bind_some, self2 h2 ho2 hv]
  | val w =>
    simp only [lz] at e1
    rcases cat_pos w with q | q
    · simp [storeLocals, e1, lf_cat, q, self2 h2 ho2 hv]
    · have e2 := setAt_LL (n0 := n0) (o := .unset) h3
      simp only [lz] at e2
      have e3 := self2 (n0 := n0) (L := L.set (j + 1) .unset) (j := j) (o := .unset) (v := v) (by rw [List.getElem?_set_self h3]) rfl hv
      have e4 : ((L.set (j + 1) .unset).set j (.val v)).set (j + 1) .second = (L.set j (.val v)).set (j + 1) .second := by
        rw [List.set_comm _ _ (show j + 1 ≠ j by omega), List.set_set]
      rw [e4] at e3
      simp only [storeLocals, e1, lf_cat, q, if_true, Option.bind_eq_bind, Option.bind_some, e2, e3]
theorem istore_n {j : Fin 4} {x : Int32} {L' : List Slot} (d : decode B.2.1 pc = .ok (.istore_n j, 1)) (hs : stOK L j.val (.int x) L') (hr : WP l Z a0 n0 B R k n (pc + 1) L' S H Q) : WP l Z a0 n0 B R k n pc L (.int x :: S) H Q :=
  pure hr fun h hx hc st => XS.istoreN h hx rfl (hb hc d) rfl (hs n0) st
theorem istore {j : Nat} {x : Int32} {L' : List Slot} (d : decode B.2.1 pc = .ok (.istore j, 2)) (hs : stOK L j (.int x) L') (hr : WP l Z a0 n0 B R k n (pc + 2) L' S H Q) : WP l Z a0 n0 B R k n pc L (.int x :: S) H Q :=
  pure hr fun h hx hc st => XS.istore h hx rfl (hb hc d) rfl (hs n0) st
theorem lstore_n {j : Fin 4} {x : Int64} {L' : List Slot} (d : decode B.2.1 pc = .ok (.lstore_n j, 1)) (hs : stOK L j.val (.long x) L') (hr : WP l Z a0 n0 B R k n (pc + 1) L' S H Q) : WP l Z a0 n0 B R k n pc L (.long x :: S) H Q :=
  pure hr fun h hx hc st => XT.lstoreN h hx rfl (hb hc d) rfl (hs n0) st
theorem lstore {j : Nat} {x : Int64} {L' : List Slot} (d : decode B.2.1 pc = .ok (.lstore j, 2)) (hs : stOK L j (.long x) L') (hr : WP l Z a0 n0 B R k n (pc + 2) L' S H Q) : WP l Z a0 n0 B R k n pc L (.long x :: S) H Q :=
  pure hr fun h hx hc st => XT.lstore h hx rfl (hb hc d) rfl (hs n0) st
theorem astore_n {j : Fin 4} {v : Value} {L' : List Slot} (d : decode B.2.1 pc = .ok (.astore_n j, 1)) (hv : v.isRef = true) (hs : stOK L j.val v L') (hr : WP l Z a0 n0 B R k n (pc + 1) L' S H Q) : WP l Z a0 n0 B R k n pc L (v :: S) H Q :=
  pure hr fun h hx hc st => XS.astoreN h hx rfl (hb hc d) rfl (by rw [lf_isRef]; exact hv) (hs n0) st
theorem astore {j : Nat} {v : Value} {L' : List Slot} (d : decode B.2.1 pc = .ok (.astore j, 2)) (hv : v.isRef = true) (hs : stOK L j v L') (hr : WP l Z a0 n0 B R k n (pc + 2) L' S H Q) : WP l Z a0 n0 B R k n pc L (v :: S) H Q :=
  pure hr fun h hx hc st => XS.astore h hx rfl (hb hc d) rfl (by rw [lf_isRef]; exact hv) (hs n0) st
theorem iinc {j : Nat} {cst : Int} {x ci y : Int32} {L' : List Slot} (d : decode B.2.1 pc = .ok (.iinc j cst, 3)) (hl : L[j]? = some (.val (.int x))) (hci : Int32.ofInt cst = ci) (hy : x + ci = y) (hs : stOK L j (.int y) L') (hr : WP l Z a0 n0 B R k n (pc + 3) L' S H Q) : WP l Z a0 n0 B R k n pc L S H Q :=
  pure hr fun h hx hc st => XS.iinc h hx rfl (hb hc d) (LL_get (n0 := n0) hl) (by rw [hci, hy]; exact hs n0) st
/-! ### the stack, arithmetic -/
theorem dup {v : Value} (d : decode B.2.1 pc = .ok (.dup, 1)) (hv : v.category = 1) (hr : WP l Z a0 n0 B R k n (pc + 1) L (v :: v :: S) H Q) : WP l Z a0 n0 B R k n pc L (v :: S) H Q :=
  pure hr fun h hx hc st => XS.dup h hx rfl (hb hc d) rfl (by rw [lf_cat]; exact hv) st
theorem pop {v : Value} (d : decode B.2.1 pc = .ok (.pop, 1)) (hv : v.category = 1) (hr : WP l Z a0 n0 B R k n (pc + 1) L S H Q) : WP l Z a0 n0 B R k n pc L (v :: S) H Q :=
  pure hr fun h hx hc st => XT.pop h hx rfl (hb hc d) rfl (by rw [lf_cat]; exact hv) st
theorem dup_x1 {v w : Value} (d : decode B.2.1 pc = .ok (.dup_x1, 1)) (hv : v.category = 1) (hv' : w.category = 1) (hr : WP l Z a0 n0 B R k n (pc + 1) L (v :: w :: v :: S) H Q) : WP l Z a0 n0 B R k n pc L (v :: w :: S) H Q :=
  pure hr fun h hx hc st => XT.dupX1 h hx rfl (hb hc d) rfl (by rw [lf_cat]; exact hv) (by rw [lf_cat]; exact hv') st
theorem dup2 {v w : Value} (d : decode B.2.1 pc = .ok (.dup2, 1)) (hv : v.category = 1) (hv' : w.category = 1) (hr : WP l Z a0 n0 B R k n (pc + 1) L (v :: w :: v :: w :: S) H Q) : WP l Z a0 n0 B R k n pc L (v :: w :: S) H Q :=
  pure hr fun h hx hc st => XT.dup2 h hx rfl (hb hc d) rfl (by rw [lf_cat]; exact hv) (by rw [lf_cat]; exact hv') st
theorem dup2L {x : Int64} (d : decode B.2.1 pc = .ok (.dup2, 1)) (hr : WP l Z a0 n0 B R k n (pc + 1) L (.long x :: .long x :: S) H Q) : WP l Z a0 n0 B R k n pc L (.long x :: S) H Q :=
  pure hr fun h hx hc st => XT.dup2L h hx rfl (hb hc d) rfl st
theorem iadd {x : Int32} {y : Int32} (d : decode B.2.1 pc = .ok (.iadd, 1)) (hr : WP l Z a0 n0 B R k n (pc + 1) L (.int (x + y) :: S) H Q) : WP l Z a0 n0 B R k n pc L (.int y :: .int x :: S) H Q :=
  pure hr fun h hx hc st => XS.iadd h hx rfl (hb hc d) rfl st
theorem isub {x : Int32} {y : Int32} (d : decode B.2.1 pc = .ok (.isub, 1)) (hr : WP l Z a0 n0 B R k n (pc + 1) L (.int (x - y) :: S) H Q) : WP l Z a0 n0 B R k n pc L (.int y :: .int x :: S) H Q :=
  pure hr fun h hx hc st => XS.isub h hx rfl (hb hc d) rfl st
theorem iand {x : Int32} {y : Int32} (d : decode B.2.1 pc = .ok (.iand, 1)) (hr : WP l Z a0 n0 B R k n (pc + 1) L (.int (x &&& y) :: S) H Q) : WP l Z a0 n0 B R k n pc L (.int y :: .int x :: S) H Q :=
  pure hr fun h hx hc st => XS.iand h hx rfl (hb hc d) rfl st
theorem imul {x : Int32} {y : Int32} (d : decode B.2.1 pc = .ok (.imul, 1)) (hr : WP l Z a0 n0 B R k n (pc + 1) L (.int (x * y) :: S) H Q) : WP l Z a0 n0 B R k n pc L (.int y :: .int x :: S) H Q :=
  pure hr fun h hx hc st => XS.imul h hx rfl (hb hc d) rfl st
theorem ixor {x : Int32} {y : Int32} (d : decode B.2.1 pc = .ok (.ixor, 1)) (hr : WP l Z a0 n0 B R k n (pc + 1) L (.int (x ^^^ y) :: S) H Q) : WP l Z a0 n0 B R k n pc L (.int y :: .int x :: S) H Q :=
  pure hr fun h hx hc st => XT.ixor h hx rfl (hb hc d) rfl st
theorem ior {x : Int32} {y : Int32} (d : decode B.2.1 pc = .ok (.ior, 1)) (hr : WP l Z a0 n0 B R k n (pc + 1) L (.int (x ||| y) :: S) H Q) : WP l Z a0 n0 B R k n pc L (.int y :: .int x :: S) H Q :=
  pure hr fun h hx hc st => XT.ior h hx rfl (hb hc d) rfl st
theorem ishl {x : Int32} {y : Int32} (d : decode B.2.1 pc = .ok (.ishl, 1)) (hr : WP l Z a0 n0 B R k n (pc + 1) L (.int (x <<< (y &&& 31)) :: S) H Q) : WP l Z a0 n0 B R k n pc L (.int y :: .int x :: S) H Q :=
  pure hr fun h hx hc st => XT.ishl h hx rfl (hb hc d) rfl st
theorem ishr {x : Int32} {y : Int32} (d : decode B.2.1 pc = .ok (.ishr, 1)) (hr : WP l Z a0 n0 B R k n (pc + 1) L (.int (x >>> (y &&& 31)) :: S) H Q) : WP l Z a0 n0 B R k n pc L (.int y :: .int x :: S) H Q :=
  pure hr fun h hx hc st => XT.ishr h hx rfl (hb hc d) rfl st
theorem iushr {x : Int32} {y : Int32} (d : decode B.2.1 pc = .ok (.iushr, 1)) (hr : WP l Z a0 n0 B R k n (pc + 1) L (.int (XT.ushr x y) :: S) H Q) : WP l Z a0 n0 B R k n pc L (.int y :: .int x :: S) H Q :=
  pure hr fun h hx hc st => XT.iushr h hx rfl (hb hc d) rfl st
theorem ladd {x : Int64} {y : Int64} (d : decode B.2.1 pc = .ok (.ladd, 1)) (hr : WP l Z a0 n0 B R k n (pc + 1) L (.long (x + y) :: S) H Q) : WP l Z a0 n0 B R k n pc L (.long y :: .long x :: S) H Q :=
  pure hr fun h hx hc st => XT.ladd h hx rfl (hb hc d) rfl st
theorem lsub {x : Int64} {y : Int64} (d : decode B.2.1 pc = .ok (.lsub, 1)) (hr : WP l Z a0 n0 B R k n (pc + 1) L (.long (x - y) :: S) H Q) : WP l Z a0 n0 B R k n pc L (.long y :: .long x :: S) H Q :=
  pure hr fun h hx hc st => XT.lsub h hx rfl (hb hc d) rfl st
theorem lmul {x : Int64} {y : Int64} (d : decode B.2.1 pc = .ok (.lmul, 1)) (hr : WP l Z a0 n0 B R k n (pc + 1) L (.long (x * y) :: S) H Q) : WP l Z a0 n0 B R k n pc L (.long y :: .long x :: S) H Q :=
  pure hr fun h hx hc st => XT.lmul h hx rfl (hb hc d) rfl st
theorem land {x : Int64} {y : Int64} (d : decode B.2.1 pc = .ok (.land, 1)) (hr : WP l Z a0 n0 B R k n (pc + 1) L (.long (x &&& y) :: S) H Q) : WP l Z a0 n0 B R k n pc L (.long y :: .long x :: S) H Q :=
  pure hr fun h hx hc st => XT.land h hx rfl (hb hc d) rfl st
theorem lor {x : Int64} {y : Int64} (d : decode B.2.1 pc = .ok (.lor, 1)) (hr : WP l Z a0 n0 B R k n (pc + 1) L (.long (x ||| y) :: S) H Q) : WP l Z a0 n0 B R k n pc L (.long y :: .long x :: S) H Q :=
  pure hr fun h hx hc st => XT.lor h hx rfl (hb hc d) rfl st
theorem lxor {x : Int64} {y : Int64} (d : decode B.2.1 pc = .ok (.lxor, 1)) (hr : WP l Z a0 n0 B R k n (pc + 1) L (.long (x ^^^ y) :: S) H Q) : WP l Z a0 n0 B R k n pc L (.long y :: .long x :: S) H Q :=
  pure hr fun h hx hc st => XT.lxor h hx rfl (hb hc d) rfl st
theorem lshl {x : Int64} {y : Int32} (d : decode B.2.1 pc = .ok (.lshl, 1)) (hr : WP l Z a0 n0 B R k n (pc + 1) L (.long (x <<< (y.toInt64 &&& 63)) :: S) H Q) : WP l Z a0 n0 B R k n pc L (.int y :: .long x :: S) H Q :=
  pure hr fun h hx hc st => XT.lshl h hx rfl (hb hc d) rfl st
theorem lshr {x : Int64} {y : Int32} (d : decode B.2.1 pc = .ok (.lshr, 1)) (hr : WP l Z a0 n0 B R k n (pc + 1) L (.long (x >>> (y.toInt64 &&& 63)) :: S) H Q) : WP l Z a0 n0 B R k n pc L (.int y :: .long x :: S) H Q :=
  pure hr fun h hx hc st => XT.lshr h hx rfl (hb hc d) rfl st
theorem lushr {x : Int64} {y : Int32} (d : decode B.2.1 pc = .ok (.lushr, 1)) (hr : WP l Z a0 n0 B R k n (pc + 1) L (.long (XT.ushrL x y) :: S) H Q) : WP l Z a0 n0 B R k n pc L (.int y :: .long x :: S) H Q :=
  pure hr fun h hx hc st => XT.lushr h hx rfl (hb hc d) rfl st
theorem ineg {x : Int32} (d : decode B.2.1 pc = .ok (.ineg, 1)) (hr : WP l Z a0 n0 B R k n (pc + 1) L (.int (-x) :: S) H Q) : WP l Z a0 n0 B R k n pc L (.int x :: S) H Q :=
  pure hr fun h hx hc st => XS.ineg h hx rfl (hb hc d) rfl st
theorem lneg {x : Int64} (d : decode B.2.1 pc = .ok (.lneg, 1)) (hr : WP l Z a0 n0 B R k n (pc + 1) L (.long (-x) :: S) H Q) : WP l Z a0 n0 B R k n pc L (.long x :: S) H Q :=
  pure hr fun h hx hc st => XT.lneg h hx rfl (hb hc d) rfl st
theorem i2l {x : Int32} (d : decode B.2.1 pc = .ok (.i2l, 1)) (hr : WP l Z a0 n0 B R k n (pc + 1) L (.long (x.toInt64) :: S) H Q) : WP l Z a0 n0 B R k n pc L (.int x :: S) H Q :=
  pure hr fun h hx hc st => XT.i2l h hx rfl (hb hc d) rfl st
theorem l2i {x : Int64} (d : decode B.2.1 pc = .ok (.l2i, 1)) (hr : WP l Z a0 n0 B R k n (pc + 1) L (.int (x.toInt32) :: S) H Q) : WP l Z a0 n0 B R k n pc L (.long x :: S) H Q :=
  pure hr fun h hx hc st => XT.l2i h hx rfl (hb hc d) rfl st
theorem i2b {x : Int32} (d : decode B.2.1 pc = .ok (.i2b, 1)) (hr : WP l Z a0 n0 B R k n (pc + 1) L (.int (x.toInt8.toInt32) :: S) H Q) : WP l Z a0 n0 B R k n pc L (.int x :: S) H Q :=
  pure hr fun h hx hc st => XT.i2b h hx rfl (hb hc d) rfl st
theorem i2s {x : Int32} (d : decode B.2.1 pc = .ok (.i2s, 1)) (hr : WP l Z a0 n0 B R k n (pc + 1) L (.int (x.toInt16.toInt32) :: S) H Q) : WP l Z a0 n0 B R k n pc L (.int x :: S) H Q :=
  pure hr fun h hx hc st => XT.i2s h hx rfl (hb hc d) rfl st
theorem i2c {x : Int32} (d : decode B.2.1 pc = .ok (.i2c, 1)) (hr : WP l Z a0 n0 B R k n (pc + 1) L (.int (x.toUInt32.toUInt16.toUInt32.toInt32) :: S) H Q) : WP l Z a0 n0 B R k n pc L (.int x :: S) H Q :=
  pure hr fun h hx hc st => XT.i2c h hx rfl (hb hc d) rfl st
theorem iaddE {x y z : Int32} (d : decode B.2.1 pc = .ok (.iadd, 1)) (hz : x + y = z) (hr : WP l Z a0 n0 B R k n (pc + 1) L (.int z :: S) H Q) : WP l Z a0 n0 B R k n pc L (.int y :: .int x :: S) H Q := iadd d (hz ▸ hr)
theorem isubE {x y z : Int32} (d : decode B.2.1 pc = .ok (.isub, 1)) (hz : x - y = z) (hr : WP l Z a0 n0 B R k n (pc + 1) L (.int z :: S) H Q) : WP l Z a0 n0 B R k n pc L (.int y :: .int x :: S) H Q := isub d (hz ▸ hr)
theorem imulE {x y z : Int32} (d : decode B.2.1 pc = .ok (.imul, 1)) (hz : x * y = z) (hr : WP l Z a0 n0 B R k n (pc + 1) L (.int z :: S) H Q) : WP l Z a0 n0 B R k n pc L (.int y :: .int x :: S) H Q := imul d (hz ▸ hr)
theorem idiv {x y : Int32} (d : decode B.2.1 pc = .ok (.idiv, 1)) (hy : y ≠ 0) (hr : WP l Z a0 n0 B R k n (pc + 1) L (.int (x / y) :: S) H Q) : WP l Z a0 n0 B R k n pc L (.int y :: .int x :: S) H Q :=
  pure hr fun h hx hc st => XS.idiv h hx rfl (hb hc d) rfl hy st
theorem irem {x y : Int32} (d : decode B.2.1 pc = .ok (.irem, 1)) (hy : y ≠ 0) (hr : WP l Z a0 n0 B R k n (pc + 1) L (.int (x % y) :: S) H Q) : WP l Z a0 n0 B R k n pc L (.int y :: .int x :: S) H Q :=
  pure hr fun h hx hc st => XS.irem h hx rfl (hb hc d) rfl hy (by rw [irem_eq_mod]; exact st)
theorem iushrE {x y z : Int32} (d : decode B.2.1 pc = .ok (.iushr, 1)) (hz : XT.ushr x y = z) (hr : WP l Z a0 n0 B R k n (pc + 1) L (.int z :: S) H Q) : WP l Z a0 n0 B R k n pc L (.int y :: .int x :: S) H Q := iushr d (hz ▸ hr)
theorem iandE {x y z : Int32} (d : decode B.2.1 pc = .ok (.iand, 1)) (hz : x &&& y = z) (hr : WP l Z a0 n0 B R k n (pc + 1) L (.int z :: S) H Q) : WP l Z a0 n0 B R k n pc L (.int y :: .int x :: S) H Q := iand d (hz ▸ hr)
theorem idivE {x y z : Int32} (d : decode B.2.1 pc = .ok (.idiv, 1)) (hy : y ≠ 0) (hz : x / y = z) (hr : WP l Z a0 n0 B R k n (pc + 1) L (.int z :: S) H Q) : WP l Z a0 n0 B R k n pc L (.int y :: .int x :: S) H Q := idiv d hy (hz ▸ hr)
theorem iremE {x y z : Int32} (d : decode B.2.1 pc = .ok (.irem, 1)) (hy : y ≠ 0) (hz : x % y = z) (hr : WP l Z a0 n0 B R k n (pc + 1) L (.int z :: S) H Q) : WP l Z a0 n0 B R k n pc L (.int y :: .int x :: S) H Q := irem d hy (hz ▸ hr)
/-! ### branches -/
theorem goto {o : Int} {pc' : Nat} (d : decode B.2.1 pc = .ok (.goto o, 3)) (hp : ((pc : Int) + o).toNat = pc') (ho : 0 ≤ (pc : Int) + o) (hr : WP l Z a0 n0 B R k n pc' L S H Q) : WP l Z a0 n0 B R k n pc L S H Q :=
  pure hr fun h hx hc st => XS.goto h hx rfl (pc0 := pc) rfl (hb hc d) ho hp st
def cP : ClassFile.Cond → Int32 → Int32 → Prop
  | .eq, x, y => x = y
  | .ne, x, y => ¬ x = y
  | .lt, x, y => x < y
  | .ge, x, y => ¬ x < y
  | .gt, x, y => y < x
  | .le, x, y => ¬ y < x
def cPL : ClassFile.Cond → Int64 → Int64 → Prop
  | .eq, x, y => x = y
  | .ne, x, y => ¬ x = y
  | .lt, x, y => x < y
  | .ge, x, y => ¬ x < y
  | .gt, x, y => y < x
  | .le, x, y => ¬ y < x
instance (cd : ClassFile.Cond) (x y : Int32) : Decidable (cP cd x y) := by cases cd <;> simp only [cP] <;> infer_instance
instance (cd : ClassFile.Cond) (x y : Int64) : Decidable (cPL cd x y) := by cases cd <;> simp only [cPL] <;> infer_instance
theorem cP_iff (cd : ClassFile.Cond) (x y : Int32) : if_icmp.holds cd x y = true ↔ cP cd x y := by
  cases cd
  · by_cases h : x = y
    · exact ⟨fun _ => h, fun _ => (teq h).1⟩
    · simp [(feq h).1, cP, h]
  · by_cases h : x = y
    · exact ⟨fun q => (by rw [(teq h).2] at q; cases q), fun q => absurd h q⟩
    · simp [(feq h).2, cP, h]
  · by_cases h : x < y
    · simp [(tlt h).1, cP, h]
    · simp [(flt h).1, cP, h]
  · by_cases h : x < y
    · simp [(tlt h).2.1, cP, h]
    · simp [(flt h).2.1, cP, h]
  · by_cases h : y < x
    · simp [(tlt h).2.2.1, cP, h]
    · simp [(flt h).2.2.1, cP, h]
  · by_cases h : y < x
    · simp [(tlt h).2.2.2, cP, h]
    · simp [(flt h).2.2.2, cP, h]
theorem cPL_iff (cd : ClassFile.Cond) (x y : Int64) : ifCond.holds cd (XT.cmpL x y) = true ↔ cPL cd x y := by
  rw [if0, cP_iff]
  by_cases h : y < x
  · have h1 : ¬ x < y := Int64.not_lt.mpr (Int64.le_of_lt h)
    have h2 : ¬ x = y := fun e => by subst e; exact absurd h Int64.lt_irrefl
    cases cd <;> simp [cP, cPL, XT.cmpL, h, h1, h2]
  · by_cases h2 : x = y
    · subst h2
      cases cd <;> simp [cP, cPL, XT.cmpL, Int64.lt_irrefl]
    · have h1 : x < y := Int64.lt_of_le_of_ne (Int64.not_lt.mp h) h2
      cases cd <;> simp [cP, cPL, XT.cmpL, h, h1, h2]
theorem icmpT {cd : ClassFile.Cond} {x y : Int32} {o : Int} {pc' : Nat} (d : decode B.2.1 pc = .ok (.if_icmp cd o, 3)) (hp : ((pc : Int) + o).toNat = pc') (ho : 0 ≤ (pc : Int) + o) (hc : cP cd x y) (hr : WP l Z a0 n0 B R k n pc' L S H Q) : WP l Z a0 n0 B R k n pc L (.int y :: .int x :: S) H Q :=
  pure hr fun h hx hc' st => XS.icmpYes h hx rfl (pc0 := pc) rfl (hb hc' d) rfl ((cP_iff _ _ _).mpr hc) ho hp st
theorem icmpF {cd : ClassFile.Cond} {x y : Int32} {o : Int} (d : decode B.2.1 pc = .ok (.if_icmp cd o, 3)) (hc : ¬ cP cd x y) (hr : WP l Z a0 n0 B R k n (pc + 3) L S H Q) : WP l Z a0 n0 B R k n pc L (.int y :: .int x :: S) H Q :=
  pure hr fun h hx hc' st => XS.icmpNo h hx rfl (hb hc' d) rfl (Bool.eq_false_iff.mpr fun q => hc ((cP_iff _ _ _).mp q)) st
theorem ifT {cd : ClassFile.Cond} {x : Int32} {o : Int} {pc' : Nat} (d : decode B.2.1 pc = .ok (.ifCond cd o, 3)) (hp : ((pc : Int) + o).toNat = pc') (ho : 0 ≤ (pc : Int) + o) (hc : cP cd x 0) (hr : WP l Z a0 n0 B R k n pc' L S H Q) : WP l Z a0 n0 B R k n pc L (.int x :: S) H Q :=
  pure hr fun h hx hc' st => XS.ifYes h hx rfl (pc0 := pc) rfl (hb hc' d) rfl ((if0 _ _).trans ((cP_iff _ _ _).mpr hc)) ho hp st
theorem ifF {cd : ClassFile.Cond} {x : Int32} {o : Int} (d : decode B.2.1 pc = .ok (.ifCond cd o, 3)) (hc : ¬ cP cd x 0) (hr : WP l Z a0 n0 B R k n (pc + 3) L S H Q) : WP l Z a0 n0 B R k n pc L (.int x :: S) H Q :=
  pure hr fun h hx hc' st => XS.ifNo h hx rfl (hb hc' d) rfl ((if0 _ _).trans (Bool.eq_false_iff.mpr fun q => hc ((cP_iff _ _ _).mp q))) st
theorem lcmp {x y : Int64} (d : decode B.2.1 pc = .ok (.lcmp, 1)) (hr : WP l Z a0 n0 B R k n (pc + 1) L (.int (XT.cmpL x y) :: S) H Q) : WP l Z a0 n0 B R k n pc L (.long y :: .long x :: S) H Q :=
  pure hr fun h hx hc st => XT.lcmp h hx rfl (hb hc d) rfl st
theorem lcmpT {cd : ClassFile.Cond} {x y : Int64} {o : Int} {pc' : Nat} (d1 : decode B.2.1 pc = .ok (.lcmp, 1)) (d : decode B.2.1 (pc + 1) = .ok (.ifCond cd o, 3)) (hp : (((pc + 1 : Nat) : Int) + o).toNat = pc') (ho : 0 ≤ ((pc + 1 : Nat) : Int) + o) (hc : cPL cd x y) (hr : WP l Z a0 n0 B R k n pc' L S H Q) : WP l Z a0 n0 B R k n pc L (.long y :: .long x :: S) H Q :=
  lcmp d1 (pure hr fun h hx hc' st => XS.ifYes h hx rfl (pc0 := pc + 1) rfl (hb hc' d) rfl ((cPL_iff _ _ _).mpr hc) ho hp st)
theorem lcmpF {cd : ClassFile.Cond} {x y : Int64} {o : Int} (d1 : decode B.2.1 pc = .ok (.lcmp, 1)) (d : decode B.2.1 (pc + 1) = .ok (.ifCond cd o, 3)) (hc : ¬ cPL cd x y) (hr : WP l Z a0 n0 B R k n (pc + 4) L S H Q) : WP l Z a0 n0 B R k n pc L (.long y :: .long x :: S) H Q :=
  lcmp d1 (pure hr fun h hx hc' st => XS.ifNo h hx rfl (hb hc' d) rfl (Bool.eq_false_iff.mpr fun q => hc ((cPL_iff _ _ _).mp q)) st)
theorem ifnullF {o : Int} {i : Nat} (d : decode B.2.1 pc = .ok (.ifnull o, 3)) (hr : WP l Z a0 n0 B R k n (pc + 3) L S H Q) : WP l Z a0 n0 B R k n pc L (.ref i :: S) H Q :=
  pure hr fun h hx hc st => XS.ifnullNo h hx rfl (hb hc d) rfl st
theorem ifnonnullT {o : Int} {i pc' : Nat} (d : decode B.2.1 pc = .ok (.ifnonnull o, 3)) (hp : ((pc : Int) + o).toNat = pc') (ho : 0 ≤ (pc : Int) + o) (hr : WP l Z a0 n0 B R k n pc' L S H Q) : WP l Z a0 n0 B R k n pc L (.ref i :: S) H Q :=
  pure hr fun h hx hc st => XT.ifnonnullYes h hx rfl (pc0 := pc) rfl (hb hc d) rfl ho hp st
theorem acmpneT {o : Int} {i j pc' : Nat} (d : decode B.2.1 pc = .ok (.if_acmp .ne o, 3)) (hp : ((pc : Int) + o).toNat = pc') (ho : 0 ≤ (pc : Int) + o) (hij : ¬ i = j) (hr : WP l Z a0 n0 B R k n pc' L S H Q) : WP l Z a0 n0 B R k n pc L (.ref j :: .ref i :: S) H Q :=
  pure hr fun h hx hc st => XT.acmpYes h hx rfl (pc0 := pc) rfl (hb hc d) rfl rfl rfl (by simp [XT.acmp, lf, hij]) ho hp st
theorem icmp_eq {x y : Int32} {o : Int} {pc' : Nat} (d : decode B.2.1 pc = .ok (.if_icmp .eq o, 3)) (hp : ((pc : Int) + o).toNat = pc') (ho : 0 ≤ (pc : Int) + o) (h1 : x = y → WP l Z a0 n0 B R k n pc' L S H Q) (h2 : ¬ x = y → WP l Z a0 n0 B R k n (pc + 3) L S H Q) : WP l Z a0 n0 B R k n pc L (.int y :: .int x :: S) H Q :=
  if q : cP .eq x y then icmpT d hp ho q (h1 q) else icmpF d q (h2 q)
theorem if_eq {x : Int32} {o : Int} {pc' : Nat} (d : decode B.2.1 pc = .ok (.ifCond .eq o, 3)) (hp : ((pc : Int) + o).toNat = pc') (ho : 0 ≤ (pc : Int) + o) (h1 : x = 0 → WP l Z a0 n0 B R k n pc' L S H Q) (h2 : ¬ x = 0 → WP l Z a0 n0 B R k n (pc + 3) L S H Q) : WP l Z a0 n0 B R k n pc L (.int x :: S) H Q :=
  if q : cP .eq x 0 then ifT d hp ho q (h1 q) else ifF d q (h2 q)
theorem lcmp_eq {x y : Int64} {o : Int} {pc' : Nat} (d1 : decode B.2.1 pc = .ok (.lcmp, 1)) (d : decode B.2.1 (pc + 1) = .ok (.ifCond .eq o, 3)) (hp : (((pc + 1 : Nat) : Int) + o).toNat = pc') (ho : 0 ≤ ((pc + 1 : Nat) : Int) + o) (h1 : x = y → WP l Z a0 n0 B R k n pc' L S H Q) (h2 : ¬ x = y → WP l Z a0 n0 B R k n (pc + 4) L S H Q) : WP l Z a0 n0 B R k n pc L (.long y :: .long x :: S) H Q :=
  if q : cPL .eq x y then lcmpT d1 d hp ho q (h1 q) else lcmpF d1 d q (h2 q)
theorem icmp_ne {x y : Int32} {o : Int} {pc' : Nat} (d : decode B.2.1 pc = .ok (.if_icmp .ne o, 3)) (hp : ((pc : Int) + o).toNat = pc') (ho : 0 ≤ (pc : Int) + o) (h1 : ¬ x = y → WP l Z a0 n0 B R k n pc' L S H Q) (h2 : x = y → WP l Z a0 n0 B R k n (pc + 3) L S H Q) : WP l Z a0 n0 B R k n pc L (.int y :: .int x :: S) H Q :=
  if q : cP .ne x y then icmpT d hp ho q (h1 q) else icmpF d q (h2 (Decidable.not_not.mp q))
theorem if_ne {x : Int32} {o : Int} {pc' : Nat} (d : decode B.2.1 pc = .ok (.ifCond .ne o, 3)) (hp : ((pc : Int) + o).toNat = pc') (ho : 0 ≤ (pc : Int) + o) (h1 : ¬ x = 0 → WP l Z a0 n0 B R k n pc' L S H Q) (h2 : x = 0 → WP l Z a0 n0 B R k n (pc + 3) L S H Q) : WP l Z a0 n0 B R k n pc L (.int x :: S) H Q :=
  if q : cP .ne x 0 then ifT d hp ho q (h1 q) else ifF d q (h2 (Decidable.not_not.mp q))
theorem lcmp_ne {x y : Int64} {o : Int} {pc' : Nat} (d1 : decode B.2.1 pc = .ok (.lcmp, 1)) (d : decode B.2.1 (pc + 1) = .ok (.ifCond .ne o, 3)) (hp : (((pc + 1 : Nat) : Int) + o).toNat = pc') (ho : 0 ≤ ((pc + 1 : Nat) : Int) + o) (h1 : ¬ x = y → WP l Z a0 n0 B R k n pc' L S H Q) (h2 : x = y → WP l Z a0 n0 B R k n (pc + 4) L S H Q) : WP l Z a0 n0 B R k n pc L (.long y :: .long x :: S) H Q :=
  if q : cPL .ne x y then lcmpT d1 d hp ho q (h1 q) else lcmpF d1 d q (h2 (Decidable.not_not.mp q))
theorem icmp_lt {x y : Int32} {o : Int} {pc' : Nat} (d : decode B.2.1 pc = .ok (.if_icmp .lt o, 3)) (hp : ((pc : Int) + o).toNat = pc') (ho : 0 ≤ (pc : Int) + o) (h1 : x < y → WP l Z a0 n0 B R k n pc' L S H Q) (h2 : ¬ x < y → WP l Z a0 n0 B R k n (pc + 3) L S H Q) : WP l Z a0 n0 B R k n pc L (.int y :: .int x :: S) H Q :=
  if q : cP .lt x y then icmpT d hp ho q (h1 q) else icmpF d q (h2 q)
theorem if_lt {x : Int32} {o : Int} {pc' : Nat} (d : decode B.2.1 pc = .ok (.ifCond .lt o, 3)) (hp : ((pc : Int) + o).toNat = pc') (ho : 0 ≤ (pc : Int) + o) (h1 : x < 0 → WP l Z a0 n0 B R k n pc' L S H Q) (h2 : ¬ x < 0 → WP l Z a0 n0 B R k n (pc + 3) L S H Q) : WP l Z a0 n0 B R k n pc L (.int x :: S) H Q :=
  if q : cP .lt x 0 then ifT d hp ho q (h1 q) else ifF d q (h2 q)
theorem lcmp_lt {x y : Int64} {o : Int} {pc' : Nat} (d1 : decode B.2.1 pc = .ok (.lcmp, 1)) (d : decode B.2.1 (pc + 1) = .ok (.ifCond .lt o, 3)) (hp : (((pc + 1 : Nat) : Int) + o).toNat = pc') (ho : 0 ≤ ((pc + 1 : Nat) : Int) + o) (h1 : x < y → WP l Z a0 n0 B R k n pc' L S H Q) (h2 : ¬ x < y → WP l Z a0 n0 B R k n (pc + 4) L S H Q) : WP l Z a0 n0 B R k n pc L (.long y :: .long x :: S) H Q :=
  if q : cPL .lt x y then lcmpT d1 d hp ho q (h1 q) else lcmpF d1 d q (h2 q)
theorem icmp_ge {x y : Int32} {o : Int} {pc' : Nat} (d : decode B.2.1 pc = .ok (.if_icmp .ge o, 3)) (hp : ((pc : Int) + o).toNat = pc') (ho : 0 ≤ (pc : Int) + o) (h1 : ¬ x < y → WP l Z a0 n0 B R k n pc' L S H Q) (h2 : x < y → WP l Z a0 n0 B R k n (pc + 3) L S H Q) : WP l Z a0 n0 B R k n pc L (.int y :: .int x :: S) H Q :=
  if q : cP .ge x y then icmpT d hp ho q (h1 q) else icmpF d q (h2 (Decidable.not_not.mp q))
theorem if_ge {x : Int32} {o : Int} {pc' : Nat} (d : decode B.2.1 pc = .ok (.ifCond .ge o, 3)) (hp : ((pc : Int) + o).toNat = pc') (ho : 0 ≤ (pc : Int) + o) (h1 : ¬ x < 0 → WP l Z a0 n0 B R k n pc' L S H Q) (h2 : x < 0 → WP l Z a0 n0 B R k n (pc + 3) L S H Q) : WP l Z a0 n0 B R k n pc L (.int x :: S) H Q :=
  if q : cP .ge x 0 then ifT d hp ho q (h1 q) else ifF d q (h2 (Decidable.not_not.mp q))
theorem lcmp_ge {x y : Int64} {o : Int} {pc' : Nat} (d1 : decode B.2.1 pc = .ok (.lcmp, 1)) (d : decode B.2.1 (pc + 1) = .ok (.ifCond .ge o, 3)) (hp : (((pc + 1 : Nat) : Int) + o).toNat = pc') (ho : 0 ≤ ((pc + 1 : Nat) : Int) + o) (h1 : ¬ x < y → WP l Z a0 n0 B R k n pc' L S H Q) (h2 : x < y → WP l Z a0 n0 B R k n (pc + 4) L S H Q) : WP l Z a0 n0 B R k n pc L (.long y :: .long x :: S) H Q :=
  if q : cPL .ge x y then lcmpT d1 d hp ho q (h1 q) else lcmpF d1 d q (h2 (Decidable.not_not.mp q))
theorem icmp_gt {x y : Int32} {o : Int} {pc' : Nat} (d : decode B.2.1 pc = .ok (.if_icmp .gt o, 3)) (hp : ((pc : Int) + o).toNat = pc') (ho : 0 ≤ (pc : Int) + o) (h1 : y < x → WP l Z a0 n0 B R k n pc' L S H Q) (h2 : ¬ y < x → WP l Z a0 n0 B R k n (pc + 3) L S H Q) : WP l Z a0 n0 B R k n pc L (.int y :: .int x :: S) H Q :=
  if q : cP .gt x y then icmpT d hp ho q (h1 q) else icmpF d q (h2 q)
theorem if_gt {x : Int32} {o : Int} {pc' : Nat} (d : decode B.2.1 pc = .ok (.ifCond .gt o, 3)) (hp : ((pc : Int) + o).toNat = pc') (ho : 0 ≤ (pc : Int) + o) (h1 : 0 < x → WP l Z a0 n0 B R k n pc' L S H Q) (h2 : ¬ 0 < x → WP l Z a0 n0 B R k n (pc + 3) L S H Q) : WP l Z a0 n0 B R k n pc L (.int x :: S) H Q :=
  if q : cP .gt x 0 then ifT d hp ho q (h1 q) else ifF d q (h2 q)
theorem lcmp_gt {x y : Int64} {o : Int} {pc' : Nat} (d1 : decode B.2.1 pc = .ok (.lcmp, 1)) (d : decode B.2.1 (pc + 1) = .ok (.ifCond .gt o, 3)) (hp : (((pc + 1 : Nat) : Int) + o).toNat = pc') (ho : 0 ≤ ((pc + 1 : Nat) : Int) + o) (h1 : y < x → WP l Z a0 n0 B R k n pc' L S H Q) (h2 : ¬ y < x → WP l Z a0 n0 B R k n (pc + 4) L S H Q) : WP l Z a0 n0 B R k n pc L (.long y :: .long x :: S) H Q :=
  if q : cPL .gt x y then lcmpT d1 d hp ho q (h1 q) else lcmpF d1 d q (h2 q)
theorem icmp_le {x y : Int32} {o : Int} {pc' : Nat} (d : decode B.2.1 pc = .ok (.if_icmp .le o, 3)) (hp : ((pc : Int) + o).toNat = pc') (ho : 0 ≤ (pc : Int) + o) (h1 : ¬ y < x → WP l Z a0 n0 B R k n pc' L S H Q) (h2 : y < x → WP l Z a0 n0 B R k n (pc + 3) L S H Q) : WP l Z a0 n0 B R k n pc L (.int y :: .int x :: S) H Q :=
  if q : cP .le x y then icmpT d hp ho q (h1 q) else icmpF d q (h2 (Decidable.not_not.mp q))
theorem if_le {x : Int32} {o : Int} {pc' : Nat} (d : decode B.2.1 pc = .ok (.ifCond .le o, 3)) (hp : ((pc : Int) + o).toNat = pc') (ho : 0 ≤ (pc : Int) + o) (h1 : ¬ 0 < x → WP l Z a0 n0 B R k n pc' L S H Q) (h2 : 0 < x → WP l Z a0 n0 B R k n (pc + 3) L S H Q) : WP l Z a0 n0 B R k n pc L (.int x :: S) H Q :=
  if q : cP .le x 0 then ifT d hp ho q (h1 q) else ifF d q (h2 (Decidable.not_not.mp q))
theorem lcmp_le {x y : Int64} {o : Int} {pc' : Nat} (d1 : decode B.2.1 pc = .ok (.lcmp, 1)) (d : decode B.2.1 (pc + 1) = .ok (.ifCond .le o, 3)) (hp : (((pc + 1 : Nat) : Int) + o).toNat = pc') (ho : 0 ≤ ((pc + 1 : Nat) : Int) + o) (h1 : ¬ y < x → WP l Z a0 n0 B R k n pc' L S H Q) (h2 : y < x → WP l Z a0 n0 B R k n (pc + 4) L S H Q) : WP l Z a0 n0 B R k n pc L (.long y :: .long x :: S) H Q :=
  if q : cPL .le x y then lcmpT d1 d hp ho q (h1 q) else lcmpF d1 d q (h2 (Decidable.not_not.mp q))
end
end Jvm.Sh
namespace Jvm.Sh
open Jvm Jvm.ClassFile Sem Op Lib Jvm.Free Jvm.Stand Jvm.LawKit Jvm.RoadKit Bundle
section
variable {l : Launch} {Z : State} {a0 : Array Value} {n0 : Nat} {B : Bdy} {R : Room} {k n pc : Nat} {L : List Slot} {S : List Value} {H : SH} {Q : Option Value → SH → Prop} {W : List Jvm.Cond}
/-! ### the heap -/
theorem lf_default (n0 : Nat) (ty : FieldType) : lf n0 (defaultValue ty) = defaultValue ty := by cases ty <;> rfl
theorem lf_narrow {n0 : Nat} {ty : FieldType} {v : Value} (h : narrow ty v = v) : narrow ty (lf n0 v) = lf n0 v := by
  cases v <;> first | exact h | (cases ty <;> rfl)
theorem lf_fits {n0 : Nat} {ty : FieldType} {v : Value} (h : fits ty v = true) : fits ty (lf n0 v) = true := by
  cases v <;> first | exact h | (cases ty <;> simp [fits, lf] at h ⊢)
theorem ext_push (h : Heap) (c : Cell) : Ext h (h.push c) :=
  ⟨by simp, fun a d e => by rw [Array.getElem?_push_lt (Array.getElem?_eq_some_iff.mp e).1]; exact (Array.getElem?_eq_getElem _).symm.trans e⟩
theorem getfield (hw : ∀ d ∈ W, d.before a0 Z = true) {i idx a j : Nat} {C nm ds : String} {fs : List (String × String × Value)} {v : Value} (w : W[i]? = some (.fieldLink B.1.cls idx C nm ds)) (d : decode B.2.1 pc = .ok (.getfield idx, 3))
    (hH : H[a]? = some (.inl (C, fs))) (hf : fs[j]? = some (nm, ds, v)) (hr : WP l Z a0 n0 B R k n (pc + 3) L (v :: S) H Q) : WP l Z a0 n0 B R k n pc L (.ref a :: S) H Q := by
  intro p e s m args below meth c T locs X hx hc hml hret hlk hZ hown hnm hF hR
  have K := (hR.2 a _ hH).2.2.2 _ (List.mem_of_getElem? hf)
  obtain ⟨T', X', e', st⟩ := getF X hx hZ hown (host := "") (Or.inl (hw _ (List.mem_of_getElem? w))) Via.refl rfl K.2.2 (g := mkF m pc (LL n0 L) ((Value.ref a :: S).map (lf n0))) rfl rfl (hb hc d)
  obtain ⟨t, o, h1, h2⟩ := hr p e s m args below meth c T' locs X' hx hc hml hret hlk hZ hown hnm hF (by rw [e']; exact hR)
  exact ⟨t, o, st _ h1, h2⟩
theorem put_ok {h h' : Heap} {a : Addr} {C nm ds : String} {fs : List (String × String × Value)} {j : Nat} {old v : Value} (K : CellOk Z a0 n0 h a (.inl (C, fs))) (hf : fs[j]? = some (nm, ds, old)) (W' : Wr h h' a (RoadKit.slotOf Z C nm ds) (lf n0 v)) :
    CellOk Z a0 n0 h' a (.inl (C, fs.set j (nm, ds, v))) := by
  obtain ⟨E, I, N, F⟩ := K
  have hj := lt_of_at hf
  have hfm := List.mem_of_getElem? hf
  refine ⟨E.wr W', I, ?_, fun f hfm' => ?_⟩
  · have : (fs.set j (nm, ds, v)).map (·.1) = fs.map (·.1) := by
      rw [List.map_set]
      apply List.ext_getElem? 
      intro i
      by_cases q : i = j
      · subst q
        rw [List.getElem?_set_self (by simpa using hj)]
        simp [hf]
      · rw [List.getElem?_set_ne (Ne.symm q)]
    rw [this]; exact N
  · obtain ⟨i, hi⟩ := List.getElem?_of_mem hfm'
    by_cases q : i = j
    · subst q
      rw [List.getElem?_set_self hj] at hi
      cases hi
      exact ⟨(F _ hfm).1, (F _ hfm).2.1, (F _ hfm).2.2.same W'⟩
    · rw [List.getElem?_set_ne (Ne.symm q)] at hi
      have hm := List.mem_of_getElem? hi
      obtain ⟨t1, ht1⟩ := (F _ hm).2.1
      obtain ⟨t2, ht2⟩ := (F _ hfm).2.1
      refine ⟨(F _ hm).1, (F _ hm).2.1, (F _ hm).2.2.other W' (Or.inr (slot_ne (F _ hm).1 (F _ hfm).1 (fun e => q ?_) ht1 ht2))⟩
      have n1 : (fs.map (·.1))[i]? = some f.1 := by simp [hi]
      have n2 : (fs.map (·.1))[j]? = some nm := by simp [hf]
      have li := lt_of_at n1
      have lj := lt_of_at n2
      refine (List.getElem_inj (h₀ := li) (h₁ := lj) N).mp ?_
      have e1 := (List.getElem?_eq_some_iff.mp n1).2
      have e2 := (List.getElem?_eq_some_iff.mp n2).2
      rw [e1, e2]; exact e
theorem putfield' (hw : ∀ d ∈ W, d.before a0 Z = true) {i i2 idx a j : Nat} {C nm ds : String} {fs fs' : List (String × String × Value)} {old v : Value} {ty : FieldType} {H' : SH} (w : W[i]? = some (.fieldLink B.1.cls idx C nm ds))
    (w2 : W[i2]? = some (.lays C C nm ds) ∨ (W[i2]? = some (.laysFinal C C nm ds) ∧ B.1.cls = C ∧ B.1.name = "<init>")) (d : decode B.2.1 pc = .ok (.putfield idx, 3))
    (hH : H[a]? = some (.inl (C, fs))) (hf : fs[j]? = some (nm, ds, old)) (hty : parseFieldDescriptor ds = some ty) (hn : narrow ty v = v) (hfit : fits ty v = true) (hset1 : fs.set j (nm, ds, v) = fs') (hset : H.set a (.inl (C, fs')) = H')
    (hr : WP l Z a0 n0 B R k n (pc + 3) L S H' Q) : WP l Z a0 n0 B R k n pc L (v :: .ref a :: S) H Q := by
  intro p e s m args below meth c T locs X hx hc hml hret hlk hZ hown hnm hF hR
  have K0 := hR.2 a _ hH
  have K := K0.2.2.2 _ (List.mem_of_getElem? hf)
  obtain ⟨kk, hk⟩ := K0.2.1
  obtain ⟨T', h', X', e', W', st⟩ := putF X hx hZ hown (host := "") (Or.inl (hw _ (List.mem_of_getElem? w))) Via.refl rfl K.2.2 K0.1 (w2.imp (fun q => hw _ (List.mem_of_getElem? q)) (fun q => ⟨hw _ (List.mem_of_getElem? q.1), q.2.1, hnm.trans q.2.2⟩)) hk hty (lf_narrow hn) (lf_fits hfit) (g := mkF m pc (LL n0 L) ((v :: Value.ref a :: S).map (lf n0))) rfl rfl (hb hc d)
  have hR' : Rep Z a0 n0 T'.heap H' := by
    rw [e', ← hset, ← hset1]
    exact hR.set W' (lt_of_at hH) (put_ok K0 hf W')
  obtain ⟨t, o, h1, h2⟩ := hr p e s m args below meth c T' _ X' hx hc hml hret hlk hZ hown hnm (Fr.snoc X' hF (Nat.le_add_right _ _)) hR'
  exact ⟨t, o, st _ h1, h2⟩
theorem putfield (hw : ∀ d ∈ W, d.before a0 Z = true) {i i2 idx a j : Nat} {C nm ds : String} {fs fs' : List (String × String × Value)} {old v : Value} {ty : FieldType} {H' : SH} (w : W[i]? = some (.fieldLink B.1.cls idx C nm ds))
    (w2 : W[i2]? = some (.lays C C nm ds)) (d : decode B.2.1 pc = .ok (.putfield idx, 3))
    (hH : H[a]? = some (.inl (C, fs))) (hf : fs[j]? = some (nm, ds, old)) (hty : parseFieldDescriptor ds = some ty) (hn : narrow ty v = v) (hfit : fits ty v = true) (hset1 : fs.set j (nm, ds, v) = fs') (hset : H.set a (.inl (C, fs')) = H')
    (hr : WP l Z a0 n0 B R k n (pc + 3) L S H' Q) : WP l Z a0 n0 B R k n pc L (v :: .ref a :: S) H Q := putfield' hw w (Or.inl w2) d hH hf hty hn hfit hset1 hset hr
theorem putfieldF (hw : ∀ d ∈ W, d.before a0 Z = true) {i i2 idx a j : Nat} {C nm ds : String} {fs fs' : List (String × String × Value)} {old v : Value} {ty : FieldType} {H' : SH} (w : W[i]? = some (.fieldLink B.1.cls idx C nm ds))
    (w2 : W[i2]? = some (.laysFinal C C nm ds)) (hC : B.1.cls = C) (hI : B.1.name = "<init>") (d : decode B.2.1 pc = .ok (.putfield idx, 3))
    (hH : H[a]? = some (.inl (C, fs))) (hf : fs[j]? = some (nm, ds, old)) (hty : parseFieldDescriptor ds = some ty) (hn : narrow ty v = v) (hfit : fits ty v = true) (hset1 : fs.set j (nm, ds, v) = fs') (hset : H.set a (.inl (C, fs')) = H')
    (hr : WP l Z a0 n0 B R k n (pc + 3) L S H' Q) : WP l Z a0 n0 B R k n pc L (v :: .ref a :: S) H Q := putfield' hw w (Or.inr ⟨w2, hC, hI⟩) d hH hf hty hn hfit hset1 hset hr
theorem newobj (hw : ∀ d ∈ W, d.before a0 Z = true) {i1 i2 i3 idx cnt a k' n' : Nat} {C : String} {fs : List (String × String × Value)} {H' : SH} (w1 : W[i1]? = some (.classLink B.1.cls idx C)) (w2 : W[i2]? = some (.instantiable C cnt)) (w3 : W[i3]? = some (.initialized C)) (d : decode B.2.1 pc = .ok (.new idx, 3))
    (hfs : ∀ f ∈ fs, (.lays C C f.1 f.2.1 ∈ W ∨ .laysFinal C C f.1 f.2.1 ∈ W) ∧ ∃ ty, parseFieldDescriptor f.2.1 = some ty ∧ defaultValue ty = f.2.2) (hnd : (fs.map (·.1)).Nodup) (hc : k + 1 ≤ R.cells) (hl : n + cnt ≤ R.slots) (hk : k + 1 = k') (hn : n + cnt = n') (hlen : H.length = a) (happ : H ++ [.inl (C, fs)] = H')
    (hr : WP l Z a0 n0 B R k' n' (pc + 3) L (.ref a :: S) H' Q) : WP l Z a0 n0 B R k n pc L S H Q := by
  intro p e s m args below meth c T locs X hx hc' hml hret hlk hZ hown hnm hF hR
  subst hk hn hlen happ
  have v1 := hw _ (List.mem_of_getElem? w1)
  have v2 := hw _ (List.mem_of_getElem? w2)
  have v3 := hw _ (List.mem_of_getElem? w3)
  obtain ⟨vm', cC, kC, h1, h2, h3, h4, X', st⟩ := X.newCold hx hown (mv hZ v1) (mv hZ v2) (mv hZ v3) (g := mkF m pc (LL n0 L) (S.map (lf n0))) rfl (hb hc' d) hc hl
  rw [hZ.alike.findClass] at h1
  obtain ⟨kZ, z1, -⟩ := Vm.findClass_spec h1
  obtain ⟨kx, z2, z3⟩ := hZ.alike.2.2 _ _ z1
  cases h2.symm.trans z2
  have ei : kC.instanceTypes = kZ.instanceTypes := by rw [z3]
  have hN : (T.heap.push { cls := cC, slots := kC.instanceTypes.map defaultValue, vm := .none })[T.heap.size]? = some { cls := cC, slots := kC.instanceTypes.map defaultValue, vm := .none } := by simp
  have E : Exa Z (T.heap.push { cls := cC, slots := kC.instanceTypes.map defaultValue, vm := .none }) T.heap.size C := ⟨_, kZ, hN, h1, z1, rfl, fun _ => by simp [ei]⟩
  have hR' : Rep Z a0 n0 (T.heap.push { cls := cC, slots := kC.instanceTypes.map defaultValue, vm := .none }) (H ++ [.inl (C, fs)]) := by
    refine hR.push (ext_push _ _) (by simp) ⟨E, ⟨_, v2⟩, hnd, fun f hf => ?_⟩
    obtain ⟨hL, ty, ht, hdv⟩ := hfs f hf
    have LD : Laid Z a0 C C f.1 f.2.1 := hL.imp (fun q => hw _ q) (fun q => hw _ q)
    refine ⟨LD, ⟨ty, ht⟩, ?_⟩
    obtain ⟨c1, k1, cf, kf, i, fd, b1, b2, b3, b4, b5, b6, -⟩ := LD.spec
    cases h1.symm.trans b1
    cases z1.symm.trans b2
    rw [← hdv, lf_default]
    exact ⟨_, cf, kf, i, fd, hN, b3, b4, by simp, rfl, b5, by simp [ei, b6, (State.fieldFound?_type b3 ht).2]⟩
  obtain ⟨t, o, g1, g2⟩ := hr p e s m args below meth c _ locs X' hx hc' hml hret hlk hZ hown hnm hF hR'
  refine ⟨t, o, st _ ?_, g2⟩
  rw [hR.1]
  exact g1
theorem newarr (hw : ∀ d ∈ W, d.before a0 Z = true) {i N cap a k' n' : Nat} {aty : ArrayType} {ty : FieldType} {dv : Value} {vs : List Value} {x : Int32} {H' : SH} (w : W[i]? = some (.arrayClass ty)) (hty : newarray.typeOf aty = ty) (d : decode B.2.1 pc = .ok (.newarray aty, 2))
    (hdv : defaultValue ty = dv) (hx0 : ¬ x < 0) (hN : x.toNatClampNeg = N) (hvs : List.replicate N dv = vs) (hcap : N ≤ cap) (hb' : cap * 8 ≤ 536870912) (hc : k + 1 ≤ R.cells) (hl : n + cap ≤ R.slots) (hk : k + 1 = k') (hn : n + cap = n') (hlen : H.length = a) (happ : H ++ [.inr (ty, vs)] = H')
    (hr : WP l Z a0 n0 B R k' n' (pc + 2) L (.ref a :: S) H' Q) : WP l Z a0 n0 B R k n pc L (.int x :: S) H Q := by
  intro p e s m args below meth c T locs X hx hc' hml hret hlk hZ hown hnm hF hR
  subst hk hn hlen happ hty hN hdv hvs
  have v1 := hw _ (List.mem_of_getElem? w)
  have hcb : componentBytes (newarray.typeOf aty) ≤ 8 := by cases aty <;> decide
  obtain ⟨cA, kA, comp, h1, h2, h3, X', st⟩ := X.newarrayPrim hx (mvA hZ v1) (g := mkF m pc (LL n0 L) ((Value.int x :: S).map (lf n0))) rfl (hb hc' d) rfl hx0 (Nat.le_trans (Nat.mul_le_mul hcap hcb) hb') hc (by omega)
  rw [hZ.alike.findClass] at h1
  obtain ⟨kZ, z1, -⟩ := Vm.findClass_spec h1
  obtain ⟨kx, z2, z3⟩ := hZ.alike.2.2 _ _ z1
  cases h2.symm.trans z2
  have hR' : Rep Z a0 n0 (T.heap.push { cls := cA, slots := Array.replicate x.toNatClampNeg (defaultValue (newarray.typeOf aty)), vm := .none }) (H ++ [.inr (newarray.typeOf aty, List.replicate x.toNatClampNeg (defaultValue (newarray.typeOf aty)))]) := by
    refine hR.push (ext_push _ _) (by simp) ⟨_, ⟨by simp; rfl, ⟨by simp, kZ, z1, comp, by rw [← h3, z3]⟩, by simp⟩, ?_, ?_⟩
    · apply Array.toList_inj.mp
      simp [lf_default]
    · have := (back32 hx0).2
      simpa using this
  obtain ⟨t, o, g1, g2⟩ := hr p e s m args below meth c _ locs (X'.more (Nat.le_refl _) (by omega)) hx hc' hml hret hlk hZ hown hnm hF hR'
  refine ⟨t, o, st _ ?_, g2⟩
  rw [hR.1]
  exact g1
theorem arr_at {h : Heap} {a : Nat} {ty : FieldType} {vs : List Value} {j : Int32} {jn : Nat} (hR : Rep Z a0 n0 h H) (hH : H[a]? = some (.inr (ty, vs))) (hj0 : ¬ j < 0) (hj : j.toNatClampNeg = jn) (hlt : jn < vs.length) :
    ∃ c : Cell, Arr Z h (n0 + a) c ty ∧ c.slots = (vs.map (lf n0)).toArray ∧ vs.length < 2 ^ 31 ∧ ¬ (j < 0 ∨ c.slots.size ≤ j.toNatClampNeg) := by
  obtain ⟨c, A, e, hl⟩ := hR.2 a _ hH
  refine ⟨c, A, e, hl, fun q => q.elim hj0 fun q => ?_⟩
  rw [e, hj] at q
  simp at q
  omega
theorem load_at {c : Cell} {vs : List Value} {j : Int32} {jn : Nat} {v : Value} (e : c.slots = (vs.map (lf n0)).toArray) (hj : j.toNatClampNeg = jn) (hv : vs[jn]? = some v) : c.slots[j.toNatClampNeg]? = some (lf n0 v) := by
  rw [e, hj]; simp [hv]
theorem iaload {a jn : Nat} {vs : List Value} {j : Int32} {v : Value} (d : decode B.2.1 pc = .ok (.iaload, 1)) (hH : H[a]? = some (.inr (.int, vs))) (hj0 : ¬ j < 0) (hj : j.toNatClampNeg = jn) (hv : vs[jn]? = some v)
    (hr : WP l Z a0 n0 B R k n (pc + 1) L (v :: S) H Q) : WP l Z a0 n0 B R k n pc L (.int j :: .ref a :: S) H Q := by
  intro p e s m args below meth c T locs X hx hc hml hret hlk hZ hown hnm hF hR
  obtain ⟨cl, A, es, -, hin⟩ := arr_at hR hH hj0 hj (lt_of_at hv)
  obtain ⟨t, o, h1, h2⟩ := hr p e s m args below meth c T locs X hx hc hml hret hlk hZ hown hnm hF hR
  exact ⟨t, o, X.iaload hx A.1 (State.isArrayOf_alike hZ.alike A.2.1) A.2.2 hin (load_at es hj hv) (g := mkF m pc (LL n0 L) ((Value.int j :: Value.ref a :: S).map (lf n0))) rfl rfl (hb hc d) _ h1, h2⟩
theorem laload {a jn : Nat} {vs : List Value} {j : Int32} {v : Value} (d : decode B.2.1 pc = .ok (.laload, 1)) (hH : H[a]? = some (.inr (.long, vs))) (hj0 : ¬ j < 0) (hj : j.toNatClampNeg = jn) (hv : vs[jn]? = some v)
    (hr : WP l Z a0 n0 B R k n (pc + 1) L (v :: S) H Q) : WP l Z a0 n0 B R k n pc L (.int j :: .ref a :: S) H Q := by
  intro p e s m args below meth c T locs X hx hc hml hret hlk hZ hown hnm hF hR
  obtain ⟨cl, A, es, -, hin⟩ := arr_at hR hH hj0 hj (lt_of_at hv)
  obtain ⟨t, o, h1, h2⟩ := hr p e s m args below meth c T locs X hx hc hml hret hlk hZ hown hnm hF hR
  exact ⟨t, o, X.laload hx A.1 (State.isArrayOf_alike hZ.alike A.2.1) A.2.2 hin (load_at es hj hv) (g := mkF m pc (LL n0 L) ((Value.int j :: Value.ref a :: S).map (lf n0))) rfl rfl (hb hc d) _ h1, h2⟩
theorem baload {a jn : Nat} {vs : List Value} {j : Int32} {v : Value} (d : decode B.2.1 pc = .ok (.baload, 1)) (hH : H[a]? = some (.inr (.byte, vs))) (hj0 : ¬ j < 0) (hj : j.toNatClampNeg = jn) (hv : vs[jn]? = some v)
    (hr : WP l Z a0 n0 B R k n (pc + 1) L (v :: S) H Q) : WP l Z a0 n0 B R k n pc L (.int j :: .ref a :: S) H Q := by
  intro p e s m args below meth c T locs X hx hc hml hret hlk hZ hown hnm hF hR
  obtain ⟨cl, A, es, -, hin⟩ := arr_at hR hH hj0 hj (lt_of_at hv)
  obtain ⟨t, o, h1, h2⟩ := hr p e s m args below meth c T locs X hx hc hml hret hlk hZ hown hnm hF hR
  exact ⟨t, o, X.baloadBytes hx A.1 (State.isArrayOf_alike hZ.alike A.2.1) A.2.2 hin (load_at es hj hv) (g := mkF m pc (LL n0 L) ((Value.int j :: Value.ref a :: S).map (lf n0))) rfl rfl (hb hc d) _ h1, h2⟩
theorem set_rep {h h' : Heap} {a jn : Nat} {ty : FieldType} {vs vs' : List Value} {c : Cell} {v : Value} {H' : SH} (hR : Rep Z a0 n0 h H) (hH : H[a]? = some (.inr (ty, vs))) (A : Arr Z h (n0 + a) c ty) (es : c.slots = (vs.map (lf n0)).toArray) (hlen : vs.length < 2 ^ 31) (W' : Wr h h' (n0 + a) jn (lf n0 v))
    (hset : vs.set jn v = vs') (hset2 : H.set a (.inr (ty, vs')) = H') : Rep Z a0 n0 h' H' := by
  subst hset hset2
  refine hR.set W' (lt_of_at hH) ⟨_, A.same W', ?_, by simpa using hlen⟩
  simp only [Cell.setSlot, es]
  apply Array.toList_inj.mp
  simp [List.map_set]
theorem iastore {a jn : Nat} {vs vs' : List Value} {j x : Int32} {H' : SH} (d : decode B.2.1 pc = .ok (.iastore, 1)) (hH : H[a]? = some (.inr (.int, vs))) (hj0 : ¬ j < 0) (hj : j.toNatClampNeg = jn) (hlt : jn < vs.length) (hset : vs.set jn (.int x) = vs') (hset2 : H.set a (.inr (.int, vs')) = H')
    (hr : WP l Z a0 n0 B R k n (pc + 1) L S H' Q) : WP l Z a0 n0 B R k n pc L (.int x :: .int j :: .ref a :: S) H Q := by
  intro p e s m args below meth c T locs X hx hc hml hret hlk hZ hown hnm hF hR
  obtain ⟨cl, A, es, hlen, hin⟩ := arr_at hR hH hj0 hj hlt
  obtain ⟨T', h', X', e', W', st⟩ := stI X hx hZ rfl A hin (g := mkF m pc (LL n0 L) ((Value.int x :: Value.int j :: Value.ref a :: S).map (lf n0))) rfl rfl (hb hc d)
  obtain ⟨t, o, h1, h2⟩ := hr p e s m args below meth c T' _ X' hx hc hml hret hlk hZ hown hnm (Fr.snoc X' hF (Nat.le_add_right _ _)) (by rw [e']; exact set_rep hR hH A es hlen (hj ▸ W') hset hset2)
  exact ⟨t, o, st _ h1, h2⟩
theorem lastore {a jn : Nat} {vs vs' : List Value} {j : Int32} {x : Int64} {H' : SH} (d : decode B.2.1 pc = .ok (.lastore, 1)) (hH : H[a]? = some (.inr (.long, vs))) (hj0 : ¬ j < 0) (hj : j.toNatClampNeg = jn) (hlt : jn < vs.length) (hset : vs.set jn (.long x) = vs') (hset2 : H.set a (.inr (.long, vs')) = H')
    (hr : WP l Z a0 n0 B R k n (pc + 1) L S H' Q) : WP l Z a0 n0 B R k n pc L (.long x :: .int j :: .ref a :: S) H Q := by
  intro p e s m args below meth c T locs X hx hc hml hret hlk hZ hown hnm hF hR
  obtain ⟨cl, A, es, hlen, hin⟩ := arr_at hR hH hj0 hj hlt
  obtain ⟨T', h', X', e', W', st⟩ := stJ X hx hZ rfl A hin (g := mkF m pc (LL n0 L) ((Value.long x :: Value.int j :: Value.ref a :: S).map (lf n0))) rfl rfl (hb hc d)
  obtain ⟨t, o, h1, h2⟩ := hr p e s m args below meth c T' _ X' hx hc hml hret hlk hZ hown hnm (Fr.snoc X' hF (Nat.le_add_right _ _)) (by rw [e']; exact set_rep hR hH A es hlen (hj ▸ W') hset hset2)
  exact ⟨t, o, st _ h1, h2⟩
theorem bastore {a jn : Nat} {vs vs' : List Value} {j x y : Int32} {H' : SH} (d : decode B.2.1 pc = .ok (.bastore, 1)) (hH : H[a]? = some (.inr (.byte, vs))) (hj0 : ¬ j < 0) (hj : j.toNatClampNeg = jn) (hlt : jn < vs.length) (hy : x.toInt8.toInt32 = y) (hset : vs.set jn (.int y) = vs') (hset2 : H.set a (.inr (.byte, vs')) = H')
    (hr : WP l Z a0 n0 B R k n (pc + 1) L S H' Q) : WP l Z a0 n0 B R k n pc L (.int x :: .int j :: .ref a :: S) H Q := by
  intro p e s m args below meth c T locs X hx hc hml hret hlk hZ hown hnm hF hR
  obtain ⟨cl, A, es, hlen, hin⟩ := arr_at hR hH hj0 hj hlt
  obtain ⟨T', h', X', e', W', st⟩ := stB X hx hZ rfl A hin (g := mkF m pc (LL n0 L) ((Value.int x :: Value.int j :: Value.ref a :: S).map (lf n0))) rfl rfl (hb hc d)
  subst hy
  obtain ⟨t, o, h1, h2⟩ := hr p e s m args below meth c T' _ X' hx hc hml hret hlk hZ hown hnm (Fr.snoc X' hF (Nat.le_add_right _ _)) (by rw [e']; exact set_rep (v := .int x.toInt8.toInt32) hR hH A es hlen (hj ▸ W') hset hset2)
  exact ⟨t, o, st _ h1, h2⟩
theorem arraylength {a : Nat} {ty : FieldType} {vs : List Value} {N : Int32} (d : decode B.2.1 pc = .ok (.arraylength, 1)) (hH : H[a]? = some (.inr (ty, vs))) (hN : vs.length.toInt32 = N) (hr : WP l Z a0 n0 B R k n (pc + 1) L (.int N :: S) H Q) : WP l Z a0 n0 B R k n pc L (.ref a :: S) H Q := by
  intro p e s m args below meth c T locs X hx hc hml hret hlk hZ hown hnm hF hR
  obtain ⟨cl, A, es, -⟩ := hR.2 a _ hH
  obtain ⟨t, o, h1, h2⟩ := hr p e s m args below meth c T locs X hx hc hml hret hlk hZ hown hnm hF hR
  refine ⟨t, o, X.arraylength hx A.1 (State.isArrayOf_alike hZ.alike A.2.1) (g := mkF m pc (LL n0 L) ((Value.ref a :: S).map (lf n0))) rfl rfl (hb hc d) _ ?_, h2⟩
  have e1 : cl.slots.size.toInt32 = N := by rw [es, ← hN]; simp
  rw [e1]
  exact h1
/-! ### returns -/
theorem leave' {p : Program} {e : Env} {s : State} {m : MethodId} {args : Array Value} {below : List Frame} {meth : Method} {c : Code} {T : State} {locs : List Loc} (X : Stand p l e R s m args below meth c T locs k n) (hlk : meth.locks = false) {v : Option Value} (hv : meth.sig.returnType = none → v = none) (hF : Fr n0 locs) (hR : Rep Z a0 n0 T.heap H) (hQ : Q v H) (hk : k ≤ R.cells) (hn : n ≤ R.slots) {g : JFrame}
    (st : ∀ fs, (∀ (f : JFrame) (acts : List Action), f.method = m → f.locked = none → f.entered = [] → (doReturn e (T.setTop f) acts (v.map (lf n0))).1 = T.setFrames fs) → Steps p.tables e below (T.setTop g) (T.setFrames fs)) :
    ∃ t o, Steps p.tables e below (T.setTop g) t ∧ t.status = .running ∧ Ended t below o ∧
      ∃ v L', o = .returned (v.map (lf n0)) ∧ (∃ H', Q v H' ∧ Rep Z a0 n0 t.heap H') ∧ Fr n0 L' ∧ FrameEnd s o t L' R.cells R.slots := by
  obtain ⟨fs, hr, hrun, hended, hW, hsame⟩ := X.leave (v := v.map (lf n0)) (fun q => by rw [hv q]; rfl) hlk
  exact ⟨_, _, st fs hr, hrun, hended, v, locs, rfl, ⟨H, hQ, hR⟩, hF, ⟨_, rfl⟩, hW, hsame.mono hk hn⟩
theorem retI {x : Int32} (d : decode B.2.1 pc = .ok (.ireturn, 1)) (hrt : B.2.2.2 = some .int) (hk : k ≤ R.cells) (hn : n ≤ R.slots) (hQ : Q (some (.int x)) H) : WP l Z a0 n0 B R k n pc L (.int x :: S) H Q := by
  intro p e s m args below meth c T locs X hx hc hml hret hlk hZ hown hnm hF hR
  refine leave' X hlk (v := some (.int x)) (fun q => by rw [hret, hrt] at q; cases q) hF hR hQ hk hn fun fs hr => ?_
  exact retOut X hx (hret.trans hrt) rfl (Or.inl ⟨rfl, Or.inl rfl, x, rfl⟩) (hb hc d) hr
theorem retN {x y : Int32} {ty : FieldType} (d : decode B.2.1 pc = .ok (.ireturn, 1)) (hrt : B.2.2.2 = some ty) (ht : ty = .boolean ∨ ty = .byte ∨ ty = .char ∨ ty = .short) (hy : nar ty x = y) (hk : k ≤ R.cells) (hn : n ≤ R.slots) (hQ : Q (some (.int y)) H) : WP l Z a0 n0 B R k n pc L (.int x :: S) H Q := by
  intro p e s m args below meth c T locs X hx hc hml hret hlk hZ hown hnm hF hR
  subst hy
  refine leave' X hlk (v := some (.int (nar ty x))) (fun q => by rw [hret, hrt] at q; cases q) hF hR hQ hk hn fun fs hr => ?_
  exact RoadKit.retN X hx (hret.trans hrt) ht (hb hc d) hr
theorem retL {x : Int64} (d : decode B.2.1 pc = .ok (.lreturn, 1)) (hrt : B.2.2.2 = some .long) (hk : k ≤ R.cells) (hn : n ≤ R.slots) (hQ : Q (some (.long x)) H) : WP l Z a0 n0 B R k n pc L (.long x :: S) H Q := by
  intro p e s m args below meth c T locs X hx hc hml hret hlk hZ hown hnm hF hR
  refine leave' X hlk (v := some (.long x)) (fun q => by rw [hret, hrt] at q; cases q) hF hR hQ hk hn fun fs hr => ?_
  exact retOut X hx (hret.trans hrt) rfl (Or.inr (Or.inl ⟨rfl, rfl, x, rfl⟩)) (hb hc d) hr
theorem retA {v : Value} {ty : FieldType} (d : decode B.2.1 pc = .ok (.areturn, 1)) (hrt : B.2.2.2 = some ty) (ht : ty.isReference = true) (hv : v.isRef = true) (hk : k ≤ R.cells) (hn : n ≤ R.slots) (hQ : Q (some v) H) : WP l Z a0 n0 B R k n pc L (v :: S) H Q := by
  intro p e s m args below meth c T locs X hx hc hml hret hlk hZ hown hnm hF hR
  refine leave' X hlk (v := some v) (fun q => by rw [hret, hrt] at q; cases q) hF hR hQ hk hn fun fs hr => ?_
  refine retOut X hx (hret.trans hrt) ?_ (Or.inr (Or.inr (Or.inr (Or.inr ⟨rfl, ht, by rw [lf_isRef]; exact hv⟩)))) (hb hc d) hr
  cases ty <;> first | (cases ht; done) | rfl
theorem ret0 (d : decode B.2.1 pc = .ok (.return_, 1)) (hrt : B.2.2.2 = none) (hk : k ≤ R.cells) (hn : n ≤ R.slots) (hQ : Q none H) : WP l Z a0 n0 B R k n pc L [] H Q := by
  intro p e s m args below meth c T locs X hx hc hml hret hlk hZ hown hnm hF hR
  refine leave' X hlk (v := none) (fun _ => rfl) hF hR hQ hk hn fun fs hr => ?_
  exact X.returnOut hx (hret.trans hrt) (hb hc d) hr
/-! ### calls -/
theorem cat_sum (n0 : Nat) (S : List Value) : ((S.map (lf n0)).map fun v => v.category).sum = (S.map fun v => v.category).sum := by
  simp [List.map_map, Function.comp_def, lf_cat]
theorem lf_out (n0 : Nat) (v : Option Value) (S : List Value) : (v.map (lf n0)).toList ++ S.map (lf n0) = (v.toList ++ S).map (lf n0) := by cases v <;> simp
theorem rep_plain {h : Heap} {a : Nat} {c : SC} (hR : Rep Z a0 n0 h H) (hH : H[a]? = some c) : ∃ cell : Cell, h[n0 + a]? = some cell ∧ ∀ q, cell.vm ≠ .statics q := by
  have K := hR.2 a _ hH
  rcases c with ⟨C, fs⟩ | ⟨ty, vs⟩
  · exact K.1.cell
  · obtain ⟨c, A, -⟩ := K
    exact ⟨c, A.1, A.2.1.1⟩
variable {B' : Bdy} {R' : Room} {as S' : List Value} {Q' : Option Value → SH → Prop} {ps : List FieldType} {r : Option FieldType} {i1 i2 i3 i4 i5 idx k' n' : Nat}
theorem callS (hw : ∀ d ∈ W, d.before a0 Z = true) (w1 : W[i1]? = some (.methodLink B.1.cls idx B'.1)) (w2 : W[i2]? = some (.static B'.1)) (w3 : W[i3]? = some (.initialized B'.1.cls)) (w4 : W[i4]? = some (.code B'.1 B'.2.1 B'.2.2.1 B'.2.2.2))
    (hy : B'.1.cls ≠ "java/lang/invoke/MethodHandle" ∧ B'.1.cls ≠ "java/lang/invoke/VarHandle") (hM : Meth l Z a0 n0 B' R' as H Q') (d : decode B.2.1 pc = .ok (.invokestatic idx, 3)) (hS : S = as.reverse ++ S') (hL : L.length = B.2.2.1) (hd : parseMethodDescriptor B'.1.desc = some ⟨ps, r⟩) (hps : as.length = ps.length)
    (hf : R'.frames + 1 ≤ R.frames) (hl : (S'.map fun v => v.category).sum + (B'.2.2.1 + 11) + R'.locals ≤ R.locals) (hc : k + R'.cells ≤ R.cells) (hs : n + R'.slots ≤ R.slots) (hk : k + R'.cells = k') (hn : n + R'.slots = n')
    (hr : ∀ v H', Q' v H' → WP l Z a0 n0 B R k' n' (pc + 3) L (v.toList ++ S') H' Q) : WP l Z a0 n0 B R k n pc L S H Q := by
  intro p e s m args below meth c T locs X hx hc' hml hret hlk hZ hown hnm hF hR
  subst hk hn hS
  have v4 := hw _ (List.mem_of_getElem? w4)
  have v3 := hw _ (List.mem_of_getElem? w3)
  obtain ⟨_, _, ⟨T', L1, k1, n1⟩, -, X', ⟨L2, ⟨v, H', rfl, hq, hR', hF'⟩, e1, e2, e3⟩, st⟩ := Jvm.LawKit.callS X hx hown (mvT hZ (hw _ (List.mem_of_getElem? w1))) (mvT hZ (hw _ (List.mem_of_getElem? w2))) (mvT hZ v3) (mvT hZ v4) hy (W := (S'.map fun v => v.category).sum)
    (backOf (h := T.heap) (Q := fun v h L => ∃ v' H', v = v'.map (lf n0) ∧ Q' v' H' ∧ Rep Z a0 n0 h H' ∧ Fr n0 L) (hM T.heap [] hR) hZ v4 v3 hf hl) (g := mkF m pc (LL n0 L) ((as.reverse ++ S').map (lf n0))) rfl (by rw [hml, ← hL]; simp) (argsL := as.map (lf n0)) (rest := S'.map (lf n0)) (lenOf hd (by simpa using hps)) (by simp) (by show 2 * 0 + _ ≤ _; rw [cat_sum]; omega) (hb hc' d) (fun _ _ => ⟨rfl, rfl, hc, hs⟩)
  dsimp only [Pt.U, Pt.locs, Pt.cells, Pt.slots] at X' e1 e2 e3 hR' st
  subst e1 e2 e3
  obtain ⟨t, o, h1, h2⟩ := hr v H' hq p e s m args below meth c T' _ X' hx hc' hml hret hlk hZ hown hnm (Fr.app hF hF') hR'
  refine ⟨t, o, st _ ?_, h2⟩
  rw [lf_out]
  exact h1
theorem callI {a : Nat} (hw : ∀ d ∈ W, d.before a0 Z = true) (hi : B'.1.name = "<init>") (hret' : B'.2.2.2 = none) (w1 : W[i1]? = some (.methodLink B.1.cls idx B'.1)) (w2 : W[i2]? = some (.instanceMethod B'.1)) (w3 : W[i3]? = some (.initialized B'.1.cls)) (w4 : W[i4]? = some (.code B'.1 B'.2.1 B'.2.2.1 B'.2.2.2))
    (hy : B'.1.cls ≠ "java/lang/invoke/MethodHandle" ∧ B'.1.cls ≠ "java/lang/invoke/VarHandle") (hM : Meth l Z a0 n0 B' R' (.ref a :: as) H Q') (d : decode B.2.1 pc = .ok (.invokespecial idx, 3)) (hS : S = as.reverse ++ .ref a :: S') (hL : L.length = B.2.2.1) (hd : parseMethodDescriptor B'.1.desc = some ⟨ps, r⟩) (hps : as.length = ps.length)
    (hf : R'.frames + 1 ≤ R.frames) (hl : (S'.map fun v => v.category).sum + (B'.2.2.1 + 11) + R'.locals ≤ R.locals) (hc : k + R'.cells ≤ R.cells) (hs : n + R'.slots ≤ R.slots) (hk : k + R'.cells = k') (hn : n + R'.slots = n')
    (hr : ∀ v H', Q' v H' → WP l Z a0 n0 B R k' n' (pc + 3) L (v.toList ++ S') H' Q) : WP l Z a0 n0 B R k n pc L S H Q := by
  intro p e s m args below meth c T locs X hx hc' hml hret hlk hZ hown hnm hF hR
  subst hk hn hS
  have v4 := hw _ (List.mem_of_getElem? w4)
  have v3 := hw _ (List.mem_of_getElem? w3)
  obtain ⟨_, _, ⟨T', L1, k1, n1⟩, -, X', ⟨L2, ⟨v, H', rfl, hq, hR', hF'⟩, e1, e2, e3⟩, st⟩ := X.specialBack hx hi hown (mvT hZ (hw _ (List.mem_of_getElem? w1))) (mvT hZ (hw _ (List.mem_of_getElem? w2))) (bytes := B'.2.1) (maxL := B'.2.2.1) (by rw [← hret']; exact mvT hZ v4) hy (W := (S'.map fun v => v.category).sum)
    (backOf (h := T.heap) (Q := fun v h L => ∃ v' H', v = v'.map (lf n0) ∧ Q' v' H' ∧ Rep Z a0 n0 h H' ∧ Fr n0 L) (hM T.heap [] hR) hZ v4 v3 hf hl) (g := mkF m pc (LL n0 L) ((as.reverse ++ Value.ref a :: S').map (lf n0))) rfl (by rw [hml, ← hL]; simp) (Steps.refl _) (a := n0 + a) (argsL := as.map (lf n0)) (rest := S'.map (lf n0)) (lenOf hd (by simpa using hps)) (by simp [lf]) (by show 2 * 0 + _ ≤ _; rw [cat_sum]; omega) (hb hc' d) (fun _ _ => ⟨rfl, rfl, hc, hs⟩)
  dsimp only [Pt.U, Pt.locs, Pt.cells, Pt.slots] at X' e1 e2 e3 hR' st
  subst e1 e2 e3
  obtain ⟨t, o, h1, h2⟩ := hr v H' hq p e s m args below meth c T' _ X' hx hc' hml hret hlk hZ hown hnm (Fr.app hF hF') hR'
  refine ⟨t, o, st.trans ?_, h2⟩
  rw [lf_out]
  exact h1
theorem callV {a : Nat} {fs : List (String × String × Value)} (hw : ∀ d ∈ W, d.before a0 Z = true) (w1 : W[i1]? = some (.methodLink B.1.cls idx B'.1)) (w5 : W[i5]? = some (.declares B'.1)) (w2 : W[i2]? = some (.instanceMethod B'.1)) {i6 : Nat} (w6 : W[i6]? = some (.selects B'.1.cls B'.1 B'.1)) (w3 : W[i3]? = some (.initialized B'.1.cls)) (w4 : W[i4]? = some (.code B'.1 B'.2.1 B'.2.2.1 B'.2.2.2))
    (hy : B'.1.cls ≠ "java/lang/invoke/MethodHandle" ∧ B'.1.cls ≠ "java/lang/invoke/VarHandle") (hH : H[a]? = some (.inl (B'.1.cls, fs))) (hM : Meth l Z a0 n0 B' R' (.ref a :: as) H Q') (d : decode B.2.1 pc = .ok (.invokevirtual idx, 3)) (hS : S = as.reverse ++ .ref a :: S') (hL : L.length = B.2.2.1) (hd : parseMethodDescriptor B'.1.desc = some ⟨ps, r⟩) (hps : as.length = ps.length)
    (hf : R'.frames + 1 ≤ R.frames) (hl : (S'.map fun v => v.category).sum + (B'.2.2.1 + 11) + R'.locals ≤ R.locals) (hc : k + R'.cells ≤ R.cells) (hs : n + R'.slots ≤ R.slots) (hk : k + R'.cells = k') (hn : n + R'.slots = n')
    (hr : ∀ v H', Q' v H' → WP l Z a0 n0 B R k' n' (pc + 3) L (v.toList ++ S') H' Q) : WP l Z a0 n0 B R k n pc L S H Q := by
  intro p e s m args below meth c T locs X hx hc' hml hret hlk hZ hown hnm hF hR
  subst hk hn hS
  have v4 := hw _ (List.mem_of_getElem? w4)
  have v3 := hw _ (List.mem_of_getElem? w3)
  have v6 := hw _ (List.mem_of_getElem? w6)
  obtain ⟨cB, kB, f1, f2, f3⟩ := isOf hZ rfl (hR.2 a _ hH).1
  obtain ⟨_, _, ⟨T', L1, k1, n1⟩, -, X', ⟨L2, ⟨v, H', rfl, hq, hR', hF'⟩, e1, e2, e3⟩, st⟩ := X.virtualBack hx hown (mvT hZ (hw _ (List.mem_of_getElem? w1))) (mvT hZ (hw _ (List.mem_of_getElem? w5))) (notFace_of_selects (args := #[]) (mvT hZ v6)) (mvT hZ v6) (mvT hZ (hw _ (List.mem_of_getElem? w2))) hy (W := (S'.map fun v => v.category).sum)
    (backOf (h := T.heap) (Q := fun v h L => ∃ v' H', v = v'.map (lf n0) ∧ Q' v' H' ∧ Rep Z a0 n0 h H' ∧ Fr n0 L) (hM T.heap [] hR) hZ v4 v3 hf hl) f1 f3 (g := mkF m pc (LL n0 L) ((as.reverse ++ Value.ref a :: S').map (lf n0))) rfl (by rw [hml, ← hL]; simp) (Steps.refl _) (argsL := as.map (lf n0)) (rest := S'.map (lf n0)) (lenOf hd (by simpa using hps)) (by simp [lf]) (by show 2 * 0 + _ ≤ _; rw [cat_sum]; omega) (hb hc' d) (fun _ _ => ⟨rfl, rfl, hc, hs⟩)
  dsimp only [Pt.U, Pt.locs, Pt.cells, Pt.slots] at X' e1 e2 e3 hR' st
  subst e1 e2 e3
  obtain ⟨t, o, h1, h2⟩ := hr v H' hq p e s m args below meth c T' _ X' hx hc' hml hret hlk hZ hown hnm (Fr.app hF hF') hR'
  refine ⟨t, o, st.trans ?_, h2⟩
  rw [lf_out]
  exact h1
/-- a private instance method: its class is no interface, as some 'instantiable' word of it says -/
theorem callP {a : Nat} {fs : List (String × String × Value)} (hw : ∀ d ∈ W, d.before a0 Z = true) (w1 : W[i1]? = some (.methodLink B.1.cls idx B'.1)) (w2 : W[i2]? = some (.instanceMethod B'.1)) (w5 : W[i5]? = some (.privateMethod B'.1)) {i6 cnt : Nat} (w6 : W[i6]? = some (.instantiable B'.1.cls cnt)) (w3 : W[i3]? = some (.initialized B'.1.cls)) (w4 : W[i4]? = some (.code B'.1 B'.2.1 B'.2.2.1 B'.2.2.2))
    (hy : B'.1.cls ≠ "java/lang/invoke/MethodHandle" ∧ B'.1.cls ≠ "java/lang/invoke/VarHandle") (hH : H[a]? = some (.inl (B'.1.cls, fs))) (hM : Meth l Z a0 n0 B' R' (.ref a :: as) H Q') (d : decode B.2.1 pc = .ok (.invokevirtual idx, 3)) (hS : S = as.reverse ++ .ref a :: S') (hL : L.length = B.2.2.1) (hd : parseMethodDescriptor B'.1.desc = some ⟨ps, r⟩) (hps : as.length = ps.length)
    (hf : R'.frames + 1 ≤ R.frames) (hl : (S'.map fun v => v.category).sum + (B'.2.2.1 + 11) + R'.locals ≤ R.locals) (hc : k + R'.cells ≤ R.cells) (hs : n + R'.slots ≤ R.slots) (hk : k + R'.cells = k') (hn : n + R'.slots = n')
    (hr : ∀ v H', Q' v H' → WP l Z a0 n0 B R k' n' (pc + 3) L (v.toList ++ S') H' Q) : WP l Z a0 n0 B R k n pc L S H Q := by
  intro p e s m args below meth c T locs X hx hc' hml hret hlk hZ hown hnm hF hR
  subst hk hn hS
  have v4 := hw _ (List.mem_of_getElem? w4)
  have v3 := hw _ (List.mem_of_getElem? w3)
  have v2 : (Jvm.Cond.instanceMethod B'.1).before args s = true := mvT hZ (hw _ (List.mem_of_getElem? w2))
  have vp := Cond.privateMethod_at (mvP hZ (hw _ (List.mem_of_getElem? w5)) (args := #[]))
  have v6 : (Jvm.Cond.instantiable B'.1.cls cnt).before args s = true := mv hZ (hw _ (List.mem_of_getElem? w6))
  obtain ⟨cI, kI, j1, j2, j3, j4⟩ := Cond.instantiable_spec v6
  have jI : kI.isInterface = false := (Bool.or_eq_false_iff.mp j4.1).1
  obtain ⟨cell, q1, q2⟩ := rep_plain hR hH
  obtain ⟨_, _, ⟨T', L1, k1, n1⟩, -, X', ⟨L2, ⟨v, H', rfl, hq, hR', hF'⟩, e1, e2, e3⟩, st⟩ := X.privateBack hx hown (mvT hZ (hw _ (List.mem_of_getElem? w1))) v2 (selects_self_of_private j1 j2 jI vp v2 hy) vp (mvT hZ v4) hy (W := (S'.map fun v => v.category).sum)
    (backOf (h := T.heap) (Q := fun v h L => ∃ v' H', v = v'.map (lf n0) ∧ Q' v' H' ∧ Rep Z a0 n0 h H' ∧ Fr n0 L) (hM T.heap [] hR) hZ v4 v3 hf hl) (g := mkF m pc (LL n0 L) ((as.reverse ++ Value.ref a :: S').map (lf n0))) rfl (by rw [hml, ← hL]; simp) (Steps.refl _) (a := n0 + a) q1 q2 (argsL := as.map (lf n0)) (rest := S'.map (lf n0)) (lenOf hd (by simpa using hps)) (by simp [lf]) (by show 2 * 0 + _ ≤ _; rw [cat_sum]; omega) (hb hc' d) (fun _ _ => ⟨rfl, rfl, hc, hs⟩)
  dsimp only [Pt.U, Pt.locs, Pt.cells, Pt.slots] at X' e1 e2 e3 hR' st
  subst e1 e2 e3
  obtain ⟨t, o, h1, h2⟩ := hr v H' hq p e s m args below meth c T' _ X' hx hc' hml hret hlk hZ hown hnm (Fr.app hF hF') hR'
  refine ⟨t, o, st.trans ?_, h2⟩
  rw [lf_out]
  exact h1
theorem initObj {a : Nat} (hw : ∀ d ∈ W, d.before a0 Z = true) (w1 : W[i1]? = some (.methodLink B.1.cls idx Lib.objectInit)) (w2 : W[i2]? = some (.instanceMethod Lib.objectInit)) (w3 : W[i3]? = some (.code Lib.objectInit ⟨#[0xb1]⟩ 1 none)) (d : decode B.2.1 pc = .ok (.invokespecial idx, 3)) (hL : L.length = B.2.2.1)
    (hf : 1 ≤ R.frames) (hl : (S.map fun v => v.category).sum + 12 ≤ R.locals) (hr : WP l Z a0 n0 B R k n (pc + 3) L S H Q) : WP l Z a0 n0 B R k n pc L (.ref a :: S) H Q := by
  intro p e s m args below meth c T locs X hx hc hml hret hlk hZ hown hnm hF hR
  obtain ⟨T', X', e', st⟩ := initO X hx hZ hown (hw _ (List.mem_of_getElem? w1)) (hw _ (List.mem_of_getElem? w2)) (hw _ (List.mem_of_getElem? w3)) rfl (g := mkF m pc (LL n0 L) ((Value.ref a :: S).map (lf n0))) rfl (by rw [hml, ← hL]; simp) (a := n0 + a) (rest := S.map (lf n0)) rfl (hb hc d) hf (W := (S.map fun v => v.category).sum) (by show 2 * 0 + _ ≤ _; rw [cat_sum]; omega) hl
  obtain ⟨t, o, h1, h2⟩ := hr p e s m args below meth c T' locs X' hx hc hml hret hlk hZ hown hnm hF (by rw [e']; exact hR)
  exact ⟨t, o, st _ h1, h2⟩
end
end Jvm.Sh
namespace Jvm.Sh
open Jvm Jvm.ClassFile Sem Op Lib
theorem le {a b : Nat} (h : Nat.ble a b = true) : a ≤ b := Nat.le_of_ble_eq_true h
theorem s1_1 {a0 o : Slot} {L : List Slot} {v : Value} (ho : okS o = true) (hv : v.category = 1) : stOK (a0 :: o :: L) 1 v (a0 :: .val v :: L) := st1 (o := o) rfl ho hv rfl
theorem s1_2 {a0 a1 o : Slot} {L : List Slot} {v : Value} (ho : okS o = true) (hv : v.category = 1) : stOK (a0 :: a1 :: o :: L) 2 v (a0 :: a1 :: .val v :: L) := st1 (o := o) rfl ho hv rfl
theorem s1_3 {a0 a1 a2 o : Slot} {L : List Slot} {v : Value} (ho : okS o = true) (hv : v.category = 1) : stOK (a0 :: a1 :: a2 :: o :: L) 3 v (a0 :: a1 :: a2 :: .val v :: L) := st1 (o := o) rfl ho hv rfl
theorem s1_4 {a0 a1 a2 a3 o : Slot} {L : List Slot} {v : Value} (ho : okS o = true) (hv : v.category = 1) : stOK (a0 :: a1 :: a2 :: a3 :: o :: L) 4 v (a0 :: a1 :: a2 :: a3 :: .val v :: L) := st1 (o := o) rfl ho hv rfl
theorem s1_5 {a0 a1 a2 a3 a4 o : Slot} {L : List Slot} {v : Value} (ho : okS o = true) (hv : v.category = 1) : stOK (a0 :: a1 :: a2 :: a3 :: a4 :: o :: L) 5 v (a0 :: a1 :: a2 :: a3 :: a4 :: .val v :: L) := st1 (o := o) rfl ho hv rfl
theorem s1_7 {a0 a1 a2 a3 a4 a5 a6 o : Slot} {L : List Slot} {v : Value} (ho : okS o = true) (hv : v.category = 1) : stOK (a0 :: a1 :: a2 :: a3 :: a4 :: a5 :: a6 :: o :: L) 7 v (a0 :: a1 :: a2 :: a3 :: a4 :: a5 :: a6 :: .val v :: L) := st1 (o := o) rfl ho hv rfl
theorem s1_8 {a0 a1 a2 a3 a4 a5 a6 a7 o : Slot} {L : List Slot} {v : Value} (ho : okS o = true) (hv : v.category = 1) : stOK (a0 :: a1 :: a2 :: a3 :: a4 :: a5 :: a6 :: a7 :: o :: L) 8 v (a0 :: a1 :: a2 :: a3 :: a4 :: a5 :: a6 :: a7 :: .val v :: L) := st1 (o := o) rfl ho hv rfl
theorem s1_9 {a0 a1 a2 a3 a4 a5 a6 a7 a8 o : Slot} {L : List Slot} {v : Value} (ho : okS o = true) (hv : v.category = 1) : stOK (a0 :: a1 :: a2 :: a3 :: a4 :: a5 :: a6 :: a7 :: a8 :: o :: L) 9 v (a0 :: a1 :: a2 :: a3 :: a4 :: a5 :: a6 :: a7 :: a8 :: .val v :: L) := st1 (o := o) rfl ho hv rfl
theorem s1_10 {a0 a1 a2 a3 a4 a5 a6 a7 a8 a9 o : Slot} {L : List Slot} {v : Value} (ho : okS o = true) (hv : v.category = 1) : stOK (a0 :: a1 :: a2 :: a3 :: a4 :: a5 :: a6 :: a7 :: a8 :: a9 :: o :: L) 10 v (a0 :: a1 :: a2 :: a3 :: a4 :: a5 :: a6 :: a7 :: a8 :: a9 :: .val v :: L) := st1 (o := o) rfl ho hv rfl
theorem s1_11 {a0 a1 a2 a3 a4 a5 a6 a7 a8 a9 a10 o : Slot} {L : List Slot} {v : Value} (ho : okS o = true) (hv : v.category = 1) : stOK (a0 :: a1 :: a2 :: a3 :: a4 :: a5 :: a6 :: a7 :: a8 :: a9 :: a10 :: o :: L) 11 v (a0 :: a1 :: a2 :: a3 :: a4 :: a5 :: a6 :: a7 :: a8 :: a9 :: a10 :: .val v :: L) := st1 (o := o) rfl ho hv rfl
theorem s1_12 {a0 a1 a2 a3 a4 a5 a6 a7 a8 a9 a10 a11 o : Slot} {L : List Slot} {v : Value} (ho : okS o = true) (hv : v.category = 1) : stOK (a0 :: a1 :: a2 :: a3 :: a4 :: a5 :: a6 :: a7 :: a8 :: a9 :: a10 :: a11 :: o :: L) 12 v (a0 :: a1 :: a2 :: a3 :: a4 :: a5 :: a6 :: a7 :: a8 :: a9 :: a10 :: a11 :: .val v :: L) := st1 (o := o) rfl ho hv rfl
theorem s1_13 {a0 a1 a2 a3 a4 a5 a6 a7 a8 a9 a10 a11 a12 o : Slot} {L : List Slot} {v : Value} (ho : okS o = true) (hv : v.category = 1) : stOK (a0 :: a1 :: a2 :: a3 :: a4 :: a5 :: a6 :: a7 :: a8 :: a9 :: a10 :: a11 :: a12 :: o :: L) 13 v (a0 :: a1 :: a2 :: a3 :: a4 :: a5 :: a6 :: a7 :: a8 :: a9 :: a10 :: a11 :: a12 :: .val v :: L) := st1 (o := o) rfl ho hv rfl
theorem s1_14 {a0 a1 a2 a3 a4 a5 a6 a7 a8 a9 a10 a11 a12 a13 o : Slot} {L : List Slot} {v : Value} (ho : okS o = true) (hv : v.category = 1) : stOK (a0 :: a1 :: a2 :: a3 :: a4 :: a5 :: a6 :: a7 :: a8 :: a9 :: a10 :: a11 :: a12 :: a13 :: o :: L) 14 v (a0 :: a1 :: a2 :: a3 :: a4 :: a5 :: a6 :: a7 :: a8 :: a9 :: a10 :: a11 :: a12 :: a13 :: .val v :: L) := st1 (o := o) rfl ho hv rfl
theorem s1_15 {a0 a1 a2 a3 a4 a5 a6 a7 a8 a9 a10 a11 a12 a13 a14 o : Slot} {L : List Slot} {v : Value} (ho : okS o = true) (hv : v.category = 1) : stOK (a0 :: a1 :: a2 :: a3 :: a4 :: a5 :: a6 :: a7 :: a8 :: a9 :: a10 :: a11 :: a12 :: a13 :: a14 :: o :: L) 15 v (a0 :: a1 :: a2 :: a3 :: a4 :: a5 :: a6 :: a7 :: a8 :: a9 :: a10 :: a11 :: a12 :: a13 :: a14 :: .val v :: L) := st1 (o := o) rfl ho hv rfl
section
variable {α : Type}
theorem ls_0 { o v : α} {L : List α} : (o :: L).set 0 v = v :: L := rfl
theorem ls_1 {a0 o v : α} {L : List α} : (a0 :: o :: L).set 1 v = a0 :: v :: L := rfl
theorem ls_2 {a0 a1 o v : α} {L : List α} : (a0 :: a1 :: o :: L).set 2 v = a0 :: a1 :: v :: L := rfl
theorem ls_3 {a0 a1 a2 o v : α} {L : List α} : (a0 :: a1 :: a2 :: o :: L).set 3 v = a0 :: a1 :: a2 :: v :: L := rfl
theorem ap_0 { v : α} : [] ++ [v] = [v] := rfl
theorem ap_1 {a0 v : α} : [a0] ++ [v] = [a0, v] := rfl
theorem ap_2 {a0 a1 v : α} : [a0, a1] ++ [v] = [a0, a1, v] := rfl
theorem ap_3 {a0 a1 a2 v : α} : [a0, a1, a2] ++ [v] = [a0, a1, a2, v] := rfl
theorem rp_3 {v : α} : List.replicate 3 v = [v, v, v] := rfl
end
end Jvm.Sh
namespace Jvm.Sh
open Jvm Jvm.ClassFile Jvm.RoadKit
/-! small naturals as ints -/
theorem onToInt {a : Nat} (h : a < 2147483648) : (Int32.ofNat a).toInt = a := Int32.toInt_ofNat_of_lt h
theorem onLt {a b : Nat} (ha : a < 2147483648) (hb : b < 2147483648) : Int32.ofNat a < Int32.ofNat b ↔ a < b := by
  rw [Int32.lt_iff_toInt_lt, onToInt ha, onToInt hb]; omega
theorem onInj {a b : Nat} (ha : a < 2147483648) (hb : b < 2147483648) : Int32.ofNat a = Int32.ofNat b ↔ a = b := by
  rw [← Int32.toInt_inj, onToInt ha, onToInt hb]; omega
theorem onNN {a : Nat} (ha : a < 2147483648) : ¬ Int32.ofNat a < 0 := by
  rw [Int32.lt_iff_toInt_lt, onToInt ha, show (0 : Int32).toInt = 0 from by decide]; omega
theorem onCl {a : Nat} (ha : a < 2147483648) : (Int32.ofNat a).toNatClampNeg = a := by
  rw [Int32.toNatClampNeg, onToInt ha]; omega
theorem onAdd (a b : Nat) : Int32.ofNat a + Int32.ofNat b = Int32.ofNat (a + b) := (Int32.ofNat_add a b).symm
theorem onSucc (a : Nat) : Int32.ofNat a + 1 = Int32.ofNat (a + 1) := onAdd a 1
theorem onSub {a b : Nat} (h : b ≤ a) (ha : a < 2147483648) : Int32.ofNat a - Int32.ofNat b = Int32.ofNat (a - b) := by
  apply Int32.toInt_inj.mp
  have q := c_isub (Int32.ofNat a) (Int32.ofNat b)
  have r := rng32 (Int32.ofNat a - Int32.ofNat b)
  rw [onToInt ha, onToInt (show b < 2147483648 by omega)] at q
  rw [onToInt (show a - b < 2147483648 by omega)]
  omega
theorem onMul {a b : Nat} : Int32.ofNat a * Int32.ofNat b = Int32.ofNat (a * b) := (Int32.ofNat_mul a b).symm
theorem isNat (x : Int32) (h0 : 0 ≤ x.toInt) : ∃ r : Nat, (r : Int) = x.toInt ∧ r < 2147483648 ∧ x = Int32.ofNat r := by
  have := rng32 x
  refine ⟨x.toInt.toNat, by omega, by omega, Int32.toInt_inj.mp ?_⟩
  rw [onToInt (by omega)]
  omega
/-- (x & 0x7fffffff) % m is a natural below m -/
theorem remNat (x m : Int32) (M : Nat) (hm : m.toInt = M) (hM : 0 < M) : ∃ r, r < M ∧ (x &&& 2147483647) % m = Int32.ofNat r := by
  have h := (c_iremV (x &&& 2147483647) m).1 (c_and x 2147483647 (by decide)).1 (by omega)
  obtain ⟨r, h1, h2, h3⟩ := isNat _ h.1
  exact ⟨r, by omega, h3⟩
theorem remNat' (x m : Int32) (M : Nat) (hx : 0 ≤ x.toInt) (hm : m.toInt = M) (hM : 0 < M) : ∃ r, r < M ∧ x % m = Int32.ofNat r := by
  have h := (c_iremV x m).1 hx (by omega)
  obtain ⟨r, h1, h2, h3⟩ := isNat _ h.1
  exact ⟨r, by omega, h3⟩
theorem maskNat (x m : Int32) (k : Nat) (hk : k ≤ 31) (hm : m.toBitVec.toNat = 2 ^ k - 1) : ∃ r, r < 2 ^ k ∧ x &&& m = Int32.ofNat r := by
  have h := c_mask x m k hk hm
  have hp : (0 : Int) < (2 ^ k : Nat) := by have := Nat.two_pow_pos k; omega
  have h1 := Int.emod_nonneg x.toInt (Int.ne_of_gt hp)
  have h2 := Int.emod_lt_of_pos x.toInt hp
  obtain ⟨r, g1, g2, g3⟩ := isNat (x &&& m) (by omega)
  exact ⟨r, by omega, g3⟩
theorem ushrNN (x k : Int32) (n : Nat) (hk : k.toBitVec.toNat % 32 = n) (h0 : 0 < n) : 0 ≤ (Jvm.Free.XT.ushr x k).toInt := by
  have e : (Jvm.Free.XT.ushr x k).toInt = (x.toInt % 4294967296) / (2 ^ n : Nat) := c_iushr x k n hk h0
  rw [e]
  exact Int.ediv_nonneg (Int.emod_nonneg _ (by decide)) (Int.natCast_nonneg _)
theorem i8_idem (x : Int32) : x.toInt8.toInt32.toInt8.toInt32 = x.toInt8.toInt32 := by simp
end Jvm.Sh
namespace Jvm.Pilot.@@N@@
open Jvm Jvm.ClassFile Sem Op Lib Jvm.Free Jvm.Stand Jvm.LawKit Jvm.RoadKit Bundle Jvm.Pilot.@@N@@.Jvm.D
abbrev HW (Z : State) (a0 : Array Value) : Prop := ∀ d ∈ tables_1, d.before a0 Z = true
abbrev f_LabelHeap (v0 v1 v2 v3 : Value) : List (String × String × Value) := [("labels", "[I", v0), ("keys", "[J", v1), ("position", "[I", v2), ("size", "I", v3)]
abbrev o_LabelHeap (v0 v1 v2 v3 : Value) : Sh.SC := .inl ("com/example/corridor/corridor/search/LabelHeap", f_LabelHeap v0 v1 v2 v3)
theorem fs_LabelHeap : ∀ f ∈ f_LabelHeap (.null) (.null) (.null) (.int 0), (Jvm.Cond.lays "com/example/corridor/corridor/search/LabelHeap" "com/example/corridor/corridor/search/LabelHeap" f.1 f.2.1 ∈ tables_1 ∨ Jvm.Cond.laysFinal "com/example/corridor/corridor/search/LabelHeap" "com/example/corridor/corridor/search/LabelHeap" f.1 f.2.1 ∈ tables_1) ∧ ∃ ty, parseFieldDescriptor f.2.1 = some ty ∧ defaultValue ty = f.2.2 := by
  intro f hf
  simp only [List.mem_cons, List.not_mem_nil, or_false] at hf
  rcases hf with rfl | rfl | rfl | rfl
  · exact ⟨Or.inr (List.mem_of_getElem? (i := 11) rfl), (.array .int), by decide +kernel, rfl⟩
  · exact ⟨Or.inr (List.mem_of_getElem? (i := 14) rfl), (.array .long), by decide +kernel, rfl⟩
  · exact ⟨Or.inr (List.mem_of_getElem? (i := 16) rfl), (.array .int), by decide +kernel, rfl⟩
  · exact ⟨Or.inl (List.mem_of_getElem? (i := 27) rfl), .int, by decide +kernel, rfl⟩
theorem nd_LabelHeap : ((f_LabelHeap (.null) (.null) (.null) (.int 0)).map (·.1)).Nodup := by decide
theorem d3_0 : decode jdk_65_method_103_code 0 = .ok (.iconst 0, 1) := by decide +kernel
theorem d3_1 : decode jdk_65_method_103_code 1 = .ok (.istore_n 2, 1) := by decide +kernel
theorem d3_2 : decode jdk_65_method_103_code 2 = .ok (.aload_n 0, 1) := by decide +kernel
theorem d3_3 : decode jdk_65_method_103_code 3 = .ok (.arraylength, 1) := by decide +kernel
theorem d3_4 : decode jdk_65_method_103_code 4 = .ok (.istore_n 3, 1) := by decide +kernel
theorem d3_5 : decode jdk_65_method_103_code 5 = .ok (.iload_n 2, 1) := by decide +kernel
theorem d3_6 : decode jdk_65_method_103_code 6 = .ok (.iload_n 3, 1) := by decide +kernel
theorem d3_7 : decode jdk_65_method_103_code 7 = .ok (.if_icmp .ge 13, 3) := by decide +kernel
theorem d3_10 : decode jdk_65_method_103_code 10 = .ok (.aload_n 0, 1) := by decide +kernel
theorem d3_11 : decode jdk_65_method_103_code 11 = .ok (.iload_n 2, 1) := by decide +kernel
theorem d3_12 : decode jdk_65_method_103_code 12 = .ok (.iload_n 1, 1) := by decide +kernel
theorem d3_13 : decode jdk_65_method_103_code 13 = .ok (.iastore, 1) := by decide +kernel
theorem d3_14 : decode jdk_65_method_103_code 14 = .ok (.iinc 2 1, 3) := by decide +kernel
theorem d3_17 : decode jdk_65_method_103_code 17 = .ok (.goto (-12), 3) := by decide +kernel
theorem d3_20 : decode jdk_65_method_103_code 20 = .ok (.return_, 1) := by decide +kernel
theorem pn3 : plainFor (⟨"java/util/Arrays", "fill", "([II)V"⟩ : MethodName) = true := by decide +kernel
theorem pd3 : parseMethodDescriptor "([II)V" = some ⟨[(.array .int), .int], none⟩ := by decide +kernel
def b3 : Sh.Bdy := (⟨"java/util/Arrays", "fill", "([II)V"⟩, jdk_65_method_103_code, 4, none)
def R3 : Room := { frames := 0, cells := 0, slots := 0, locals := 0 }
theorem d1_0 : decode prog_32_method_1_code 0 = .ok (.aload_n 0, 1) := by decide +kernel
theorem d1_1 : decode prog_32_method_1_code 1 = .ok (.invokespecial 1, 3) := by decide +kernel
theorem d1_4 : decode prog_32_method_1_code 4 = .ok (.aload_n 0, 1) := by decide +kernel
theorem d1_5 : decode prog_32_method_1_code 5 = .ok (.iload_n 1, 1) := by decide +kernel
theorem d1_6 : decode prog_32_method_1_code 6 = .ok (.newarray .int, 2) := by decide +kernel
theorem d1_8 : decode prog_32_method_1_code 8 = .ok (.putfield 7, 3) := by decide +kernel
theorem d1_11 : decode prog_32_method_1_code 11 = .ok (.aload_n 0, 1) := by decide +kernel
theorem d1_12 : decode prog_32_method_1_code 12 = .ok (.iload_n 1, 1) := by decide +kernel
theorem d1_13 : decode prog_32_method_1_code 13 = .ok (.newarray .long, 2) := by decide +kernel
theorem d1_15 : decode prog_32_method_1_code 15 = .ok (.putfield 13, 3) := by decide +kernel
theorem d1_18 : decode prog_32_method_1_code 18 = .ok (.aload_n 0, 1) := by decide +kernel
theorem d1_19 : decode prog_32_method_1_code 19 = .ok (.iload_n 1, 1) := by decide +kernel
theorem d1_20 : decode prog_32_method_1_code 20 = .ok (.newarray .int, 2) := by decide +kernel
theorem d1_22 : decode prog_32_method_1_code 22 = .ok (.putfield 17, 3) := by decide +kernel
theorem d1_25 : decode prog_32_method_1_code 25 = .ok (.aload_n 0, 1) := by decide +kernel
theorem d1_26 : decode prog_32_method_1_code 26 = .ok (.getfield 17, 3) := by decide +kernel
theorem d1_29 : decode prog_32_method_1_code 29 = .ok (.iconst (-1), 1) := by decide +kernel
theorem d1_30 : decode prog_32_method_1_code 30 = .ok (.invokestatic 20, 3) := by decide +kernel
theorem d1_33 : decode prog_32_method_1_code 33 = .ok (.return_, 1) := by decide +kernel
theorem pn1 : plainFor (⟨"com/example/corridor/corridor/search/LabelHeap", "<init>", "(I)V"⟩ : MethodName) = true := plainFor_of_name (by first | (simp [plainName, overriddenIn]; done) | decide +kernel)
theorem pd1 : parseMethodDescriptor "(I)V" = some ⟨[.int], none⟩ := by decide +kernel
def b1 : Sh.Bdy := (⟨"com/example/corridor/corridor/search/LabelHeap", "<init>", "(I)V"⟩, prog_32_method_1_code, 2, none)
def R1 : Room := { frames := 1, cells := 3, slots := 9, locals := 16 }
theorem d7_0 : decode prog_32_method_9_code 0 = .ok (.aload_n 0, 1) := by decide +kernel
theorem d7_1 : decode prog_32_method_9_code 1 = .ok (.getfield 7, 3) := by decide +kernel
theorem d7_4 : decode prog_32_method_9_code 4 = .ok (.iload_n 1, 1) := by decide +kernel
theorem d7_5 : decode prog_32_method_9_code 5 = .ok (.iload_n 2, 1) := by decide +kernel
theorem d7_6 : decode prog_32_method_9_code 6 = .ok (.iastore, 1) := by decide +kernel
theorem d7_7 : decode prog_32_method_9_code 7 = .ok (.aload_n 0, 1) := by decide +kernel
theorem d7_8 : decode prog_32_method_9_code 8 = .ok (.getfield 13, 3) := by decide +kernel
theorem d7_11 : decode prog_32_method_9_code 11 = .ok (.iload_n 1, 1) := by decide +kernel
theorem d7_12 : decode prog_32_method_9_code 12 = .ok (.lload_n 3, 1) := by decide +kernel
theorem d7_13 : decode prog_32_method_9_code 13 = .ok (.lastore, 1) := by decide +kernel
theorem d7_14 : decode prog_32_method_9_code 14 = .ok (.aload_n 0, 1) := by decide +kernel
theorem d7_15 : decode prog_32_method_9_code 15 = .ok (.getfield 17, 3) := by decide +kernel
theorem d7_18 : decode prog_32_method_9_code 18 = .ok (.iload_n 2, 1) := by decide +kernel
theorem d7_19 : decode prog_32_method_9_code 19 = .ok (.iload_n 1, 1) := by decide +kernel
theorem d7_20 : decode prog_32_method_9_code 20 = .ok (.iastore, 1) := by decide +kernel
theorem d7_21 : decode prog_32_method_9_code 21 = .ok (.return_, 1) := by decide +kernel
theorem pn7 : plainFor (⟨"com/example/corridor/corridor/search/LabelHeap", "place", "(IIJ)V"⟩ : MethodName) = true := plainFor_of_name (by first | (simp [plainName, overriddenIn]; done) | decide +kernel)
theorem pd7 : parseMethodDescriptor "(IIJ)V" = some ⟨[.int, .int, .long], none⟩ := by decide +kernel
def b7 : Sh.Bdy := (⟨"com/example/corridor/corridor/search/LabelHeap", "place", "(IIJ)V"⟩, prog_32_method_9_code, 5, none)
def R7 : Room := { frames := 0, cells := 0, slots := 0, locals := 0 }
theorem d6_0 : decode prog_32_method_7_code 0 = .ok (.iload_n 1, 1) := by decide +kernel
theorem d6_1 : decode prog_32_method_7_code 1 = .ok (.ifCond .le 50, 3) := by decide +kernel
theorem d6_4 : decode prog_32_method_7_code 4 = .ok (.iload_n 1, 1) := by decide +kernel
theorem d6_5 : decode prog_32_method_7_code 5 = .ok (.iconst 1, 1) := by decide +kernel
theorem d6_6 : decode prog_32_method_7_code 6 = .ok (.isub, 1) := by decide +kernel
theorem d6_7 : decode prog_32_method_7_code 7 = .ok (.iconst 4, 1) := by decide +kernel
theorem d6_8 : decode prog_32_method_7_code 8 = .ok (.idiv, 1) := by decide +kernel
theorem d6_9 : decode prog_32_method_7_code 9 = .ok (.istore 5, 2) := by decide +kernel
theorem d6_11 : decode prog_32_method_7_code 11 = .ok (.aload_n 0, 1) := by decide +kernel
theorem d6_12 : decode prog_32_method_7_code 12 = .ok (.getfield 13, 3) := by decide +kernel
theorem d6_15 : decode prog_32_method_7_code 15 = .ok (.iload 5, 2) := by decide +kernel
theorem d6_17 : decode prog_32_method_7_code 17 = .ok (.laload, 1) := by decide +kernel
theorem d6_18 : decode prog_32_method_7_code 18 = .ok (.lload_n 3, 1) := by decide +kernel
theorem d6_19 : decode prog_32_method_7_code 19 = .ok (.lcmp, 1) := by decide +kernel
theorem d6_20 : decode prog_32_method_7_code 20 = .ok (.ifCond .gt 6, 3) := by decide +kernel
theorem d6_23 : decode prog_32_method_7_code 23 = .ok (.goto 28, 3) := by decide +kernel
theorem d6_26 : decode prog_32_method_7_code 26 = .ok (.aload_n 0, 1) := by decide +kernel
theorem d6_27 : decode prog_32_method_7_code 27 = .ok (.iload_n 1, 1) := by decide +kernel
theorem d6_28 : decode prog_32_method_7_code 28 = .ok (.aload_n 0, 1) := by decide +kernel
theorem d6_29 : decode prog_32_method_7_code 29 = .ok (.getfield 7, 3) := by decide +kernel
theorem d6_32 : decode prog_32_method_7_code 32 = .ok (.iload 5, 2) := by decide +kernel
theorem d6_34 : decode prog_32_method_7_code 34 = .ok (.iaload, 1) := by decide +kernel
theorem d6_35 : decode prog_32_method_7_code 35 = .ok (.aload_n 0, 1) := by decide +kernel
theorem d6_36 : decode prog_32_method_7_code 36 = .ok (.getfield 13, 3) := by decide +kernel
theorem d6_39 : decode prog_32_method_7_code 39 = .ok (.iload 5, 2) := by decide +kernel
theorem d6_41 : decode prog_32_method_7_code 41 = .ok (.laload, 1) := by decide +kernel
theorem d6_42 : decode prog_32_method_7_code 42 = .ok (.invokevirtual 37, 3) := by decide +kernel
theorem d6_45 : decode prog_32_method_7_code 45 = .ok (.iload 5, 2) := by decide +kernel
theorem d6_47 : decode prog_32_method_7_code 47 = .ok (.istore_n 1, 1) := by decide +kernel
theorem d6_48 : decode prog_32_method_7_code 48 = .ok (.goto (-48), 3) := by decide +kernel
theorem d6_51 : decode prog_32_method_7_code 51 = .ok (.aload_n 0, 1) := by decide +kernel
theorem d6_52 : decode prog_32_method_7_code 52 = .ok (.iload_n 1, 1) := by decide +kernel
theorem d6_53 : decode prog_32_method_7_code 53 = .ok (.iload_n 2, 1) := by decide +kernel
theorem d6_54 : decode prog_32_method_7_code 54 = .ok (.lload_n 3, 1) := by decide +kernel
theorem d6_55 : decode prog_32_method_7_code 55 = .ok (.invokevirtual 37, 3) := by decide +kernel
theorem d6_58 : decode prog_32_method_7_code 58 = .ok (.return_, 1) := by decide +kernel
theorem pn6 : plainFor (⟨"com/example/corridor/corridor/search/LabelHeap", "siftUp", "(IIJ)V"⟩ : MethodName) = true := plainFor_of_name (by first | (simp [plainName, overriddenIn]; done) | decide +kernel)
theorem pd6 : parseMethodDescriptor "(IIJ)V" = some ⟨[.int, .int, .long], none⟩ := by decide +kernel
def b6 : Sh.Bdy := (⟨"com/example/corridor/corridor/search/LabelHeap", "siftUp", "(IIJ)V"⟩, prog_32_method_7_code, 6, none)
def R6 : Room := { frames := 1, cells := 0, slots := 0, locals := 16 }
theorem d5_0 : decode prog_32_method_4_code 0 = .ok (.aload_n 0, 1) := by decide +kernel
theorem d5_1 : decode prog_32_method_4_code 1 = .ok (.getfield 17, 3) := by decide +kernel
theorem d5_4 : decode prog_32_method_4_code 4 = .ok (.iload_n 1, 1) := by decide +kernel
theorem d5_5 : decode prog_32_method_4_code 5 = .ok (.iaload, 1) := by decide +kernel
theorem d5_6 : decode prog_32_method_4_code 6 = .ok (.istore 4, 2) := by decide +kernel
theorem d5_8 : decode prog_32_method_4_code 8 = .ok (.iload 4, 2) := by decide +kernel
theorem d5_10 : decode prog_32_method_4_code 10 = .ok (.iconst (-1), 1) := by decide +kernel
theorem d5_11 : decode prog_32_method_4_code 11 = .ok (.if_icmp .ne 19, 3) := by decide +kernel
theorem d5_14 : decode prog_32_method_4_code 14 = .ok (.aload_n 0, 1) := by decide +kernel
theorem d5_15 : decode prog_32_method_4_code 15 = .ok (.dup, 1) := by decide +kernel
theorem d5_16 : decode prog_32_method_4_code 16 = .ok (.getfield 26, 3) := by decide +kernel
theorem d5_19 : decode prog_32_method_4_code 19 = .ok (.dup_x1, 1) := by decide +kernel
theorem d5_20 : decode prog_32_method_4_code 20 = .ok (.iconst 1, 1) := by decide +kernel
theorem d5_21 : decode prog_32_method_4_code 21 = .ok (.iadd, 1) := by decide +kernel
theorem d5_22 : decode prog_32_method_4_code 22 = .ok (.putfield 26, 3) := by decide +kernel
theorem d5_25 : decode prog_32_method_4_code 25 = .ok (.istore 4, 2) := by decide +kernel
theorem d5_27 : decode prog_32_method_4_code 27 = .ok (.goto 16, 3) := by decide +kernel
theorem d5_30 : decode prog_32_method_4_code 30 = .ok (.lload_n 2, 1) := by decide +kernel
theorem d5_31 : decode prog_32_method_4_code 31 = .ok (.aload_n 0, 1) := by decide +kernel
theorem d5_32 : decode prog_32_method_4_code 32 = .ok (.getfield 13, 3) := by decide +kernel
theorem d5_35 : decode prog_32_method_4_code 35 = .ok (.iload 4, 2) := by decide +kernel
theorem d5_37 : decode prog_32_method_4_code 37 = .ok (.laload, 1) := by decide +kernel
theorem d5_38 : decode prog_32_method_4_code 38 = .ok (.lcmp, 1) := by decide +kernel
theorem d5_39 : decode prog_32_method_4_code 39 = .ok (.ifCond .lt 4, 3) := by decide +kernel
theorem d5_42 : decode prog_32_method_4_code 42 = .ok (.return_, 1) := by decide +kernel
theorem d5_43 : decode prog_32_method_4_code 43 = .ok (.aload_n 0, 1) := by decide +kernel
theorem d5_44 : decode prog_32_method_4_code 44 = .ok (.iload 4, 2) := by decide +kernel
theorem d5_46 : decode prog_32_method_4_code 46 = .ok (.iload_n 1, 1) := by decide +kernel
theorem d5_47 : decode prog_32_method_4_code 47 = .ok (.lload_n 2, 1) := by decide +kernel
theorem d5_48 : decode prog_32_method_4_code 48 = .ok (.invokevirtual 30, 3) := by decide +kernel
theorem d5_51 : decode prog_32_method_4_code 51 = .ok (.return_, 1) := by decide +kernel
theorem pn5 : plainFor (⟨"com/example/corridor/corridor/search/LabelHeap", "insertOrLower", "(IJ)V"⟩ : MethodName) = true := plainFor_of_name (by first | (simp [plainName, overriddenIn]; done) | decide +kernel)
theorem pd5 : parseMethodDescriptor "(IJ)V" = some ⟨[.int, .long], none⟩ := by decide +kernel
def b5 : Sh.Bdy := (⟨"com/example/corridor/corridor/search/LabelHeap", "insertOrLower", "(IJ)V"⟩, prog_32_method_4_code, 5, none)
def R5 : Room := { frames := 2, cells := 0, slots := 0, locals := 33 }
theorem d4_0 : decode prog_32_method_2_code 0 = .ok (.aload_n 0, 1) := by decide +kernel
theorem d4_1 : decode prog_32_method_2_code 1 = .ok (.getfield 26, 3) := by decide +kernel
theorem d4_4 : decode prog_32_method_2_code 4 = .ok (.ifCond .ne 7, 3) := by decide +kernel
theorem d4_7 : decode prog_32_method_2_code 7 = .ok (.iconst 1, 1) := by decide +kernel
theorem d4_8 : decode prog_32_method_2_code 8 = .ok (.goto 4, 3) := by decide +kernel
theorem d4_11 : decode prog_32_method_2_code 11 = .ok (.iconst 0, 1) := by decide +kernel
theorem d4_12 : decode prog_32_method_2_code 12 = .ok (.ireturn, 1) := by decide +kernel
theorem pn4 : plainFor (⟨"com/example/corridor/corridor/search/LabelHeap", "isEmpty", "()Z"⟩ : MethodName) = true := plainFor_of_name (by first | (simp [plainName, overriddenIn]; done) | decide +kernel)
theorem pd4 : parseMethodDescriptor "()Z" = some ⟨[], some .boolean⟩ := by decide +kernel
def b4 : Sh.Bdy := (⟨"com/example/corridor/corridor/search/LabelHeap", "isEmpty", "()Z"⟩, prog_32_method_2_code, 1, some .boolean)
def R4 : Room := { frames := 0, cells := 0, slots := 0, locals := 0 }
theorem d10_0 : decode prog_32_method_6_code 0 = .ok (.iconst 0, 1) := by decide +kernel
theorem d10_1 : decode prog_32_method_6_code 1 = .ok (.istore_n 1, 1) := by decide +kernel
theorem d10_2 : decode prog_32_method_6_code 2 = .ok (.iload_n 1, 1) := by decide +kernel
theorem d10_3 : decode prog_32_method_6_code 3 = .ok (.aload_n 0, 1) := by decide +kernel
theorem d10_4 : decode prog_32_method_6_code 4 = .ok (.getfield 26, 3) := by decide +kernel
theorem d10_7 : decode prog_32_method_6_code 7 = .ok (.if_icmp .ge 21, 3) := by decide +kernel
theorem d10_10 : decode prog_32_method_6_code 10 = .ok (.aload_n 0, 1) := by decide +kernel
theorem d10_11 : decode prog_32_method_6_code 11 = .ok (.getfield 17, 3) := by decide +kernel
theorem d10_14 : decode prog_32_method_6_code 14 = .ok (.aload_n 0, 1) := by decide +kernel
theorem d10_15 : decode prog_32_method_6_code 15 = .ok (.getfield 7, 3) := by decide +kernel
theorem d10_18 : decode prog_32_method_6_code 18 = .ok (.iload_n 1, 1) := by decide +kernel
theorem d10_19 : decode prog_32_method_6_code 19 = .ok (.iaload, 1) := by decide +kernel
theorem d10_20 : decode prog_32_method_6_code 20 = .ok (.iconst (-1), 1) := by decide +kernel
theorem d10_21 : decode prog_32_method_6_code 21 = .ok (.iastore, 1) := by decide +kernel
theorem d10_22 : decode prog_32_method_6_code 22 = .ok (.iinc 1 1, 3) := by decide +kernel
theorem d10_25 : decode prog_32_method_6_code 25 = .ok (.goto (-23), 3) := by decide +kernel
theorem d10_28 : decode prog_32_method_6_code 28 = .ok (.aload_n 0, 1) := by decide +kernel
theorem d10_29 : decode prog_32_method_6_code 29 = .ok (.iconst 0, 1) := by decide +kernel
theorem d10_30 : decode prog_32_method_6_code 30 = .ok (.putfield 26, 3) := by decide +kernel
theorem d10_33 : decode prog_32_method_6_code 33 = .ok (.return_, 1) := by decide +kernel
theorem pn10 : plainFor (⟨"com/example/corridor/corridor/search/LabelHeap", "clear", "()V"⟩ : MethodName) = true := plainFor_of_name (by first | (simp [plainName, overriddenIn]; done) | decide +kernel)
theorem pd10 : parseMethodDescriptor "()V" = some ⟨[], none⟩ := by decide +kernel
def b10 : Sh.Bdy := (⟨"com/example/corridor/corridor/search/LabelHeap", "clear", "()V"⟩, prog_32_method_6_code, 2, none)
def R10 : Room := { frames := 0, cells := 0, slots := 0, locals := 0 }
theorem d9_0 : decode prog_32_method_8_code 0 = .ok (.iconst 4, 1) := by decide +kernel
theorem d9_1 : decode prog_32_method_8_code 1 = .ok (.iload_n 1, 1) := by decide +kernel
theorem d9_2 : decode prog_32_method_8_code 2 = .ok (.imul, 1) := by decide +kernel
theorem d9_3 : decode prog_32_method_8_code 3 = .ok (.iconst 1, 1) := by decide +kernel
theorem d9_4 : decode prog_32_method_8_code 4 = .ok (.iadd, 1) := by decide +kernel
theorem d9_5 : decode prog_32_method_8_code 5 = .ok (.istore 5, 2) := by decide +kernel
theorem d9_7 : decode prog_32_method_8_code 7 = .ok (.iload 5, 2) := by decide +kernel
theorem d9_9 : decode prog_32_method_8_code 9 = .ok (.aload_n 0, 1) := by decide +kernel
theorem d9_10 : decode prog_32_method_8_code 10 = .ok (.getfield 26, 3) := by decide +kernel
theorem d9_13 : decode prog_32_method_8_code 13 = .ok (.if_icmp .ge 111, 3) := by decide +kernel
theorem d9_16 : decode prog_32_method_8_code 16 = .ok (.iload 5, 2) := by decide +kernel
theorem d9_18 : decode prog_32_method_8_code 18 = .ok (.istore 6, 2) := by decide +kernel
theorem d9_20 : decode prog_32_method_8_code 20 = .ok (.aload_n 0, 1) := by decide +kernel
theorem d9_21 : decode prog_32_method_8_code 21 = .ok (.getfield 13, 3) := by decide +kernel
theorem d9_24 : decode prog_32_method_8_code 24 = .ok (.iload 5, 2) := by decide +kernel
theorem d9_26 : decode prog_32_method_8_code 26 = .ok (.laload, 1) := by decide +kernel
theorem d9_27 : decode prog_32_method_8_code 27 = .ok (.lstore 7, 2) := by decide +kernel
theorem d9_29 : decode prog_32_method_8_code 29 = .ok (.iload 5, 2) := by decide +kernel
theorem d9_31 : decode prog_32_method_8_code 31 = .ok (.iconst 4, 1) := by decide +kernel
theorem d9_32 : decode prog_32_method_8_code 32 = .ok (.iadd, 1) := by decide +kernel
theorem d9_33 : decode prog_32_method_8_code 33 = .ok (.aload_n 0, 1) := by decide +kernel
theorem d9_34 : decode prog_32_method_8_code 34 = .ok (.getfield 26, 3) := by decide +kernel
theorem d9_37 : decode prog_32_method_8_code 37 = .ok (.invokestatic 40, 3) := by decide +kernel
theorem d9_40 : decode prog_32_method_8_code 40 = .ok (.istore 9, 2) := by decide +kernel
theorem d9_42 : decode prog_32_method_8_code 42 = .ok (.iload 5, 2) := by decide +kernel
theorem d9_44 : decode prog_32_method_8_code 44 = .ok (.iconst 1, 1) := by decide +kernel
theorem d9_45 : decode prog_32_method_8_code 45 = .ok (.iadd, 1) := by decide +kernel
theorem d9_46 : decode prog_32_method_8_code 46 = .ok (.istore 10, 2) := by decide +kernel
theorem d9_48 : decode prog_32_method_8_code 48 = .ok (.iload 10, 2) := by decide +kernel
theorem d9_50 : decode prog_32_method_8_code 50 = .ok (.iload 9, 2) := by decide +kernel
theorem d9_52 : decode prog_32_method_8_code 52 = .ok (.if_icmp .ge 35, 3) := by decide +kernel
theorem d9_55 : decode prog_32_method_8_code 55 = .ok (.aload_n 0, 1) := by decide +kernel
theorem d9_56 : decode prog_32_method_8_code 56 = .ok (.getfield 13, 3) := by decide +kernel
theorem d9_59 : decode prog_32_method_8_code 59 = .ok (.iload 10, 2) := by decide +kernel
theorem d9_61 : decode prog_32_method_8_code 61 = .ok (.laload, 1) := by decide +kernel
theorem d9_62 : decode prog_32_method_8_code 62 = .ok (.lload 7, 2) := by decide +kernel
theorem d9_64 : decode prog_32_method_8_code 64 = .ok (.lcmp, 1) := by decide +kernel
theorem d9_65 : decode prog_32_method_8_code 65 = .ok (.ifCond .ge 16, 3) := by decide +kernel
theorem d9_68 : decode prog_32_method_8_code 68 = .ok (.iload 10, 2) := by decide +kernel
theorem d9_70 : decode prog_32_method_8_code 70 = .ok (.istore 6, 2) := by decide +kernel
theorem d9_72 : decode prog_32_method_8_code 72 = .ok (.aload_n 0, 1) := by decide +kernel
theorem d9_73 : decode prog_32_method_8_code 73 = .ok (.getfield 13, 3) := by decide +kernel
theorem d9_76 : decode prog_32_method_8_code 76 = .ok (.iload 10, 2) := by decide +kernel
theorem d9_78 : decode prog_32_method_8_code 78 = .ok (.laload, 1) := by decide +kernel
theorem d9_79 : decode prog_32_method_8_code 79 = .ok (.lstore 7, 2) := by decide +kernel
theorem d9_81 : decode prog_32_method_8_code 81 = .ok (.iinc 10 1, 3) := by decide +kernel
theorem d9_84 : decode prog_32_method_8_code 84 = .ok (.goto (-36), 3) := by decide +kernel
theorem d9_87 : decode prog_32_method_8_code 87 = .ok (.lload_n 3, 1) := by decide +kernel
theorem d9_88 : decode prog_32_method_8_code 88 = .ok (.lload 7, 2) := by decide +kernel
theorem d9_90 : decode prog_32_method_8_code 90 = .ok (.lcmp, 1) := by decide +kernel
theorem d9_91 : decode prog_32_method_8_code 91 = .ok (.ifCond .gt 6, 3) := by decide +kernel
theorem d9_94 : decode prog_32_method_8_code 94 = .ok (.goto 30, 3) := by decide +kernel
theorem d9_97 : decode prog_32_method_8_code 97 = .ok (.aload_n 0, 1) := by decide +kernel
theorem d9_98 : decode prog_32_method_8_code 98 = .ok (.iload_n 1, 1) := by decide +kernel
theorem d9_99 : decode prog_32_method_8_code 99 = .ok (.aload_n 0, 1) := by decide +kernel
theorem d9_100 : decode prog_32_method_8_code 100 = .ok (.getfield 7, 3) := by decide +kernel
theorem d9_103 : decode prog_32_method_8_code 103 = .ok (.iload 6, 2) := by decide +kernel
theorem d9_105 : decode prog_32_method_8_code 105 = .ok (.iaload, 1) := by decide +kernel
theorem d9_106 : decode prog_32_method_8_code 106 = .ok (.lload 7, 2) := by decide +kernel
theorem d9_108 : decode prog_32_method_8_code 108 = .ok (.invokevirtual 37, 3) := by decide +kernel
theorem d9_111 : decode prog_32_method_8_code 111 = .ok (.iload 6, 2) := by decide +kernel
theorem d9_113 : decode prog_32_method_8_code 113 = .ok (.istore_n 1, 1) := by decide +kernel
theorem d9_114 : decode prog_32_method_8_code 114 = .ok (.iconst 4, 1) := by decide +kernel
theorem d9_115 : decode prog_32_method_8_code 115 = .ok (.iload_n 1, 1) := by decide +kernel
theorem d9_116 : decode prog_32_method_8_code 116 = .ok (.imul, 1) := by decide +kernel
theorem d9_117 : decode prog_32_method_8_code 117 = .ok (.iconst 1, 1) := by decide +kernel
theorem d9_118 : decode prog_32_method_8_code 118 = .ok (.iadd, 1) := by decide +kernel
theorem d9_119 : decode prog_32_method_8_code 119 = .ok (.istore 5, 2) := by decide +kernel
theorem d9_121 : decode prog_32_method_8_code 121 = .ok (.goto (-114), 3) := by decide +kernel
theorem d9_124 : decode prog_32_method_8_code 124 = .ok (.aload_n 0, 1) := by decide +kernel
theorem d9_125 : decode prog_32_method_8_code 125 = .ok (.iload_n 1, 1) := by decide +kernel
theorem d9_126 : decode prog_32_method_8_code 126 = .ok (.iload_n 2, 1) := by decide +kernel
theorem d9_127 : decode prog_32_method_8_code 127 = .ok (.lload_n 3, 1) := by decide +kernel
theorem d9_128 : decode prog_32_method_8_code 128 = .ok (.invokevirtual 37, 3) := by decide +kernel
theorem d9_131 : decode prog_32_method_8_code 131 = .ok (.return_, 1) := by decide +kernel
theorem pn9 : plainFor (⟨"com/example/corridor/corridor/search/LabelHeap", "siftDown", "(IIJ)V"⟩ : MethodName) = true := plainFor_of_name (by first | (simp [plainName, overriddenIn]; done) | decide +kernel)
theorem pd9 : parseMethodDescriptor "(IIJ)V" = some ⟨[.int, .int, .long], none⟩ := by decide +kernel
def b9 : Sh.Bdy := (⟨"com/example/corridor/corridor/search/LabelHeap", "siftDown", "(IIJ)V"⟩, prog_32_method_8_code, 11, none)
def R9 : Room := { frames := 1, cells := 0, slots := 0, locals := 16 }
theorem d8_0 : decode prog_32_method_5_code 0 = .ok (.aload_n 0, 1) := by decide +kernel
theorem d8_1 : decode prog_32_method_5_code 1 = .ok (.getfield 7, 3) := by decide +kernel
theorem d8_4 : decode prog_32_method_5_code 4 = .ok (.iconst 0, 1) := by decide +kernel
theorem d8_5 : decode prog_32_method_5_code 5 = .ok (.iaload, 1) := by decide +kernel
theorem d8_6 : decode prog_32_method_5_code 6 = .ok (.istore_n 1, 1) := by decide +kernel
theorem d8_7 : decode prog_32_method_5_code 7 = .ok (.aload_n 0, 1) := by decide +kernel
theorem d8_8 : decode prog_32_method_5_code 8 = .ok (.getfield 17, 3) := by decide +kernel
theorem d8_11 : decode prog_32_method_5_code 11 = .ok (.iload_n 1, 1) := by decide +kernel
theorem d8_12 : decode prog_32_method_5_code 12 = .ok (.iconst (-1), 1) := by decide +kernel
theorem d8_13 : decode prog_32_method_5_code 13 = .ok (.iastore, 1) := by decide +kernel
theorem d8_14 : decode prog_32_method_5_code 14 = .ok (.aload_n 0, 1) := by decide +kernel
theorem d8_15 : decode prog_32_method_5_code 15 = .ok (.dup, 1) := by decide +kernel
theorem d8_16 : decode prog_32_method_5_code 16 = .ok (.getfield 26, 3) := by decide +kernel
theorem d8_19 : decode prog_32_method_5_code 19 = .ok (.iconst 1, 1) := by decide +kernel
theorem d8_20 : decode prog_32_method_5_code 20 = .ok (.isub, 1) := by decide +kernel
theorem d8_21 : decode prog_32_method_5_code 21 = .ok (.putfield 26, 3) := by decide +kernel
theorem d8_24 : decode prog_32_method_5_code 24 = .ok (.aload_n 0, 1) := by decide +kernel
theorem d8_25 : decode prog_32_method_5_code 25 = .ok (.getfield 26, 3) := by decide +kernel
theorem d8_28 : decode prog_32_method_5_code 28 = .ok (.ifCond .le 26, 3) := by decide +kernel
theorem d8_31 : decode prog_32_method_5_code 31 = .ok (.aload_n 0, 1) := by decide +kernel
theorem d8_32 : decode prog_32_method_5_code 32 = .ok (.iconst 0, 1) := by decide +kernel
theorem d8_33 : decode prog_32_method_5_code 33 = .ok (.aload_n 0, 1) := by decide +kernel
theorem d8_34 : decode prog_32_method_5_code 34 = .ok (.getfield 7, 3) := by decide +kernel
theorem d8_37 : decode prog_32_method_5_code 37 = .ok (.aload_n 0, 1) := by decide +kernel
theorem d8_38 : decode prog_32_method_5_code 38 = .ok (.getfield 26, 3) := by decide +kernel
theorem d8_41 : decode prog_32_method_5_code 41 = .ok (.iaload, 1) := by decide +kernel
theorem d8_42 : decode prog_32_method_5_code 42 = .ok (.aload_n 0, 1) := by decide +kernel
theorem d8_43 : decode prog_32_method_5_code 43 = .ok (.getfield 13, 3) := by decide +kernel
theorem d8_46 : decode prog_32_method_5_code 46 = .ok (.aload_n 0, 1) := by decide +kernel
theorem d8_47 : decode prog_32_method_5_code 47 = .ok (.getfield 26, 3) := by decide +kernel
theorem d8_50 : decode prog_32_method_5_code 50 = .ok (.laload, 1) := by decide +kernel
theorem d8_51 : decode prog_32_method_5_code 51 = .ok (.invokevirtual 34, 3) := by decide +kernel
theorem d8_54 : decode prog_32_method_5_code 54 = .ok (.iload_n 1, 1) := by decide +kernel
theorem d8_55 : decode prog_32_method_5_code 55 = .ok (.ireturn, 1) := by decide +kernel
theorem pn8 : plainFor (⟨"com/example/corridor/corridor/search/LabelHeap", "removeMin", "()I"⟩ : MethodName) = true := plainFor_of_name (by first | (simp [plainName, overriddenIn]; done) | decide +kernel)
theorem pd8 : parseMethodDescriptor "()I" = some ⟨[], some .int⟩ := by decide +kernel
def b8 : Sh.Bdy := (⟨"com/example/corridor/corridor/search/LabelHeap", "removeMin", "()I"⟩, prog_32_method_5_code, 2, some .int)
def R8 : Room := { frames := 2, cells := 0, slots := 0, locals := 38 }
theorem pn0 : plainFor (⟨"com/example/corridor/corridor/search/LabelHeapIsEmptyPinLaw", "law", "(IIJJI)Z"⟩ : MethodName) = true := plainFor_of_name (by first | (simp [plainName, overriddenIn]; done) | decide +kernel)
theorem pd0 : parseMethodDescriptor "(IIJJI)Z" = some ⟨[.int, .int, .long, .long, .int], some .boolean⟩ := by decide +kernel
def b0 : Sh.Bdy := (x, code, maxLocals, ret)
abbrev own_H (s : Int32) (ls ks ps : List Value) : Sh.SH := [o_LabelHeap (.ref 1) (.ref 2) (.ref 3) (.int s), .inr (.int, ls), .inr (.long, ks), .inr (.int, ps)]
theorem own_par : ∀ m : Fin 5, 0 < m.val → (Int32.ofNat m.val - 1) / 4 = 0 := by decide
theorem Sh_lt0 {v : Value} {vs : List Value} (h : vs[1]? = some v) : 0 < vs.length := by have := Sh.lt_of_at h; omega
section
variable (l : Launch) (Z : State) (a0 : Array Value) (n0 : Nat)
theorem fill (hw : HW Z a0) (a b c : Sh.SC) : Sh.Meth l Z a0 n0 b3 R3 [.ref 3, .int (-1)] [a, b, c, .inr (.int, [.int 0, .int 0, .int 0])] (fun v H' => v = none ∧ H' = [a, b, c, .inr (.int, [.int (-1), .int (-1), .int (-1)])]) := by
  refine Sh.Meth.of pn3 (L := [.val (.ref 3), .val (.int (-1)), .unset, .unset]) rfl ?_
  refine Sh.iconst d3_0 (x := 0) rfl ?_
  refine Sh.istore_n d3_1 (Sh.s1_2 rfl rfl) ?_
  refine Sh.aload_n d3_2 rfl rfl ?_
  refine Sh.arraylength d3_3 rfl (N := 3) rfl ?_
  refine Sh.istore_n d3_4 (Sh.s1_3 rfl rfl) ?_
  refine Sh.iload_n d3_5 rfl ?_
  refine Sh.iload_n d3_6 rfl ?_
  refine Sh.icmpF d3_7 (by decide) ?_
  refine Sh.aload_n d3_10 rfl rfl ?_
  refine Sh.iload_n d3_11 rfl ?_
  refine Sh.iload_n d3_12 rfl ?_
  refine Sh.iastore (jn := 0) d3_13 rfl (by decide) rfl (Sh.le rfl) (Sh.ls_0) (Sh.ls_3) ?_
  refine Sh.iinc d3_14 rfl (ci := 1) (y := 1) rfl (by decide) (Sh.s1_2 rfl rfl) ?_
  refine Sh.goto d3_17 (pc' := 5) rfl (by decide) ?_
  refine Sh.iload_n d3_5 rfl ?_
  refine Sh.iload_n d3_6 rfl ?_
  refine Sh.icmpF d3_7 (by decide) ?_
  refine Sh.aload_n d3_10 rfl rfl ?_
  refine Sh.iload_n d3_11 rfl ?_
  refine Sh.iload_n d3_12 rfl ?_
  refine Sh.iastore (jn := 1) d3_13 rfl (by decide) rfl (Sh.le rfl) (Sh.ls_1) (Sh.ls_3) ?_
  refine Sh.iinc d3_14 rfl (ci := 1) (y := 2) rfl (by decide) (Sh.s1_2 rfl rfl) ?_
  refine Sh.goto d3_17 (pc' := 5) rfl (by decide) ?_
  refine Sh.iload_n d3_5 rfl ?_
  refine Sh.iload_n d3_6 rfl ?_
  refine Sh.icmpF d3_7 (by decide) ?_
  refine Sh.aload_n d3_10 rfl rfl ?_
  refine Sh.iload_n d3_11 rfl ?_
  refine Sh.iload_n d3_12 rfl ?_
  refine Sh.iastore (jn := 2) d3_13 rfl (by decide) rfl (Sh.le rfl) (Sh.ls_2) (Sh.ls_3) ?_
  refine Sh.iinc d3_14 rfl (ci := 1) (y := 3) rfl (by decide) (Sh.s1_2 rfl rfl) ?_
  refine Sh.goto d3_17 (pc' := 5) rfl (by decide) ?_
  refine Sh.iload_n d3_5 rfl ?_
  refine Sh.iload_n d3_6 rfl ?_
  refine Sh.icmpT d3_7 (pc' := 20) rfl (by decide) (by decide) ?_
  refine Sh.ret0 d3_20 rfl (Sh.le rfl) (Sh.le rfl) ?_
  exact ⟨rfl, rfl⟩
theorem ctor (hw : HW Z a0) (v0 v1 v2 : Value) : Sh.Meth l Z a0 n0 b1 R1 [.ref 0, .int 3] [o_LabelHeap v0 v1 v2 (.int 0)] (fun v H' => v = none ∧ H' = own_H 0 [.int 0, .int 0, .int 0] [.long 0, .long 0, .long 0] [.int (-1), .int (-1), .int (-1)]) := by
  refine Sh.Meth.of pn1 (L := [.val (.ref 0), .val (.int 3)]) rfl ?_
  refine Sh.aload_n d1_0 rfl rfl ?_
  refine Sh.initObj hw (i1 := 6) (i2 := 7) (i3 := 8) rfl rfl rfl d1_1 rfl (Sh.le rfl) (Sh.le rfl) ?_
  refine Sh.aload_n d1_4 rfl rfl ?_
  refine Sh.iload_n d1_5 rfl ?_
  refine Sh.newarr hw (i := 9) (ty := .int) (dv := .int 0) (N := 3) (cap := 3) (k' := 1) (n' := 3) (a := 1) rfl rfl d1_6 rfl (by decide) rfl (Sh.rp_3) (Sh.le rfl) (by decide) (Sh.le rfl) (Sh.le rfl) rfl rfl rfl (Sh.ap_1) ?_
  refine Sh.putfieldF hw (i := 10) (i2 := 11) (j := 0) (ty := (.array .int)) rfl rfl rfl rfl d1_8 rfl rfl (by decide +kernel) rfl rfl (Sh.ls_0) (Sh.ls_0) ?_
  refine Sh.aload_n d1_11 rfl rfl ?_
  refine Sh.iload_n d1_12 rfl ?_
  refine Sh.newarr hw (i := 12) (ty := .long) (dv := .long 0) (N := 3) (cap := 3) (k' := 2) (n' := 6) (a := 2) rfl rfl d1_13 rfl (by decide) rfl (Sh.rp_3) (Sh.le rfl) (by decide) (Sh.le rfl) (Sh.le rfl) rfl rfl rfl (Sh.ap_2) ?_
  refine Sh.putfieldF hw (i := 13) (i2 := 14) (j := 1) (ty := (.array .long)) rfl rfl rfl rfl d1_15 rfl rfl (by decide +kernel) rfl rfl (Sh.ls_1) (Sh.ls_0) ?_
  refine Sh.aload_n d1_18 rfl rfl ?_
  refine Sh.iload_n d1_19 rfl ?_
  refine Sh.newarr hw (i := 9) (ty := .int) (dv := .int 0) (N := 3) (cap := 3) (k' := 3) (n' := 9) (a := 3) rfl rfl d1_20 rfl (by decide) rfl (Sh.rp_3) (Sh.le rfl) (by decide) (Sh.le rfl) (Sh.le rfl) rfl rfl rfl (Sh.ap_3) ?_
  refine Sh.putfieldF hw (i := 15) (i2 := 16) (j := 2) (ty := (.array .int)) rfl rfl rfl rfl d1_22 rfl rfl (by decide +kernel) rfl rfl (Sh.ls_2) (Sh.ls_0) ?_
  refine Sh.aload_n d1_25 rfl rfl ?_
  refine Sh.getfield hw (i := 15) (j := 2) rfl d1_26 rfl rfl ?_
  refine Sh.iconst d1_29 (x := (-1)) rfl ?_
  refine Sh.callS hw (i1 := 17) (i2 := 18) (i3 := 19) (i4 := 20) (k' := 3) (n' := 9) (B' := b3) (R' := R3) rfl rfl rfl rfl (by decide) (fill l Z a0 n0 hw _ _ _) d1_30 rfl rfl pd3 rfl (Sh.le rfl) (Sh.le rfl) (Sh.le rfl) (Sh.le rfl) rfl rfl ?_
  rintro _ _ ⟨rfl, rfl⟩
  refine Sh.ret0 d1_33 rfl (Sh.le rfl) (Sh.le rfl) ?_
  exact ⟨rfl, rfl⟩
theorem pl (hw : HW Z a0) (s : Int32) (ls ks ps ls' ks' ps' : List Value) (ix lb : Nat) (key : Int64) (h1 : ix < ls.length) (h2 : ix < ks.length) (h3 : lb < ps.length) (hx : ix < 100) (hl : lb < 100) (e1 : ls.set ix (.int (Int32.ofNat lb)) = ls') (e2 : ks.set ix (.long key) = ks') (e3 : ps.set lb (.int (Int32.ofNat ix)) = ps') : Sh.Meth l Z a0 n0 b7 R7 [.ref 0, .int (Int32.ofNat ix), .int (Int32.ofNat lb), .long key] (own_H s ls ks ps) (fun v H' => v = none ∧ H' = own_H s ls' ks' ps') := by
  refine Sh.Meth.of pn7 (L := [.val (.ref 0), .val (.int (Int32.ofNat ix)), .val (.int (Int32.ofNat lb)), .val (.long key), .second]) rfl ?_
  refine Sh.aload_n d7_0 rfl rfl ?_
  refine Sh.getfield hw (i := 10) (j := 0) rfl d7_1 rfl rfl ?_
  refine Sh.iload_n d7_4 rfl ?_
  refine Sh.iload_n d7_5 rfl ?_
  refine Sh.iastore d7_6 rfl (Sh.onNN (by omega)) (Sh.onCl (by omega)) h1 e1 (Sh.ls_1) ?_
  refine Sh.aload_n d7_7 rfl rfl ?_
  refine Sh.getfield hw (i := 13) (j := 1) rfl d7_8 rfl rfl ?_
  refine Sh.iload_n d7_11 rfl ?_
  refine Sh.lload_n d7_12 rfl ?_
  refine Sh.lastore d7_13 rfl (Sh.onNN (by omega)) (Sh.onCl (by omega)) h2 e2 (Sh.ls_2) ?_
  refine Sh.aload_n d7_14 rfl rfl ?_
  refine Sh.getfield hw (i := 15) (j := 2) rfl d7_15 rfl rfl ?_
  refine Sh.iload_n d7_18 rfl ?_
  refine Sh.iload_n d7_19 rfl ?_
  refine Sh.iastore d7_20 rfl (Sh.onNN (by omega)) (Sh.onCl (by omega)) h3 e3 (Sh.ls_3) ?_
  refine Sh.ret0 d7_21 rfl (Sh.le rfl) (Sh.le rfl) ?_
  exact ⟨rfl, rfl⟩
theorem su0 (hw : HW Z a0) (s : Int32) (ls ks ps ls' ks' ps' : List Value) (lb : Nat) (key : Int64) (h1 : 0 < ls.length) (h2 : 0 < ks.length) (h3 : lb < ps.length) (hl : lb < 100) (e1 : ls.set 0 (.int (Int32.ofNat lb)) = ls') (e2 : ks.set 0 (.long key) = ks') (e3 : ps.set lb (.int (Int32.ofNat 0)) = ps') : Sh.Meth l Z a0 n0 b6 R6 [.ref 0, .int (Int32.ofNat 0), .int (Int32.ofNat lb), .long key] (own_H s ls ks ps) (fun v H' => v = none ∧ H' = own_H s ls' ks' ps') := by
  refine Sh.Meth.of pn6 (L := [.val (.ref 0), .val (.int (Int32.ofNat 0)), .val (.int (Int32.ofNat lb)), .val (.long key), .second, .unset]) rfl ?_
  refine Sh.iload_n d6_0 rfl ?_
  refine Sh.ifT d6_1 (pc' := 51) rfl (by decide) (by decide) ?_
  refine Sh.aload_n d6_51 rfl rfl ?_
  refine Sh.iload_n d6_52 rfl ?_
  refine Sh.iload_n d6_53 rfl ?_
  refine Sh.lload_n d6_54 rfl ?_
  refine Sh.callP hw (i1 := 38) (i2 := 39) (i3 := 2) (i4 := 41) (i5 := 40) (i6 := 1) (k' := 0) (n' := 0) (B' := b7) (R' := R7) rfl rfl rfl rfl rfl rfl (by decide) rfl (pl l Z a0 n0 hw s ls ks ps ls' ks' ps' 0 lb key h1 h2 h3 (by decide) hl e1 e2 e3) d6_55 rfl rfl pd7 rfl (Sh.le rfl) (Sh.le rfl) (Sh.le rfl) (Sh.le rfl) rfl rfl ?_
  rintro _ _ ⟨rfl, rfl⟩
  refine Sh.ret0 d6_58 rfl (Sh.le rfl) (Sh.le rfl) ?_
  exact ⟨rfl, rfl⟩
theorem su_no (hw : HW Z a0) (s : Int32) (ls ks ps ls' ks' ps' : List Value) (ix lb : Nat) (key : Int64) (h1 : ix < ls.length) (h2 : ix < ks.length) (h3 : lb < ps.length) (hx : ix < 100) (hl : lb < 100) (e1 : ls.set ix (.int (Int32.ofNat lb)) = ls') (e2 : ks.set ix (.long key) = ks') (e3 : ps.set lb (.int (Int32.ofNat ix)) = ps') (hm : 0 < ix) (hm5 : ix < 5) (k0 : Int64) (g : ks[0]? = some (.long k0)) (hk : ¬ key < k0) : Sh.Meth l Z a0 n0 b6 R6 [.ref 0, .int (Int32.ofNat ix), .int (Int32.ofNat lb), .long key] (own_H s ls ks ps) (fun v H' => v = none ∧ H' = own_H s ls' ks' ps') := by
  refine Sh.Meth.of pn6 (L := [.val (.ref 0), .val (.int (Int32.ofNat ix)), .val (.int (Int32.ofNat lb)), .val (.long key), .second, .unset]) rfl ?_
  refine Sh.iload_n d6_0 rfl ?_
  refine Sh.ifF d6_1 (fun q => q ((Sh.onLt (a := 0) (by omega) (by omega)).mpr hm)) ?_
  refine Sh.iload_n d6_4 rfl ?_
  refine Sh.iconst d6_5 (x := 1) rfl ?_
  refine Sh.isub d6_6 ?_
  refine Sh.iconst d6_7 (x := 4) rfl ?_
  refine Sh.idiv d6_8 (by decide) ?_
  rw [own_par ⟨ix, hm5⟩ hm]
  refine Sh.istore d6_9 (Sh.s1_5 rfl rfl) ?_
  refine Sh.aload_n d6_11 rfl rfl ?_
  refine Sh.getfield hw (i := 13) (j := 1) rfl d6_12 rfl rfl ?_
  refine Sh.iload d6_15 rfl ?_
  refine Sh.laload (jn := 0) d6_17 rfl (by decide) rfl g ?_
  refine Sh.lload_n d6_18 rfl ?_
  refine Sh.lcmpF d6_19 d6_20 hk ?_
  refine Sh.goto d6_23 (pc' := 51) rfl (by decide) ?_
  refine Sh.aload_n d6_51 rfl rfl ?_
  refine Sh.iload_n d6_52 rfl ?_
  refine Sh.iload_n d6_53 rfl ?_
  refine Sh.lload_n d6_54 rfl ?_
  refine Sh.callP hw (i1 := 38) (i2 := 39) (i3 := 2) (i4 := 41) (i5 := 40) (i6 := 1) (k' := 0) (n' := 0) (B' := b7) (R' := R7) rfl rfl rfl rfl rfl rfl (by decide) rfl (pl l Z a0 n0 hw s ls ks ps ls' ks' ps' ix lb key h1 h2 h3 hx hl e1 e2 e3) d6_55 rfl rfl pd7 rfl (Sh.le rfl) (Sh.le rfl) (Sh.le rfl) (Sh.le rfl) rfl rfl ?_
  rintro _ _ ⟨rfl, rfl⟩
  refine Sh.ret0 d6_58 rfl (Sh.le rfl) (Sh.le rfl) ?_
  exact ⟨rfl, rfl⟩
theorem su_sw (hw : HW Z a0) (s : Int32) (ls ks ps ls1 ks1 ps1 ls' ks' ps' : List Value) (ix lb a : Nat) (key k0 : Int64) (h1 : ix < ls.length) (h2 : ix < ks.length) (h3 : lb < ps.length) (h4 : a < ps.length) (hx : ix < 100) (hl : lb < 100) (ha : a < 100) (e1 : ls.set ix (.int (Int32.ofNat a)) = ls1) (e2 : ks.set ix (.long k0) = ks1) (e3 : ps.set a (.int (Int32.ofNat ix)) = ps1) (f1 : ls1.set 0 (.int (Int32.ofNat lb)) = ls') (f2 : ks1.set 0 (.long key) = ks') (f3 : ps1.set lb (.int (Int32.ofNat 0)) = ps') (hm : 0 < ix) (hm5 : ix < 5) (g0 : ls[0]? = some (.int (Int32.ofNat a))) (g : ks[0]? = some (.long k0)) (hk : key < k0) : Sh.Meth l Z a0 n0 b6 R6 [.ref 0, .int (Int32.ofNat ix), .int (Int32.ofNat lb), .long key] (own_H s ls ks ps) (fun v H' => v = none ∧ H' = own_H s ls' ks' ps') := by
  refine Sh.Meth.of pn6 (L := [.val (.ref 0), .val (.int (Int32.ofNat ix)), .val (.int (Int32.ofNat lb)), .val (.long key), .second, .unset]) rfl ?_
  have l1 : 0 < ls1.length := by rw [← e1, List.length_set]; omega
  have l2 : 0 < ks1.length := by rw [← e2, List.length_set]; omega
  have l3 : lb < ps1.length := by rw [← e3, List.length_set]; omega
  refine Sh.iload_n d6_0 rfl ?_
  refine Sh.ifF d6_1 (fun q => q ((Sh.onLt (a := 0) (by omega) (by omega)).mpr hm)) ?_
  refine Sh.iload_n d6_4 rfl ?_
  refine Sh.iconst d6_5 (x := 1) rfl ?_
  refine Sh.isub d6_6 ?_
  refine Sh.iconst d6_7 (x := 4) rfl ?_
  refine Sh.idiv d6_8 (by decide) ?_
  rw [own_par ⟨ix, hm5⟩ hm]
  refine Sh.istore d6_9 (Sh.s1_5 rfl rfl) ?_
  refine Sh.aload_n d6_11 rfl rfl ?_
  refine Sh.getfield hw (i := 13) (j := 1) rfl d6_12 rfl rfl ?_
  refine Sh.iload d6_15 rfl ?_
  refine Sh.laload (jn := 0) d6_17 rfl (by decide) rfl g ?_
  refine Sh.lload_n d6_18 rfl ?_
  refine Sh.lcmpT d6_19 d6_20 (pc' := 26) rfl (by decide) hk ?_
  refine Sh.aload_n d6_26 rfl rfl ?_
  refine Sh.iload_n d6_27 rfl ?_
  refine Sh.aload_n d6_28 rfl rfl ?_
  refine Sh.getfield hw (i := 10) (j := 0) rfl d6_29 rfl rfl ?_
  refine Sh.iload d6_32 rfl ?_
  refine Sh.iaload (jn := 0) d6_34 rfl (by decide) rfl g0 ?_
  refine Sh.aload_n d6_35 rfl rfl ?_
  refine Sh.getfield hw (i := 13) (j := 1) rfl d6_36 rfl rfl ?_
  refine Sh.iload d6_39 rfl ?_
  refine Sh.laload (jn := 0) d6_41 rfl (by decide) rfl g ?_
  refine Sh.callP hw (i1 := 38) (i2 := 39) (i3 := 2) (i4 := 41) (i5 := 40) (i6 := 1) (k' := 0) (n' := 0) (B' := b7) (R' := R7) rfl rfl rfl rfl rfl rfl (by decide) rfl (pl l Z a0 n0 hw s ls ks ps ls1 ks1 ps1 ix a k0 h1 h2 h4 hx ha e1 e2 e3) d6_42 rfl rfl pd7 rfl (Sh.le rfl) (Sh.le rfl) (Sh.le rfl) (Sh.le rfl) rfl rfl ?_
  rintro _ _ ⟨rfl, rfl⟩
  refine Sh.iload d6_45 rfl ?_
  refine Sh.istore_n d6_47 (Sh.s1_1 rfl rfl) ?_
  refine Sh.goto d6_48 (pc' := 0) rfl (by decide) ?_
  refine Sh.iload_n d6_0 rfl ?_
  refine Sh.ifT d6_1 (pc' := 51) rfl (by decide) (by decide) ?_
  refine Sh.aload_n d6_51 rfl rfl ?_
  refine Sh.iload_n d6_52 rfl ?_
  refine Sh.iload_n d6_53 rfl ?_
  refine Sh.lload_n d6_54 rfl ?_
  refine Sh.callP hw (i1 := 38) (i2 := 39) (i3 := 2) (i4 := 41) (i5 := 40) (i6 := 1) (k' := 0) (n' := 0) (B' := b7) (R' := R7) rfl rfl rfl rfl rfl rfl (by decide) rfl (pl l Z a0 n0 hw s ls1 ks1 ps1 ls' ks' ps' 0 lb key l1 l2 l3 (by decide) hl f1 f2 f3) d6_55 rfl rfl pd7 rfl (Sh.le rfl) (Sh.le rfl) (Sh.le rfl) (Sh.le rfl) rfl rfl ?_
  rintro _ _ ⟨rfl, rfl⟩
  refine Sh.ret0 d6_58 rfl (Sh.le rfl) (Sh.le rfl) ?_
  exact ⟨rfl, rfl⟩
theorem ins_new (hw : HW Z a0) (m lb : Nat) (key : Int64) (ls ks ps : List Value) (H2 : Sh.SH) (hm : m < 100) (hl : lb < 100) (g : ps[lb]? = some (.int (-1))) (hM : Sh.Meth l Z a0 n0 b6 R6 [.ref 0, .int (Int32.ofNat m), .int (Int32.ofNat lb), .long key] (own_H (Int32.ofNat (m + 1)) ls ks ps) (fun v H' => v = none ∧ H' = H2)) : Sh.Meth l Z a0 n0 b5 R5 [.ref 0, .int (Int32.ofNat lb), .long key] (own_H (Int32.ofNat m) ls ks ps) (fun v H' => v = none ∧ H' = H2) := by
  refine Sh.Meth.of pn5 (L := [.val (.ref 0), .val (.int (Int32.ofNat lb)), .val (.long key), .second, .unset]) rfl ?_
  refine Sh.aload_n d5_0 rfl rfl ?_
  refine Sh.getfield hw (i := 15) (j := 2) rfl d5_1 rfl rfl ?_
  refine Sh.iload_n d5_4 rfl ?_
  refine Sh.iaload d5_5 rfl (Sh.onNN (by omega)) (Sh.onCl (by omega)) g ?_
  refine Sh.istore d5_6 (Sh.s1_4 rfl rfl) ?_
  refine Sh.iload d5_8 rfl ?_
  refine Sh.iconst d5_10 (x := (-1)) rfl ?_
  refine Sh.icmpF d5_11 (fun q => q rfl) ?_
  refine Sh.aload_n d5_14 rfl rfl ?_
  refine Sh.dup d5_15 rfl ?_
  refine Sh.getfield hw (i := 26) (j := 3) rfl d5_16 rfl rfl ?_
  refine Sh.dup_x1 d5_19 rfl rfl ?_
  refine Sh.iconst d5_20 (x := 1) rfl ?_
  refine Sh.iaddE d5_21 (Sh.onSucc _) ?_
  refine Sh.putfield hw (i := 26) (i2 := 27) (j := 3) (ty := .int) rfl rfl d5_22 rfl rfl (by decide +kernel) rfl rfl (Sh.ls_3) (Sh.ls_0) ?_
  refine Sh.istore d5_25 (Sh.s1_4 rfl rfl) ?_
  refine Sh.goto d5_27 (pc' := 43) rfl (by decide) ?_
  refine Sh.aload_n d5_43 rfl rfl ?_
  refine Sh.iload d5_44 rfl ?_
  refine Sh.iload_n d5_46 rfl ?_
  refine Sh.lload_n d5_47 rfl ?_
  refine Sh.callP hw (i1 := 34) (i2 := 35) (i3 := 2) (i4 := 37) (i5 := 36) (i6 := 1) (k' := 0) (n' := 0) (B' := b6) (R' := R6) rfl rfl rfl rfl rfl rfl (by decide) rfl hM d5_48 rfl rfl pd6 rfl (Sh.le rfl) (Sh.le rfl) (Sh.le rfl) (Sh.le rfl) rfl rfl ?_
  rintro _ _ ⟨rfl, rfl⟩
  refine Sh.ret0 d5_51 rfl (Sh.le rfl) (Sh.le rfl) ?_
  exact ⟨rfl, rfl⟩
theorem own_ne (ix : Nat) (h : ix < 100) : ¬ Int32.ofNat ix = -1 := fun q => by
  have := congrArg Int32.toInt q
  rw [Sh.onToInt (by omega), show (-1 : Int32).toInt = -1 from by decide] at this
  omega
theorem ins_skip (hw : HW Z a0) (s : Int32) (lb ix : Nat) (key k : Int64) (ls ks ps : List Value) (hl : lb < 100) (hx : ix < 100) (g : ps[lb]? = some (.int (Int32.ofNat ix))) (gk : ks[ix]? = some (.long k)) (hk : ¬ key < k) : Sh.Meth l Z a0 n0 b5 R5 [.ref 0, .int (Int32.ofNat lb), .long key] (own_H s ls ks ps) (fun v H' => v = none ∧ H' = own_H s ls ks ps) := by
  refine Sh.Meth.of pn5 (L := [.val (.ref 0), .val (.int (Int32.ofNat lb)), .val (.long key), .second, .unset]) rfl ?_
  refine Sh.aload_n d5_0 rfl rfl ?_
  refine Sh.getfield hw (i := 15) (j := 2) rfl d5_1 rfl rfl ?_
  refine Sh.iload_n d5_4 rfl ?_
  refine Sh.iaload d5_5 rfl (Sh.onNN (by omega)) (Sh.onCl (by omega)) g ?_
  refine Sh.istore d5_6 (Sh.s1_4 rfl rfl) ?_
  refine Sh.iload d5_8 rfl ?_
  refine Sh.iconst d5_10 (x := (-1)) rfl ?_
  refine Sh.icmpT d5_11 (pc' := 30) rfl (by decide) (own_ne ix hx) ?_
  refine Sh.lload_n d5_30 rfl ?_
  refine Sh.aload_n d5_31 rfl rfl ?_
  refine Sh.getfield hw (i := 13) (j := 1) rfl d5_32 rfl rfl ?_
  refine Sh.iload d5_35 rfl ?_
  refine Sh.laload d5_37 rfl (Sh.onNN (by omega)) (Sh.onCl (by omega)) gk ?_
  refine Sh.lcmpF d5_38 d5_39 hk ?_
  refine Sh.ret0 d5_42 rfl (Sh.le rfl) (Sh.le rfl) ?_
  exact ⟨rfl, rfl⟩
theorem ins_low (hw : HW Z a0) (s : Int32) (lb ix : Nat) (key k : Int64) (ls ks ps : List Value) (H2 : Sh.SH) (hl : lb < 100) (hx : ix < 100) (g : ps[lb]? = some (.int (Int32.ofNat ix))) (gk : ks[ix]? = some (.long k)) (hk : key < k) (hM : Sh.Meth l Z a0 n0 b6 R6 [.ref 0, .int (Int32.ofNat ix), .int (Int32.ofNat lb), .long key] (own_H s ls ks ps) (fun v H' => v = none ∧ H' = H2)) : Sh.Meth l Z a0 n0 b5 R5 [.ref 0, .int (Int32.ofNat lb), .long key] (own_H s ls ks ps) (fun v H' => v = none ∧ H' = H2) := by
  refine Sh.Meth.of pn5 (L := [.val (.ref 0), .val (.int (Int32.ofNat lb)), .val (.long key), .second, .unset]) rfl ?_
  refine Sh.aload_n d5_0 rfl rfl ?_
  refine Sh.getfield hw (i := 15) (j := 2) rfl d5_1 rfl rfl ?_
  refine Sh.iload_n d5_4 rfl ?_
  refine Sh.iaload d5_5 rfl (Sh.onNN (by omega)) (Sh.onCl (by omega)) g ?_
  refine Sh.istore d5_6 (Sh.s1_4 rfl rfl) ?_
  refine Sh.iload d5_8 rfl ?_
  refine Sh.iconst d5_10 (x := (-1)) rfl ?_
  refine Sh.icmpT d5_11 (pc' := 30) rfl (by decide) (own_ne ix hx) ?_
  refine Sh.lload_n d5_30 rfl ?_
  refine Sh.aload_n d5_31 rfl rfl ?_
  refine Sh.getfield hw (i := 13) (j := 1) rfl d5_32 rfl rfl ?_
  refine Sh.iload d5_35 rfl ?_
  refine Sh.laload d5_37 rfl (Sh.onNN (by omega)) (Sh.onCl (by omega)) gk ?_
  refine Sh.lcmpT d5_38 d5_39 (pc' := 43) rfl (by decide) hk ?_
  refine Sh.aload_n d5_43 rfl rfl ?_
  refine Sh.iload d5_44 rfl ?_
  refine Sh.iload_n d5_46 rfl ?_
  refine Sh.lload_n d5_47 rfl ?_
  refine Sh.callP hw (i1 := 34) (i2 := 35) (i3 := 2) (i4 := 37) (i5 := 36) (i6 := 1) (k' := 0) (n' := 0) (B' := b6) (R' := R6) rfl rfl rfl rfl rfl rfl (by decide) rfl hM d5_48 rfl rfl pd6 rfl (Sh.le rfl) (Sh.le rfl) (Sh.le rfl) (Sh.le rfl) rfl rfl ?_
  rintro _ _ ⟨rfl, rfl⟩
  refine Sh.ret0 d5_51 rfl (Sh.le rfl) (Sh.le rfl) ?_
  exact ⟨rfl, rfl⟩
theorem em1 (hw : HW Z a0) (ls ks ps : List Value) : Sh.Meth l Z a0 n0 b4 R4 [.ref 0] (own_H 0 ls ks ps) (fun v H' => v = some (.int 1) ∧ H' = own_H 0 ls ks ps) := by
  refine Sh.Meth.of pn4 (L := [.val (.ref 0)]) rfl ?_
  refine Sh.aload_n d4_0 rfl rfl ?_
  refine Sh.getfield hw (i := 26) (j := 3) rfl d4_1 rfl rfl ?_
  refine Sh.ifF d4_4 (by decide) ?_
  refine Sh.iconst d4_7 (x := 1) rfl ?_
  refine Sh.goto d4_8 (pc' := 12) rfl (by decide) ?_
  refine Sh.retN d4_12 rfl (by simp) rfl (Sh.le rfl) (Sh.le rfl) ?_
  exact ⟨rfl, rfl⟩
theorem em0 (hw : HW Z a0) (s : Int32) (ls ks ps : List Value) (hs : ¬ s = 0) : Sh.Meth l Z a0 n0 b4 R4 [.ref 0] (own_H s ls ks ps) (fun v H' => v = some (.int 0) ∧ H' = own_H s ls ks ps) := by
  refine Sh.Meth.of pn4 (L := [.val (.ref 0)]) rfl ?_
  refine Sh.aload_n d4_0 rfl rfl ?_
  refine Sh.getfield hw (i := 26) (j := 3) rfl d4_1 rfl rfl ?_
  refine Sh.ifT d4_4 (pc' := 11) rfl (by decide) hs ?_
  refine Sh.iconst d4_11 (x := 0) rfl ?_
  refine Sh.retN d4_12 rfl (by simp) rfl (Sh.le rfl) (Sh.le rfl) ?_
  exact ⟨rfl, rfl⟩
def own_clr (lb : Nat → Nat) : List Value → Nat → Nat → List Value
  | ps, _, 0 => ps
  | ps, i, k + 1 => own_clr lb (ps.set (lb i) (.int (-1))) (i + 1) k
theorem lpc (hw : HW Z a0) (ls ks : List Value) (lb : Nat → Nat) (m n : Nat) (hm : m < 100) (hn : n < 100) (hl : ∀ j, j < m → ls[j]? = some (.int (Int32.ofNat (lb j))) ∧ lb j < n) : ∀ k i (ps : List Value), i + k = m → ps.length = n → Sh.WP l Z a0 n0 b10 R10 0 0 2 [.val (.ref 0), .val (.int (Int32.ofNat i))] [] (own_H (Int32.ofNat m) ls ks ps) (fun v H' => v = none ∧ H' = own_H 0 ls ks (own_clr lb ps i k)) := by
  intro k
  induction k with
  | zero =>
    intro i ps h1 h2
    refine Sh.iload_n d10_2 rfl ?_
    refine Sh.aload_n d10_3 rfl rfl ?_
    refine Sh.getfield hw (i := 26) (j := 3) rfl d10_4 rfl rfl ?_
    refine Sh.icmpT d10_7 (pc' := 28) rfl (by decide) (fun q => absurd ((Sh.onLt (by omega) (by omega)).mp q) (by omega)) ?_
    refine Sh.aload_n d10_28 rfl rfl ?_
    refine Sh.iconst d10_29 (x := 0) rfl ?_
    refine Sh.putfield hw (i := 26) (i2 := 27) (j := 3) (ty := .int) rfl rfl d10_30 rfl rfl (by decide +kernel) rfl rfl (Sh.ls_3) (Sh.ls_0) ?_
    refine Sh.ret0 d10_33 rfl (Sh.le rfl) (Sh.le rfl) ?_
    exact ⟨rfl, rfl⟩
  | succ k ih =>
    intro i ps h1 h2
    obtain ⟨g1, g2⟩ := hl i (by omega)
    refine Sh.iload_n d10_2 rfl ?_
    refine Sh.aload_n d10_3 rfl rfl ?_
    refine Sh.getfield hw (i := 26) (j := 3) rfl d10_4 rfl rfl ?_
    refine Sh.icmpF d10_7 (fun z => z ((Sh.onLt (by omega) (by omega)).mpr (by omega))) ?_
    refine Sh.aload_n d10_10 rfl rfl ?_
    refine Sh.getfield hw (i := 15) (j := 2) rfl d10_11 rfl rfl ?_
    refine Sh.aload_n d10_14 rfl rfl ?_
    refine Sh.getfield hw (i := 10) (j := 0) rfl d10_15 rfl rfl ?_
    refine Sh.iload_n d10_18 rfl ?_
    refine Sh.iaload d10_19 rfl (Sh.onNN (by omega)) (Sh.onCl (by omega)) g1 ?_
    refine Sh.iconst d10_20 (x := (-1)) rfl ?_
    refine Sh.iastore d10_21 rfl (Sh.onNN (by omega)) (Sh.onCl (by omega)) (by omega) rfl (Sh.ls_3) ?_
    refine Sh.iinc d10_22 rfl (ci := 1) rfl (Sh.onSucc _) (Sh.s1_1 rfl rfl) ?_
    refine Sh.goto d10_25 (pc' := 2) rfl (by decide) ?_
    exact ih (i + 1) _ (by omega) (by rw [List.length_set]; exact h2)
theorem clr (hw : HW Z a0) (ls ks ps ps' : List Value) (lb : Nat → Nat) (m n : Nat) (hm : m < 100) (hn : n < 100) (hl : ∀ j, j < m → ls[j]? = some (.int (Int32.ofNat (lb j))) ∧ lb j < n) (hp : ps.length = n) (e : own_clr lb ps 0 m = ps') : Sh.Meth l Z a0 n0 b10 R10 [.ref 0] (own_H (Int32.ofNat m) ls ks ps) (fun v H' => v = none ∧ H' = own_H 0 ls ks ps') := by
  refine Sh.Meth.of pn10 (L := [.val (.ref 0), .unset]) rfl ?_
  subst e
  refine Sh.iconst d10_0 (x := 0) rfl ?_
  refine Sh.istore_n d10_1 (Sh.s1_1 rfl rfl) ?_
  exact lpc l Z a0 n0 hw ls ks lb m n hm hn hl m 0 ps (by omega) hp
theorem sd1 (hw : HW Z a0) (ls ks ps ls' ks' ps' : List Value) (lb : Nat) (key : Int64) (h1 : 0 < ls.length) (h2 : 0 < ks.length) (h3 : lb < ps.length) (hl : lb < 100) (e1 : ls.set 0 (.int (Int32.ofNat lb)) = ls') (e2 : ks.set 0 (.long key) = ks') (e3 : ps.set lb (.int (Int32.ofNat 0)) = ps') : Sh.Meth l Z a0 n0 b9 R9 [.ref 0, .int (Int32.ofNat 0), .int (Int32.ofNat lb), .long key] (own_H 1 ls ks ps) (fun v H' => v = none ∧ H' = own_H 1 ls' ks' ps') := by
  refine Sh.Meth.of pn9 (L := [.val (.ref 0), .val (.int (Int32.ofNat 0)), .val (.int (Int32.ofNat lb)), .val (.long key), .second, .unset, .unset, .unset, .unset, .unset, .unset]) rfl ?_
  refine Sh.iconst d9_0 (x := 4) rfl ?_
  refine Sh.iload_n d9_1 rfl ?_
  refine Sh.imulE (z := 0) d9_2 (by decide) ?_
  refine Sh.iconst d9_3 (x := 1) rfl ?_
  refine Sh.iaddE (z := 1) d9_4 (by decide) ?_
  refine Sh.istore d9_5 (Sh.s1_5 rfl rfl) ?_
  refine Sh.iload d9_7 rfl ?_
  refine Sh.aload_n d9_9 rfl rfl ?_
  refine Sh.getfield hw (i := 26) (j := 3) rfl d9_10 rfl rfl ?_
  refine Sh.icmpT d9_13 (pc' := 124) rfl (by decide) (by decide) ?_
  refine Sh.aload_n d9_124 rfl rfl ?_
  refine Sh.iload_n d9_125 rfl ?_
  refine Sh.iload_n d9_126 rfl ?_
  refine Sh.lload_n d9_127 rfl ?_
  refine Sh.callP hw (i1 := 38) (i2 := 39) (i3 := 2) (i4 := 41) (i5 := 40) (i6 := 1) (k' := 0) (n' := 0) (B' := b7) (R' := R7) rfl rfl rfl rfl rfl rfl (by decide) rfl (pl l Z a0 n0 hw _ ls ks ps ls' ks' ps' 0 lb key h1 h2 h3 (by decide) hl e1 e2 e3) d9_128 rfl rfl pd7 rfl (Sh.le rfl) (Sh.le rfl) (Sh.le rfl) (Sh.le rfl) rfl rfl ?_
  rintro _ _ ⟨rfl, rfl⟩
  refine Sh.ret0 d9_131 rfl (Sh.le rfl) (Sh.le rfl) ?_
  exact ⟨rfl, rfl⟩
theorem rm1 (hw : HW Z a0) (ls ks ps ps' : List Value) (a : Nat) (ha : a < 100) (h : a < ps.length) (g : ls[0]? = some (.int (Int32.ofNat a))) (e : ps.set a (.int (-1)) = ps') : Sh.Meth l Z a0 n0 b8 R8 [.ref 0] (own_H 1 ls ks ps) (fun v H' => v = some (.int (Int32.ofNat a)) ∧ H' = own_H 0 ls ks ps') := by
  refine Sh.Meth.of pn8 (L := [.val (.ref 0), .unset]) rfl ?_
  refine Sh.aload_n d8_0 rfl rfl ?_
  refine Sh.getfield hw (i := 10) (j := 0) rfl d8_1 rfl rfl ?_
  refine Sh.iconst d8_4 (x := 0) rfl ?_
  refine Sh.iaload (jn := 0) d8_5 rfl (by decide) rfl g ?_
  refine Sh.istore_n d8_6 (Sh.s1_1 rfl rfl) ?_
  refine Sh.aload_n d8_7 rfl rfl ?_
  refine Sh.getfield hw (i := 15) (j := 2) rfl d8_8 rfl rfl ?_
  refine Sh.iload_n d8_11 rfl ?_
  refine Sh.iconst d8_12 (x := (-1)) rfl ?_
  refine Sh.iastore d8_13 rfl (Sh.onNN (by omega)) (Sh.onCl (by omega)) h e (Sh.ls_3) ?_
  refine Sh.aload_n d8_14 rfl rfl ?_
  refine Sh.dup d8_15 rfl ?_
  refine Sh.getfield hw (i := 26) (j := 3) rfl d8_16 rfl rfl ?_
  refine Sh.iconst d8_19 (x := 1) rfl ?_
  refine Sh.isubE (z := 0) d8_20 (by decide) ?_
  refine Sh.putfield hw (i := 26) (i2 := 27) (j := 3) (ty := .int) rfl rfl d8_21 rfl rfl (by decide +kernel) rfl rfl (Sh.ls_3) (Sh.ls_0) ?_
  refine Sh.aload_n d8_24 rfl rfl ?_
  refine Sh.getfield hw (i := 26) (j := 3) rfl d8_25 rfl rfl ?_
  refine Sh.ifT d8_28 (pc' := 54) rfl (by decide) (by decide) ?_
  refine Sh.iload_n d8_54 rfl ?_
  refine Sh.retI d8_55 rfl (Sh.le rfl) (Sh.le rfl) ?_
  exact ⟨rfl, rfl⟩
theorem rmS (hw : HW Z a0) (ls ks ps ps1 : List Value) (a lb m : Nat) (key : Int64) (H2 : Sh.SH) (hm0 : 0 < m) (hm : m < 100) (ha : a < 100) (h : a < ps.length) (g : ls[0]? = some (.int (Int32.ofNat a))) (e : ps.set a (.int (-1)) = ps1) (g1 : ls[m]? = some (.int (Int32.ofNat lb))) (g2 : ks[m]? = some (.long key)) (hM : Sh.Meth l Z a0 n0 b9 R9 [.ref 0, .int (Int32.ofNat 0), .int (Int32.ofNat lb), .long key] (own_H (Int32.ofNat m) ls ks ps1) (fun v H' => v = none ∧ H' = H2)) : Sh.Meth l Z a0 n0 b8 R8 [.ref 0] (own_H (Int32.ofNat (m + 1)) ls ks ps) (fun v H' => v = some (.int (Int32.ofNat a)) ∧ H' = H2) := by
  refine Sh.Meth.of pn8 (L := [.val (.ref 0), .unset]) rfl ?_
  refine Sh.aload_n d8_0 rfl rfl ?_
  refine Sh.getfield hw (i := 10) (j := 0) rfl d8_1 rfl rfl ?_
  refine Sh.iconst d8_4 (x := 0) rfl ?_
  refine Sh.iaload (jn := 0) d8_5 rfl (by decide) rfl g ?_
  refine Sh.istore_n d8_6 (Sh.s1_1 rfl rfl) ?_
  refine Sh.aload_n d8_7 rfl rfl ?_
  refine Sh.getfield hw (i := 15) (j := 2) rfl d8_8 rfl rfl ?_
  refine Sh.iload_n d8_11 rfl ?_
  refine Sh.iconst d8_12 (x := (-1)) rfl ?_
  refine Sh.iastore d8_13 rfl (Sh.onNN (by omega)) (Sh.onCl (by omega)) h e (Sh.ls_3) ?_
  refine Sh.aload_n d8_14 rfl rfl ?_
  refine Sh.dup d8_15 rfl ?_
  refine Sh.getfield hw (i := 26) (j := 3) rfl d8_16 rfl rfl ?_
  refine Sh.iconst d8_19 (x := 1) rfl ?_
  refine Sh.isubE d8_20 (Sh.onSub (b := 1) (by omega) (by omega)) ?_
  refine Sh.putfield hw (i := 26) (i2 := 27) (j := 3) (ty := .int) rfl rfl d8_21 rfl rfl (by decide +kernel) rfl rfl (Sh.ls_3) (Sh.ls_0) ?_
  refine Sh.aload_n d8_24 rfl rfl ?_
  refine Sh.getfield hw (i := 26) (j := 3) rfl d8_25 rfl rfl ?_
  refine Sh.ifF d8_28 (fun q => q ((Sh.onLt (a := 0) (by omega) (by omega)).mpr hm0)) ?_
  refine Sh.aload_n d8_31 rfl rfl ?_
  refine Sh.iconst d8_32 (x := 0) rfl ?_
  refine Sh.aload_n d8_33 rfl rfl ?_
  refine Sh.getfield hw (i := 10) (j := 0) rfl d8_34 rfl rfl ?_
  refine Sh.aload_n d8_37 rfl rfl ?_
  refine Sh.getfield hw (i := 26) (j := 3) rfl d8_38 rfl rfl ?_
  refine Sh.iaload d8_41 rfl (Sh.onNN (by omega)) (Sh.onCl (by omega)) g1 ?_
  refine Sh.aload_n d8_42 rfl rfl ?_
  refine Sh.getfield hw (i := 13) (j := 1) rfl d8_43 rfl rfl ?_
  refine Sh.aload_n d8_46 rfl rfl ?_
  refine Sh.getfield hw (i := 26) (j := 3) rfl d8_47 rfl rfl ?_
  refine Sh.laload d8_50 rfl (Sh.onNN (by omega)) (Sh.onCl (by omega)) g2 ?_
  refine Sh.callP hw (i1 := 47) (i2 := 48) (i3 := 2) (i4 := 50) (i5 := 49) (i6 := 1) (k' := 0) (n' := 0) (B' := b9) (R' := R9) rfl rfl rfl rfl rfl rfl (by decide) rfl hM d8_51 rfl rfl pd9 rfl (Sh.le rfl) (Sh.le rfl) (Sh.le rfl) (Sh.le rfl) rfl rfl ?_
  rintro _ _ ⟨rfl, rfl⟩
  refine Sh.iload_n d8_54 rfl ?_
  refine Sh.retI d8_55 rfl (Sh.le rfl) (Sh.le rfl) ?_
  exact ⟨rfl, rfl⟩
theorem U0 (hw : HW Z a0) (a' b' ops x9 x10 x11 x12 : Int32) (k1 k2 : Int64) (ls ks ps : List Value) (hp : ps.length = 3) (e14 : Int32) (s15 : Slot) (h15 : Sh.okS s15 = true) :
    Sh.WP l Z a0 n0 b0 room_1 4 13 204 [.val (.int a'), .val (.int b'), .val (.long k1), .second, .val (.long k2), .second, .val (.int ops), .val (.ref 0), .val (.int 1), .val (.int x9), .val (.int x10), .val (.int x11), .val (.int x12), .val (.int 0), .val (.int e14), s15] [] (own_H 0 ls ks ps) (fun v _ => v = some (.int 1)) := by
  refine Sh.iload at_204 rfl ?_
  refine Sh.bipush at_206 (x := 8) rfl ?_
  refine Sh.iand at_208 ?_
  refine Sh.if_eq at_209 (pc' := 247) rfl (by decide) (fun h209 => ?_) (fun h209 => ?_)
  · refine Sh.iload at_247 rfl ?_
    refine Sh.ifT at_249 (pc' := 298) rfl (by decide) (by decide) ?_
    refine Sh.iload at_298 rfl ?_
    refine Sh.retN at_300 rfl (by simp) rfl (Sh.le rfl) (Sh.le rfl) ?_
    rfl
  · refine Sh.aload at_212 rfl rfl ?_
    refine Sh.callV hw (i1 := 51) (i2 := 53) (i3 := 2) (i4 := 55) (i5 := 52) (i6 := 54) (k' := 4) (n' := 13) (B' := b10) (R' := R10) rfl rfl rfl rfl rfl rfl (by decide) rfl (clr l Z a0 n0 hw _ _ _ _ (fun _ => 0) 0 3 (by decide) (by decide) (fun j hj => absurd hj (by omega)) hp rfl) at_214 rfl rfl pd10 rfl (Sh.le rfl) (Sh.le rfl) (Sh.le rfl) (Sh.le rfl) rfl rfl ?_
    rintro _ _ ⟨rfl, rfl⟩
    refine Sh.iconst at_217 (x := 0) rfl ?_
    refine Sh.istore at_218 (Sh.s1_13 rfl rfl) ?_
    refine Sh.aload at_220 rfl rfl ?_
    refine Sh.callV hw (i1 := 21) (i2 := 23) (i3 := 2) (i4 := 25) (i5 := 22) (i6 := 24) (k' := 4) (n' := 13) (B' := b4) (R' := R4) rfl rfl rfl rfl rfl rfl (by decide) rfl (em1 l Z a0 n0 hw _ _ _) at_222 rfl rfl pd4 rfl (Sh.le rfl) (Sh.le rfl) (Sh.le rfl) (Sh.le rfl) rfl rfl ?_
    rintro _ _ ⟨rfl, rfl⟩
    refine Sh.istore at_225 (Sh.s1_15 h15 rfl) ?_
    refine Sh.iload at_227 rfl ?_
    refine Sh.ifF at_229 (by decide) ?_
    refine Sh.iload at_232 rfl ?_
    refine Sh.ifF at_234 (by decide) ?_
    refine Sh.iconst at_237 (x := 1) rfl ?_
    refine Sh.goto at_238 (pc' := 242) rfl (by decide) ?_
    refine Sh.istore at_242 (Sh.s1_8 rfl rfl) ?_
    refine Sh.goto at_244 (pc' := 298) rfl (by decide) ?_
    refine Sh.iload at_298 rfl ?_
    refine Sh.retN at_300 rfl (by simp) rfl (Sh.le rfl) (Sh.le rfl) ?_
    rfl
theorem U1 (hw : HW Z a0) (a' b' ops x9 x10 x11 x12 : Int32) (k1 k2 : Int64) (ls ks ps : List Value) (hp : ps.length = 3) (a : Nat) (ha : a < 3) (g : ls[0]? = some (.int (Int32.ofNat a))) (e14 : Int32) (s15 : Slot) (h15 : Sh.okS s15 = true) :
    Sh.WP l Z a0 n0 b0 room_1 4 13 204 [.val (.int a'), .val (.int b'), .val (.long k1), .second, .val (.long k2), .second, .val (.int ops), .val (.ref 0), .val (.int 1), .val (.int x9), .val (.int x10), .val (.int x11), .val (.int x12), .val (.int 1), .val (.int e14), s15] [] (own_H 1 ls ks ps) (fun v _ => v = some (.int 1)) := by
  refine Sh.iload at_204 rfl ?_
  refine Sh.bipush at_206 (x := 8) rfl ?_
  refine Sh.iand at_208 ?_
  refine Sh.if_eq at_209 (pc' := 247) rfl (by decide) (fun h209 => ?_) (fun h209 => ?_)
  · refine Sh.iload at_247 rfl ?_
    refine Sh.ifF at_249 (by decide) ?_
    refine Sh.aload at_252 rfl rfl ?_
    refine Sh.callV hw (i1 := 42) (i2 := 44) (i3 := 2) (i4 := 46) (i5 := 43) (i6 := 45) (k' := 4) (n' := 13) (B' := b8) (R' := R8) rfl rfl rfl rfl rfl rfl (by decide) rfl (rm1 l Z a0 n0 hw _ _ _ _ a (by omega) (by omega) g rfl) at_254 rfl rfl pd8 rfl (Sh.le rfl) (Sh.le rfl) (Sh.le rfl) (Sh.le rfl) rfl rfl ?_
    rintro _ _ ⟨rfl, rfl⟩
    refine Sh.pop at_257 rfl ?_
    refine Sh.iload at_258 rfl ?_
    refine Sh.iconst at_260 (x := 1) rfl ?_
    refine Sh.isubE (z := 0) at_261 (by decide) ?_
    refine Sh.istore at_262 (Sh.s1_13 rfl rfl) ?_
    refine Sh.aload at_264 rfl rfl ?_
    refine Sh.callV hw (i1 := 21) (i2 := 23) (i3 := 2) (i4 := 25) (i5 := 22) (i6 := 24) (k' := 4) (n' := 13) (B' := b4) (R' := R4) rfl rfl rfl rfl rfl rfl (by decide) rfl (em1 l Z a0 n0 hw _ _ _) at_266 rfl rfl pd4 rfl (Sh.le rfl) (Sh.le rfl) (Sh.le rfl) (Sh.le rfl) rfl rfl ?_
    rintro _ _ ⟨rfl, rfl⟩
    refine Sh.istore at_269 (Sh.s1_15 h15 rfl) ?_
    refine Sh.iload at_271 rfl ?_
    refine Sh.ifF at_273 (by decide) ?_
    refine Sh.iload at_276 rfl ?_
    refine Sh.iload at_278 rfl ?_
    refine Sh.ifF at_280 (by decide) ?_
    refine Sh.iconst at_283 (x := 1) rfl ?_
    refine Sh.goto at_284 (pc' := 288) rfl (by decide) ?_
    refine Sh.icmpF at_288 (by decide) ?_
    refine Sh.iconst at_291 (x := 1) rfl ?_
    refine Sh.goto at_292 (pc' := 296) rfl (by decide) ?_
    refine Sh.istore at_296 (Sh.s1_8 rfl rfl) ?_
    refine Sh.iload at_298 rfl ?_
    refine Sh.retN at_300 rfl (by simp) rfl (Sh.le rfl) (Sh.le rfl) ?_
    rfl
  · refine Sh.aload at_212 rfl rfl ?_
    refine Sh.callV hw (i1 := 51) (i2 := 53) (i3 := 2) (i4 := 55) (i5 := 52) (i6 := 54) (k' := 4) (n' := 13) (B' := b10) (R' := R10) rfl rfl rfl rfl rfl rfl (by decide) rfl (clr l Z a0 n0 hw _ _ _ _ (fun _ => a) 1 3 (by decide) (by decide) (fun j hj => by obtain rfl : j = 0 := (by omega); exact ⟨g, ha⟩) hp rfl) at_214 rfl rfl pd10 rfl (Sh.le rfl) (Sh.le rfl) (Sh.le rfl) (Sh.le rfl) rfl rfl ?_
    rintro _ _ ⟨rfl, rfl⟩
    refine Sh.iconst at_217 (x := 0) rfl ?_
    refine Sh.istore at_218 (Sh.s1_13 rfl rfl) ?_
    refine Sh.aload at_220 rfl rfl ?_
    refine Sh.callV hw (i1 := 21) (i2 := 23) (i3 := 2) (i4 := 25) (i5 := 22) (i6 := 24) (k' := 4) (n' := 13) (B' := b4) (R' := R4) rfl rfl rfl rfl rfl rfl (by decide) rfl (em1 l Z a0 n0 hw _ _ _) at_222 rfl rfl pd4 rfl (Sh.le rfl) (Sh.le rfl) (Sh.le rfl) (Sh.le rfl) rfl rfl ?_
    rintro _ _ ⟨rfl, rfl⟩
    refine Sh.istore at_225 (Sh.s1_15 h15 rfl) ?_
    refine Sh.iload at_227 rfl ?_
    refine Sh.ifF at_229 (by decide) ?_
    refine Sh.iload at_232 rfl ?_
    refine Sh.ifF at_234 (by decide) ?_
    refine Sh.iconst at_237 (x := 1) rfl ?_
    refine Sh.goto at_238 (pc' := 242) rfl (by decide) ?_
    refine Sh.istore at_242 (Sh.s1_8 rfl rfl) ?_
    refine Sh.goto at_244 (pc' := 298) rfl (by decide) ?_
    refine Sh.iload at_298 rfl ?_
    refine Sh.retN at_300 rfl (by simp) rfl (Sh.le rfl) (Sh.le rfl) ?_
    rfl
theorem U2 (hw : HW Z a0) (a' b' ops x9 x10 x11 x12 : Int32) (k1 k2 : Int64) (ls ks ps : List Value) (hp : ps.length = 3) (a : Nat) (ha : a < 3) (g : ls[0]? = some (.int (Int32.ofNat a))) (u : Nat) (hu : u < 3) (g1 : ls[1]? = some (.int (Int32.ofNat u))) (k : Int64) (gk : ks[1]? = some (.long k)) (e14 : Int32) (s15 : Slot) (h15 : Sh.okS s15 = true) :
    Sh.WP l Z a0 n0 b0 room_1 4 13 204 [.val (.int a'), .val (.int b'), .val (.long k1), .second, .val (.long k2), .second, .val (.int ops), .val (.ref 0), .val (.int 1), .val (.int x9), .val (.int x10), .val (.int x11), .val (.int x12), .val (.int 2), .val (.int e14), s15] [] (own_H 2 ls ks ps) (fun v _ => v = some (.int 1)) := by
  refine Sh.iload at_204 rfl ?_
  refine Sh.bipush at_206 (x := 8) rfl ?_
  refine Sh.iand at_208 ?_
  refine Sh.if_eq at_209 (pc' := 247) rfl (by decide) (fun h209 => ?_) (fun h209 => ?_)
  · refine Sh.iload at_247 rfl ?_
    refine Sh.ifF at_249 (by decide) ?_
    refine Sh.aload at_252 rfl rfl ?_
    refine Sh.callV hw (i1 := 42) (i2 := 44) (i3 := 2) (i4 := 46) (i5 := 43) (i6 := 45) (k' := 4) (n' := 13) (B' := b8) (R' := R8) rfl rfl rfl rfl rfl rfl (by decide) rfl (rmS l Z a0 n0 hw _ _ _ _ a u 1 k _ (by decide) (by decide) (by omega) (by omega) g rfl g1 gk (sd1 l Z a0 n0 hw _ _ _ _ _ _ u k (Sh_lt0 g1) (Sh_lt0 gk) (by rw [List.length_set]; omega) (by omega) rfl rfl rfl)) at_254 rfl rfl pd8 rfl (Sh.le rfl) (Sh.le rfl) (Sh.le rfl) (Sh.le rfl) rfl rfl ?_
    rintro _ _ ⟨rfl, rfl⟩
    refine Sh.pop at_257 rfl ?_
    refine Sh.iload at_258 rfl ?_
    refine Sh.iconst at_260 (x := 1) rfl ?_
    refine Sh.isubE (z := 1) at_261 (by decide) ?_
    refine Sh.istore at_262 (Sh.s1_13 rfl rfl) ?_
    refine Sh.aload at_264 rfl rfl ?_
    refine Sh.callV hw (i1 := 21) (i2 := 23) (i3 := 2) (i4 := 25) (i5 := 22) (i6 := 24) (k' := 4) (n' := 13) (B' := b4) (R' := R4) rfl rfl rfl rfl rfl rfl (by decide) rfl (em0 l Z a0 n0 hw _ _ _ _ (by decide)) at_266 rfl rfl pd4 rfl (Sh.le rfl) (Sh.le rfl) (Sh.le rfl) (Sh.le rfl) rfl rfl ?_
    rintro _ _ ⟨rfl, rfl⟩
    refine Sh.istore at_269 (Sh.s1_15 h15 rfl) ?_
    refine Sh.iload at_271 rfl ?_
    refine Sh.ifF at_273 (by decide) ?_
    refine Sh.iload at_276 rfl ?_
    refine Sh.iload at_278 rfl ?_
    refine Sh.ifT at_280 (pc' := 287) rfl (by decide) (by decide) ?_
    refine Sh.iconst at_287 (x := 0) rfl ?_
    refine Sh.icmpF at_288 (by decide) ?_
    refine Sh.iconst at_291 (x := 1) rfl ?_
    refine Sh.goto at_292 (pc' := 296) rfl (by decide) ?_
    refine Sh.istore at_296 (Sh.s1_8 rfl rfl) ?_
    refine Sh.iload at_298 rfl ?_
    refine Sh.retN at_300 rfl (by simp) rfl (Sh.le rfl) (Sh.le rfl) ?_
    rfl
  · refine Sh.aload at_212 rfl rfl ?_
    refine Sh.callV hw (i1 := 51) (i2 := 53) (i3 := 2) (i4 := 55) (i5 := 52) (i6 := 54) (k' := 4) (n' := 13) (B' := b10) (R' := R10) rfl rfl rfl rfl rfl rfl (by decide) rfl (clr l Z a0 n0 hw _ _ _ _ (fun j => if j = 0 then a else u) 2 3 (by decide) (by decide) (fun j hj => by match j, hj with | 0, _ => exact ⟨g, ha⟩ | 1, _ => exact ⟨g1, hu⟩) hp rfl) at_214 rfl rfl pd10 rfl (Sh.le rfl) (Sh.le rfl) (Sh.le rfl) (Sh.le rfl) rfl rfl ?_
    rintro _ _ ⟨rfl, rfl⟩
    refine Sh.iconst at_217 (x := 0) rfl ?_
    refine Sh.istore at_218 (Sh.s1_13 rfl rfl) ?_
    refine Sh.aload at_220 rfl rfl ?_
    refine Sh.callV hw (i1 := 21) (i2 := 23) (i3 := 2) (i4 := 25) (i5 := 22) (i6 := 24) (k' := 4) (n' := 13) (B' := b4) (R' := R4) rfl rfl rfl rfl rfl rfl (by decide) rfl (em1 l Z a0 n0 hw _ _ _) at_222 rfl rfl pd4 rfl (Sh.le rfl) (Sh.le rfl) (Sh.le rfl) (Sh.le rfl) rfl rfl ?_
    rintro _ _ ⟨rfl, rfl⟩
    refine Sh.istore at_225 (Sh.s1_15 h15 rfl) ?_
    refine Sh.iload at_227 rfl ?_
    refine Sh.ifF at_229 (by decide) ?_
    refine Sh.iload at_232 rfl ?_
    refine Sh.ifF at_234 (by decide) ?_
    refine Sh.iconst at_237 (x := 1) rfl ?_
    refine Sh.goto at_238 (pc' := 242) rfl (by decide) ?_
    refine Sh.istore at_242 (Sh.s1_8 rfl rfl) ?_
    refine Sh.goto at_244 (pc' := 298) rfl (by decide) ?_
    refine Sh.iload at_298 rfl ?_
    refine Sh.retN at_300 rfl (by simp) rfl (Sh.le rfl) (Sh.le rfl) ?_
    rfl
theorem T0 (hw : HW Z a0) (a' b' ops x9 x10 x11 x12 : Int32) (k1 k2 : Int64) (ls ks ps : List Value) (hp : ps.length = 3) :
    Sh.WP l Z a0 n0 b0 room_1 4 13 112 [.val (.int a'), .val (.int b'), .val (.long k1), .second, .val (.long k2), .second, .val (.int ops), .val (.ref 0), .val (.int 1), .val (.int x9), .val (.int x10), .val (.int x11), .val (.int x12), .val (.int 0), .unset, .unset] [] (own_H 0 ls ks ps) (fun v _ => v = some (.int 1)) := by
  refine Sh.aload at_112 rfl rfl ?_
  refine Sh.callV hw (i1 := 21) (i2 := 23) (i3 := 2) (i4 := 25) (i5 := 22) (i6 := 24) (k' := 4) (n' := 13) (B' := b4) (R' := R4) rfl rfl rfl rfl rfl rfl (by decide) rfl (em1 l Z a0 n0 hw _ _ _) at_114 rfl rfl pd4 rfl (Sh.le rfl) (Sh.le rfl) (Sh.le rfl) (Sh.le rfl) rfl rfl ?_
  rintro _ _ ⟨rfl, rfl⟩
  refine Sh.istore at_117 (Sh.s1_14 rfl rfl) ?_
  refine Sh.iload at_119 rfl ?_
  refine Sh.ifF at_121 (by decide) ?_
  refine Sh.iload at_124 rfl ?_
  refine Sh.iload at_126 rfl ?_
  refine Sh.ifF at_128 (by decide) ?_
  refine Sh.iconst at_131 (x := 1) rfl ?_
  refine Sh.goto at_132 (pc' := 136) rfl (by decide) ?_
  refine Sh.icmpF at_136 (by decide) ?_
  refine Sh.iconst at_139 (x := 1) rfl ?_
  refine Sh.goto at_140 (pc' := 144) rfl (by decide) ?_
  refine Sh.istore at_144 (Sh.s1_8 rfl rfl) ?_
  refine Sh.iload at_146 rfl ?_
  refine Sh.iconst at_148 (x := 4) rfl ?_
  refine Sh.iand at_149 ?_
  refine Sh.if_eq at_150 (pc' := 204) rfl (by decide) (fun h150 => ?_) (fun h150 => ?_)
  · skip
    exact U0 l Z a0 n0 hw a' b' ops x9 x10 x11 x12 k1 k2 ls ks ps hp _ _ rfl
  · refine Sh.iload at_153 rfl ?_
    refine Sh.ifT at_155 (pc' := 204) rfl (by decide) (by decide) ?_
    exact U0 l Z a0 n0 hw a' b' ops x9 x10 x11 x12 k1 k2 ls ks ps hp _ _ rfl
theorem T1 (hw : HW Z a0) (a' b' ops x9 x10 x11 x12 : Int32) (k1 k2 : Int64) (ls ks ps : List Value) (hp : ps.length = 3) (a : Nat) (ha : a < 3) (g : ls[0]? = some (.int (Int32.ofNat a))) :
    Sh.WP l Z a0 n0 b0 room_1 4 13 112 [.val (.int a'), .val (.int b'), .val (.long k1), .second, .val (.long k2), .second, .val (.int ops), .val (.ref 0), .val (.int 1), .val (.int x9), .val (.int x10), .val (.int x11), .val (.int x12), .val (.int 1), .unset, .unset] [] (own_H 1 ls ks ps) (fun v _ => v = some (.int 1)) := by
  refine Sh.aload at_112 rfl rfl ?_
  refine Sh.callV hw (i1 := 21) (i2 := 23) (i3 := 2) (i4 := 25) (i5 := 22) (i6 := 24) (k' := 4) (n' := 13) (B' := b4) (R' := R4) rfl rfl rfl rfl rfl rfl (by decide) rfl (em0 l Z a0 n0 hw _ _ _ _ (by decide)) at_114 rfl rfl pd4 rfl (Sh.le rfl) (Sh.le rfl) (Sh.le rfl) (Sh.le rfl) rfl rfl ?_
  rintro _ _ ⟨rfl, rfl⟩
  refine Sh.istore at_117 (Sh.s1_14 rfl rfl) ?_
  refine Sh.iload at_119 rfl ?_
  refine Sh.ifF at_121 (by decide) ?_
  refine Sh.iload at_124 rfl ?_
  refine Sh.iload at_126 rfl ?_
  refine Sh.ifT at_128 (pc' := 135) rfl (by decide) (by decide) ?_
  refine Sh.iconst at_135 (x := 0) rfl ?_
  refine Sh.icmpF at_136 (by decide) ?_
  refine Sh.iconst at_139 (x := 1) rfl ?_
  refine Sh.goto at_140 (pc' := 144) rfl (by decide) ?_
  refine Sh.istore at_144 (Sh.s1_8 rfl rfl) ?_
  refine Sh.iload at_146 rfl ?_
  refine Sh.iconst at_148 (x := 4) rfl ?_
  refine Sh.iand at_149 ?_
  refine Sh.if_eq at_150 (pc' := 204) rfl (by decide) (fun h150 => ?_) (fun h150 => ?_)
  · skip
    exact U1 l Z a0 n0 hw a' b' ops x9 x10 x11 x12 k1 k2 ls ks ps hp a ha g _ _ rfl
  · refine Sh.iload at_153 rfl ?_
    refine Sh.ifF at_155 (by decide) ?_
    refine Sh.aload at_158 rfl rfl ?_
    refine Sh.callV hw (i1 := 42) (i2 := 44) (i3 := 2) (i4 := 46) (i5 := 43) (i6 := 45) (k' := 4) (n' := 13) (B' := b8) (R' := R8) rfl rfl rfl rfl rfl rfl (by decide) rfl (rm1 l Z a0 n0 hw _ _ _ _ a (by omega) (by omega) g rfl) at_160 rfl rfl pd8 rfl (Sh.le rfl) (Sh.le rfl) (Sh.le rfl) (Sh.le rfl) rfl rfl ?_
    rintro _ _ ⟨rfl, rfl⟩
    refine Sh.pop at_163 rfl ?_
    refine Sh.iload at_164 rfl ?_
    refine Sh.iconst at_166 (x := 1) rfl ?_
    refine Sh.isubE (z := 0) at_167 (by decide) ?_
    refine Sh.istore at_168 (Sh.s1_13 rfl rfl) ?_
    refine Sh.aload at_170 rfl rfl ?_
    refine Sh.callV hw (i1 := 21) (i2 := 23) (i3 := 2) (i4 := 25) (i5 := 22) (i6 := 24) (k' := 4) (n' := 13) (B' := b4) (R' := R4) rfl rfl rfl rfl rfl rfl (by decide) rfl (em1 l Z a0 n0 hw _ _ _) at_172 rfl rfl pd4 rfl (Sh.le rfl) (Sh.le rfl) (Sh.le rfl) (Sh.le rfl) rfl rfl ?_
    rintro _ _ ⟨rfl, rfl⟩
    refine Sh.istore at_175 (Sh.s1_15 rfl rfl) ?_
    refine Sh.iload at_177 rfl ?_
    refine Sh.ifF at_179 (by decide) ?_
    refine Sh.iload at_182 rfl ?_
    refine Sh.iload at_184 rfl ?_
    refine Sh.ifF at_186 (by decide) ?_
    refine Sh.iconst at_189 (x := 1) rfl ?_
    refine Sh.goto at_190 (pc' := 194) rfl (by decide) ?_
    refine Sh.icmpF at_194 (by decide) ?_
    refine Sh.iconst at_197 (x := 1) rfl ?_
    refine Sh.goto at_198 (pc' := 202) rfl (by decide) ?_
    refine Sh.istore at_202 (Sh.s1_8 rfl rfl) ?_
    exact U0 l Z a0 n0 hw a' b' ops x9 x10 x11 x12 k1 k2 _ _ _ (by rw [List.length_set]; exact hp) _ _ rfl
theorem T2 (hw : HW Z a0) (a' b' ops x9 x10 x11 x12 : Int32) (k1 k2 : Int64) (ls ks ps : List Value) (hp : ps.length = 3) (a : Nat) (ha : a < 3) (g : ls[0]? = some (.int (Int32.ofNat a))) (u : Nat) (hu : u < 3) (g1 : ls[1]? = some (.int (Int32.ofNat u))) (k : Int64) (gk : ks[1]? = some (.long k)) :
    Sh.WP l Z a0 n0 b0 room_1 4 13 112 [.val (.int a'), .val (.int b'), .val (.long k1), .second, .val (.long k2), .second, .val (.int ops), .val (.ref 0), .val (.int 1), .val (.int x9), .val (.int x10), .val (.int x11), .val (.int x12), .val (.int 2), .unset, .unset] [] (own_H 2 ls ks ps) (fun v _ => v = some (.int 1)) := by
  refine Sh.aload at_112 rfl rfl ?_
  refine Sh.callV hw (i1 := 21) (i2 := 23) (i3 := 2) (i4 := 25) (i5 := 22) (i6 := 24) (k' := 4) (n' := 13) (B' := b4) (R' := R4) rfl rfl rfl rfl rfl rfl (by decide) rfl (em0 l Z a0 n0 hw _ _ _ _ (by decide)) at_114 rfl rfl pd4 rfl (Sh.le rfl) (Sh.le rfl) (Sh.le rfl) (Sh.le rfl) rfl rfl ?_
  rintro _ _ ⟨rfl, rfl⟩
  refine Sh.istore at_117 (Sh.s1_14 rfl rfl) ?_
  refine Sh.iload at_119 rfl ?_
  refine Sh.ifF at_121 (by decide) ?_
  refine Sh.iload at_124 rfl ?_
  refine Sh.iload at_126 rfl ?_
  refine Sh.ifT at_128 (pc' := 135) rfl (by decide) (by decide) ?_
  refine Sh.iconst at_135 (x := 0) rfl ?_
  refine Sh.icmpF at_136 (by decide) ?_
  refine Sh.iconst at_139 (x := 1) rfl ?_
  refine Sh.goto at_140 (pc' := 144) rfl (by decide) ?_
  refine Sh.istore at_144 (Sh.s1_8 rfl rfl) ?_
  refine Sh.iload at_146 rfl ?_
  refine Sh.iconst at_148 (x := 4) rfl ?_
  refine Sh.iand at_149 ?_
  refine Sh.if_eq at_150 (pc' := 204) rfl (by decide) (fun h150 => ?_) (fun h150 => ?_)
  · skip
    exact U2 l Z a0 n0 hw a' b' ops x9 x10 x11 x12 k1 k2 ls ks ps hp a ha g u hu g1 k gk _ _ rfl
  · refine Sh.iload at_153 rfl ?_
    refine Sh.ifF at_155 (by decide) ?_
    refine Sh.aload at_158 rfl rfl ?_
    refine Sh.callV hw (i1 := 42) (i2 := 44) (i3 := 2) (i4 := 46) (i5 := 43) (i6 := 45) (k' := 4) (n' := 13) (B' := b8) (R' := R8) rfl rfl rfl rfl rfl rfl (by decide) rfl (rmS l Z a0 n0 hw _ _ _ _ a u 1 k _ (by decide) (by decide) (by omega) (by omega) g rfl g1 gk (sd1 l Z a0 n0 hw _ _ _ _ _ _ u k (Sh_lt0 g1) (Sh_lt0 gk) (by rw [List.length_set]; omega) (by omega) rfl rfl rfl)) at_160 rfl rfl pd8 rfl (Sh.le rfl) (Sh.le rfl) (Sh.le rfl) (Sh.le rfl) rfl rfl ?_
    rintro _ _ ⟨rfl, rfl⟩
    refine Sh.pop at_163 rfl ?_
    refine Sh.iload at_164 rfl ?_
    refine Sh.iconst at_166 (x := 1) rfl ?_
    refine Sh.isubE (z := 1) at_167 (by decide) ?_
    refine Sh.istore at_168 (Sh.s1_13 rfl rfl) ?_
    refine Sh.aload at_170 rfl rfl ?_
    refine Sh.callV hw (i1 := 21) (i2 := 23) (i3 := 2) (i4 := 25) (i5 := 22) (i6 := 24) (k' := 4) (n' := 13) (B' := b4) (R' := R4) rfl rfl rfl rfl rfl rfl (by decide) rfl (em0 l Z a0 n0 hw _ _ _ _ (by decide)) at_172 rfl rfl pd4 rfl (Sh.le rfl) (Sh.le rfl) (Sh.le rfl) (Sh.le rfl) rfl rfl ?_
    rintro _ _ ⟨rfl, rfl⟩
    refine Sh.istore at_175 (Sh.s1_15 rfl rfl) ?_
    refine Sh.iload at_177 rfl ?_
    refine Sh.ifF at_179 (by decide) ?_
    refine Sh.iload at_182 rfl ?_
    refine Sh.iload at_184 rfl ?_
    refine Sh.ifT at_186 (pc' := 193) rfl (by decide) (by decide) ?_
    refine Sh.iconst at_193 (x := 0) rfl ?_
    refine Sh.icmpF at_194 (by decide) ?_
    refine Sh.iconst at_197 (x := 1) rfl ?_
    refine Sh.goto at_198 (pc' := 202) rfl (by decide) ?_
    refine Sh.istore at_202 (Sh.s1_8 rfl rfl) ?_
    exact U1 l Z a0 n0 hw a' b' ops x9 x10 x11 x12 k1 k2 _ _ _ (by rw [List.length_set, List.length_set]; exact hp) u hu (by rw [List.getElem?_set_self (Sh_lt0 g1)]) _ _ rfl
theorem own_m3 (x : Nat) (h : x < 3) : [Value.int (-1), .int (-1), .int (-1)][x]? = some (.int (-1)) := by
  match x, h with
  | 0, _ => rfl
  | 1, _ => rfl
  | 2, _ => rfl
theorem law_ok (hw : HW Z a0) (a' b' : Int32) (k1 k2 : Int64) (ops : Int32) : Sh.Meth l Z a0 n0 b0 room_1 [.int a', .int b', .long k1, .long k2, .int ops] [] (fun v _ => v = some (.int 1)) := by
  refine Sh.Meth.of pn0 (L := [.val (.int a'), .val (.int b'), .val (.long k1), .second, .val (.long k2), .second, .val (.int ops), .unset, .unset, .unset, .unset, .unset, .unset, .unset, .unset, .unset]) rfl ?_
  obtain ⟨a, ha, ea⟩ := Sh.remNat a' 3 3 (by decide) (by decide)
  obtain ⟨b, hb, eb⟩ := Sh.remNat b' 3 3 (by decide) (by decide)
  refine Sh.newobj hw (i1 := 0) (i2 := 1) (i3 := 2) (k' := 1) (n' := 4) (a := 0) rfl rfl rfl at_0 fs_LabelHeap nd_LabelHeap (Sh.le rfl) (Sh.le rfl) rfl rfl rfl (Sh.ap_0) ?_
  refine Sh.dup at_3 rfl ?_
  refine Sh.iconst at_4 (x := 3) rfl ?_
  refine Sh.callI hw (i1 := 3) (i2 := 4) (i3 := 2) (i4 := 5) (k' := 4) (n' := 13) (B' := b1) (R' := R1) rfl rfl rfl rfl rfl rfl (by decide) (ctor l Z a0 n0 hw _ _ _) at_5 rfl rfl pd1 rfl (Sh.le rfl) (Sh.le rfl) (Sh.le rfl) (Sh.le rfl) rfl rfl ?_
  rintro _ _ ⟨rfl, rfl⟩
  refine Sh.astore at_8 rfl (Sh.s1_7 rfl rfl) ?_
  refine Sh.aload at_10 rfl rfl ?_
  refine Sh.callV hw (i1 := 21) (i2 := 23) (i3 := 2) (i4 := 25) (i5 := 22) (i6 := 24) (k' := 4) (n' := 13) (B' := b4) (R' := R4) rfl rfl rfl rfl rfl rfl (by decide) rfl (em1 l Z a0 n0 hw _ _ _) at_12 rfl rfl pd4 rfl (Sh.le rfl) (Sh.le rfl) (Sh.le rfl) (Sh.le rfl) rfl rfl ?_
  rintro _ _ ⟨rfl, rfl⟩
  refine Sh.istore at_15 (Sh.s1_8 rfl rfl) ?_
  refine Sh.iload_n at_17 rfl ?_
  refine Sh.ldcI hw (i := 28) rfl at_18 ?_
  refine Sh.iand at_20 ?_
  refine Sh.iconst at_21 (x := 3) rfl ?_
  refine Sh.irem at_22 (by decide) ?_
  rw [ea]
  refine Sh.istore at_23 (Sh.s1_9 rfl rfl) ?_
  refine Sh.iload_n at_25 rfl ?_
  refine Sh.ldcI hw (i := 28) rfl at_26 ?_
  refine Sh.iand at_28 ?_
  refine Sh.iconst at_29 (x := 3) rfl ?_
  refine Sh.irem at_30 (by decide) ?_
  rw [eb]
  refine Sh.istore at_31 (Sh.s1_10 rfl rfl) ?_
  refine Sh.iload at_33 rfl ?_
  refine Sh.iconst at_35 (x := 1) rfl ?_
  refine Sh.iand at_36 ?_
  refine Sh.if_eq at_37 (pc' := 44) rfl (by decide) (fun h37 => ?_) (fun h37 => ?_)
  · refine Sh.iconst at_44 (x := 0) rfl ?_
    refine Sh.istore at_45 (Sh.s1_11 rfl rfl) ?_
    refine Sh.iload at_47 rfl ?_
    refine Sh.iconst at_49 (x := 2) rfl ?_
    refine Sh.iand at_50 ?_
    refine Sh.if_eq at_51 (pc' := 58) rfl (by decide) (fun h51 => ?_) (fun h51 => ?_)
    · refine Sh.iconst at_58 (x := 0) rfl ?_
      refine Sh.istore at_59 (Sh.s1_12 rfl rfl) ?_
      refine Sh.iconst at_61 (x := 0) rfl ?_
      refine Sh.istore at_62 (Sh.s1_13 rfl rfl) ?_
      refine Sh.iload at_64 rfl ?_
      refine Sh.ifT at_66 (pc' := 80) rfl (by decide) (by decide) ?_
      refine Sh.iload at_80 rfl ?_
      refine Sh.ifT at_82 (pc' := 112) rfl (by decide) (by decide) ?_
      exact T0 l Z a0 n0 hw a' b' ops _ _ _ _ k1 k2 _ _ _ rfl
    · refine Sh.iconst at_54 (x := 1) rfl ?_
      refine Sh.goto at_55 (pc' := 59) rfl (by decide) ?_
      refine Sh.istore at_59 (Sh.s1_12 rfl rfl) ?_
      refine Sh.iconst at_61 (x := 0) rfl ?_
      refine Sh.istore at_62 (Sh.s1_13 rfl rfl) ?_
      refine Sh.iload at_64 rfl ?_
      refine Sh.ifT at_66 (pc' := 80) rfl (by decide) (by decide) ?_
      refine Sh.iload at_80 rfl ?_
      refine Sh.ifF at_82 (by decide) ?_
      refine Sh.aload at_85 rfl rfl ?_
      refine Sh.iload at_87 rfl ?_
      refine Sh.lload at_89 rfl ?_
      refine Sh.callV hw (i1 := 29) (i2 := 31) (i3 := 2) (i4 := 33) (i5 := 30) (i6 := 32) (k' := 4) (n' := 13) (B' := b5) (R' := R5) rfl rfl rfl rfl rfl rfl (by decide) rfl (ins_new l Z a0 n0 hw 0 b k2 _ _ _ _ (by decide) (by omega) (own_m3 b hb) (su0 l Z a0 n0 hw _ _ _ _ _ _ _ b k2 (Sh.le rfl) (Sh.le rfl) (by show b < 3; exact hb) (by omega) (Sh.ls_0) (Sh.ls_0) rfl)) at_91 rfl rfl pd5 rfl (Sh.le rfl) (Sh.le rfl) (Sh.le rfl) (Sh.le rfl) rfl rfl ?_
      rintro _ _ ⟨rfl, rfl⟩
      refine Sh.iload at_94 rfl ?_
      refine Sh.ifT at_96 (pc' := 106) rfl (by decide) (by decide) ?_
      refine Sh.iload at_106 rfl ?_
      refine Sh.iconst at_108 (x := 1) rfl ?_
      refine Sh.iaddE (z := 1) at_109 (by decide) ?_
      refine Sh.istore at_110 (Sh.s1_13 rfl rfl) ?_
      exact T1 l Z a0 n0 hw a' b' ops _ _ _ _ k1 k2 _ _ _ (by rw [List.length_set]; rfl) b hb rfl
  · refine Sh.iconst at_40 (x := 1) rfl ?_
    refine Sh.goto at_41 (pc' := 45) rfl (by decide) ?_
    refine Sh.istore at_45 (Sh.s1_11 rfl rfl) ?_
    refine Sh.iload at_47 rfl ?_
    refine Sh.iconst at_49 (x := 2) rfl ?_
    refine Sh.iand at_50 ?_
    refine Sh.if_eq at_51 (pc' := 58) rfl (by decide) (fun h51 => ?_) (fun h51 => ?_)
    · refine Sh.iconst at_58 (x := 0) rfl ?_
      refine Sh.istore at_59 (Sh.s1_12 rfl rfl) ?_
      refine Sh.iconst at_61 (x := 0) rfl ?_
      refine Sh.istore at_62 (Sh.s1_13 rfl rfl) ?_
      refine Sh.iload at_64 rfl ?_
      refine Sh.ifF at_66 (by decide) ?_
      refine Sh.aload at_69 rfl rfl ?_
      refine Sh.iload at_71 rfl ?_
      refine Sh.lload_n at_73 rfl ?_
      refine Sh.callV hw (i1 := 29) (i2 := 31) (i3 := 2) (i4 := 33) (i5 := 30) (i6 := 32) (k' := 4) (n' := 13) (B' := b5) (R' := R5) rfl rfl rfl rfl rfl rfl (by decide) rfl (ins_new l Z a0 n0 hw 0 a k1 _ _ _ _ (by decide) (by omega) (own_m3 a ha) (su0 l Z a0 n0 hw _ _ _ _ _ _ _ a k1 (Sh.le rfl) (Sh.le rfl) (by show a < 3; exact ha) (by omega) (Sh.ls_0) (Sh.ls_0) rfl)) at_74 rfl rfl pd5 rfl (Sh.le rfl) (Sh.le rfl) (Sh.le rfl) (Sh.le rfl) rfl rfl ?_
      rintro _ _ ⟨rfl, rfl⟩
      refine Sh.iconst at_77 (x := 1) rfl ?_
      refine Sh.istore at_78 (Sh.s1_13 rfl rfl) ?_
      refine Sh.iload at_80 rfl ?_
      refine Sh.ifT at_82 (pc' := 112) rfl (by decide) (by decide) ?_
      exact T1 l Z a0 n0 hw a' b' ops _ _ _ _ k1 k2 _ _ _ (by rw [List.length_set]; rfl) a ha rfl
    · refine Sh.iconst at_54 (x := 1) rfl ?_
      refine Sh.goto at_55 (pc' := 59) rfl (by decide) ?_
      refine Sh.istore at_59 (Sh.s1_12 rfl rfl) ?_
      refine Sh.iconst at_61 (x := 0) rfl ?_
      refine Sh.istore at_62 (Sh.s1_13 rfl rfl) ?_
      refine Sh.iload at_64 rfl ?_
      refine Sh.ifF at_66 (by decide) ?_
      refine Sh.aload at_69 rfl rfl ?_
      refine Sh.iload at_71 rfl ?_
      refine Sh.lload_n at_73 rfl ?_
      refine Sh.callV hw (i1 := 29) (i2 := 31) (i3 := 2) (i4 := 33) (i5 := 30) (i6 := 32) (k' := 4) (n' := 13) (B' := b5) (R' := R5) rfl rfl rfl rfl rfl rfl (by decide) rfl (ins_new l Z a0 n0 hw 0 a k1 _ _ _ _ (by decide) (by omega) (own_m3 a ha) (su0 l Z a0 n0 hw _ _ _ _ _ _ _ a k1 (Sh.le rfl) (Sh.le rfl) (by show a < 3; exact ha) (by omega) (Sh.ls_0) (Sh.ls_0) rfl)) at_74 rfl rfl pd5 rfl (Sh.le rfl) (Sh.le rfl) (Sh.le rfl) (Sh.le rfl) rfl rfl ?_
      rintro _ _ ⟨rfl, rfl⟩
      refine Sh.iconst at_77 (x := 1) rfl ?_
      refine Sh.istore at_78 (Sh.s1_13 rfl rfl) ?_
      refine Sh.iload at_80 rfl ?_
      refine Sh.ifF at_82 (by decide) ?_
      refine Sh.aload at_85 rfl rfl ?_
      refine Sh.iload at_87 rfl ?_
      refine Sh.lload at_89 rfl ?_
      have hlen : ([Value.int (-1), .int (-1), .int (-1)].set a (.int (Int32.ofNat 0))).length = 3 := by rw [List.length_set]; rfl
      by_cases n_ba : b = a
      · obtain rfl := n_ba
        have gA : ([Value.int (-1), .int (-1), .int (-1)].set b (.int (Int32.ofNat 0)))[b]? = some (.int (Int32.ofNat 0)) := by rw [List.getElem?_set_self (by show b < 3; exact hb)]
        by_cases hk : k2 < k1
        · refine Sh.callV hw (i1 := 29) (i2 := 31) (i3 := 2) (i4 := 33) (i5 := 30) (i6 := 32) (k' := 4) (n' := 13) (B' := b5) (R' := R5) rfl rfl rfl rfl rfl rfl (by decide) rfl (ins_low l Z a0 n0 hw _ b 0 k2 k1 _ _ _ _ (by omega) (by decide) gA rfl hk (su0 l Z a0 n0 hw _ _ _ _ _ _ _ b k2 (Sh.le rfl) (Sh.le rfl) (by rw [hlen]; exact hb) (by omega) (Sh.ls_0) (Sh.ls_0) rfl)) at_91 rfl rfl pd5 rfl (Sh.le rfl) (Sh.le rfl) (Sh.le rfl) (Sh.le rfl) rfl rfl ?_
          rintro _ _ ⟨rfl, rfl⟩
          refine Sh.iload at_94 rfl ?_
          refine Sh.ifF at_96 (by decide) ?_
          refine Sh.iload at_99 rfl ?_
          refine Sh.iload at_101 rfl ?_
          refine Sh.icmpT at_103 (pc' := 112) rfl (by decide) rfl ?_
          exact T1 l Z a0 n0 hw a' b' ops _ _ _ _ k1 k2 _ _ _ (by rw [List.length_set, List.length_set]; rfl) b hb rfl
        · refine Sh.callV hw (i1 := 29) (i2 := 31) (i3 := 2) (i4 := 33) (i5 := 30) (i6 := 32) (k' := 4) (n' := 13) (B' := b5) (R' := R5) rfl rfl rfl rfl rfl rfl (by decide) rfl (ins_skip l Z a0 n0 hw _ b 0 k2 k1 _ _ _ (by omega) (by decide) gA rfl hk) at_91 rfl rfl pd5 rfl (Sh.le rfl) (Sh.le rfl) (Sh.le rfl) (Sh.le rfl) rfl rfl ?_
          rintro _ _ ⟨rfl, rfl⟩
          refine Sh.iload at_94 rfl ?_
          refine Sh.ifF at_96 (by decide) ?_
          refine Sh.iload at_99 rfl ?_
          refine Sh.iload at_101 rfl ?_
          refine Sh.icmpT at_103 (pc' := 112) rfl (by decide) rfl ?_
          exact T1 l Z a0 n0 hw a' b' ops _ _ _ _ k1 k2 _ _ _ (by rw [List.length_set]; rfl) b hb rfl
      · have gA : ([Value.int (-1), .int (-1), .int (-1)].set a (.int (Int32.ofNat 0)))[b]? = some (.int (-1)) := by rw [List.getElem?_set_ne (fun z => n_ba z.symm)]; exact own_m3 b hb
        have n3 : ¬ Int32.ofNat a = Int32.ofNat b := fun z => n_ba ((Sh.onInj (by omega) (by omega)).mp z).symm
        by_cases hk : k2 < k1
        · refine Sh.callV hw (i1 := 29) (i2 := 31) (i3 := 2) (i4 := 33) (i5 := 30) (i6 := 32) (k' := 4) (n' := 13) (B' := b5) (R' := R5) rfl rfl rfl rfl rfl rfl (by decide) rfl (ins_new l Z a0 n0 hw 1 b k2 _ _ _ _ (by decide) (by omega) gA (su_sw l Z a0 n0 hw _ _ _ _ _ _ _ _ _ _ 1 b a k2 _ (Sh.le rfl) (Sh.le rfl) (by rw [hlen]; exact hb) (by rw [hlen]; exact ha) (by decide) (by omega) (by omega) (Sh.ls_1) (Sh.ls_1) rfl (Sh.ls_0) (Sh.ls_0) rfl (by decide) (by decide) rfl rfl hk)) at_91 rfl rfl pd5 rfl (Sh.le rfl) (Sh.le rfl) (Sh.le rfl) (Sh.le rfl) rfl rfl ?_
          rintro _ _ ⟨rfl, rfl⟩
          refine Sh.iload at_94 rfl ?_
          refine Sh.ifF at_96 (by decide) ?_
          refine Sh.iload at_99 rfl ?_
          refine Sh.iload at_101 rfl ?_
          refine Sh.icmpF at_103 n3 ?_
          refine Sh.iload at_106 rfl ?_
          refine Sh.iconst at_108 (x := 1) rfl ?_
          refine Sh.iaddE (z := 2) at_109 (by decide) ?_
          refine Sh.istore at_110 (Sh.s1_13 rfl rfl) ?_
          exact T2 l Z a0 n0 hw a' b' ops _ _ _ _ k1 k2 _ _ _ (by rw [List.length_set, List.length_set]; exact hlen) b hb rfl a ha rfl k1 rfl
        · refine Sh.callV hw (i1 := 29) (i2 := 31) (i3 := 2) (i4 := 33) (i5 := 30) (i6 := 32) (k' := 4) (n' := 13) (B' := b5) (R' := R5) rfl rfl rfl rfl rfl rfl (by decide) rfl (ins_new l Z a0 n0 hw 1 b k2 _ _ _ _ (by decide) (by omega) gA (su_no l Z a0 n0 hw _ _ _ _ _ _ _ 1 b k2 (Sh.le rfl) (Sh.le rfl) (by rw [hlen]; exact hb) (by decide) (by omega) (Sh.ls_1) (Sh.ls_1) rfl (by decide) (by decide) _ rfl hk)) at_91 rfl rfl pd5 rfl (Sh.le rfl) (Sh.le rfl) (Sh.le rfl) (Sh.le rfl) rfl rfl ?_
          rintro _ _ ⟨rfl, rfl⟩
          refine Sh.iload at_94 rfl ?_
          refine Sh.ifF at_96 (by decide) ?_
          refine Sh.iload at_99 rfl ?_
          refine Sh.iload at_101 rfl ?_
          refine Sh.icmpF at_103 n3 ?_
          refine Sh.iload at_106 rfl ?_
          refine Sh.iconst at_108 (x := 1) rfl ?_
          refine Sh.iaddE (z := 2) at_109 (by decide) ?_
          refine Sh.istore at_110 (Sh.s1_13 rfl rfl) ?_
          exact T2 l Z a0 n0 hw a' b' ops _ _ _ _ k1 k2 _ _ _ (by rw [List.length_set]; exact hlen) a ha rfl b hb rfl k2 rfl
end
set_option maxRecDepth 65536 in
set_option maxHeartbeats 40000000 in
theorem comes_1 {Post : Tables → Env → Array Value → State → Outcome → State → Prop} (hpost : ∀ tb e args s v u, (limb_1_1.after args s (.returned v) u = true ∧ limb_1_2.after args s (.returned v) u = true ∧ True) → FrameEnd s (.returned v) u (Jvm.fieldLocs frame_1_writes args s ++ Jvm.arrayLocs frame_1_arrays args s ++ Jvm.staticLocs frame_1_statics s) 16 128 → Post tb e args s (.returned v) u) :
    ArmFor flags0 classFile x code maxLocals ret World_1 tables_1 room_1 Calls_1 rest_1 Pre_1 Post := by
  intro l hfl _ _ p e ha hc hk s m args below hf hA hF happ hP
  obtain ⟨hcalls, hrest, hpre⟩ := hP
  obtain ⟨-, -, -, -, -, -, -, hat⟩ := (Spec.applies_iff hf).mp happ
  obtain ⟨hg, hn⟩ := and_e (Cond.before_iff.mp (show (Jvm.Cond.and given_1 narrow_1).before args s = true from hpre))
  obtain ⟨h1, h2⟩ := and_e hg
  obtain ⟨w0, w1, w2, w3, w4, rfl⟩ : ∃ w0 w1 w2 w3 w4 : Value, args = #[w0, w1, w2, w3, w4] := by
    have hs : args.size = 5 := by simpa [Cond.value, given_1] using h1
    obtain ⟨L⟩ := args
    match L, hs with
    | [w0, w1, w2, w3, w4], _ => exact ⟨w0, w1, w2, w3, w4, rfl⟩
  have hw := fun d (hd : d ∈ tables_1) => atoms_spec (ws := Jvm.Cond.code x code maxLocals ret :: tables_1) hat d (List.mem_cons_of_mem _ hd)
  obtain ⟨g0, q0⟩ := and_e h2
  obtain ⟨i0, e0⟩ := is_v g0
  obtain rfl : w0 = (.int i0) := Option.some.inj e0
  obtain ⟨g1, q1⟩ := and_e q0
  obtain ⟨i1, e1⟩ := is_v g1
  obtain rfl : w1 = (.int i1) := Option.some.inj e1
  obtain ⟨g2, q2⟩ := and_e q1
  obtain ⟨i2, e2⟩ := isL_v g2
  obtain rfl : w2 = (.long i2) := Option.some.inj e2
  obtain ⟨g3, q3⟩ := and_e q2
  obtain ⟨i3, e3⟩ := isL_v g3
  obtain rfl : w3 = (.long i3) := Option.some.inj e3
  obtain ⟨i4, e4⟩ := is_v q3
  obtain rfl : w4 = (.int i4) := Option.some.inj e4
  have hM := law_ok l s _ s.heap.size hw i0 i1 i2 i3 i4 s.heap tables_1 ⟨by simp, fun i c h => by simp at h⟩ p e ha hc hk s m _ below hf ((Spec.applies_iff_loose hf).mp happ).1 ⟨by simp [Sh.lf], State.Warmed39.refl s, rfl⟩ trivial
  obtain ⟨n, o, h1, h2, h3, _, L, rfl, ⟨v, H, rfl, rfl, hR, N⟩, hq⟩ := hM
  refine ⟨n, _, h1, h2, h3, hpost _ _ _ _ _ _ ⟨Cond.after_iff.mpr rfl, Cond.after_iff.mpr (eq_i res_at (Term.int_eval (1)) rfl), trivial⟩ ⟨hq.1, hq.2.1, (hq.2.2.sift fun y hy => Or.inr (N y hy)).mono (by decide) (by decide)⟩⟩
theorem main_1_1 : Claimed_1_1 := comes_1 fun _ _ _ _ _ _ h hF => ⟨h.1, hF⟩
theorem main_1_2 : Claimed_1_2 := comes_1 fun _ _ _ _ _ _ h hF => ⟨h.2.1, hF⟩
end Jvm.Pilot.@@N@@
namespace Jvm.Pilot.@@N@@
open Jvm Jvm.ClassFile Sem Op Lib Jvm.Free Jvm.Stand Jvm.Pilot.@@N@@.Jvm.D
/-! MADE BY PROGRAM (witnessworld.py) out of the Statement's table words and the real class files: 12 classes; the members and pool entries that the words name. The judged class is class 1, her method 1. -/
namespace start1
open Jvm.ClassFile
def u (s : String) : CpInfo := .utf8 (stringToUtf16 s)
/-- a pool by its gaps: so many unusable entries, then the entry; so many at the end -/
def gap : Nat → List CpInfo → List CpInfo
  | 0, r => r
  | n + 1, r => .unusable :: gap n r
def poolList (es : List (Nat × CpInfo)) (last : Nat) : List CpInfo := es.foldr (fun e r => gap e.1 (e.2 :: r)) (gap last [])
def pool (es : List (Nat × CpInfo)) (last : Nat) : Array CpInfo := ⟨poolList es last⟩
def fileOf (pool : Array CpInfo) (this : Nat) (attrs : Array Attribute := #[]) (ms : Array MethodInfo := #[]) (fl : Nat := 33) (sup : Nat := 0) (ifs : Array Nat := #[]) (fds : Array FieldInfo := #[]) : ClassFile where
  minorVersion := 0
  majorVersion := 65
  constantPool := pool
  accessFlags := fl
  thisClass := this
  superClass := sup
  interfaces := ifs
  fields := fds
  methods := ms
  attributes := attrs
def plain (name : String) (sup : Option ClassId) : Class where
  name := name
  kind := .ordinary
  loader := none
  accessFlags := 33
  super := sup
  interfaces := #[]
  cf := none
  fields := #[]
  methods := #[]
  instanceTypes := #[]
  staticTypes := #[]
  resolved := #[]
  callSites := []
  init := .initialized
  statics := none
  mirror := none

def pool0 : Array CpInfo := pool [(5, u "<init>"), (0, u "()V"), (1, .class_ 10), (1, u "java/lang/Object")] 113

def k0c0 : Code := { maxStack := 0, maxLocals := 1, code := object_method_1_code, exceptionTable := #[], attributes := #[] }
def k0m0 : Method := { name := "<init>", desc := "()V", sig := { parameters := [], returnType := none }, accessFlags := 1, code := some k0c0 }
/-- java/lang/Object -/
def k0 : Class := { plain "java/lang/Object" none with
  accessFlags := 33
  interfaces := #[]
  cf := some (fileOf pool0 8 #[] #[{ accessFlags := 1, nameIndex := 5, descriptorIndex := 6, attributes := #[] }] 33 0 #[] #[])
  fields := #[]
  methods := #[k0m0]
  instanceTypes := #[]
  staticTypes := #[]
  resolved := Array.replicate 124 none
  statics := none }

def pool1 : Array CpInfo := pool [(2, .class_ 4), (1, u "java/lang/Object"), (0, u "<init>"), (0, u "()V"), (0, .class_ 8), (0, u "com/example/corridor/corridor/search/LabelHeap"), (0, .methodref 7 10), (0, .nameAndType 5 11), (0, u "(I)V"), (0, .methodref 7 13), (0, .nameAndType 14 15), (0, u "isEmpty"), (0, u "()Z"), (0, .integer 2147483647), (0, .methodref 7 18), (0, .nameAndType 19 20), (0, u "insertOrLower"), (0, u "(IJ)V"), (0, .methodref 7 22), (0, .nameAndType 23 24), (0, u "removeMin"), (0, u "()I"), (0, .methodref 7 26), (0, .nameAndType 27 6), (0, u "clear"), (0, .class_ 29), (0, u "com/example/corridor/corridor/search/LabelHeapIsEmptyPinLaw"), (2, u "law"), (0, u "(IIJJI)Z")] 3

def k1m0 : Method := { name := "<init>", desc := "()V", sig := { parameters := [], returnType := none }, accessFlags := 1, code := none }
def k1c1 : Code := { maxStack := 4, maxLocals := 16, code := code, exceptionTable := #[], attributes := #[] }
def k1m1 : Method := { name := "law", desc := "(IIJJI)Z", sig := { parameters := [.int, .int, .long, .long, .int], returnType := some .boolean }, accessFlags := 9, code := some k1c1 }
/-- com/example/corridor/corridor/search/LabelHeapIsEmptyPinLaw -/
def k1 : Class := { plain "com/example/corridor/corridor/search/LabelHeapIsEmptyPinLaw" (some 0) with
  accessFlags := 49
  interfaces := #[]
  cf := some (fileOf pool1 28 #[] #[{ accessFlags := 1, nameIndex := 5, descriptorIndex := 6, attributes := #[] }, { accessFlags := 9, nameIndex := 32, descriptorIndex := 33, attributes := #[] }] 49 2 #[] #[])
  fields := #[]
  methods := #[k1m0, k1m1]
  instanceTypes := #[]
  staticTypes := #[]
  resolved := Array.replicate 37 none
  statics := none }

def pool2 : Array CpInfo := pool [(1, .methodref 2 3), (0, .class_ 4), (0, .nameAndType 5 6), (0, u "java/lang/Object"), (0, u "<init>"), (0, u "()V"), (0, .fieldref 8 9), (0, .class_ 10), (0, .nameAndType 11 12), (0, u "com/example/corridor/corridor/search/LabelHeap"), (0, u "labels"), (0, u "[I"), (0, .fieldref 8 14), (0, .nameAndType 15 16), (0, u "keys"), (0, u "[J"), (0, .fieldref 8 18), (0, .nameAndType 19 12), (0, u "position"), (0, .methodref 21 22), (0, .class_ 23), (0, .nameAndType 24 25), (0, u "java/util/Arrays"), (0, u "fill"), (0, u "([II)V"), (0, .fieldref 8 27), (0, .nameAndType 28 29), (0, u "size"), (0, u "I"), (0, .methodref 8 31), (0, .nameAndType 32 33), (0, u "siftUp"), (0, u "(IIJ)V"), (0, .methodref 8 35), (0, .nameAndType 36 33), (0, u "siftDown"), (0, .methodref 8 38), (0, .nameAndType 39 33), (0, u "place"), (6, u "ABSENT"), (2, u "ARITY"), (1, u "(I)V"), (2, u "isEmpty"), (0, u "()Z"), (3, u "insertOrLower"), (0, u "(IJ)V"), (0, u "removeMin"), (0, u "()I"), (0, u "clear")] 2

def k2c0 : Code := { maxStack := 2, maxLocals := 2, code := prog_32_method_1_code, exceptionTable := #[], attributes := #[] }
def k2m0 : Method := { name := "<init>", desc := "(I)V", sig := { parameters := [.int], returnType := none }, accessFlags := 0, code := some k2c0 }
def k2c1 : Code := { maxStack := 1, maxLocals := 1, code := prog_32_method_2_code, exceptionTable := #[], attributes := #[] }
def k2m1 : Method := { name := "isEmpty", desc := "()Z", sig := { parameters := [], returnType := some .boolean }, accessFlags := 0, code := some k2c1 }
def k2c2 : Code := { maxStack := 5, maxLocals := 5, code := prog_32_method_4_code, exceptionTable := #[], attributes := #[] }
def k2m2 : Method := { name := "insertOrLower", desc := "(IJ)V", sig := { parameters := [.int, .long], returnType := none }, accessFlags := 0, code := some k2c2 }
def k2c3 : Code := { maxStack := 5, maxLocals := 2, code := prog_32_method_5_code, exceptionTable := #[], attributes := #[] }
def k2m3 : Method := { name := "removeMin", desc := "()I", sig := { parameters := [], returnType := some .int }, accessFlags := 0, code := some k2c3 }
def k2c4 : Code := { maxStack := 3, maxLocals := 2, code := prog_32_method_6_code, exceptionTable := #[], attributes := #[] }
def k2m4 : Method := { name := "clear", desc := "()V", sig := { parameters := [], returnType := none }, accessFlags := 0, code := some k2c4 }
def k2c5 : Code := { maxStack := 5, maxLocals := 6, code := prog_32_method_7_code, exceptionTable := #[], attributes := #[] }
def k2m5 : Method := { name := "siftUp", desc := "(IIJ)V", sig := { parameters := [.int, .int, .long], returnType := none }, accessFlags := 2, code := some k2c5 }
def k2c6 : Code := { maxStack := 5, maxLocals := 11, code := prog_32_method_8_code, exceptionTable := #[], attributes := #[] }
def k2m6 : Method := { name := "siftDown", desc := "(IIJ)V", sig := { parameters := [.int, .int, .long], returnType := none }, accessFlags := 2, code := some k2c6 }
def k2c7 : Code := { maxStack := 4, maxLocals := 5, code := prog_32_method_9_code, exceptionTable := #[], attributes := #[] }
def k2m7 : Method := { name := "place", desc := "(IIJ)V", sig := { parameters := [.int, .int, .long], returnType := none }, accessFlags := 2, code := some k2c7 }
/-- com/example/corridor/corridor/search/LabelHeap -/
def k2 : Class := { plain "com/example/corridor/corridor/search/LabelHeap" (some 0) with
  accessFlags := 48
  interfaces := #[]
  cf := some (fileOf pool2 8 #[] #[{ accessFlags := 0, nameIndex := 5, descriptorIndex := 51, attributes := #[] }, { accessFlags := 0, nameIndex := 54, descriptorIndex := 55, attributes := #[] }, { accessFlags := 0, nameIndex := 59, descriptorIndex := 60, attributes := #[] }, { accessFlags := 0, nameIndex := 61, descriptorIndex := 62, attributes := #[] }, { accessFlags := 0, nameIndex := 63, descriptorIndex := 6, attributes := #[] }, { accessFlags := 2, nameIndex := 32, descriptorIndex := 33, attributes := #[] }, { accessFlags := 2, nameIndex := 36, descriptorIndex := 33, attributes := #[] }, { accessFlags := 2, nameIndex := 39, descriptorIndex := 33, attributes := #[] }] 48 2 #[] #[{ accessFlags := 26, nameIndex := 46, descriptorIndex := 29, attributes := #[] }, { accessFlags := 26, nameIndex := 49, descriptorIndex := 29, attributes := #[] }, { accessFlags := 18, nameIndex := 11, descriptorIndex := 12, attributes := #[] }, { accessFlags := 18, nameIndex := 15, descriptorIndex := 16, attributes := #[] }, { accessFlags := 18, nameIndex := 19, descriptorIndex := 12, attributes := #[] }, { accessFlags := 2, nameIndex := 28, descriptorIndex := 29, attributes := #[] }])
  fields := #[{ name := "ABSENT", type := .int, accessFlags := 26, slot := 0, constantValue := 0 }, { name := "ARITY", type := .int, accessFlags := 26, slot := 1, constantValue := 0 }, { name := "labels", type := (.array .int), accessFlags := 18, slot := 0, constantValue := 0 }, { name := "keys", type := (.array .long), accessFlags := 18, slot := 1, constantValue := 0 }, { name := "position", type := (.array .int), accessFlags := 18, slot := 2, constantValue := 0 }, { name := "size", type := .int, accessFlags := 2, slot := 3, constantValue := 0 }]
  methods := #[k2m0, k2m1, k2m2, k2m3, k2m4, k2m5, k2m6, k2m7]
  instanceTypes := #[(.array .int), (.array .long), (.array .int), .int]
  staticTypes := #[.int, .int]
  resolved := Array.replicate 66 none
  statics := none }

def pool3 : Array CpInfo := pool [(2, .class_ 4), (1, u "java/lang/Object"), (0, u "<init>"), (0, u "()V"), (7, .class_ 16), (1, u "java/util/Arrays"), (57, .class_ 76), (1, u "java/util/Arrays$NaturalOrder"), (36, .class_ 115), (1, u "java/util/Arrays$LegacyMergeSort"), (1, u "Z"), (257, .class_ 376), (0, u "java/util/Arrays$ArrayList"), (68, u "$assertionsDisabled"), (269, u "MIN_ARRAY_SORT_GRAN"), (0, u "I"), (2, u "INSERTIONSORT_THRESHOLD"), (120, u "fill"), (4, u "([II)V"), (129, .class_ 976), (0, u "java/util/Arrays$ArrayItr")] 52

def k3m0 : Method := { name := "<init>", desc := "()V", sig := { parameters := [], returnType := none }, accessFlags := 2, code := none }
def k3c1 : Code := { maxStack := 3, maxLocals := 4, code := jdk_65_method_103_code, exceptionTable := #[], attributes := #[] }
def k3m1 : Method := { name := "fill", desc := "([II)V", sig := { parameters := [(.array .int), .int], returnType := none }, accessFlags := 9, code := some k3c1 }
/-- java/util/Arrays -/
def k3 : Class := { plain "java/util/Arrays" (some 0) with
  accessFlags := 49
  interfaces := #[]
  cf := some (fileOf pool3 14 #[.nestMembers #[975, 375, 113, 74]] #[{ accessFlags := 2, nameIndex := 5, descriptorIndex := 6, attributes := #[] }, { accessFlags := 9, nameIndex := 840, descriptorIndex := 845, attributes := #[] }] 49 2 #[] #[{ accessFlags := 26, nameIndex := 715, descriptorIndex := 716, attributes := #[] }, { accessFlags := 26, nameIndex := 719, descriptorIndex := 716, attributes := #[] }, { accessFlags := 4120, nameIndex := 445, descriptorIndex := 117, attributes := #[] }])
  fields := #[{ name := "MIN_ARRAY_SORT_GRAN", type := .int, accessFlags := 26, slot := 0, constantValue := 0 }, { name := "INSERTIONSORT_THRESHOLD", type := .int, accessFlags := 26, slot := 1, constantValue := 0 }, { name := "$assertionsDisabled", type := .boolean, accessFlags := 4120, slot := 2, constantValue := 0 }]
  methods := #[k3m0, k3m1]
  instanceTypes := #[]
  staticTypes := #[.int, .int, .boolean]
  resolved := Array.replicate 1029 none
  statics := none }

def pool4 : Array CpInfo := pool [(1, u "java/lang/Cloneable"), (0, .class_ 1), (0, u "java/lang/Object"), (0, .class_ 3)] 3

/-- java/lang/Cloneable -/
def k4 : Class := { plain "java/lang/Cloneable" (some 0) with
  accessFlags := 1537
  interfaces := #[]
  cf := some (fileOf pool4 2 #[] #[] 1537 4 #[] #[])
  fields := #[]
  methods := #[]
  instanceTypes := #[]
  staticTypes := #[]
  resolved := Array.replicate 8 none
  statics := none }

def pool5 : Array CpInfo := pool [(1, u "java/io/Serializable"), (0, .class_ 1), (0, u "java/lang/Object"), (0, .class_ 3)] 3

/-- java/io/Serializable -/
def k5 : Class := { plain "java/io/Serializable" (some 0) with
  accessFlags := 1537
  interfaces := #[]
  cf := some (fileOf pool5 2 #[] #[] 1537 4 #[] #[])
  fields := #[]
  methods := #[]
  instanceTypes := #[]
  staticTypes := #[]
  resolved := Array.replicate 8 none
  statics := none }

/-- the primitive byte -/
def k6 : Class := { plain "byte" none with kind := .primitive 'B', accessFlags := 0x411 }
/-- [B -/
def k7 : Class := { plain "[B" (some 0) with kind := .array 6 .byte, interfaces := #[4, 5], accessFlags := 1041 }

/-- the primitive int -/
def k8 : Class := { plain "int" none with kind := .primitive 'I', accessFlags := 0x411 }
/-- [I -/
def k9 : Class := { plain "[I" (some 0) with kind := .array 8 .int, interfaces := #[4, 5], accessFlags := 1041 }

/-- the primitive long -/
def k10 : Class := { plain "long" none with kind := .primitive 'J', accessFlags := 0x411 }
/-- [J -/
def k11 : Class := { plain "[J" (some 0) with kind := .array 10 .long, interfaces := #[4, 5], accessFlags := 1041 }

def heap : Heap := #[]
def classes : Array Class := #[k0, k1, k2, k3, k4, k5, k6, k7, k8, k9, k10, k11]
def interned : List (Array UInt16 × Addr) := []
def slotsUsed : Nat := 0
def theMethod : MethodId := ⟨1, 1⟩
def args0 : Array Value := #[.int 5, .int 5, .long 5, .long 5, .int 5]
def aboutOver (below : List Frame) : State where
  vm := { classes := classes, interned := interned.toArray }
  heap := heap
  slotsUsed := slotsUsed
  threads := #[{ frames := .invoking theMethod args0 :: below }]
def below0 : List Frame := [.native { method := ⟨0, 0⟩, args := #[] }]
def about1 : State := aboutOver below0
def p0 : Program := .bare "" "" ""
def e0 : Env := launch0.env 0 0 0
theorem w_frames : about1.frames = Frame.invoking theMethod args0 :: below0 := rfl
set_option maxRecDepth 65536 in
theorem w_args : argsFit about1.vm theMethod args0 = true := by decide +kernel
set_option maxRecDepth 65536 in
theorem w_heap : heapFits about1 = true := by decide +kernel
set_option maxRecDepth 65536 in
theorem w_runnable : about1.curStatus? = some .runnable := by decide +kernel
set_option maxRecDepth 65536 in
theorem w_alone : about1.alone = true := by decide +kernel
set_option maxRecDepth 65536 in
theorem w_named : about1.methodNamed? x = some theMethod := by decide +kernel
set_option maxRecDepth 65536 in
theorem w_hears : about1.hears theMethod below0 = true := by decide +kernel
set_option maxRecDepth 65536 in
theorem w_ripe : about1.ripe theMethod args0 below0 = true := by decide +kernel
theorem w_running : about1.status = .running := rfl
set_option maxRecDepth 65536 in
theorem w_room : about1.hasRoom e0.platform room_1 = true :=
  launch0.hasRoom_least _ room_1 (by decide +kernel) (by decide +kernel) (by decide +kernel) (by decide +kernel) (by decide +kernel) (by decide +kernel)
theorem allAtoms_all (ts : List Jvm.Cond) (a : Array Jvm.Value) (st : Jvm.State) : (allAtoms ts).before a st = ts.all (fun c => c.before a st) := by
  induction ts with
  | nil => rfl
  | cons c t ih =>
    show (Jvm.Cond.and c (allAtoms t)).before a st = _
    rw [Jvm.Cond.before_and, ih, List.all_cons]
def words1 : List Jvm.Cond := Jvm.Cond.code x code maxLocals ret :: tables_1
/-- a 'code' word, met by the world's own term for the bytes: nothing is compared byte by byte -/
theorem code_word {y : MethodName} {bytes : ByteArray} {mx : Nat} {rt : Option FieldType} {a : Array Value} {s : State} {m : MethodId} {meth : Method} {c : Code} (h1 : s.methodNamed? y = some m) (h2 : s.vm.method? m = some meth) (h3 : meth.code = some c) (h4 : c.code = bytes)
    (h5 : (c.maxLocals == mx && c.exceptionTable.isEmpty && decide (c.maxStack ≤ mostOperands) && decide (meth.sig.returnType = rt) && !meth.locks && decide (parseMethodDescriptor y.desc = some meth.sig)) = true) : (Jvm.Cond.code y bytes mx rt).before a s = true := by
  simp only [Bool.and_eq_true, beq_iff_eq, Bool.not_eq_true', decide_eq_true_eq] at h5
  obtain ⟨⟨⟨⟨⟨g1, g2⟩, g3⟩, g4⟩, g5⟩, g6⟩ := h5
  simp [Cond.before, Cond.holds, Cond.value, h1, h2, h3, h4, g1, g2, g3, g4, g5, g6]
def isCode : Jvm.Cond → Bool
  | .code _ _ _ _ => true
  | _ => false
theorem all_split {L : List Jvm.Cond} {P : Jvm.Cond → Bool} (h1 : L.all (fun c => isCode c || P c) = true) (h2 : ∀ c ∈ L.filter isCode, P c = true) : L.all P = true := by
  refine List.all_eq_true.mpr fun c hc => ?_
  have h := List.all_eq_true.mp h1 c hc
  rcases Bool.eq_false_or_eq_true (isCode c) with hi | hi
  · exact h2 c (List.mem_filter.mpr ⟨hc, hi⟩)
  · simpa [hi] using h
set_option maxRecDepth 65536 in
theorem w_c0 : (Jvm.Cond.code x code maxLocals ret).before args0 about1 = true := code_word (m := ⟨1, 1⟩) (meth := k1m1) (c := k1c1) (by decide +kernel) rfl rfl rfl (by decide +kernel)
set_option maxRecDepth 65536 in
theorem w_c1 : (Jvm.Cond.code ({ cls := "com/example/corridor/corridor/search/LabelHeap", name := "<init>", desc := "(I)V" } : Jvm.MethodName) prog_32_method_1_code (2 : Nat) (Option.none : Option Jvm.ClassFile.FieldType)).before args0 about1 = true := code_word (m := ⟨2, 0⟩) (meth := k2m0) (c := k2c0) (by decide +kernel) rfl rfl rfl (by decide +kernel)
set_option maxRecDepth 65536 in
theorem w_c2 : (Jvm.Cond.code ({ cls := "java/lang/Object", name := "<init>", desc := "()V" } : Jvm.MethodName) object_method_1_code (1 : Nat) (Option.none : Option Jvm.ClassFile.FieldType)).before args0 about1 = true := code_word (m := ⟨0, 0⟩) (meth := k0m0) (c := k0c0) (by decide +kernel) rfl rfl rfl (by decide +kernel)
set_option maxRecDepth 65536 in
theorem w_c3 : (Jvm.Cond.code ({ cls := "java/util/Arrays", name := "fill", desc := "([II)V" } : Jvm.MethodName) jdk_65_method_103_code (4 : Nat) (Option.none : Option Jvm.ClassFile.FieldType)).before args0 about1 = true := code_word (m := ⟨3, 1⟩) (meth := k3m1) (c := k3c1) (by decide +kernel) rfl rfl rfl (by decide +kernel)
set_option maxRecDepth 65536 in
theorem w_c4 : (Jvm.Cond.code ({ cls := "com/example/corridor/corridor/search/LabelHeap", name := "isEmpty", desc := "()Z" } : Jvm.MethodName) prog_32_method_2_code (1 : Nat) (Option.some Jvm.ClassFile.FieldType.boolean)).before args0 about1 = true := code_word (m := ⟨2, 1⟩) (meth := k2m1) (c := k2c1) (by decide +kernel) rfl rfl rfl (by decide +kernel)
set_option maxRecDepth 65536 in
theorem w_c5 : (Jvm.Cond.code ({ cls := "com/example/corridor/corridor/search/LabelHeap", name := "insertOrLower", desc := "(IJ)V" } : Jvm.MethodName) prog_32_method_4_code (5 : Nat) (Option.none : Option Jvm.ClassFile.FieldType)).before args0 about1 = true := code_word (m := ⟨2, 2⟩) (meth := k2m2) (c := k2c2) (by decide +kernel) rfl rfl rfl (by decide +kernel)
set_option maxRecDepth 65536 in
theorem w_c6 : (Jvm.Cond.code ({ cls := "com/example/corridor/corridor/search/LabelHeap", name := "siftUp", desc := "(IIJ)V" } : Jvm.MethodName) prog_32_method_7_code (6 : Nat) (Option.none : Option Jvm.ClassFile.FieldType)).before args0 about1 = true := code_word (m := ⟨2, 5⟩) (meth := k2m5) (c := k2c5) (by decide +kernel) rfl rfl rfl (by decide +kernel)
set_option maxRecDepth 65536 in
theorem w_c7 : (Jvm.Cond.code ({ cls := "com/example/corridor/corridor/search/LabelHeap", name := "place", desc := "(IIJ)V" } : Jvm.MethodName) prog_32_method_9_code (5 : Nat) (Option.none : Option Jvm.ClassFile.FieldType)).before args0 about1 = true := code_word (m := ⟨2, 7⟩) (meth := k2m7) (c := k2c7) (by decide +kernel) rfl rfl rfl (by decide +kernel)
set_option maxRecDepth 65536 in
theorem w_c8 : (Jvm.Cond.code ({ cls := "com/example/corridor/corridor/search/LabelHeap", name := "removeMin", desc := "()I" } : Jvm.MethodName) prog_32_method_5_code (2 : Nat) (Option.some Jvm.ClassFile.FieldType.int)).before args0 about1 = true := code_word (m := ⟨2, 3⟩) (meth := k2m3) (c := k2c3) (by decide +kernel) rfl rfl rfl (by decide +kernel)
set_option maxRecDepth 65536 in
theorem w_c9 : (Jvm.Cond.code ({ cls := "com/example/corridor/corridor/search/LabelHeap", name := "siftDown", desc := "(IIJ)V" } : Jvm.MethodName) prog_32_method_8_code (11 : Nat) (Option.none : Option Jvm.ClassFile.FieldType)).before args0 about1 = true := code_word (m := ⟨2, 6⟩) (meth := k2m6) (c := k2c6) (by decide +kernel) rfl rfl rfl (by decide +kernel)
set_option maxRecDepth 65536 in
theorem w_c10 : (Jvm.Cond.code ({ cls := "com/example/corridor/corridor/search/LabelHeap", name := "clear", desc := "()V" } : Jvm.MethodName) prog_32_method_6_code (2 : Nat) (Option.none : Option Jvm.ClassFile.FieldType)).before args0 about1 = true := code_word (m := ⟨2, 4⟩) (meth := k2m4) (c := k2c4) (by decide +kernel) rfl rfl rfl (by decide +kernel)
def codes1 : List Jvm.Cond := [Jvm.Cond.code x code maxLocals ret, Jvm.Cond.code ({ cls := "com/example/corridor/corridor/search/LabelHeap", name := "<init>", desc := "(I)V" } : Jvm.MethodName) prog_32_method_1_code (2 : Nat) (Option.none : Option Jvm.ClassFile.FieldType), Jvm.Cond.code ({ cls := "java/lang/Object", name := "<init>", desc := "()V" } : Jvm.MethodName) object_method_1_code (1 : Nat) (Option.none : Option Jvm.ClassFile.FieldType), Jvm.Cond.code ({ cls := "java/util/Arrays", name := "fill", desc := "([II)V" } : Jvm.MethodName) jdk_65_method_103_code (4 : Nat) (Option.none : Option Jvm.ClassFile.FieldType), Jvm.Cond.code ({ cls := "com/example/corridor/corridor/search/LabelHeap", name := "isEmpty", desc := "()Z" } : Jvm.MethodName) prog_32_method_2_code (1 : Nat) (Option.some Jvm.ClassFile.FieldType.boolean), Jvm.Cond.code ({ cls := "com/example/corridor/corridor/search/LabelHeap", name := "insertOrLower", desc := "(IJ)V" } : Jvm.MethodName) prog_32_method_4_code (5 : Nat) (Option.none : Option Jvm.ClassFile.FieldType), Jvm.Cond.code ({ cls := "com/example/corridor/corridor/search/LabelHeap", name := "siftUp", desc := "(IIJ)V" } : Jvm.MethodName) prog_32_method_7_code (6 : Nat) (Option.none : Option Jvm.ClassFile.FieldType), Jvm.Cond.code ({ cls := "com/example/corridor/corridor/search/LabelHeap", name := "place", desc := "(IIJ)V" } : Jvm.MethodName) prog_32_method_9_code (5 : Nat) (Option.none : Option Jvm.ClassFile.FieldType), Jvm.Cond.code ({ cls := "com/example/corridor/corridor/search/LabelHeap", name := "removeMin", desc := "()I" } : Jvm.MethodName) prog_32_method_5_code (2 : Nat) (Option.some Jvm.ClassFile.FieldType.int), Jvm.Cond.code ({ cls := "com/example/corridor/corridor/search/LabelHeap", name := "siftDown", desc := "(IIJ)V" } : Jvm.MethodName) prog_32_method_8_code (11 : Nat) (Option.none : Option Jvm.ClassFile.FieldType), Jvm.Cond.code ({ cls := "com/example/corridor/corridor/search/LabelHeap", name := "clear", desc := "()V" } : Jvm.MethodName) prog_32_method_6_code (2 : Nat) (Option.none : Option Jvm.ClassFile.FieldType)]
set_option maxRecDepth 65536 in
theorem codes_eq : words1.filter isCode = codes1 := rfl
theorem w_codes : ∀ c ∈ words1.filter isCode, c.before args0 about1 = true := by
  rw [codes_eq]
  intro c hc
  simp only [codes1, List.mem_cons, List.not_mem_nil, or_false] at hc
  rcases hc with rfl | rfl | rfl | rfl | rfl | rfl | rfl | rfl | rfl | rfl | rfl
  · exact w_c0
  · exact w_c1
  · exact w_c2
  · exact w_c3
  · exact w_c4
  · exact w_c5
  · exact w_c6
  · exact w_c7
  · exact w_c8
  · exact w_c9
  · exact w_c10
set_option maxRecDepth 65536 in
theorem w_t1 : (words1.take 24).all (fun c => isCode c || c.before args0 about1) = true := by decide +kernel
set_option maxRecDepth 65536 in
theorem w_t2 : ((words1.drop 24).take 24).all (fun c => isCode c || c.before args0 about1) = true := by decide +kernel
set_option maxRecDepth 65536 in
theorem w_t3 : ((words1.drop 24).drop 24).all (fun c => isCode c || c.before args0 about1) = true := by decide +kernel
theorem w_tables : (allAtoms (Jvm.Cond.code x code maxLocals ret :: tables_1)).before args0 about1 = true := by
  rw [allAtoms_all]
  show words1.all (fun c => c.before args0 about1) = true
  refine all_split ?_ w_codes
  rw [← List.take_append_drop 24 words1, List.all_append, w_t1, ← List.take_append_drop 24 (words1.drop 24), List.all_append, w_t2, w_t3]
  rfl
set_option maxRecDepth 65536 in
theorem w_case : (Jvm.Cond.and given_1 narrow_1).before args0 about1 = true := by decide +kernel
theorem w_applies : (headSpec (Jvm.Cond.code x code maxLocals ret :: tables_1) room_1).applies x e0.platform about1 = true :=
  (Spec.applies_iff w_frames).mpr ⟨w_running, w_runnable, w_alone, w_named, w_hears, w_ripe, w_room, w_tables⟩
theorem atStart : AtStart classFile x code maxLocals ret World_1 tables_1 room_1 Calls_1 rest_1 Pre_1 launch0 p0 e0 about1 theMethod args0 below0 :=
  ⟨lists_1, trivial, launch0.admits_env _ _ _, launch0.least_env, fairChoices_fair.cas, fairChoices_fair.clock, w_frames, w_args, w_heap, w_applies, trivial, trivial, w_case⟩
end start1
theorem witness_1 : WitnessClaimed_1 := ⟨start1.p0, start1.e0, start1.about1, start1.theMethod, start1.args0, start1.below0, start1.atStart⟩
end Jvm.Pilot.@@N@@
