import JvmDerived
import JvmDerived.Pilot.@@N@@Statement
import JvmDerived.Pilot.@@N@@Code
set_option linter.unusedVariables false
set_option linter.unusedSimpArgs false
namespace Jvm.Sh
open Jvm Jvm.ClassFile Sem Op Lib Jvm.Free Jvm.Stand Jvm.LawKit Jvm.RoadKit Bundle
/-! A shadow of what a law makes. A shadow heap H is the list of the cells made since the start: an object (its class, its fields' names, kinds and values) or an array (its component's kind, its values). A shadow reference i stands for the address n0 + i. -/
abbrev SC := (String × List (String × String × Value)) ⊕ (FieldType × List Value)
abbrev SH := List SC
def lf (n0 : Nat) : Value → Value
  | .ref i => .ref (n0 + i)
  | v => v
def lz (n0 : Nat) : Slot → Slot
  | .val v => .val (lf n0 v)
  | x => x
abbrev LL (n0 : Nat) (L : List Slot) : Array Slot := (L.map (lz n0)).toArray
theorem lf_cat (n0 : Nat) (v : Value) : (lf n0 v).category = v.category := by cases v <;> rfl
theorem lf_isRef (n0 : Nat) (v : Value) : (lf n0 v).isRef = v.isRef := by cases v <;> rfl
theorem LL_get {n0 k : Nat} {L : List Slot} {v : Value} (h : L[k]? = some (.val v)) : (LL n0 L)[k]? = some (.val (lf n0 v)) := by simp [h, lz]
/-- an object's or an array's cell, as the shadow says -/
def CellOk (Z : State) (a0 : Array Value) (n0 : Nat) (h : Heap) (a : Addr) : SC → Prop
  | .inl (C, fs) => Exa Z h a C ∧ (∃ k, (Cond.instantiable C k).before a0 Z = true) ∧ (fs.map (·.1)).Nodup ∧
      ∀ f ∈ fs, Laid Z a0 C C f.1 f.2.1 ∧ (∃ ty, parseFieldDescriptor f.2.1 = some ty) ∧ Fld Z h a C f.1 f.2.1 (lf n0 f.2.2)
  | .inr (ty, vs) => ∃ c : Cell, Arr Z h a c ty ∧ c.slots = (vs.map (lf n0)).toArray ∧ vs.length < 2 ^ 31
def Rep (Z : State) (a0 : Array Value) (n0 : Nat) (h : Heap) (H : SH) : Prop :=
  h.size = n0 + H.length ∧ ∀ i c, H[i]? = some c → CellOk Z a0 n0 h (n0 + i) c
theorem CellOk.ext {Z : State} {a0 : Array Value} {n0 : Nat} {h h' : Heap} {a : Addr} {c : SC} (E : Ext h h') (K : CellOk Z a0 n0 h a c) : CellOk Z a0 n0 h' a c := by
  rcases c with ⟨C, fs⟩ | ⟨ty, vs⟩
  · exact ⟨K.1.ext E, K.2.1, K.2.2.1, fun f hf => ⟨(K.2.2.2 f hf).1, (K.2.2.2 f hf).2.1, (K.2.2.2 f hf).2.2.ext E⟩⟩
  · obtain ⟨c, A, r⟩ := K
    exact ⟨c, A.ext E, r⟩
theorem CellOk.other {Z : State} {a0 : Array Value} {n0 : Nat} {h h' : Heap} {a b : Addr} {sl : Nat} {v : Value} {c : SC} (W : Wr h h' a sl v) (K : CellOk Z a0 n0 h b c) (hne : b ≠ a) : CellOk Z a0 n0 h' b c := by
  rcases c with ⟨C, fs⟩ | ⟨ty, vs⟩
  · exact ⟨K.1.wr W, K.2.1, K.2.2.1, fun f hf => ⟨(K.2.2.2 f hf).1, (K.2.2.2 f hf).2.1, (K.2.2.2 f hf).2.2.other W (Or.inl hne)⟩⟩
  · obtain ⟨c, A, r⟩ := K
    exact ⟨c, A.other W hne, r⟩
theorem Rep.set {Z : State} {a0 : Array Value} {n0 i : Nat} {h h' : Heap} {H : SH} {sl : Nat} {v : Value} {c : SC} (K : Rep Z a0 n0 h H) (W : Wr h h' (n0 + i) sl v) (hi : i < H.length) (hc : CellOk Z a0 n0 h' (n0 + i) c) : Rep Z a0 n0 h' (H.set i c) := by
  refine ⟨by rw [W.size, List.length_set]; exact K.1, fun j d hd => ?_⟩
  by_cases e : j = i
  · subst e
    rw [List.getElem?_set_self hi] at hd
    cases hd
    exact hc
  · rw [List.getElem?_set_ne (Ne.symm e)] at hd
    exact (K.2 j d hd).other W (fun q => e (Nat.add_left_cancel q))
theorem Rep.push {Z : State} {a0 : Array Value} {n0 : Nat} {h h' : Heap} {H : SH} {c : SC} (K : Rep Z a0 n0 h H) (E : Ext h h') (hs : h'.size = h.size + 1) (hc : CellOk Z a0 n0 h' h.size c) : Rep Z a0 n0 h' (H ++ [c]) := by
  refine ⟨by rw [hs, K.1, List.length_append]; simp; omega, fun j d hd => ?_⟩
  rcases Nat.lt_trichotomy j H.length with q | q | q
  · rw [List.getElem?_append_left q] at hd
    exact (K.2 j d hd).ext E
  · subst q
    simp at hd
    subst hd
    rw [← K.1]; exact hc
  · rw [List.getElem?_eq_none (by simp; omega)] at hd
    cases hd
abbrev Bdy := MethodName × ByteArray × Nat × Option FieldType
/-- From this place (pc, locals, stack, shadow heap; k cells and n slots made by this call so far) the method comes to its end and returns v over H' such that Q v H'. -/
def WP (l : Launch) (Z : State) (a0 : Array Value) (n0 : Nat) (B : Bdy) (R : Room) (k n pc : Nat) (L : List Slot) (S : List Value) (H : SH) (Q : Option Value → SH → Prop) : Prop :=
  ∀ (p : Program) (e : Env) (s : State) (m : MethodId) (args : Array Value) (below : List Frame) (meth : Method) (c : Code) (T : State) (locs : List Loc),
    Stand p l e R s m args below meth c T locs k n → p.tables.exec = Jvm.exec → c.code = B.2.1 → c.maxLocals = B.2.2.1 → meth.sig.returnType = B.2.2.2 → meth.locks = false → Z.Warmed39 s.vm →
    s.vm.findClass B.1.cls = some m.cls → meth.name = B.1.name → Fr n0 locs → Rep Z a0 n0 T.heap H →
    ∃ t o, Steps p.tables e below (T.setTop (mkF m pc (LL n0 L) (S.map (lf n0)))) t ∧ t.status = .running ∧ Ended t below o ∧
      ∃ v L', o = .returned (v.map (lf n0)) ∧ (∃ H', Q v H' ∧ Rep Z a0 n0 t.heap H') ∧ Fr n0 L' ∧ FrameEnd s o t L' R.cells R.slots
/-- The method, called with these (shadow) values over this shadow heap, returns v over H' such that Q v H'. -/
def Meth (l : Launch) (Z : State) (a0 : Array Value) (n0 : Nat) (B : Bdy) (R : Room) (as : List Value) (H : SH) (Q : Option Value → SH → Prop) : Prop :=
  ∀ (h0 : Heap) (ws : List Jvm.Cond), Rep Z a0 n0 h0 H →
    MetFree l B.1 (head1 (Jvm.Cond.code B.1 B.2.1 B.2.2.1 B.2.2.2 :: ws) R) (fun a U => a = (as.map (lf n0)).toArray ∧ Z.Warmed39 U.vm ∧ U.heap = h0) (fun _ _ _ _ _ => True)
      (fun _ U o U' => ∃ v L, o = .returned v ∧ (∃ v' H', v = v'.map (lf n0) ∧ Q v' H' ∧ Rep Z a0 n0 U'.heap H' ∧ Fr n0 L) ∧ FrameEnd U o U' L R.cells R.slots)
def entryL (as : List Value) (ml : Nat) : List Slot :=
  as.foldr (fun v r => if v.category = 2 then .val v :: .second :: r else .val v :: r) [] ++ List.replicate (ml - (as.foldr (fun v r => v.category + r) 0)) .unset
section
variable {l : Launch} {Z : State} {a0 : Array Value} {n0 : Nat} {B : Bdy} {R : Room} {k n pc : Nat} {L : List Slot} {S : List Value} {H : SH} {Q : Option Value → SH → Prop}
theorem cat_pos (v : Value) : v.category = 1 ∨ v.category = 2 := by cases v <;> simp [Value.category]
theorem entry_acc (n0 : Nat) (as : List Value) (acc : Array Slot) : (as.map (lf n0)).foldl (fun acc v => if v.category = 2 then (acc.push (Slot.val v)).push Slot.second else acc.push (.val v)) acc =
    acc ++ ((as.foldr (fun v r => if v.category = 2 then Slot.val v :: Slot.second :: r else .val v :: r) []).map (lz n0)).toArray := by
  induction as generalizing acc with
  | nil => simp
  | cons v as ih =>
    simp only [List.map_cons, List.foldl_cons, List.foldr_cons, lf_cat]
    rw [ih]
    by_cases q : v.category = 2
    · simp [q, lz]
    · simp [q, lz]
theorem entry_len (as : List Value) : (as.foldr (fun v r => if v.category = 2 then Slot.val v :: Slot.second :: r else .val v :: r) []).length = as.foldr (fun v r => v.category + r) 0 := by
  induction as with
  | nil => rfl
  | cons v as ih =>
    rcases cat_pos v with q | q <;> simp [q] at ih ⊢ <;> omega
theorem entry_eq (n0 : Nat) (m : MethodId) (as : List Value) (ml : Nat) : entryFrame m (as.map (lf n0)).toArray ml = mkF m 0 (LL n0 (entryL as ml)) [] := by
  have e : argsToLocals (as.map (lf n0)).toArray ml = LL n0 (entryL as ml) := by
    simp only [argsToLocals, LL, entryL, List.foldl_toArray']
    rw [entry_acc]
    apply Array.toList_inj.mp
    simp [entry_len, lz]
  simp [entryFrame, e, mkF]
theorem Meth.of {as : List Value} (hp : plainFor B.1 = true) (hL : entryL as B.2.2.1 = L) (hW : WP l Z a0 n0 B R 0 0 0 L [] H Q) : Meth l Z a0 n0 B R as H Q := by
  intro h0 ws hR
  refine MetFree.of_bodySF hp hisR ?_
  intro p e s m args below meth c s₁ Bd hml0 hP hK
  obtain ⟨rfl, hZ, hh⟩ := hP
  have e0 : s₁.heap = h0 := by rw [← hh, Bd.state]; rfl
  subst hL
  obtain ⟨t, o, h1, h2, h3, v, L', h4, ⟨H', h5, h6⟩, h7, h8⟩ := hW p e s m _ below meth c s₁ [] (Stand.of_body Bd) Bd.exec Bd.bytes hml0 Bd.returns Bd.notSynchronized hZ (findClass_of_methodNamed Bd.named) (name_of_methodNamed Bd.named Bd.method).1 (Fr.nil n0) (by rw [e0]; exact hR)
  exact ⟨t, o, castTop (entry_eq n0 m as _) h1, h2, h3, _, L', h4, ⟨v, H', rfl, h5, h6, h7⟩, h8⟩
theorem WP.mono {Q' : Option Value → SH → Prop} (hW : WP l Z a0 n0 B R k n pc L S H Q) (hq : ∀ v H', Q v H' → Q' v H') : WP l Z a0 n0 B R k n pc L S H Q' := by
  intro p e s m args below meth c T locs X hx hc hml hret hlk hZ hown hnm hF hR
  obtain ⟨t, o, h1, h2, h3, v, L', h4, ⟨H', h5, h6⟩, h7⟩ := hW p e s m args below meth c T locs X hx hc hml hret hlk hZ hown hnm hF hR
  exact ⟨t, o, h1, h2, h3, v, L', h4, ⟨H', hq _ _ h5, h6⟩, h7⟩
theorem Meth.mono {as : List Value} {Q' : Option Value → SH → Prop} (hM : Meth l Z a0 n0 B R as H Q) (hq : ∀ v H', Q v H' → Q' v H') : Meth l Z a0 n0 B R as H Q' := by
  intro h0 ws hR p e ha hc hk s m args below hf happ hP hK
  obtain ⟨n, o, h1, h2, h3, v, L, h4, ⟨v', H', h5, h6, h7⟩, h8⟩ := hM h0 ws hR p e ha hc hk s m args below hf happ hP hK
  exact ⟨n, o, h1, h2, h3, v, L, h4, ⟨v', H', h5, hq _ _ h6, h7⟩, h8⟩
/-- a step that moves nothing but the frame -/
theorem pure {pc' : Nat} {L' : List Slot} {S' : List Value} (hr : WP l Z a0 n0 B R k n pc' L' S' H Q)
    (f : ∀ {p : Program} {e : Env} {below : List Frame} {T target : State} {m : MethodId} {c : Code}, At T m c below → p.tables.exec = Jvm.exec → c.code = B.2.1 →
      Steps p.tables e below (T.setTop (mkF m pc' (LL n0 L') (S'.map (lf n0)))) target → Steps p.tables e below (T.setTop (mkF m pc (LL n0 L) (S.map (lf n0)))) target) : WP l Z a0 n0 B R k n pc L S H Q := by
  intro p e s m args below meth c T locs X hx hc hml hret hlk hZ hown hnm hF hR
  obtain ⟨t, o, h1, h2⟩ := hr p e s m args below meth c T locs X hx hc hml hret hlk hZ hown hnm hF hR
  exact ⟨t, o, f X.here hx hc h1, h2⟩
/-! ### loads, constants -/
theorem aload_n {j : Fin 4} {v : Value} (d : decode B.2.1 pc = .ok (.aload_n j, 1)) (hl : L[j.val]? = some (.val v)) (hv : v.isRef = true) (hr : WP l Z a0 n0 B R k n (pc + 1) L (v :: S) H Q) : WP l Z a0 n0 B R k n pc L S H Q :=
  pure hr fun h hx hc st => XS.aloadN h hx rfl (hb hc d) (LL_get hl) (by rw [lf_isRef]; exact hv) st
theorem aload {j : Nat} {v : Value} (d : decode B.2.1 pc = .ok (.aload j, 2)) (hl : L[j]? = some (.val v)) (hv : v.isRef = true) (hr : WP l Z a0 n0 B R k n (pc + 2) L (v :: S) H Q) : WP l Z a0 n0 B R k n pc L S H Q :=
  pure hr fun h hx hc st => XS.aload h hx rfl (hb hc d) (LL_get hl) (by rw [lf_isRef]; exact hv) st
theorem iload_n {j : Fin 4} {x : Int32} (d : decode B.2.1 pc = .ok (.iload_n j, 1)) (hl : L[j.val]? = some (.val (.int x))) (hr : WP l Z a0 n0 B R k n (pc + 1) L (.int x :: S) H Q) : WP l Z a0 n0 B R k n pc L S H Q :=
  pure hr fun h hx hc st => XS.iloadN h hx rfl (hb hc d) (LL_get (n0 := n0) hl) st
theorem iload {j : Nat} {x : Int32} (d : decode B.2.1 pc = .ok (.iload j, 2)) (hl : L[j]? = some (.val (.int x))) (hr : WP l Z a0 n0 B R k n (pc + 2) L (.int x :: S) H Q) : WP l Z a0 n0 B R k n pc L S H Q :=
  pure hr fun h hx hc st => XS.iload h hx rfl (hb hc d) (LL_get (n0 := n0) hl) st
theorem lload_n {j : Fin 4} {x : Int64} (d : decode B.2.1 pc = .ok (.lload_n j, 1)) (hl : L[j.val]? = some (.val (.long x))) (hr : WP l Z a0 n0 B R k n (pc + 1) L (.long x :: S) H Q) : WP l Z a0 n0 B R k n pc L S H Q :=
  pure hr fun h hx hc st => XT.lloadN h hx rfl (hb hc d) (LL_get (n0 := n0) hl) st
theorem lload {j : Nat} {x : Int64} (d : decode B.2.1 pc = .ok (.lload j, 2)) (hl : L[j]? = some (.val (.long x))) (hr : WP l Z a0 n0 B R k n (pc + 2) L (.long x :: S) H Q) : WP l Z a0 n0 B R k n pc L S H Q :=
  pure hr fun h hx hc st => XT.lload h hx rfl (hb hc d) (LL_get (n0 := n0) hl) st
theorem iconst {i : Int} {x : Int32} (d : decode B.2.1 pc = .ok (.iconst i, 1)) (hx' : Int32.ofInt i = x) (hr : WP l Z a0 n0 B R k n (pc + 1) L (.int x :: S) H Q) : WP l Z a0 n0 B R k n pc L S H Q :=
  pure (hx' ▸ hr) fun h hx hc st => XS.iconst h hx rfl (hb hc d) st
theorem bipush {i : Int} {x : Int32} (d : decode B.2.1 pc = .ok (.bipush i, 2)) (hx' : (Int8.ofInt i).toInt32 = x) (hr : WP l Z a0 n0 B R k n (pc + 2) L (.int x :: S) H Q) : WP l Z a0 n0 B R k n pc L S H Q :=
  pure (hx' ▸ hr) fun h hx hc st => XS.bipush h hx rfl (hb hc d) st
theorem sipush {i : Int} {x : Int32} (d : decode B.2.1 pc = .ok (.sipush i, 3)) (hx' : (Int16.ofInt i).toInt32 = x) (hr : WP l Z a0 n0 B R k n (pc + 3) L (.int x :: S) H Q) : WP l Z a0 n0 B R k n pc L S H Q :=
  pure (hx' ▸ hr) fun h hx hc st => XS.sipush h hx rfl (hb hc d) st
theorem lconst {i : Fin 2} {x : Int64} (d : decode B.2.1 pc = .ok (.lconst i, 1)) (hx' : Int64.ofNat i = x) (hr : WP l Z a0 n0 B R k n (pc + 1) L (.long x :: S) H Q) : WP l Z a0 n0 B R k n pc L S H Q :=
  pure (hx' ▸ hr) fun h hx hc st => XT.lconst h hx rfl (hb hc d) st
theorem aconst_null (d : decode B.2.1 pc = .ok (.aconst_null, 1)) (hr : WP l Z a0 n0 B R k n (pc + 1) L (.null :: S) H Q) : WP l Z a0 n0 B R k n pc L S H Q :=
  pure hr fun h hx hc st => XS.aconstNull h hx rfl (hb hc d) st
theorem ldcI {W : List Jvm.Cond} (hw : ∀ d ∈ W, d.before a0 Z = true) {i idx : Nat} {x : Int32} (w : W[i]? = some (.constant B.1.cls idx x)) (d : decode B.2.1 pc = .ok (.ldc idx, 2)) (hr : WP l Z a0 n0 B R k n (pc + 2) L (.int x :: S) H Q) : WP l Z a0 n0 B R k n pc L S H Q := by
  intro p e s m args below meth c T locs X hx hc hml hret hlk hZ hown hnm hF hR
  obtain ⟨t, o, h1, h2⟩ := hr p e s m args below meth c T locs X hx hc hml hret hlk hZ hown hnm hF hR
  have v1 := hw _ (List.mem_of_getElem? w)
  exact ⟨t, o, X.ldcInt hx hown (mv hZ v1) (g := mkF m pc (LL n0 L) (S.map (lf n0))) rfl (hb hc d) _ h1, h2⟩
theorem ldc2L {W : List Jvm.Cond} (hw : ∀ d ∈ W, d.before a0 Z = true) {i idx : Nat} {x : Int64} (w : W[i]? = some (.constantLong B.1.cls idx x)) (d : decode B.2.1 pc = .ok (.ldc2_w idx, 3)) (hr : WP l Z a0 n0 B R k n (pc + 3) L (.long x :: S) H Q) : WP l Z a0 n0 B R k n pc L S H Q := by
  intro p e s m args below meth c T locs X hx hc hml hret hlk hZ hown hnm hF hR
  obtain ⟨t, o, h1, h2⟩ := hr p e s m args below meth c T locs X hx hc hml hret hlk hZ hown hnm hF hR
  have v1 := hw _ (List.mem_of_getElem? w)
  exact ⟨t, o, X.ldc2Long hx hown (mv hZ v1) (g := mkF m pc (LL n0 L) (S.map (lf n0))) rfl (hb hc d) _ h1, h2⟩

/-! ### stores -/
def okS : Slot → Bool
  | .unset => true
  | .val w => w.category == 1
  | .second => false
def nS : Slot → Bool
  | .second => false
  | _ => true
def n2 : Slot → Bool
  | .val w => w.category == 1
  | _ => true
def stOK (L : List Slot) (k : Nat) (v : Value) (L' : List Slot) : Prop := ∀ n0, storeLocals (LL n0 L) k (lf n0 v) = some (LL n0 L')
theorem LL_at {n0 j : Nat} {o : Slot} (h : L[j]? = some o) : (LL n0 L)[j]? = some (lz n0 o) := by simp [h]
theorem LL_set {n0 j : Nat} {o : Slot} : (LL n0 L).setIfInBounds j (lz n0 o) = LL n0 (L.set j o) := by
  apply Array.toList_inj.mp; simp [List.map_set]
theorem st1 {L' : List Slot} {j : Nat} {o : Slot} {v : Value} (h : L[j]? = some o) (ho : okS o = true) (hv : v.category = 1) (e : L.set j (.val v) = L') : stOK L j v L' := by
  intro n0
  rw [XS.store1 (LL_at h) (by cases o <;> simp_all [okS, lz, lf_cat]) (by rw [lf_cat]; exact hv), ← e, ← LL_set]
  rfl
theorem LL_size {n0 : Nat} : (LL n0 L).size = L.length := by simp
theorem lt_of_at {α : Type} {l : List α} {j : Nat} {o : α} (h : l[j]? = some o) : j < l.length := (List.getElem?_eq_some_iff.mp h).1
theorem setAt_LL {n0 j : Nat} {o : Slot} (h : j < L.length) : setAt (LL n0 L) j (lz n0 o) = some (LL n0 (L.set j o)) := by
  simp only [setAt, LL_size, h, if_true, LL_set]
theorem self1 {n0 j : Nat} {v : Value} (h : j < L.length) (hv : v.category = 1) : storeSelf (LL n0 L) j (lf n0 v) = some (LL n0 (L.set j (.val v))) := by
  have e := setAt_LL (n0 := n0) (o := .val v) h
  simp only [lz] at e
  simp [storeSelf, e, lf_cat, hv]
theorem self2 {n0 j : Nat} {v : Value} {o : Slot} (h : L[j + 1]? = some o) (ho : n2 o = true) (hv : v.category = 2) : storeSelf (LL n0 L) j (lf n0 v) = some (LL n0 ((L.set j (.val v)).set (j + 1) .second)) := by
  have h1 := lt_of_at h
  have e := setAt_LL (n0 := n0) (o := .val v) (show j < L.length by omega)
  simp only [lz] at e
  have e2 := setAt_LL (n0 := n0) (L := L.set j (.val v)) (o := .second) (j := j + 1) (by simpa using h1)
  simp only [lz] at e2
  have e3 : (LL n0 (L.set j (.val v)))[j + 1]? = some (lz n0 o) := LL_at (by rw [List.getElem?_set_ne (by omega)]; exact h)
  simp only [storeSelf, e, lf_cat, hv, Option.bind_eq_bind, Option.bind_some, if_true, e3]
  cases o with
  | unset => simpa [lz] using e2
  | second => simpa [lz] using e2
  | val w =>
    have hw : w.category = 1 := by simpa [n2] using ho
    simpa [lz, lf_cat, hw] using e2
theorem st1s {L' : List Slot} {j : Nat} {v : Value} (h : L[j + 1]? = some .second) (hv : v.category = 1) (e : (L.set j .unset).set (j + 1) (.val v) = L') : stOK L (j + 1) v L' := by
  intro n0
  subst e
  have h1 := lt_of_at h
  have e1 := LL_at (n0 := n0) h
  have e2 := setAt_LL (n0 := n0) (o := .unset) (show j < L.length by omega)
  simp only [lz] at e1 e2
  have e3 := self1 (n0 := n0) (L := L.set j .unset) (j := j + 1) (by simpa using h1) hv
  simp only [storeLocals, e1, Option.bind_eq_bind, Option.bind_some, Nat.add_sub_cancel, e2, e3]
theorem st1w {L' : List Slot} {j : Nat} {w v : Value} (h : L[j]? = some (.val w)) (hw : w.category = 2) (hl : j + 1 < L.length) (hv : v.category = 1) (e : (L.set (j + 1) .unset).set j (.val v) = L') : stOK L j v L' := by
  intro n0
  subst e
  have h1 := lt_of_at h
  have e1 := LL_at (n0 := n0) h
  have e2 := setAt_LL (n0 := n0) (o := .unset) hl
  simp only [lz] at e1 e2
  have e3 := self1 (n0 := n0) (L := L.set (j + 1) .unset) (j := j) (by simpa using h1) hv
  simp only [storeLocals, e1, lf_cat, hw, if_true, Option.bind_eq_bind, Option.bind_some, e2, e3]
theorem st2 {L' : List Slot} {j : Nat} {o o2 : Slot} {v : Value} (h : L[j]? = some o) (ho : nS o = true) (h2 : L[j + 1]? = some o2) (ho2 : n2 o2 = true) (hv : v.category = 2) (e : (L.set j (.val v)).set (j + 1) .second = L') : stOK L j v L' := by
  intro n0
  subst e
  have e1 := LL_at (n0 := n0) h
  have h3 := lt_of_at h2
  cases o with
  | second => simp [nS] at ho
  | unset =>
    simp only [lz] at e1
    simp only [storeLocals, e1, Option.bind_eq_bind, Option.bind_some, self2 h2 ho2 hv]
  | val w =>
    simp only [lz] at e1
    rcases cat_pos w with q | q
    · simp [storeLocals, e1, lf_cat, q, self2 h2 ho2 hv]
    · have e2 := setAt_LL (n0 := n0) (o := .unset) h3
      simp only [lz] at e2
      have e3 := self2 (n0 := n0) (L := L.set (j + 1) .unset) (j := j) (o := .unset) (v := v) (by rw [List.getElem?_set_self h3]) rfl hv
      have e4 : ((L.set (j + 1) .unset).set j (.val v)).set (j + 1) .second = (L.set j (.val v)).set (j + 1) .second := by
        rw [List.set_comm _ _ (show j + 1 ≠ j by omega), List.set_set]
      rw [e4] at e3
      simp only [storeLocals, e1, lf_cat, q, if_true, Option.bind_eq_bind, Option.bind_some, e2, e3]
theorem istore_n {j : Fin 4} {x : Int32} {L' : List Slot} (d : decode B.2.1 pc = .ok (.istore_n j, 1)) (hs : stOK L j.val (.int x) L') (hr : WP l Z a0 n0 B R k n (pc + 1) L' S H Q) : WP l Z a0 n0 B R k n pc L (.int x :: S) H Q :=
  pure hr fun h hx hc st => XS.istoreN h hx rfl (hb hc d) rfl (hs n0) st
theorem istore {j : Nat} {x : Int32} {L' : List Slot} (d : decode B.2.1 pc = .ok (.istore j, 2)) (hs : stOK L j (.int x) L') (hr : WP l Z a0 n0 B R k n (pc + 2) L' S H Q) : WP l Z a0 n0 B R k n pc L (.int x :: S) H Q :=
  pure hr fun h hx hc st => XS.istore h hx rfl (hb hc d) rfl (hs n0) st
theorem lstore_n {j : Fin 4} {x : Int64} {L' : List Slot} (d : decode B.2.1 pc = .ok (.lstore_n j, 1)) (hs : stOK L j.val (.long x) L') (hr : WP l Z a0 n0 B R k n (pc + 1) L' S H Q) : WP l Z a0 n0 B R k n pc L (.long x :: S) H Q :=
  pure hr fun h hx hc st => XT.lstoreN h hx rfl (hb hc d) rfl (hs n0) st
theorem lstore {j : Nat} {x : Int64} {L' : List Slot} (d : decode B.2.1 pc = .ok (.lstore j, 2)) (hs : stOK L j (.long x) L') (hr : WP l Z a0 n0 B R k n (pc + 2) L' S H Q) : WP l Z a0 n0 B R k n pc L (.long x :: S) H Q :=
  pure hr fun h hx hc st => XT.lstore h hx rfl (hb hc d) rfl (hs n0) st
theorem astore_n {j : Fin 4} {v : Value} {L' : List Slot} (d : decode B.2.1 pc = .ok (.astore_n j, 1)) (hv : v.isRef = true) (hs : stOK L j.val v L') (hr : WP l Z a0 n0 B R k n (pc + 1) L' S H Q) : WP l Z a0 n0 B R k n pc L (v :: S) H Q :=
  pure hr fun h hx hc st => XS.astoreN h hx rfl (hb hc d) rfl (by rw [lf_isRef]; exact hv) (hs n0) st
theorem astore {j : Nat} {v : Value} {L' : List Slot} (d : decode B.2.1 pc = .ok (.astore j, 2)) (hv : v.isRef = true) (hs : stOK L j v L') (hr : WP l Z a0 n0 B R k n (pc + 2) L' S H Q) : WP l Z a0 n0 B R k n pc L (v :: S) H Q :=
  pure hr fun h hx hc st => XS.astore h hx rfl (hb hc d) rfl (by rw [lf_isRef]; exact hv) (hs n0) st
theorem iinc {j : Nat} {cst : Int} {x ci y : Int32} {L' : List Slot} (d : decode B.2.1 pc = .ok (.iinc j cst, 3)) (hl : L[j]? = some (.val (.int x))) (hci : Int32.ofInt cst = ci) (hy : x + ci = y) (hs : stOK L j (.int y) L') (hr : WP l Z a0 n0 B R k n (pc + 3) L' S H Q) : WP l Z a0 n0 B R k n pc L S H Q :=
  pure hr fun h hx hc st => XS.iinc h hx rfl (hb hc d) (LL_get (n0 := n0) hl) (by rw [hci, hy]; exact hs n0) st
/-! ### the stack, arithmetic -/
theorem dup {v : Value} (d : decode B.2.1 pc = .ok (.dup, 1)) (hv : v.category = 1) (hr : WP l Z a0 n0 B R k n (pc + 1) L (v :: v :: S) H Q) : WP l Z a0 n0 B R k n pc L (v :: S) H Q :=
  pure hr fun h hx hc st => XS.dup h hx rfl (hb hc d) rfl (by rw [lf_cat]; exact hv) st
theorem pop {v : Value} (d : decode B.2.1 pc = .ok (.pop, 1)) (hv : v.category = 1) (hr : WP l Z a0 n0 B R k n (pc + 1) L S H Q) : WP l Z a0 n0 B R k n pc L (v :: S) H Q :=
  pure hr fun h hx hc st => XT.pop h hx rfl (hb hc d) rfl (by rw [lf_cat]; exact hv) st
theorem dup_x1 {v w : Value} (d : decode B.2.1 pc = .ok (.dup_x1, 1)) (hv : v.category = 1) (hv' : w.category = 1) (hr : WP l Z a0 n0 B R k n (pc + 1) L (v :: w :: v :: S) H Q) : WP l Z a0 n0 B R k n pc L (v :: w :: S) H Q :=
  pure hr fun h hx hc st => XT.dupX1 h hx rfl (hb hc d) rfl (by rw [lf_cat]; exact hv) (by rw [lf_cat]; exact hv') st
theorem dup2 {v w : Value} (d : decode B.2.1 pc = .ok (.dup2, 1)) (hv : v.category = 1) (hv' : w.category = 1) (hr : WP l Z a0 n0 B R k n (pc + 1) L (v :: w :: v :: w :: S) H Q) : WP l Z a0 n0 B R k n pc L (v :: w :: S) H Q :=
  pure hr fun h hx hc st => XT.dup2 h hx rfl (hb hc d) rfl (by rw [lf_cat]; exact hv) (by rw [lf_cat]; exact hv') st
theorem dup2L {x : Int64} (d : decode B.2.1 pc = .ok (.dup2, 1)) (hr : WP l Z a0 n0 B R k n (pc + 1) L (.long x :: .long x :: S) H Q) : WP l Z a0 n0 B R k n pc L (.long x :: S) H Q :=
  pure hr fun h hx hc st => XT.dup2L h hx rfl (hb hc d) rfl st
theorem iadd {x : Int32} {y : Int32} (d : decode B.2.1 pc = .ok (.iadd, 1)) (hr : WP l Z a0 n0 B R k n (pc + 1) L (.int (x + y) :: S) H Q) : WP l Z a0 n0 B R k n pc L (.int y :: .int x :: S) H Q :=
  pure hr fun h hx hc st => XS.iadd h hx rfl (hb hc d) rfl st
theorem isub {x : Int32} {y : Int32} (d : decode B.2.1 pc = .ok (.isub, 1)) (hr : WP l Z a0 n0 B R k n (pc + 1) L (.int (x - y) :: S) H Q) : WP l Z a0 n0 B R k n pc L (.int y :: .int x :: S) H Q :=
  pure hr fun h hx hc st => XS.isub h hx rfl (hb hc d) rfl st
theorem iand {x : Int32} {y : Int32} (d : decode B.2.1 pc = .ok (.iand, 1)) (hr : WP l Z a0 n0 B R k n (pc + 1) L (.int (x &&& y) :: S) H Q) : WP l Z a0 n0 B R k n pc L (.int y :: .int x :: S) H Q :=
  pure hr fun h hx hc st => XS.iand h hx rfl (hb hc d) rfl st
theorem imul {x : Int32} {y : Int32} (d : decode B.2.1 pc = .ok (.imul, 1)) (hr : WP l Z a0 n0 B R k n (pc + 1) L (.int (x * y) :: S) H Q) : WP l Z a0 n0 B R k n pc L (.int y :: .int x :: S) H Q :=
  pure hr fun h hx hc st => XS.imul h hx rfl (hb hc d) rfl st
theorem ixor {x : Int32} {y : Int32} (d : decode B.2.1 pc = .ok (.ixor, 1)) (hr : WP l Z a0 n0 B R k n (pc + 1) L (.int (x ^^^ y) :: S) H Q) : WP l Z a0 n0 B R k n pc L (.int y :: .int x :: S) H Q :=
  pure hr fun h hx hc st => XT.ixor h hx rfl (hb hc d) rfl st
theorem ior {x : Int32} {y : Int32} (d : decode B.2.1 pc = .ok (.ior, 1)) (hr : WP l Z a0 n0 B R k n (pc + 1) L (.int (x ||| y) :: S) H Q) : WP l Z a0 n0 B R k n pc L (.int y :: .int x :: S) H Q :=
  pure hr fun h hx hc st => XT.ior h hx rfl (hb hc d) rfl st
theorem ishl {x : Int32} {y : Int32} (d : decode B.2.1 pc = .ok (.ishl, 1)) (hr : WP l Z a0 n0 B R k n (pc + 1) L (.int (x <<< (y &&& 31)) :: S) H Q) : WP l Z a0 n0 B R k n pc L (.int y :: .int x :: S) H Q :=
  pure hr fun h hx hc st => XT.ishl h hx rfl (hb hc d) rfl st
theorem ishr {x : Int32} {y : Int32} (d : decode B.2.1 pc = .ok (.ishr, 1)) (hr : WP l Z a0 n0 B R k n (pc + 1) L (.int (x >>> (y &&& 31)) :: S) H Q) : WP l Z a0 n0 B R k n pc L (.int y :: .int x :: S) H Q :=
  pure hr fun h hx hc st => XT.ishr h hx rfl (hb hc d) rfl st
theorem iushr {x : Int32} {y : Int32} (d : decode B.2.1 pc = .ok (.iushr, 1)) (hr : WP l Z a0 n0 B R k n (pc + 1) L (.int (XT.ushr x y) :: S) H Q) : WP l Z a0 n0 B R k n pc L (.int y :: .int x :: S) H Q :=
  pure hr fun h hx hc st => XT.iushr h hx rfl (hb hc d) rfl st
theorem ladd {x : Int64} {y : Int64} (d : decode B.2.1 pc = .ok (.ladd, 1)) (hr : WP l Z a0 n0 B R k n (pc + 1) L (.long (x + y) :: S) H Q) : WP l Z a0 n0 B R k n pc L (.long y :: .long x :: S) H Q :=
  pure hr fun h hx hc st => XT.ladd h hx rfl (hb hc d) rfl st
theorem lsub {x : Int64} {y : Int64} (d : decode B.2.1 pc = .ok (.lsub, 1)) (hr : WP l Z a0 n0 B R k n (pc + 1) L (.long (x - y) :: S) H Q) : WP l Z a0 n0 B R k n pc L (.long y :: .long x :: S) H Q :=
  pure hr fun h hx hc st => XT.lsub h hx rfl (hb hc d) rfl st
theorem lmul {x : Int64} {y : Int64} (d : decode B.2.1 pc = .ok (.lmul, 1)) (hr : WP l Z a0 n0 B R k n (pc + 1) L (.long (x * y) :: S) H Q) : WP l Z a0 n0 B R k n pc L (.long y :: .long x :: S) H Q :=
  pure hr fun h hx hc st => XT.lmul h hx rfl (hb hc d) rfl st
theorem land {x : Int64} {y : Int64} (d : decode B.2.1 pc = .ok (.land, 1)) (hr : WP l Z a0 n0 B R k n (pc + 1) L (.long (x &&& y) :: S) H Q) : WP l Z a0 n0 B R k n pc L (.long y :: .long x :: S) H Q :=
  pure hr fun h hx hc st => XT.land h hx rfl (hb hc d) rfl st
theorem lor {x : Int64} {y : Int64} (d : decode B.2.1 pc = .ok (.lor, 1)) (hr : WP l Z a0 n0 B R k n (pc + 1) L (.long (x ||| y) :: S) H Q) : WP l Z a0 n0 B R k n pc L (.long y :: .long x :: S) H Q :=
  pure hr fun h hx hc st => XT.lor h hx rfl (hb hc d) rfl st
theorem lxor {x : Int64} {y : Int64} (d : decode B.2.1 pc = .ok (.lxor, 1)) (hr : WP l Z a0 n0 B R k n (pc + 1) L (.long (x ^^^ y) :: S) H Q) : WP l Z a0 n0 B R k n pc L (.long y :: .long x :: S) H Q :=
  pure hr fun h hx hc st => XT.lxor h hx rfl (hb hc d) rfl st
theorem lshl {x : Int64} {y : Int32} (d : decode B.2.1 pc = .ok (.lshl, 1)) (hr : WP l Z a0 n0 B R k n (pc + 1) L (.long (x <<< (y.toInt64 &&& 63)) :: S) H Q) : WP l Z a0 n0 B R k n pc L (.int y :: .long x :: S) H Q :=
  pure hr fun h hx hc st => XT.lshl h hx rfl (hb hc d) rfl st
theorem lshr {x : Int64} {y : Int32} (d : decode B.2.1 pc = .ok (.lshr, 1)) (hr : WP l Z a0 n0 B R k n (pc + 1) L (.long (x >>> (y.toInt64 &&& 63)) :: S) H Q) : WP l Z a0 n0 B R k n pc L (.int y :: .long x :: S) H Q :=
  pure hr fun h hx hc st => XT.lshr h hx rfl (hb hc d) rfl st
theorem lushr {x : Int64} {y : Int32} (d : decode B.2.1 pc = .ok (.lushr, 1)) (hr : WP l Z a0 n0 B R k n (pc + 1) L (.long (XT.ushrL x y) :: S) H Q) : WP l Z a0 n0 B R k n pc L (.int y :: .long x :: S) H Q :=
  pure hr fun h hx hc st => XT.lushr h hx rfl (hb hc d) rfl st
theorem ineg {x : Int32} (d : decode B.2.1 pc = .ok (.ineg, 1)) (hr : WP l Z a0 n0 B R k n (pc + 1) L (.int (-x) :: S) H Q) : WP l Z a0 n0 B R k n pc L (.int x :: S) H Q :=
  pure hr fun h hx hc st => XS.ineg h hx rfl (hb hc d) rfl st
theorem lneg {x : Int64} (d : decode B.2.1 pc = .ok (.lneg, 1)) (hr : WP l Z a0 n0 B R k n (pc + 1) L (.long (-x) :: S) H Q) : WP l Z a0 n0 B R k n pc L (.long x :: S) H Q :=
  pure hr fun h hx hc st => XT.lneg h hx rfl (hb hc d) rfl st
theorem i2l {x : Int32} (d : decode B.2.1 pc = .ok (.i2l, 1)) (hr : WP l Z a0 n0 B R k n (pc + 1) L (.long (x.toInt64) :: S) H Q) : WP l Z a0 n0 B R k n pc L (.int x :: S) H Q :=
  pure hr fun h hx hc st => XT.i2l h hx rfl (hb hc d) rfl st
theorem l2i {x : Int64} (d : decode B.2.1 pc = .ok (.l2i, 1)) (hr : WP l Z a0 n0 B R k n (pc + 1) L (.int (x.toInt32) :: S) H Q) : WP l Z a0 n0 B R k n pc L (.long x :: S) H Q :=
  pure hr fun h hx hc st => XT.l2i h hx rfl (hb hc d) rfl st
theorem i2b {x : Int32} (d : decode B.2.1 pc = .ok (.i2b, 1)) (hr : WP l Z a0 n0 B R k n (pc + 1) L (.int (x.toInt8.toInt32) :: S) H Q) : WP l Z a0 n0 B R k n pc L (.int x :: S) H Q :=
  pure hr fun h hx hc st => XT.i2b h hx rfl (hb hc d) rfl st
theorem i2s {x : Int32} (d : decode B.2.1 pc = .ok (.i2s, 1)) (hr : WP l Z a0 n0 B R k n (pc + 1) L (.int (x.toInt16.toInt32) :: S) H Q) : WP l Z a0 n0 B R k n pc L (.int x :: S) H Q :=
  pure hr fun h hx hc st => XT.i2s h hx rfl (hb hc d) rfl st
theorem i2c {x : Int32} (d : decode B.2.1 pc = .ok (.i2c, 1)) (hr : WP l Z a0 n0 B R k n (pc + 1) L (.int (x.toUInt32.toUInt16.toUInt32.toInt32) :: S) H Q) : WP l Z a0 n0 B R k n pc L (.int x :: S) H Q :=
  pure hr fun h hx hc st => XT.i2c h hx rfl (hb hc d) rfl st
theorem iaddE {x y z : Int32} (d : decode B.2.1 pc = .ok (.iadd, 1)) (hz : x + y = z) (hr : WP l Z a0 n0 B R k n (pc + 1) L (.int z :: S) H Q) : WP l Z a0 n0 B R k n pc L (.int y :: .int x :: S) H Q := iadd d (hz ▸ hr)
theorem isubE {x y z : Int32} (d : decode B.2.1 pc = .ok (.isub, 1)) (hz : x - y = z) (hr : WP l Z a0 n0 B R k n (pc + 1) L (.int z :: S) H Q) : WP l Z a0 n0 B R k n pc L (.int y :: .int x :: S) H Q := isub d (hz ▸ hr)
theorem imulE {x y z : Int32} (d : decode B.2.1 pc = .ok (.imul, 1)) (hz : x * y = z) (hr : WP l Z a0 n0 B R k n (pc + 1) L (.int z :: S) H Q) : WP l Z a0 n0 B R k n pc L (.int y :: .int x :: S) H Q := imul d (hz ▸ hr)
theorem idiv {x y : Int32} (d : decode B.2.1 pc = .ok (.idiv, 1)) (hy : y ≠ 0) (hr : WP l Z a0 n0 B R k n (pc + 1) L (.int (x / y) :: S) H Q) : WP l Z a0 n0 B R k n pc L (.int y :: .int x :: S) H Q :=
  pure hr fun h hx hc st => XS.idiv h hx rfl (hb hc d) rfl hy st
theorem irem {x y : Int32} (d : decode B.2.1 pc = .ok (.irem, 1)) (hy : y ≠ 0) (hr : WP l Z a0 n0 B R k n (pc + 1) L (.int (x % y) :: S) H Q) : WP l Z a0 n0 B R k n pc L (.int y :: .int x :: S) H Q :=
  pure hr fun h hx hc st => XS.irem h hx rfl (hb hc d) rfl hy (by rw [irem_eq_mod]; exact st)
theorem iushrE {x y z : Int32} (d : decode B.2.1 pc = .ok (.iushr, 1)) (hz : XT.ushr x y = z) (hr : WP l Z a0 n0 B R k n (pc + 1) L (.int z :: S) H Q) : WP l Z a0 n0 B R k n pc L (.int y :: .int x :: S) H Q := iushr d (hz ▸ hr)
theorem iandE {x y z : Int32} (d : decode B.2.1 pc = .ok (.iand, 1)) (hz : x &&& y = z) (hr : WP l Z a0 n0 B R k n (pc + 1) L (.int z :: S) H Q) : WP l Z a0 n0 B R k n pc L (.int y :: .int x :: S) H Q := iand d (hz ▸ hr)
theorem idivE {x y z : Int32} (d : decode B.2.1 pc = .ok (.idiv, 1)) (hy : y ≠ 0) (hz : x / y = z) (hr : WP l Z a0 n0 B R k n (pc + 1) L (.int z :: S) H Q) : WP l Z a0 n0 B R k n pc L (.int y :: .int x :: S) H Q := idiv d hy (hz ▸ hr)
theorem iremE {x y z : Int32} (d : decode B.2.1 pc = .ok (.irem, 1)) (hy : y ≠ 0) (hz : x % y = z) (hr : WP l Z a0 n0 B R k n (pc + 1) L (.int z :: S) H Q) : WP l Z a0 n0 B R k n pc L (.int y :: .int x :: S) H Q := irem d hy (hz ▸ hr)
/-! ### branches -/
theorem goto {o : Int} {pc' : Nat} (d : decode B.2.1 pc = .ok (.goto o, 3)) (hp : ((pc : Int) + o).toNat = pc') (ho : 0 ≤ (pc : Int) + o) (hr : WP l Z a0 n0 B R k n pc' L S H Q) : WP l Z a0 n0 B R k n pc L S H Q :=
  pure hr fun h hx hc st => XS.goto h hx rfl (pc0 := pc) rfl (hb hc d) ho hp st
def cP : ClassFile.Cond → Int32 → Int32 → Prop
  | .eq, x, y => x = y
  | .ne, x, y => ¬ x = y
  | .lt, x, y => x < y
  | .ge, x, y => ¬ x < y
  | .gt, x, y => y < x
  | .le, x, y => ¬ y < x
def cPL : ClassFile.Cond → Int64 → Int64 → Prop
  | .eq, x, y => x = y
  | .ne, x, y => ¬ x = y
  | .lt, x, y => x < y
  | .ge, x, y => ¬ x < y
  | .gt, x, y => y < x
  | .le, x, y => ¬ y < x
instance (cd : ClassFile.Cond) (x y : Int32) : Decidable (cP cd x y) := by cases cd <;> simp only [cP] <;> infer_instance
instance (cd : ClassFile.Cond) (x y : Int64) : Decidable (cPL cd x y) := by cases cd <;> simp only [cPL] <;> infer_instance
theorem cP_iff (cd : ClassFile.Cond) (x y : Int32) : if_icmp.holds cd x y = true ↔ cP cd x y := by
  cases cd
  · by_cases h : x = y
    · exact ⟨fun _ => h, fun _ => (teq h).1⟩
    · simp [(feq h).1, cP, h]
  · by_cases h : x = y
    · exact ⟨fun q => (by rw [(teq h).2] at q; cases q), fun q => absurd h q⟩
    · simp [(feq h).2, cP, h]
  · by_cases h : x < y
    · simp [(tlt h).1, cP, h]
    · simp [(flt h).1, cP, h]
  · by_cases h : x < y
    · simp [(tlt h).2.1, cP, h]
    · simp [(flt h).2.1, cP, h]
  · by_cases h : y < x
    · simp [(tlt h).2.2.1, cP, h]
    · simp [(flt h).2.2.1, cP, h]
  · by_cases h : y < x
    · simp [(tlt h).2.2.2, cP, h]
    · simp [(flt h).2.2.2, cP, h]
theorem cPL_iff (cd : ClassFile.Cond) (x y : Int64) : ifCond.holds cd (XT.cmpL x y) = true ↔ cPL cd x y := by
  rw [if0, cP_iff]
  by_cases h : y < x
  · have h1 : ¬ x < y := Int64.not_lt.mpr (Int64.le_of_lt h)
    have h2 : ¬ x = y := fun e => by subst e; exact absurd h Int64.lt_irrefl
    cases cd <;> simp [cP, cPL, XT.cmpL, h, h1, h2]
  · by_cases h2 : x = y
    · subst h2
      cases cd <;> simp [cP, cPL, XT.cmpL, Int64.lt_irrefl]
    · have h1 : x < y := Int64.lt_of_le_of_ne (Int64.not_lt.mp h) h2
      cases cd <;> simp [cP, cPL, XT.cmpL, h, h1, h2]
theorem icmpT {cd : ClassFile.Cond} {x y : Int32} {o : Int} {pc' : Nat} (d : decode B.2.1 pc = .ok (.if_icmp cd o, 3)) (hp : ((pc : Int) + o).toNat = pc') (ho : 0 ≤ (pc : Int) + o) (hc : cP cd x y) (hr : WP l Z a0 n0 B R k n pc' L S H Q) : WP l Z a0 n0 B R k n pc L (.int y :: .int x :: S) H Q :=
  pure hr fun h hx hc' st => XS.icmpYes h hx rfl (pc0 := pc) rfl (hb hc' d) rfl ((cP_iff _ _ _).mpr hc) ho hp st
theorem icmpF {cd : ClassFile.Cond} {x y : Int32} {o : Int} (d : decode B.2.1 pc = .ok (.if_icmp cd o, 3)) (hc : ¬ cP cd x y) (hr : WP l Z a0 n0 B R k n (pc + 3) L S H Q) : WP l Z a0 n0 B R k n pc L (.int y :: .int x :: S) H Q :=
  pure hr fun h hx hc' st => XS.icmpNo h hx rfl (hb hc' d) rfl (Bool.eq_false_iff.mpr fun q => hc ((cP_iff _ _ _).mp q)) st
theorem ifT {cd : ClassFile.Cond} {x : Int32} {o : Int} {pc' : Nat} (d : decode B.2.1 pc = .ok (.ifCond cd o, 3)) (hp : ((pc : Int) + o).toNat = pc') (ho : 0 ≤ (pc : Int) + o) (hc : cP cd x 0) (hr : WP l Z a0 n0 B R k n pc' L S H Q) : WP l Z a0 n0 B R k n pc L (.int x :: S) H Q :=
  pure hr fun h hx hc' st => XS.ifYes h hx rfl (pc0 := pc) rfl (hb hc' d) rfl ((if0 _ _).trans ((cP_iff _ _ _).mpr hc)) ho hp st
theorem ifF {cd : ClassFile.Cond} {x : Int32} {o : Int} (d : decode B.2.1 pc = .ok (.ifCond cd o, 3)) (hc : ¬ cP cd x 0) (hr : WP l Z a0 n0 B R k n (pc + 3) L S H Q) : WP l Z a0 n0 B R k n pc L (.int x :: S) H Q :=
  pure hr fun h hx hc' st => XS.ifNo h hx rfl (hb hc' d) rfl ((if0 _ _).trans (Bool.eq_false_iff.mpr fun q => hc ((cP_iff _ _ _).mp q))) st
theorem lcmp {x y : Int64} (d : decode B.2.1 pc = .ok (.lcmp, 1)) (hr : WP l Z a0 n0 B R k n (pc + 1) L (.int (XT.cmpL x y) :: S) H Q) : WP l Z a0 n0 B R k n pc L (.long y :: .long x :: S) H Q :=
  pure hr fun h hx hc st => XT.lcmp h hx rfl (hb hc d) rfl st
theorem lcmpT {cd : ClassFile.Cond} {x y : Int64} {o : Int} {pc' : Nat} (d1 : decode B.2.1 pc = .ok (.lcmp, 1)) (d : decode B.2.1 (pc + 1) = .ok (.ifCond cd o, 3)) (hp : (((pc + 1 : Nat) : Int) + o).toNat = pc') (ho : 0 ≤ ((pc + 1 : Nat) : Int) + o) (hc : cPL cd x y) (hr : WP l Z a0 n0 B R k n pc' L S H Q) : WP l Z a0 n0 B R k n pc L (.long y :: .long x :: S) H Q :=
  lcmp d1 (pure hr fun h hx hc' st => XS.ifYes h hx rfl (pc0 := pc + 1) rfl (hb hc' d) rfl ((cPL_iff _ _ _).mpr hc) ho hp st)
theorem lcmpF {cd : ClassFile.Cond} {x y : Int64} {o : Int} (d1 : decode B.2.1 pc = .ok (.lcmp, 1)) (d : decode B.2.1 (pc + 1) = .ok (.ifCond cd o, 3)) (hc : ¬ cPL cd x y) (hr : WP l Z a0 n0 B R k n (pc + 4) L S H Q) : WP l Z a0 n0 B R k n pc L (.long y :: .long x :: S) H Q :=
  lcmp d1 (pure hr fun h hx hc' st => XS.ifNo h hx rfl (hb hc' d) rfl (Bool.eq_false_iff.mpr fun q => hc ((cPL_iff _ _ _).mp q)) st)
theorem ifnullF {o : Int} {i : Nat} (d : decode B.2.1 pc = .ok (.ifnull o, 3)) (hr : WP l Z a0 n0 B R k n (pc + 3) L S H Q) : WP l Z a0 n0 B R k n pc L (.ref i :: S) H Q :=
  pure hr fun h hx hc st => XS.ifnullNo h hx rfl (hb hc d) rfl st
theorem ifnonnullT {o : Int} {i pc' : Nat} (d : decode B.2.1 pc = .ok (.ifnonnull o, 3)) (hp : ((pc : Int) + o).toNat = pc') (ho : 0 ≤ (pc : Int) + o) (hr : WP l Z a0 n0 B R k n pc' L S H Q) : WP l Z a0 n0 B R k n pc L (.ref i :: S) H Q :=
  pure hr fun h hx hc st => XT.ifnonnullYes h hx rfl (pc0 := pc) rfl (hb hc d) rfl ho hp st
theorem acmpneT {o : Int} {i j pc' : Nat} (d : decode B.2.1 pc = .ok (.if_acmp .ne o, 3)) (hp : ((pc : Int) + o).toNat = pc') (ho : 0 ≤ (pc : Int) + o) (hij : ¬ i = j) (hr : WP l Z a0 n0 B R k n pc' L S H Q) : WP l Z a0 n0 B R k n pc L (.ref j :: .ref i :: S) H Q :=
  pure hr fun h hx hc st => XT.acmpYes h hx rfl (pc0 := pc) rfl (hb hc d) rfl rfl rfl (by simp [XT.acmp, lf, hij]) ho hp st
theorem icmp_eq {x y : Int32} {o : Int} {pc' : Nat} (d : decode B.2.1 pc = .ok (.if_icmp .eq o, 3)) (hp : ((pc : Int) + o).toNat = pc') (ho : 0 ≤ (pc : Int) + o) (h1 : x = y → WP l Z a0 n0 B R k n pc' L S H Q) (h2 : ¬ x = y → WP l Z a0 n0 B R k n (pc + 3) L S H Q) : WP l Z a0 n0 B R k n pc L (.int y :: .int x :: S) H Q :=
  if q : cP .eq x y then icmpT d hp ho q (h1 q) else icmpF d q (h2 q)
theorem if_eq {x : Int32} {o : Int} {pc' : Nat} (d : decode B.2.1 pc = .ok (.ifCond .eq o, 3)) (hp : ((pc : Int) + o).toNat = pc') (ho : 0 ≤ (pc : Int) + o) (h1 : x = 0 → WP l Z a0 n0 B R k n pc' L S H Q) (h2 : ¬ x = 0 → WP l Z a0 n0 B R k n (pc + 3) L S H Q) : WP l Z a0 n0 B R k n pc L (.int x :: S) H Q :=
  if q : cP .eq x 0 then ifT d hp ho q (h1 q) else ifF d q (h2 q)
theorem lcmp_eq {x y : Int64} {o : Int} {pc' : Nat} (d1 : decode B.2.1 pc = .ok (.lcmp, 1)) (d : decode B.2.1 (pc + 1) = .ok (.ifCond .eq o, 3)) (hp : (((pc + 1 : Nat) : Int) + o).toNat = pc') (ho : 0 ≤ ((pc + 1 : Nat) : Int) + o) (h1 : x = y → WP l Z a0 n0 B R k n pc' L S H Q) (h2 : ¬ x = y → WP l Z a0 n0 B R k n (pc + 4) L S H Q) : WP l Z a0 n0 B R k n pc L (.long y :: .long x :: S) H Q :=
  if q : cPL .eq x y then lcmpT d1 d hp ho q (h1 q) else lcmpF d1 d q (h2 q)
theorem icmp_ne {x y : Int32} {o : Int} {pc' : Nat} (d : decode B.2.1 pc = .ok (.if_icmp .ne o, 3)) (hp : ((pc : Int) + o).toNat = pc') (ho : 0 ≤ (pc : Int) + o) (h1 : ¬ x = y → WP l Z a0 n0 B R k n pc' L S H Q) (h2 : x = y → WP l Z a0 n0 B R k n (pc + 3) L S H Q) : WP l Z a0 n0 B R k n pc L (.int y :: .int x :: S) H Q :=
  if q : cP .ne x y then icmpT d hp ho q (h1 q) else icmpF d q (h2 (Decidable.not_not.mp q))
theorem if_ne {x : Int32} {o : Int} {pc' : Nat} (d : decode B.2.1 pc = .ok (.ifCond .ne o, 3)) (hp : ((pc : Int) + o).toNat = pc') (ho : 0 ≤ (pc : Int) + o) (h1 : ¬ x = 0 → WP l Z a0 n0 B R k n pc' L S H Q) (h2 : x = 0 → WP l Z a0 n0 B R k n (pc + 3) L S H Q) : WP l Z a0 n0 B R k n pc L (.int x :: S) H Q :=
  if q : cP .ne x 0 then ifT d hp ho q (h1 q) else ifF d q (h2 (Decidable.not_not.mp q))
theorem lcmp_ne {x y : Int64} {o : Int} {pc' : Nat} (d1 : decode B.2.1 pc = .ok (.lcmp, 1)) (d : decode B.2.1 (pc + 1) = .ok (.ifCond .ne o, 3)) (hp : (((pc + 1 : Nat) : Int) + o).toNat = pc') (ho : 0 ≤ ((pc + 1 : Nat) : Int) + o) (h1 : ¬ x = y → WP l Z a0 n0 B R k n pc' L S H Q) (h2 : x = y → WP l Z a0 n0 B R k n (pc + 4) L S H Q) : WP l Z a0 n0 B R k n pc L (.long y :: .long x :: S) H Q :=
  if q : cPL .ne x y then lcmpT d1 d hp ho q (h1 q) else lcmpF d1 d q (h2 (Decidable.not_not.mp q))
theorem icmp_lt {x y : Int32} {o : Int} {pc' : Nat} (d : decode B.2.1 pc = .ok (.if_icmp .lt o, 3)) (hp : ((pc : Int) + o).toNat = pc') (ho : 0 ≤ (pc : Int) + o) (h1 : x < y → WP l Z a0 n0 B R k n pc' L S H Q) (h2 : ¬ x < y → WP l Z a0 n0 B R k n (pc + 3) L S H Q) : WP l Z a0 n0 B R k n pc L (.int y :: .int x :: S) H Q :=
  if q : cP .lt x y then icmpT d hp ho q (h1 q) else icmpF d q (h2 q)
theorem if_lt {x : Int32} {o : Int} {pc' : Nat} (d : decode B.2.1 pc = .ok (.ifCond .lt o, 3)) (hp : ((pc : Int) + o).toNat = pc') (ho : 0 ≤ (pc : Int) + o) (h1 : x < 0 → WP l Z a0 n0 B R k n pc' L S H Q) (h2 : ¬ x < 0 → WP l Z a0 n0 B R k n (pc + 3) L S H Q) : WP l Z a0 n0 B R k n pc L (.int x :: S) H Q :=
  if q : cP .lt x 0 then ifT d hp ho q (h1 q) else ifF d q (h2 q)
theorem lcmp_lt {x y : Int64} {o : Int} {pc' : Nat} (d1 : decode B.2.1 pc = .ok (.lcmp, 1)) (d : decode B.2.1 (pc + 1) = .ok (.ifCond .lt o, 3)) (hp : (((pc + 1 : Nat) : Int) + o).toNat = pc') (ho : 0 ≤ ((pc + 1 : Nat) : Int) + o) (h1 : x < y → WP l Z a0 n0 B R k n pc' L S H Q) (h2 : ¬ x < y → WP l Z a0 n0 B R k n (pc + 4) L S H Q) : WP l Z a0 n0 B R k n pc L (.long y :: .long x :: S) H Q :=
  if q : cPL .lt x y then lcmpT d1 d hp ho q (h1 q) else lcmpF d1 d q (h2 q)
theorem icmp_ge {x y : Int32} {o : Int} {pc' : Nat} (d : decode B.2.1 pc = .ok (.if_icmp .ge o, 3)) (hp : ((pc : Int) + o).toNat = pc') (ho : 0 ≤ (pc : Int) + o) (h1 : ¬ x < y → WP l Z a0 n0 B R k n pc' L S H Q) (h2 : x < y → WP l Z a0 n0 B R k n (pc + 3) L S H Q) : WP l Z a0 n0 B R k n pc L (.int y :: .int x :: S) H Q :=
  if q : cP .ge x y then icmpT d hp ho q (h1 q) else icmpF d q (h2 (Decidable.not_not.mp q))
theorem if_ge {x : Int32} {o : Int} {pc' : Nat} (d : decode B.2.1 pc = .ok (.ifCond .ge o, 3)) (hp : ((pc : Int) + o).toNat = pc') (ho : 0 ≤ (pc : Int) + o) (h1 : ¬ x < 0 → WP l Z a0 n0 B R k n pc' L S H Q) (h2 : x < 0 → WP l Z a0 n0 B R k n (pc + 3) L S H Q) : WP l Z a0 n0 B R k n pc L (.int x :: S) H Q :=
  if q : cP .ge x 0 then ifT d hp ho q (h1 q) else ifF d q (h2 (Decidable.not_not.mp q))
theorem lcmp_ge {x y : Int64} {o : Int} {pc' : Nat} (d1 : decode B.2.1 pc = .ok (.lcmp, 1)) (d : decode B.2.1 (pc + 1) = .ok (.ifCond .ge o, 3)) (hp : (((pc + 1 : Nat) : Int) + o).toNat = pc') (ho : 0 ≤ ((pc + 1 : Nat) : Int) + o) (h1 : ¬ x < y → WP l Z a0 n0 B R k n pc' L S H Q) (h2 : x < y → WP l Z a0 n0 B R k n (pc + 4) L S H Q) : WP l Z a0 n0 B R k n pc L (.long y :: .long x :: S) H Q :=
  if q : cPL .ge x y then lcmpT d1 d hp ho q (h1 q) else lcmpF d1 d q (h2 (Decidable.not_not.mp q))
theorem icmp_gt {x y : Int32} {o : Int} {pc' : Nat} (d : decode B.2.1 pc = .ok (.if_icmp .gt o, 3)) (hp : ((pc : Int) + o).toNat = pc') (ho : 0 ≤ (pc : Int) + o) (h1 : y < x → WP l Z a0 n0 B R k n pc' L S H Q) (h2 : ¬ y < x → WP l Z a0 n0 B R k n (pc + 3) L S H Q) : WP l Z a0 n0 B R k n pc L (.int y :: .int x :: S) H Q :=
  if q : cP .gt x y then icmpT d hp ho q (h1 q) else icmpF d q (h2 q)
theorem if_gt {x : Int32} {o : Int} {pc' : Nat} (d : decode B.2.1 pc = .ok (.ifCond .gt o, 3)) (hp : ((pc : Int) + o).toNat = pc') (ho : 0 ≤ (pc : Int) + o) (h1 : 0 < x → WP l Z a0 n0 B R k n pc' L S H Q) (h2 : ¬ 0 < x → WP l Z a0 n0 B R k n (pc + 3) L S H Q) : WP l Z a0 n0 B R k n pc L (.int x :: S) H Q :=
  if q : cP .gt x 0 then ifT d hp ho q (h1 q) else ifF d q (h2 q)
theorem lcmp_gt {x y : Int64} {o : Int} {pc' : Nat} (d1 : decode B.2.1 pc = .ok (.lcmp, 1)) (d : decode B.2.1 (pc + 1) = .ok (.ifCond .gt o, 3)) (hp : (((pc + 1 : Nat) : Int) + o).toNat = pc') (ho : 0 ≤ ((pc + 1 : Nat) : Int) + o) (h1 : y < x → WP l Z a0 n0 B R k n pc' L S H Q) (h2 : ¬ y < x → WP l Z a0 n0 B R k n (pc + 4) L S H Q) : WP l Z a0 n0 B R k n pc L (.long y :: .long x :: S) H Q :=
  if q : cPL .gt x y then lcmpT d1 d hp ho q (h1 q) else lcmpF d1 d q (h2 q)
theorem icmp_le {x y : Int32} {o : Int} {pc' : Nat} (d : decode B.2.1 pc = .ok (.if_icmp .le o, 3)) (hp : ((pc : Int) + o).toNat = pc') (ho : 0 ≤ (pc : Int) + o) (h1 : ¬ y < x → WP l Z a0 n0 B R k n pc' L S H Q) (h2 : y < x → WP l Z a0 n0 B R k n (pc + 3) L S H Q) : WP l Z a0 n0 B R k n pc L (.int y :: .int x :: S) H Q :=
  if q : cP .le x y then icmpT d hp ho q (h1 q) else icmpF d q (h2 (Decidable.not_not.mp q))
theorem if_le {x : Int32} {o : Int} {pc' : Nat} (d : decode B.2.1 pc = .ok (.ifCond .le o, 3)) (hp : ((pc : Int) + o).toNat = pc') (ho : 0 ≤ (pc : Int) + o) (h1 : ¬ 0 < x → WP l Z a0 n0 B R k n pc' L S H Q) (h2 : 0 < x → WP l Z a0 n0 B R k n (pc + 3) L S H Q) : WP l Z a0 n0 B R k n pc L (.int x :: S) H Q :=
  if q : cP .le x 0 then ifT d hp ho q (h1 q) else ifF d q (h2 (Decidable.not_not.mp q))
theorem lcmp_le {x y : Int64} {o : Int} {pc' : Nat} (d1 : decode B.2.1 pc = .ok (.lcmp, 1)) (d : decode B.2.1 (pc + 1) = .ok (.ifCond .le o, 3)) (hp : (((pc + 1 : Nat) : Int) + o).toNat = pc') (ho : 0 ≤ ((pc + 1 : Nat) : Int) + o) (h1 : ¬ y < x → WP l Z a0 n0 B R k n pc' L S H Q) (h2 : y < x → WP l Z a0 n0 B R k n (pc + 4) L S H Q) : WP l Z a0 n0 B R k n pc L (.long y :: .long x :: S) H Q :=
  if q : cPL .le x y then lcmpT d1 d hp ho q (h1 q) else lcmpF d1 d q (h2 (Decidable.not_not.mp q))
end
end Jvm.Sh
namespace Jvm.Sh
open Jvm Jvm.ClassFile Sem Op Lib Jvm.Free Jvm.Stand Jvm.LawKit Jvm.RoadKit Bundle
section
variable {l : Launch} {Z : State} {a0 : Array Value} {n0 : Nat} {B : Bdy} {R : Room} {k n pc : Nat} {L : List Slot} {S : List Value} {H : SH} {Q : Option Value → SH → Prop} {W : List Jvm.Cond}
/-! ### the heap -/
theorem lf_default (n0 : Nat) (ty : FieldType) : lf n0 (defaultValue ty) = defaultValue ty := by cases ty <;> rfl
theorem lf_narrow {n0 : Nat} {ty : FieldType} {v : Value} (h : narrow ty v = v) : narrow ty (lf n0 v) = lf n0 v := by
  cases v <;> first | exact h | (cases ty <;> rfl)
theorem lf_fits {n0 : Nat} {ty : FieldType} {v : Value} (h : fits ty v = true) : fits ty (lf n0 v) = true := by
  cases v <;> first | exact h | (cases ty <;> simp [fits, lf] at h ⊢)
theorem ext_push (h : Heap) (c : Cell) : Ext h (h.push c) :=
  ⟨by simp, fun a d e => by rw [Array.getElem?_push_lt (Array.getElem?_eq_some_iff.mp e).1]; exact (Array.getElem?_eq_getElem _).symm.trans e⟩
theorem getfield (hw : ∀ d ∈ W, d.before a0 Z = true) {i idx a j : Nat} {C nm ds : String} {fs : List (String × String × Value)} {v : Value} (w : W[i]? = some (.fieldLink B.1.cls idx C nm ds)) (d : decode B.2.1 pc = .ok (.getfield idx, 3))
    (hH : H[a]? = some (.inl (C, fs))) (hf : fs[j]? = some (nm, ds, v)) (hr : WP l Z a0 n0 B R k n (pc + 3) L (v :: S) H Q) : WP l Z a0 n0 B R k n pc L (.ref a :: S) H Q := by
  intro p e s m args below meth c T locs X hx hc hml hret hlk hZ hown hnm hF hR
  have K := (hR.2 a _ hH).2.2.2 _ (List.mem_of_getElem? hf)
  obtain ⟨T', X', e', st⟩ := getF X hx hZ hown (host := "") (Or.inl (hw _ (List.mem_of_getElem? w))) Via.refl rfl K.2.2 (g := mkF m pc (LL n0 L) ((Value.ref a :: S).map (lf n0))) rfl rfl (hb hc d)
  obtain ⟨t, o, h1, h2⟩ := hr p e s m args below meth c T' locs X' hx hc hml hret hlk hZ hown hnm hF (by rw [e']; exact hR)
  exact ⟨t, o, st _ h1, h2⟩
theorem put_ok {h h' : Heap} {a : Addr} {C nm ds : String} {fs : List (String × String × Value)} {j : Nat} {old v : Value} (K : CellOk Z a0 n0 h a (.inl (C, fs))) (hf : fs[j]? = some (nm, ds, old)) (W' : Wr h h' a (RoadKit.slotOf Z C nm ds) (lf n0 v)) :
    CellOk Z a0 n0 h' a (.inl (C, fs.set j (nm, ds, v))) := by
  obtain ⟨E, I, N, F⟩ := K
  have hj := lt_of_at hf
  have hfm := List.mem_of_getElem? hf
  refine ⟨E.wr W', I, ?_, fun f hfm' => ?_⟩
  · have : (fs.set j (nm, ds, v)).map (·.1) = fs.map (·.1) := by
      rw [List.map_set]
      apply List.ext_getElem? 
      intro i
      by_cases q : i = j
      · subst q
        rw [List.getElem?_set_self (by simpa using hj)]
        simp [hf]
      · rw [List.getElem?_set_ne (Ne.symm q)]
    rw [this]; exact N
  · obtain ⟨i, hi⟩ := List.getElem?_of_mem hfm'
    by_cases q : i = j
    · subst q
      rw [List.getElem?_set_self hj] at hi
      cases hi
      exact ⟨(F _ hfm).1, (F _ hfm).2.1, (F _ hfm).2.2.same W'⟩
    · rw [List.getElem?_set_ne (Ne.symm q)] at hi
      have hm := List.mem_of_getElem? hi
      obtain ⟨t1, ht1⟩ := (F _ hm).2.1
      obtain ⟨t2, ht2⟩ := (F _ hfm).2.1
      refine ⟨(F _ hm).1, (F _ hm).2.1, (F _ hm).2.2.other W' (Or.inr (slot_ne (F _ hm).1 (F _ hfm).1 (fun e => q ?_) ht1 ht2))⟩
      have n1 : (fs.map (·.1))[i]? = some f.1 := by simp [hi]
      have n2 : (fs.map (·.1))[j]? = some nm := by simp [hf]
      have li := lt_of_at n1
      have lj := lt_of_at n2
      refine (List.getElem_inj (h₀ := li) (h₁ := lj) N).mp ?_
      have e1 := (List.getElem?_eq_some_iff.mp n1).2
      have e2 := (List.getElem?_eq_some_iff.mp n2).2
      rw [e1, e2]; exact e
theorem putfield' (hw : ∀ d ∈ W, d.before a0 Z = true) {i i2 idx a j : Nat} {C nm ds : String} {fs fs' : List (String × String × Value)} {old v : Value} {ty : FieldType} {H' : SH} (w : W[i]? = some (.fieldLink B.1.cls idx C nm ds))
    (w2 : W[i2]? = some (.lays C C nm ds) ∨ (W[i2]? = some (.laysFinal C C nm ds) ∧ B.1.cls = C ∧ B.1.name = "<init>")) (d : decode B.2.1 pc = .ok (.putfield idx, 3))
    (hH : H[a]? = some (.inl (C, fs))) (hf : fs[j]? = some (nm, ds, old)) (hty : parseFieldDescriptor ds = some ty) (hn : narrow ty v = v) (hfit : fits ty v = true) (hset1 : fs.set j (nm, ds, v) = fs') (hset : H.set a (.inl (C, fs')) = H')
    (hr : WP l Z a0 n0 B R k n (pc + 3) L S H' Q) : WP l Z a0 n0 B R k n pc L (v :: .ref a :: S) H Q := by
  intro p e s m args below meth c T locs X hx hc hml hret hlk hZ hown hnm hF hR
  have K0 := hR.2 a _ hH
  have K := K0.2.2.2 _ (List.mem_of_getElem? hf)
  obtain ⟨kk, hk⟩ := K0.2.1
  obtain ⟨T', h', X', e', W', st⟩ := putF X hx hZ hown (host := "") (Or.inl (hw _ (List.mem_of_getElem? w))) Via.refl rfl K.2.2 K0.1 (w2.imp (fun q => hw _ (List.mem_of_getElem? q)) (fun q => ⟨hw _ (List.mem_of_getElem? q.1), q.2.1, hnm.trans q.2.2⟩)) hk hty (lf_narrow hn) (lf_fits hfit) (g := mkF m pc (LL n0 L) ((v :: Value.ref a :: S).map (lf n0))) rfl rfl (hb hc d)
  have hR' : Rep Z a0 n0 T'.heap H' := by
    rw [e', ← hset, ← hset1]
    exact hR.set W' (lt_of_at hH) (put_ok K0 hf W')
  obtain ⟨t, o, h1, h2⟩ := hr p e s m args below meth c T' _ X' hx hc hml hret hlk hZ hown hnm (Fr.snoc X' hF (Nat.le_add_right _ _)) hR'
  exact ⟨t, o, st _ h1, h2⟩
theorem putfield (hw : ∀ d ∈ W, d.before a0 Z = true) {i i2 idx a j : Nat} {C nm ds : String} {fs fs' : List (String × String × Value)} {old v : Value} {ty : FieldType} {H' : SH} (w : W[i]? = some (.fieldLink B.1.cls idx C nm ds))
    (w2 : W[i2]? = some (.lays C C nm ds)) (d : decode B.2.1 pc = .ok (.putfield idx, 3))
    (hH : H[a]? = some (.inl (C, fs))) (hf : fs[j]? = some (nm, ds, old)) (hty : parseFieldDescriptor ds = some ty) (hn : narrow ty v = v) (hfit : fits ty v = true) (hset1 : fs.set j (nm, ds, v) = fs') (hset : H.set a (.inl (C, fs')) = H')
    (hr : WP l Z a0 n0 B R k n (pc + 3) L S H' Q) : WP l Z a0 n0 B R k n pc L (v :: .ref a :: S) H Q := putfield' hw w (Or.inl w2) d hH hf hty hn hfit hset1 hset hr
theorem putfieldF (hw : ∀ d ∈ W, d.before a0 Z = true) {i i2 idx a j : Nat} {C nm ds : String} {fs fs' : List (String × String × Value)} {old v : Value} {ty : FieldType} {H' : SH} (w : W[i]? = some (.fieldLink B.1.cls idx C nm ds))
    (w2 : W[i2]? = some (.laysFinal C C nm ds)) (hC : B.1.cls = C) (hI : B.1.name = "<init>") (d : decode B.2.1 pc = .ok (.putfield idx, 3))
    (hH : H[a]? = some (.inl (C, fs))) (hf : fs[j]? = some (nm, ds, old)) (hty : parseFieldDescriptor ds = some ty) (hn : narrow ty v = v) (hfit : fits ty v = true) (hset1 : fs.set j (nm, ds, v) = fs') (hset : H.set a (.inl (C, fs')) = H')
    (hr : WP l Z a0 n0 B R k n (pc + 3) L S H' Q) : WP l Z a0 n0 B R k n pc L (v :: .ref a :: S) H Q := putfield' hw w (Or.inr ⟨w2, hC, hI⟩) d hH hf hty hn hfit hset1 hset hr
theorem newobj (hw : ∀ d ∈ W, d.before a0 Z = true) {i1 i2 i3 idx cnt a k' n' : Nat} {C : String} {fs : List (String × String × Value)} {H' : SH} (w1 : W[i1]? = some (.classLink B.1.cls idx C)) (w2 : W[i2]? = some (.instantiable C cnt)) (w3 : W[i3]? = some (.initialized C)) (d : decode B.2.1 pc = .ok (.new idx, 3))
    (hfs : ∀ f ∈ fs, (.lays C C f.1 f.2.1 ∈ W ∨ .laysFinal C C f.1 f.2.1 ∈ W) ∧ ∃ ty, parseFieldDescriptor f.2.1 = some ty ∧ defaultValue ty = f.2.2) (hnd : (fs.map (·.1)).Nodup) (hc : k + 1 ≤ R.cells) (hl : n + cnt ≤ R.slots) (hk : k + 1 = k') (hn : n + cnt = n') (hlen : H.length = a) (happ : H ++ [.inl (C, fs)] = H')
    (hr : WP l Z a0 n0 B R k' n' (pc + 3) L (.ref a :: S) H' Q) : WP l Z a0 n0 B R k n pc L S H Q := by
  intro p e s m args below meth c T locs X hx hc' hml hret hlk hZ hown hnm hF hR
  subst hk hn hlen happ
  have v1 := hw _ (List.mem_of_getElem? w1)
  have v2 := hw _ (List.mem_of_getElem? w2)
  have v3 := hw _ (List.mem_of_getElem? w3)
  obtain ⟨vm', cC, kC, h1, h2, h3, h4, X', st⟩ := X.newCold hx hown (mv hZ v1) (mv hZ v2) (mv hZ v3) (g := mkF m pc (LL n0 L) (S.map (lf n0))) rfl (hb hc' d) hc hl
  rw [hZ.alike.findClass] at h1
  obtain ⟨kZ, z1, -⟩ := Vm.findClass_spec h1
  obtain ⟨kx, z2, z3⟩ := hZ.alike.2.2 _ _ z1
  cases h2.symm.trans z2
  have ei : kC.instanceTypes = kZ.instanceTypes := by rw [z3]
  have hN : (T.heap.push { cls := cC, slots := kC.instanceTypes.map defaultValue, vm := .none })[T.heap.size]? = some { cls := cC, slots := kC.instanceTypes.map defaultValue, vm := .none } := by simp
  have E : Exa Z (T.heap.push { cls := cC, slots := kC.instanceTypes.map defaultValue, vm := .none }) T.heap.size C := ⟨_, kZ, hN, h1, z1, rfl, fun _ => by simp [ei]⟩
  have hR' : Rep Z a0 n0 (T.heap.push { cls := cC, slots := kC.instanceTypes.map defaultValue, vm := .none }) (H ++ [.inl (C, fs)]) := by
    refine hR.push (ext_push _ _) (by simp) ⟨E, ⟨_, v2⟩, hnd, fun f hf => ?_⟩
    obtain ⟨hL, ty, ht, hdv⟩ := hfs f hf
    have LD : Laid Z a0 C C f.1 f.2.1 := hL.imp (fun q => hw _ q) (fun q => hw _ q)
    refine ⟨LD, ⟨ty, ht⟩, ?_⟩
    obtain ⟨c1, k1, cf, kf, i, fd, b1, b2, b3, b4, b5, b6, -⟩ := LD.spec
    cases h1.symm.trans b1
    cases z1.symm.trans b2
    rw [← hdv, lf_default]
    exact ⟨_, cf, kf, i, fd, hN, b3, b4, by simp, rfl, b5, by simp [ei, b6, (State.fieldFound?_type b3 ht).2]⟩
  obtain ⟨t, o, g1, g2⟩ := hr p e s m args below meth c _ locs X' hx hc' hml hret hlk hZ hown hnm hF hR'
  refine ⟨t, o, st _ ?_, g2⟩
  rw [hR.1]
  exact g1
theorem newarr (hw : ∀ d ∈ W, d.before a0 Z = true) {i N cap a k' n' : Nat} {aty : ArrayType} {ty : FieldType} {dv : Value} {vs : List Value} {x : Int32} {H' : SH} (w : W[i]? = some (.arrayClass ty)) (hty : newarray.typeOf aty = ty) (d : decode B.2.1 pc = .ok (.newarray aty, 2))
    (hdv : defaultValue ty = dv) (hx0 : ¬ x < 0) (hN : x.toNatClampNeg = N) (hvs : List.replicate N dv = vs) (hcap : N ≤ cap) (hb' : cap * 8 ≤ 536870912) (hc : k + 1 ≤ R.cells) (hl : n + cap ≤ R.slots) (hk : k + 1 = k') (hn : n + cap = n') (hlen : H.length = a) (happ : H ++ [.inr (ty, vs)] = H')
    (hr : WP l Z a0 n0 B R k' n' (pc + 2) L (.ref a :: S) H' Q) : WP l Z a0 n0 B R k n pc L (.int x :: S) H Q := by
  intro p e s m args below meth c T locs X hx hc' hml hret hlk hZ hown hnm hF hR
  subst hk hn hlen happ hty hN hdv hvs
  have v1 := hw _ (List.mem_of_getElem? w)
  have hcb : componentBytes (newarray.typeOf aty) ≤ 8 := by cases aty <;> decide
  obtain ⟨cA, kA, comp, h1, h2, h3, X', st⟩ := X.newarrayPrim hx (mvA hZ v1) (g := mkF m pc (LL n0 L) ((Value.int x :: S).map (lf n0))) rfl (hb hc' d) rfl hx0 (Nat.le_trans (Nat.mul_le_mul hcap hcb) hb') hc (by omega)
  rw [hZ.alike.findClass] at h1
  obtain ⟨kZ, z1, -⟩ := Vm.findClass_spec h1
  obtain ⟨kx, z2, z3⟩ := hZ.alike.2.2 _ _ z1
  cases h2.symm.trans z2
  have hR' : Rep Z a0 n0 (T.heap.push { cls := cA, slots := Array.replicate x.toNatClampNeg (defaultValue (newarray.typeOf aty)), vm := .none }) (H ++ [.inr (newarray.typeOf aty, List.replicate x.toNatClampNeg (defaultValue (newarray.typeOf aty)))]) := by
    refine hR.push (ext_push _ _) (by simp) ⟨_, ⟨by simp; rfl, ⟨by simp, kZ, z1, comp, by rw [← h3, z3]⟩, by simp⟩, ?_, ?_⟩
    · apply Array.toList_inj.mp
      simp [lf_default]
    · have := (back32 hx0).2
      simpa using this
  obtain ⟨t, o, g1, g2⟩ := hr p e s m args below meth c _ locs (X'.more (Nat.le_refl _) (by omega)) hx hc' hml hret hlk hZ hown hnm hF hR'
  refine ⟨t, o, st _ ?_, g2⟩
  rw [hR.1]
  exact g1
theorem arr_at {h : Heap} {a : Nat} {ty : FieldType} {vs : List Value} {j : Int32} {jn : Nat} (hR : Rep Z a0 n0 h H) (hH : H[a]? = some (.inr (ty, vs))) (hj0 : ¬ j < 0) (hj : j.toNatClampNeg = jn) (hlt : jn < vs.length) :
    ∃ c : Cell, Arr Z h (n0 + a) c ty ∧ c.slots = (vs.map (lf n0)).toArray ∧ vs.length < 2 ^ 31 ∧ ¬ (j < 0 ∨ c.slots.size ≤ j.toNatClampNeg) := by
  obtain ⟨c, A, e, hl⟩ := hR.2 a _ hH
  refine ⟨c, A, e, hl, fun q => q.elim hj0 fun q => ?_⟩
  rw [e, hj] at q
  simp at q
  omega
theorem load_at {c : Cell} {vs : List Value} {j : Int32} {jn : Nat} {v : Value} (e : c.slots = (vs.map (lf n0)).toArray) (hj : j.toNatClampNeg = jn) (hv : vs[jn]? = some v) : c.slots[j.toNatClampNeg]? = some (lf n0 v) := by
  rw [e, hj]; simp [hv]
theorem iaload {a jn : Nat} {vs : List Value} {j : Int32} {v : Value} (d : decode B.2.1 pc = .ok (.iaload, 1)) (hH : H[a]? = some (.inr (.int, vs))) (hj0 : ¬ j < 0) (hj : j.toNatClampNeg = jn) (hv : vs[jn]? = some v)
    (hr : WP l Z a0 n0 B R k n (pc + 1) L (v :: S) H Q) : WP l Z a0 n0 B R k n pc L (.int j :: .ref a :: S) H Q := by
  intro p e s m args below meth c T locs X hx hc hml hret hlk hZ hown hnm hF hR
  obtain ⟨cl, A, es, -, hin⟩ := arr_at hR hH hj0 hj (lt_of_at hv)
  obtain ⟨t, o, h1, h2⟩ := hr p e s m args below meth c T locs X hx hc hml hret hlk hZ hown hnm hF hR
  exact ⟨t, o, X.iaload hx A.1 (State.isArrayOf_alike hZ.alike A.2.1) A.2.2 hin (load_at es hj hv) (g := mkF m pc (LL n0 L) ((Value.int j :: Value.ref a :: S).map (lf n0))) rfl rfl (hb hc d) _ h1, h2⟩
theorem laload {a jn : Nat} {vs : List Value} {j : Int32} {v : Value} (d : decode B.2.1 pc = .ok (.laload, 1)) (hH : H[a]? = some (.inr (.long, vs))) (hj0 : ¬ j < 0) (hj : j.toNatClampNeg = jn) (hv : vs[jn]? = some v)
    (hr : WP l Z a0 n0 B R k n (pc + 1) L (v :: S) H Q) : WP l Z a0 n0 B R k n pc L (.int j :: .ref a :: S) H Q := by
  intro p e s m args below meth c T locs X hx hc hml hret hlk hZ hown hnm hF hR
  obtain ⟨cl, A, es, -, hin⟩ := arr_at hR hH hj0 hj (lt_of_at hv)
  obtain ⟨t, o, h1, h2⟩ := hr p e s m args below meth c T locs X hx hc hml hret hlk hZ hown hnm hF hR
  exact ⟨t, o, X.laload hx A.1 (State.isArrayOf_alike hZ.alike A.2.1) A.2.2 hin (load_at es hj hv) (g := mkF m pc (LL n0 L) ((Value.int j :: Value.ref a :: S).map (lf n0))) rfl rfl (hb hc d) _ h1, h2⟩
theorem baload {a jn : Nat} {vs : List Value} {j : Int32} {v : Value} (d : decode B.2.1 pc = .ok (.baload, 1)) (hH : H[a]? = some (.inr (.byte, vs))) (hj0 : ¬ j < 0) (hj : j.toNatClampNeg = jn) (hv : vs[jn]? = some v)
    (hr : WP l Z a0 n0 B R k n (pc + 1) L (v :: S) H Q) : WP l Z a0 n0 B R k n pc L (.int j :: .ref a :: S) H Q := by
  intro p e s m args below meth c T locs X hx hc hml hret hlk hZ hown hnm hF hR
  obtain ⟨cl, A, es, -, hin⟩ := arr_at hR hH hj0 hj (lt_of_at hv)
  obtain ⟨t, o, h1, h2⟩ := hr p e s m args below meth c T locs X hx hc hml hret hlk hZ hown hnm hF hR
  exact ⟨t, o, X.baloadBytes hx A.1 (State.isArrayOf_alike hZ.alike A.2.1) A.2.2 hin (load_at es hj hv) (g := mkF m pc (LL n0 L) ((Value.int j :: Value.ref a :: S).map (lf n0))) rfl rfl (hb hc d) _ h1, h2⟩
theorem set_rep {h h' : Heap} {a jn : Nat} {ty : FieldType} {vs vs' : List Value} {c : Cell} {v : Value} {H' : SH} (hR : Rep Z a0 n0 h H) (hH : H[a]? = some (.inr (ty, vs))) (A : Arr Z h (n0 + a) c ty) (es : c.slots = (vs.map (lf n0)).toArray) (hlen : vs.length < 2 ^ 31) (W' : Wr h h' (n0 + a) jn (lf n0 v))
    (hset : vs.set jn v = vs') (hset2 : H.set a (.inr (ty, vs')) = H') : Rep Z a0 n0 h' H' := by
  subst hset hset2
  refine hR.set W' (lt_of_at hH) ⟨_, A.same W', ?_, by simpa using hlen⟩
  simp only [Cell.setSlot, es]
  apply Array.toList_inj.mp
  simp [List.map_set]
theorem iastore {a jn : Nat} {vs vs' : List Value} {j x : Int32} {H' : SH} (d : decode B.2.1 pc = .ok (.iastore, 1)) (hH : H[a]? = some (.inr (.int, vs))) (hj0 : ¬ j < 0) (hj : j.toNatClampNeg = jn) (hlt : jn < vs.length) (hset : vs.set jn (.int x) = vs') (hset2 : H.set a (.inr (.int, vs')) = H')
    (hr : WP l Z a0 n0 B R k n (pc + 1) L S H' Q) : WP l Z a0 n0 B R k n pc L (.int x :: .int j :: .ref a :: S) H Q := by
  intro p e s m args below meth c T locs X hx hc hml hret hlk hZ hown hnm hF hR
  obtain ⟨cl, A, es, hlen, hin⟩ := arr_at hR hH hj0 hj hlt
  obtain ⟨T', h', X', e', W', st⟩ := stI X hx hZ rfl A hin (g := mkF m pc (LL n0 L) ((Value.int x :: Value.int j :: Value.ref a :: S).map (lf n0))) rfl rfl (hb hc d)
  obtain ⟨t, o, h1, h2⟩ := hr p e s m args below meth c T' _ X' hx hc hml hret hlk hZ hown hnm (Fr.snoc X' hF (Nat.le_add_right _ _)) (by rw [e']; exact set_rep hR hH A es hlen (hj ▸ W') hset hset2)
  exact ⟨t, o, st _ h1, h2⟩
theorem lastore {a jn : Nat} {vs vs' : List Value} {j : Int32} {x : Int64} {H' : SH} (d : decode B.2.1 pc = .ok (.lastore, 1)) (hH : H[a]? = some (.inr (.long, vs))) (hj0 : ¬ j < 0) (hj : j.toNatClampNeg = jn) (hlt : jn < vs.length) (hset : vs.set jn (.long x) = vs') (hset2 : H.set a (.inr (.long, vs')) = H')
    (hr : WP l Z a0 n0 B R k n (pc + 1) L S H' Q) : WP l Z a0 n0 B R k n pc L (.long x :: .int j :: .ref a :: S) H Q := by
  intro p e s m args below meth c T locs X hx hc hml hret hlk hZ hown hnm hF hR
  obtain ⟨cl, A, es, hlen, hin⟩ := arr_at hR hH hj0 hj hlt
  obtain ⟨T', h', X', e', W', st⟩ := stJ X hx hZ rfl A hin (g := mkF m pc (LL n0 L) ((Value.long x :: Value.int j :: Value.ref a :: S).map (lf n0))) rfl rfl (hb hc d)
  obtain ⟨t, o, h1, h2⟩ := hr p e s m args below meth c T' _ X' hx hc hml hret hlk hZ hown hnm (Fr.snoc X' hF (Nat.le_add_right _ _)) (by rw [e']; exact set_rep hR hH A es hlen (hj ▸ W') hset hset2)
  exact ⟨t, o, st _ h1, h2⟩
theorem bastore {a jn : Nat} {vs vs' : List Value} {j x y : Int32} {H' : SH} (d : decode B.2.1 pc = .ok (.bastore, 1)) (hH : H[a]? = some (.inr (.byte, vs))) (hj0 : ¬ j < 0) (hj : j.toNatClampNeg = jn) (hlt : jn < vs.length) (hy : x.toInt8.toInt32 = y) (hset : vs.set jn (.int y) = vs') (hset2 : H.set a (.inr (.byte, vs')) = H')
    (hr : WP l Z a0 n0 B R k n (pc + 1) L S H' Q) : WP l Z a0 n0 B R k n pc L (.int x :: .int j :: .ref a :: S) H Q := by
  intro p e s m args below meth c T locs X hx hc hml hret hlk hZ hown hnm hF hR
  obtain ⟨cl, A, es, hlen, hin⟩ := arr_at hR hH hj0 hj hlt
  obtain ⟨T', h', X', e', W', st⟩ := stB X hx hZ rfl A hin (g := mkF m pc (LL n0 L) ((Value.int x :: Value.int j :: Value.ref a :: S).map (lf n0))) rfl rfl (hb hc d)
  subst hy
  obtain ⟨t, o, h1, h2⟩ := hr p e s m args below meth c T' _ X' hx hc hml hret hlk hZ hown hnm (Fr.snoc X' hF (Nat.le_add_right _ _)) (by rw [e']; exact set_rep (v := .int x.toInt8.toInt32) hR hH A es hlen (hj ▸ W') hset hset2)
  exact ⟨t, o, st _ h1, h2⟩
theorem arraylength {a : Nat} {ty : FieldType} {vs : List Value} {N : Int32} (d : decode B.2.1 pc = .ok (.arraylength, 1)) (hH : H[a]? = some (.inr (ty, vs))) (hN : vs.length.toInt32 = N) (hr : WP l Z a0 n0 B R k n (pc + 1) L (.int N :: S) H Q) : WP l Z a0 n0 B R k n pc L (.ref a :: S) H Q := by
  intro p e s m args below meth c T locs X hx hc hml hret hlk hZ hown hnm hF hR
  obtain ⟨cl, A, es, -⟩ := hR.2 a _ hH
  obtain ⟨t, o, h1, h2⟩ := hr p e s m args below meth c T locs X hx hc hml hret hlk hZ hown hnm hF hR
  refine ⟨t, o, X.arraylength hx A.1 (State.isArrayOf_alike hZ.alike A.2.1) (g := mkF m pc (LL n0 L) ((Value.ref a :: S).map (lf n0))) rfl rfl (hb hc d) _ ?_, h2⟩
  have e1 : cl.slots.size.toInt32 = N := by rw [es, ← hN]; simp
  rw [e1]
  exact h1
/-! ### returns -/
theorem leave' {p : Program} {e : Env} {s : State} {m : MethodId} {args : Array Value} {below : List Frame} {meth : Method} {c : Code} {T : State} {locs : List Loc} (X : Stand p l e R s m args below meth c T locs k n) (hlk : meth.locks = false) {v : Option Value} (hv : meth.sig.returnType = none → v = none) (hF : Fr n0 locs) (hR : Rep Z a0 n0 T.heap H) (hQ : Q v H) (hk : k ≤ R.cells) (hn : n ≤ R.slots) {g : JFrame}
    (st : ∀ fs, (∀ (f : JFrame) (acts : List Action), f.method = m → f.locked = none → f.entered = [] → (doReturn e (T.setTop f) acts (v.map (lf n0))).1 = T.setFrames fs) → Steps p.tables e below (T.setTop g) (T.setFrames fs)) :
    ∃ t o, Steps p.tables e below (T.setTop g) t ∧ t.status = .running ∧ Ended t below o ∧
      ∃ v L', o = .returned (v.map (lf n0)) ∧ (∃ H', Q v H' ∧ Rep Z a0 n0 t.heap H') ∧ Fr n0 L' ∧ FrameEnd s o t L' R.cells R.slots := by
  obtain ⟨fs, hr, hrun, hended, hW, hsame⟩ := X.leave (v := v.map (lf n0)) (fun q => by rw [hv q]; rfl) hlk
  exact ⟨_, _, st fs hr, hrun, hended, v, locs, rfl, ⟨H, hQ, hR⟩, hF, ⟨_, rfl⟩, hW, hsame.mono hk hn⟩
theorem retI {x : Int32} (d : decode B.2.1 pc = .ok (.ireturn, 1)) (hrt : B.2.2.2 = some .int) (hk : k ≤ R.cells) (hn : n ≤ R.slots) (hQ : Q (some (.int x)) H) : WP l Z a0 n0 B R k n pc L (.int x :: S) H Q := by
  intro p e s m args below meth c T locs X hx hc hml hret hlk hZ hown hnm hF hR
  refine leave' X hlk (v := some (.int x)) (fun q => by rw [hret, hrt] at q; cases q) hF hR hQ hk hn fun fs hr => ?_
  exact retOut X hx (hret.trans hrt) rfl (Or.inl ⟨rfl, Or.inl rfl, x, rfl⟩) (hb hc d) hr
theorem retN {x y : Int32} {ty : FieldType} (d : decode B.2.1 pc = .ok (.ireturn, 1)) (hrt : B.2.2.2 = some ty) (ht : ty = .boolean ∨ ty = .byte ∨ ty = .char ∨ ty = .short) (hy : nar ty x = y) (hk : k ≤ R.cells) (hn : n ≤ R.slots) (hQ : Q (some (.int y)) H) : WP l Z a0 n0 B R k n pc L (.int x :: S) H Q := by
  intro p e s m args below meth c T locs X hx hc hml hret hlk hZ hown hnm hF hR
  subst hy
  refine leave' X hlk (v := some (.int (nar ty x))) (fun q => by rw [hret, hrt] at q; cases q) hF hR hQ hk hn fun fs hr => ?_
  exact RoadKit.retN X hx (hret.trans hrt) ht (hb hc d) hr
theorem retL {x : Int64} (d : decode B.2.1 pc = .ok (.lreturn, 1)) (hrt : B.2.2.2 = some .long) (hk : k ≤ R.cells) (hn : n ≤ R.slots) (hQ : Q (some (.long x)) H) : WP l Z a0 n0 B R k n pc L (.long x :: S) H Q := by
  intro p e s m args below meth c T locs X hx hc hml hret hlk hZ hown hnm hF hR
  refine leave' X hlk (v := some (.long x)) (fun q => by rw [hret, hrt] at q; cases q) hF hR hQ hk hn fun fs hr => ?_
  exact retOut X hx (hret.trans hrt) rfl (Or.inr (Or.inl ⟨rfl, rfl, x, rfl⟩)) (hb hc d) hr
theorem retA {v : Value} {ty : FieldType} (d : decode B.2.1 pc = .ok (.areturn, 1)) (hrt : B.2.2.2 = some ty) (ht : ty.isReference = true) (hv : v.isRef = true) (hk : k ≤ R.cells) (hn : n ≤ R.slots) (hQ : Q (some v) H) : WP l Z a0 n0 B R k n pc L (v :: S) H Q := by
  intro p e s m args below meth c T locs X hx hc hml hret hlk hZ hown hnm hF hR
  refine leave' X hlk (v := some v) (fun q => by rw [hret, hrt] at q; cases q) hF hR hQ hk hn fun fs hr => ?_
  refine retOut X hx (hret.trans hrt) ?_ (Or.inr (Or.inr (Or.inr (Or.inr ⟨rfl, ht, by rw [lf_isRef]; exact hv⟩)))) (hb hc d) hr
  cases ty <;> first | (cases ht; done) | rfl
theorem ret0 (d : decode B.2.1 pc = .ok (.return_, 1)) (hrt : B.2.2.2 = none) (hk : k ≤ R.cells) (hn : n ≤ R.slots) (hQ : Q none H) : WP l Z a0 n0 B R k n pc L [] H Q := by
  intro p e s m args below meth c T locs X hx hc hml hret hlk hZ hown hnm hF hR
  refine leave' X hlk (v := none) (fun _ => rfl) hF hR hQ hk hn fun fs hr => ?_
  exact X.returnOut hx (hret.trans hrt) (hb hc d) hr
/-! ### calls -/
theorem cat_sum (n0 : Nat) (S : List Value) : ((S.map (lf n0)).map fun v => v.category).sum = (S.map fun v => v.category).sum := by
  simp [List.map_map, Function.comp_def, lf_cat]
theorem lf_out (n0 : Nat) (v : Option Value) (S : List Value) : (v.map (lf n0)).toList ++ S.map (lf n0) = (v.toList ++ S).map (lf n0) := by cases v <;> simp
theorem rep_plain {h : Heap} {a : Nat} {c : SC} (hR : Rep Z a0 n0 h H) (hH : H[a]? = some c) : ∃ cell : Cell, h[n0 + a]? = some cell ∧ ∀ q, cell.vm ≠ .statics q := by
  have K := hR.2 a _ hH
  rcases c with ⟨C, fs⟩ | ⟨ty, vs⟩
  · exact K.1.cell
  · obtain ⟨c, A, -⟩ := K
    exact ⟨c, A.1, A.2.1.1⟩
variable {B' : Bdy} {R' : Room} {as S' : List Value} {Q' : Option Value → SH → Prop} {ps : List FieldType} {r : Option FieldType} {i1 i2 i3 i4 i5 idx k' n' : Nat}
theorem callS (hw : ∀ d ∈ W, d.before a0 Z = true) (w1 : W[i1]? = some (.methodLink B.1.cls idx B'.1)) (w2 : W[i2]? = some (.static B'.1)) (w3 : W[i3]? = some (.initialized B'.1.cls)) (w4 : W[i4]? = some (.code B'.1 B'.2.1 B'.2.2.1 B'.2.2.2))
    (hy : B'.1.cls ≠ "java/lang/invoke/MethodHandle" ∧ B'.1.cls ≠ "java/lang/invoke/VarHandle") (hM : Meth l Z a0 n0 B' R' as H Q') (d : decode B.2.1 pc = .ok (.invokestatic idx, 3)) (hS : S = as.reverse ++ S') (hL : L.length = B.2.2.1) (hd : parseMethodDescriptor B'.1.desc = some ⟨ps, r⟩) (hps : as.length = ps.length)
    (hf : R'.frames + 1 ≤ R.frames) (hl : (S'.map fun v => v.category).sum + (B'.2.2.1 + 11) + R'.locals ≤ R.locals) (hc : k + R'.cells ≤ R.cells) (hs : n + R'.slots ≤ R.slots) (hk : k + R'.cells = k') (hn : n + R'.slots = n')
    (hr : ∀ v H', Q' v H' → WP l Z a0 n0 B R k' n' (pc + 3) L (v.toList ++ S') H' Q) : WP l Z a0 n0 B R k n pc L S H Q := by
  intro p e s m args below meth c T locs X hx hc' hml hret hlk hZ hown hnm hF hR
  subst hk hn hS
  have v4 := hw _ (List.mem_of_getElem? w4)
  have v3 := hw _ (List.mem_of_getElem? w3)
  obtain ⟨_, _, ⟨T', L1, k1, n1⟩, -, X', ⟨L2, ⟨v, H', rfl, hq, hR', hF'⟩, e1, e2, e3⟩, st⟩ := Jvm.LawKit.callS X hx hown (mvT hZ (hw _ (List.mem_of_getElem? w1))) (mvT hZ (hw _ (List.mem_of_getElem? w2))) (mvT hZ v3) (mvT hZ v4) hy (W := (S'.map fun v => v.category).sum)
    (backOf (h := T.heap) (Q := fun v h L => ∃ v' H', v = v'.map (lf n0) ∧ Q' v' H' ∧ Rep Z a0 n0 h H' ∧ Fr n0 L) (hM T.heap [] hR) hZ v4 v3 hf hl) (g := mkF m pc (LL n0 L) ((as.reverse ++ S').map (lf n0))) rfl (by rw [hml, ← hL]; simp) (argsL := as.map (lf n0)) (rest := S'.map (lf n0)) (lenOf hd (by simpa using hps)) (by simp) (by show 2 * 0 + _ ≤ _; rw [cat_sum]; omega) (hb hc' d) (fun _ _ => ⟨rfl, rfl, hc, hs⟩)
  dsimp only [Pt.U, Pt.locs, Pt.cells, Pt.slots] at X' e1 e2 e3 hR' st
  subst e1 e2 e3
  obtain ⟨t, o, h1, h2⟩ := hr v H' hq p e s m args below meth c T' _ X' hx hc' hml hret hlk hZ hown hnm (Fr.app hF hF') hR'
  refine ⟨t, o, st _ ?_, h2⟩
  rw [lf_out]
  exact h1
theorem callI {a : Nat} (hw : ∀ d ∈ W, d.before a0 Z = true) (hi : B'.1.name = "<init>") (hret' : B'.2.2.2 = none) (w1 : W[i1]? = some (.methodLink B.1.cls idx B'.1)) (w2 : W[i2]? = some (.instanceMethod B'.1)) (w3 : W[i3]? = some (.initialized B'.1.cls)) (w4 : W[i4]? = some (.code B'.1 B'.2.1 B'.2.2.1 B'.2.2.2))
    (hy : B'.1.cls ≠ "java/lang/invoke/MethodHandle" ∧ B'.1.cls ≠ "java/lang/invoke/VarHandle") (hM : Meth l Z a0 n0 B' R' (.ref a :: as) H Q') (d : decode B.2.1 pc = .ok (.invokespecial idx, 3)) (hS : S = as.reverse ++ .ref a :: S') (hL : L.length = B.2.2.1) (hd : parseMethodDescriptor B'.1.desc = some ⟨ps, r⟩) (hps : as.length = ps.length)
    (hf : R'.frames + 1 ≤ R.frames) (hl : (S'.map fun v => v.category).sum + (B'.2.2.1 + 11) + R'.locals ≤ R.locals) (hc : k + R'.cells ≤ R.cells) (hs : n + R'.slots ≤ R.slots) (hk : k + R'.cells = k') (hn : n + R'.slots = n')
    (hr : ∀ v H', Q' v H' → WP l Z a0 n0 B R k' n' (pc + 3) L (v.toList ++ S') H' Q) : WP l Z a0 n0 B R k n pc L S H Q := by
  intro p e s m args below meth c T locs X hx hc' hml hret hlk hZ hown hnm hF hR
  subst hk hn hS
  have v4 := hw _ (List.mem_of_getElem? w4)
  have v3 := hw _ (List.mem_of_getElem? w3)
  obtain ⟨_, _, ⟨T', L1, k1, n1⟩, -, X', ⟨L2, ⟨v, H', rfl, hq, hR', hF'⟩, e1, e2, e3⟩, st⟩ := X.specialBack hx hi hown (mvT hZ (hw _ (List.mem_of_getElem? w1))) (mvT hZ (hw _ (List.mem_of_getElem? w2))) (bytes := B'.2.1) (maxL := B'.2.2.1) (by rw [← hret']; exact mvT hZ v4) hy (W := (S'.map fun v => v.category).sum)
    (backOf (h := T.heap) (Q := fun v h L => ∃ v' H', v = v'.map (lf n0) ∧ Q' v' H' ∧ Rep Z a0 n0 h H' ∧ Fr n0 L) (hM T.heap [] hR) hZ v4 v3 hf hl) (g := mkF m pc (LL n0 L) ((as.reverse ++ Value.ref a :: S').map (lf n0))) rfl (by rw [hml, ← hL]; simp) (Steps.refl _) (a := n0 + a) (argsL := as.map (lf n0)) (rest := S'.map (lf n0)) (lenOf hd (by simpa using hps)) (by simp [lf]) (by show 2 * 0 + _ ≤ _; rw [cat_sum]; omega) (hb hc' d) (fun _ _ => ⟨rfl, rfl, hc, hs⟩)
  dsimp only [Pt.U, Pt.locs, Pt.cells, Pt.slots] at X' e1 e2 e3 hR' st
  subst e1 e2 e3
  obtain ⟨t, o, h1, h2⟩ := hr v H' hq p e s m args below meth c T' _ X' hx hc' hml hret hlk hZ hown hnm (Fr.app hF hF') hR'
  refine ⟨t, o, st.trans ?_, h2⟩
  rw [lf_out]
  exact h1
theorem callV {a : Nat} {fs : List (String × String × Value)} (hw : ∀ d ∈ W, d.before a0 Z = true) (w1 : W[i1]? = some (.methodLink B.1.cls idx B'.1)) (w5 : W[i5]? = some (.declares B'.1)) (w2 : W[i2]? = some (.instanceMethod B'.1)) {i6 : Nat} (w6 : W[i6]? = some (.selects B'.1.cls B'.1 B'.1)) (w3 : W[i3]? = some (.initialized B'.1.cls)) (w4 : W[i4]? = some (.code B'.1 B'.2.1 B'.2.2.1 B'.2.2.2))
    (hy : B'.1.cls ≠ "java/lang/invoke/MethodHandle" ∧ B'.1.cls ≠ "java/lang/invoke/VarHandle") (hH : H[a]? = some (.inl (B'.1.cls, fs))) (hM : Meth l Z a0 n0 B' R' (.ref a :: as) H Q') (d : decode B.2.1 pc = .ok (.invokevirtual idx, 3)) (hS : S = as.reverse ++ .ref a :: S') (hL : L.length = B.2.2.1) (hd : parseMethodDescriptor B'.1.desc = some ⟨ps, r⟩) (hps : as.length = ps.length)
    (hf : R'.frames + 1 ≤ R.frames) (hl : (S'.map fun v => v.category).sum + (B'.2.2.1 + 11) + R'.locals ≤ R.locals) (hc : k + R'.cells ≤ R.cells) (hs : n + R'.slots ≤ R.slots) (hk : k + R'.cells = k') (hn : n + R'.slots = n')
    (hr : ∀ v H', Q' v H' → WP l Z a0 n0 B R k' n' (pc + 3) L (v.toList ++ S') H' Q) : WP l Z a0 n0 B R k n pc L S H Q := by
  intro p e s m args below meth c T locs X hx hc' hml hret hlk hZ hown hnm hF hR
  subst hk hn hS
  have v4 := hw _ (List.mem_of_getElem? w4)
  have v3 := hw _ (List.mem_of_getElem? w3)
  have v6 := hw _ (List.mem_of_getElem? w6)
  obtain ⟨cB, kB, f1, f2, f3⟩ := isOf hZ rfl (hR.2 a _ hH).1
  obtain ⟨_, _, ⟨T', L1, k1, n1⟩, -, X', ⟨L2, ⟨v, H', rfl, hq, hR', hF'⟩, e1, e2, e3⟩, st⟩ := X.virtualBack hx hown (mvT hZ (hw _ (List.mem_of_getElem? w1))) (mvT hZ (hw _ (List.mem_of_getElem? w5))) (notFace_of_selects (args := #[]) (mvT hZ v6)) (mvT hZ v6) (mvT hZ (hw _ (List.mem_of_getElem? w2))) hy (W := (S'.map fun v => v.category).sum)
    (backOf (h := T.heap) (Q := fun v h L => ∃ v' H', v = v'.map (lf n0) ∧ Q' v' H' ∧ Rep Z a0 n0 h H' ∧ Fr n0 L) (hM T.heap [] hR) hZ v4 v3 hf hl) f1 f3 (g := mkF m pc (LL n0 L) ((as.reverse ++ Value.ref a :: S').map (lf n0))) rfl (by rw [hml, ← hL]; simp) (Steps.refl _) (argsL := as.map (lf n0)) (rest := S'.map (lf n0)) (lenOf hd (by simpa using hps)) (by simp [lf]) (by show 2 * 0 + _ ≤ _; rw [cat_sum]; omega) (hb hc' d) (fun _ _ => ⟨rfl, rfl, hc, hs⟩)
  dsimp only [Pt.U, Pt.locs, Pt.cells, Pt.slots] at X' e1 e2 e3 hR' st
  subst e1 e2 e3
  obtain ⟨t, o, h1, h2⟩ := hr v H' hq p e s m args below meth c T' _ X' hx hc' hml hret hlk hZ hown hnm (Fr.app hF hF') hR'
  refine ⟨t, o, st.trans ?_, h2⟩
  rw [lf_out]
  exact h1
/-- a private instance method: its class is no interface, as some 'instantiable' word of it says -/
theorem callP {a : Nat} {fs : List (String × String × Value)} (hw : ∀ d ∈ W, d.before a0 Z = true) (w1 : W[i1]? = some (.methodLink B.1.cls idx B'.1)) (w2 : W[i2]? = some (.instanceMethod B'.1)) (w5 : W[i5]? = some (.privateMethod B'.1)) {i6 cnt : Nat} (w6 : W[i6]? = some (.instantiable B'.1.cls cnt)) (w3 : W[i3]? = some (.initialized B'.1.cls)) (w4 : W[i4]? = some (.code B'.1 B'.2.1 B'.2.2.1 B'.2.2.2))
    (hy : B'.1.cls ≠ "java/lang/invoke/MethodHandle" ∧ B'.1.cls ≠ "java/lang/invoke/VarHandle") (hH : H[a]? = some (.inl (B'.1.cls, fs))) (hM : Meth l Z a0 n0 B' R' (.ref a :: as) H Q') (d : decode B.2.1 pc = .ok (.invokevirtual idx, 3)) (hS : S = as.reverse ++ .ref a :: S') (hL : L.length = B.2.2.1) (hd : parseMethodDescriptor B'.1.desc = some ⟨ps, r⟩) (hps : as.length = ps.length)
    (hf : R'.frames + 1 ≤ R.frames) (hl : (S'.map fun v => v.category).sum + (B'.2.2.1 + 11) + R'.locals ≤ R.locals) (hc : k + R'.cells ≤ R.cells) (hs : n + R'.slots ≤ R.slots) (hk : k + R'.cells = k') (hn : n + R'.slots = n')
    (hr : ∀ v H', Q' v H' → WP l Z a0 n0 B R k' n' (pc + 3) L (v.toList ++ S') H' Q) : WP l Z a0 n0 B R k n pc L S H Q := by
  intro p e s m args below meth c T locs X hx hc' hml hret hlk hZ hown hnm hF hR
  subst hk hn hS
  have v4 := hw _ (List.mem_of_getElem? w4)
  have v3 := hw _ (List.mem_of_getElem? w3)
  have v2 : (Jvm.Cond.instanceMethod B'.1).before args s = true := mvT hZ (hw _ (List.mem_of_getElem? w2))
  have vp := Cond.privateMethod_at (mvP hZ (hw _ (List.mem_of_getElem? w5)) (args := #[]))
  have v6 : (Jvm.Cond.instantiable B'.1.cls cnt).before args s = true := mv hZ (hw _ (List.mem_of_getElem? w6))
  obtain ⟨cI, kI, j1, j2, j3, j4⟩ := Cond.instantiable_spec v6
  have jI : kI.isInterface = false := (Bool.or_eq_false_iff.mp j4.1).1
  obtain ⟨cell, q1, q2⟩ := rep_plain hR hH
  obtain ⟨_, _, ⟨T', L1, k1, n1⟩, -, X', ⟨L2, ⟨v, H', rfl, hq, hR', hF'⟩, e1, e2, e3⟩, st⟩ := X.privateBack hx hown (mvT hZ (hw _ (List.mem_of_getElem? w1))) v2 (selects_self_of_private j1 j2 jI vp v2 hy) vp (mvT hZ v4) hy (W := (S'.map fun v => v.category).sum)
    (backOf (h := T.heap) (Q := fun v h L => ∃ v' H', v = v'.map (lf n0) ∧ Q' v' H' ∧ Rep Z a0 n0 h H' ∧ Fr n0 L) (hM T.heap [] hR) hZ v4 v3 hf hl) (g := mkF m pc (LL n0 L) ((as.reverse ++ Value.ref a :: S').map (lf n0))) rfl (by rw [hml, ← hL]; simp) (Steps.refl _) (a := n0 + a) q1 q2 (argsL := as.map (lf n0)) (rest := S'.map (lf n0)) (lenOf hd (by simpa using hps)) (by simp [lf]) (by show 2 * 0 + _ ≤ _; rw [cat_sum]; omega) (hb hc' d) (fun _ _ => ⟨rfl, rfl, hc, hs⟩)
  dsimp only [Pt.U, Pt.locs, Pt.cells, Pt.slots] at X' e1 e2 e3 hR' st
  subst e1 e2 e3
  obtain ⟨t, o, h1, h2⟩ := hr v H' hq p e s m args below meth c T' _ X' hx hc' hml hret hlk hZ hown hnm (Fr.app hF hF') hR'
  refine ⟨t, o, st.trans ?_, h2⟩
  rw [lf_out]
  exact h1
theorem initObj {a : Nat} (hw : ∀ d ∈ W, d.before a0 Z = true) (w1 : W[i1]? = some (.methodLink B.1.cls idx Lib.objectInit)) (w2 : W[i2]? = some (.instanceMethod Lib.objectInit)) (w3 : W[i3]? = some (.code Lib.objectInit ⟨#[0xb1]⟩ 1 none)) (d : decode B.2.1 pc = .ok (.invokespecial idx, 3)) (hL : L.length = B.2.2.1)
    (hf : 1 ≤ R.frames) (hl : (S.map fun v => v.category).sum + 12 ≤ R.locals) (hr : WP l Z a0 n0 B R k n (pc + 3) L S H Q) : WP l Z a0 n0 B R k n pc L (.ref a :: S) H Q := by
  intro p e s m args below meth c T locs X hx hc hml hret hlk hZ hown hnm hF hR
  obtain ⟨T', X', e', st⟩ := initO X hx hZ hown (hw _ (List.mem_of_getElem? w1)) (hw _ (List.mem_of_getElem? w2)) (hw _ (List.mem_of_getElem? w3)) rfl (g := mkF m pc (LL n0 L) ((Value.ref a :: S).map (lf n0))) rfl (by rw [hml, ← hL]; simp) (a := n0 + a) (rest := S.map (lf n0)) rfl (hb hc d) hf (W := (S.map fun v => v.category).sum) (by show 2 * 0 + _ ≤ _; rw [cat_sum]; omega) hl
  obtain ⟨t, o, h1, h2⟩ := hr p e s m args below meth c T' locs X' hx hc hml hret hlk hZ hown hnm hF (by rw [e']; exact hR)
  exact ⟨t, o, st _ h1, h2⟩
end
end Jvm.Sh
namespace Jvm.Sh
open Jvm Jvm.ClassFile Sem Op Lib
theorem le {a b : Nat} (h : Nat.ble a b = true) : a ≤ b := Nat.le_of_ble_eq_true h
theorem s1_3 {a0 a1 a2 o : Slot} {L : List Slot} {v : Value} (ho : okS o = true) (hv : v.category = 1) : stOK (a0 :: a1 :: a2 :: o :: L) 3 v (a0 :: a1 :: a2 :: .val v :: L) := st1 (o := o) rfl ho hv rfl
theorem s2_3 {a0 a1 a2 o o2 : Slot} {L : List Slot} {v : Value} (ho : nS o = true) (h2 : n2 o2 = true) (hv : v.category = 2) : stOK (a0 :: a1 :: a2 :: o :: o2 :: L) 3 v (a0 :: a1 :: a2 :: .val v :: .second :: L) := st2 (o := o) (o2 := o2) rfl ho rfl h2 hv rfl
theorem s1_4 {a0 a1 a2 a3 o : Slot} {L : List Slot} {v : Value} (ho : okS o = true) (hv : v.category = 1) : stOK (a0 :: a1 :: a2 :: a3 :: o :: L) 4 v (a0 :: a1 :: a2 :: a3 :: .val v :: L) := st1 (o := o) rfl ho hv rfl
theorem s2_5 {a0 a1 a2 a3 a4 o o2 : Slot} {L : List Slot} {v : Value} (ho : nS o = true) (h2 : n2 o2 = true) (hv : v.category = 2) : stOK (a0 :: a1 :: a2 :: a3 :: a4 :: o :: o2 :: L) 5 v (a0 :: a1 :: a2 :: a3 :: a4 :: .val v :: .second :: L) := st2 (o := o) (o2 := o2) rfl ho rfl h2 hv rfl
theorem s1_7 {a0 a1 a2 a3 a4 a5 a6 o : Slot} {L : List Slot} {v : Value} (ho : okS o = true) (hv : v.category = 1) : stOK (a0 :: a1 :: a2 :: a3 :: a4 :: a5 :: a6 :: o :: L) 7 v (a0 :: a1 :: a2 :: a3 :: a4 :: a5 :: a6 :: .val v :: L) := st1 (o := o) rfl ho hv rfl
theorem s1_8 {a0 a1 a2 a3 a4 a5 a6 a7 o : Slot} {L : List Slot} {v : Value} (ho : okS o = true) (hv : v.category = 1) : stOK (a0 :: a1 :: a2 :: a3 :: a4 :: a5 :: a6 :: a7 :: o :: L) 8 v (a0 :: a1 :: a2 :: a3 :: a4 :: a5 :: a6 :: a7 :: .val v :: L) := st1 (o := o) rfl ho hv rfl
theorem s1_9 {a0 a1 a2 a3 a4 a5 a6 a7 a8 o : Slot} {L : List Slot} {v : Value} (ho : okS o = true) (hv : v.category = 1) : stOK (a0 :: a1 :: a2 :: a3 :: a4 :: a5 :: a6 :: a7 :: a8 :: o :: L) 9 v (a0 :: a1 :: a2 :: a3 :: a4 :: a5 :: a6 :: a7 :: a8 :: .val v :: L) := st1 (o := o) rfl ho hv rfl
theorem s1_10 {a0 a1 a2 a3 a4 a5 a6 a7 a8 a9 o : Slot} {L : List Slot} {v : Value} (ho : okS o = true) (hv : v.category = 1) : stOK (a0 :: a1 :: a2 :: a3 :: a4 :: a5 :: a6 :: a7 :: a8 :: a9 :: o :: L) 10 v (a0 :: a1 :: a2 :: a3 :: a4 :: a5 :: a6 :: a7 :: a8 :: a9 :: .val v :: L) := st1 (o := o) rfl ho hv rfl
theorem s1_11 {a0 a1 a2 a3 a4 a5 a6 a7 a8 a9 a10 o : Slot} {L : List Slot} {v : Value} (ho : okS o = true) (hv : v.category = 1) : stOK (a0 :: a1 :: a2 :: a3 :: a4 :: a5 :: a6 :: a7 :: a8 :: a9 :: a10 :: o :: L) 11 v (a0 :: a1 :: a2 :: a3 :: a4 :: a5 :: a6 :: a7 :: a8 :: a9 :: a10 :: .val v :: L) := st1 (o := o) rfl ho hv rfl
theorem s1_12 {a0 a1 a2 a3 a4 a5 a6 a7 a8 a9 a10 a11 o : Slot} {L : List Slot} {v : Value} (ho : okS o = true) (hv : v.category = 1) : stOK (a0 :: a1 :: a2 :: a3 :: a4 :: a5 :: a6 :: a7 :: a8 :: a9 :: a10 :: a11 :: o :: L) 12 v (a0 :: a1 :: a2 :: a3 :: a4 :: a5 :: a6 :: a7 :: a8 :: a9 :: a10 :: a11 :: .val v :: L) := st1 (o := o) rfl ho hv rfl
section
variable {α : Type}
theorem ls_0 { o v : α} {L : List α} : (o :: L).set 0 v = v :: L := rfl
theorem ls_1 {a0 o v : α} {L : List α} : (a0 :: o :: L).set 1 v = a0 :: v :: L := rfl
theorem ls_2 {a0 a1 o v : α} {L : List α} : (a0 :: a1 :: o :: L).set 2 v = a0 :: a1 :: v :: L := rfl
theorem ls_3 {a0 a1 a2 o v : α} {L : List α} : (a0 :: a1 :: a2 :: o :: L).set 3 v = a0 :: a1 :: a2 :: v :: L := rfl
theorem ls_4 {a0 a1 a2 a3 o v : α} {L : List α} : (a0 :: a1 :: a2 :: a3 :: o :: L).set 4 v = a0 :: a1 :: a2 :: a3 :: v :: L := rfl
theorem ls_5 {a0 a1 a2 a3 a4 o v : α} {L : List α} : (a0 :: a1 :: a2 :: a3 :: a4 :: o :: L).set 5 v = a0 :: a1 :: a2 :: a3 :: a4 :: v :: L := rfl
theorem ls_6 {a0 a1 a2 a3 a4 a5 o v : α} {L : List α} : (a0 :: a1 :: a2 :: a3 :: a4 :: a5 :: o :: L).set 6 v = a0 :: a1 :: a2 :: a3 :: a4 :: a5 :: v :: L := rfl
theorem ls_7 {a0 a1 a2 a3 a4 a5 a6 o v : α} {L : List α} : (a0 :: a1 :: a2 :: a3 :: a4 :: a5 :: a6 :: o :: L).set 7 v = a0 :: a1 :: a2 :: a3 :: a4 :: a5 :: a6 :: v :: L := rfl
theorem ls_8 {a0 a1 a2 a3 a4 a5 a6 a7 o v : α} {L : List α} : (a0 :: a1 :: a2 :: a3 :: a4 :: a5 :: a6 :: a7 :: o :: L).set 8 v = a0 :: a1 :: a2 :: a3 :: a4 :: a5 :: a6 :: a7 :: v :: L := rfl
theorem ls_9 {a0 a1 a2 a3 a4 a5 a6 a7 a8 o v : α} {L : List α} : (a0 :: a1 :: a2 :: a3 :: a4 :: a5 :: a6 :: a7 :: a8 :: o :: L).set 9 v = a0 :: a1 :: a2 :: a3 :: a4 :: a5 :: a6 :: a7 :: a8 :: v :: L := rfl
theorem ls_10 {a0 a1 a2 a3 a4 a5 a6 a7 a8 a9 o v : α} {L : List α} : (a0 :: a1 :: a2 :: a3 :: a4 :: a5 :: a6 :: a7 :: a8 :: a9 :: o :: L).set 10 v = a0 :: a1 :: a2 :: a3 :: a4 :: a5 :: a6 :: a7 :: a8 :: a9 :: v :: L := rfl
theorem ls_11 {a0 a1 a2 a3 a4 a5 a6 a7 a8 a9 a10 o v : α} {L : List α} : (a0 :: a1 :: a2 :: a3 :: a4 :: a5 :: a6 :: a7 :: a8 :: a9 :: a10 :: o :: L).set 11 v = a0 :: a1 :: a2 :: a3 :: a4 :: a5 :: a6 :: a7 :: a8 :: a9 :: a10 :: v :: L := rfl
theorem ap_0 { v : α} : [] ++ [v] = [v] := rfl
theorem ap_1 {a0 v : α} : [a0] ++ [v] = [a0, v] := rfl
theorem ap_2 {a0 a1 v : α} : [a0, a1] ++ [v] = [a0, a1, v] := rfl
theorem rp_0 {v : α} : List.replicate 0 v = [] := rfl
theorem rp_12 {v : α} : List.replicate 12 v = [v, v, v, v, v, v, v, v, v, v, v, v] := rfl
end
end Jvm.Sh
namespace Jvm.Sh
open Jvm Jvm.ClassFile Jvm.RoadKit
/-! small naturals as ints -/
theorem onToInt {a : Nat} (h : a < 2147483648) : (Int32.ofNat a).toInt = a := Int32.toInt_ofNat_of_lt h
theorem onLt {a b : Nat} (ha : a < 2147483648) (hb : b < 2147483648) : Int32.ofNat a < Int32.ofNat b ↔ a < b := by
  rw [Int32.lt_iff_toInt_lt, onToInt ha, onToInt hb]; omega
theorem onInj {a b : Nat} (ha : a < 2147483648) (hb : b < 2147483648) : Int32.ofNat a = Int32.ofNat b ↔ a = b := by
  rw [← Int32.toInt_inj, onToInt ha, onToInt hb]; omega
theorem onNN {a : Nat} (ha : a < 2147483648) : ¬ Int32.ofNat a < 0 := by
  rw [Int32.lt_iff_toInt_lt, onToInt ha, show (0 : Int32).toInt = 0 from by decide]; omega
theorem onCl {a : Nat} (ha : a < 2147483648) : (Int32.ofNat a).toNatClampNeg = a := by
  rw [Int32.toNatClampNeg, onToInt ha]; omega
theorem onAdd (a b : Nat) : Int32.ofNat a + Int32.ofNat b = Int32.ofNat (a + b) := (Int32.ofNat_add a b).symm
theorem onSucc (a : Nat) : Int32.ofNat a + 1 = Int32.ofNat (a + 1) := onAdd a 1
theorem onSub {a b : Nat} (h : b ≤ a) (ha : a < 2147483648) : Int32.ofNat a - Int32.ofNat b = Int32.ofNat (a - b) := by
  apply Int32.toInt_inj.mp
  have q := c_isub (Int32.ofNat a) (Int32.ofNat b)
  have r := rng32 (Int32.ofNat a - Int32.ofNat b)
  rw [onToInt ha, onToInt (show b < 2147483648 by omega)] at q
  rw [onToInt (show a - b < 2147483648 by omega)]
  omega
theorem onMul {a b : Nat} : Int32.ofNat a * Int32.ofNat b = Int32.ofNat (a * b) := (Int32.ofNat_mul a b).symm
theorem isNat (x : Int32) (h0 : 0 ≤ x.toInt) : ∃ r : Nat, (r : Int) = x.toInt ∧ r < 2147483648 ∧ x = Int32.ofNat r := by
  have := rng32 x
  refine ⟨x.toInt.toNat, by omega, by omega, Int32.toInt_inj.mp ?_⟩
  rw [onToInt (by omega)]
  omega
/-- (x & 0x7fffffff) % m is a natural below m -/
theorem remNat (x m : Int32) (M : Nat) (hm : m.toInt = M) (hM : 0 < M) : ∃ r, r < M ∧ (x &&& 2147483647) % m = Int32.ofNat r := by
  have h := (c_iremV (x &&& 2147483647) m).1 (c_and x 2147483647 (by decide)).1 (by omega)
  obtain ⟨r, h1, h2, h3⟩ := isNat _ h.1
  exact ⟨r, by omega, h3⟩
theorem remNat' (x m : Int32) (M : Nat) (hx : 0 ≤ x.toInt) (hm : m.toInt = M) (hM : 0 < M) : ∃ r, r < M ∧ x % m = Int32.ofNat r := by
  have h := (c_iremV x m).1 hx (by omega)
  obtain ⟨r, h1, h2, h3⟩ := isNat _ h.1
  exact ⟨r, by omega, h3⟩
theorem maskNat (x m : Int32) (k : Nat) (hk : k ≤ 31) (hm : m.toBitVec.toNat = 2 ^ k - 1) : ∃ r, r < 2 ^ k ∧ x &&& m = Int32.ofNat r := by
  have h := c_mask x m k hk hm
  have hp : (0 : Int) < (2 ^ k : Nat) := by have := Nat.two_pow_pos k; omega
  have h1 := Int.emod_nonneg x.toInt (Int.ne_of_gt hp)
  have h2 := Int.emod_lt_of_pos x.toInt hp
  obtain ⟨r, g1, g2, g3⟩ := isNat (x &&& m) (by omega)
  exact ⟨r, by omega, g3⟩
theorem ushrNN (x k : Int32) (n : Nat) (hk : k.toBitVec.toNat % 32 = n) (h0 : 0 < n) : 0 ≤ (Jvm.Free.XT.ushr x k).toInt := by
  have e : (Jvm.Free.XT.ushr x k).toInt = (x.toInt % 4294967296) / (2 ^ n : Nat) := c_iushr x k n hk h0
  rw [e]
  exact Int.ediv_nonneg (Int.emod_nonneg _ (by decide)) (Int.natCast_nonneg _)
theorem i8_idem (x : Int32) : x.toInt8.toInt32.toInt8.toInt32 = x.toInt8.toInt32 := by simp
end Jvm.Sh
namespace Jvm.Sh
open Jvm Jvm.ClassFile Jvm.RoadKit
/-! bits -/
def bt (x : Int64) (i : Nat) : Bool := x.toBitVec.getLsbD i
def bi (x : Int32) (i : Nat) : Bool := x.toBitVec.getLsbD i
theorem bt_ext {x y : Int64} (h : ∀ i, i < 64 → bt x i = bt y i) : x = y := Int64.toBitVec_inj.mp (BitVec.eq_of_getLsbD_eq fun i hi => h i hi)
theorem bi_ext {x y : Int32} (h : ∀ i, i < 32 → bi x i = bi y i) : x = y := Int32.toBitVec_inj.mp (BitVec.eq_of_getLsbD_eq fun i hi => h i hi)
theorem bt_or (x y : Int64) (i : Nat) : bt (x ||| y) i = (bt x i || bt y i) := by simp [bt]
theorem bt_and (x y : Int64) (i : Nat) : bt (x &&& y) i = (bt x i && bt y i) := by simp [bt]
theorem bt_xor (x y : Int64) (i : Nat) : bt (x ^^^ y) i = (bt x i ^^ bt y i) := by simp [bt]
theorem bi_or (x y : Int32) (i : Nat) : bi (x ||| y) i = (bi x i || bi y i) := by simp [bi]
theorem bi_and (x y : Int32) (i : Nat) : bi (x &&& y) i = (bi x i && bi y i) := by simp [bi]
theorem bt_zero (i : Nat) : bt 0 i = false := by simp [bt]
theorem bi_zero (i : Nat) : bi 0 i = false := by simp [bi]
theorem bt_big (x : Int64) (i : Nat) (h : 64 ≤ i) : bt x i = false := BitVec.getLsbD_of_ge _ _ h
theorem bi_big (x : Int32) (i : Nat) (h : 32 ≤ i) : bi x i = false := BitVec.getLsbD_of_ge _ _ h
theorem bt_mask (x m : Int64) (k : Nat) (hm : m.toBitVec = BitVec.ofNat 64 (2 ^ k - 1)) (i : Nat) (hi : i < 64) : bt (x &&& m) i = (decide (i < k) && bt x i) := by
  rw [bt_and, Bool.and_comm]
  congr 1
  rw [bt, hm, BitVec.getLsbD_ofNat, Nat.testBit_two_pow_sub_one]
  simp [hi]
theorem bi_mask (x m : Int32) (k : Nat) (hm : m.toBitVec = BitVec.ofNat 32 (2 ^ k - 1)) (i : Nat) (hi : i < 32) : bi (x &&& m) i = (decide (i < k) && bi x i) := by
  rw [bi_and, Bool.and_comm]
  congr 1
  rw [bi, hm, BitVec.getLsbD_ofNat, Nat.testBit_two_pow_sub_one]
  simp [hi]
theorem shAmt : ∀ k : Fin 64, ((Int32.ofNat k.val).toInt64 &&& 63) = Int64.ofNat k.val ∧ ((BitVec.ofNat 64 k.val).smod 64) = BitVec.ofNat 64 k.val ∧ ((Int32.ofNat k.val).toInt64.toUInt64 &&& Int64.toUInt64 63) = UInt64.ofNat k.val ∧ ((BitVec.ofNat 64 k.val) % 64) = BitVec.ofNat 64 k.val := by decide +kernel
theorem shl_bv (x : Int64) (k : Nat) (hk : k < 64) : (x <<< ((Int32.ofNat k).toInt64 &&& 63)).toBitVec = x.toBitVec <<< k := by
  obtain ⟨h1, h2, -, -⟩ := shAmt ⟨k, hk⟩
  dsimp only at h1 h2
  rw [h1, Int64.toBitVec_shiftLeft]
  have e : (Int64.ofNat k).toBitVec = BitVec.ofNat 64 k := rfl
  rw [e, h2, BitVec.shiftLeft_eq', BitVec.toNat_ofNat, Nat.mod_eq_of_lt (by omega)]
theorem ushr_bv (x : Int64) (k : Nat) (hk : k < 64) : (Jvm.Free.XT.ushrL x (Int32.ofNat k)).toBitVec = x.toBitVec >>> k := by
  obtain ⟨-, -, h3, h4⟩ := shAmt ⟨k, hk⟩
  dsimp only at h3 h4
  show (x.toUInt64 >>> ((Int32.ofNat k).toInt64.toUInt64 &&& Int64.toUInt64 63)).toBitVec = _
  rw [h3, UInt64.toBitVec_shiftRight]
  have e : (UInt64.ofNat k).toBitVec = BitVec.ofNat 64 k := rfl
  rw [e, h4, BitVec.ushiftRight_eq', BitVec.toNat_ofNat, Nat.mod_eq_of_lt (by omega)]
  rfl
theorem bt_shl (x : Int64) (k i : Nat) (hk : k < 64) (hi : i < 64) : bt (x <<< ((Int32.ofNat k).toInt64 &&& 63)) i = (!decide (i < k) && bt x (i - k)) := by
  rw [bt, shl_bv x k hk, BitVec.getLsbD_shiftLeft, bt]
  simp only [hi, decide_true, Bool.true_and]
theorem bt_ushr (x : Int64) (k i : Nat) (hk : k < 64) : bt (Jvm.Free.XT.ushrL x (Int32.ofNat k)) i = bt x (k + i) := by
  simp [bt, ushr_bv x k hk]
theorem bi_l2i (x : Int64) (i : Nat) (hi : i < 32) : bi x.toInt32 i = bt x i := by
  simp only [bi, bt]
  show (x.toBitVec.signExtend 32).getLsbD i = _
  rw [BitVec.getLsbD_signExtend]
  simp [hi, show i < 64 by omega]
theorem bt_i2l (x : Int32) (i : Nat) (hi : i < 64) : bt x.toInt64 i = if i < 32 then bi x i else bi x 31 := by
  simp only [bi, bt]
  show (x.toBitVec.signExtend 64).getLsbD i = _
  rw [BitVec.getLsbD_signExtend]
  simp [hi, BitVec.msb_eq_getLsbD_last]
theorem bi_i2b (x : Int32) (i : Nat) (hi : i < 32) : bi x.toInt8.toInt32 i = if i < 8 then bi x i else bi x 7 := by
  simp only [bi]
  show ((x.toBitVec.signExtend 8).signExtend 32).getLsbD i = _
  rw [BitVec.getLsbD_signExtend]
  by_cases q : i < 8
  · rw [BitVec.getLsbD_signExtend]
    simp [hi, q, show i < 32 by omega]
  · simp [hi, q, BitVec.msb_eq_getLsbD_last, BitVec.getElem_signExtend]
end Jvm.Sh
namespace Jvm.Pilot.@@N@@
open Jvm Jvm.ClassFile Sem Op Lib Jvm.Free Jvm.Stand Jvm.LawKit Jvm.RoadKit Bundle Jvm.Pilot.@@N@@.Jvm.D
abbrev HW (Z : State) (a0 : Array Value) : Prop := ∀ d ∈ tables_1, d.before a0 Z = true
abbrev f_ByteCursor (v0 v1 : Value) : List (String × String × Value) := [("bytes", "[B", v0), ("at", "I", v1)]
abbrev o_ByteCursor (v0 v1 : Value) : Sh.SC := .inl ("com/example/ringweave/ringweave/ByteCursor", f_ByteCursor v0 v1)
theorem fs_ByteCursor : ∀ f ∈ f_ByteCursor (.null) (.int 0), (Jvm.Cond.lays "com/example/ringweave/ringweave/ByteCursor" "com/example/ringweave/ringweave/ByteCursor" f.1 f.2.1 ∈ tables_1 ∨ Jvm.Cond.laysFinal "com/example/ringweave/ringweave/ByteCursor" "com/example/ringweave/ringweave/ByteCursor" f.1 f.2.1 ∈ tables_1) ∧ ∃ ty, parseFieldDescriptor f.2.1 = some ty ∧ defaultValue ty = f.2.2 := by
  intro f hf
  simp only [List.mem_cons, List.not_mem_nil, or_false] at hf
  rcases hf with rfl | rfl
  · exact ⟨Or.inl (List.mem_of_getElem? (i := 15) rfl), (.array .byte), by decide +kernel, rfl⟩
  · exact ⟨Or.inl (List.mem_of_getElem? (i := 22) rfl), .int, by decide +kernel, rfl⟩
theorem nd_ByteCursor : ((f_ByteCursor (.null) (.int 0)).map (·.1)).Nodup := by decide
theorem d1_0 : decode method_3_code 0 = .ok (.lload_n 0, 1) := by decide +kernel
theorem d1_1 : decode method_3_code 1 = .ok (.lconst 0, 1) := by decide +kernel
theorem d1_2 : decode method_3_code 2 = .ok (.lcmp, 1) := by decide +kernel
theorem d1_3 : decode method_3_code 3 = .ok (.ifCond .eq 7, 3) := by decide +kernel
theorem d1_6 : decode method_3_code 6 = .ok (.iconst 1, 1) := by decide +kernel
theorem d1_7 : decode method_3_code 7 = .ok (.goto 4, 3) := by decide +kernel
theorem d1_10 : decode method_3_code 10 = .ok (.iconst 0, 1) := by decide +kernel
theorem d1_11 : decode method_3_code 11 = .ok (.ireturn, 1) := by decide +kernel
theorem pn1 : plainFor (⟨"com/example/ringweave/ringweave/ByteCursorPutVarintPinLaw", "nz", "(J)I"⟩ : MethodName) = true := plainFor_of_name (by first | (simp [plainName, overriddenIn]; done) | decide +kernel)
theorem pd1 : parseMethodDescriptor "(J)I" = some ⟨[.long], some .int⟩ := by decide +kernel
def b1 : Sh.Bdy := (⟨"com/example/ringweave/ringweave/ByteCursorPutVarintPinLaw", "nz", "(J)I"⟩, method_3_code, 2, some .int)
def R1 : Room := { frames := 0, cells := 0, slots := 0, locals := 0 }
theorem d2_0 : decode prog_6_method_1_code 0 = .ok (.aload_n 0, 1) := by decide +kernel
theorem d2_1 : decode prog_6_method_1_code 1 = .ok (.invokespecial 1, 3) := by decide +kernel
theorem d2_4 : decode prog_6_method_1_code 4 = .ok (.aload_n 0, 1) := by decide +kernel
theorem d2_5 : decode prog_6_method_1_code 5 = .ok (.iconst 0, 1) := by decide +kernel
theorem d2_6 : decode prog_6_method_1_code 6 = .ok (.newarray .byte, 2) := by decide +kernel
theorem d2_8 : decode prog_6_method_1_code 8 = .ok (.putfield 7, 3) := by decide +kernel
theorem d2_11 : decode prog_6_method_1_code 11 = .ok (.return_, 1) := by decide +kernel
theorem pn2 : plainFor (⟨"com/example/ringweave/ringweave/ByteCursor", "<init>", "()V"⟩ : MethodName) = true := plainFor_of_name (by first | (simp [plainName, overriddenIn]; done) | decide +kernel)
theorem pd2 : parseMethodDescriptor "()V" = some ⟨[], none⟩ := by decide +kernel
def b2 : Sh.Bdy := (⟨"com/example/ringweave/ringweave/ByteCursor", "<init>", "()V"⟩, prog_6_method_1_code, 1, none)
def R2 : Room := { frames := 1, cells := 1, slots := 0, locals := 12 }
theorem d4_0 : decode prog_6_method_2_code 0 = .ok (.aload_n 0, 1) := by decide +kernel
theorem d4_1 : decode prog_6_method_2_code 1 = .ok (.aload_n 1, 1) := by decide +kernel
theorem d4_2 : decode prog_6_method_2_code 2 = .ok (.putfield 7, 3) := by decide +kernel
theorem d4_5 : decode prog_6_method_2_code 5 = .ok (.aload_n 0, 1) := by decide +kernel
theorem d4_6 : decode prog_6_method_2_code 6 = .ok (.iload_n 2, 1) := by decide +kernel
theorem d4_7 : decode prog_6_method_2_code 7 = .ok (.putfield 13, 3) := by decide +kernel
theorem d4_10 : decode prog_6_method_2_code 10 = .ok (.aload_n 0, 1) := by decide +kernel
theorem d4_11 : decode prog_6_method_2_code 11 = .ok (.areturn, 1) := by decide +kernel
theorem pn4 : plainFor (⟨"com/example/ringweave/ringweave/ByteCursor", "moveTo", "([BI)Lcom/example/ringweave/ringweave/ByteCursor;"⟩ : MethodName) = true := plainFor_of_name (by first | (simp [plainName, overriddenIn]; done) | decide +kernel)
theorem pd4 : parseMethodDescriptor "([BI)Lcom/example/ringweave/ringweave/ByteCursor;" = some ⟨[(.array .byte), .int], some (.object "com/example/ringweave/ringweave/ByteCursor")⟩ := by decide +kernel
def b4 : Sh.Bdy := (⟨"com/example/ringweave/ringweave/ByteCursor", "moveTo", "([BI)Lcom/example/ringweave/ringweave/ByteCursor;"⟩, prog_6_method_2_code, 3, some (.object "com/example/ringweave/ringweave/ByteCursor"))
def R4 : Room := { frames := 0, cells := 0, slots := 0, locals := 0 }
theorem d5_0 : decode prog_6_method_5_code 0 = .ok (.lload_n 1, 1) := by decide +kernel
theorem d5_1 : decode prog_6_method_5_code 1 = .ok (.lstore_n 3, 1) := by decide +kernel
theorem d5_2 : decode prog_6_method_5_code 2 = .ok (.lload_n 3, 1) := by decide +kernel
theorem d5_3 : decode prog_6_method_5_code 3 = .ok (.ldc2_w 17, 3) := by decide +kernel
theorem d5_6 : decode prog_6_method_5_code 6 = .ok (.land, 1) := by decide +kernel
theorem d5_7 : decode prog_6_method_5_code 7 = .ok (.lconst 0, 1) := by decide +kernel
theorem d5_8 : decode prog_6_method_5_code 8 = .ok (.lcmp, 1) := by decide +kernel
theorem d5_9 : decode prog_6_method_5_code 9 = .ok (.ifCond .eq 38, 3) := by decide +kernel
theorem d5_12 : decode prog_6_method_5_code 12 = .ok (.aload_n 0, 1) := by decide +kernel
theorem d5_13 : decode prog_6_method_5_code 13 = .ok (.getfield 7, 3) := by decide +kernel
theorem d5_16 : decode prog_6_method_5_code 16 = .ok (.aload_n 0, 1) := by decide +kernel
theorem d5_17 : decode prog_6_method_5_code 17 = .ok (.dup, 1) := by decide +kernel
theorem d5_18 : decode prog_6_method_5_code 18 = .ok (.getfield 13, 3) := by decide +kernel
theorem d5_21 : decode prog_6_method_5_code 21 = .ok (.dup_x1, 1) := by decide +kernel
theorem d5_22 : decode prog_6_method_5_code 22 = .ok (.iconst 1, 1) := by decide +kernel
theorem d5_23 : decode prog_6_method_5_code 23 = .ok (.iadd, 1) := by decide +kernel
theorem d5_24 : decode prog_6_method_5_code 24 = .ok (.putfield 13, 3) := by decide +kernel
theorem d5_27 : decode prog_6_method_5_code 27 = .ok (.lload_n 3, 1) := by decide +kernel
theorem d5_28 : decode prog_6_method_5_code 28 = .ok (.ldc2_w 19, 3) := by decide +kernel
theorem d5_31 : decode prog_6_method_5_code 31 = .ok (.land, 1) := by decide +kernel
theorem d5_32 : decode prog_6_method_5_code 32 = .ok (.ldc2_w 21, 3) := by decide +kernel
theorem d5_35 : decode prog_6_method_5_code 35 = .ok (.lor, 1) := by decide +kernel
theorem d5_36 : decode prog_6_method_5_code 36 = .ok (.l2i, 1) := by decide +kernel
theorem d5_37 : decode prog_6_method_5_code 37 = .ok (.i2b, 1) := by decide +kernel
theorem d5_38 : decode prog_6_method_5_code 38 = .ok (.bastore, 1) := by decide +kernel
theorem d5_39 : decode prog_6_method_5_code 39 = .ok (.lload_n 3, 1) := by decide +kernel
theorem d5_40 : decode prog_6_method_5_code 40 = .ok (.bipush 7, 2) := by decide +kernel
theorem d5_42 : decode prog_6_method_5_code 42 = .ok (.lushr, 1) := by decide +kernel
theorem d5_43 : decode prog_6_method_5_code 43 = .ok (.lstore_n 3, 1) := by decide +kernel
theorem d5_44 : decode prog_6_method_5_code 44 = .ok (.goto (-42), 3) := by decide +kernel
theorem d5_47 : decode prog_6_method_5_code 47 = .ok (.aload_n 0, 1) := by decide +kernel
theorem d5_48 : decode prog_6_method_5_code 48 = .ok (.getfield 7, 3) := by decide +kernel
theorem d5_51 : decode prog_6_method_5_code 51 = .ok (.aload_n 0, 1) := by decide +kernel
theorem d5_52 : decode prog_6_method_5_code 52 = .ok (.dup, 1) := by decide +kernel
theorem d5_53 : decode prog_6_method_5_code 53 = .ok (.getfield 13, 3) := by decide +kernel
theorem d5_56 : decode prog_6_method_5_code 56 = .ok (.dup_x1, 1) := by decide +kernel
theorem d5_57 : decode prog_6_method_5_code 57 = .ok (.iconst 1, 1) := by decide +kernel
theorem d5_58 : decode prog_6_method_5_code 58 = .ok (.iadd, 1) := by decide +kernel
theorem d5_59 : decode prog_6_method_5_code 59 = .ok (.putfield 13, 3) := by decide +kernel
theorem d5_62 : decode prog_6_method_5_code 62 = .ok (.lload_n 3, 1) := by decide +kernel
theorem d5_63 : decode prog_6_method_5_code 63 = .ok (.l2i, 1) := by decide +kernel
theorem d5_64 : decode prog_6_method_5_code 64 = .ok (.i2b, 1) := by decide +kernel
theorem d5_65 : decode prog_6_method_5_code 65 = .ok (.bastore, 1) := by decide +kernel
theorem d5_66 : decode prog_6_method_5_code 66 = .ok (.return_, 1) := by decide +kernel
theorem pn5 : plainFor (⟨"com/example/ringweave/ringweave/ByteCursor", "putVarint", "(J)V"⟩ : MethodName) = true := plainFor_of_name (by first | (simp [plainName, overriddenIn]; done) | decide +kernel)
theorem pd5 : parseMethodDescriptor "(J)V" = some ⟨[.long], none⟩ := by decide +kernel
def b5 : Sh.Bdy := (⟨"com/example/ringweave/ringweave/ByteCursor", "putVarint", "(J)V"⟩, prog_6_method_5_code, 5, none)
def R5 : Room := { frames := 0, cells := 0, slots := 0, locals := 0 }
theorem d6_0 : decode prog_6_method_3_code 0 = .ok (.aload_n 0, 1) := by decide +kernel
theorem d6_1 : decode prog_6_method_3_code 1 = .ok (.getfield 13, 3) := by decide +kernel
theorem d6_4 : decode prog_6_method_3_code 4 = .ok (.ireturn, 1) := by decide +kernel
theorem pn6 : plainFor (⟨"com/example/ringweave/ringweave/ByteCursor", "position", "()I"⟩ : MethodName) = true := plainFor_of_name (by first | (simp [plainName, overriddenIn]; done) | decide +kernel)
theorem pd6 : parseMethodDescriptor "()I" = some ⟨[], some .int⟩ := by decide +kernel
def b6 : Sh.Bdy := (⟨"com/example/ringweave/ringweave/ByteCursor", "position", "()I"⟩, prog_6_method_3_code, 1, some .int)
def R6 : Room := { frames := 0, cells := 0, slots := 0, locals := 0 }
theorem d8_0 : decode method_5_code 0 = .ok (.lload_n 0, 1) := by decide +kernel
theorem d8_1 : decode method_5_code 1 = .ok (.bipush 7, 2) := by decide +kernel
theorem d8_3 : decode method_5_code 3 = .ok (.iload_n 2, 1) := by decide +kernel
theorem d8_4 : decode method_5_code 4 = .ok (.imul, 1) := by decide +kernel
theorem d8_5 : decode method_5_code 5 = .ok (.lushr, 1) := by decide +kernel
theorem d8_6 : decode method_5_code 6 = .ok (.ldc2_w 36, 3) := by decide +kernel
theorem d8_9 : decode method_5_code 9 = .ok (.land, 1) := by decide +kernel
theorem d8_10 : decode method_5_code 10 = .ok (.l2i, 1) := by decide +kernel
theorem d8_11 : decode method_5_code 11 = .ok (.istore_n 3, 1) := by decide +kernel
theorem d8_12 : decode method_5_code 12 = .ok (.iload_n 2, 1) := by decide +kernel
theorem d8_13 : decode method_5_code 13 = .ok (.bipush 9, 2) := by decide +kernel
theorem d8_15 : decode method_5_code 15 = .ok (.if_icmp .ge 20, 3) := by decide +kernel
theorem d8_18 : decode method_5_code 18 = .ok (.lload_n 0, 1) := by decide +kernel
theorem d8_19 : decode method_5_code 19 = .ok (.bipush 7, 2) := by decide +kernel
theorem d8_21 : decode method_5_code 21 = .ok (.iload_n 2, 1) := by decide +kernel
theorem d8_22 : decode method_5_code 22 = .ok (.iconst 1, 1) := by decide +kernel
theorem d8_23 : decode method_5_code 23 = .ok (.iadd, 1) := by decide +kernel
theorem d8_24 : decode method_5_code 24 = .ok (.imul, 1) := by decide +kernel
theorem d8_25 : decode method_5_code 25 = .ok (.lushr, 1) := by decide +kernel
theorem d8_26 : decode method_5_code 26 = .ok (.lconst 0, 1) := by decide +kernel
theorem d8_27 : decode method_5_code 27 = .ok (.lcmp, 1) := by decide +kernel
theorem d8_28 : decode method_5_code 28 = .ok (.ifCond .eq 7, 3) := by decide +kernel
theorem d8_31 : decode method_5_code 31 = .ok (.iconst 1, 1) := by decide +kernel
theorem d8_32 : decode method_5_code 32 = .ok (.goto 4, 3) := by decide +kernel
theorem d8_35 : decode method_5_code 35 = .ok (.iconst 0, 1) := by decide +kernel
theorem d8_36 : decode method_5_code 36 = .ok (.istore 4, 2) := by decide +kernel
theorem d8_38 : decode method_5_code 38 = .ok (.iload 4, 2) := by decide +kernel
theorem d8_40 : decode method_5_code 40 = .ok (.ifCond .eq 11, 3) := by decide +kernel
theorem d8_43 : decode method_5_code 43 = .ok (.iload_n 3, 1) := by decide +kernel
theorem d8_44 : decode method_5_code 44 = .ok (.sipush 128, 3) := by decide +kernel
theorem d8_47 : decode method_5_code 47 = .ok (.ior, 1) := by decide +kernel
theorem d8_48 : decode method_5_code 48 = .ok (.goto 4, 3) := by decide +kernel
theorem d8_51 : decode method_5_code 51 = .ok (.iload_n 3, 1) := by decide +kernel
theorem d8_52 : decode method_5_code 52 = .ok (.i2b, 1) := by decide +kernel
theorem d8_53 : decode method_5_code 53 = .ok (.ireturn, 1) := by decide +kernel
theorem pn8 : plainFor (⟨"com/example/ringweave/ringweave/ByteCursorPutVarintPinLaw", "expected", "(JI)B"⟩ : MethodName) = true := plainFor_of_name (by first | (simp [plainName, overriddenIn]; done) | decide +kernel)
theorem pd8 : parseMethodDescriptor "(JI)B" = some ⟨[.long, .int], some .byte⟩ := by decide +kernel
def b8 : Sh.Bdy := (⟨"com/example/ringweave/ringweave/ByteCursorPutVarintPinLaw", "expected", "(JI)B"⟩, method_5_code, 5, some .byte)
def R8 : Room := { frames := 0, cells := 0, slots := 0, locals := 0 }
theorem d7_0 : decode method_4_code 0 = .ok (.iload_n 1, 1) := by decide +kernel
theorem d7_1 : decode method_4_code 1 = .ok (.iload_n 2, 1) := by decide +kernel
theorem d7_2 : decode method_4_code 2 = .ok (.isub, 1) := by decide +kernel
theorem d7_3 : decode method_4_code 3 = .ok (.istore 7, 2) := by decide +kernel
theorem d7_5 : decode method_4_code 5 = .ok (.iload 7, 2) := by decide +kernel
theorem d7_7 : decode method_4_code 7 = .ok (.ifCond .lt 9, 3) := by decide +kernel
theorem d7_10 : decode method_4_code 10 = .ok (.iload 7, 2) := by decide +kernel
theorem d7_12 : decode method_4_code 12 = .ok (.iload_n 3, 1) := by decide +kernel
theorem d7_13 : decode method_4_code 13 = .ok (.if_icmp .lt 17, 3) := by decide +kernel
theorem d7_16 : decode method_4_code 16 = .ok (.aload_n 0, 1) := by decide +kernel
theorem d7_17 : decode method_4_code 17 = .ok (.iload_n 1, 1) := by decide +kernel
theorem d7_18 : decode method_4_code 18 = .ok (.baload, 1) := by decide +kernel
theorem d7_19 : decode method_4_code 19 = .ok (.iload 6, 2) := by decide +kernel
theorem d7_21 : decode method_4_code 21 = .ok (.if_icmp .ne 7, 3) := by decide +kernel
theorem d7_24 : decode method_4_code 24 = .ok (.iconst 1, 1) := by decide +kernel
theorem d7_25 : decode method_4_code 25 = .ok (.goto 4, 3) := by decide +kernel
theorem d7_28 : decode method_4_code 28 = .ok (.iconst 0, 1) := by decide +kernel
theorem d7_29 : decode method_4_code 29 = .ok (.ireturn, 1) := by decide +kernel
theorem d7_30 : decode method_4_code 30 = .ok (.aload_n 0, 1) := by decide +kernel
theorem d7_31 : decode method_4_code 31 = .ok (.iload_n 1, 1) := by decide +kernel
theorem d7_32 : decode method_4_code 32 = .ok (.baload, 1) := by decide +kernel
theorem d7_33 : decode method_4_code 33 = .ok (.lload 4, 2) := by decide +kernel
theorem d7_35 : decode method_4_code 35 = .ok (.iload 7, 2) := by decide +kernel
theorem d7_37 : decode method_4_code 37 = .ok (.invokestatic 32, 3) := by decide +kernel
theorem d7_40 : decode method_4_code 40 = .ok (.if_icmp .ne 7, 3) := by decide +kernel
theorem d7_43 : decode method_4_code 43 = .ok (.iconst 1, 1) := by decide +kernel
theorem d7_44 : decode method_4_code 44 = .ok (.goto 4, 3) := by decide +kernel
theorem d7_47 : decode method_4_code 47 = .ok (.iconst 0, 1) := by decide +kernel
theorem d7_48 : decode method_4_code 48 = .ok (.ireturn, 1) := by decide +kernel
theorem pn7 : plainFor (⟨"com/example/ringweave/ringweave/ByteCursorPutVarintPinLaw", "at", "([BIIIJB)Z"⟩ : MethodName) = true := plainFor_of_name (by first | (simp [plainName, overriddenIn]; done) | decide +kernel)
theorem pd7 : parseMethodDescriptor "([BIIIJB)Z" = some ⟨[(.array .byte), .int, .int, .int, .long, .byte], some .boolean⟩ := by decide +kernel
def b7 : Sh.Bdy := (⟨"com/example/ringweave/ringweave/ByteCursorPutVarintPinLaw", "at", "([BIIIJB)Z"⟩, method_4_code, 8, some .boolean)
def R7 : Room := { frames := 1, cells := 0, slots := 0, locals := 17 }
theorem pn0 : plainFor (⟨"com/example/ringweave/ringweave/ByteCursorPutVarintPinLaw", "law", "(JIII)Z"⟩ : MethodName) = true := plainFor_of_name (by first | (simp [plainName, overriddenIn]; done) | decide +kernel)
theorem pd0 : parseMethodDescriptor "(JIII)Z" = some ⟨[.long, .int, .int, .int], some .boolean⟩ := by decide +kernel
def b0 : Sh.Bdy := (x, code, maxLocals, ret)
def own_w (v : Int64) (i : Nat) : Int64 := Int64.ofBitVec (v.toBitVec >>> (7 * i))
theorem own_bt (v : Int64) (i j : Nat) : Sh.bt (own_w v i) j = Sh.bt v (7 * i + j) := by
  show (v.toBitVec >>> (7 * i)).getLsbD j = _
  rw [BitVec.getLsbD_ushiftRight]
  rfl
theorem own_w0 (v : Int64) : own_w v 0 = v := Sh.bt_ext fun j _ => by rw [own_bt]; simp
theorem own_w7 (v : Int64) (i : Nat) : XT.ushrL (own_w v i) 7 = own_w v (i + 1) := Sh.bt_ext fun j _ => by
  have e : Sh.bt (XT.ushrL (own_w v i) 7) j = Sh.bt (own_w v i) (7 + j) := Sh.bt_ushr (own_w v i) 7 j (by decide)
  rw [e, own_bt, own_bt]
  congr 1
  omega
theorem own_wk (v : Int64) (i : Nat) (h : i < 10) : XT.ushrL v (Int32.ofNat (7 * i)) = own_w v i := Sh.bt_ext fun j _ => by
  rw [Sh.bt_ushr _ _ _ (by omega), own_bt]
theorem own_w10 (v : Int64) : own_w v 10 = 0 := Sh.bt_ext fun j _ => by
  rw [own_bt, Sh.bt_zero, Sh.bt_big _ _ (by omega)]
theorem own_n128 : ∀ j : Fin 64, Sh.bt (-128) j.val = decide (7 ≤ j.val) := by decide +kernel
theorem own_m128 (v : Int64) (i : Nat) : (own_w v i &&& -128 = 0) ↔ own_w v (i + 1) = 0 := by
  constructor
  · intro h
    refine Sh.bt_ext fun j hj => ?_
    rw [own_bt, Sh.bt_zero]
    by_cases q : 7 + j < 64
    · have e := congrArg (fun z => Sh.bt z (7 + j)) h
      simp only [Sh.bt_and, Sh.bt_zero, own_n128 ⟨7 + j, q⟩, own_bt] at e
      simp at e
      rw [← e]
      congr 1
      omega
    · exact Sh.bt_big _ _ (by omega)
  · intro h
    refine Sh.bt_ext fun j hj => ?_
    rw [Sh.bt_and, own_n128 ⟨j, hj⟩, Sh.bt_zero]
    by_cases q : 7 ≤ j
    · have e := congrArg (fun z => Sh.bt z (j - 7)) h
      simp only [Sh.bt_zero, own_bt] at e
      rw [own_bt, show 7 * i + j = 7 * (i + 1) + (j - 7) by omega, e]
      rfl
    · simp [q]
theorem own_low (v : Int64) (i : Nat) (h : own_w v (i + 1) = 0) : own_w v i &&& 127 = own_w v i := by
  refine Sh.bt_ext fun j hj => ?_
  rw [Sh.bt_mask _ 127 7 (by decide) j hj]
  by_cases q : j < 7
  · simp [q]
  · have e := congrArg (fun z => Sh.bt z (j - 7)) h
    simp only [Sh.bt_zero, own_bt] at e
    rw [own_bt, show 7 * i + j = 7 * (i + 1) + (j - 7) by omega, e]
    simp
theorem own_up (v : Int64) (i : Nat) (h : own_w v i = 0) : own_w v (i + 1) = 0 := by
  rw [← own_w7, h]
  decide
theorem own_ups (v : Int64) (i k : Nat) (h : own_w v i = 0) : own_w v (i + k) = 0 := by
  induction k with
  | zero => exact h
  | succ k ih => exact own_up v (i + k) ih
theorem own_N' (v : Int64) : ∀ k, k ≤ 9 → (∀ j, 0 < j → j < 10 - k → ¬ own_w v j = 0) → ∃ N, 0 < N ∧ N < 11 ∧ own_w v N = 0 ∧ ∀ j, 0 < j → j < N → ¬ own_w v j = 0 := by
  intro k
  induction k with
  | zero => intro _ h; exact ⟨10, by decide, by decide, own_w10 v, h⟩
  | succ k ih =>
    intro hk h
    by_cases q : own_w v (10 - (k + 1)) = 0
    · exact ⟨10 - (k + 1), by omega, by omega, q, h⟩
    · refine ih (by omega) fun j h0 h1 => ?_
      by_cases e : j = 10 - (k + 1)
      · rw [e]; exact q
      · exact h j h0 (by omega)
def own_z (x : Int64) : Int32 := if x = 0 then 0 else 1
theorem own_len (N : Nat) (h1 : 0 < N) (h2 : N < 11) (z : Nat → Int32) (hz : ∀ j, 0 < j → j < 10 → z j = if j < N then 1 else 0) : 1 + z 1 + z 2 + z 3 + z 4 + z 5 + z 6 + z 7 + z 8 + z 9 = Int32.ofNat N := by
  rw [hz 1 (by decide) (by decide), hz 2 (by decide) (by decide), hz 3 (by decide) (by decide), hz 4 (by decide) (by decide), hz 5 (by decide) (by decide), hz 6 (by decide) (by decide), hz 7 (by decide) (by decide), hz 8 (by decide) (by decide), hz 9 (by decide) (by decide)]
  match N, h1, h2 with
  | 1, _, _ => decide
  | 2, _, _ => decide
  | 3, _, _ => decide
  | 4, _, _ => decide
  | 5, _, _ => decide
  | 6, _, _ => decide
  | 7, _, _ => decide
  | 8, _, _ => decide
  | 9, _, _ => decide
  | 10, _, _ => decide
def own_c (v : Int64) (N i : Nat) : Int32 := if i + 1 < N then ((own_w v i &&& 127) ||| 128).toInt32.toInt8.toInt32 else (own_w v i).toInt32.toInt8.toInt32
def own_ws (vs : List Value) (p : Nat) (f : Nat → Int32) : Nat → List Value
  | 0 => vs
  | c + 1 => (own_ws vs p f c).set (p + c) (.int (f c))
theorem own_wlen (vs : List Value) (p : Nat) (f : Nat → Int32) (c : Nat) : (own_ws vs p f c).length = vs.length := by
  induction c with
  | zero => rfl
  | succ c ih => rw [own_ws, List.length_set, ih]
theorem own_win (vs : List Value) (p : Nat) (f : Nat → Int32) (c : Nat) (hl : p + c ≤ vs.length) (j : Nat) (hj : j < c) : (own_ws vs p f c)[p + j]? = some (.int (f j)) := by
  induction c with
  | zero => omega
  | succ c ih =>
    rw [own_ws]
    by_cases q : j = c
    · subst q
      rw [List.getElem?_set_self (by rw [own_wlen]; omega)]
    · rw [List.getElem?_set_ne (by omega), ih (by omega) (by omega)]
theorem own_wout (vs : List Value) (p : Nat) (f : Nat → Int32) (c j : Nat) (h : j < p ∨ p + c ≤ j) : (own_ws vs p f c)[j]? = vs[j]? := by
  induction c with
  | zero => rfl
  | succ c ih => rw [own_ws, List.getElem?_set_ne (by omega), ih (by omega)]
theorem own_rep (n j : Nat) (v : Value) (h : j < n) : (List.replicate n v)[j]? = some v := by simp [h]
theorem own_neg (a b : Nat) (h : a < b) (hb : b < 100) : Int32.ofNat a - Int32.ofNat b < 0 := by
  rw [Int32.lt_iff_toInt_lt, show (0 : Int32).toInt = 0 from by decide]
  have q := c_isub (Int32.ofNat a) (Int32.ofNat b)
  have r := rng32 (Int32.ofNat a - Int32.ofNat b)
  rw [Sh.onToInt (show a < 2147483648 by omega), Sh.onToInt (show b < 2147483648 by omega)] at q
  omega
abbrev own_H (vs : List Value) (b a : Value) : Sh.SH := [.inr (.byte, vs), o_ByteCursor b a, .inr (.byte, [])]
section
variable (l : Launch) (Z : State) (a0 : Array Value) (n0 : Nat)
theorem m1 (hw : HW Z a0) (x : Int64) (H : Sh.SH) : Sh.Meth l Z a0 n0 b1 R1 [.long x] H (fun v H' => v = some (.int (own_z x)) ∧ H' = H) := by
  refine Sh.Meth.of pn1 (L := [.val (.long x), .second]) rfl ?_
  refine Sh.lload_n d1_0 rfl ?_
  refine Sh.lconst d1_1 (x := 0) rfl ?_
  refine Sh.lcmp_eq d1_2 d1_3 (pc' := 10) rfl (by decide) (fun h3 => ?_) (fun h3 => ?_)
  · refine Sh.iconst d1_10 (x := 0) rfl ?_
    refine Sh.retI d1_11 rfl (Sh.le rfl) (Sh.le rfl) ?_
    exact ⟨by rw [own_z, if_pos h3], rfl⟩
  · refine Sh.iconst d1_6 (x := 1) rfl ?_
    refine Sh.goto d1_7 (pc' := 11) rfl (by decide) ?_
    refine Sh.retI d1_11 rfl (Sh.le rfl) (Sh.le rfl) ?_
    exact ⟨by rw [own_z, if_neg h3], rfl⟩
theorem m2 (hw : HW Z a0) (vs : List Value) (b a : Value) : Sh.Meth l Z a0 n0 b2 R2 [.ref 1] [.inr (.byte, vs), o_ByteCursor b a] (fun v H' => v = none ∧ H' = own_H vs (.ref 2) a) := by
  refine Sh.Meth.of pn2 (L := [.val (.ref 1)]) rfl ?_
  refine Sh.aload_n d2_0 rfl rfl ?_
  refine Sh.initObj hw (i1 := 11) (i2 := 12) (i3 := 13) rfl rfl rfl d2_1 rfl (Sh.le rfl) (Sh.le rfl) ?_
  refine Sh.aload_n d2_4 rfl rfl ?_
  refine Sh.iconst d2_5 (x := 0) rfl ?_
  refine Sh.newarr hw (i := 0) (ty := .byte) (dv := .int 0) (N := 0) (cap := 0) (k' := 1) (n' := 0) (a := 2) rfl rfl d2_6 rfl (by decide) rfl (Sh.rp_0) (Sh.le rfl) (by decide) (Sh.le rfl) (Sh.le rfl) rfl rfl rfl (Sh.ap_2) ?_
  refine Sh.putfield hw (i := 14) (i2 := 15) (j := 0) (ty := (.array .byte)) rfl rfl d2_8 rfl rfl (by decide +kernel) rfl rfl (Sh.ls_0) (Sh.ls_1) ?_
  refine Sh.ret0 d2_11 rfl (Sh.le rfl) (Sh.le rfl) ?_
  exact ⟨rfl, rfl⟩
theorem m4 (hw : HW Z a0) (vs : List Value) (b a : Value) (i : Int32) : Sh.Meth l Z a0 n0 b4 R4 [.ref 1, .ref 0, .int i] (own_H vs b a) (fun v H' => v = some (.ref 1) ∧ H' = own_H vs (.ref 0) (.int i)) := by
  refine Sh.Meth.of pn4 (L := [.val (.ref 1), .val (.ref 0), .val (.int i)]) rfl ?_
  refine Sh.aload_n d4_0 rfl rfl ?_
  refine Sh.aload_n d4_1 rfl rfl ?_
  refine Sh.putfield hw (i := 14) (i2 := 15) (j := 0) (ty := (.array .byte)) rfl rfl d4_2 rfl rfl (by decide +kernel) rfl rfl (Sh.ls_0) (Sh.ls_1) ?_
  refine Sh.aload_n d4_5 rfl rfl ?_
  refine Sh.iload_n d4_6 rfl ?_
  refine Sh.putfield hw (i := 21) (i2 := 22) (j := 1) (ty := .int) rfl rfl d4_7 rfl rfl (by decide +kernel) rfl rfl (Sh.ls_1) (Sh.ls_1) ?_
  refine Sh.aload_n d4_10 rfl rfl ?_
  refine Sh.retA d4_11 rfl rfl rfl (Sh.le rfl) (Sh.le rfl) ?_
  exact ⟨rfl, rfl⟩
theorem m6 (hw : HW Z a0) (vs : List Value) (b : Value) (i : Int32) : Sh.Meth l Z a0 n0 b6 R6 [.ref 1] (own_H vs b (.int i)) (fun v H' => v = some (.int i) ∧ H' = own_H vs b (.int i)) := by
  refine Sh.Meth.of pn6 (L := [.val (.ref 1)]) rfl ?_
  refine Sh.aload_n d6_0 rfl rfl ?_
  refine Sh.getfield hw (i := 21) (j := 1) rfl d6_1 rfl rfl ?_
  refine Sh.retI d6_4 rfl (Sh.le rfl) (Sh.le rfl) ?_
  exact ⟨rfl, rfl⟩
theorem lp (hw : HW Z a0) (vs : List Value) (v : Int64) (s N : Nat) (hs : s + N ≤ vs.length) (hl : vs.length < 100) (hz : own_w v N = 0) (hnz : ∀ j, 0 < j → j < N → ¬ own_w v j = 0) :
    ∀ k i, i + (k + 1) = N → Sh.WP l Z a0 n0 b5 R5 0 0 2 [.val (.ref 1), .val (.long v), .second, .val (.long (own_w v i)), .second] [] (own_H (own_ws vs s (own_c v N) i) (.ref 0) (.int (Int32.ofNat (s + i))))
      (fun r H' => r = none ∧ H' = own_H (own_ws vs s (own_c v N) N) (.ref 0) (.int (Int32.ofNat (s + N)))) := by
  intro k
  induction k with
  | zero =>
    intro i h
    obtain rfl : N = i + 1 := by omega
    have hc : (own_w v i).toInt32.toInt8.toInt32 = own_c v (i + 1) i := by rw [own_c, if_neg (by omega)]
    refine Sh.lload_n d5_2 rfl ?_
    refine Sh.ldc2L hw (i := 28) rfl d5_3 ?_
    refine Sh.land d5_6 ?_
    refine Sh.lconst d5_7 (x := 0) rfl ?_
    refine Sh.lcmpT d5_8 d5_9 (pc' := 47) rfl (by decide) ((own_m128 v i).mpr hz) ?_
    refine Sh.aload_n d5_47 rfl rfl ?_
    refine Sh.getfield hw (i := 14) (j := 0) rfl d5_48 rfl rfl ?_
    refine Sh.aload_n d5_51 rfl rfl ?_
    refine Sh.dup d5_52 rfl ?_
    refine Sh.getfield hw (i := 21) (j := 1) rfl d5_53 rfl rfl ?_
    refine Sh.dup_x1 d5_56 rfl rfl ?_
    refine Sh.iconst d5_57 (x := 1) rfl ?_
    refine Sh.iaddE d5_58 (Sh.onSucc _) ?_
    refine Sh.putfield hw (i := 21) (i2 := 22) (j := 1) (ty := .int) rfl rfl d5_59 rfl rfl (by decide +kernel) rfl rfl (Sh.ls_1) (Sh.ls_1) ?_
    refine Sh.lload_n d5_62 rfl ?_
    refine Sh.l2i d5_63 ?_
    refine Sh.i2b d5_64 ?_
    refine Sh.bastore d5_65 rfl (Sh.onNN (by omega)) (Sh.onCl (by omega)) (by rw [own_wlen]; omega) ((Sh.i8_idem _).trans hc) (vs' := own_ws vs s (own_c v (i + 1)) (i + 1)) rfl (Sh.ls_0) ?_
    refine Sh.ret0 d5_66 rfl (Sh.le rfl) (Sh.le rfl) ?_
    exact ⟨rfl, rfl⟩
  | succ k ih =>
    intro i h
    have hc : ((own_w v i &&& 127) ||| 128).toInt32.toInt8.toInt32 = own_c v N i := by rw [own_c, if_pos (by omega)]
    refine Sh.lload_n d5_2 rfl ?_
    refine Sh.ldc2L hw (i := 28) rfl d5_3 ?_
    refine Sh.land d5_6 ?_
    refine Sh.lconst d5_7 (x := 0) rfl ?_
    refine Sh.lcmpF d5_8 d5_9 (fun q => hnz (i + 1) (by omega) (by omega) ((own_m128 v i).mp q)) ?_
    refine Sh.aload_n d5_12 rfl rfl ?_
    refine Sh.getfield hw (i := 14) (j := 0) rfl d5_13 rfl rfl ?_
    refine Sh.aload_n d5_16 rfl rfl ?_
    refine Sh.dup d5_17 rfl ?_
    refine Sh.getfield hw (i := 21) (j := 1) rfl d5_18 rfl rfl ?_
    refine Sh.dup_x1 d5_21 rfl rfl ?_
    refine Sh.iconst d5_22 (x := 1) rfl ?_
    refine Sh.iaddE d5_23 (Sh.onSucc _) ?_
    refine Sh.putfield hw (i := 21) (i2 := 22) (j := 1) (ty := .int) rfl rfl d5_24 rfl rfl (by decide +kernel) rfl rfl (Sh.ls_1) (Sh.ls_1) ?_
    refine Sh.lload_n d5_27 rfl ?_
    refine Sh.ldc2L hw (i := 41) rfl d5_28 ?_
    refine Sh.land d5_31 ?_
    refine Sh.ldc2L hw (i := 42) rfl d5_32 ?_
    refine Sh.lor d5_35 ?_
    refine Sh.l2i d5_36 ?_
    refine Sh.i2b d5_37 ?_
    refine Sh.bastore d5_38 rfl (Sh.onNN (by omega)) (Sh.onCl (by omega)) (by rw [own_wlen]; omega) ((Sh.i8_idem _).trans hc) (vs' := own_ws vs s (own_c v N) (i + 1)) rfl (Sh.ls_0) ?_
    refine Sh.lload_n d5_39 rfl ?_
    refine Sh.bipush d5_40 (x := 7) rfl ?_
    refine Sh.lushr d5_42 ?_
    rw [own_w7]
    refine Sh.lstore_n d5_43 (Sh.s2_3 rfl rfl rfl) ?_
    refine Sh.goto d5_44 (pc' := 2) rfl (by decide) ?_
    exact ih (i + 1) (by omega)
theorem m5 (hw : HW Z a0) (vs : List Value) (v : Int64) (s N : Nat) (h0 : 0 < N) (hs : s + N ≤ vs.length) (hl : vs.length < 100) (hz : own_w v N = 0) (hnz : ∀ j, 0 < j → j < N → ¬ own_w v j = 0) :
    Sh.Meth l Z a0 n0 b5 R5 [.ref 1, .long v] (own_H vs (.ref 0) (.int (Int32.ofNat s))) (fun r H' => r = none ∧ H' = own_H (own_ws vs s (own_c v N) N) (.ref 0) (.int (Int32.ofNat (s + N)))) := by
  refine Sh.Meth.of pn5 (L := [.val (.ref 1), .val (.long v), .second, .unset, .unset]) rfl ?_
  refine Sh.lload_n d5_0 rfl ?_
  refine Sh.lstore_n d5_1 (Sh.s2_3 rfl rfl rfl) ?_
  have := lp l Z a0 n0 hw vs v s N hs hl hz hnz (N - 1) 0 (by omega)
  rw [own_w0] at this
  exact this
theorem m8 (hw : HW Z a0) (v : Int64) (N i : Nat) (hi : i < N) (hN : N < 11) (H : Sh.SH) (hz : own_w v N = 0) (hnz : ∀ j, 0 < j → j < N → ¬ own_w v j = 0) : Sh.Meth l Z a0 n0 b8 R8 [.long v, .int (Int32.ofNat i)] H (fun r H' => r = some (.int (own_c v N i)) ∧ H' = H) := by
  refine Sh.Meth.of pn8 (L := [.val (.long v), .second, .val (.int (Int32.ofNat i)), .unset, .unset]) rfl ?_
  have e1 : XT.ushrL v (7 * Int32.ofNat i) = own_w v i := by rw [show (7 : Int32) * Int32.ofNat i = Int32.ofNat (7 * i) from Sh.onMul]; exact own_wk v i (by omega)
  refine Sh.lload_n d8_0 rfl ?_
  refine Sh.bipush d8_1 (x := 7) rfl ?_
  refine Sh.iload_n d8_3 rfl ?_
  refine Sh.imul d8_4 ?_
  refine Sh.lushr d8_5 ?_
  rw [e1]
  have no : i + 1 = N → Sh.WP l Z a0 n0 b8 R8 0 0 35 [.val (.long v), .second, .val (.int (Int32.ofNat i)), .val (.int (own_w v i &&& 127).toInt32), .unset] [] H (fun r H' => r = some (.int (own_c v N i)) ∧ H' = H) := by
    intro q
    refine Sh.iconst d8_35 (x := 0) rfl ?_
    refine Sh.istore d8_36 (Sh.s1_4 rfl rfl) ?_
    refine Sh.iload d8_38 rfl ?_
    refine Sh.ifT d8_40 (pc' := 51) rfl (by decide) (by decide) ?_
    refine Sh.iload_n d8_51 rfl ?_
    refine Sh.i2b d8_52 ?_
    refine Sh.retN d8_53 rfl (by simp) (Sh.i8_idem _) (Sh.le rfl) (Sh.le rfl) ?_
    exact ⟨by rw [own_c, if_neg (by omega), own_low v i (by rw [q]; exact hz)], rfl⟩
  refine Sh.ldc2L hw (i := 40) rfl d8_6 ?_
  refine Sh.land d8_9 ?_
  refine Sh.l2i d8_10 ?_
  refine Sh.istore_n d8_11 (Sh.s1_3 rfl rfl) ?_
  refine Sh.iload_n d8_12 rfl ?_
  refine Sh.bipush d8_13 (x := 9) rfl ?_
  by_cases q : i < 9
  · have e2 : XT.ushrL v (7 * (Int32.ofNat i + 1)) = own_w v (i + 1) := by rw [Sh.onSucc, show (7 : Int32) * Int32.ofNat (i + 1) = Int32.ofNat (7 * (i + 1)) from Sh.onMul]; exact own_wk v (i + 1) (by omega)
    refine Sh.icmpF d8_15 (fun z => z ((Sh.onLt (b := 9) (by omega) (by omega)).mpr q)) ?_
    refine Sh.lload_n d8_18 rfl ?_
    refine Sh.bipush d8_19 (x := 7) rfl ?_
    refine Sh.iload_n d8_21 rfl ?_
    refine Sh.iconst d8_22 (x := 1) rfl ?_
    refine Sh.iadd d8_23 ?_
    refine Sh.imul d8_24 ?_
    refine Sh.lushr d8_25 ?_
    rw [e2]
    refine Sh.lconst d8_26 (x := 0) rfl ?_
    refine Sh.lcmp_eq d8_27 d8_28 (pc' := 35) rfl (by decide) (fun h28 => ?_) (fun h28 => ?_)
    · have q2 : i + 1 = N := by
        by_cases z : i + 1 < N
        · exact absurd h28 (hnz (i + 1) (by omega) z)
        · omega
      exact no q2
    · have q2 : i + 1 < N := by
        by_cases z : i + 1 = N
        · rw [z] at h28; exact absurd hz h28
        · omega
      refine Sh.iconst d8_31 (x := 1) rfl ?_
      refine Sh.goto d8_32 (pc' := 36) rfl (by decide) ?_
      refine Sh.istore d8_36 (Sh.s1_4 rfl rfl) ?_
      refine Sh.iload d8_38 rfl ?_
      refine Sh.ifF d8_40 (by decide) ?_
      refine Sh.iload_n d8_43 rfl ?_
      refine Sh.sipush d8_44 (x := 128) rfl ?_
      refine Sh.ior d8_47 ?_
      refine Sh.goto d8_48 (pc' := 52) rfl (by decide) ?_
      refine Sh.i2b d8_52 ?_
      refine Sh.retN d8_53 rfl (by simp) (Sh.i8_idem _) (Sh.le rfl) (Sh.le rfl) ?_
      exact ⟨by rw [own_c, if_pos q2, Int64.toInt32_or]; rfl, rfl⟩
  · refine Sh.icmpT d8_15 (pc' := 35) rfl (by decide) (fun z => q ((Sh.onLt (b := 9) (by omega) (by omega)).mp z)) ?_
    exact no (by omega)
theorem m7 (hw : HW Z a0) (vs : List Value) (b a : Value) (v : Int64) (fb : Int32) (k s N : Nat) (hk : k < 12) (hs : s < 2) (hN : N < 11) (hz : own_w v N = 0) (hnz : ∀ j, 0 < j → j < N → ¬ own_w v j = 0)
    (h1 : k < s ∨ s + N ≤ k → vs[k]? = some (.int fb)) (h2 : s ≤ k → k < s + N → vs[k]? = some (.int (own_c v N (k - s)))) :
    Sh.Meth l Z a0 n0 b7 R7 [.ref 0, .int (Int32.ofNat k), .int (Int32.ofNat s), .int (Int32.ofNat N), .long v, .int fb] (own_H vs b a) (fun r H' => r = some (.int 1) ∧ H' = own_H vs b a) := by
  refine Sh.Meth.of pn7 (L := [.val (.ref 0), .val (.int (Int32.ofNat k)), .val (.int (Int32.ofNat s)), .val (.int (Int32.ofNat N)), .val (.long v), .second, .val (.int fb), .unset]) rfl ?_
  by_cases q : k < s
  · refine Sh.iload_n d7_0 rfl ?_
    refine Sh.iload_n d7_1 rfl ?_
    refine Sh.isub d7_2 ?_
    refine Sh.istore d7_3 (Sh.s1_7 rfl rfl) ?_
    refine Sh.iload d7_5 rfl ?_
    refine Sh.ifT d7_7 (pc' := 16) rfl (by decide) (own_neg k s q (by omega)) ?_
    refine Sh.aload_n d7_16 rfl rfl ?_
    refine Sh.iload_n d7_17 rfl ?_
    refine Sh.baload d7_18 rfl (Sh.onNN (by omega)) (Sh.onCl (by omega)) (h1 (Or.inl q)) ?_
    refine Sh.iload d7_19 rfl ?_
    refine Sh.icmpF d7_21 (fun z => z rfl) ?_
    refine Sh.iconst d7_24 (x := 1) rfl ?_
    refine Sh.goto d7_25 (pc' := 29) rfl (by decide) ?_
    refine Sh.retN d7_29 rfl (by simp) rfl (Sh.le rfl) (Sh.le rfl) ?_
    exact ⟨rfl, rfl⟩
  · by_cases q2 : k - s < N
    · refine Sh.iload_n d7_0 rfl ?_
      refine Sh.iload_n d7_1 rfl ?_
      refine Sh.isubE d7_2 (Sh.onSub (by omega) (by omega)) ?_
      refine Sh.istore d7_3 (Sh.s1_7 rfl rfl) ?_
      refine Sh.iload d7_5 rfl ?_
      refine Sh.ifF d7_7 (Sh.onNN (by omega)) ?_
      refine Sh.iload d7_10 rfl ?_
      refine Sh.iload_n d7_12 rfl ?_
      refine Sh.icmpT d7_13 (pc' := 30) rfl (by decide) ((Sh.onLt (by omega) (by omega)).mpr q2) ?_
      refine Sh.aload_n d7_30 rfl rfl ?_
      refine Sh.iload_n d7_31 rfl ?_
      refine Sh.baload d7_32 rfl (Sh.onNN (by omega)) (Sh.onCl (by omega)) (h2 (by omega) (by omega)) ?_
      refine Sh.lload d7_33 rfl ?_
      refine Sh.iload d7_35 rfl ?_
      refine Sh.callS hw (i1 := 37) (i2 := 38) (i3 := 3) (i4 := 39) (k' := 0) (n' := 0) (B' := b8) (R' := R8) rfl rfl rfl rfl (by decide) (m8 l Z a0 n0 hw v N (k - s) q2 hN _ hz hnz) d7_37 rfl rfl pd8 rfl (Sh.le rfl) (Sh.le rfl) (Sh.le rfl) (Sh.le rfl) rfl rfl ?_
      rintro _ _ ⟨rfl, rfl⟩
      refine Sh.icmpF d7_40 (fun z => z rfl) ?_
      refine Sh.iconst d7_43 (x := 1) rfl ?_
      refine Sh.goto d7_44 (pc' := 48) rfl (by decide) ?_
      refine Sh.retN d7_48 rfl (by simp) rfl (Sh.le rfl) (Sh.le rfl) ?_
      exact ⟨rfl, rfl⟩
    · refine Sh.iload_n d7_0 rfl ?_
      refine Sh.iload_n d7_1 rfl ?_
      refine Sh.isubE d7_2 (Sh.onSub (by omega) (by omega)) ?_
      refine Sh.istore d7_3 (Sh.s1_7 rfl rfl) ?_
      refine Sh.iload d7_5 rfl ?_
      refine Sh.ifF d7_7 (Sh.onNN (by omega)) ?_
      refine Sh.iload d7_10 rfl ?_
      refine Sh.iload_n d7_12 rfl ?_
      refine Sh.icmpF d7_13 (fun z => q2 ((Sh.onLt (by omega) (by omega)).mp z)) ?_
      refine Sh.aload_n d7_16 rfl rfl ?_
      refine Sh.iload_n d7_17 rfl ?_
      refine Sh.baload d7_18 rfl (Sh.onNN (by omega)) (Sh.onCl (by omega)) (h1 (Or.inr (by omega))) ?_
      refine Sh.iload d7_19 rfl ?_
      refine Sh.icmpF d7_21 (fun z => z rfl) ?_
      refine Sh.iconst d7_24 (x := 1) rfl ?_
      refine Sh.goto d7_25 (pc' := 29) rfl (by decide) ?_
      refine Sh.retN d7_29 rfl (by simp) rfl (Sh.le rfl) (Sh.le rfl) ?_
      exact ⟨rfl, rfl⟩
theorem law_ok (hw : HW Z a0) (value : Int64) (shift off fill : Int32) : Sh.Meth l Z a0 n0 b0 room_1 [.long value, .int shift, .int off, .int fill] [] (fun v _ => v = some (.int 1)) := by
  refine Sh.Meth.of pn0 (L := [.val (.long value), .second, .val (.int shift), .val (.int off), .val (.int fill), .unset, .unset, .unset, .unset, .unset, .unset, .unset, .unset]) rfl ?_
  obtain ⟨s, hs, es⟩ := Sh.maskNat off 1 1 (by decide) (by decide)
  have hs2 : s < 2 := hs
  clear hs
  refine Sh.lload_n at_0 rfl ?_
  refine Sh.iload_n at_1 rfl ?_
  refine Sh.bipush at_2 (x := 63) rfl ?_
  refine Sh.iand at_4 ?_
  refine Sh.lushr at_5 ?_
  generalize XT.ushrL value (shift &&& 63) = v
  obtain ⟨N, h0, hN, hz, hnz⟩ := own_N' v 9 (by decide) (fun j h0 h1 => by omega)
  refine Sh.lstore at_6 (Sh.s2_5 rfl rfl rfl) ?_
  refine Sh.iload_n at_8 rfl ?_
  refine Sh.iconst at_9 (x := 1) rfl ?_
  refine Sh.iand at_10 ?_
  rw [es]
  refine Sh.istore at_11 (Sh.s1_7 rfl rfl) ?_
  refine Sh.iload at_13 rfl ?_
  refine Sh.i2b at_15 ?_
  have ef := Sh.i8_idem fill
  generalize fill.toInt8.toInt32 = fb at ef ⊢
  refine Sh.istore at_16 (Sh.s1_8 rfl rfl) ?_
  refine Sh.bipush at_18 (x := 12) rfl ?_
  refine Sh.newarr hw (i := 0) (ty := .byte) (dv := .int 0) (N := 12) (cap := 12) (k' := 1) (n' := 12) (a := 0) rfl rfl at_20 rfl (by decide) rfl (Sh.rp_12) (Sh.le rfl) (by decide) (Sh.le rfl) (Sh.le rfl) rfl rfl rfl (Sh.ap_0) ?_
  refine Sh.astore at_22 rfl (Sh.s1_9 rfl rfl) ?_
  refine Sh.aload at_24 rfl rfl ?_
  refine Sh.iconst at_26 (x := 0) rfl ?_
  refine Sh.iload at_27 rfl ?_
  refine Sh.bastore (jn := 0) at_29 rfl (by decide) rfl (Sh.le rfl) ef (Sh.ls_0) (Sh.ls_0) ?_
  refine Sh.aload at_30 rfl rfl ?_
  refine Sh.iconst at_32 (x := 1) rfl ?_
  refine Sh.iload at_33 rfl ?_
  refine Sh.bastore (jn := 1) at_35 rfl (by decide) rfl (Sh.le rfl) ef (Sh.ls_1) (Sh.ls_0) ?_
  refine Sh.aload at_36 rfl rfl ?_
  refine Sh.iconst at_38 (x := 2) rfl ?_
  refine Sh.iload at_39 rfl ?_
  refine Sh.bastore (jn := 2) at_41 rfl (by decide) rfl (Sh.le rfl) ef (Sh.ls_2) (Sh.ls_0) ?_
  refine Sh.aload at_42 rfl rfl ?_
  refine Sh.iconst at_44 (x := 3) rfl ?_
  refine Sh.iload at_45 rfl ?_
  refine Sh.bastore (jn := 3) at_47 rfl (by decide) rfl (Sh.le rfl) ef (Sh.ls_3) (Sh.ls_0) ?_
  refine Sh.aload at_48 rfl rfl ?_
  refine Sh.iconst at_50 (x := 4) rfl ?_
  refine Sh.iload at_51 rfl ?_
  refine Sh.bastore (jn := 4) at_53 rfl (by decide) rfl (Sh.le rfl) ef (Sh.ls_4) (Sh.ls_0) ?_
  refine Sh.aload at_54 rfl rfl ?_
  refine Sh.iconst at_56 (x := 5) rfl ?_
  refine Sh.iload at_57 rfl ?_
  refine Sh.bastore (jn := 5) at_59 rfl (by decide) rfl (Sh.le rfl) ef (Sh.ls_5) (Sh.ls_0) ?_
  refine Sh.aload at_60 rfl rfl ?_
  refine Sh.bipush at_62 (x := 6) rfl ?_
  refine Sh.iload at_64 rfl ?_
  refine Sh.bastore (jn := 6) at_66 rfl (by decide) rfl (Sh.le rfl) ef (Sh.ls_6) (Sh.ls_0) ?_
  refine Sh.aload at_67 rfl rfl ?_
  refine Sh.bipush at_69 (x := 7) rfl ?_
  refine Sh.iload at_71 rfl ?_
  refine Sh.bastore (jn := 7) at_73 rfl (by decide) rfl (Sh.le rfl) ef (Sh.ls_7) (Sh.ls_0) ?_
  refine Sh.aload at_74 rfl rfl ?_
  refine Sh.bipush at_76 (x := 8) rfl ?_
  refine Sh.iload at_78 rfl ?_
  refine Sh.bastore (jn := 8) at_80 rfl (by decide) rfl (Sh.le rfl) ef (Sh.ls_8) (Sh.ls_0) ?_
  refine Sh.aload at_81 rfl rfl ?_
  refine Sh.bipush at_83 (x := 9) rfl ?_
  refine Sh.iload at_85 rfl ?_
  refine Sh.bastore (jn := 9) at_87 rfl (by decide) rfl (Sh.le rfl) ef (Sh.ls_9) (Sh.ls_0) ?_
  refine Sh.aload at_88 rfl rfl ?_
  refine Sh.bipush at_90 (x := 10) rfl ?_
  refine Sh.iload at_92 rfl ?_
  refine Sh.bastore (jn := 10) at_94 rfl (by decide) rfl (Sh.le rfl) ef (Sh.ls_10) (Sh.ls_0) ?_
  refine Sh.aload at_95 rfl rfl ?_
  refine Sh.bipush at_97 (x := 11) rfl ?_
  refine Sh.iload at_99 rfl ?_
  refine Sh.bastore (jn := 11) at_101 rfl (by decide) rfl (Sh.le rfl) ef (Sh.ls_11) (Sh.ls_0) ?_
  generalize hK : [Value.int fb, Value.int fb, Value.int fb, Value.int fb, Value.int fb, Value.int fb, Value.int fb, Value.int fb, Value.int fb, Value.int fb, Value.int fb, Value.int fb] = vs
  have hl : vs.length = 12 := by rw [← hK]; rfl
  have hg : ∀ j, j < 12 → vs[j]? = some (.int fb) := by
    intro j hj
    rw [← hK, show [Value.int fb, Value.int fb, Value.int fb, Value.int fb, Value.int fb, Value.int fb, Value.int fb, Value.int fb, Value.int fb, Value.int fb, Value.int fb, Value.int fb] = List.replicate 12 (Value.int fb) from rfl]
    exact own_rep _ _ _ hj
  refine Sh.iconst at_102 (x := 1) rfl ?_
  refine Sh.lload at_103 rfl ?_
  refine Sh.bipush at_105 (x := 7) rfl ?_
  refine Sh.lushr at_107 ?_
  refine Sh.callS hw (i1 := 1) (i2 := 2) (i3 := 3) (i4 := 4) (k' := 1) (n' := 12) (B' := b1) (R' := R1) rfl rfl rfl rfl (by decide) (m1 l Z a0 n0 hw _ _) at_108 rfl rfl pd1 rfl (Sh.le rfl) (Sh.le rfl) (Sh.le rfl) (Sh.le rfl) rfl rfl ?_
  rintro _ _ ⟨rfl, rfl⟩
  refine Sh.iadd at_111 ?_
  refine Sh.lload at_112 rfl ?_
  refine Sh.bipush at_114 (x := 14) rfl ?_
  refine Sh.lushr at_116 ?_
  refine Sh.callS hw (i1 := 1) (i2 := 2) (i3 := 3) (i4 := 4) (k' := 1) (n' := 12) (B' := b1) (R' := R1) rfl rfl rfl rfl (by decide) (m1 l Z a0 n0 hw _ _) at_117 rfl rfl pd1 rfl (Sh.le rfl) (Sh.le rfl) (Sh.le rfl) (Sh.le rfl) rfl rfl ?_
  rintro _ _ ⟨rfl, rfl⟩
  refine Sh.iadd at_120 ?_
  refine Sh.lload at_121 rfl ?_
  refine Sh.bipush at_123 (x := 21) rfl ?_
  refine Sh.lushr at_125 ?_
  refine Sh.callS hw (i1 := 1) (i2 := 2) (i3 := 3) (i4 := 4) (k' := 1) (n' := 12) (B' := b1) (R' := R1) rfl rfl rfl rfl (by decide) (m1 l Z a0 n0 hw _ _) at_126 rfl rfl pd1 rfl (Sh.le rfl) (Sh.le rfl) (Sh.le rfl) (Sh.le rfl) rfl rfl ?_
  rintro _ _ ⟨rfl, rfl⟩
  refine Sh.iadd at_129 ?_
  refine Sh.lload at_130 rfl ?_
  refine Sh.bipush at_132 (x := 28) rfl ?_
  refine Sh.lushr at_134 ?_
  refine Sh.callS hw (i1 := 1) (i2 := 2) (i3 := 3) (i4 := 4) (k' := 1) (n' := 12) (B' := b1) (R' := R1) rfl rfl rfl rfl (by decide) (m1 l Z a0 n0 hw _ _) at_135 rfl rfl pd1 rfl (Sh.le rfl) (Sh.le rfl) (Sh.le rfl) (Sh.le rfl) rfl rfl ?_
  rintro _ _ ⟨rfl, rfl⟩
  refine Sh.iadd at_138 ?_
  refine Sh.lload at_139 rfl ?_
  refine Sh.bipush at_141 (x := 35) rfl ?_
  refine Sh.lushr at_143 ?_
  refine Sh.callS hw (i1 := 1) (i2 := 2) (i3 := 3) (i4 := 4) (k' := 1) (n' := 12) (B' := b1) (R' := R1) rfl rfl rfl rfl (by decide) (m1 l Z a0 n0 hw _ _) at_144 rfl rfl pd1 rfl (Sh.le rfl) (Sh.le rfl) (Sh.le rfl) (Sh.le rfl) rfl rfl ?_
  rintro _ _ ⟨rfl, rfl⟩
  refine Sh.iadd at_147 ?_
  refine Sh.lload at_148 rfl ?_
  refine Sh.bipush at_150 (x := 42) rfl ?_
  refine Sh.lushr at_152 ?_
  refine Sh.callS hw (i1 := 1) (i2 := 2) (i3 := 3) (i4 := 4) (k' := 1) (n' := 12) (B' := b1) (R' := R1) rfl rfl rfl rfl (by decide) (m1 l Z a0 n0 hw _ _) at_153 rfl rfl pd1 rfl (Sh.le rfl) (Sh.le rfl) (Sh.le rfl) (Sh.le rfl) rfl rfl ?_
  rintro _ _ ⟨rfl, rfl⟩
  refine Sh.iadd at_156 ?_
  refine Sh.lload at_157 rfl ?_
  refine Sh.bipush at_159 (x := 49) rfl ?_
  refine Sh.lushr at_161 ?_
  refine Sh.callS hw (i1 := 1) (i2 := 2) (i3 := 3) (i4 := 4) (k' := 1) (n' := 12) (B' := b1) (R' := R1) rfl rfl rfl rfl (by decide) (m1 l Z a0 n0 hw _ _) at_162 rfl rfl pd1 rfl (Sh.le rfl) (Sh.le rfl) (Sh.le rfl) (Sh.le rfl) rfl rfl ?_
  rintro _ _ ⟨rfl, rfl⟩
  refine Sh.iadd at_165 ?_
  refine Sh.lload at_166 rfl ?_
  refine Sh.bipush at_168 (x := 56) rfl ?_
  refine Sh.lushr at_170 ?_
  refine Sh.callS hw (i1 := 1) (i2 := 2) (i3 := 3) (i4 := 4) (k' := 1) (n' := 12) (B' := b1) (R' := R1) rfl rfl rfl rfl (by decide) (m1 l Z a0 n0 hw _ _) at_171 rfl rfl pd1 rfl (Sh.le rfl) (Sh.le rfl) (Sh.le rfl) (Sh.le rfl) rfl rfl ?_
  rintro _ _ ⟨rfl, rfl⟩
  refine Sh.iadd at_174 ?_
  refine Sh.lload at_175 rfl ?_
  refine Sh.bipush at_177 (x := 63) rfl ?_
  refine Sh.lushr at_179 ?_
  refine Sh.callS hw (i1 := 1) (i2 := 2) (i3 := 3) (i4 := 4) (k' := 1) (n' := 12) (B' := b1) (R' := R1) rfl rfl rfl rfl (by decide) (m1 l Z a0 n0 hw _ _) at_180 rfl rfl pd1 rfl (Sh.le rfl) (Sh.le rfl) (Sh.le rfl) (Sh.le rfl) rfl rfl ?_
  rintro _ _ ⟨rfl, rfl⟩
  refine Sh.iadd at_183 ?_
  have hsum : 1 + own_z (XT.ushrL v 7) + own_z (XT.ushrL v 14) + own_z (XT.ushrL v 21) + own_z (XT.ushrL v 28) + own_z (XT.ushrL v 35) + own_z (XT.ushrL v 42) + own_z (XT.ushrL v 49) + own_z (XT.ushrL v 56) + own_z (XT.ushrL v 63) = Int32.ofNat N := by
    rw [show XT.ushrL v 7 = own_w v 1 from own_wk v 1 (by decide)]
    rw [show XT.ushrL v 14 = own_w v 2 from own_wk v 2 (by decide)]
    rw [show XT.ushrL v 21 = own_w v 3 from own_wk v 3 (by decide)]
    rw [show XT.ushrL v 28 = own_w v 4 from own_wk v 4 (by decide)]
    rw [show XT.ushrL v 35 = own_w v 5 from own_wk v 5 (by decide)]
    rw [show XT.ushrL v 42 = own_w v 6 from own_wk v 6 (by decide)]
    rw [show XT.ushrL v 49 = own_w v 7 from own_wk v 7 (by decide)]
    rw [show XT.ushrL v 56 = own_w v 8 from own_wk v 8 (by decide)]
    rw [show XT.ushrL v 63 = own_w v 9 from own_wk v 9 (by decide)]
    refine own_len N h0 hN (fun j => own_z (own_w v j)) fun j h1 h2 => ?_
    show own_z (own_w v j) = _
    by_cases q : j < N
    · rw [own_z, if_neg (hnz j h1 q), if_pos q]
    · rw [own_z, if_pos (by have := own_ups v N (j - N) hz; rw [show N + (j - N) = j by omega] at this; exact this), if_neg q]
  rw [hsum]
  refine Sh.istore at_184 (Sh.s1_10 rfl rfl) ?_
  refine Sh.newobj hw (i1 := 5) (i2 := 6) (i3 := 7) (k' := 2) (n' := 14) (a := 1) rfl rfl rfl at_186 fs_ByteCursor nd_ByteCursor (Sh.le rfl) (Sh.le rfl) rfl rfl rfl (Sh.ap_1) ?_
  refine Sh.dup at_189 rfl ?_
  refine Sh.callI hw (i1 := 8) (i2 := 9) (i3 := 7) (i4 := 10) (k' := 3) (n' := 14) (B' := b2) (R' := R2) rfl rfl rfl rfl rfl rfl (by decide) (m2 l Z a0 n0 hw _ _ _) at_190 rfl rfl pd2 rfl (Sh.le rfl) (Sh.le rfl) (Sh.le rfl) (Sh.le rfl) rfl rfl ?_
  rintro _ _ ⟨rfl, rfl⟩
  refine Sh.aload at_193 rfl rfl ?_
  refine Sh.iload at_195 rfl ?_
  refine Sh.callV hw (i1 := 16) (i2 := 18) (i3 := 7) (i4 := 20) (i5 := 17) (i6 := 19) (k' := 3) (n' := 14) (B' := b4) (R' := R4) rfl rfl rfl rfl rfl rfl (by decide) rfl (m4 l Z a0 n0 hw _ _ _ _) at_197 rfl rfl pd4 rfl (Sh.le rfl) (Sh.le rfl) (Sh.le rfl) (Sh.le rfl) rfl rfl ?_
  rintro _ _ ⟨rfl, rfl⟩
  refine Sh.astore at_200 rfl (Sh.s1_11 rfl rfl) ?_
  refine Sh.aload at_202 rfl rfl ?_
  refine Sh.lload at_204 rfl ?_
  refine Sh.callV hw (i1 := 23) (i2 := 25) (i3 := 7) (i4 := 27) (i5 := 24) (i6 := 26) (k' := 3) (n' := 14) (B' := b5) (R' := R5) rfl rfl rfl rfl rfl rfl (by decide) rfl (m5 l Z a0 n0 hw vs v s N h0 (by omega) (by omega) hz hnz) at_206 rfl rfl pd5 rfl (Sh.le rfl) (Sh.le rfl) (Sh.le rfl) (Sh.le rfl) rfl rfl ?_
  rintro _ _ ⟨rfl, rfl⟩
  refine Sh.aload at_209 rfl rfl ?_
  refine Sh.callV hw (i1 := 29) (i2 := 31) (i3 := 7) (i4 := 33) (i5 := 30) (i6 := 32) (k' := 3) (n' := 14) (B' := b6) (R' := R6) rfl rfl rfl rfl rfl rfl (by decide) rfl (m6 l Z a0 n0 hw _ _ _) at_211 rfl rfl pd6 rfl (Sh.le rfl) (Sh.le rfl) (Sh.le rfl) (Sh.le rfl) rfl rfl ?_
  rintro _ _ ⟨rfl, rfl⟩
  refine Sh.iload at_214 rfl ?_
  refine Sh.iload at_216 rfl ?_
  refine Sh.iaddE at_218 (Sh.onAdd _ _) ?_
  refine Sh.icmpF at_219 (fun z => z rfl) ?_
  refine Sh.iconst at_222 (x := 1) rfl ?_
  refine Sh.goto at_223 (pc' := 227) rfl (by decide) ?_
  refine Sh.istore at_227 (Sh.s1_12 rfl rfl) ?_
  refine Sh.iload at_229 rfl ?_
  refine Sh.ifF at_231 (by decide) ?_
  refine Sh.aload at_234 rfl rfl ?_
  refine Sh.iconst at_236 (x := 0) rfl ?_
  refine Sh.iload at_237 rfl ?_
  refine Sh.iload at_239 rfl ?_
  refine Sh.lload at_241 rfl ?_
  refine Sh.iload at_243 rfl ?_
  refine Sh.callS hw (i1 := 34) (i2 := 35) (i3 := 3) (i4 := 36) (k' := 3) (n' := 14) (B' := b7) (R' := R7) rfl rfl rfl rfl (by decide) (m7 l Z a0 n0 hw _ _ _ v fb 0 s N (by decide) hs2 hN hz hnz (fun q => by rw [own_wout vs s (own_c v N) N 0 q]; exact hg 0 (by decide)) (fun q1 q2 => by have := own_win vs s (own_c v N) N (by omega) (0 - s) (by omega); rw [show s + (0 - s) = 0 by omega] at this; exact this)) at_245 rfl rfl pd7 rfl (Sh.le rfl) (Sh.le rfl) (Sh.le rfl) (Sh.le rfl) rfl rfl ?_
  rintro _ _ ⟨rfl, rfl⟩
  refine Sh.ifF at_248 (by decide) ?_
  refine Sh.aload at_251 rfl rfl ?_
  refine Sh.iconst at_253 (x := 1) rfl ?_
  refine Sh.iload at_254 rfl ?_
  refine Sh.iload at_256 rfl ?_
  refine Sh.lload at_258 rfl ?_
  refine Sh.iload at_260 rfl ?_
  refine Sh.callS hw (i1 := 34) (i2 := 35) (i3 := 3) (i4 := 36) (k' := 3) (n' := 14) (B' := b7) (R' := R7) rfl rfl rfl rfl (by decide) (m7 l Z a0 n0 hw _ _ _ v fb 1 s N (by decide) hs2 hN hz hnz (fun q => by rw [own_wout vs s (own_c v N) N 1 q]; exact hg 1 (by decide)) (fun q1 q2 => by have := own_win vs s (own_c v N) N (by omega) (1 - s) (by omega); rw [show s + (1 - s) = 1 by omega] at this; exact this)) at_262 rfl rfl pd7 rfl (Sh.le rfl) (Sh.le rfl) (Sh.le rfl) (Sh.le rfl) rfl rfl ?_
  rintro _ _ ⟨rfl, rfl⟩
  refine Sh.ifF at_265 (by decide) ?_
  refine Sh.aload at_268 rfl rfl ?_
  refine Sh.iconst at_270 (x := 2) rfl ?_
  refine Sh.iload at_271 rfl ?_
  refine Sh.iload at_273 rfl ?_
  refine Sh.lload at_275 rfl ?_
  refine Sh.iload at_277 rfl ?_
  refine Sh.callS hw (i1 := 34) (i2 := 35) (i3 := 3) (i4 := 36) (k' := 3) (n' := 14) (B' := b7) (R' := R7) rfl rfl rfl rfl (by decide) (m7 l Z a0 n0 hw _ _ _ v fb 2 s N (by decide) hs2 hN hz hnz (fun q => by rw [own_wout vs s (own_c v N) N 2 q]; exact hg 2 (by decide)) (fun q1 q2 => by have := own_win vs s (own_c v N) N (by omega) (2 - s) (by omega); rw [show s + (2 - s) = 2 by omega] at this; exact this)) at_279 rfl rfl pd7 rfl (Sh.le rfl) (Sh.le rfl) (Sh.le rfl) (Sh.le rfl) rfl rfl ?_
  rintro _ _ ⟨rfl, rfl⟩
  refine Sh.ifF at_282 (by decide) ?_
  refine Sh.aload at_285 rfl rfl ?_
  refine Sh.iconst at_287 (x := 3) rfl ?_
  refine Sh.iload at_288 rfl ?_
  refine Sh.iload at_290 rfl ?_
  refine Sh.lload at_292 rfl ?_
  refine Sh.iload at_294 rfl ?_
  refine Sh.callS hw (i1 := 34) (i2 := 35) (i3 := 3) (i4 := 36) (k' := 3) (n' := 14) (B' := b7) (R' := R7) rfl rfl rfl rfl (by decide) (m7 l Z a0 n0 hw _ _ _ v fb 3 s N (by decide) hs2 hN hz hnz (fun q => by rw [own_wout vs s (own_c v N) N 3 q]; exact hg 3 (by decide)) (fun q1 q2 => by have := own_win vs s (own_c v N) N (by omega) (3 - s) (by omega); rw [show s + (3 - s) = 3 by omega] at this; exact this)) at_296 rfl rfl pd7 rfl (Sh.le rfl) (Sh.le rfl) (Sh.le rfl) (Sh.le rfl) rfl rfl ?_
  rintro _ _ ⟨rfl, rfl⟩
  refine Sh.ifF at_299 (by decide) ?_
  refine Sh.aload at_302 rfl rfl ?_
  refine Sh.iconst at_304 (x := 4) rfl ?_
  refine Sh.iload at_305 rfl ?_
  refine Sh.iload at_307 rfl ?_
  refine Sh.lload at_309 rfl ?_
  refine Sh.iload at_311 rfl ?_
  refine Sh.callS hw (i1 := 34) (i2 := 35) (i3 := 3) (i4 := 36) (k' := 3) (n' := 14) (B' := b7) (R' := R7) rfl rfl rfl rfl (by decide) (m7 l Z a0 n0 hw _ _ _ v fb 4 s N (by decide) hs2 hN hz hnz (fun q => by rw [own_wout vs s (own_c v N) N 4 q]; exact hg 4 (by decide)) (fun q1 q2 => by have := own_win vs s (own_c v N) N (by omega) (4 - s) (by omega); rw [show s + (4 - s) = 4 by omega] at this; exact this)) at_313 rfl rfl pd7 rfl (Sh.le rfl) (Sh.le rfl) (Sh.le rfl) (Sh.le rfl) rfl rfl ?_
  rintro _ _ ⟨rfl, rfl⟩
  refine Sh.ifF at_316 (by decide) ?_
  refine Sh.aload at_319 rfl rfl ?_
  refine Sh.iconst at_321 (x := 5) rfl ?_
  refine Sh.iload at_322 rfl ?_
  refine Sh.iload at_324 rfl ?_
  refine Sh.lload at_326 rfl ?_
  refine Sh.iload at_328 rfl ?_
  refine Sh.callS hw (i1 := 34) (i2 := 35) (i3 := 3) (i4 := 36) (k' := 3) (n' := 14) (B' := b7) (R' := R7) rfl rfl rfl rfl (by decide) (m7 l Z a0 n0 hw _ _ _ v fb 5 s N (by decide) hs2 hN hz hnz (fun q => by rw [own_wout vs s (own_c v N) N 5 q]; exact hg 5 (by decide)) (fun q1 q2 => by have := own_win vs s (own_c v N) N (by omega) (5 - s) (by omega); rw [show s + (5 - s) = 5 by omega] at this; exact this)) at_330 rfl rfl pd7 rfl (Sh.le rfl) (Sh.le rfl) (Sh.le rfl) (Sh.le rfl) rfl rfl ?_
  rintro _ _ ⟨rfl, rfl⟩
  refine Sh.ifF at_333 (by decide) ?_
  refine Sh.aload at_336 rfl rfl ?_
  refine Sh.bipush at_338 (x := 6) rfl ?_
  refine Sh.iload at_340 rfl ?_
  refine Sh.iload at_342 rfl ?_
  refine Sh.lload at_344 rfl ?_
  refine Sh.iload at_346 rfl ?_
  refine Sh.callS hw (i1 := 34) (i2 := 35) (i3 := 3) (i4 := 36) (k' := 3) (n' := 14) (B' := b7) (R' := R7) rfl rfl rfl rfl (by decide) (m7 l Z a0 n0 hw _ _ _ v fb 6 s N (by decide) hs2 hN hz hnz (fun q => by rw [own_wout vs s (own_c v N) N 6 q]; exact hg 6 (by decide)) (fun q1 q2 => by have := own_win vs s (own_c v N) N (by omega) (6 - s) (by omega); rw [show s + (6 - s) = 6 by omega] at this; exact this)) at_348 rfl rfl pd7 rfl (Sh.le rfl) (Sh.le rfl) (Sh.le rfl) (Sh.le rfl) rfl rfl ?_
  rintro _ _ ⟨rfl, rfl⟩
  refine Sh.ifF at_351 (by decide) ?_
  refine Sh.aload at_354 rfl rfl ?_
  refine Sh.bipush at_356 (x := 7) rfl ?_
  refine Sh.iload at_358 rfl ?_
  refine Sh.iload at_360 rfl ?_
  refine Sh.lload at_362 rfl ?_
  refine Sh.iload at_364 rfl ?_
  refine Sh.callS hw (i1 := 34) (i2 := 35) (i3 := 3) (i4 := 36) (k' := 3) (n' := 14) (B' := b7) (R' := R7) rfl rfl rfl rfl (by decide) (m7 l Z a0 n0 hw _ _ _ v fb 7 s N (by decide) hs2 hN hz hnz (fun q => by rw [own_wout vs s (own_c v N) N 7 q]; exact hg 7 (by decide)) (fun q1 q2 => by have := own_win vs s (own_c v N) N (by omega) (7 - s) (by omega); rw [show s + (7 - s) = 7 by omega] at this; exact this)) at_366 rfl rfl pd7 rfl (Sh.le rfl) (Sh.le rfl) (Sh.le rfl) (Sh.le rfl) rfl rfl ?_
  rintro _ _ ⟨rfl, rfl⟩
  refine Sh.ifF at_369 (by decide) ?_
  refine Sh.aload at_372 rfl rfl ?_
  refine Sh.bipush at_374 (x := 8) rfl ?_
  refine Sh.iload at_376 rfl ?_
  refine Sh.iload at_378 rfl ?_
  refine Sh.lload at_380 rfl ?_
  refine Sh.iload at_382 rfl ?_
  refine Sh.callS hw (i1 := 34) (i2 := 35) (i3 := 3) (i4 := 36) (k' := 3) (n' := 14) (B' := b7) (R' := R7) rfl rfl rfl rfl (by decide) (m7 l Z a0 n0 hw _ _ _ v fb 8 s N (by decide) hs2 hN hz hnz (fun q => by rw [own_wout vs s (own_c v N) N 8 q]; exact hg 8 (by decide)) (fun q1 q2 => by have := own_win vs s (own_c v N) N (by omega) (8 - s) (by omega); rw [show s + (8 - s) = 8 by omega] at this; exact this)) at_384 rfl rfl pd7 rfl (Sh.le rfl) (Sh.le rfl) (Sh.le rfl) (Sh.le rfl) rfl rfl ?_
  rintro _ _ ⟨rfl, rfl⟩
  refine Sh.ifF at_387 (by decide) ?_
  refine Sh.aload at_390 rfl rfl ?_
  refine Sh.bipush at_392 (x := 9) rfl ?_
  refine Sh.iload at_394 rfl ?_
  refine Sh.iload at_396 rfl ?_
  refine Sh.lload at_398 rfl ?_
  refine Sh.iload at_400 rfl ?_
  refine Sh.callS hw (i1 := 34) (i2 := 35) (i3 := 3) (i4 := 36) (k' := 3) (n' := 14) (B' := b7) (R' := R7) rfl rfl rfl rfl (by decide) (m7 l Z a0 n0 hw _ _ _ v fb 9 s N (by decide) hs2 hN hz hnz (fun q => by rw [own_wout vs s (own_c v N) N 9 q]; exact hg 9 (by decide)) (fun q1 q2 => by have := own_win vs s (own_c v N) N (by omega) (9 - s) (by omega); rw [show s + (9 - s) = 9 by omega] at this; exact this)) at_402 rfl rfl pd7 rfl (Sh.le rfl) (Sh.le rfl) (Sh.le rfl) (Sh.le rfl) rfl rfl ?_
  rintro _ _ ⟨rfl, rfl⟩
  refine Sh.ifF at_405 (by decide) ?_
  refine Sh.aload at_408 rfl rfl ?_
  refine Sh.bipush at_410 (x := 10) rfl ?_
  refine Sh.iload at_412 rfl ?_
  refine Sh.iload at_414 rfl ?_
  refine Sh.lload at_416 rfl ?_
  refine Sh.iload at_418 rfl ?_
  refine Sh.callS hw (i1 := 34) (i2 := 35) (i3 := 3) (i4 := 36) (k' := 3) (n' := 14) (B' := b7) (R' := R7) rfl rfl rfl rfl (by decide) (m7 l Z a0 n0 hw _ _ _ v fb 10 s N (by decide) hs2 hN hz hnz (fun q => by rw [own_wout vs s (own_c v N) N 10 q]; exact hg 10 (by decide)) (fun q1 q2 => by have := own_win vs s (own_c v N) N (by omega) (10 - s) (by omega); rw [show s + (10 - s) = 10 by omega] at this; exact this)) at_420 rfl rfl pd7 rfl (Sh.le rfl) (Sh.le rfl) (Sh.le rfl) (Sh.le rfl) rfl rfl ?_
  rintro _ _ ⟨rfl, rfl⟩
  refine Sh.ifF at_423 (by decide) ?_
  refine Sh.aload at_426 rfl rfl ?_
  refine Sh.bipush at_428 (x := 11) rfl ?_
  refine Sh.iload at_430 rfl ?_
  refine Sh.iload at_432 rfl ?_
  refine Sh.lload at_434 rfl ?_
  refine Sh.iload at_436 rfl ?_
  refine Sh.callS hw (i1 := 34) (i2 := 35) (i3 := 3) (i4 := 36) (k' := 3) (n' := 14) (B' := b7) (R' := R7) rfl rfl rfl rfl (by decide) (m7 l Z a0 n0 hw _ _ _ v fb 11 s N (by decide) hs2 hN hz hnz (fun q => by rw [own_wout vs s (own_c v N) N 11 q]; exact hg 11 (by decide)) (fun q1 q2 => by have := own_win vs s (own_c v N) N (by omega) (11 - s) (by omega); rw [show s + (11 - s) = 11 by omega] at this; exact this)) at_438 rfl rfl pd7 rfl (Sh.le rfl) (Sh.le rfl) (Sh.le rfl) (Sh.le rfl) rfl rfl ?_
  rintro _ _ ⟨rfl, rfl⟩
  refine Sh.ifF at_441 (by decide) ?_
  refine Sh.iconst at_444 (x := 1) rfl ?_
  refine Sh.goto at_445 (pc' := 449) rfl (by decide) ?_
  refine Sh.istore at_449 (Sh.s1_12 rfl rfl) ?_
  refine Sh.iload at_451 rfl ?_
  refine Sh.retN at_453 rfl (by simp) rfl (Sh.le rfl) (Sh.le rfl) ?_
  rfl
end
set_option maxRecDepth 65536 in
set_option maxHeartbeats 40000000 in
theorem comes_1 {Post : Tables → Env → Array Value → State → Outcome → State → Prop} (hpost : ∀ tb e args s v u, (limb_1_1.after args s (.returned v) u = true ∧ limb_1_2.after args s (.returned v) u = true ∧ True) → FrameEnd s (.returned v) u (Jvm.fieldLocs frame_1_writes args s ++ Jvm.arrayLocs frame_1_arrays args s ++ Jvm.staticLocs frame_1_statics s) 16 128 → Post tb e args s (.returned v) u) :
    ArmFor flags0 classFile x code maxLocals ret World_1 tables_1 room_1 Calls_1 rest_1 Pre_1 Post := by
  intro l hfl _ _ p e ha hc hk s m args below hf hA hF happ hP
  obtain ⟨hcalls, hrest, hpre⟩ := hP
  obtain ⟨-, -, -, -, -, -, -, hat⟩ := (Spec.applies_iff hf).mp happ
  obtain ⟨hg, hn⟩ := and_e (Cond.before_iff.mp (show (Jvm.Cond.and given_1 narrow_1).before args s = true from hpre))
  obtain ⟨h1, h2⟩ := and_e hg
  obtain ⟨w0, w1, w2, w3, rfl⟩ : ∃ w0 w1 w2 w3 : Value, args = #[w0, w1, w2, w3] := by
    have hs : args.size = 4 := by simpa [Cond.value, given_1] using h1
    obtain ⟨L⟩ := args
    match L, hs with
    | [w0, w1, w2, w3], _ => exact ⟨w0, w1, w2, w3, rfl⟩
  have hw := fun d (hd : d ∈ tables_1) => atoms_spec (ws := Jvm.Cond.code x code maxLocals ret :: tables_1) hat d (List.mem_cons_of_mem _ hd)
  obtain ⟨g0, q0⟩ := and_e h2
  obtain ⟨i0, e0⟩ := isL_v g0
  obtain rfl : w0 = (.long i0) := Option.some.inj e0
  obtain ⟨g1, q1⟩ := and_e q0
  obtain ⟨i1, e1⟩ := is_v g1
  obtain rfl : w1 = (.int i1) := Option.some.inj e1
  obtain ⟨g2, q2⟩ := and_e q1
  obtain ⟨i2, e2⟩ := is_v g2
  obtain rfl : w2 = (.int i2) := Option.some.inj e2
  obtain ⟨i3, e3⟩ := is_v q2
  obtain rfl : w3 = (.int i3) := Option.some.inj e3
  have hM := law_ok l s _ s.heap.size hw i0 i1 i2 i3 s.heap tables_1 ⟨by simp, fun i c h => by simp at h⟩ p e ha hc hk s m _ below hf ((Spec.applies_iff_loose hf).mp happ).1 ⟨by simp [Sh.lf], State.Warmed39.refl s, rfl⟩ trivial
  obtain ⟨n, o, h1, h2, h3, _, L, rfl, ⟨v, H, rfl, rfl, hR, N⟩, hq⟩ := hM
  refine ⟨n, _, h1, h2, h3, hpost _ _ _ _ _ _ ⟨Cond.after_iff.mpr rfl, Cond.after_iff.mpr (eq_i res_at (Term.int_eval (1)) rfl), trivial⟩ ⟨hq.1, hq.2.1, (hq.2.2.sift fun y hy => Or.inr (N y hy)).mono (by decide) (by decide)⟩⟩
theorem main_1_1 : Claimed_1_1 := comes_1 fun _ _ _ _ _ _ h hF => ⟨h.1, hF⟩
theorem main_1_2 : Claimed_1_2 := comes_1 fun _ _ _ _ _ _ h hF => ⟨h.2.1, hF⟩
end Jvm.Pilot.@@N@@
namespace Jvm.Pilot.@@N@@
open Jvm Jvm.ClassFile Sem Op Lib Jvm.Free Jvm.Stand Jvm.Pilot.@@N@@.Jvm.D
/-! MADE BY PROGRAM (witnessworld.py) out of the Statement's table words and the real class files: 9 classes; the members and pool entries that the words name. The judged class is class 1, her method 1. -/
namespace start1
open Jvm.ClassFile
def u (s : String) : CpInfo := .utf8 (stringToUtf16 s)
/-- a pool by its gaps: so many unusable entries, then the entry; so many at the end -/
def gap : Nat → List CpInfo → List CpInfo
  | 0, r => r
  | n + 1, r => .unusable :: gap n r
def poolList (es : List (Nat × CpInfo)) (last : Nat) : List CpInfo := es.foldr (fun e r => gap e.1 (e.2 :: r)) (gap last [])
def pool (es : List (Nat × CpInfo)) (last : Nat) : Array CpInfo := ⟨poolList es last⟩
def fileOf (pool : Array CpInfo) (this : Nat) (attrs : Array Attribute := #[]) (ms : Array MethodInfo := #[]) (fl : Nat := 33) (sup : Nat := 0) (ifs : Array Nat := #[]) (fds : Array FieldInfo := #[]) : ClassFile where
  minorVersion := 0
  majorVersion := 65
  constantPool := pool
  accessFlags := fl
  thisClass := this
  superClass := sup
  interfaces := ifs
  fields := fds
  methods := ms
  attributes := attrs
def plain (name : String) (sup : Option ClassId) : Class where
  name := name
  kind := .ordinary
  loader := none
  accessFlags := 33
  super := sup
  interfaces := #[]
  cf := none
  fields := #[]
  methods := #[]
  instanceTypes := #[]
  staticTypes := #[]
  resolved := #[]
  callSites := []
  init := .initialized
  statics := none
  mirror := none

def pool0 : Array CpInfo := pool [(5, u "<init>"), (0, u "()V"), (1, .class_ 10), (1, u "java/lang/Object")] 113

def k0c0 : Code := { maxStack := 0, maxLocals := 1, code := object_method_1_code, exceptionTable := #[], attributes := #[] }
def k0m0 : Method := { name := "<init>", desc := "()V", sig := { parameters := [], returnType := none }, accessFlags := 1, code := some k0c0 }
/-- java/lang/Object -/
def k0 : Class := { plain "java/lang/Object" none with
  accessFlags := 33
  interfaces := #[]
  cf := some (fileOf pool0 8 #[] #[{ accessFlags := 1, nameIndex := 5, descriptorIndex := 6, attributes := #[] }] 33 0 #[] #[])
  fields := #[]
  methods := #[k0m0]
  instanceTypes := #[]
  staticTypes := #[]
  resolved := Array.replicate 124 none
  statics := none }

def pool1 : Array CpInfo := pool [(2, .class_ 4), (0, .nameAndType 5 6), (0, u "java/lang/Object"), (0, u "<init>"), (0, u "()V"), (0, .methodref 8 9), (0, .class_ 10), (0, .nameAndType 11 12), (0, u "com/example/ringweave/ringweave/ByteCursorPutVarintPinLaw"), (0, u "nz"), (0, u "(J)I"), (0, .class_ 14), (0, u "com/example/ringweave/ringweave/ByteCursor"), (0, .methodref 13 3), (0, .methodref 13 17), (0, .nameAndType 18 19), (0, u "moveTo"), (0, u "([BI)Lcom/example/ringweave/ringweave/ByteCursor;"), (0, .methodref 13 21), (0, .nameAndType 22 23), (0, u "putVarint"), (0, u "(J)V"), (0, .methodref 13 25), (0, .nameAndType 26 27), (0, u "position"), (0, u "()I"), (0, .methodref 8 29), (0, .nameAndType 30 31), (0, u "at"), (0, u "([BIIIJB)Z"), (0, .methodref 8 33), (0, .nameAndType 34 35), (0, u "expected"), (0, u "(JI)B"), (0, .long 127), (3, u "law"), (0, u "(JIII)Z")] 5

def k1m0 : Method := { name := "<init>", desc := "()V", sig := { parameters := [], returnType := none }, accessFlags := 1, code := none }
def k1c1 : Code := { maxStack := 7, maxLocals := 13, code := code, exceptionTable := #[], attributes := #[] }
def k1m1 : Method := { name := "law", desc := "(JIII)Z", sig := { parameters := [.long, .int, .int, .int], returnType := some .boolean }, accessFlags := 9, code := some k1c1 }
def k1c2 : Code := { maxStack := 4, maxLocals := 2, code := method_3_code, exceptionTable := #[], attributes := #[] }
def k1m2 : Method := { name := "nz", desc := "(J)I", sig := { parameters := [.long], returnType := some .int }, accessFlags := 10, code := some k1c2 }
def k1c3 : Code := { maxStack := 4, maxLocals := 8, code := method_4_code, exceptionTable := #[], attributes := #[] }
def k1m3 : Method := { name := "at", desc := "([BIIIJB)Z", sig := { parameters := [(.array .byte), .int, .int, .int, .long, .byte], returnType := some .boolean }, accessFlags := 10, code := some k1c3 }
def k1c4 : Code := { maxStack := 5, maxLocals := 5, code := method_5_code, exceptionTable := #[], attributes := #[] }
def k1m4 : Method := { name := "expected", desc := "(JI)B", sig := { parameters := [.long, .int], returnType := some .byte }, accessFlags := 10, code := some k1c4 }
/-- com/example/ringweave/ringweave/ByteCursorPutVarintPinLaw -/
def k1 : Class := { plain "com/example/ringweave/ringweave/ByteCursorPutVarintPinLaw" (some 0) with
  accessFlags := 49
  interfaces := #[]
  cf := some (fileOf pool1 8 #[] #[{ accessFlags := 1, nameIndex := 5, descriptorIndex := 6, attributes := #[] }, { accessFlags := 9, nameIndex := 40, descriptorIndex := 41, attributes := #[] }, { accessFlags := 10, nameIndex := 11, descriptorIndex := 12, attributes := #[] }, { accessFlags := 10, nameIndex := 30, descriptorIndex := 31, attributes := #[] }, { accessFlags := 10, nameIndex := 34, descriptorIndex := 35, attributes := #[] }] 49 2 #[] #[])
  fields := #[]
  methods := #[k1m0, k1m1, k1m2, k1m3, k1m4]
  instanceTypes := #[]
  staticTypes := #[]
  resolved := Array.replicate 47 none
  statics := none }

def pool2 : Array CpInfo := pool [(1, .methodref 2 3), (0, .class_ 4), (0, .nameAndType 5 6), (0, u "java/lang/Object"), (0, u "<init>"), (0, u "()V"), (0, .fieldref 8 9), (0, .class_ 10), (0, .nameAndType 11 12), (0, u "com/example/ringweave/ringweave/ByteCursor"), (0, u "bytes"), (0, u "[B"), (0, .fieldref 8 14), (0, .nameAndType 15 16), (0, u "at"), (0, u "I"), (0, .long 18446744073709551488), (1, .long 127), (1, .long 128), (3, u "LITTLE_ENDIAN_INT"), (0, u "Ljava/lang/invoke/VarHandle;"), (12, u "LITTLE_ENDIAN_LONG"), (41, u "LOW_SEVEN_BITS"), (2, u "MORE"), (3, u "moveTo"), (0, u "([BI)Lcom/example/ringweave/ringweave/ByteCursor;"), (0, u "position"), (0, u "()I"), (3, u "putVarint"), (0, u "(J)V")] 11

def k2c0 : Code := { maxStack := 2, maxLocals := 1, code := prog_6_method_1_code, exceptionTable := #[], attributes := #[] }
def k2m0 : Method := { name := "<init>", desc := "()V", sig := { parameters := [], returnType := none }, accessFlags := 0, code := some k2c0 }
def k2c1 : Code := { maxStack := 2, maxLocals := 3, code := prog_6_method_2_code, exceptionTable := #[], attributes := #[] }
def k2m1 : Method := { name := "moveTo", desc := "([BI)Lcom/example/ringweave/ringweave/ByteCursor;", sig := { parameters := [(.array .byte), .int], returnType := some (.object "com/example/ringweave/ringweave/ByteCursor") }, accessFlags := 0, code := some k2c1 }
def k2c2 : Code := { maxStack := 1, maxLocals := 1, code := prog_6_method_3_code, exceptionTable := #[], attributes := #[] }
def k2m2 : Method := { name := "position", desc := "()I", sig := { parameters := [], returnType := some .int }, accessFlags := 0, code := some k2c2 }
def k2c3 : Code := { maxStack := 6, maxLocals := 5, code := prog_6_method_5_code, exceptionTable := #[], attributes := #[] }
def k2m3 : Method := { name := "putVarint", desc := "(J)V", sig := { parameters := [.long], returnType := none }, accessFlags := 0, code := some k2c3 }
/-- com/example/ringweave/ringweave/ByteCursor -/
def k2 : Class := { plain "com/example/ringweave/ringweave/ByteCursor" (some 0) with
  accessFlags := 48
  interfaces := #[]
  cf := some (fileOf pool2 8 #[] #[{ accessFlags := 0, nameIndex := 5, descriptorIndex := 6, attributes := #[] }, { accessFlags := 0, nameIndex := 88, descriptorIndex := 89, attributes := #[] }, { accessFlags := 0, nameIndex := 90, descriptorIndex := 91, attributes := #[] }, { accessFlags := 0, nameIndex := 95, descriptorIndex := 96, attributes := #[] }] 48 2 #[] #[{ accessFlags := 26, nameIndex := 25, descriptorIndex := 26, attributes := #[] }, { accessFlags := 26, nameIndex := 39, descriptorIndex := 26, attributes := #[] }, { accessFlags := 26, nameIndex := 81, descriptorIndex := 16, attributes := #[] }, { accessFlags := 26, nameIndex := 84, descriptorIndex := 16, attributes := #[] }, { accessFlags := 2, nameIndex := 11, descriptorIndex := 12, attributes := #[] }, { accessFlags := 2, nameIndex := 15, descriptorIndex := 16, attributes := #[] }])
  fields := #[{ name := "LITTLE_ENDIAN_INT", type := (.object "java/lang/invoke/VarHandle"), accessFlags := 26, slot := 0, constantValue := 0 }, { name := "LITTLE_ENDIAN_LONG", type := (.object "java/lang/invoke/VarHandle"), accessFlags := 26, slot := 1, constantValue := 0 }, { name := "LOW_SEVEN_BITS", type := .int, accessFlags := 26, slot := 2, constantValue := 0 }, { name := "MORE", type := .int, accessFlags := 26, slot := 3, constantValue := 0 }, { name := "bytes", type := (.array .byte), accessFlags := 2, slot := 0, constantValue := 0 }, { name := "at", type := .int, accessFlags := 2, slot := 1, constantValue := 0 }]
  methods := #[k2m0, k2m1, k2m2, k2m3]
  instanceTypes := #[(.array .byte), .int]
  staticTypes := #[(.object "java/lang/invoke/VarHandle"), (.object "java/lang/invoke/VarHandle"), .int, .int]
  resolved := Array.replicate 108 none
  statics := none }

def pool3 : Array CpInfo := pool [(1, u "java/lang/Cloneable"), (0, .class_ 1), (0, u "java/lang/Object"), (0, .class_ 3)] 3

/-- java/lang/Cloneable -/
def k3 : Class := { plain "java/lang/Cloneable" (some 0) with
  accessFlags := 1537
  interfaces := #[]
  cf := some (fileOf pool3 2 #[] #[] 1537 4 #[] #[])
  fields := #[]
  methods := #[]
  instanceTypes := #[]
  staticTypes := #[]
  resolved := Array.replicate 8 none
  statics := none }

def pool4 : Array CpInfo := pool [(1, u "java/io/Serializable"), (0, .class_ 1), (0, u "java/lang/Object"), (0, .class_ 3)] 3

/-- java/io/Serializable -/
def k4 : Class := { plain "java/io/Serializable" (some 0) with
  accessFlags := 1537
  interfaces := #[]
  cf := some (fileOf pool4 2 #[] #[] 1537 4 #[] #[])
  fields := #[]
  methods := #[]
  instanceTypes := #[]
  staticTypes := #[]
  resolved := Array.replicate 8 none
  statics := none }

/-- the primitive byte -/
def k5 : Class := { plain "byte" none with kind := .primitive 'B', accessFlags := 0x411 }
/-- [B -/
def k6 : Class := { plain "[B" (some 0) with kind := .array 5 .byte, interfaces := #[3, 4], accessFlags := 1041 }

/-- the primitive int -/
def k7 : Class := { plain "int" none with kind := .primitive 'I', accessFlags := 0x411 }
/-- [I -/
def k8 : Class := { plain "[I" (some 0) with kind := .array 7 .int, interfaces := #[3, 4], accessFlags := 1041 }

def heap : Heap := #[]
def classes : Array Class := #[k0, k1, k2, k3, k4, k5, k6, k7, k8]
def interned : List (Array UInt16 × Addr) := []
def slotsUsed : Nat := 0
def theMethod : MethodId := ⟨1, 1⟩
def args0 : Array Value := #[.long 5, .int 5, .int 5, .int 5]
def aboutOver (below : List Frame) : State where
  vm := { classes := classes, interned := interned.toArray }
  heap := heap
  slotsUsed := slotsUsed
  threads := #[{ frames := .invoking theMethod args0 :: below }]
def below0 : List Frame := [.native { method := ⟨0, 0⟩, args := #[] }]
def about1 : State := aboutOver below0
def p0 : Program := .bare "" "" ""
def e0 : Env := launch0.env 0 0 0
theorem w_frames : about1.frames = Frame.invoking theMethod args0 :: below0 := rfl
set_option maxRecDepth 65536 in
theorem w_args : argsFit about1.vm theMethod args0 = true := by decide +kernel
set_option maxRecDepth 65536 in
theorem w_heap : heapFits about1 = true := by decide +kernel
set_option maxRecDepth 65536 in
theorem w_runnable : about1.curStatus? = some .runnable := by decide +kernel
set_option maxRecDepth 65536 in
theorem w_alone : about1.alone = true := by decide +kernel
set_option maxRecDepth 65536 in
theorem w_named : about1.methodNamed? x = some theMethod := by decide +kernel
set_option maxRecDepth 65536 in
theorem w_hears : about1.hears theMethod below0 = true := by decide +kernel
set_option maxRecDepth 65536 in
theorem w_ripe : about1.ripe theMethod args0 below0 = true := by decide +kernel
theorem w_running : about1.status = .running := rfl
set_option maxRecDepth 65536 in
theorem w_room : about1.hasRoom e0.platform room_1 = true :=
  launch0.hasRoom_least _ room_1 (by decide +kernel) (by decide +kernel) (by decide +kernel) (by decide +kernel) (by decide +kernel) (by decide +kernel)
theorem allAtoms_all (ts : List Jvm.Cond) (a : Array Jvm.Value) (st : Jvm.State) : (allAtoms ts).before a st = ts.all (fun c => c.before a st) := by
  induction ts with
  | nil => rfl
  | cons c t ih =>
    show (Jvm.Cond.and c (allAtoms t)).before a st = _
    rw [Jvm.Cond.before_and, ih, List.all_cons]
def words1 : List Jvm.Cond := Jvm.Cond.code x code maxLocals ret :: tables_1
/-- a 'code' word, met by the world's own term for the bytes: nothing is compared byte by byte -/
theorem code_word {y : MethodName} {bytes : ByteArray} {mx : Nat} {rt : Option FieldType} {a : Array Value} {s : State} {m : MethodId} {meth : Method} {c : Code} (h1 : s.methodNamed? y = some m) (h2 : s.vm.method? m = some meth) (h3 : meth.code = some c) (h4 : c.code = bytes)
    (h5 : (c.maxLocals == mx && c.exceptionTable.isEmpty && decide (c.maxStack ≤ mostOperands) && decide (meth.sig.returnType = rt) && !meth.locks && decide (parseMethodDescriptor y.desc = some meth.sig)) = true) : (Jvm.Cond.code y bytes mx rt).before a s = true := by
  simp only [Bool.and_eq_true, beq_iff_eq, Bool.not_eq_true', decide_eq_true_eq] at h5
  obtain ⟨⟨⟨⟨⟨g1, g2⟩, g3⟩, g4⟩, g5⟩, g6⟩ := h5
  simp [Cond.before, Cond.holds, Cond.value, h1, h2, h3, h4, g1, g2, g3, g4, g5, g6]
def isCode : Jvm.Cond → Bool
  | .code _ _ _ _ => true
  | _ => false
theorem all_split {L : List Jvm.Cond} {P : Jvm.Cond → Bool} (h1 : L.all (fun c => isCode c || P c) = true) (h2 : ∀ c ∈ L.filter isCode, P c = true) : L.all P = true := by
  refine List.all_eq_true.mpr fun c hc => ?_
  have h := List.all_eq_true.mp h1 c hc
  rcases Bool.eq_false_or_eq_true (isCode c) with hi | hi
  · exact h2 c (List.mem_filter.mpr ⟨hc, hi⟩)
  · simpa [hi] using h
set_option maxRecDepth 65536 in
theorem w_c0 : (Jvm.Cond.code x code maxLocals ret).before args0 about1 = true := code_word (m := ⟨1, 1⟩) (meth := k1m1) (c := k1c1) (by decide +kernel) rfl rfl rfl (by decide +kernel)
set_option maxRecDepth 65536 in
theorem w_c1 : (Jvm.Cond.code ({ cls := "com/example/ringweave/ringweave/ByteCursorPutVarintPinLaw", name := "nz", desc := "(J)I" } : Jvm.MethodName) method_3_code (2 : Nat) (Option.some Jvm.ClassFile.FieldType.int)).before args0 about1 = true := code_word (m := ⟨1, 2⟩) (meth := k1m2) (c := k1c2) (by decide +kernel) rfl rfl rfl (by decide +kernel)
set_option maxRecDepth 65536 in
theorem w_c2 : (Jvm.Cond.code ({ cls := "com/example/ringweave/ringweave/ByteCursor", name := "<init>", desc := "()V" } : Jvm.MethodName) prog_6_method_1_code (1 : Nat) (Option.none : Option Jvm.ClassFile.FieldType)).before args0 about1 = true := code_word (m := ⟨2, 0⟩) (meth := k2m0) (c := k2c0) (by decide +kernel) rfl rfl rfl (by decide +kernel)
set_option maxRecDepth 65536 in
theorem w_c3 : (Jvm.Cond.code ({ cls := "java/lang/Object", name := "<init>", desc := "()V" } : Jvm.MethodName) object_method_1_code (1 : Nat) (Option.none : Option Jvm.ClassFile.FieldType)).before args0 about1 = true := code_word (m := ⟨0, 0⟩) (meth := k0m0) (c := k0c0) (by decide +kernel) rfl rfl rfl (by decide +kernel)
set_option maxRecDepth 65536 in
theorem w_c4 : (Jvm.Cond.code ({ cls := "com/example/ringweave/ringweave/ByteCursor", name := "moveTo", desc := "([BI)Lcom/example/ringweave/ringweave/ByteCursor;" } : Jvm.MethodName) prog_6_method_2_code (3 : Nat) (Option.some (Jvm.ClassFile.FieldType.object "com/example/ringweave/ringweave/ByteCursor"))).before args0 about1 = true := code_word (m := ⟨2, 1⟩) (meth := k2m1) (c := k2c1) (by decide +kernel) rfl rfl rfl (by decide +kernel)
set_option maxRecDepth 65536 in
theorem w_c5 : (Jvm.Cond.code ({ cls := "com/example/ringweave/ringweave/ByteCursor", name := "putVarint", desc := "(J)V" } : Jvm.MethodName) prog_6_method_5_code (5 : Nat) (Option.none : Option Jvm.ClassFile.FieldType)).before args0 about1 = true := code_word (m := ⟨2, 3⟩) (meth := k2m3) (c := k2c3) (by decide +kernel) rfl rfl rfl (by decide +kernel)
set_option maxRecDepth 65536 in
theorem w_c6 : (Jvm.Cond.code ({ cls := "com/example/ringweave/ringweave/ByteCursor", name := "position", desc := "()I" } : Jvm.MethodName) prog_6_method_3_code (1 : Nat) (Option.some Jvm.ClassFile.FieldType.int)).before args0 about1 = true := code_word (m := ⟨2, 2⟩) (meth := k2m2) (c := k2c2) (by decide +kernel) rfl rfl rfl (by decide +kernel)
set_option maxRecDepth 65536 in
theorem w_c7 : (Jvm.Cond.code ({ cls := "com/example/ringweave/ringweave/ByteCursorPutVarintPinLaw", name := "at", desc := "([BIIIJB)Z" } : Jvm.MethodName) method_4_code (8 : Nat) (Option.some Jvm.ClassFile.FieldType.boolean)).before args0 about1 = true := code_word (m := ⟨1, 3⟩) (meth := k1m3) (c := k1c3) (by decide +kernel) rfl rfl rfl (by decide +kernel)
set_option maxRecDepth 65536 in
theorem w_c8 : (Jvm.Cond.code ({ cls := "com/example/ringweave/ringweave/ByteCursorPutVarintPinLaw", name := "expected", desc := "(JI)B" } : Jvm.MethodName) method_5_code (5 : Nat) (Option.some Jvm.ClassFile.FieldType.byte)).before args0 about1 = true := code_word (m := ⟨1, 4⟩) (meth := k1m4) (c := k1c4) (by decide +kernel) rfl rfl rfl (by decide +kernel)
def codes1 : List Jvm.Cond := [Jvm.Cond.code x code maxLocals ret, Jvm.Cond.code ({ cls := "com/example/ringweave/ringweave/ByteCursorPutVarintPinLaw", name := "nz", desc := "(J)I" } : Jvm.MethodName) method_3_code (2 : Nat) (Option.some Jvm.ClassFile.FieldType.int), Jvm.Cond.code ({ cls := "com/example/ringweave/ringweave/ByteCursor", name := "<init>", desc := "()V" } : Jvm.MethodName) prog_6_method_1_code (1 : Nat) (Option.none : Option Jvm.ClassFile.FieldType), Jvm.Cond.code ({ cls := "java/lang/Object", name := "<init>", desc := "()V" } : Jvm.MethodName) object_method_1_code (1 : Nat) (Option.none : Option Jvm.ClassFile.FieldType), Jvm.Cond.code ({ cls := "com/example/ringweave/ringweave/ByteCursor", name := "moveTo", desc := "([BI)Lcom/example/ringweave/ringweave/ByteCursor;" } : Jvm.MethodName) prog_6_method_2_code (3 : Nat) (Option.some (Jvm.ClassFile.FieldType.object "com/example/ringweave/ringweave/ByteCursor")), Jvm.Cond.code ({ cls := "com/example/ringweave/ringweave/ByteCursor", name := "putVarint", desc := "(J)V" } : Jvm.MethodName) prog_6_method_5_code (5 : Nat) (Option.none : Option Jvm.ClassFile.FieldType), Jvm.Cond.code ({ cls := "com/example/ringweave/ringweave/ByteCursor", name := "position", desc := "()I" } : Jvm.MethodName) prog_6_method_3_code (1 : Nat) (Option.some Jvm.ClassFile.FieldType.int), Jvm.Cond.code ({ cls := "com/example/ringweave/ringweave/ByteCursorPutVarintPinLaw", name := "at", desc := "([BIIIJB)Z" } : Jvm.MethodName) method_4_code (8 : Nat) (Option.some Jvm.ClassFile.FieldType.boolean), Jvm.Cond.code ({ cls := "com/example/ringweave/ringweave/ByteCursorPutVarintPinLaw", name := "expected", desc := "(JI)B" } : Jvm.MethodName) method_5_code (5 : Nat) (Option.some Jvm.ClassFile.FieldType.byte)]
set_option maxRecDepth 65536 in
theorem codes_eq : words1.filter isCode = codes1 := rfl
theorem w_codes : ∀ c ∈ words1.filter isCode, c.before args0 about1 = true := by
  rw [codes_eq]
  intro c hc
  simp only [codes1, List.mem_cons, List.not_mem_nil, or_false] at hc
  rcases hc with rfl | rfl | rfl | rfl | rfl | rfl | rfl | rfl | rfl
  · exact w_c0
  · exact w_c1
  · exact w_c2
  · exact w_c3
  · exact w_c4
  · exact w_c5
  · exact w_c6
  · exact w_c7
  · exact w_c8
set_option maxRecDepth 65536 in
theorem w_t1 : (words1.take 24).all (fun c => isCode c || c.before args0 about1) = true := by decide +kernel
set_option maxRecDepth 65536 in
theorem w_t2 : (words1.drop 24).all (fun c => isCode c || c.before args0 about1) = true := by decide +kernel
theorem w_tables : (allAtoms (Jvm.Cond.code x code maxLocals ret :: tables_1)).before args0 about1 = true := by
  rw [allAtoms_all]
  show words1.all (fun c => c.before args0 about1) = true
  refine all_split ?_ w_codes
  rw [← List.take_append_drop 24 words1, List.all_append, w_t1, w_t2]
  rfl
set_option maxRecDepth 65536 in
theorem w_case : (Jvm.Cond.and given_1 narrow_1).before args0 about1 = true := by decide +kernel
theorem w_applies : (headSpec (Jvm.Cond.code x code maxLocals ret :: tables_1) room_1).applies x e0.platform about1 = true :=
  (Spec.applies_iff w_frames).mpr ⟨w_running, w_runnable, w_alone, w_named, w_hears, w_ripe, w_room, w_tables⟩
theorem atStart : AtStart classFile x code maxLocals ret World_1 tables_1 room_1 Calls_1 rest_1 Pre_1 launch0 p0 e0 about1 theMethod args0 below0 :=
  ⟨lists_1, trivial, launch0.admits_env _ _ _, launch0.least_env, fairChoices_fair.cas, fairChoices_fair.clock, w_frames, w_args, w_heap, w_applies, trivial, trivial, w_case⟩
end start1
theorem witness_1 : WitnessClaimed_1 := ⟨start1.p0, start1.e0, start1.about1, start1.theMethod, start1.args0, start1.below0, start1.atStart⟩
end Jvm.Pilot.@@N@@
