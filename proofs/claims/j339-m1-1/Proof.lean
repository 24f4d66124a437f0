import JvmDerived
import JvmDerived.Pilot.@@N@@Statement
import JvmDerived.Pilot.@@N@@Code
set_option linter.unusedVariables false
set_option linter.unusedSimpArgs false
namespace Jvm.Sh
open Jvm Jvm.ClassFile Sem Op Lib Jvm.Free Jvm.Stand Jvm.LawKit Jvm.RoadKit Bundle
/-! A shadow of what a law makes. A shadow heap H is the list of the cells made since the start: an object (its class, its fields' names, kinds and values) or an array (its component's kind, its values). A shadow reference i stands for the address n0 + i. -/
abbrev SC := (String × List (String × String × Value)) ⊕ (FieldType × List Value)
abbrev SH := List SC
def lf (n0 : Nat) : Value → Value
  | .ref i => .ref (n0 + i)
  | v => v
def lz (n0 : Nat) : Slot → Slot
  | .val v => .val (lf n0 v)
  | x => x
abbrev LL (n0 : Nat) (L : List Slot) : Array Slot := (L.map (lz n0)).toArray
theorem lf_cat (n0 : Nat) (v : Value) : (lf n0 v).category = v.category := by cases v <;> rfl
theorem lf_isRef (n0 : Nat) (v : Value) : (lf n0 v).isRef = v.isRef := by cases v <;> rfl
theorem LL_get {n0 k : Nat} {L : List Slot} {v : Value} (h : L[k]? = some (.val v)) : (LL n0 L)[k]? = some (.val (lf n0 v)) := by simp [h, lz]
/-- an object's or an array's cell, as the shadow says -/
def CellOk (Z : State) (a0 : Array Value) (n0 : Nat) (h : Heap) (a : Addr) : SC → Prop
  | .inl (C, fs) => Exa Z h a C ∧ (∃ k, (Cond.instantiable C k).before a0 Z = true) ∧ (fs.map (·.1)).Nodup ∧
      ∀ f ∈ fs, Laid Z a0 C C f.1 f.2.1 ∧ (∃ ty, parseFieldDescriptor f.2.1 = some ty) ∧ Fld Z h a C f.1 f.2.1 (lf n0 f.2.2)
  | .inr (ty, vs) => ∃ c : Cell, Arr Z h a c ty ∧ c.slots = (vs.map (lf n0)).toArray ∧ vs.length < 2 ^ 31
def Rep (Z : State) (a0 : Array Value) (n0 : Nat) (h : Heap) (H : SH) : Prop :=
  h.size = n0 + H.length ∧ ∀ i c, H[i]? = some c → CellOk Z a0 n0 h (n0 + i) c
theorem CellOk.ext {Z : State} {a0 : Array Value} {n0 : Nat} {h h' : Heap} {a : Addr} {c : SC} (E : Ext h h') (K : CellOk Z a0 n0 h a c) : CellOk Z a0 n0 h' a c := by
  rcases c with ⟨C, fs⟩ | ⟨ty, vs⟩
  · exact ⟨K.1.ext E, K.2.1, K.2.2.1, fun f hf => ⟨(K.2.2.2 f hf).1, (K.2.2.2 f hf).2.1, (K.2.2.2 f hf).2.2.ext E⟩⟩
  · obtain ⟨c, A, r⟩ := K
    exact ⟨c, A.ext E, r⟩
theorem CellOk.other {Z : State} {a0 : Array Value} {n0 : Nat} {h h' : Heap} {a b : Addr} {sl : Nat} {v : Value} {c : SC} (W : Wr h h' a sl v) (K : CellOk Z a0 n0 h b c) (hne : b ≠ a) : CellOk Z a0 n0 h' b c := by
  rcases c with ⟨C, fs⟩ | ⟨ty, vs⟩
  · exact ⟨K.1.wr W, K.2.1, K.2.2.1, fun f hf => ⟨(K.2.2.2 f hf).1, (K.2.2.2 f hf).2.1, (K.2.2.2 f hf).2.2.other W (Or.inl hne)⟩⟩
  · obtain ⟨c, A, r⟩ := K
    exact ⟨c, A.other W hne, r⟩
theorem Rep.set {Z : State} {a0 : Array Value} {n0 i : Nat} {h h' : Heap} {H : SH} {sl : Nat} {v : Value} {c : SC} (K : Rep Z a0 n0 h H) (W : Wr h h' (n0 + i) sl v) (hi : i < H.length) (hc : CellOk Z a0 n0 h' (n0 + i) c) : Rep Z a0 n0 h' (H.set i c) := by
  refine ⟨by rw [W.size, List.length_set]; exact K.1, fun j d hd => ?_⟩
  by_cases e : j = i
  · subst e
    rw [List.getElem?_set_self hi] at hd
    cases hd
    exact hc
  · rw [List.getElem?_set_ne (Ne.symm e)] at hd
    exact (K.2 j d hd).other W (fun q => e (Nat.add_left_cancel q))
theorem Rep.push {Z : State} {a0 : Array Value} {n0 : Nat} {h h' : Heap} {H : SH} {c : SC} (K : Rep Z a0 n0 h H) (E : Ext h h') (hs : h'.size = h.size + 1) (hc : CellOk Z a0 n0 h' h.size c) : Rep Z a0 n0 h' (H ++ [c]) := by
  refine ⟨by rw [hs, K.1, List.length_append]; simp; omega, fun j d hd => ?_⟩
  rcases Nat.lt_trichotomy j H.length with q | q | q
  · rw [List.getElem?_append_left q] at hd
    exact (K.2 j d hd).ext E
  · subst q
    simp at hd
    subst hd
    rw [← K.1]; exact hc
  · rw [List.getElem?_eq_none (by simp; omega)] at hd
    cases hd
abbrev Bdy := MethodName × ByteArray × Nat × Option FieldType
/-- From this place (pc, locals, stack, shadow heap; k cells and n slots made by this call so far) the method comes to its end and returns v over H' such that Q v H'. -/
def WP (l : Launch) (Z : State) (a0 : Array Value) (n0 : Nat) (B : Bdy) (R : Room) (k n pc : Nat) (L : List Slot) (S : List Value) (H : SH) (Q : Option Value → SH → Prop) : Prop :=
  ∀ (p : Program) (e : Env) (s : State) (m : MethodId) (args : Array Value) (below : List Frame) (meth : Method) (c : Code) (T : State) (locs : List Loc),
    Stand p l e R s m args below meth c T locs k n → p.tables.exec = Jvm.exec → c.code = B.2.1 → c.maxLocals = B.2.2.1 → meth.sig.returnType = B.2.2.2 → meth.locks = false → Z.Warmed39 s.vm →
    s.vm.findClass B.1.cls = some m.cls → meth.name = B.1.name → Fr n0 locs → Rep Z a0 n0 T.heap H →
    ∃ t o, Steps p.tables e below (T.setTop (mkF m pc (LL n0 L) (S.map (lf n0)))) t ∧ t.status = .running ∧ Ended t below o ∧
      ∃ v L', o = .returned (v.map (lf n0)) ∧ (∃ H', Q v H' ∧ Rep Z a0 n0 t.heap H') ∧ Fr n0 L' ∧ FrameEnd s o t L' R.cells R.slots
/-- The method, called with these (shadow) values over this shadow heap, returns v over H' such that Q v H'. -/
def Meth (l : Launch) (Z : State) (a0 : Array Value) (n0 : Nat) (B : Bdy) (R : Room) (as : List Value) (H : SH) (Q : Option Value → SH → Prop) : Prop :=
  ∀ (h0 : Heap) (ws : List Jvm.Cond), Rep Z a0 n0 h0 H →
    MetFree l B.1 (head1 (Jvm.Cond.code B.1 B.2.1 B.2.2.1 B.2.2.2 :: ws) R) (fun a U => a = (as.map (lf n0)).toArray ∧ Z.Warmed39 U.vm ∧ U.heap = h0) (fun _ _ _ _ _ => True)
      (fun _ U o U' => ∃ v L, o = .returned v ∧ (∃ v' H', v = v'.map (lf n0) ∧ Q v' H' ∧ Rep Z a0 n0 U'.heap H' ∧ Fr n0 L) ∧ FrameEnd U o U' L R.cells R.slots)
def entryL (as : List Value) (ml : Nat) : List Slot :=
  as.foldr (fun v r => if v.category = 2 then .val v :: .second :: r else .val v :: r) [] ++ List.replicate (ml - (as.foldr (fun v r => v.category + r) 0)) .unset
section
variable {l : Launch} {Z : State} {a0 : Array Value} {n0 : Nat} {B : Bdy} {R : Room} {k n pc : Nat} {L : List Slot} {S : List Value} {H : SH} {Q : Option Value → SH → Prop}
theorem cat_pos (v : Value) : v.category = 1 ∨ v.category = 2 := by cases v <;> simp [Value.category]
theorem entry_acc (n0 : Nat) (as : List Value) (acc : Array Slot) : (as.map (lf n0)).foldl (fun acc v => if v.category = 2 then (acc.push (Slot.val v)).push Slot.second else acc.push (.val v)) acc =
    acc ++ ((as.foldr (fun v r => if v.category = 2 then Slot.val v :: Slot.second :: r else .val v :: r) []).map (lz n0)).toArray := by
  induction as generalizing acc with
  | nil => simp
  | cons v as ih =>
    simp only [List.map_cons, List.foldl_cons, List.foldr_cons, lf_cat]
    rw [ih]
    by_cases q : v.category = 2
    · simp [q, lz]
    · simp [q, lz]
theorem entry_len (as : List Value) : (as.foldr (fun v r => if v.category = 2 then Slot.val v :: Slot.second :: r else .val v :: r) []).length = as.foldr (fun v r => v.category + r) 0 := by
  induction as with
  | nil => rfl
  | cons v as ih =>
    rcases cat_pos v with q | q <;> simp [q] at ih ⊢ <;> omega
theorem entry_eq (n0 : Nat) (m : MethodId) (as : List Value) (ml : Nat) : entryFrame m (as.map (lf n0)).toArray ml = mkF m 0 (LL n0 (entryL as ml)) [] := by
  have e : argsToLocals (as.map (lf n0)).toArray ml = LL n0 (entryL as ml) := by
    simp only [argsToLocals, LL, entryL, List.foldl_toArray']
    rw [entry_acc]
    apply Array.toList_inj.mp
    simp [entry_len, lz]
  simp [entryFrame, e, mkF]
theorem Meth.of {as : List Value} (hp : plainFor B.1 = true) (hL : entryL as B.2.2.1 = L) (hW : WP l Z a0 n0 B R 0 0 0 L [] H Q) : Meth l Z a0 n0 B R as H Q := by
  intro h0 ws hR
  refine MetFree.of_bodySF hp hisR ?_
  intro p e s m args below meth c s₁ Bd hml0 hP hK
  obtain ⟨rfl, hZ, hh⟩ := hP
  have e0 : s₁.heap = h0 := by rw [← hh, Bd.state]; rfl
  subst hL
  obtain ⟨t, o, h1, h2, h3, v, L', h4, ⟨H', h5, h6⟩, h7, h8⟩ := hW p e s m _ below meth c s₁ [] (Stand.of_body Bd) Bd.exec Bd.bytes hml0 Bd.returns Bd.notSynchronized hZ (findClass_of_methodNamed Bd.named) (name_of_methodNamed Bd.named Bd.method).1 (Fr.nil n0) (by rw [e0]; exact hR)
  exact ⟨t, o, castTop (entry_eq n0 m as _) h1, h2, h3, _, L', h4, ⟨v, H', rfl, h5, h6, h7⟩, h8⟩
theorem WP.mono {Q' : Option Value → SH → Prop} (hW : WP l Z a0 n0 B R k n pc L S H Q) (hq : ∀ v H', Q v H' → Q' v H') : WP l Z a0 n0 B R k n pc L S H Q' := by
  intro p e s m args below meth c T locs X hx hc hml hret hlk hZ hown hnm hF hR
  obtain ⟨t, o, h1, h2, h3, v, L', h4, ⟨H', h5, h6⟩, h7⟩ := hW p e s m args below meth c T locs X hx hc hml hret hlk hZ hown hnm hF hR
  exact ⟨t, o, h1, h2, h3, v, L', h4, ⟨H', hq _ _ h5, h6⟩, h7⟩
theorem Meth.mono {as : List Value} {Q' : Option Value → SH → Prop} (hM : Meth l Z a0 n0 B R as H Q) (hq : ∀ v H', Q v H' → Q' v H') : Meth l Z a0 n0 B R as H Q' := by
  intro h0 ws hR p e ha hc hk s m args below hf happ hP hK
  obtain ⟨n, o, h1, h2, h3, v, L, h4, ⟨v', H', h5, h6, h7⟩, h8⟩ := hM h0 ws hR p e ha hc hk s m args below hf happ hP hK
  exact ⟨n, o, h1, h2, h3, v, L, h4, ⟨v', H', h5, hq _ _ h6, h7⟩, h8⟩
/-- a step that moves nothing but the frame -/
theorem pure {pc' : Nat} {L' : List Slot} {S' : List Value} (hr : WP l Z a0 n0 B R k n pc' L' S' H Q)
    (f : ∀ {p : Program} {e : Env} {below : List Frame} {T target : State} {m : MethodId} {c : Code}, At T m c below → p.tables.exec = Jvm.exec → c.code = B.2.1 →
      Steps p.tables e below (T.setTop (mkF m pc' (LL n0 L') (S'.map (lf n0)))) target → Steps p.tables e below (T.setTop (mkF m pc (LL n0 L) (S.map (lf n0)))) target) : WP l Z a0 n0 B R k n pc L S H Q := by
  intro p e s m args below meth c T locs X hx hc hml hret hlk hZ hown hnm hF hR
  obtain ⟨t, o, h1, h2⟩ := hr p e s m args below meth c T locs X hx hc hml hret hlk hZ hown hnm hF hR
  exact ⟨t, o, f X.here hx hc h1, h2⟩
/-! ### loads, constants -/
theorem aload_n {j : Fin 4} {v : Value} (d : decode B.2.1 pc = .ok (.aload_n j, 1)) (hl : L[j.val]? = some (.val v)) (hv : v.isRef = true) (hr : WP l Z a0 n0 B R k n (pc + 1) L (v :: S) H Q) : WP l Z a0 n0 B R k n pc L S H Q :=
  pure hr fun h hx hc st => XS.aloadN h hx rfl (hb hc d) (LL_get hl) (by rw [lf_isRef]; exact hv) st
theorem aload {j : Nat} {v : Value} (d : decode B.2.1 pc = .ok (.aload j, 2)) (hl : L[j]? = some (.val v)) (hv : v.isRef = true) (hr : WP l Z a0 n0 B R k n (pc + 2) L (v :: S) H Q) : WP l Z a0 n0 B R k n pc L S H Q :=
  pure hr fun h hx hc st => XS.aload h hx rfl (hb hc d) (LL_get hl) (by rw [lf_isRef]; exact hv) st
theorem iload_n {j : Fin 4} {x : Int32} (d : decode B.2.1 pc = .ok (.iload_n j, 1)) (hl : L[j.val]? = some (.val (.int x))) (hr : WP l Z a0 n0 B R k n (pc + 1) L (.int x :: S) H Q) : WP l Z a0 n0 B R k n pc L S H Q :=
  pure hr fun h hx hc st => XS.iloadN h hx rfl (hb hc d) (LL_get (n0 := n0) hl) st
theorem iload {j : Nat} {x : Int32} (d : decode B.2.1 pc = .ok (.iload j, 2)) (hl : L[j]? = some (.val (.int x))) (hr : WP l Z a0 n0 B R k n (pc + 2) L (.int x :: S) H Q) : WP l Z a0 n0 B R k n pc L S H Q :=
  pure hr fun h hx hc st => XS.iload h hx rfl (hb hc d) (LL_get (n0 := n0) hl) st
theorem lload_n {j : Fin 4} {x : Int64} (d : decode B.2.1 pc = .ok (.lload_n j, 1)) (hl : L[j.val]? = some (.val (.long x))) (hr : WP l Z a0 n0 B R k n (pc + 1) L (.long x :: S) H Q) : WP l Z a0 n0 B R k n pc L S H Q :=
  pure hr fun h hx hc st => XT.lloadN h hx rfl (hb hc d) (LL_get (n0 := n0) hl) st
theorem lload {j : Nat} {x : Int64} (d : decode B.2.1 pc = .ok (.lload j, 2)) (hl : L[j]? = some (.val (.long x))) (hr : WP l Z a0 n0 B R k n (pc + 2) L (.long x :: S) H Q) : WP l Z a0 n0 B R k n pc L S H Q :=
  pure hr fun h hx hc st => XT.lload h hx rfl (hb hc d) (LL_get (n0 := n0) hl) st
theorem iconst {i : Int} {x : Int32} (d : decode B.2.1 pc = .ok (.iconst i, 1)) (hx' : Int32.ofInt i = x) (hr : WP l Z a0 n0 B R k n (pc + 1) L (.int x :: S) H Q) : WP l Z a0 n0 B R k n pc L S H Q :=
  pure (hx' ▸ hr) fun h hx hc st => XS.iconst h hx rfl (hb hc d) st
theorem bipush {i : Int} {x : Int32} (d : decode B.2.1 pc = .ok (.bipush i, 2)) (hx' : (Int8.ofInt i).toInt32 = x) (hr : WP l Z a0 n0 B R k n (pc + 2) L (.int x :: S) H Q) : WP l Z a0 n0 B R k n pc L S H Q :=
  pure (hx' ▸ hr) fun h hx hc st => XS.bipush h hx rfl (hb hc d) st
theorem sipush {i : Int} {x : Int32} (d : decode B.2.1 pc = .ok (.sipush i, 3)) (hx' : (Int16.ofInt i).toInt32 = x) (hr : WP l Z a0 n0 B R k n (pc + 3) L (.int x :: S) H Q) : WP l Z a0 n0 B R k n pc L S H Q :=
  pure (hx' ▸ hr) fun h hx hc st => XS.sipush h hx rfl (hb hc d) st
theorem lconst {i : Fin 2} {x : Int64} (d : decode B.2.1 pc = .ok (.lconst i, 1)) (hx' : Int64.ofNat i = x) (hr : WP l Z a0 n0 B R k n (pc + 1) L (.long x :: S) H Q) : WP l Z a0 n0 B R k n pc L S H Q :=
  pure (hx' ▸ hr) fun h hx hc st => XT.lconst h hx rfl (hb hc d) st
theorem aconst_null (d : decode B.2.1 pc = .ok (.aconst_null, 1)) (hr : WP l Z a0 n0 B R k n (pc + 1) L (.null :: S) H Q) : WP l Z a0 n0 B R k n pc L S H Q :=
  pure hr fun h hx hc st => XS.aconstNull h hx rfl (hb hc d) st
theorem ldcI {W : List Jvm.Cond} (hw : ∀ d ∈ W, d.before a0 Z = true) {i idx : Nat} {x : Int32} (w : W[i]? = some (.constant B.1.cls idx x)) (d : decode B.2.1 pc = .ok (.ldc idx, 2)) (hr : WP l Z a0 n0 B R k n (pc + 2) L (.int x :: S) H Q) : WP l Z a0 n0 B R k n pc L S H Q := by
  intro p e s m args below meth c T locs X hx hc hml hret hlk hZ hown hnm hF hR
  obtain ⟨t, o, h1, h2⟩ := hr p e s m args below meth c T locs X hx hc hml hret hlk hZ hown hnm hF hR
  have v1 := hw _ (List.mem_of_getElem? w)
  exact ⟨t, o, X.ldcInt hx hown (mv hZ v1) (g := mkF m pc (LL n0 L) (S.map (lf n0))) rfl (hb hc d) _ h1, h2⟩
theorem ldc2L {W : List Jvm.Cond} (hw : ∀ d ∈ W, d.before a0 Z = true) {i idx : Nat} {x : Int64} (w : W[i]? = some (.constantLong B.1.cls idx x)) (d : decode B.2.1 pc = .ok (.ldc2_w idx, 3)) (hr : WP l Z a0 n0 B R k n (pc + 3) L (.long x :: S) H Q) : WP l Z a0 n0 B R k n pc L S H Q := by
  intro p e s m args below meth c T locs X hx hc hml hret hlk hZ hown hnm hF hR
  obtain ⟨t, o, h1, h2⟩ := hr p e s m args below meth c T locs X hx hc hml hret hlk hZ hown hnm hF hR
  have v1 := hw _ (List.mem_of_getElem? w)
  exact ⟨t, o, X.ldc2Long hx hown (mv hZ v1) (g := mkF m pc (LL n0 L) (S.map (lf n0))) rfl (hb hc d) _ h1, h2⟩

/-! ### stores -/
def okS : Slot → Bool
  | .unset => true
  | .val w => w.category == 1
  | .second => false
def nS : Slot → Bool
  | .second => false
  | _ => true
def n2 : Slot → Bool
  | .val w => w.category == 1
  | _ => true
def stOK (L : List Slot) (k : Nat) (v : Value) (L' : List Slot) : Prop := ∀ n0, storeLocals (LL n0 L) k (lf n0 v) = some (LL n0 L')
theorem LL_at {n0 j : Nat} {o : Slot} (h : L[j]? = some o) : (LL n0 L)[j]? = some (lz n0 o) := by simp [h]
theorem LL_set {n0 j : Nat} {o : Slot} : (LL n0 L).setIfInBounds j (lz n0 o) = LL n0 (L.set j o) := by
  apply Array.toList_inj.mp; simp [List.map_set]
theorem st1 {L' : List Slot} {j : Nat} {o : Slot} {v : Value} (h : L[j]? = some o) (ho : okS o = true) (hv : v.category = 1) (e : L.set j (.val v) = L') : stOK L j v L' := by
  intro n0
  rw [XS.store1 (LL_at h) (by cases o <;> simp_all [okS, lz, lf_cat]) (by rw [lf_cat]; exact hv), ← e, ← LL_set]
  rfl
theorem LL_size {n0 : Nat} : (LL n0 L).size = L.length := by simp
theorem lt_of_at {α : Type} {l : List α} {j : Nat} {o : α} (h : l[j]? = some o) : j < l.length := (List.getElem?_eq_some_iff.mp h).1
theorem setAt_LL {n0 j : Nat} {o : Slot} (h : j < L.length) : setAt (LL n0 L) j (lz n0 o) = some (LL n0 (L.set j o)) := by
  simp only [setAt, LL_size, h, if_true, LL_set]
theorem self1 {n0 j : Nat} {v : Value} (h : j < L.length) (hv : v.category = 1) : storeSelf (LL n0 L) j (lf n0 v) = some (LL n0 (L.set j (.val v))) := by
  have e := setAt_LL (n0 := n0) (o := .val v) h
  simp only [lz] at e
  simp [storeSelf, e, lf_cat, hv]
theorem self2 {n0 j : Nat} {v : Value} {o : Slot} (h : L[j + 1]? = some o) (ho : n2 o = true) (hv : v.category = 2) : storeSelf (LL n0 L) j (lf n0 v) = some (LL n0 ((L.set j (.val v)).set (j + 1) .second)) := by
  have h1 := lt_of_at h
  have e := setAt_LL (n0 := n0) (o := .val v) (show j < L.length by omega)
  simp only [lz] at e
  have e2 := setAt_LL (n0 := n0) (L := L.set j (.val v)) (o := .second) (j := j + 1) (by simpa using h1)
  simp only [lz] at e2
  have e3 : (LL n0 (L.set j (.val v)))[j + 1]? = some (lz n0 o) := LL_at (by rw [List.getElem?_set_ne (by omega)]; exact h)
  simp only [storeSelf, e, lf_cat, hv, Option.bind_eq_bind, Option.bind_some, if_true, e3]
  cases o with
  | unset => simpa [lz] using e2
  | second => simpa [lz] using e2
  | val w =>
    have hw : w.category = 1 := by simpa [n2] using ho
    simpa [lz, lf_cat, hw] using e2
theorem st1s {L' : List Slot} {j : Nat} {v : Value} (h : L[j + 1]? = some .second) (hv : v.category = 1) (e : (L.set j .unset).set (j + 1) (.val v) = L') : stOK L (j + 1) v L' := by
  intro n0
  subst e
  have h1 := lt_of_at h
  have e1 := LL_at (n0 := n0) h
  have e2 := setAt_LL (n0 := n0) (o := .unset) (show j < L.length by omega)
  simp only [lz] at e1 e2
  have e3 := self1 (n0 := n0) (L := L.set j .unset) (j := j + 1) (by simpa using h1) hv
  simp only [storeLocals, e1, Option.bind_eq_bind, Option.bind_some, Nat.add_sub_cancel, e2, e3]
theorem st1w {L' : List Slot} {j : Nat} {w v : Value} (h : L[j]? = some (.val w)) (hw : w.category = 2) (hl : j + 1 < L.length) (hv : v.category = 1) (e : (L.set (j + 1) .unset).set j (.val v) = L') : stOK L j v L' := by
  intro n0
  subst e
  have h1 := lt_of_at h
  have e1 := LL_at (n0 := n0) h
  have e2 := setAt_LL (n0 := n0) (o := .unset) hl
  simp only [lz] at e1 e2
  have e3 := self1 (n0 := n0) (L := L.set (j + 1) .unset) (j := j) (by simpa using h1) hv
  simp only [storeLocals, e1, lf_cat, hw, if_true, Option.bind_eq_bind, Option.bind_some, e2, e3]
theorem st2 {L' : List Slot} {j : Nat} {o o2 : Slot} {v : Value} (h : L[j]? = some o) (ho : nS o = true) (h2 : L[j + 1]? = some o2) (ho2 : n2 o2 = true) (hv : v.category = 2) (e : (L.set j (.val v)).set (j + 1) .second = L') : stOK L j v L' := by
  intro n0
  subst e
  have e1 := LL_at (n0 := n0) h
  have h3 := lt_of_at h2
  cases o with
  | second => simp [nS] at ho
  | unset =>
    simp only [lz] at e1
    simp only [storeLocals, e1, Option.bind_eq_bind, Option.bind_some, self2 h2 ho2 hv]
  | val w =>
    simp only [lz] at e1
    rcases cat_pos w with q | q
    · simp [storeLocals, e1, lf_cat, q, self2 h2 ho2 hv]
    · have e2 := setAt_LL (n0 := n0) (o := .unset) h3
      simp only [lz] at e2
      have e3 := self2 (n0 := n0) (L := L.set (j + 1) .unset) (j := j) (o := .unset) (v := v) (by rw [List.getElem?_set_self h3]) rfl hv
      have e4 : ((L.set (j + 1) .unset).set j (.val v)).set (j + 1) .second = (L.set j (.val v)).set (j + 1) .second := by
        rw [List.set_comm _ _ (show j + 1 ≠ j by omega), List.set_set]
      rw [e4] at e3
      simp only [storeLocals, e1, lf_cat, q, if_true, Option.bind_eq_bind, Option.bind_some, e2, e3]
theorem istore_n {j : Fin 4} {x : Int32} {L' : List Slot} (d : decode B.2.1 pc = .ok (.istore_n j, 1)) (hs : stOK L j.val (.int x) L') (hr : WP l Z a0 n0 B R k n (pc + 1) L' S H Q) : WP l Z a0 n0 B R k n pc L (.int x :: S) H Q :=
  pure hr fun h hx hc st => XS.istoreN h hx rfl (hb hc d) rfl (hs n0) st
theorem istore {j : Nat} {x : Int32} {L' : List Slot} (d : decode B.2.1 pc = .ok (.istore j, 2)) (hs : stOK L j (.int x) L') (hr : WP l Z a0 n0 B R k n (pc + 2) L' S H Q) : WP l Z a0 n0 B R k n pc L (.int x :: S) H Q :=
  pure hr fun h hx hc st => XS.istore h hx rfl (hb hc d) rfl (hs n0) st
theorem lstore_n {j : Fin 4} {x : Int64} {L' : List Slot} (d : decode B.2.1 pc = .ok (.lstore_n j, 1)) (hs : stOK L j.val (.long x) L') (hr : WP l Z a0 n0 B R k n (pc + 1) L' S H Q) : WP l Z a0 n0 B R k n pc L (.long x :: S) H Q :=
  pure hr fun h hx hc st => XT.lstoreN h hx rfl (hb hc d) rfl (hs n0) st
theorem lstore {j : Nat} {x : Int64} {L' : List Slot} (d : decode B.2.1 pc = .ok (.lstore j, 2)) (hs : stOK L j (.long x) L') (hr : WP l Z a0 n0 B R k n (pc + 2) L' S H Q) : WP l Z a0 n0 B R k n pc L (.long x :: S) H Q :=
  pure hr fun h hx hc st => XT.lstore h hx rfl (hb hc d) rfl (hs n0) st
theorem astore_n {j : Fin 4} {v : Value} {L' : List Slot} (d : decode B.2.1 pc = .ok (.astore_n j, 1)) (hv : v.isRef = true) (hs : stOK L j.val v L') (hr : WP l Z a0 n0 B R k n (pc + 1) L' S H Q) : WP l Z a0 n0 B R k n pc L (v :: S) H Q :=
  pure hr fun h hx hc st => XS.astoreN h hx rfl (hb hc d) rfl (by rw [lf_isRef]; exact hv) (hs n0) st
theorem astore {j : Nat} {v : Value} {L' : List Slot} (d : decode B.2.1 pc = .ok (.astore j, 2)) (hv : v.isRef = true) (hs : stOK L j v L') (hr : WP l Z a0 n0 B R k n (pc + 2) L' S H Q) : WP l Z a0 n0 B R k n pc L (v :: S) H Q :=
  pure hr fun h hx hc st => XS.astore h hx rfl (hb hc d) rfl (by rw [lf_isRef]; exact hv) (hs n0) st
theorem iinc {j : Nat} {cst : Int} {x ci y : Int32} {L' : List Slot} (d : decode B.2.1 pc = .ok (.iinc j cst, 3)) (hl : L[j]? = some (.val (.int x))) (hci : Int32.ofInt cst = ci) (hy : x + ci = y) (hs : stOK L j (.int y) L') (hr : WP l Z a0 n0 B R k n (pc + 3) L' S H Q) : WP l Z a0 n0 B R k n pc L S H Q :=
  pure hr fun h hx hc st => XS.iinc h hx rfl (hb hc d) (LL_get (n0 := n0) hl) (by rw [hci, hy]; exact hs n0) st
/-! ### the stack, arithmetic -/
theorem dup {v : Value} (d : decode B.2.1 pc = .ok (.dup, 1)) (hv : v.category = 1) (hr : WP l Z a0 n0 B R k n (pc + 1) L (v :: v :: S) H Q) : WP l Z a0 n0 B R k n pc L (v :: S) H Q :=
  pure hr fun h hx hc st => XS.dup h hx rfl (hb hc d) rfl (by rw [lf_cat]; exact hv) st
theorem pop {v : Value} (d : decode B.2.1 pc = .ok (.pop, 1)) (hv : v.category = 1) (hr : WP l Z a0 n0 B R k n (pc + 1) L S H Q) : WP l Z a0 n0 B R k n pc L (v :: S) H Q :=
  pure hr fun h hx hc st => XT.pop h hx rfl (hb hc d) rfl (by rw [lf_cat]; exact hv) st
theorem dup_x1 {v w : Value} (d : decode B.2.1 pc = .ok (.dup_x1, 1)) (hv : v.category = 1) (hv' : w.category = 1) (hr : WP l Z a0 n0 B R k n (pc + 1) L (v :: w :: v :: S) H Q) : WP l Z a0 n0 B R k n pc L (v :: w :: S) H Q :=
  pure hr fun h hx hc st => XT.dupX1 h hx rfl (hb hc d) rfl (by rw [lf_cat]; exact hv) (by rw [lf_cat]; exact hv') st
theorem dup2 {v w : Value} (d : decode B.2.1 pc = .ok (.dup2, 1)) (hv : v.category = 1) (hv' : w.category = 1) (hr : WP l Z a0 n0 B R k n (pc + 1) L (v :: w :: v :: w :: S) H Q) : WP l Z a0 n0 B R k n pc L (v :: w :: S) H Q :=
  pure hr fun h hx hc st => XT.dup2 h hx rfl (hb hc d) rfl (by rw [lf_cat]; exact hv) (by rw [lf_cat]; exact hv') st
theorem dup2L {x : Int64} (d : decode B.2.1 pc = .ok (.dup2, 1)) (hr : WP l Z a0 n0 B R k n (pc + 1) L (.long x :: .long x :: S) H Q) : WP l Z a0 n0 B R k n pc L (.long x :: S) H Q :=
  pure hr fun h hx hc st => XT.dup2L h hx rfl (hb hc d) rfl st
theorem iadd {x : Int32} {y : Int32} (d : decode B.2.1 pc = .ok (.iadd, 1)) (hr : WP l Z a0 n0 B R k n (pc + 1) L (.int (x + y) :: S) H Q) : WP l Z a0 n0 B R k n pc L (.int y :: .int x :: S) H Q :=
  pure hr fun h hx hc st => XS.iadd h hx rfl (hb hc d) rfl st
theorem isub {x : Int32} {y : Int32} (d : decode B.2.1 pc = .ok (.isub, 1)) (hr : WP l Z a0 n0 B R k n (pc + 1) L (.int (x - y) :: S) H Q) : WP l Z a0 n0 B R k n pc L (.int y :: .int x :: S) H Q :=
  pure hr fun h hx hc st => XS.isub h hx rfl (hb hc d) rfl st
theorem iand {x : Int32} {y : Int32} (d : decode B.2.1 pc = .ok (.iand, 1)) (hr : WP l Z a0 n0 B R k n (pc + 1) L (.int (x &&& y) :: S) H Q) : WP l Z a0 n0 B R k n pc L (.int y :: .int x :: S) H Q :=
  pure hr fun h hx hc st => XS.iand h hx rfl (hb hc d) rfl st
theorem imul {x : Int32} {y : Int32} (d : decode B.2.1 pc = .ok (.imul, 1)) (hr : WP l Z a0 n0 B R k n (pc + 1) L (.int (x * y) :: S) H Q) : WP l Z a0 n0 B R k n pc L (.int y :: .int x :: S) H Q :=
  pure hr fun h hx hc st => XS.imul h hx rfl (hb hc d) rfl st
theorem ixor {x : Int32} {y : Int32} (d : decode B.2.1 pc = .ok (.ixor, 1)) (hr : WP l Z a0 n0 B R k n (pc + 1) L (.int (x ^^^ y) :: S) H Q) : WP l Z a0 n0 B R k n pc L (.int y :: .int x :: S) H Q :=
  pure hr fun h hx hc st => XT.ixor h hx rfl (hb hc d) rfl st
theorem ior {x : Int32} {y : Int32} (d : decode B.2.1 pc = .ok (.ior, 1)) (hr : WP l Z a0 n0 B R k n (pc + 1) L (.int (x ||| y) :: S) H Q) : WP l Z a0 n0 B R k n pc L (.int y :: .int x :: S) H Q :=
  pure hr fun h hx hc st => XT.ior h hx rfl (hb hc d) rfl st
theorem ishl {x : Int32} {y : Int32} (d : decode B.2.1 pc = .ok (.ishl, 1)) (hr : WP l Z a0 n0 B R k n (pc + 1) L (.int (x <<< (y &&& 31)) :: S) H Q) : WP l Z a0 n0 B R k n pc L (.int y :: .int x :: S) H Q :=
  pure hr fun h hx hc st => XT.ishl h hx rfl (hb hc d) rfl st
theorem ishr {x : Int32} {y : Int32} (d : decode B.2.1 pc = .ok (.ishr, 1)) (hr : WP l Z a0 n0 B R k n (pc + 1) L (.int (x >>> (y &&& 31)) :: S) H Q) : WP l Z a0 n0 B R k n pc L (.int y :: .int x :: S) H Q :=
  pure hr fun h hx hc st => XT.ishr h hx rfl (hb hc d) rfl st
theorem iushr {x : Int32} {y : Int32} (d : decode B.2.1 pc = .ok (.iushr, 1)) (hr : WP l Z a0 n0 B R k n (pc + 1) L (.int (XT.ushr x y) :: S) H Q) : WP l Z a0 n0 B R k n pc L (.int y :: .int x :: S) H Q :=
  pure hr fun h hx hc st => XT.iushr h hx rfl (hb hc d) rfl st
theorem ladd {x : Int64} {y : Int64} (d : decode B.2.1 pc = .ok (.ladd, 1)) (hr : WP l Z a0 n0 B R k n (pc + 1) L (.long (x + y) :: S) H Q) : WP l Z a0 n0 B R k n pc L (.long y :: .long x :: S) H Q :=
  pure hr fun h hx hc st => XT.ladd h hx rfl (hb hc d) rfl st
theorem lsub {x : Int64} {y : Int64} (d : decode B.2.1 pc = .ok (.lsub, 1)) (hr : WP l Z a0 n0 B R k n (pc + 1) L (.long (x - y) :: S) H Q) : WP l Z a0 n0 B R k n pc L (.long y :: .long x :: S) H Q :=
  pure hr fun h hx hc st => XT.lsub h hx rfl (hb hc d) rfl st
theorem lmul {x : Int64} {y : Int64} (d : decode B.2.1 pc = .ok (.lmul, 1)) (hr : WP l Z a0 n0 B R k n (pc + 1) L (.long (x * y) :: S) H Q) : WP l Z a0 n0 B R k n pc L (.long y :: .long x :: S) H Q :=
  pure hr fun h hx hc st => XT.lmul h hx rfl (hb hc d) rfl st
theorem land {x : Int64} {y : Int64} (d : decode B.2.1 pc = .ok (.land, 1)) (hr : WP l Z a0 n0 B R k n (pc + 1) L (.long (x &&& y) :: S) H Q) : WP l Z a0 n0 B R k n pc L (.long y :: .long x :: S) H Q :=
  pure hr fun h hx hc st => XT.land h hx rfl (hb hc d) rfl st
theorem lor {x : Int64} {y : Int64} (d : decode B.2.1 pc = .ok (.lor, 1)) (hr : WP l Z a0 n0 B R k n (pc + 1) L (.long (x ||| y) :: S) H Q) : WP l Z a0 n0 B R k n pc L (.long y :: .long x :: S) H Q :=
  pure hr fun h hx hc st => XT.lor h hx rfl (hb hc d) rfl st
theorem lxor {x : Int64} {y : Int64} (d : decode B.2.1 pc = .ok (.lxor, 1)) (hr : WP l Z a0 n0 B R k n (pc + 1) L (.long (x ^^^ y) :: S) H Q) : WP l Z a0 n0 B R k n pc L (.long y :: .long x :: S) H Q :=
  pure hr fun h hx hc st => XT.lxor h hx rfl (hb hc d) rfl st
theorem lshl {x : Int64} {y : Int32} (d : decode B.2.1 pc = .ok (.lshl, 1)) (hr : WP l Z a0 n0 B R k n (pc + 1) L (.long (x <<< (y.toInt64 &&& 63)) :: S) H Q) : WP l Z a0 n0 B R k n pc L (.int y :: .long x :: S) H Q :=
  pure hr fun h hx hc st => XT.lshl h hx rfl (hb hc d) rfl st
theorem lshr {x : Int64} {y : Int32} (d : decode B.2.1 pc = .ok (.lshr, 1)) (hr : WP l Z a0 n0 B R k n (pc + 1) L (.long (x >>> (y.toInt64 &&& 63)) :: S) H Q) : WP l Z a0 n0 B R k n pc L (.int y :: .long x :: S) H Q :=
  pure hr fun h hx hc st => XT.lshr h hx rfl (hb hc d) rfl st
theorem lushr {x : Int64} {y : Int32} (d : decode B.2.1 pc = .ok (.lushr, 1)) (hr : WP l Z a0 n0 B R k n (pc + 1) L (.long (XT.ushrL x y) :: S) H Q) : WP l Z a0 n0 B R k n pc L (.int y :: .long x :: S) H Q :=
  pure hr fun h hx hc st => XT.lushr h hx rfl (hb hc d) rfl st
theorem ineg {x : Int32} (d : decode B.2.1 pc = .ok (.ineg, 1)) (hr : WP l Z a0 n0 B R k n (pc + 1) L (.int (-x) :: S) H Q) : WP l Z a0 n0 B R k n pc L (.int x :: S) H Q :=
  pure hr fun h hx hc st => XS.ineg h hx rfl (hb hc d) rfl st
theorem lneg {x : Int64} (d : decode B.2.1 pc = .ok (.lneg, 1)) (hr : WP l Z a0 n0 B R k n (pc + 1) L (.long (-x) :: S) H Q) : WP l Z a0 n0 B R k n pc L (.long x :: S) H Q :=
  pure hr fun h hx hc st => XT.lneg h hx rfl (hb hc d) rfl st
theorem i2l {x : Int32} (d : decode B.2.1 pc = .ok (.i2l, 1)) (hr : WP l Z a0 n0 B R k n (pc + 1) L (.long (x.toInt64) :: S) H Q) : WP l Z a0 n0 B R k n pc L (.int x :: S) H Q :=
  pure hr fun h hx hc st => XT.i2l h hx rfl (hb hc d) rfl st
theorem l2i {x : Int64} (d : decode B.2.1 pc = .ok (.l2i, 1)) (hr : WP l Z a0 n0 B R k n (pc + 1) L (.int (x.toInt32) :: S) H Q) : WP l Z a0 n0 B R k n pc L (.long x :: S) H Q :=
  pure hr fun h hx hc st => XT.l2i h hx rfl (hb hc d) rfl st
theorem i2b {x : Int32} (d : decode B.2.1 pc = .ok (.i2b, 1)) (hr : WP l Z a0 n0 B R k n (pc + 1) L (.int (x.toInt8.toInt32) :: S) H Q) : WP l Z a0 n0 B R k n pc L (.int x :: S) H Q :=
  pure hr fun h hx hc st => XT.i2b h hx rfl (hb hc d) rfl st
theorem i2s {x : Int32} (d : decode B.2.1 pc = .ok (.i2s, 1)) (hr : WP l Z a0 n0 B R k n (pc + 1) L (.int (x.toInt16.toInt32) :: S) H Q) : WP l Z a0 n0 B R k n pc L (.int x :: S) H Q :=
  pure hr fun h hx hc st => XT.i2s h hx rfl (hb hc d) rfl st
theorem i2c {x : Int32} (d : decode B.2.1 pc = .ok (.i2c, 1)) (hr : WP l Z a0 n0 B R k n (pc + 1) L (.int (x.toUInt32.toUInt16.toUInt32.toInt32) :: S) H Q) : WP l Z a0 n0 B R k n pc L (.int x :: S) H Q :=
  pure hr fun h hx hc st => XT.i2c h hx rfl (hb hc d) rfl st
theorem iaddE {x y z : Int32} (d : decode B.2.1 pc = .ok (.iadd, 1)) (hz : x + y = z) (hr : WP l Z a0 n0 B R k n (pc + 1) L (.int z :: S) H Q) : WP l Z a0 n0 B R k n pc L (.int y :: .int x :: S) H Q := iadd d (hz ▸ hr)
theorem isubE {x y z : Int32} (d : decode B.2.1 pc = .ok (.isub, 1)) (hz : x - y = z) (hr : WP l Z a0 n0 B R k n (pc + 1) L (.int z :: S) H Q) : WP l Z a0 n0 B R k n pc L (.int y :: .int x :: S) H Q := isub d (hz ▸ hr)
theorem imulE {x y z : Int32} (d : decode B.2.1 pc = .ok (.imul, 1)) (hz : x * y = z) (hr : WP l Z a0 n0 B R k n (pc + 1) L (.int z :: S) H Q) : WP l Z a0 n0 B R k n pc L (.int y :: .int x :: S) H Q := imul d (hz ▸ hr)
theorem idiv {x y : Int32} (d : decode B.2.1 pc = .ok (.idiv, 1)) (hy : y ≠ 0) (hr : WP l Z a0 n0 B R k n (pc + 1) L (.int (x / y) :: S) H Q) : WP l Z a0 n0 B R k n pc L (.int y :: .int x :: S) H Q :=
  pure hr fun h hx hc st => XS.idiv h hx rfl (hb hc d) rfl hy st
theorem irem {x y : Int32} (d : decode B.2.1 pc = .ok (.irem, 1)) (hy : y ≠ 0) (hr : WP l Z a0 n0 B R k n (pc + 1) L (.int (x % y) :: S) H Q) : WP l Z a0 n0 B R k n pc L (.int y :: .int x :: S) H Q :=
  pure hr fun h hx hc st => XS.irem h hx rfl (hb hc d) rfl hy (by rw [irem_eq_mod]; exact st)
theorem iushrE {x y z : Int32} (d : decode B.2.1 pc = .ok (.iushr, 1)) (hz : XT.ushr x y = z) (hr : WP l Z a0 n0 B R k n (pc + 1) L (.int z :: S) H Q) : WP l Z a0 n0 B R k n pc L (.int y :: .int x :: S) H Q := iushr d (hz ▸ hr)
theorem iandE {x y z : Int32} (d : decode B.2.1 pc = .ok (.iand, 1)) (hz : x &&& y = z) (hr : WP l Z a0 n0 B R k n (pc + 1) L (.int z :: S) H Q) : WP l Z a0 n0 B R k n pc L (.int y :: .int x :: S) H Q := iand d (hz ▸ hr)
theorem idivE {x y z : Int32} (d : decode B.2.1 pc = .ok (.idiv, 1)) (hy : y ≠ 0) (hz : x / y = z) (hr : WP l Z a0 n0 B R k n (pc + 1) L (.int z :: S) H Q) : WP l Z a0 n0 B R k n pc L (.int y :: .int x :: S) H Q := idiv d hy (hz ▸ hr)
theorem iremE {x y z : Int32} (d : decode B.2.1 pc = .ok (.irem, 1)) (hy : y ≠ 0) (hz : x % y = z) (hr : WP l Z a0 n0 B R k n (pc + 1) L (.int z :: S) H Q) : WP l Z a0 n0 B R k n pc L (.int y :: .int x :: S) H Q := irem d hy (hz ▸ hr)
/-! ### branches -/
theorem goto {o : Int} {pc' : Nat} (d : decode B.2.1 pc = .ok (.goto o, 3)) (hp : ((pc : Int) + o).toNat = pc') (ho : 0 ≤ (pc : Int) + o) (hr : WP l Z a0 n0 B R k n pc' L S H Q) : WP l Z a0 n0 B R k n pc L S H Q :=
  pure hr fun h hx hc st => XS.goto h hx rfl (pc0 := pc) rfl (hb hc d) ho hp st
def cP : ClassFile.Cond → Int32 → Int32 → Prop
  | .eq, x, y => x = y
  | .ne, x, y => ¬ x = y
  | .lt, x, y => x < y
  | .ge, x, y => ¬ x < y
  | .gt, x, y => y < x
  | .le, x, y => ¬ y < x
def cPL : ClassFile.Cond → Int64 → Int64 → Prop
  | .eq, x, y => x = y
  | .ne, x, y => ¬ x = y
  | .lt, x, y => x < y
  | .ge, x, y => ¬ x < y
  | .gt, x, y => y < x
  | .le, x, y => ¬ y < x
instance (cd : ClassFile.Cond) (x y : Int32) : Decidable (cP cd x y) := by cases cd <;> simp only [cP] <;> infer_instance
instance (cd : ClassFile.Cond) (x y : Int64) : Decidable (cPL cd x y) := by cases cd <;> simp only [cPL] <;> infer_instance
theorem cP_iff (cd : ClassFile.Cond) (x y : Int32) : if_icmp.holds cd x y = true ↔ cP cd x y := by
  cases cd
  · by_cases h : x = y
    · exact ⟨fun _ => h, fun _ => (teq h).1⟩
    · simp [(feq h).1, cP, h]
  · by_cases h : x = y
    · exact ⟨fun q => (by rw [(teq h).2] at q; cases q), fun q => absurd h q⟩
    · simp [(feq h).2, cP, h]
  · by_cases h : x < y
    · simp [(tlt h).1, cP, h]
    · simp [(flt h).1, cP, h]
  · by_cases h : x < y
    · simp [(tlt h).2.1, cP, h]
    · simp [(flt h).2.1, cP, h]
  · by_cases h : y < x
    · simp [(tlt h).2.2.1, cP, h]
    · simp [(flt h).2.2.1, cP, h]
  · by_cases h : y < x
    · simp [(tlt h).2.2.2, cP, h]
    · simp [(flt h).2.2.2, cP, h]
theorem cPL_iff (cd : ClassFile.Cond) (x y : Int64) : ifCond.holds cd (XT.cmpL x y) = true ↔ cPL cd x y := by
  rw [if0, cP_iff]
  by_cases h : y < x
  · have h1 : ¬ x < y := Int64.not_lt.mpr (Int64.le_of_lt h)
    have h2 : ¬ x = y := fun e => by subst e; exact absurd h Int64.lt_irrefl
    cases cd <;> simp [cP, cPL, XT.cmpL, h, h1, h2]
  · by_cases h2 : x = y
    · subst h2
      cases cd <;> simp [cP, cPL, XT.cmpL, Int64.lt_irrefl]
    · have h1 : x < y := Int64.lt_of_le_of_ne (Int64.not_lt.mp h) h2
      cases cd <;> simp [cP, cPL, XT.cmpL, h, h1, h2]
theorem icmpT {cd : ClassFile.Cond} {x y : Int32} {o : Int} {pc' : Nat} (d : decode B.2.1 pc = .ok (.if_icmp cd o, 3)) (hp : ((pc : Int) + o).toNat = pc') (ho : 0 ≤ (pc : Int) + o) (hc : cP cd x y) (hr : WP l Z a0 n0 B R k n pc' L S H Q) : WP l Z a0 n0 B R k n pc L (.int y :: .int x :: S) H Q :=
  pure hr fun h hx hc' st => XS.icmpYes h hx rfl (pc0 := pc) rfl (hb hc' d) rfl ((cP_iff _ _ _).mpr hc) ho hp st
theorem icmpF {cd : ClassFile.Cond} {x y : Int32} {o : Int} (d : decode B.2.1 pc = .ok (.if_icmp cd o, 3)) (hc : ¬ cP cd x y) (hr : WP l Z a0 n0 B R k n (pc + 3) L S H Q) : WP l Z a0 n0 B R k n pc L (.int y :: .int x :: S) H Q :=
  pure hr fun h hx hc' st => XS.icmpNo h hx rfl (hb hc' d) rfl (Bool.eq_false_iff.mpr fun q => hc ((cP_iff _ _ _).mp q)) st
theorem ifT {cd : ClassFile.Cond} {x : Int32} {o : Int} {pc' : Nat} (d : decode B.2.1 pc = .ok (.ifCond cd o, 3)) (hp : ((pc : Int) + o).toNat = pc') (ho : 0 ≤ (pc : Int) + o) (hc : cP cd x 0) (hr : WP l Z a0 n0 B R k n pc' L S H Q) : WP l Z a0 n0 B R k n pc L (.int x :: S) H Q :=
  pure hr fun h hx hc' st => XS.ifYes h hx rfl (pc0 := pc) rfl (hb hc' d) rfl ((if0 _ _).trans ((cP_iff _ _ _).mpr hc)) ho hp st
theorem ifF {cd : ClassFile.Cond} {x : Int32} {o : Int} (d : decode B.2.1 pc = .ok (.ifCond cd o, 3)) (hc : ¬ cP cd x 0) (hr : WP l Z a0 n0 B R k n (pc + 3) L S H Q) : WP l Z a0 n0 B R k n pc L (.int x :: S) H Q :=
  pure hr fun h hx hc' st => XS.ifNo h hx rfl (hb hc' d) rfl ((if0 _ _).trans (Bool.eq_false_iff.mpr fun q => hc ((cP_iff _ _ _).mp q))) st
theorem lcmp {x y : Int64} (d : decode B.2.1 pc = .ok (.lcmp, 1)) (hr : WP l Z a0 n0 B R k n (pc + 1) L (.int (XT.cmpL x y) :: S) H Q) : WP l Z a0 n0 B R k n pc L (.long y :: .long x :: S) H Q :=
  pure hr fun h hx hc st => XT.lcmp h hx rfl (hb hc d) rfl st
theorem lcmpT {cd : ClassFile.Cond} {x y : Int64} {o : Int} {pc' : Nat} (d1 : decode B.2.1 pc = .ok (.lcmp, 1)) (d : decode B.2.1 (pc + 1) = .ok (.ifCond cd o, 3)) (hp : (((pc + 1 : Nat) : Int) + o).toNat = pc') (ho : 0 ≤ ((pc + 1 : Nat) : Int) + o) (hc : cPL cd x y) (hr : WP l Z a0 n0 B R k n pc' L S H Q) : WP l Z a0 n0 B R k n pc L (.long y :: .long x :: S) H Q :=
  lcmp d1 (pure hr fun h hx hc' st => XS.ifYes h hx rfl (pc0 := pc + 1) rfl (hb hc' d) rfl ((cPL_iff _ _ _).mpr hc) ho hp st)
theorem lcmpF {cd : ClassFile.Cond} {x y : Int64} {o : Int} (d1 : decode B.2.1 pc = .ok (.lcmp, 1)) (d : decode B.2.1 (pc + 1) = .ok (.ifCond cd o, 3)) (hc : ¬ cPL cd x y) (hr : WP l Z a0 n0 B R k n (pc + 4) L S H Q) : WP l Z a0 n0 B R k n pc L (.long y :: .long x :: S) H Q :=
  lcmp d1 (pure hr fun h hx hc' st => XS.ifNo h hx rfl (hb hc' d) rfl (Bool.eq_false_iff.mpr fun q => hc ((cPL_iff _ _ _).mp q)) st)
theorem ifnullF {o : Int} {i : Nat} (d : decode B.2.1 pc = .ok (.ifnull o, 3)) (hr : WP l Z a0 n0 B R k n (pc + 3) L S H Q) : WP l Z a0 n0 B R k n pc L (.ref i :: S) H Q :=
  pure hr fun h hx hc st => XS.ifnullNo h hx rfl (hb hc d) rfl st
theorem ifnonnullT {o : Int} {i pc' : Nat} (d : decode B.2.1 pc = .ok (.ifnonnull o, 3)) (hp : ((pc : Int) + o).toNat = pc') (ho : 0 ≤ (pc : Int) + o) (hr : WP l Z a0 n0 B R k n pc' L S H Q) : WP l Z a0 n0 B R k n pc L (.ref i :: S) H Q :=
  pure hr fun h hx hc st => XT.ifnonnullYes h hx rfl (pc0 := pc) rfl (hb hc d) rfl ho hp st
theorem acmpneT {o : Int} {i j pc' : Nat} (d : decode B.2.1 pc = .ok (.if_acmp .ne o, 3)) (hp : ((pc : Int) + o).toNat = pc') (ho : 0 ≤ (pc : Int) + o) (hij : ¬ i = j) (hr : WP l Z a0 n0 B R k n pc' L S H Q) : WP l Z a0 n0 B R k n pc L (.ref j :: .ref i :: S) H Q :=
  pure hr fun h hx hc st => XT.acmpYes h hx rfl (pc0 := pc) rfl (hb hc d) rfl rfl rfl (by simp [XT.acmp, lf, hij]) ho hp st
theorem icmp_eq {x y : Int32} {o : Int} {pc' : Nat} (d : decode B.2.1 pc = .ok (.if_icmp .eq o, 3)) (hp : ((pc : Int) + o).toNat = pc') (ho : 0 ≤ (pc : Int) + o) (h1 : x = y → WP l Z a0 n0 B R k n pc' L S H Q) (h2 : ¬ x = y → WP l Z a0 n0 B R k n (pc + 3) L S H Q) : WP l Z a0 n0 B R k n pc L (.int y :: .int x :: S) H Q :=
  if q : cP .eq x y then icmpT d hp ho q (h1 q) else icmpF d q (h2 q)
theorem if_eq {x : Int32} {o : Int} {pc' : Nat} (d : decode B.2.1 pc = .ok (.ifCond .eq o, 3)) (hp : ((pc : Int) + o).toNat = pc') (ho : 0 ≤ (pc : Int) + o) (h1 : x = 0 → WP l Z a0 n0 B R k n pc' L S H Q) (h2 : ¬ x = 0 → WP l Z a0 n0 B R k n (pc + 3) L S H Q) : WP l Z a0 n0 B R k n pc L (.int x :: S) H Q :=
  if q : cP .eq x 0 then ifT d hp ho q (h1 q) else ifF d q (h2 q)
theorem lcmp_eq {x y : Int64} {o : Int} {pc' : Nat} (d1 : decode B.2.1 pc = .ok (.lcmp, 1)) (d : decode B.2.1 (pc + 1) = .ok (.ifCond .eq o, 3)) (hp : (((pc + 1 : Nat) : Int) + o).toNat = pc') (ho : 0 ≤ ((pc + 1 : Nat) : Int) + o) (h1 : x = y → WP l Z a0 n0 B R k n pc' L S H Q) (h2 : ¬ x = y → WP l Z a0 n0 B R k n (pc + 4) L S H Q) : WP l Z a0 n0 B R k n pc L (.long y :: .long x :: S) H Q :=
  if q : cPL .eq x y then lcmpT d1 d hp ho q (h1 q) else lcmpF d1 d q (h2 q)
theorem icmp_ne {x y : Int32} {o : Int} {pc' : Nat} (d : decode B.2.1 pc = .ok (.if_icmp .ne o, 3)) (hp : ((pc : Int) + o).toNat = pc') (ho : 0 ≤ (pc : Int) + o) (h1 : ¬ x = y → WP l Z a0 n0 B R k n pc' L S H Q) (h2 : x = y → WP l Z a0 n0 B R k n (pc + 3) L S H Q) : WP l Z a0 n0 B R k n pc L (.int y :: .int x :: S) H Q :=
  if q : cP .ne x y then icmpT d hp ho q (h1 q) else icmpF d q (h2 (Decidable.not_not.mp q))
theorem if_ne {x : Int32} {o : Int} {pc' : Nat} (d : decode B.2.1 pc = .ok (.ifCond .ne o, 3)) (hp : ((pc : Int) + o).toNat = pc') (ho : 0 ≤ (pc : Int) + o) (h1 : ¬ x = 0 → WP l Z a0 n0 B R k n pc' L S H Q) (h2 : x = 0 → WP l Z a0 n0 B R k n (pc + 3) L S H Q) : WP l Z a0 n0 B R k n pc L (.int x :: S) H Q :=
  if q : cP .ne x 0 then ifT d hp ho q (h1 q) else ifF d q (h2 (Decidable.not_not.mp q))
theorem lcmp_ne {x y : Int64} {o : Int} {pc' : Nat} (d1 : decode B.2.1 pc = .ok (.lcmp, 1)) (d : decode B.2.1 (pc + 1) = .ok (.ifCond .ne o, 3)) (hp : (((pc + 1 : Nat) : Int) + o).toNat = pc') (ho : 0 ≤ ((pc + 1 : Nat) : Int) + o) (h1 : ¬ x = y → WP l Z a0 n0 B R k n pc' L S H Q) (h2 : x = y → WP l Z a0 n0 B R k n (pc + 4) L S H Q) : WP l Z a0 n0 B R k n pc L (.long y :: .long x :: S) H Q :=
  if q : cPL .ne x y then lcmpT d1 d hp ho q (h1 q) else lcmpF d1 d q (h2 (Decidable.not_not.mp q))
theorem icmp_lt {x y : Int32} {o : Int} {pc' : Nat} (d : decode B.2.1 pc = .ok (.if_icmp .lt o, 3)) (hp : ((pc : Int) + o).toNat = pc') (ho : 0 ≤ (pc : Int) + o) (h1 : x < y → WP l Z a0 n0 B R k n pc' L S H Q) (h2 : ¬ x < y → WP l Z a0 n0 B R k n (pc + 3) L S H Q) : WP l Z a0 n0 B R k n pc L (.int y :: .int x :: S) H Q :=
  if q : cP .lt x y then icmpT d hp ho q (h1 q) else icmpF d q (h2 q)
theorem if_lt {x : Int32} {o : Int} {pc' : Nat} (d : decode B.2.1 pc = .ok (.ifCond .lt o, 3)) (hp : ((pc : Int) + o).toNat = pc') (ho : 0 ≤ (pc : Int) + o) (h1 : x < 0 → WP l Z a0 n0 B R k n pc' L S H Q) (h2 : ¬ x < 0 → WP l Z a0 n0 B R k n (pc + 3) L S H Q) : WP l Z a0 n0 B R k n pc L (.int x :: S) H Q :=
  if q : cP .lt x 0 then ifT d hp ho q (h1 q) else ifF d q (h2 q)
theorem lcmp_lt {x y : Int64} {o : Int} {pc' : Nat} (d1 : decode B.2.1 pc = .ok (.lcmp, 1)) (d : decode B.2.1 (pc + 1) = .ok (.ifCond .lt o, 3)) (hp : (((pc + 1 : Nat) : Int) + o).toNat = pc') (ho : 0 ≤ ((pc + 1 : Nat) : Int) + o) (h1 : x < y → WP l Z a0 n0 B R k n pc' L S H Q) (h2 : ¬ x < y → WP l Z a0 n0 B R k n (pc + 4) L S H Q) : WP l Z a0 n0 B R k n pc L (.long y :: .long x :: S) H Q :=
  if q : cPL .lt x y then lcmpT d1 d hp ho q (h1 q) else lcmpF d1 d q (h2 q)
theorem icmp_ge {x y : Int32} {o : Int} {pc' : Nat} (d : decode B.2.1 pc = .ok (.if_icmp .ge o, 3)) (hp : ((pc : Int) + o).toNat = pc') (ho : 0 ≤ (pc : Int) + o) (h1 : ¬ x < y → WP l Z a0 n0 B R k n pc' L S H Q) (h2 : x < y → WP l Z a0 n0 B R k n (pc + 3) L S H Q) : WP l Z a0 n0 B R k n pc L (.int y :: .int x :: S) H Q :=
  if q : cP .ge x y then icmpT d hp ho q (h1 q) else icmpF d q (h2 (Decidable.not_not.mp q))
theorem if_ge {x : Int32} {o : Int} {pc' : Nat} (d : decode B.2.1 pc = .ok (.ifCond .ge o, 3)) (hp : ((pc : Int) + o).toNat = pc') (ho : 0 ≤ (pc : Int) + o) (h1 : ¬ x < 0 → WP l Z a0 n0 B R k n pc' L S H Q) (h2 : x < 0 → WP l Z a0 n0 B R k n (pc + 3) L S H Q) : WP l Z a0 n0 B R k n pc L (.int x :: S) H Q :=
  if q : cP .ge x 0 then ifT d hp ho q (h1 q) else ifF d q (h2 (Decidable.not_not.mp q))
theorem lcmp_ge {x y : Int64} {o : Int} {pc' : Nat} (d1 : decode B.2.1 pc = .ok (.lcmp, 1)) (d : decode B.2.1 (pc + 1) = .ok (.ifCond .ge o, 3)) (hp : (((pc + 1 : Nat) : Int) + o).toNat = pc') (ho : 0 ≤ ((pc + 1 : Nat) : Int) + o) (h1 : ¬ x < y → WP l Z a0 n0 B R k n pc' L S H Q) (h2 : x < y → WP l Z a0 n0 B R k n (pc + 4) L S H Q) : WP l Z a0 n0 B R k n pc L (.long y :: .long x :: S) H Q :=
  if q : cPL .ge x y then lcmpT d1 d hp ho q (h1 q) else lcmpF d1 d q (h2 (Decidable.not_not.mp q))
theorem icmp_gt {x y : Int32} {o : Int} {pc' : Nat} (d : decode B.2.1 pc = .ok (.if_icmp .gt o, 3)) (hp : ((pc : Int) + o).toNat = pc') (ho : 0 ≤ (pc : Int) + o) (h1 : y < x → WP l Z a0 n0 B R k n pc' L S H Q) (h2 : ¬ y < x → WP l Z a0 n0 B R k n (pc + 3) L S H Q) : WP l Z a0 n0 B R k n pc L (.int y :: .int x :: S) H Q :=
  if q : cP .gt x y then icmpT d hp ho q (h1 q) else icmpF d q (h2 q)
theorem if_gt {x : Int32} {o : Int} {pc' : Nat} (d : decode B.2.1 pc = .ok (.ifCond .gt o, 3)) (hp : ((pc : Int) + o).toNat = pc') (ho : 0 ≤ (pc : Int) + o) (h1 : 0 < x → WP l Z a0 n0 B R k n pc' L S H Q) (h2 : ¬ 0 < x → WP l Z a0 n0 B R k n (pc + 3) L S H Q) : WP l Z a0 n0 B R k n pc L (.int x :: S) H Q :=
  if q : cP .gt x 0 then ifT d hp ho q (h1 q) else ifF d q (h2 q)
theorem lcmp_gt {x y : Int64} {o : Int} {pc' : Nat} (d1 : decode B.2.1 pc = .ok (.lcmp, 1)) (d : decode B.2.1 (pc + 1) = .ok (.ifCond .gt o, 3)) (hp : (((pc + 1 : Nat) : Int) + o).toNat = pc') (ho : 0 ≤ ((pc + 1 : Nat) : Int) + o) (h1 : y < x → WP l Z a0 n0 B R k n pc' L S H Q) (h2 : ¬ y < x → WP l Z a0 n0 B R k n (pc + 4) L S H Q) : WP l Z a0 n0 B R k n pc L (.long y :: .long x :: S) H Q :=
  if q : cPL .gt x y then lcmpT d1 d hp ho q (h1 q) else lcmpF d1 d q (h2 q)
theorem icmp_le {x y : Int32} {o : Int} {pc' : Nat} (d : decode B.2.1 pc = .ok (.if_icmp .le o, 3)) (hp : ((pc : Int) + o).toNat = pc') (ho : 0 ≤ (pc : Int) + o) (h1 : ¬ y < x → WP l Z a0 n0 B R k n pc' L S H Q) (h2 : y < x → WP l Z a0 n0 B R k n (pc + 3) L S H Q) : WP l Z a0 n0 B R k n pc L (.int y :: .int x :: S) H Q :=
  if q : cP .le x y then icmpT d hp ho q (h1 q) else icmpF d q (h2 (Decidable.not_not.mp q))
theorem if_le {x : Int32} {o : Int} {pc' : Nat} (d : decode B.2.1 pc = .ok (.ifCond .le o, 3)) (hp : ((pc : Int) + o).toNat = pc') (ho : 0 ≤ (pc : Int) + o) (h1 : ¬ 0 < x → WP l Z a0 n0 B R k n pc' L S H Q) (h2 : 0 < x → WP l Z a0 n0 B R k n (pc + 3) L S H Q) : WP l Z a0 n0 B R k n pc L (.int x :: S) H Q :=
  if q : cP .le x 0 then ifT d hp ho q (h1 q) else ifF d q (h2 (Decidable.not_not.mp q))
theorem lcmp_le {x y : Int64} {o : Int} {pc' : Nat} (d1 : decode B.2.1 pc = .ok (.lcmp, 1)) (d : decode B.2.1 (pc + 1) = .ok (.ifCond .le o, 3)) (hp : (((pc + 1 : Nat) : Int) + o).toNat = pc') (ho : 0 ≤ ((pc + 1 : Nat) : Int) + o) (h1 : ¬ y < x → WP l Z a0 n0 B R k n pc' L S H Q) (h2 : y < x → WP l Z a0 n0 B R k n (pc + 4) L S H Q) : WP l Z a0 n0 B R k n pc L (.long y :: .long x :: S) H Q :=
  if q : cPL .le x y then lcmpT d1 d hp ho q (h1 q) else lcmpF d1 d q (h2 (Decidable.not_not.mp q))
end
end Jvm.Sh
namespace Jvm.Sh
open Jvm Jvm.ClassFile Sem Op Lib Jvm.Free Jvm.Stand Jvm.LawKit Jvm.RoadKit Bundle
section
variable {l : Launch} {Z : State} {a0 : Array Value} {n0 : Nat} {B : Bdy} {R : Room} {k n pc : Nat} {L : List Slot} {S : List Value} {H : SH} {Q : Option Value → SH → Prop} {W : List Jvm.Cond}
/-! ### the heap -/
theorem lf_default (n0 : Nat) (ty : FieldType) : lf n0 (defaultValue ty) = defaultValue ty := by cases ty <;> rfl
theorem lf_narrow {n0 : Nat} {ty : FieldType} {v : Value} (h : narrow ty v = v) : narrow ty (lf n0 v) = lf n0 v := by
  cases v <;> first | exact h | (cases ty <;> rfl)
theorem lf_fits {n0 : Nat} {ty : FieldType} {v : Value} (h : fits ty v = true) : fits ty (lf n0 v) = true := by
  cases v <;> first | exact h | (cases ty <;> simp [fits, lf] at h ⊢)
theorem ext_push (h : Heap) (c : Cell) : Ext h (h.push c) :=
  ⟨by simp, fun a d e => by rw [Array.getElem?_push_lt (Array.getElem?_eq_some_iff.mp e).1]; exact (Array.getElem?_eq_getElem _).symm.trans e⟩
theorem getfield (hw : ∀ d ∈ W, d.before a0 Z = true) {i idx a j : Nat} {C nm ds : String} {fs : List (String × String × Value)} {v : Value} (w : W[i]? = some (.fieldLink B.1.cls idx C nm ds)) (d : decode B.2.1 pc = .ok (.getfield idx, 3))
    (hH : H[a]? = some (.inl (C, fs))) (hf : fs[j]? = some (nm, ds, v)) (hr : WP l Z a0 n0 B R k n (pc + 3) L (v :: S) H Q) : WP l Z a0 n0 B R k n pc L (.ref a :: S) H Q := by
  intro p e s m args below meth c T locs X hx hc hml hret hlk hZ hown hnm hF hR
  have K := (hR.2 a _ hH).2.2.2 _ (List.mem_of_getElem? hf)
  obtain ⟨T', X', e', st⟩ := getF X hx hZ hown (host := "") (Or.inl (hw _ (List.mem_of_getElem? w))) Via.refl rfl K.2.2 (g := mkF m pc (LL n0 L) ((Value.ref a :: S).map (lf n0))) rfl rfl (hb hc d)
  obtain ⟨t, o, h1, h2⟩ := hr p e s m args below meth c T' locs X' hx hc hml hret hlk hZ hown hnm hF (by rw [e']; exact hR)
  exact ⟨t, o, st _ h1, h2⟩
theorem put_ok {h h' : Heap} {a : Addr} {C nm ds : String} {fs : List (String × String × Value)} {j : Nat} {old v : Value} (K : CellOk Z a0 n0 h a (.inl (C, fs))) (hf : fs[j]? = some (nm, ds, old)) (W' : Wr h h' a (RoadKit.slotOf Z C nm ds) (lf n0 v)) :
    CellOk Z a0 n0 h' a (.inl (C, fs.set j (nm, ds, v))) := by
  obtain ⟨E, I, N, F⟩ := K
  have hj := lt_of_at hf
  have hfm := List.mem_of_getElem? hf
  refine ⟨E.wr W', I, ?_, fun f hfm' => ?_⟩
  · have : (fs.set j (nm, ds, v)).map (·.1) = fs.map (·.1) := by
      rw [List.map_set]
      apply List.ext_getElem? 
      intro i
      by_cases q : i = j
      · subst q
        rw [List.getElem?_set_self (by simpa using hj)]
        simp [hf]
      · rw [List.getElem?_set_ne (Ne.symm q)]
    rw [this]; exact N
  · obtain ⟨i, hi⟩ := List.getElem?_of_mem hfm'
    by_cases q : i = j
    · subst q
      rw [List.getElem?_set_self hj] at hi
      cases hi
      exact ⟨(F _ hfm).1, (F _ hfm).2.1, (F _ hfm).2.2.same W'⟩
    · rw [List.getElem?_set_ne (Ne.symm q)] at hi
      have hm := List.mem_of_getElem? hi
      obtain ⟨t1, ht1⟩ := (F _ hm).2.1
      obtain ⟨t2, ht2⟩ := (F _ hfm).2.1
      refine ⟨(F _ hm).1, (F _ hm).2.1, (F _ hm).2.2.other W' (Or.inr (slot_ne (F _ hm).1 (F _ hfm).1 (fun e => q ?_) ht1 ht2))⟩
      have n1 : (fs.map (·.1))[i]? = some f.1 := by simp [hi]
      have n2 : (fs.map (·.1))[j]? = some nm := by simp [hf]
      have li := lt_of_at n1
      have lj := lt_of_at n2
      refine (List.getElem_inj (h₀ := li) (h₁ := lj) N).mp ?_
      have e1 := (List.getElem?_eq_some_iff.mp n1).2
      have e2 := (List.getElem?_eq_some_iff.mp n2).2
      rw [e1, e2]; exact e
theorem putfield' (hw : ∀ d ∈ W, d.before a0 Z = true) {i i2 idx a j : Nat} {C nm ds : String} {fs fs' : List (String × String × Value)} {old v : Value} {ty : FieldType} {H' : SH} (w : W[i]? = some (.fieldLink B.1.cls idx C nm ds))
    (w2 : W[i2]? = some (.lays C C nm ds) ∨ (W[i2]? = some (.laysFinal C C nm ds) ∧ B.1.cls = C ∧ B.1.name = "<init>")) (d : decode B.2.1 pc = .ok (.putfield idx, 3))
    (hH : H[a]? = some (.inl (C, fs))) (hf : fs[j]? = some (nm, ds, old)) (hty : parseFieldDescriptor ds = some ty) (hn : narrow ty v = v) (hfit : fits ty v = true) (hset1 : fs.set j (nm, ds, v) = fs') (hset : H.set a (.inl (C, fs')) = H')
    (hr : WP l Z a0 n0 B R k n (pc + 3) L S H' Q) : WP l Z a0 n0 B R k n pc L (v :: .ref a :: S) H Q := by
  intro p e s m args below meth c T locs X hx hc hml hret hlk hZ hown hnm hF hR
  have K0 := hR.2 a _ hH
  have K := K0.2.2.2 _ (List.mem_of_getElem? hf)
  obtain ⟨kk, hk⟩ := K0.2.1
  obtain ⟨T', h', X', e', W', st⟩ := putF X hx hZ hown (host := "") (Or.inl (hw _ (List.mem_of_getElem? w))) Via.refl rfl K.2.2 K0.1 (w2.imp (fun q => hw _ (List.mem_of_getElem? q)) (fun q => ⟨hw _ (List.mem_of_getElem? q.1), q.2.1, hnm.trans q.2.2⟩)) hk hty (lf_narrow hn) (lf_fits hfit) (g := mkF m pc (LL n0 L) ((v :: Value.ref a :: S).map (lf n0))) rfl rfl (hb hc d)
  have hR' : Rep Z a0 n0 T'.heap H' := by
    rw [e', ← hset, ← hset1]
    exact hR.set W' (lt_of_at hH) (put_ok K0 hf W')
  obtain ⟨t, o, h1, h2⟩ := hr p e s m args below meth c T' _ X' hx hc hml hret hlk hZ hown hnm (Fr.snoc X' hF (Nat.le_add_right _ _)) hR'
  exact ⟨t, o, st _ h1, h2⟩
theorem putfield (hw : ∀ d ∈ W, d.before a0 Z = true) {i i2 idx a j : Nat} {C nm ds : String} {fs fs' : List (String × String × Value)} {old v : Value} {ty : FieldType} {H' : SH} (w : W[i]? = some (.fieldLink B.1.cls idx C nm ds))
    (w2 : W[i2]? = some (.lays C C nm ds)) (d : decode B.2.1 pc = .ok (.putfield idx, 3))
    (hH : H[a]? = some (.inl (C, fs))) (hf : fs[j]? = some (nm, ds, old)) (hty : parseFieldDescriptor ds = some ty) (hn : narrow ty v = v) (hfit : fits ty v = true) (hset1 : fs.set j (nm, ds, v) = fs') (hset : H.set a (.inl (C, fs')) = H')
    (hr : WP l Z a0 n0 B R k n (pc + 3) L S H' Q) : WP l Z a0 n0 B R k n pc L (v :: .ref a :: S) H Q := putfield' hw w (Or.inl w2) d hH hf hty hn hfit hset1 hset hr
theorem putfieldF (hw : ∀ d ∈ W, d.before a0 Z = true) {i i2 idx a j : Nat} {C nm ds : String} {fs fs' : List (String × String × Value)} {old v : Value} {ty : FieldType} {H' : SH} (w : W[i]? = some (.fieldLink B.1.cls idx C nm ds))
    (w2 : W[i2]? = some (.laysFinal C C nm ds)) (hC : B.1.cls = C) (hI : B.1.name = "<init>") (d : decode B.2.1 pc = .ok (.putfield idx, 3))
    (hH : H[a]? = some (.inl (C, fs))) (hf : fs[j]? = some (nm, ds, old)) (hty : parseFieldDescriptor ds = some ty) (hn : narrow ty v = v) (hfit : fits ty v = true) (hset1 : fs.set j (nm, ds, v) = fs') (hset : H.set a (.inl (C, fs')) = H')
    (hr : WP l Z a0 n0 B R k n (pc + 3) L S H' Q) : WP l Z a0 n0 B R k n pc L (v :: .ref a :: S) H Q := putfield' hw w (Or.inr ⟨w2, hC, hI⟩) d hH hf hty hn hfit hset1 hset hr
theorem newobj (hw : ∀ d ∈ W, d.before a0 Z = true) {i1 i2 i3 idx cnt a k' n' : Nat} {C : String} {fs : List (String × String × Value)} {H' : SH} (w1 : W[i1]? = some (.classLink B.1.cls idx C)) (w2 : W[i2]? = some (.instantiable C cnt)) (w3 : W[i3]? = some (.initialized C)) (d : decode B.2.1 pc = .ok (.new idx, 3))
    (hfs : ∀ f ∈ fs, (.lays C C f.1 f.2.1 ∈ W ∨ .laysFinal C C f.1 f.2.1 ∈ W) ∧ ∃ ty, parseFieldDescriptor f.2.1 = some ty ∧ defaultValue ty = f.2.2) (hnd : (fs.map (·.1)).Nodup) (hc : k + 1 ≤ R.cells) (hl : n + cnt ≤ R.slots) (hk : k + 1 = k') (hn : n + cnt = n') (hlen : H.length = a) (happ : H ++ [.inl (C, fs)] = H')
    (hr : WP l Z a0 n0 B R k' n' (pc + 3) L (.ref a :: S) H' Q) : WP l Z a0 n0 B R k n pc L S H Q := by
  intro p e s m args below meth c T locs X hx hc' hml hret hlk hZ hown hnm hF hR
  subst hk hn hlen happ
  have v1 := hw _ (List.mem_of_getElem? w1)
  have v2 := hw _ (List.mem_of_getElem? w2)
  have v3 := hw _ (List.mem_of_getElem? w3)
  obtain ⟨vm', cC, kC, h1, h2, h3, h4, X', st⟩ := X.newCold hx hown (mv hZ v1) (mv hZ v2) (mv hZ v3) (g := mkF m pc (LL n0 L) (S.map (lf n0))) rfl (hb hc' d) hc hl
  rw [hZ.alike.findClass] at h1
  obtain ⟨kZ, z1, -⟩ := Vm.findClass_spec h1
  obtain ⟨kx, z2, z3⟩ := hZ.alike.2.2 _ _ z1
  cases h2.symm.trans z2
  have ei : kC.instanceTypes = kZ.instanceTypes := by rw [z3]
  have hN : (T.heap.push { cls := cC, slots := kC.instanceTypes.map defaultValue, vm := .none })[T.heap.size]? = some { cls := cC, slots := kC.instanceTypes.map defaultValue, vm := .none } := by simp
  have E : Exa Z (T.heap.push { cls := cC, slots := kC.instanceTypes.map defaultValue, vm := .none }) T.heap.size C := ⟨_, kZ, hN, h1, z1, rfl, fun _ => by simp [ei]⟩
  have hR' : Rep Z a0 n0 (T.heap.push { cls := cC, slots := kC.instanceTypes.map defaultValue, vm := .none }) (H ++ [.inl (C, fs)]) := by
    refine hR.push (ext_push _ _) (by simp) ⟨E, ⟨_, v2⟩, hnd, fun f hf => ?_⟩
    obtain ⟨hL, ty, ht, hdv⟩ := hfs f hf
    have LD : Laid Z a0 C C f.1 f.2.1 := hL.imp (fun q => hw _ q) (fun q => hw _ q)
    refine ⟨LD, ⟨ty, ht⟩, ?_⟩
    obtain ⟨c1, k1, cf, kf, i, fd, b1, b2, b3, b4, b5, b6, -⟩ := LD.spec
    cases h1.symm.trans b1
    cases z1.symm.trans b2
    rw [← hdv, lf_default]
    exact ⟨_, cf, kf, i, fd, hN, b3, b4, by simp, rfl, b5, by simp [ei, b6, (State.fieldFound?_type b3 ht).2]⟩
  obtain ⟨t, o, g1, g2⟩ := hr p e s m args below meth c _ locs X' hx hc' hml hret hlk hZ hown hnm hF hR'
  refine ⟨t, o, st _ ?_, g2⟩
  rw [hR.1]
  exact g1
theorem newarr (hw : ∀ d ∈ W, d.before a0 Z = true) {i N cap a k' n' : Nat} {aty : ArrayType} {ty : FieldType} {dv : Value} {vs : List Value} {x : Int32} {H' : SH} (w : W[i]? = some (.arrayClass ty)) (hty : newarray.typeOf aty = ty) (d : decode B.2.1 pc = .ok (.newarray aty, 2))
    (hdv : defaultValue ty = dv) (hx0 : ¬ x < 0) (hN : x.toNatClampNeg = N) (hvs : List.replicate N dv = vs) (hcap : N ≤ cap) (hb' : cap * 8 ≤ 536870912) (hc : k + 1 ≤ R.cells) (hl : n + cap ≤ R.slots) (hk : k + 1 = k') (hn : n + cap = n') (hlen : H.length = a) (happ : H ++ [.inr (ty, vs)] = H')
    (hr : WP l Z a0 n0 B R k' n' (pc + 2) L (.ref a :: S) H' Q) : WP l Z a0 n0 B R k n pc L (.int x :: S) H Q := by
  intro p e s m args below meth c T locs X hx hc' hml hret hlk hZ hown hnm hF hR
  subst hk hn hlen happ hty hN hdv hvs
  have v1 := hw _ (List.mem_of_getElem? w)
  have hcb : componentBytes (newarray.typeOf aty) ≤ 8 := by cases aty <;> decide
  obtain ⟨cA, kA, comp, h1, h2, h3, X', st⟩ := X.newarrayPrim hx (mvA hZ v1) (g := mkF m pc (LL n0 L) ((Value.int x :: S).map (lf n0))) rfl (hb hc' d) rfl hx0 (Nat.le_trans (Nat.mul_le_mul hcap hcb) hb') hc (by omega)
  rw [hZ.alike.findClass] at h1
  obtain ⟨kZ, z1, -⟩ := Vm.findClass_spec h1
  obtain ⟨kx, z2, z3⟩ := hZ.alike.2.2 _ _ z1
  cases h2.symm.trans z2
  have hR' : Rep Z a0 n0 (T.heap.push { cls := cA, slots := Array.replicate x.toNatClampNeg (defaultValue (newarray.typeOf aty)), vm := .none }) (H ++ [.inr (newarray.typeOf aty, List.replicate x.toNatClampNeg (defaultValue (newarray.typeOf aty)))]) := by
    refine hR.push (ext_push _ _) (by simp) ⟨_, ⟨by simp; rfl, ⟨by simp, kZ, z1, comp, by rw [← h3, z3]⟩, by simp⟩, ?_, ?_⟩
    · apply Array.toList_inj.mp
      simp [lf_default]
    · have := (back32 hx0).2
      simpa using this
  obtain ⟨t, o, g1, g2⟩ := hr p e s m args below meth c _ locs (X'.more (Nat.le_refl _) (by omega)) hx hc' hml hret hlk hZ hown hnm hF hR'
  refine ⟨t, o, st _ ?_, g2⟩
  rw [hR.1]
  exact g1
theorem arr_at {h : Heap} {a : Nat} {ty : FieldType} {vs : List Value} {j : Int32} {jn : Nat} (hR : Rep Z a0 n0 h H) (hH : H[a]? = some (.inr (ty, vs))) (hj0 : ¬ j < 0) (hj : j.toNatClampNeg = jn) (hlt : jn < vs.length) :
    ∃ c : Cell, Arr Z h (n0 + a) c ty ∧ c.slots = (vs.map (lf n0)).toArray ∧ vs.length < 2 ^ 31 ∧ ¬ (j < 0 ∨ c.slots.size ≤ j.toNatClampNeg) := by
  obtain ⟨c, A, e, hl⟩ := hR.2 a _ hH
  refine ⟨c, A, e, hl, fun q => q.elim hj0 fun q => ?_⟩
  rw [e, hj] at q
  simp at q
  omega
theorem load_at {c : Cell} {vs : List Value} {j : Int32} {jn : Nat} {v : Value} (e : c.slots = (vs.map (lf n0)).toArray) (hj : j.toNatClampNeg = jn) (hv : vs[jn]? = some v) : c.slots[j.toNatClampNeg]? = some (lf n0 v) := by
  rw [e, hj]; simp [hv]
theorem iaload {a jn : Nat} {vs : List Value} {j : Int32} {v : Value} (d : decode B.2.1 pc = .ok (.iaload, 1)) (hH : H[a]? = some (.inr (.int, vs))) (hj0 : ¬ j < 0) (hj : j.toNatClampNeg = jn) (hv : vs[jn]? = some v)
    (hr : WP l Z a0 n0 B R k n (pc + 1) L (v :: S) H Q) : WP l Z a0 n0 B R k n pc L (.int j :: .ref a :: S) H Q := by
  intro p e s m args below meth c T locs X hx hc hml hret hlk hZ hown hnm hF hR
  obtain ⟨cl, A, es, -, hin⟩ := arr_at hR hH hj0 hj (lt_of_at hv)
  obtain ⟨t, o, h1, h2⟩ := hr p e s m args below meth c T locs X hx hc hml hret hlk hZ hown hnm hF hR
  exact ⟨t, o, X.iaload hx A.1 (State.isArrayOf_alike hZ.alike A.2.1) A.2.2 hin (load_at es hj hv) (g := mkF m pc (LL n0 L) ((Value.int j :: Value.ref a :: S).map (lf n0))) rfl rfl (hb hc d) _ h1, h2⟩
theorem laload {a jn : Nat} {vs : List Value} {j : Int32} {v : Value} (d : decode B.2.1 pc = .ok (.laload, 1)) (hH : H[a]? = some (.inr (.long, vs))) (hj0 : ¬ j < 0) (hj : j.toNatClampNeg = jn) (hv : vs[jn]? = some v)
    (hr : WP l Z a0 n0 B R k n (pc + 1) L (v :: S) H Q) : WP l Z a0 n0 B R k n pc L (.int j :: .ref a :: S) H Q := by
  intro p e s m args below meth c T locs X hx hc hml hret hlk hZ hown hnm hF hR
  obtain ⟨cl, A, es, -, hin⟩ := arr_at hR hH hj0 hj (lt_of_at hv)
  obtain ⟨t, o, h1, h2⟩ := hr p e s m args below meth c T locs X hx hc hml hret hlk hZ hown hnm hF hR
  exact ⟨t, o, X.laload hx A.1 (State.isArrayOf_alike hZ.alike A.2.1) A.2.2 hin (load_at es hj hv) (g := mkF m pc (LL n0 L) ((Value.int j :: Value.ref a :: S).map (lf n0))) rfl rfl (hb hc d) _ h1, h2⟩
theorem baload {a jn : Nat} {vs : List Value} {j : Int32} {v : Value} (d : decode B.2.1 pc = .ok (.baload, 1)) (hH : H[a]? = some (.inr (.byte, vs))) (hj0 : ¬ j < 0) (hj : j.toNatClampNeg = jn) (hv : vs[jn]? = some v)
    (hr : WP l Z a0 n0 B R k n (pc + 1) L (v :: S) H Q) : WP l Z a0 n0 B R k n pc L (.int j :: .ref a :: S) H Q := by
  intro p e s m args below meth c T locs X hx hc hml hret hlk hZ hown hnm hF hR
  obtain ⟨cl, A, es, -, hin⟩ := arr_at hR hH hj0 hj (lt_of_at hv)
  obtain ⟨t, o, h1, h2⟩ := hr p e s m args below meth c T locs X hx hc hml hret hlk hZ hown hnm hF hR
  exact ⟨t, o, X.baloadBytes hx A.1 (State.isArrayOf_alike hZ.alike A.2.1) A.2.2 hin (load_at es hj hv) (g := mkF m pc (LL n0 L) ((Value.int j :: Value.ref a :: S).map (lf n0))) rfl rfl (hb hc d) _ h1, h2⟩
theorem set_rep {h h' : Heap} {a jn : Nat} {ty : FieldType} {vs vs' : List Value} {c : Cell} {v : Value} {H' : SH} (hR : Rep Z a0 n0 h H) (hH : H[a]? = some (.inr (ty, vs))) (A : Arr Z h (n0 + a) c ty) (es : c.slots = (vs.map (lf n0)).toArray) (hlen : vs.length < 2 ^ 31) (W' : Wr h h' (n0 + a) jn (lf n0 v))
    (hset : vs.set jn v = vs') (hset2 : H.set a (.inr (ty, vs')) = H') : Rep Z a0 n0 h' H' := by
  subst hset hset2
  refine hR.set W' (lt_of_at hH) ⟨_, A.same W', ?_, by simpa using hlen⟩
  simp only [Cell.setSlot, es]
  apply Array.toList_inj.mp
  simp [List.map_set]
theorem iastore {a jn : Nat} {vs vs' : List Value} {j x : Int32} {H' : SH} (d : decode B.2.1 pc = .ok (.iastore, 1)) (hH : H[a]? = some (.inr (.int, vs))) (hj0 : ¬ j < 0) (hj : j.toNatClampNeg = jn) (hlt : jn < vs.length) (hset : vs.set jn (.int x) = vs') (hset2 : H.set a (.inr (.int, vs')) = H')
    (hr : WP l Z a0 n0 B R k n (pc + 1) L S H' Q) : WP l Z a0 n0 B R k n pc L (.int x :: .int j :: .ref a :: S) H Q := by
  intro p e s m args below meth c T locs X hx hc hml hret hlk hZ hown hnm hF hR
  obtain ⟨cl, A, es, hlen, hin⟩ := arr_at hR hH hj0 hj hlt
  obtain ⟨T', h', X', e', W', st⟩ := stI X hx hZ rfl A hin (g := mkF m pc (LL n0 L) ((Value.int x :: Value.int j :: Value.ref a :: S).map (lf n0))) rfl rfl (hb hc d)
  obtain ⟨t, o, h1, h2⟩ := hr p e s m args below meth c T' _ X' hx hc hml hret hlk hZ hown hnm (Fr.snoc X' hF (Nat.le_add_right _ _)) (by rw [e']; exact set_rep hR hH A es hlen (hj ▸ W') hset hset2)
  exact ⟨t, o, st _ h1, h2⟩
theorem lastore {a jn : Nat} {vs vs' : List Value} {j : Int32} {x : Int64} {H' : SH} (d : decode B.2.1 pc = .ok (.lastore, 1)) (hH : H[a]? = some (.inr (.long, vs))) (hj0 : ¬ j < 0) (hj : j.toNatClampNeg = jn) (hlt : jn < vs.length) (hset : vs.set jn (.long x) = vs') (hset2 : H.set a (.inr (.long, vs')) = H')
    (hr : WP l Z a0 n0 B R k n (pc + 1) L S H' Q) : WP l Z a0 n0 B R k n pc L (.long x :: .int j :: .ref a :: S) H Q := by
  intro p e s m args below meth c T locs X hx hc hml hret hlk hZ hown hnm hF hR
  obtain ⟨cl, A, es, hlen, hin⟩ := arr_at hR hH hj0 hj hlt
  obtain ⟨T', h', X', e', W', st⟩ := stJ X hx hZ rfl A hin (g := mkF m pc (LL n0 L) ((Value.long x :: Value.int j :: Value.ref a :: S).map (lf n0))) rfl rfl (hb hc d)
  obtain ⟨t, o, h1, h2⟩ := hr p e s m args below meth c T' _ X' hx hc hml hret hlk hZ hown hnm (Fr.snoc X' hF (Nat.le_add_right _ _)) (by rw [e']; exact set_rep hR hH A es hlen (hj ▸ W') hset hset2)
  exact ⟨t, o, st _ h1, h2⟩
theorem bastore {a jn : Nat} {vs vs' : List Value} {j x y : Int32} {H' : SH} (d : decode B.2.1 pc = .ok (.bastore, 1)) (hH : H[a]? = some (.inr (.byte, vs))) (hj0 : ¬ j < 0) (hj : j.toNatClampNeg = jn) (hlt : jn < vs.length) (hy : x.toInt8.toInt32 = y) (hset : vs.set jn (.int y) = vs') (hset2 : H.set a (.inr (.byte, vs')) = H')
    (hr : WP l Z a0 n0 B R k n (pc + 1) L S H' Q) : WP l Z a0 n0 B R k n pc L (.int x :: .int j :: .ref a :: S) H Q := by
  intro p e s m args below meth c T locs X hx hc hml hret hlk hZ hown hnm hF hR
  obtain ⟨cl, A, es, hlen, hin⟩ := arr_at hR hH hj0 hj hlt
  obtain ⟨T', h', X', e', W', st⟩ := stB X hx hZ rfl A hin (g := mkF m pc (LL n0 L) ((Value.int x :: Value.int j :: Value.ref a :: S).map (lf n0))) rfl rfl (hb hc d)
  subst hy
  obtain ⟨t, o, h1, h2⟩ := hr p e s m args below meth c T' _ X' hx hc hml hret hlk hZ hown hnm (Fr.snoc X' hF (Nat.le_add_right _ _)) (by rw [e']; exact set_rep (v := .int x.toInt8.toInt32) hR hH A es hlen (hj ▸ W') hset hset2)
  exact ⟨t, o, st _ h1, h2⟩
theorem arraylength {a : Nat} {ty : FieldType} {vs : List Value} {N : Int32} (d : decode B.2.1 pc = .ok (.arraylength, 1)) (hH : H[a]? = some (.inr (ty, vs))) (hN : vs.length.toInt32 = N) (hr : WP l Z a0 n0 B R k n (pc + 1) L (.int N :: S) H Q) : WP l Z a0 n0 B R k n pc L (.ref a :: S) H Q := by
  intro p e s m args below meth c T locs X hx hc hml hret hlk hZ hown hnm hF hR
  obtain ⟨cl, A, es, -⟩ := hR.2 a _ hH
  obtain ⟨t, o, h1, h2⟩ := hr p e s m args below meth c T locs X hx hc hml hret hlk hZ hown hnm hF hR
  refine ⟨t, o, X.arraylength hx A.1 (State.isArrayOf_alike hZ.alike A.2.1) (g := mkF m pc (LL n0 L) ((Value.ref a :: S).map (lf n0))) rfl rfl (hb hc d) _ ?_, h2⟩
  have e1 : cl.slots.size.toInt32 = N := by rw [es, ← hN]; simp
  rw [e1]
  exact h1
/-! ### returns -/
theorem leave' {p : Program} {e : Env} {s : State} {m : MethodId} {args : Array Value} {below : List Frame} {meth : Method} {c : Code} {T : State} {locs : List Loc} (X : Stand p l e R s m args below meth c T locs k n) (hlk : meth.locks = false) {v : Option Value} (hv : meth.sig.returnType = none → v = none) (hF : Fr n0 locs) (hR : Rep Z a0 n0 T.heap H) (hQ : Q v H) (hk : k ≤ R.cells) (hn : n ≤ R.slots) {g : JFrame}
    (st : ∀ fs, (∀ (f : JFrame) (acts : List Action), f.method = m → f.locked = none → f.entered = [] → (doReturn e (T.setTop f) acts (v.map (lf n0))).1 = T.setFrames fs) → Steps p.tables e below (T.setTop g) (T.setFrames fs)) :
    ∃ t o, Steps p.tables e below (T.setTop g) t ∧ t.status = .running ∧ Ended t below o ∧
      ∃ v L', o = .returned (v.map (lf n0)) ∧ (∃ H', Q v H' ∧ Rep Z a0 n0 t.heap H') ∧ Fr n0 L' ∧ FrameEnd s o t L' R.cells R.slots := by
  obtain ⟨fs, hr, hrun, hended, hW, hsame⟩ := X.leave (v := v.map (lf n0)) (fun q => by rw [hv q]; rfl) hlk
  exact ⟨_, _, st fs hr, hrun, hended, v, locs, rfl, ⟨H, hQ, hR⟩, hF, ⟨_, rfl⟩, hW, hsame.mono hk hn⟩
theorem retI {x : Int32} (d : decode B.2.1 pc = .ok (.ireturn, 1)) (hrt : B.2.2.2 = some .int) (hk : k ≤ R.cells) (hn : n ≤ R.slots) (hQ : Q (some (.int x)) H) : WP l Z a0 n0 B R k n pc L (.int x :: S) H Q := by
  intro p e s m args below meth c T locs X hx hc hml hret hlk hZ hown hnm hF hR
  refine leave' X hlk (v := some (.int x)) (fun q => by rw [hret, hrt] at q; cases q) hF hR hQ hk hn fun fs hr => ?_
  exact retOut X hx (hret.trans hrt) rfl (Or.inl ⟨rfl, Or.inl rfl, x, rfl⟩) (hb hc d) hr
theorem retN {x y : Int32} {ty : FieldType} (d : decode B.2.1 pc = .ok (.ireturn, 1)) (hrt : B.2.2.2 = some ty) (ht : ty = .boolean ∨ ty = .byte ∨ ty = .char ∨ ty = .short) (hy : nar ty x = y) (hk : k ≤ R.cells) (hn : n ≤ R.slots) (hQ : Q (some (.int y)) H) : WP l Z a0 n0 B R k n pc L (.int x :: S) H Q := by
  intro p e s m args below meth c T locs X hx hc hml hret hlk hZ hown hnm hF hR
  subst hy
  refine leave' X hlk (v := some (.int (nar ty x))) (fun q => by rw [hret, hrt] at q; cases q) hF hR hQ hk hn fun fs hr => ?_
  exact RoadKit.retN X hx (hret.trans hrt) ht (hb hc d) hr
theorem retL {x : Int64} (d : decode B.2.1 pc = .ok (.lreturn, 1)) (hrt : B.2.2.2 = some .long) (hk : k ≤ R.cells) (hn : n ≤ R.slots) (hQ : Q (some (.long x)) H) : WP l Z a0 n0 B R k n pc L (.long x :: S) H Q := by
  intro p e s m args below meth c T locs X hx hc hml hret hlk hZ hown hnm hF hR
  refine leave' X hlk (v := some (.long x)) (fun q => by rw [hret, hrt] at q; cases q) hF hR hQ hk hn fun fs hr => ?_
  exact retOut X hx (hret.trans hrt) rfl (Or.inr (Or.inl ⟨rfl, rfl, x, rfl⟩)) (hb hc d) hr
theorem retA {v : Value} {ty : FieldType} (d : decode B.2.1 pc = .ok (.areturn, 1)) (hrt : B.2.2.2 = some ty) (ht : ty.isReference = true) (hv : v.isRef = true) (hk : k ≤ R.cells) (hn : n ≤ R.slots) (hQ : Q (some v) H) : WP l Z a0 n0 B R k n pc L (v :: S) H Q := by
  intro p e s m args below meth c T locs X hx hc hml hret hlk hZ hown hnm hF hR
  refine leave' X hlk (v := some v) (fun q => by rw [hret, hrt] at q; cases q) hF hR hQ hk hn fun fs hr => ?_
  refine retOut X hx (hret.trans hrt) ?_ (Or.inr (Or.inr (Or.inr (Or.inr ⟨rfl, ht, by rw [lf_isRef]; exact hv⟩)))) (hb hc d) hr
  cases ty <;> first | (cases ht; done) | rfl
theorem ret0 (d : decode B.2.1 pc = .ok (.return_, 1)) (hrt : B.2.2.2 = none) (hk : k ≤ R.cells) (hn : n ≤ R.slots) (hQ : Q none H) : WP l Z a0 n0 B R k n pc L [] H Q := by
  intro p e s m args below meth c T locs X hx hc hml hret hlk hZ hown hnm hF hR
  refine leave' X hlk (v := none) (fun _ => rfl) hF hR hQ hk hn fun fs hr => ?_
  exact X.returnOut hx (hret.trans hrt) (hb hc d) hr
/-! ### calls -/
theorem cat_sum (n0 : Nat) (S : List Value) : ((S.map (lf n0)).map fun v => v.category).sum = (S.map fun v => v.category).sum := by
  simp [List.map_map, Function.comp_def, lf_cat]
theorem lf_out (n0 : Nat) (v : Option Value) (S : List Value) : (v.map (lf n0)).toList ++ S.map (lf n0) = (v.toList ++ S).map (lf n0) := by cases v <;> simp
theorem rep_plain {h : Heap} {a : Nat} {c : SC} (hR : Rep Z a0 n0 h H) (hH : H[a]? = some c) : ∃ cell : Cell, h[n0 + a]? = some cell ∧ ∀ q, cell.vm ≠ .statics q := by
  have K := hR.2 a _ hH
  rcases c with ⟨C, fs⟩ | ⟨ty, vs⟩
  · exact K.1.cell
  · obtain ⟨c, A, -⟩ := K
    exact ⟨c, A.1, A.2.1.1⟩
variable {B' : Bdy} {R' : Room} {as S' : List Value} {Q' : Option Value → SH → Prop} {ps : List FieldType} {r : Option FieldType} {i1 i2 i3 i4 i5 idx k' n' : Nat}
theorem callS (hw : ∀ d ∈ W, d.before a0 Z = true) (w1 : W[i1]? = some (.methodLink B.1.cls idx B'.1)) (w2 : W[i2]? = some (.static B'.1)) (w3 : W[i3]? = some (.initialized B'.1.cls)) (w4 : W[i4]? = some (.code B'.1 B'.2.1 B'.2.2.1 B'.2.2.2))
    (hy : B'.1.cls ≠ "java/lang/invoke/MethodHandle" ∧ B'.1.cls ≠ "java/lang/invoke/VarHandle") (hM : Meth l Z a0 n0 B' R' as H Q') (d : decode B.2.1 pc = .ok (.invokestatic idx, 3)) (hS : S = as.reverse ++ S') (hL : L.length = B.2.2.1) (hd : parseMethodDescriptor B'.1.desc = some ⟨ps, r⟩) (hps : as.length = ps.length)
    (hf : R'.frames + 1 ≤ R.frames) (hl : (S'.map fun v => v.category).sum + (B'.2.2.1 + 11) + R'.locals ≤ R.locals) (hc : k + R'.cells ≤ R.cells) (hs : n + R'.slots ≤ R.slots) (hk : k + R'.cells = k') (hn : n + R'.slots = n')
    (hr : ∀ v H', Q' v H' → WP l Z a0 n0 B R k' n' (pc + 3) L (v.toList ++ S') H' Q) : WP l Z a0 n0 B R k n pc L S H Q := by
  intro p e s m args below meth c T locs X hx hc' hml hret hlk hZ hown hnm hF hR
  subst hk hn hS
  have v4 := hw _ (List.mem_of_getElem? w4)
  have v3 := hw _ (List.mem_of_getElem? w3)
  obtain ⟨_, _, ⟨T', L1, k1, n1⟩, -, X', ⟨L2, ⟨v, H', rfl, hq, hR', hF'⟩, e1, e2, e3⟩, st⟩ := Jvm.LawKit.callS X hx hown (mvT hZ (hw _ (List.mem_of_getElem? w1))) (mvT hZ (hw _ (List.mem_of_getElem? w2))) (mvT hZ v3) (mvT hZ v4) hy (W := (S'.map fun v => v.category).sum)
    (backOf (h := T.heap) (Q := fun v h L => ∃ v' H', v = v'.map (lf n0) ∧ Q' v' H' ∧ Rep Z a0 n0 h H' ∧ Fr n0 L) (hM T.heap [] hR) hZ v4 v3 hf hl) (g := mkF m pc (LL n0 L) ((as.reverse ++ S').map (lf n0))) rfl (by rw [hml, ← hL]; simp) (argsL := as.map (lf n0)) (rest := S'.map (lf n0)) (lenOf hd (by simpa using hps)) (by simp) (by show 2 * 0 + _ ≤ _; rw [cat_sum]; omega) (hb hc' d) (fun _ _ => ⟨rfl, rfl, hc, hs⟩)
  dsimp only [Pt.U, Pt.locs, Pt.cells, Pt.slots] at X' e1 e2 e3 hR' st
  subst e1 e2 e3
  obtain ⟨t, o, h1, h2⟩ := hr v H' hq p e s m args below meth c T' _ X' hx hc' hml hret hlk hZ hown hnm (Fr.app hF hF') hR'
  refine ⟨t, o, st _ ?_, h2⟩
  rw [lf_out]
  exact h1
theorem callI {a : Nat} (hw : ∀ d ∈ W, d.before a0 Z = true) (hi : B'.1.name = "<init>") (hret' : B'.2.2.2 = none) (w1 : W[i1]? = some (.methodLink B.1.cls idx B'.1)) (w2 : W[i2]? = some (.instanceMethod B'.1)) (w3 : W[i3]? = some (.initialized B'.1.cls)) (w4 : W[i4]? = some (.code B'.1 B'.2.1 B'.2.2.1 B'.2.2.2))
    (hy : B'.1.cls ≠ "java/lang/invoke/MethodHandle" ∧ B'.1.cls ≠ "java/lang/invoke/VarHandle") (hM : Meth l Z a0 n0 B' R' (.ref a :: as) H Q') (d : decode B.2.1 pc = .ok (.invokespecial idx, 3)) (hS : S = as.reverse ++ .ref a :: S') (hL : L.length = B.2.2.1) (hd : parseMethodDescriptor B'.1.desc = some ⟨ps, r⟩) (hps : as.length = ps.length)
    (hf : R'.frames + 1 ≤ R.frames) (hl : (S'.map fun v => v.category).sum + (B'.2.2.1 + 11) + R'.locals ≤ R.locals) (hc : k + R'.cells ≤ R.cells) (hs : n + R'.slots ≤ R.slots) (hk : k + R'.cells = k') (hn : n + R'.slots = n')
    (hr : ∀ v H', Q' v H' → WP l Z a0 n0 B R k' n' (pc + 3) L (v.toList ++ S') H' Q) : WP l Z a0 n0 B R k n pc L S H Q := by
  intro p e s m args below meth c T locs X hx hc' hml hret hlk hZ hown hnm hF hR
  subst hk hn hS
  have v4 := hw _ (List.mem_of_getElem? w4)
  have v3 := hw _ (List.mem_of_getElem? w3)
  obtain ⟨_, _, ⟨T', L1, k1, n1⟩, -, X', ⟨L2, ⟨v, H', rfl, hq, hR', hF'⟩, e1, e2, e3⟩, st⟩ := X.specialBack hx hi hown (mvT hZ (hw _ (List.mem_of_getElem? w1))) (mvT hZ (hw _ (List.mem_of_getElem? w2))) (bytes := B'.2.1) (maxL := B'.2.2.1) (by rw [← hret']; exact mvT hZ v4) hy (W := (S'.map fun v => v.category).sum)
    (backOf (h := T.heap) (Q := fun v h L => ∃ v' H', v = v'.map (lf n0) ∧ Q' v' H' ∧ Rep Z a0 n0 h H' ∧ Fr n0 L) (hM T.heap [] hR) hZ v4 v3 hf hl) (g := mkF m pc (LL n0 L) ((as.reverse ++ Value.ref a :: S').map (lf n0))) rfl (by rw [hml, ← hL]; simp) (Steps.refl _) (a := n0 + a) (argsL := as.map (lf n0)) (rest := S'.map (lf n0)) (lenOf hd (by simpa using hps)) (by simp [lf]) (by show 2 * 0 + _ ≤ _; rw [cat_sum]; omega) (hb hc' d) (fun _ _ => ⟨rfl, rfl, hc, hs⟩)
  dsimp only [Pt.U, Pt.locs, Pt.cells, Pt.slots] at X' e1 e2 e3 hR' st
  subst e1 e2 e3
  obtain ⟨t, o, h1, h2⟩ := hr v H' hq p e s m args below meth c T' _ X' hx hc' hml hret hlk hZ hown hnm (Fr.app hF hF') hR'
  refine ⟨t, o, st.trans ?_, h2⟩
  rw [lf_out]
  exact h1
theorem callV {a : Nat} {fs : List (String × String × Value)} (hw : ∀ d ∈ W, d.before a0 Z = true) (w1 : W[i1]? = some (.methodLink B.1.cls idx B'.1)) (w5 : W[i5]? = some (.declares B'.1)) (w2 : W[i2]? = some (.instanceMethod B'.1)) {i6 : Nat} (w6 : W[i6]? = some (.selects B'.1.cls B'.1 B'.1)) (w3 : W[i3]? = some (.initialized B'.1.cls)) (w4 : W[i4]? = some (.code B'.1 B'.2.1 B'.2.2.1 B'.2.2.2))
    (hy : B'.1.cls ≠ "java/lang/invoke/MethodHandle" ∧ B'.1.cls ≠ "java/lang/invoke/VarHandle") (hH : H[a]? = some (.inl (B'.1.cls, fs))) (hM : Meth l Z a0 n0 B' R' (.ref a :: as) H Q') (d : decode B.2.1 pc = .ok (.invokevirtual idx, 3)) (hS : S = as.reverse ++ .ref a :: S') (hL : L.length = B.2.2.1) (hd : parseMethodDescriptor B'.1.desc = some ⟨ps, r⟩) (hps : as.length = ps.length)
    (hf : R'.frames + 1 ≤ R.frames) (hl : (S'.map fun v => v.category).sum + (B'.2.2.1 + 11) + R'.locals ≤ R.locals) (hc : k + R'.cells ≤ R.cells) (hs : n + R'.slots ≤ R.slots) (hk : k + R'.cells = k') (hn : n + R'.slots = n')
    (hr : ∀ v H', Q' v H' → WP l Z a0 n0 B R k' n' (pc + 3) L (v.toList ++ S') H' Q) : WP l Z a0 n0 B R k n pc L S H Q := by
  intro p e s m args below meth c T locs X hx hc' hml hret hlk hZ hown hnm hF hR
  subst hk hn hS
  have v4 := hw _ (List.mem_of_getElem? w4)
  have v3 := hw _ (List.mem_of_getElem? w3)
  have v6 := hw _ (List.mem_of_getElem? w6)
  obtain ⟨cB, kB, f1, f2, f3⟩ := isOf hZ rfl (hR.2 a _ hH).1
  obtain ⟨_, _, ⟨T', L1, k1, n1⟩, -, X', ⟨L2, ⟨v, H', rfl, hq, hR', hF'⟩, e1, e2, e3⟩, st⟩ := X.virtualBack hx hown (mvT hZ (hw _ (List.mem_of_getElem? w1))) (mvT hZ (hw _ (List.mem_of_getElem? w5))) (notFace_of_selects (args := #[]) (mvT hZ v6)) (mvT hZ v6) (mvT hZ (hw _ (List.mem_of_getElem? w2))) hy (W := (S'.map fun v => v.category).sum)
    (backOf (h := T.heap) (Q := fun v h L => ∃ v' H', v = v'.map (lf n0) ∧ Q' v' H' ∧ Rep Z a0 n0 h H' ∧ Fr n0 L) (hM T.heap [] hR) hZ v4 v3 hf hl) f1 f3 (g := mkF m pc (LL n0 L) ((as.reverse ++ Value.ref a :: S').map (lf n0))) rfl (by rw [hml, ← hL]; simp) (Steps.refl _) (argsL := as.map (lf n0)) (rest := S'.map (lf n0)) (lenOf hd (by simpa using hps)) (by simp [lf]) (by show 2 * 0 + _ ≤ _; rw [cat_sum]; omega) (hb hc' d) (fun _ _ => ⟨rfl, rfl, hc, hs⟩)
  dsimp only [Pt.U, Pt.locs, Pt.cells, Pt.slots] at X' e1 e2 e3 hR' st
  subst e1 e2 e3
  obtain ⟨t, o, h1, h2⟩ := hr v H' hq p e s m args below meth c T' _ X' hx hc' hml hret hlk hZ hown hnm (Fr.app hF hF') hR'
  refine ⟨t, o, st.trans ?_, h2⟩
  rw [lf_out]
  exact h1
/-- a private instance method: its class is no interface, as some 'instantiable' word of it says -/
theorem callP {a : Nat} {fs : List (String × String × Value)} (hw : ∀ d ∈ W, d.before a0 Z = true) (w1 : W[i1]? = some (.methodLink B.1.cls idx B'.1)) (w2 : W[i2]? = some (.instanceMethod B'.1)) (w5 : W[i5]? = some (.privateMethod B'.1)) {i6 cnt : Nat} (w6 : W[i6]? = some (.instantiable B'.1.cls cnt)) (w3 : W[i3]? = some (.initialized B'.1.cls)) (w4 : W[i4]? = some (.code B'.1 B'.2.1 B'.2.2.1 B'.2.2.2))
    (hy : B'.1.cls ≠ "java/lang/invoke/MethodHandle" ∧ B'.1.cls ≠ "java/lang/invoke/VarHandle") (hH : H[a]? = some (.inl (B'.1.cls, fs))) (hM : Meth l Z a0 n0 B' R' (.ref a :: as) H Q') (d : decode B.2.1 pc = .ok (.invokevirtual idx, 3)) (hS : S = as.reverse ++ .ref a :: S') (hL : L.length = B.2.2.1) (hd : parseMethodDescriptor B'.1.desc = some ⟨ps, r⟩) (hps : as.length = ps.length)
    (hf : R'.frames + 1 ≤ R.frames) (hl : (S'.map fun v => v.category).sum + (B'.2.2.1 + 11) + R'.locals ≤ R.locals) (hc : k + R'.cells ≤ R.cells) (hs : n + R'.slots ≤ R.slots) (hk : k + R'.cells = k') (hn : n + R'.slots = n')
    (hr : ∀ v H', Q' v H' → WP l Z a0 n0 B R k' n' (pc + 3) L (v.toList ++ S') H' Q) : WP l Z a0 n0 B R k n pc L S H Q := by
  intro p e s m args below meth c T locs X hx hc' hml hret hlk hZ hown hnm hF hR
  subst hk hn hS
  have v4 := hw _ (List.mem_of_getElem? w4)
  have v3 := hw _ (List.mem_of_getElem? w3)
  have v2 : (Jvm.Cond.instanceMethod B'.1).before args s = true := mvT hZ (hw _ (List.mem_of_getElem? w2))
  have vp := Cond.privateMethod_at (mvP hZ (hw _ (List.mem_of_getElem? w5)) (args := #[]))
  have v6 : (Jvm.Cond.instantiable B'.1.cls cnt).before args s = true := mv hZ (hw _ (List.mem_of_getElem? w6))
  obtain ⟨cI, kI, j1, j2, j3, j4⟩ := Cond.instantiable_spec v6
  have jI : kI.isInterface = false := (Bool.or_eq_false_iff.mp j4.1).1
  obtain ⟨cell, q1, q2⟩ := rep_plain hR hH
  obtain ⟨_, _, ⟨T', L1, k1, n1⟩, -, X', ⟨L2, ⟨v, H', rfl, hq, hR', hF'⟩, e1, e2, e3⟩, st⟩ := X.privateBack hx hown (mvT hZ (hw _ (List.mem_of_getElem? w1))) v2 (selects_self_of_private j1 j2 jI vp v2 hy) vp (mvT hZ v4) hy (W := (S'.map fun v => v.category).sum)
    (backOf (h := T.heap) (Q := fun v h L => ∃ v' H', v = v'.map (lf n0) ∧ Q' v' H' ∧ Rep Z a0 n0 h H' ∧ Fr n0 L) (hM T.heap [] hR) hZ v4 v3 hf hl) (g := mkF m pc (LL n0 L) ((as.reverse ++ Value.ref a :: S').map (lf n0))) rfl (by rw [hml, ← hL]; simp) (Steps.refl _) (a := n0 + a) q1 q2 (argsL := as.map (lf n0)) (rest := S'.map (lf n0)) (lenOf hd (by simpa using hps)) (by simp [lf]) (by show 2 * 0 + _ ≤ _; rw [cat_sum]; omega) (hb hc' d) (fun _ _ => ⟨rfl, rfl, hc, hs⟩)
  dsimp only [Pt.U, Pt.locs, Pt.cells, Pt.slots] at X' e1 e2 e3 hR' st
  subst e1 e2 e3
  obtain ⟨t, o, h1, h2⟩ := hr v H' hq p e s m args below meth c T' _ X' hx hc' hml hret hlk hZ hown hnm (Fr.app hF hF') hR'
  refine ⟨t, o, st.trans ?_, h2⟩
  rw [lf_out]
  exact h1
theorem initObj {a : Nat} (hw : ∀ d ∈ W, d.before a0 Z = true) (w1 : W[i1]? = some (.methodLink B.1.cls idx Lib.objectInit)) (w2 : W[i2]? = some (.instanceMethod Lib.objectInit)) (w3 : W[i3]? = some (.code Lib.objectInit ⟨#[0xb1]⟩ 1 none)) (d : decode B.2.1 pc = .ok (.invokespecial idx, 3)) (hL : L.length = B.2.2.1)
    (hf : 1 ≤ R.frames) (hl : (S.map fun v => v.category).sum + 12 ≤ R.locals) (hr : WP l Z a0 n0 B R k n (pc + 3) L S H Q) : WP l Z a0 n0 B R k n pc L (.ref a :: S) H Q := by
  intro p e s m args below meth c T locs X hx hc hml hret hlk hZ hown hnm hF hR
  obtain ⟨T', X', e', st⟩ := initO X hx hZ hown (hw _ (List.mem_of_getElem? w1)) (hw _ (List.mem_of_getElem? w2)) (hw _ (List.mem_of_getElem? w3)) rfl (g := mkF m pc (LL n0 L) ((Value.ref a :: S).map (lf n0))) rfl (by rw [hml, ← hL]; simp) (a := n0 + a) (rest := S.map (lf n0)) rfl (hb hc d) hf (W := (S.map fun v => v.category).sum) (by show 2 * 0 + _ ≤ _; rw [cat_sum]; omega) hl
  obtain ⟨t, o, h1, h2⟩ := hr p e s m args below meth c T' locs X' hx hc hml hret hlk hZ hown hnm hF (by rw [e']; exact hR)
  exact ⟨t, o, st _ h1, h2⟩
end
end Jvm.Sh
namespace Jvm.Sh
open Jvm Jvm.ClassFile Sem Op Lib
theorem le {a b : Nat} (h : Nat.ble a b = true) : a ≤ b := Nat.le_of_ble_eq_true h
theorem s1_2 {a0 a1 o : Slot} {L : List Slot} {v : Value} (ho : okS o = true) (hv : v.category = 1) : stOK (a0 :: a1 :: o :: L) 2 v (a0 :: a1 :: .val v :: L) := st1 (o := o) rfl ho hv rfl
theorem s1_3 {a0 a1 a2 o : Slot} {L : List Slot} {v : Value} (ho : okS o = true) (hv : v.category = 1) : stOK (a0 :: a1 :: a2 :: o :: L) 3 v (a0 :: a1 :: a2 :: .val v :: L) := st1 (o := o) rfl ho hv rfl
theorem s2_4 {a0 a1 a2 a3 o o2 : Slot} {L : List Slot} {v : Value} (ho : nS o = true) (h2 : n2 o2 = true) (hv : v.category = 2) : stOK (a0 :: a1 :: a2 :: a3 :: o :: o2 :: L) 4 v (a0 :: a1 :: a2 :: a3 :: .val v :: .second :: L) := st2 (o := o) (o2 := o2) rfl ho rfl h2 hv rfl
theorem s1_6 {a0 a1 a2 a3 a4 a5 o : Slot} {L : List Slot} {v : Value} (ho : okS o = true) (hv : v.category = 1) : stOK (a0 :: a1 :: a2 :: a3 :: a4 :: a5 :: o :: L) 6 v (a0 :: a1 :: a2 :: a3 :: a4 :: a5 :: .val v :: L) := st1 (o := o) rfl ho hv rfl
theorem s1_7 {a0 a1 a2 a3 a4 a5 a6 o : Slot} {L : List Slot} {v : Value} (ho : okS o = true) (hv : v.category = 1) : stOK (a0 :: a1 :: a2 :: a3 :: a4 :: a5 :: a6 :: o :: L) 7 v (a0 :: a1 :: a2 :: a3 :: a4 :: a5 :: a6 :: .val v :: L) := st1 (o := o) rfl ho hv rfl
theorem s1_10 {a0 a1 a2 a3 a4 a5 a6 a7 a8 a9 o : Slot} {L : List Slot} {v : Value} (ho : okS o = true) (hv : v.category = 1) : stOK (a0 :: a1 :: a2 :: a3 :: a4 :: a5 :: a6 :: a7 :: a8 :: a9 :: o :: L) 10 v (a0 :: a1 :: a2 :: a3 :: a4 :: a5 :: a6 :: a7 :: a8 :: a9 :: .val v :: L) := st1 (o := o) rfl ho hv rfl
theorem s1_11 {a0 a1 a2 a3 a4 a5 a6 a7 a8 a9 a10 o : Slot} {L : List Slot} {v : Value} (ho : okS o = true) (hv : v.category = 1) : stOK (a0 :: a1 :: a2 :: a3 :: a4 :: a5 :: a6 :: a7 :: a8 :: a9 :: a10 :: o :: L) 11 v (a0 :: a1 :: a2 :: a3 :: a4 :: a5 :: a6 :: a7 :: a8 :: a9 :: a10 :: .val v :: L) := st1 (o := o) rfl ho hv rfl
theorem s1_12 {a0 a1 a2 a3 a4 a5 a6 a7 a8 a9 a10 a11 o : Slot} {L : List Slot} {v : Value} (ho : okS o = true) (hv : v.category = 1) : stOK (a0 :: a1 :: a2 :: a3 :: a4 :: a5 :: a6 :: a7 :: a8 :: a9 :: a10 :: a11 :: o :: L) 12 v (a0 :: a1 :: a2 :: a3 :: a4 :: a5 :: a6 :: a7 :: a8 :: a9 :: a10 :: a11 :: .val v :: L) := st1 (o := o) rfl ho hv rfl
theorem s2_13 {a0 a1 a2 a3 a4 a5 a6 a7 a8 a9 a10 a11 a12 o o2 : Slot} {L : List Slot} {v : Value} (ho : nS o = true) (h2 : n2 o2 = true) (hv : v.category = 2) : stOK (a0 :: a1 :: a2 :: a3 :: a4 :: a5 :: a6 :: a7 :: a8 :: a9 :: a10 :: a11 :: a12 :: o :: o2 :: L) 13 v (a0 :: a1 :: a2 :: a3 :: a4 :: a5 :: a6 :: a7 :: a8 :: a9 :: a10 :: a11 :: a12 :: .val v :: .second :: L) := st2 (o := o) (o2 := o2) rfl ho rfl h2 hv rfl
theorem s2_15 {a0 a1 a2 a3 a4 a5 a6 a7 a8 a9 a10 a11 a12 a13 a14 o o2 : Slot} {L : List Slot} {v : Value} (ho : nS o = true) (h2 : n2 o2 = true) (hv : v.category = 2) : stOK (a0 :: a1 :: a2 :: a3 :: a4 :: a5 :: a6 :: a7 :: a8 :: a9 :: a10 :: a11 :: a12 :: a13 :: a14 :: o :: o2 :: L) 15 v (a0 :: a1 :: a2 :: a3 :: a4 :: a5 :: a6 :: a7 :: a8 :: a9 :: a10 :: a11 :: a12 :: a13 :: a14 :: .val v :: .second :: L) := st2 (o := o) (o2 := o2) rfl ho rfl h2 hv rfl
theorem s2_17 {a0 a1 a2 a3 a4 a5 a6 a7 a8 a9 a10 a11 a12 a13 a14 a15 a16 o o2 : Slot} {L : List Slot} {v : Value} (ho : nS o = true) (h2 : n2 o2 = true) (hv : v.category = 2) : stOK (a0 :: a1 :: a2 :: a3 :: a4 :: a5 :: a6 :: a7 :: a8 :: a9 :: a10 :: a11 :: a12 :: a13 :: a14 :: a15 :: a16 :: o :: o2 :: L) 17 v (a0 :: a1 :: a2 :: a3 :: a4 :: a5 :: a6 :: a7 :: a8 :: a9 :: a10 :: a11 :: a12 :: a13 :: a14 :: a15 :: a16 :: .val v :: .second :: L) := st2 (o := o) (o2 := o2) rfl ho rfl h2 hv rfl
theorem s2_19 {a0 a1 a2 a3 a4 a5 a6 a7 a8 a9 a10 a11 a12 a13 a14 a15 a16 a17 a18 o o2 : Slot} {L : List Slot} {v : Value} (ho : nS o = true) (h2 : n2 o2 = true) (hv : v.category = 2) : stOK (a0 :: a1 :: a2 :: a3 :: a4 :: a5 :: a6 :: a7 :: a8 :: a9 :: a10 :: a11 :: a12 :: a13 :: a14 :: a15 :: a16 :: a17 :: a18 :: o :: o2 :: L) 19 v (a0 :: a1 :: a2 :: a3 :: a4 :: a5 :: a6 :: a7 :: a8 :: a9 :: a10 :: a11 :: a12 :: a13 :: a14 :: a15 :: a16 :: a17 :: a18 :: .val v :: .second :: L) := st2 (o := o) (o2 := o2) rfl ho rfl h2 hv rfl
theorem s2_21 {a0 a1 a2 a3 a4 a5 a6 a7 a8 a9 a10 a11 a12 a13 a14 a15 a16 a17 a18 a19 a20 o o2 : Slot} {L : List Slot} {v : Value} (ho : nS o = true) (h2 : n2 o2 = true) (hv : v.category = 2) : stOK (a0 :: a1 :: a2 :: a3 :: a4 :: a5 :: a6 :: a7 :: a8 :: a9 :: a10 :: a11 :: a12 :: a13 :: a14 :: a15 :: a16 :: a17 :: a18 :: a19 :: a20 :: o :: o2 :: L) 21 v (a0 :: a1 :: a2 :: a3 :: a4 :: a5 :: a6 :: a7 :: a8 :: a9 :: a10 :: a11 :: a12 :: a13 :: a14 :: a15 :: a16 :: a17 :: a18 :: a19 :: a20 :: .val v :: .second :: L) := st2 (o := o) (o2 := o2) rfl ho rfl h2 hv rfl
section
variable {α : Type}
theorem ls_0 { o v : α} {L : List α} : (o :: L).set 0 v = v :: L := rfl
theorem ls_1 {a0 o v : α} {L : List α} : (a0 :: o :: L).set 1 v = a0 :: v :: L := rfl
theorem ls_2 {a0 a1 o v : α} {L : List α} : (a0 :: a1 :: o :: L).set 2 v = a0 :: a1 :: v :: L := rfl
theorem ls_3 {a0 a1 a2 o v : α} {L : List α} : (a0 :: a1 :: a2 :: o :: L).set 3 v = a0 :: a1 :: a2 :: v :: L := rfl
theorem ls_4 {a0 a1 a2 a3 o v : α} {L : List α} : (a0 :: a1 :: a2 :: a3 :: o :: L).set 4 v = a0 :: a1 :: a2 :: a3 :: v :: L := rfl
theorem ls_32 {a0 a1 a2 a3 a4 a5 a6 a7 a8 a9 a10 a11 a12 a13 a14 a15 a16 a17 a18 a19 a20 a21 a22 a23 a24 a25 a26 a27 a28 a29 a30 a31 o v : α} {L : List α} : (a0 :: a1 :: a2 :: a3 :: a4 :: a5 :: a6 :: a7 :: a8 :: a9 :: a10 :: a11 :: a12 :: a13 :: a14 :: a15 :: a16 :: a17 :: a18 :: a19 :: a20 :: a21 :: a22 :: a23 :: a24 :: a25 :: a26 :: a27 :: a28 :: a29 :: a30 :: a31 :: o :: L).set 32 v = a0 :: a1 :: a2 :: a3 :: a4 :: a5 :: a6 :: a7 :: a8 :: a9 :: a10 :: a11 :: a12 :: a13 :: a14 :: a15 :: a16 :: a17 :: a18 :: a19 :: a20 :: a21 :: a22 :: a23 :: a24 :: a25 :: a26 :: a27 :: a28 :: a29 :: a30 :: a31 :: v :: L := rfl
theorem ls_33 {a0 a1 a2 a3 a4 a5 a6 a7 a8 a9 a10 a11 a12 a13 a14 a15 a16 a17 a18 a19 a20 a21 a22 a23 a24 a25 a26 a27 a28 a29 a30 a31 a32 o v : α} {L : List α} : (a0 :: a1 :: a2 :: a3 :: a4 :: a5 :: a6 :: a7 :: a8 :: a9 :: a10 :: a11 :: a12 :: a13 :: a14 :: a15 :: a16 :: a17 :: a18 :: a19 :: a20 :: a21 :: a22 :: a23 :: a24 :: a25 :: a26 :: a27 :: a28 :: a29 :: a30 :: a31 :: a32 :: o :: L).set 33 v = a0 :: a1 :: a2 :: a3 :: a4 :: a5 :: a6 :: a7 :: a8 :: a9 :: a10 :: a11 :: a12 :: a13 :: a14 :: a15 :: a16 :: a17 :: a18 :: a19 :: a20 :: a21 :: a22 :: a23 :: a24 :: a25 :: a26 :: a27 :: a28 :: a29 :: a30 :: a31 :: a32 :: v :: L := rfl
theorem ls_34 {a0 a1 a2 a3 a4 a5 a6 a7 a8 a9 a10 a11 a12 a13 a14 a15 a16 a17 a18 a19 a20 a21 a22 a23 a24 a25 a26 a27 a28 a29 a30 a31 a32 a33 o v : α} {L : List α} : (a0 :: a1 :: a2 :: a3 :: a4 :: a5 :: a6 :: a7 :: a8 :: a9 :: a10 :: a11 :: a12 :: a13 :: a14 :: a15 :: a16 :: a17 :: a18 :: a19 :: a20 :: a21 :: a22 :: a23 :: a24 :: a25 :: a26 :: a27 :: a28 :: a29 :: a30 :: a31 :: a32 :: a33 :: o :: L).set 34 v = a0 :: a1 :: a2 :: a3 :: a4 :: a5 :: a6 :: a7 :: a8 :: a9 :: a10 :: a11 :: a12 :: a13 :: a14 :: a15 :: a16 :: a17 :: a18 :: a19 :: a20 :: a21 :: a22 :: a23 :: a24 :: a25 :: a26 :: a27 :: a28 :: a29 :: a30 :: a31 :: a32 :: a33 :: v :: L := rfl
theorem ap_0 { v : α} : [] ++ [v] = [v] := rfl
theorem ap_1 {a0 v : α} : [a0] ++ [v] = [a0, v] := rfl
theorem rp_5 {v : α} : List.replicate 5 v = [v, v, v, v, v] := rfl
theorem rp_35 {v : α} : List.replicate 35 v = [v, v, v, v, v, v, v, v, v, v, v, v, v, v, v, v, v, v, v, v, v, v, v, v, v, v, v, v, v, v, v, v, v, v, v] := rfl
end
end Jvm.Sh
namespace Jvm.Sh
open Jvm Jvm.ClassFile Jvm.RoadKit
/-! small naturals as ints -/
theorem onToInt {a : Nat} (h : a < 2147483648) : (Int32.ofNat a).toInt = a := Int32.toInt_ofNat_of_lt h
theorem onLt {a b : Nat} (ha : a < 2147483648) (hb : b < 2147483648) : Int32.ofNat a < Int32.ofNat b ↔ a < b := by
  rw [Int32.lt_iff_toInt_lt, onToInt ha, onToInt hb]; omega
theorem onInj {a b : Nat} (ha : a < 2147483648) (hb : b < 2147483648) : Int32.ofNat a = Int32.ofNat b ↔ a = b := by
  rw [← Int32.toInt_inj, onToInt ha, onToInt hb]; omega
theorem onNN {a : Nat} (ha : a < 2147483648) : ¬ Int32.ofNat a < 0 := by
  rw [Int32.lt_iff_toInt_lt, onToInt ha, show (0 : Int32).toInt = 0 from by decide]; omega
theorem onCl {a : Nat} (ha : a < 2147483648) : (Int32.ofNat a).toNatClampNeg = a := by
  rw [Int32.toNatClampNeg, onToInt ha]; omega
theorem onAdd (a b : Nat) : Int32.ofNat a + Int32.ofNat b = Int32.ofNat (a + b) := (Int32.ofNat_add a b).symm
theorem onSucc (a : Nat) : Int32.ofNat a + 1 = Int32.ofNat (a + 1) := onAdd a 1
theorem onSub {a b : Nat} (h : b ≤ a) (ha : a < 2147483648) : Int32.ofNat a - Int32.ofNat b = Int32.ofNat (a - b) := by
  apply Int32.toInt_inj.mp
  have q := c_isub (Int32.ofNat a) (Int32.ofNat b)
  have r := rng32 (Int32.ofNat a - Int32.ofNat b)
  rw [onToInt ha, onToInt (show b < 2147483648 by omega)] at q
  rw [onToInt (show a - b < 2147483648 by omega)]
  omega
theorem onMul {a b : Nat} : Int32.ofNat a * Int32.ofNat b = Int32.ofNat (a * b) := (Int32.ofNat_mul a b).symm
theorem isNat (x : Int32) (h0 : 0 ≤ x.toInt) : ∃ r : Nat, (r : Int) = x.toInt ∧ r < 2147483648 ∧ x = Int32.ofNat r := by
  have := rng32 x
  refine ⟨x.toInt.toNat, by omega, by omega, Int32.toInt_inj.mp ?_⟩
  rw [onToInt (by omega)]
  omega
/-- (x & 0x7fffffff) % m is a natural below m -/
theorem remNat (x m : Int32) (M : Nat) (hm : m.toInt = M) (hM : 0 < M) : ∃ r, r < M ∧ (x &&& 2147483647) % m = Int32.ofNat r := by
  have h := (c_iremV (x &&& 2147483647) m).1 (c_and x 2147483647 (by decide)).1 (by omega)
  obtain ⟨r, h1, h2, h3⟩ := isNat _ h.1
  exact ⟨r, by omega, h3⟩
theorem remNat' (x m : Int32) (M : Nat) (hx : 0 ≤ x.toInt) (hm : m.toInt = M) (hM : 0 < M) : ∃ r, r < M ∧ x % m = Int32.ofNat r := by
  have h := (c_iremV x m).1 hx (by omega)
  obtain ⟨r, h1, h2, h3⟩ := isNat _ h.1
  exact ⟨r, by omega, h3⟩
theorem maskNat (x m : Int32) (k : Nat) (hk : k ≤ 31) (hm : m.toBitVec.toNat = 2 ^ k - 1) : ∃ r, r < 2 ^ k ∧ x &&& m = Int32.ofNat r := by
  have h := c_mask x m k hk hm
  have hp : (0 : Int) < (2 ^ k : Nat) := by have := Nat.two_pow_pos k; omega
  have h1 := Int.emod_nonneg x.toInt (Int.ne_of_gt hp)
  have h2 := Int.emod_lt_of_pos x.toInt hp
  obtain ⟨r, g1, g2, g3⟩ := isNat (x &&& m) (by omega)
  exact ⟨r, by omega, g3⟩
theorem ushrNN (x k : Int32) (n : Nat) (hk : k.toBitVec.toNat % 32 = n) (h0 : 0 < n) : 0 ≤ (Jvm.Free.XT.ushr x k).toInt := by
  have e : (Jvm.Free.XT.ushr x k).toInt = (x.toInt % 4294967296) / (2 ^ n : Nat) := c_iushr x k n hk h0
  rw [e]
  exact Int.ediv_nonneg (Int.emod_nonneg _ (by decide)) (Int.natCast_nonneg _)
theorem i8_idem (x : Int32) : x.toInt8.toInt32.toInt8.toInt32 = x.toInt8.toInt32 := by simp
end Jvm.Sh
namespace Jvm.Sh
open Jvm Jvm.ClassFile Jvm.RoadKit
/-! bits -/
def bt (x : Int64) (i : Nat) : Bool := x.toBitVec.getLsbD i
def bi (x : Int32) (i : Nat) : Bool := x.toBitVec.getLsbD i
theorem bt_ext {x y : Int64} (h : ∀ i, i < 64 → bt x i = bt y i) : x = y := Int64.toBitVec_inj.mp (BitVec.eq_of_getLsbD_eq fun i hi => h i hi)
theorem bi_ext {x y : Int32} (h : ∀ i, i < 32 → bi x i = bi y i) : x = y := Int32.toBitVec_inj.mp (BitVec.eq_of_getLsbD_eq fun i hi => h i hi)
theorem bt_or (x y : Int64) (i : Nat) : bt (x ||| y) i = (bt x i || bt y i) := by simp [bt]
theorem bt_and (x y : Int64) (i : Nat) : bt (x &&& y) i = (bt x i && bt y i) := by simp [bt]
theorem bt_xor (x y : Int64) (i : Nat) : bt (x ^^^ y) i = (bt x i ^^ bt y i) := by simp [bt]
theorem bi_or (x y : Int32) (i : Nat) : bi (x ||| y) i = (bi x i || bi y i) := by simp [bi]
theorem bi_and (x y : Int32) (i : Nat) : bi (x &&& y) i = (bi x i && bi y i) := by simp [bi]
theorem bt_zero (i : Nat) : bt 0 i = false := by simp [bt]
theorem bi_zero (i : Nat) : bi 0 i = false := by simp [bi]
theorem bt_big (x : Int64) (i : Nat) (h : 64 ≤ i) : bt x i = false := BitVec.getLsbD_of_ge _ _ h
theorem bi_big (x : Int32) (i : Nat) (h : 32 ≤ i) : bi x i = false := BitVec.getLsbD_of_ge _ _ h
theorem bt_mask (x m : Int64) (k : Nat) (hm : m.toBitVec = BitVec.ofNat 64 (2 ^ k - 1)) (i : Nat) (hi : i < 64) : bt (x &&& m) i = (decide (i < k) && bt x i) := by
  rw [bt_and, Bool.and_comm]
  congr 1
  rw [bt, hm, BitVec.getLsbD_ofNat, Nat.testBit_two_pow_sub_one]
  simp [hi]
theorem bi_mask (x m : Int32) (k : Nat) (hm : m.toBitVec = BitVec.ofNat 32 (2 ^ k - 1)) (i : Nat) (hi : i < 32) : bi (x &&& m) i = (decide (i < k) && bi x i) := by
  rw [bi_and, Bool.and_comm]
  congr 1
  rw [bi, hm, BitVec.getLsbD_ofNat, Nat.testBit_two_pow_sub_one]
  simp [hi]
theorem shAmt : ∀ k : Fin 64, ((Int32.ofNat k.val).toInt64 &&& 63) = Int64.ofNat k.val ∧ ((BitVec.ofNat 64 k.val).smod 64) = BitVec.ofNat 64 k.val ∧ ((Int32.ofNat k.val).toInt64.toUInt64 &&& Int64.toUInt64 63) = UInt64.ofNat k.val ∧ ((BitVec.ofNat 64 k.val) % 64) = BitVec.ofNat 64 k.val := by decide +kernel
theorem shl_bv (x : Int64) (k : Nat) (hk : k < 64) : (x <<< ((Int32.ofNat k).toInt64 &&& 63)).toBitVec = x.toBitVec <<< k := by
  obtain ⟨h1, h2, -, -⟩ := shAmt ⟨k, hk⟩
  dsimp only at h1 h2
  rw [h1, Int64.toBitVec_shiftLeft]
  have e : (Int64.ofNat k).toBitVec = BitVec.ofNat 64 k := rfl
  rw [e, h2, BitVec.shiftLeft_eq', BitVec.toNat_ofNat, Nat.mod_eq_of_lt (by omega)]
theorem ushr_bv (x : Int64) (k : Nat) (hk : k < 64) : (Jvm.Free.XT.ushrL x (Int32.ofNat k)).toBitVec = x.toBitVec >>> k := by
  obtain ⟨-, -, h3, h4⟩ := shAmt ⟨k, hk⟩
  dsimp only at h3 h4
  show (x.toUInt64 >>> ((Int32.ofNat k).toInt64.toUInt64 &&& Int64.toUInt64 63)).toBitVec = _
  rw [h3, UInt64.toBitVec_shiftRight]
  have e : (UInt64.ofNat k).toBitVec = BitVec.ofNat 64 k := rfl
  rw [e, h4, BitVec.ushiftRight_eq', BitVec.toNat_ofNat, Nat.mod_eq_of_lt (by omega)]
  rfl
theorem bt_shl (x : Int64) (k i : Nat) (hk : k < 64) (hi : i < 64) : bt (x <<< ((Int32.ofNat k).toInt64 &&& 63)) i = (!decide (i < k) && bt x (i - k)) := by
  rw [bt, shl_bv x k hk, BitVec.getLsbD_shiftLeft, bt]
  simp only [hi, decide_true, Bool.true_and]
theorem bt_ushr (x : Int64) (k i : Nat) (hk : k < 64) : bt (Jvm.Free.XT.ushrL x (Int32.ofNat k)) i = bt x (k + i) := by
  simp [bt, ushr_bv x k hk]
theorem bi_l2i (x : Int64) (i : Nat) (hi : i < 32) : bi x.toInt32 i = bt x i := by
  simp only [bi, bt]
  show (x.toBitVec.signExtend 32).getLsbD i = _
  rw [BitVec.getLsbD_signExtend]
  simp [hi, show i < 64 by omega]
theorem bt_i2l (x : Int32) (i : Nat) (hi : i < 64) : bt x.toInt64 i = if i < 32 then bi x i else bi x 31 := by
  simp only [bi, bt]
  show (x.toBitVec.signExtend 64).getLsbD i = _
  rw [BitVec.getLsbD_signExtend]
  simp [hi, BitVec.msb_eq_getLsbD_last]
theorem bi_i2b (x : Int32) (i : Nat) (hi : i < 32) : bi x.toInt8.toInt32 i = if i < 8 then bi x i else bi x 7 := by
  simp only [bi]
  show ((x.toBitVec.signExtend 8).signExtend 32).getLsbD i = _
  rw [BitVec.getLsbD_signExtend]
  by_cases q : i < 8
  · rw [BitVec.getLsbD_signExtend]
    simp [hi, q, show i < 32 by omega]
  · simp [hi, q, BitVec.msb_eq_getLsbD_last, BitVec.getElem_signExtend]
end Jvm.Sh
namespace Jvm.Pilot.@@N@@
open Jvm Jvm.ClassFile Sem Op Lib Jvm.Free Jvm.Stand Jvm.LawKit Jvm.RoadKit Bundle Jvm.Pilot.@@N@@.Jvm.D
abbrev HW (Z : State) (a0 : Array Value) : Prop := ∀ d ∈ tables_1, d.before a0 Z = true
theorem d1_0 : decode method_2_code 0 = .ok (.aload_n 0, 1) := by decide +kernel
theorem d1_1 : decode method_2_code 1 = .ok (.iload_n 1, 1) := by decide +kernel
theorem d1_2 : decode method_2_code 2 = .ok (.lload_n 2, 1) := by decide +kernel
theorem d1_3 : decode method_2_code 3 = .ok (.bipush 56, 2) := by decide +kernel
theorem d1_5 : decode method_2_code 5 = .ok (.lushr, 1) := by decide +kernel
theorem d1_6 : decode method_2_code 6 = .ok (.l2i, 1) := by decide +kernel
theorem d1_7 : decode method_2_code 7 = .ok (.i2b, 1) := by decide +kernel
theorem d1_8 : decode method_2_code 8 = .ok (.bastore, 1) := by decide +kernel
theorem d1_9 : decode method_2_code 9 = .ok (.aload_n 0, 1) := by decide +kernel
theorem d1_10 : decode method_2_code 10 = .ok (.iload_n 1, 1) := by decide +kernel
theorem d1_11 : decode method_2_code 11 = .ok (.iconst 1, 1) := by decide +kernel
theorem d1_12 : decode method_2_code 12 = .ok (.iadd, 1) := by decide +kernel
theorem d1_13 : decode method_2_code 13 = .ok (.lload_n 2, 1) := by decide +kernel
theorem d1_14 : decode method_2_code 14 = .ok (.bipush 48, 2) := by decide +kernel
theorem d1_16 : decode method_2_code 16 = .ok (.lushr, 1) := by decide +kernel
theorem d1_17 : decode method_2_code 17 = .ok (.l2i, 1) := by decide +kernel
theorem d1_18 : decode method_2_code 18 = .ok (.i2b, 1) := by decide +kernel
theorem d1_19 : decode method_2_code 19 = .ok (.bastore, 1) := by decide +kernel
theorem d1_20 : decode method_2_code 20 = .ok (.aload_n 0, 1) := by decide +kernel
theorem d1_21 : decode method_2_code 21 = .ok (.iload_n 1, 1) := by decide +kernel
theorem d1_22 : decode method_2_code 22 = .ok (.iconst 2, 1) := by decide +kernel
theorem d1_23 : decode method_2_code 23 = .ok (.iadd, 1) := by decide +kernel
theorem d1_24 : decode method_2_code 24 = .ok (.lload_n 2, 1) := by decide +kernel
theorem d1_25 : decode method_2_code 25 = .ok (.bipush 40, 2) := by decide +kernel
theorem d1_27 : decode method_2_code 27 = .ok (.lushr, 1) := by decide +kernel
theorem d1_28 : decode method_2_code 28 = .ok (.l2i, 1) := by decide +kernel
theorem d1_29 : decode method_2_code 29 = .ok (.i2b, 1) := by decide +kernel
theorem d1_30 : decode method_2_code 30 = .ok (.bastore, 1) := by decide +kernel
theorem d1_31 : decode method_2_code 31 = .ok (.aload_n 0, 1) := by decide +kernel
theorem d1_32 : decode method_2_code 32 = .ok (.iload_n 1, 1) := by decide +kernel
theorem d1_33 : decode method_2_code 33 = .ok (.iconst 3, 1) := by decide +kernel
theorem d1_34 : decode method_2_code 34 = .ok (.iadd, 1) := by decide +kernel
theorem d1_35 : decode method_2_code 35 = .ok (.lload_n 2, 1) := by decide +kernel
theorem d1_36 : decode method_2_code 36 = .ok (.bipush 32, 2) := by decide +kernel
theorem d1_38 : decode method_2_code 38 = .ok (.lushr, 1) := by decide +kernel
theorem d1_39 : decode method_2_code 39 = .ok (.l2i, 1) := by decide +kernel
theorem d1_40 : decode method_2_code 40 = .ok (.i2b, 1) := by decide +kernel
theorem d1_41 : decode method_2_code 41 = .ok (.bastore, 1) := by decide +kernel
theorem d1_42 : decode method_2_code 42 = .ok (.aload_n 0, 1) := by decide +kernel
theorem d1_43 : decode method_2_code 43 = .ok (.iload_n 1, 1) := by decide +kernel
theorem d1_44 : decode method_2_code 44 = .ok (.iconst 4, 1) := by decide +kernel
theorem d1_45 : decode method_2_code 45 = .ok (.iadd, 1) := by decide +kernel
theorem d1_46 : decode method_2_code 46 = .ok (.lload_n 2, 1) := by decide +kernel
theorem d1_47 : decode method_2_code 47 = .ok (.bipush 24, 2) := by decide +kernel
theorem d1_49 : decode method_2_code 49 = .ok (.lushr, 1) := by decide +kernel
theorem d1_50 : decode method_2_code 50 = .ok (.l2i, 1) := by decide +kernel
theorem d1_51 : decode method_2_code 51 = .ok (.i2b, 1) := by decide +kernel
theorem d1_52 : decode method_2_code 52 = .ok (.bastore, 1) := by decide +kernel
theorem d1_53 : decode method_2_code 53 = .ok (.aload_n 0, 1) := by decide +kernel
theorem d1_54 : decode method_2_code 54 = .ok (.iload_n 1, 1) := by decide +kernel
theorem d1_55 : decode method_2_code 55 = .ok (.iconst 5, 1) := by decide +kernel
theorem d1_56 : decode method_2_code 56 = .ok (.iadd, 1) := by decide +kernel
theorem d1_57 : decode method_2_code 57 = .ok (.lload_n 2, 1) := by decide +kernel
theorem d1_58 : decode method_2_code 58 = .ok (.bipush 16, 2) := by decide +kernel
theorem d1_60 : decode method_2_code 60 = .ok (.lushr, 1) := by decide +kernel
theorem d1_61 : decode method_2_code 61 = .ok (.l2i, 1) := by decide +kernel
theorem d1_62 : decode method_2_code 62 = .ok (.i2b, 1) := by decide +kernel
theorem d1_63 : decode method_2_code 63 = .ok (.bastore, 1) := by decide +kernel
theorem d1_64 : decode method_2_code 64 = .ok (.aload_n 0, 1) := by decide +kernel
theorem d1_65 : decode method_2_code 65 = .ok (.iload_n 1, 1) := by decide +kernel
theorem d1_66 : decode method_2_code 66 = .ok (.bipush 6, 2) := by decide +kernel
theorem d1_68 : decode method_2_code 68 = .ok (.iadd, 1) := by decide +kernel
theorem d1_69 : decode method_2_code 69 = .ok (.lload_n 2, 1) := by decide +kernel
theorem d1_70 : decode method_2_code 70 = .ok (.bipush 8, 2) := by decide +kernel
theorem d1_72 : decode method_2_code 72 = .ok (.lushr, 1) := by decide +kernel
theorem d1_73 : decode method_2_code 73 = .ok (.l2i, 1) := by decide +kernel
theorem d1_74 : decode method_2_code 74 = .ok (.i2b, 1) := by decide +kernel
theorem d1_75 : decode method_2_code 75 = .ok (.bastore, 1) := by decide +kernel
theorem d1_76 : decode method_2_code 76 = .ok (.aload_n 0, 1) := by decide +kernel
theorem d1_77 : decode method_2_code 77 = .ok (.iload_n 1, 1) := by decide +kernel
theorem d1_78 : decode method_2_code 78 = .ok (.bipush 7, 2) := by decide +kernel
theorem d1_80 : decode method_2_code 80 = .ok (.iadd, 1) := by decide +kernel
theorem d1_81 : decode method_2_code 81 = .ok (.lload_n 2, 1) := by decide +kernel
theorem d1_82 : decode method_2_code 82 = .ok (.l2i, 1) := by decide +kernel
theorem d1_83 : decode method_2_code 83 = .ok (.i2b, 1) := by decide +kernel
theorem d1_84 : decode method_2_code 84 = .ok (.bastore, 1) := by decide +kernel
theorem d1_85 : decode method_2_code 85 = .ok (.return_, 1) := by decide +kernel
theorem pn1 : plainFor (⟨"com/example/aktenwerk/aktenwerk/crypto/MontgomeryLimbsPinLaw", "put", "([BIJ)V"⟩ : MethodName) = true := plainFor_of_name (by first | (simp [plainName, overriddenIn]; done) | decide +kernel)
theorem pd1 : parseMethodDescriptor "([BIJ)V" = some ⟨[(.array .byte), .int, .long], none⟩ := by decide +kernel
def b1 : Sh.Bdy := (⟨"com/example/aktenwerk/aktenwerk/crypto/MontgomeryLimbsPinLaw", "put", "([BIJ)V"⟩, method_2_code, 4, none)
def R1 : Room := { frames := 0, cells := 0, slots := 0, locals := 0 }
theorem d2_0 : decode prog_16_method_3_code 0 = .ok (.iconst 5, 1) := by decide +kernel
theorem d2_1 : decode prog_16_method_3_code 1 = .ok (.newarray .long, 2) := by decide +kernel
theorem d2_3 : decode prog_16_method_3_code 3 = .ok (.astore_n 2, 1) := by decide +kernel
theorem d2_4 : decode prog_16_method_3_code 4 = .ok (.iconst 0, 1) := by decide +kernel
theorem d2_5 : decode prog_16_method_3_code 5 = .ok (.istore_n 3, 1) := by decide +kernel
theorem d2_6 : decode prog_16_method_3_code 6 = .ok (.iload_n 3, 1) := by decide +kernel
theorem d2_7 : decode prog_16_method_3_code 7 = .ok (.sipush 256, 3) := by decide +kernel
theorem d2_10 : decode prog_16_method_3_code 10 = .ok (.if_icmp .ge 81, 3) := by decide +kernel
theorem d2_13 : decode prog_16_method_3_code 13 = .ok (.aload_n 0, 1) := by decide +kernel
theorem d2_14 : decode prog_16_method_3_code 14 = .ok (.iload_n 1, 1) := by decide +kernel
theorem d2_15 : decode prog_16_method_3_code 15 = .ok (.bipush 32, 2) := by decide +kernel
theorem d2_17 : decode prog_16_method_3_code 17 = .ok (.iadd, 1) := by decide +kernel
theorem d2_18 : decode prog_16_method_3_code 18 = .ok (.iconst 1, 1) := by decide +kernel
theorem d2_19 : decode prog_16_method_3_code 19 = .ok (.isub, 1) := by decide +kernel
theorem d2_20 : decode prog_16_method_3_code 20 = .ok (.iload_n 3, 1) := by decide +kernel
theorem d2_21 : decode prog_16_method_3_code 21 = .ok (.bipush 8, 2) := by decide +kernel
theorem d2_23 : decode prog_16_method_3_code 23 = .ok (.idiv, 1) := by decide +kernel
theorem d2_24 : decode prog_16_method_3_code 24 = .ok (.isub, 1) := by decide +kernel
theorem d2_25 : decode prog_16_method_3_code 25 = .ok (.baload, 1) := by decide +kernel
theorem d2_26 : decode prog_16_method_3_code 26 = .ok (.sipush 255, 3) := by decide +kernel
theorem d2_29 : decode prog_16_method_3_code 29 = .ok (.iand, 1) := by decide +kernel
theorem d2_30 : decode prog_16_method_3_code 30 = .ok (.i2l, 1) := by decide +kernel
theorem d2_31 : decode prog_16_method_3_code 31 = .ok (.lstore 4, 2) := by decide +kernel
theorem d2_33 : decode prog_16_method_3_code 33 = .ok (.iload_n 3, 1) := by decide +kernel
theorem d2_34 : decode prog_16_method_3_code 34 = .ok (.bipush 52, 2) := by decide +kernel
theorem d2_36 : decode prog_16_method_3_code 36 = .ok (.idiv, 1) := by decide +kernel
theorem d2_37 : decode prog_16_method_3_code 37 = .ok (.istore 6, 2) := by decide +kernel
theorem d2_39 : decode prog_16_method_3_code 39 = .ok (.iload_n 3, 1) := by decide +kernel
theorem d2_40 : decode prog_16_method_3_code 40 = .ok (.bipush 52, 2) := by decide +kernel
theorem d2_42 : decode prog_16_method_3_code 42 = .ok (.irem, 1) := by decide +kernel
theorem d2_43 : decode prog_16_method_3_code 43 = .ok (.istore 7, 2) := by decide +kernel
theorem d2_45 : decode prog_16_method_3_code 45 = .ok (.aload_n 2, 1) := by decide +kernel
theorem d2_46 : decode prog_16_method_3_code 46 = .ok (.iload 6, 2) := by decide +kernel
theorem d2_48 : decode prog_16_method_3_code 48 = .ok (.dup2, 1) := by decide +kernel
theorem d2_49 : decode prog_16_method_3_code 49 = .ok (.laload, 1) := by decide +kernel
theorem d2_50 : decode prog_16_method_3_code 50 = .ok (.lload 4, 2) := by decide +kernel
theorem d2_52 : decode prog_16_method_3_code 52 = .ok (.iload 7, 2) := by decide +kernel
theorem d2_54 : decode prog_16_method_3_code 54 = .ok (.lshl, 1) := by decide +kernel
theorem d2_55 : decode prog_16_method_3_code 55 = .ok (.ldc2_w 104, 3) := by decide +kernel
theorem d2_58 : decode prog_16_method_3_code 58 = .ok (.land, 1) := by decide +kernel
theorem d2_59 : decode prog_16_method_3_code 59 = .ok (.lor, 1) := by decide +kernel
theorem d2_60 : decode prog_16_method_3_code 60 = .ok (.lastore, 1) := by decide +kernel
theorem d2_61 : decode prog_16_method_3_code 61 = .ok (.iload 7, 2) := by decide +kernel
theorem d2_63 : decode prog_16_method_3_code 63 = .ok (.bipush 44, 2) := by decide +kernel
theorem d2_65 : decode prog_16_method_3_code 65 = .ok (.if_icmp .le 20, 3) := by decide +kernel
theorem d2_68 : decode prog_16_method_3_code 68 = .ok (.aload_n 2, 1) := by decide +kernel
theorem d2_69 : decode prog_16_method_3_code 69 = .ok (.iload 6, 2) := by decide +kernel
theorem d2_71 : decode prog_16_method_3_code 71 = .ok (.iconst 1, 1) := by decide +kernel
theorem d2_72 : decode prog_16_method_3_code 72 = .ok (.iadd, 1) := by decide +kernel
theorem d2_73 : decode prog_16_method_3_code 73 = .ok (.dup2, 1) := by decide +kernel
theorem d2_74 : decode prog_16_method_3_code 74 = .ok (.laload, 1) := by decide +kernel
theorem d2_75 : decode prog_16_method_3_code 75 = .ok (.lload 4, 2) := by decide +kernel
theorem d2_77 : decode prog_16_method_3_code 77 = .ok (.bipush 52, 2) := by decide +kernel
theorem d2_79 : decode prog_16_method_3_code 79 = .ok (.iload 7, 2) := by decide +kernel
theorem d2_81 : decode prog_16_method_3_code 81 = .ok (.isub, 1) := by decide +kernel
theorem d2_82 : decode prog_16_method_3_code 82 = .ok (.lushr, 1) := by decide +kernel
theorem d2_83 : decode prog_16_method_3_code 83 = .ok (.lor, 1) := by decide +kernel
theorem d2_84 : decode prog_16_method_3_code 84 = .ok (.lastore, 1) := by decide +kernel
theorem d2_85 : decode prog_16_method_3_code 85 = .ok (.iinc 3 8, 3) := by decide +kernel
theorem d2_88 : decode prog_16_method_3_code 88 = .ok (.goto (-82), 3) := by decide +kernel
theorem d2_91 : decode prog_16_method_3_code 91 = .ok (.aload_n 2, 1) := by decide +kernel
theorem d2_92 : decode prog_16_method_3_code 92 = .ok (.areturn, 1) := by decide +kernel
theorem pn2 : plainFor (⟨"com/example/aktenwerk/aktenwerk/crypto/Montgomery", "limbs", "([BI)[J"⟩ : MethodName) = true := plainFor_of_name (by first | (simp [plainName, overriddenIn]; done) | decide +kernel)
theorem pd2 : parseMethodDescriptor "([BI)[J" = some ⟨[(.array .byte), .int], some (.array .long)⟩ := by decide +kernel
def b2 : Sh.Bdy := (⟨"com/example/aktenwerk/aktenwerk/crypto/Montgomery", "limbs", "([BI)[J"⟩, prog_16_method_3_code, 8, some (.array .long))
def R2 : Room := { frames := 0, cells := 1, slots := 5, locals := 0 }
theorem pn0 : plainFor (⟨"com/example/aktenwerk/aktenwerk/crypto/MontgomeryLimbsPinLaw", "law", "(JJJJII)Z"⟩ : MethodName) = true := plainFor_of_name (by first | (simp [plainName, overriddenIn]; done) | decide +kernel)
theorem pd0 : parseMethodDescriptor "(JJJJII)Z" = some ⟨[.long, .long, .long, .long, .int, .int], some .boolean⟩ := by decide +kernel
def b0 : Sh.Bdy := (x, code, maxLocals, ret)
def own_b (w : Int64) : Nat → Int32
  | 0 => w.toInt32.toInt8.toInt32
  | 1 => (XT.ushrL w 8).toInt32.toInt8.toInt32
  | 2 => (XT.ushrL w 16).toInt32.toInt8.toInt32
  | 3 => (XT.ushrL w 24).toInt32.toInt8.toInt32
  | 4 => (XT.ushrL w 32).toInt32.toInt8.toInt32
  | 5 => (XT.ushrL w 40).toInt32.toInt8.toInt32
  | 6 => (XT.ushrL w 48).toInt32.toInt8.toInt32
  | _ => (XT.ushrL w 56).toInt32.toInt8.toInt32
def own_B (w0 w1 w2 w3 : Int64) (c : Nat) : Int32 := if c < 8 then own_b w0 c else if c < 16 then own_b w1 (c - 8) else if c < 24 then own_b w2 (c - 16) else own_b w3 (c - 24)
theorem own_vx (x : Int32) (i : Nat) (hi : i < 64) : Sh.bt (x.toInt8.toInt32 &&& 255).toInt64 i = (decide (i < 8) && Sh.bi x i) := by
  rw [Sh.bt_i2l _ _ hi]
  split
  · rename_i h
    rw [Sh.bi_mask _ 255 8 (by decide) _ h, Sh.bi_i2b _ _ h]
    by_cases q : i < 8 <;> simp [q]
  · rename_i h
    rw [Sh.bi_mask _ 255 8 (by decide) _ (by decide)]
    simp [show ¬ i < 8 by omega]
theorem own_vs (w : Int64) (k : Nat) (hk : k < 64) (i : Nat) (hi : i < 64) : Sh.bt ((XT.ushrL w (Int32.ofNat k)).toInt32.toInt8.toInt32 &&& 255).toInt64 i = (decide (i < 8) && Sh.bt w (k + i)) := by
  rw [own_vx _ _ hi]
  by_cases q : i < 8
  · rw [Sh.bi_l2i _ _ (by omega), Sh.bt_ushr _ _ _ hk]
  · simp [q]
theorem own_v0 (w : Int64) (i : Nat) (hi : i < 64) : Sh.bt (w.toInt32.toInt8.toInt32 &&& 255).toInt64 i = (decide (i < 8) && Sh.bt w (0 + i)) := by
  rw [own_vx _ _ hi]
  by_cases q : i < 8
  · rw [Sh.bi_l2i _ _ (by omega), Nat.zero_add]
  · simp [q]
theorem own_mask (x : Int64) (i : Nat) (hi : i < 64) : Sh.bt (x &&& 4503599627370495) i = (decide (i < 52) && Sh.bt x i) := Sh.bt_mask x _ 52 (by decide) i hi
theorem own_shl0 (x : Int64) (i : Nat) (hi : i < 64) : Sh.bt (x <<< ((0 : Int32).toInt64 &&& 63)) i = (!decide (i < 0) && Sh.bt x (i - 0)) := Sh.bt_shl x 0 i (by decide) hi
theorem own_shl4 (x : Int64) (i : Nat) (hi : i < 64) : Sh.bt (x <<< ((4 : Int32).toInt64 &&& 63)) i = (!decide (i < 4) && Sh.bt x (i - 4)) := Sh.bt_shl x 4 i (by decide) hi
theorem own_shl8 (x : Int64) (i : Nat) (hi : i < 64) : Sh.bt (x <<< ((8 : Int32).toInt64 &&& 63)) i = (!decide (i < 8) && Sh.bt x (i - 8)) := Sh.bt_shl x 8 i (by decide) hi
theorem own_shl12 (x : Int64) (i : Nat) (hi : i < 64) : Sh.bt (x <<< ((12 : Int32).toInt64 &&& 63)) i = (!decide (i < 12) && Sh.bt x (i - 12)) := Sh.bt_shl x 12 i (by decide) hi
theorem own_shl16 (x : Int64) (i : Nat) (hi : i < 64) : Sh.bt (x <<< ((16 : Int32).toInt64 &&& 63)) i = (!decide (i < 16) && Sh.bt x (i - 16)) := Sh.bt_shl x 16 i (by decide) hi
theorem own_shl20 (x : Int64) (i : Nat) (hi : i < 64) : Sh.bt (x <<< ((20 : Int32).toInt64 &&& 63)) i = (!decide (i < 20) && Sh.bt x (i - 20)) := Sh.bt_shl x 20 i (by decide) hi
theorem own_shl24 (x : Int64) (i : Nat) (hi : i < 64) : Sh.bt (x <<< ((24 : Int32).toInt64 &&& 63)) i = (!decide (i < 24) && Sh.bt x (i - 24)) := Sh.bt_shl x 24 i (by decide) hi
theorem own_shl28 (x : Int64) (i : Nat) (hi : i < 64) : Sh.bt (x <<< ((28 : Int32).toInt64 &&& 63)) i = (!decide (i < 28) && Sh.bt x (i - 28)) := Sh.bt_shl x 28 i (by decide) hi
theorem own_shl32 (x : Int64) (i : Nat) (hi : i < 64) : Sh.bt (x <<< ((32 : Int32).toInt64 &&& 63)) i = (!decide (i < 32) && Sh.bt x (i - 32)) := Sh.bt_shl x 32 i (by decide) hi
theorem own_shl36 (x : Int64) (i : Nat) (hi : i < 64) : Sh.bt (x <<< ((36 : Int32).toInt64 &&& 63)) i = (!decide (i < 36) && Sh.bt x (i - 36)) := Sh.bt_shl x 36 i (by decide) hi
theorem own_shl40 (x : Int64) (i : Nat) (hi : i < 64) : Sh.bt (x <<< ((40 : Int32).toInt64 &&& 63)) i = (!decide (i < 40) && Sh.bt x (i - 40)) := Sh.bt_shl x 40 i (by decide) hi
theorem own_shl44 (x : Int64) (i : Nat) (hi : i < 64) : Sh.bt (x <<< ((44 : Int32).toInt64 &&& 63)) i = (!decide (i < 44) && Sh.bt x (i - 44)) := Sh.bt_shl x 44 i (by decide) hi
theorem own_shl48 (x : Int64) (i : Nat) (hi : i < 64) : Sh.bt (x <<< ((48 : Int32).toInt64 &&& 63)) i = (!decide (i < 48) && Sh.bt x (i - 48)) := Sh.bt_shl x 48 i (by decide) hi
theorem own_ush4 (x : Int64) (i : Nat) : Sh.bt (XT.ushrL x 4) i = Sh.bt x (4 + i) := Sh.bt_ushr x 4 i (by decide)
theorem own_ush16 (x : Int64) (i : Nat) : Sh.bt (XT.ushrL x 16) i = Sh.bt x (16 + i) := Sh.bt_ushr x 16 i (by decide)
theorem own_ush28 (x : Int64) (i : Nat) : Sh.bt (XT.ushrL x 28) i = Sh.bt x (28 + i) := Sh.bt_ushr x 28 i (by decide)
theorem own_ush40 (x : Int64) (i : Nat) : Sh.bt (XT.ushrL x 40) i = Sh.bt x (40 + i) := Sh.bt_ushr x 40 i (by decide)
theorem own_ush52 (x : Int64) (i : Nat) : Sh.bt (XT.ushrL x 52) i = Sh.bt x (52 + i) := Sh.bt_ushr x 52 i (by decide)
theorem own_V0 (w0 w1 w2 w3 : Int64) (i : Nat) (hi : i < 64) : Sh.bt (own_B w0 w1 w2 w3 0 &&& 255).toInt64 i = (decide (i < 8) && Sh.bt w0 (0 + i)) := own_v0 w0 i hi
theorem own_V1 (w0 w1 w2 w3 : Int64) (i : Nat) (hi : i < 64) : Sh.bt (own_B w0 w1 w2 w3 1 &&& 255).toInt64 i = (decide (i < 8) && Sh.bt w0 (8 + i)) := own_vs w0 8 (by decide) i hi
theorem own_V2 (w0 w1 w2 w3 : Int64) (i : Nat) (hi : i < 64) : Sh.bt (own_B w0 w1 w2 w3 2 &&& 255).toInt64 i = (decide (i < 8) && Sh.bt w0 (16 + i)) := own_vs w0 16 (by decide) i hi
theorem own_V3 (w0 w1 w2 w3 : Int64) (i : Nat) (hi : i < 64) : Sh.bt (own_B w0 w1 w2 w3 3 &&& 255).toInt64 i = (decide (i < 8) && Sh.bt w0 (24 + i)) := own_vs w0 24 (by decide) i hi
theorem own_V4 (w0 w1 w2 w3 : Int64) (i : Nat) (hi : i < 64) : Sh.bt (own_B w0 w1 w2 w3 4 &&& 255).toInt64 i = (decide (i < 8) && Sh.bt w0 (32 + i)) := own_vs w0 32 (by decide) i hi
theorem own_V5 (w0 w1 w2 w3 : Int64) (i : Nat) (hi : i < 64) : Sh.bt (own_B w0 w1 w2 w3 5 &&& 255).toInt64 i = (decide (i < 8) && Sh.bt w0 (40 + i)) := own_vs w0 40 (by decide) i hi
theorem own_V6 (w0 w1 w2 w3 : Int64) (i : Nat) (hi : i < 64) : Sh.bt (own_B w0 w1 w2 w3 6 &&& 255).toInt64 i = (decide (i < 8) && Sh.bt w0 (48 + i)) := own_vs w0 48 (by decide) i hi
theorem own_V7 (w0 w1 w2 w3 : Int64) (i : Nat) (hi : i < 64) : Sh.bt (own_B w0 w1 w2 w3 7 &&& 255).toInt64 i = (decide (i < 8) && Sh.bt w0 (56 + i)) := own_vs w0 56 (by decide) i hi
theorem own_V8 (w0 w1 w2 w3 : Int64) (i : Nat) (hi : i < 64) : Sh.bt (own_B w0 w1 w2 w3 8 &&& 255).toInt64 i = (decide (i < 8) && Sh.bt w1 (0 + i)) := own_v0 w1 i hi
theorem own_V9 (w0 w1 w2 w3 : Int64) (i : Nat) (hi : i < 64) : Sh.bt (own_B w0 w1 w2 w3 9 &&& 255).toInt64 i = (decide (i < 8) && Sh.bt w1 (8 + i)) := own_vs w1 8 (by decide) i hi
theorem own_V10 (w0 w1 w2 w3 : Int64) (i : Nat) (hi : i < 64) : Sh.bt (own_B w0 w1 w2 w3 10 &&& 255).toInt64 i = (decide (i < 8) && Sh.bt w1 (16 + i)) := own_vs w1 16 (by decide) i hi
theorem own_V11 (w0 w1 w2 w3 : Int64) (i : Nat) (hi : i < 64) : Sh.bt (own_B w0 w1 w2 w3 11 &&& 255).toInt64 i = (decide (i < 8) && Sh.bt w1 (24 + i)) := own_vs w1 24 (by decide) i hi
theorem own_V12 (w0 w1 w2 w3 : Int64) (i : Nat) (hi : i < 64) : Sh.bt (own_B w0 w1 w2 w3 12 &&& 255).toInt64 i = (decide (i < 8) && Sh.bt w1 (32 + i)) := own_vs w1 32 (by decide) i hi
theorem own_V13 (w0 w1 w2 w3 : Int64) (i : Nat) (hi : i < 64) : Sh.bt (own_B w0 w1 w2 w3 13 &&& 255).toInt64 i = (decide (i < 8) && Sh.bt w1 (40 + i)) := own_vs w1 40 (by decide) i hi
theorem own_V14 (w0 w1 w2 w3 : Int64) (i : Nat) (hi : i < 64) : Sh.bt (own_B w0 w1 w2 w3 14 &&& 255).toInt64 i = (decide (i < 8) && Sh.bt w1 (48 + i)) := own_vs w1 48 (by decide) i hi
theorem own_V15 (w0 w1 w2 w3 : Int64) (i : Nat) (hi : i < 64) : Sh.bt (own_B w0 w1 w2 w3 15 &&& 255).toInt64 i = (decide (i < 8) && Sh.bt w1 (56 + i)) := own_vs w1 56 (by decide) i hi
theorem own_V16 (w0 w1 w2 w3 : Int64) (i : Nat) (hi : i < 64) : Sh.bt (own_B w0 w1 w2 w3 16 &&& 255).toInt64 i = (decide (i < 8) && Sh.bt w2 (0 + i)) := own_v0 w2 i hi
theorem own_V17 (w0 w1 w2 w3 : Int64) (i : Nat) (hi : i < 64) : Sh.bt (own_B w0 w1 w2 w3 17 &&& 255).toInt64 i = (decide (i < 8) && Sh.bt w2 (8 + i)) := own_vs w2 8 (by decide) i hi
theorem own_V18 (w0 w1 w2 w3 : Int64) (i : Nat) (hi : i < 64) : Sh.bt (own_B w0 w1 w2 w3 18 &&& 255).toInt64 i = (decide (i < 8) && Sh.bt w2 (16 + i)) := own_vs w2 16 (by decide) i hi
theorem own_V19 (w0 w1 w2 w3 : Int64) (i : Nat) (hi : i < 64) : Sh.bt (own_B w0 w1 w2 w3 19 &&& 255).toInt64 i = (decide (i < 8) && Sh.bt w2 (24 + i)) := own_vs w2 24 (by decide) i hi
theorem own_V20 (w0 w1 w2 w3 : Int64) (i : Nat) (hi : i < 64) : Sh.bt (own_B w0 w1 w2 w3 20 &&& 255).toInt64 i = (decide (i < 8) && Sh.bt w2 (32 + i)) := own_vs w2 32 (by decide) i hi
theorem own_V21 (w0 w1 w2 w3 : Int64) (i : Nat) (hi : i < 64) : Sh.bt (own_B w0 w1 w2 w3 21 &&& 255).toInt64 i = (decide (i < 8) && Sh.bt w2 (40 + i)) := own_vs w2 40 (by decide) i hi
theorem own_V22 (w0 w1 w2 w3 : Int64) (i : Nat) (hi : i < 64) : Sh.bt (own_B w0 w1 w2 w3 22 &&& 255).toInt64 i = (decide (i < 8) && Sh.bt w2 (48 + i)) := own_vs w2 48 (by decide) i hi
theorem own_V23 (w0 w1 w2 w3 : Int64) (i : Nat) (hi : i < 64) : Sh.bt (own_B w0 w1 w2 w3 23 &&& 255).toInt64 i = (decide (i < 8) && Sh.bt w2 (56 + i)) := own_vs w2 56 (by decide) i hi
theorem own_V24 (w0 w1 w2 w3 : Int64) (i : Nat) (hi : i < 64) : Sh.bt (own_B w0 w1 w2 w3 24 &&& 255).toInt64 i = (decide (i < 8) && Sh.bt w3 (0 + i)) := own_v0 w3 i hi
theorem own_V25 (w0 w1 w2 w3 : Int64) (i : Nat) (hi : i < 64) : Sh.bt (own_B w0 w1 w2 w3 25 &&& 255).toInt64 i = (decide (i < 8) && Sh.bt w3 (8 + i)) := own_vs w3 8 (by decide) i hi
theorem own_V26 (w0 w1 w2 w3 : Int64) (i : Nat) (hi : i < 64) : Sh.bt (own_B w0 w1 w2 w3 26 &&& 255).toInt64 i = (decide (i < 8) && Sh.bt w3 (16 + i)) := own_vs w3 16 (by decide) i hi
theorem own_V27 (w0 w1 w2 w3 : Int64) (i : Nat) (hi : i < 64) : Sh.bt (own_B w0 w1 w2 w3 27 &&& 255).toInt64 i = (decide (i < 8) && Sh.bt w3 (24 + i)) := own_vs w3 24 (by decide) i hi
theorem own_V28 (w0 w1 w2 w3 : Int64) (i : Nat) (hi : i < 64) : Sh.bt (own_B w0 w1 w2 w3 28 &&& 255).toInt64 i = (decide (i < 8) && Sh.bt w3 (32 + i)) := own_vs w3 32 (by decide) i hi
theorem own_V29 (w0 w1 w2 w3 : Int64) (i : Nat) (hi : i < 64) : Sh.bt (own_B w0 w1 w2 w3 29 &&& 255).toInt64 i = (decide (i < 8) && Sh.bt w3 (40 + i)) := own_vs w3 40 (by decide) i hi
theorem own_V30 (w0 w1 w2 w3 : Int64) (i : Nat) (hi : i < 64) : Sh.bt (own_B w0 w1 w2 w3 30 &&& 255).toInt64 i = (decide (i < 8) && Sh.bt w3 (48 + i)) := own_vs w3 48 (by decide) i hi
theorem own_V31 (w0 w1 w2 w3 : Int64) (i : Nat) (hi : i < 64) : Sh.bt (own_B w0 w1 w2 w3 31 &&& 255).toInt64 i = (decide (i < 8) && Sh.bt w3 (56 + i)) := own_vs w3 56 (by decide) i hi
def own_l0 (B : Nat → Int32) : Int64 := (((((((0 ||| (((B 0 &&& 255).toInt64 <<< ((0 : Int32).toInt64 &&& 63)) &&& 4503599627370495)) ||| (((B 1 &&& 255).toInt64 <<< ((8 : Int32).toInt64 &&& 63)) &&& 4503599627370495)) ||| (((B 2 &&& 255).toInt64 <<< ((16 : Int32).toInt64 &&& 63)) &&& 4503599627370495)) ||| (((B 3 &&& 255).toInt64 <<< ((24 : Int32).toInt64 &&& 63)) &&& 4503599627370495)) ||| (((B 4 &&& 255).toInt64 <<< ((32 : Int32).toInt64 &&& 63)) &&& 4503599627370495)) ||| (((B 5 &&& 255).toInt64 <<< ((40 : Int32).toInt64 &&& 63)) &&& 4503599627370495)) ||| (((B 6 &&& 255).toInt64 <<< ((48 : Int32).toInt64 &&& 63)) &&& 4503599627370495))
def own_l1 (B : Nat → Int32) : Int64 := (((((((0 ||| XT.ushrL (B 6 &&& 255).toInt64 4) ||| (((B 7 &&& 255).toInt64 <<< ((4 : Int32).toInt64 &&& 63)) &&& 4503599627370495)) ||| (((B 8 &&& 255).toInt64 <<< ((12 : Int32).toInt64 &&& 63)) &&& 4503599627370495)) ||| (((B 9 &&& 255).toInt64 <<< ((20 : Int32).toInt64 &&& 63)) &&& 4503599627370495)) ||| (((B 10 &&& 255).toInt64 <<< ((28 : Int32).toInt64 &&& 63)) &&& 4503599627370495)) ||| (((B 11 &&& 255).toInt64 <<< ((36 : Int32).toInt64 &&& 63)) &&& 4503599627370495)) ||| (((B 12 &&& 255).toInt64 <<< ((44 : Int32).toInt64 &&& 63)) &&& 4503599627370495))
def own_l2 (B : Nat → Int32) : Int64 := (((((((0 ||| (((B 13 &&& 255).toInt64 <<< ((0 : Int32).toInt64 &&& 63)) &&& 4503599627370495)) ||| (((B 14 &&& 255).toInt64 <<< ((8 : Int32).toInt64 &&& 63)) &&& 4503599627370495)) ||| (((B 15 &&& 255).toInt64 <<< ((16 : Int32).toInt64 &&& 63)) &&& 4503599627370495)) ||| (((B 16 &&& 255).toInt64 <<< ((24 : Int32).toInt64 &&& 63)) &&& 4503599627370495)) ||| (((B 17 &&& 255).toInt64 <<< ((32 : Int32).toInt64 &&& 63)) &&& 4503599627370495)) ||| (((B 18 &&& 255).toInt64 <<< ((40 : Int32).toInt64 &&& 63)) &&& 4503599627370495)) ||| (((B 19 &&& 255).toInt64 <<< ((48 : Int32).toInt64 &&& 63)) &&& 4503599627370495))
def own_l3 (B : Nat → Int32) : Int64 := (((((((0 ||| XT.ushrL (B 19 &&& 255).toInt64 4) ||| (((B 20 &&& 255).toInt64 <<< ((4 : Int32).toInt64 &&& 63)) &&& 4503599627370495)) ||| (((B 21 &&& 255).toInt64 <<< ((12 : Int32).toInt64 &&& 63)) &&& 4503599627370495)) ||| (((B 22 &&& 255).toInt64 <<< ((20 : Int32).toInt64 &&& 63)) &&& 4503599627370495)) ||| (((B 23 &&& 255).toInt64 <<< ((28 : Int32).toInt64 &&& 63)) &&& 4503599627370495)) ||| (((B 24 &&& 255).toInt64 <<< ((36 : Int32).toInt64 &&& 63)) &&& 4503599627370495)) ||| (((B 25 &&& 255).toInt64 <<< ((44 : Int32).toInt64 &&& 63)) &&& 4503599627370495))
def own_l4 (B : Nat → Int32) : Int64 := ((((((0 ||| (((B 26 &&& 255).toInt64 <<< ((0 : Int32).toInt64 &&& 63)) &&& 4503599627370495)) ||| (((B 27 &&& 255).toInt64 <<< ((8 : Int32).toInt64 &&& 63)) &&& 4503599627370495)) ||| (((B 28 &&& 255).toInt64 <<< ((16 : Int32).toInt64 &&& 63)) &&& 4503599627370495)) ||| (((B 29 &&& 255).toInt64 <<< ((24 : Int32).toInt64 &&& 63)) &&& 4503599627370495)) ||| (((B 30 &&& 255).toInt64 <<< ((32 : Int32).toInt64 &&& 63)) &&& 4503599627370495)) ||| (((B 31 &&& 255).toInt64 <<< ((40 : Int32).toInt64 &&& 63)) &&& 4503599627370495))
theorem own_e0 (w0 w1 w2 w3 : Int64) : own_l0 (own_B w0 w1 w2 w3) = (w0 &&& 4503599627370495) := by
  refine Sh.bt_ext fun i hi => ?_
  rw [own_l0]
  match i, hi with
  | 0, _ => simp only [Sh.bt_or, Sh.bt_zero, own_mask, own_shl0, own_shl4, own_shl8, own_shl12, own_shl16, own_shl20, own_shl24, own_shl28, own_shl32, own_shl36, own_shl40, own_shl44, own_shl48, own_ush4, own_ush16, own_ush28, own_ush40, own_ush52, own_V0, own_V1, own_V2, own_V3, own_V4, own_V5, own_V6, own_V7, own_V8, own_V9, own_V10, own_V11, own_V12, own_V13, own_V14, own_V15, own_V16, own_V17, own_V18, own_V19, own_V20, own_V21, own_V22, own_V23, own_V24, own_V25, own_V26, own_V27, own_V28, own_V29, own_V30, own_V31, Sh.bt_big, Nat.reduceLT, Nat.reduceAdd, Nat.reduceSub, Nat.reduceLeDiff, decide_true, decide_false, Bool.and_true, Bool.true_and, Bool.and_false, Bool.false_and, Bool.or_false, Bool.false_or, Bool.not_true, Bool.not_false, Nat.zero_add, Nat.sub_zero, Nat.lt_irrefl, Nat.not_lt_zero]
  | 1, _ => simp only [Sh.bt_or, Sh.bt_zero, own_mask, own_shl0, own_shl4, own_shl8, own_shl12, own_shl16, own_shl20, own_shl24, own_shl28, own_shl32, own_shl36, own_shl40, own_shl44, own_shl48, own_ush4, own_ush16, own_ush28, own_ush40, own_ush52, own_V0, own_V1, own_V2, own_V3, own_V4, own_V5, own_V6, own_V7, own_V8, own_V9, own_V10, own_V11, own_V12, own_V13, own_V14, own_V15, own_V16, own_V17, own_V18, own_V19, own_V20, own_V21, own_V22, own_V23, own_V24, own_V25, own_V26, own_V27, own_V28, own_V29, own_V30, own_V31, Sh.bt_big, Nat.reduceLT, Nat.reduceAdd, Nat.reduceSub, Nat.reduceLeDiff, decide_true, decide_false, Bool.and_true, Bool.true_and, Bool.and_false, Bool.false_and, Bool.or_false, Bool.false_or, Bool.not_true, Bool.not_false, Nat.zero_add, Nat.sub_zero, Nat.lt_irrefl, Nat.not_lt_zero]
  | 2, _ => simp only [Sh.bt_or, Sh.bt_zero, own_mask, own_shl0, own_shl4, own_shl8, own_shl12, own_shl16, own_shl20, own_shl24, own_shl28, own_shl32, own_shl36, own_shl40, own_shl44, own_shl48, own_ush4, own_ush16, own_ush28, own_ush40, own_ush52, own_V0, own_V1, own_V2, own_V3, own_V4, own_V5, own_V6, own_V7, own_V8, own_V9, own_V10, own_V11, own_V12, own_V13, own_V14, own_V15, own_V16, own_V17, own_V18, own_V19, own_V20, own_V21, own_V22, own_V23, own_V24, own_V25, own_V26, own_V27, own_V28, own_V29, own_V30, own_V31, Sh.bt_big, Nat.reduceLT, Nat.reduceAdd, Nat.reduceSub, Nat.reduceLeDiff, decide_true, decide_false, Bool.and_true, Bool.true_and, Bool.and_false, Bool.false_and, Bool.or_false, Bool.false_or, Bool.not_true, Bool.not_false, Nat.zero_add, Nat.sub_zero, Nat.lt_irrefl, Nat.not_lt_zero]
  | 3, _ => simp only [Sh.bt_or, Sh.bt_zero, own_mask, own_shl0, own_shl4, own_shl8, own_shl12, own_shl16, own_shl20, own_shl24, own_shl28, own_shl32, own_shl36, own_shl40, own_shl44, own_shl48, own_ush4, own_ush16, own_ush28, own_ush40, own_ush52, own_V0, own_V1, own_V2, own_V3, own_V4, own_V5, own_V6, own_V7, own_V8, own_V9, own_V10, own_V11, own_V12, own_V13, own_V14, own_V15, own_V16, own_V17, own_V18, own_V19, own_V20, own_V21, own_V22, own_V23, own_V24, own_V25, own_V26, own_V27, own_V28, own_V29, own_V30, own_V31, Sh.bt_big, Nat.reduceLT, Nat.reduceAdd, Nat.reduceSub, Nat.reduceLeDiff, decide_true, decide_false, Bool.and_true, Bool.true_and, Bool.and_false, Bool.false_and, Bool.or_false, Bool.false_or, Bool.not_true, Bool.not_false, Nat.zero_add, Nat.sub_zero, Nat.lt_irrefl, Nat.not_lt_zero]
  | 4, _ => simp only [Sh.bt_or, Sh.bt_zero, own_mask, own_shl0, own_shl4, own_shl8, own_shl12, own_shl16, own_shl20, own_shl24, own_shl28, own_shl32, own_shl36, own_shl40, own_shl44, own_shl48, own_ush4, own_ush16, own_ush28, own_ush40, own_ush52, own_V0, own_V1, own_V2, own_V3, own_V4, own_V5, own_V6, own_V7, own_V8, own_V9, own_V10, own_V11, own_V12, own_V13, own_V14, own_V15, own_V16, own_V17, own_V18, own_V19, own_V20, own_V21, own_V22, own_V23, own_V24, own_V25, own_V26, own_V27, own_V28, own_V29, own_V30, own_V31, Sh.bt_big, Nat.reduceLT, Nat.reduceAdd, Nat.reduceSub, Nat.reduceLeDiff, decide_true, decide_false, Bool.and_true, Bool.true_and, Bool.and_false, Bool.false_and, Bool.or_false, Bool.false_or, Bool.not_true, Bool.not_false, Nat.zero_add, Nat.sub_zero, Nat.lt_irrefl, Nat.not_lt_zero]
  | 5, _ => simp only [Sh.bt_or, Sh.bt_zero, own_mask, own_shl0, own_shl4, own_shl8, own_shl12, own_shl16, own_shl20, own_shl24, own_shl28, own_shl32, own_shl36, own_shl40, own_shl44, own_shl48, own_ush4, own_ush16, own_ush28, own_ush40, own_ush52, own_V0, own_V1, own_V2, own_V3, own_V4, own_V5, own_V6, own_V7, own_V8, own_V9, own_V10, own_V11, own_V12, own_V13, own_V14, own_V15, own_V16, own_V17, own_V18, own_V19, own_V20, own_V21, own_V22, own_V23, own_V24, own_V25, own_V26, own_V27, own_V28, own_V29, own_V30, own_V31, Sh.bt_big, Nat.reduceLT, Nat.reduceAdd, Nat.reduceSub, Nat.reduceLeDiff, decide_true, decide_false, Bool.and_true, Bool.true_and, Bool.and_false, Bool.false_and, Bool.or_false, Bool.false_or, Bool.not_true, Bool.not_false, Nat.zero_add, Nat.sub_zero, Nat.lt_irrefl, Nat.not_lt_zero]
  | 6, _ => simp only [Sh.bt_or, Sh.bt_zero, own_mask, own_shl0, own_shl4, own_shl8, own_shl12, own_shl16, own_shl20, own_shl24, own_shl28, own_shl32, own_shl36, own_shl40, own_shl44, own_shl48, own_ush4, own_ush16, own_ush28, own_ush40, own_ush52, own_V0, own_V1, own_V2, own_V3, own_V4, own_V5, own_V6, own_V7, own_V8, own_V9, own_V10, own_V11, own_V12, own_V13, own_V14, own_V15, own_V16, own_V17, own_V18, own_V19, own_V20, own_V21, own_V22, own_V23, own_V24, own_V25, own_V26, own_V27, own_V28, own_V29, own_V30, own_V31, Sh.bt_big, Nat.reduceLT, Nat.reduceAdd, Nat.reduceSub, Nat.reduceLeDiff, decide_true, decide_false, Bool.and_true, Bool.true_and, Bool.and_false, Bool.false_and, Bool.or_false, Bool.false_or, Bool.not_true, Bool.not_false, Nat.zero_add, Nat.sub_zero, Nat.lt_irrefl, Nat.not_lt_zero]
  | 7, _ => simp only [Sh.bt_or, Sh.bt_zero, own_mask, own_shl0, own_shl4, own_shl8, own_shl12, own_shl16, own_shl20, own_shl24, own_shl28, own_shl32, own_shl36, own_shl40, own_shl44, own_shl48, own_ush4, own_ush16, own_ush28, own_ush40, own_ush52, own_V0, own_V1, own_V2, own_V3, own_V4, own_V5, own_V6, own_V7, own_V8, own_V9, own_V10, own_V11, own_V12, own_V13, own_V14, own_V15, own_V16, own_V17, own_V18, own_V19, own_V20, own_V21, own_V22, own_V23, own_V24, own_V25, own_V26, own_V27, own_V28, own_V29, own_V30, own_V31, Sh.bt_big, Nat.reduceLT, Nat.reduceAdd, Nat.reduceSub, Nat.reduceLeDiff, decide_true, decide_false, Bool.and_true, Bool.true_and, Bool.and_false, Bool.false_and, Bool.or_false, Bool.false_or, Bool.not_true, Bool.not_false, Nat.zero_add, Nat.sub_zero, Nat.lt_irrefl, Nat.not_lt_zero]
  | 8, _ => simp only [Sh.bt_or, Sh.bt_zero, own_mask, own_shl0, own_shl4, own_shl8, own_shl12, own_shl16, own_shl20, own_shl24, own_shl28, own_shl32, own_shl36, own_shl40, own_shl44, own_shl48, own_ush4, own_ush16, own_ush28, own_ush40, own_ush52, own_V0, own_V1, own_V2, own_V3, own_V4, own_V5, own_V6, own_V7, own_V8, own_V9, own_V10, own_V11, own_V12, own_V13, own_V14, own_V15, own_V16, own_V17, own_V18, own_V19, own_V20, own_V21, own_V22, own_V23, own_V24, own_V25, own_V26, own_V27, own_V28, own_V29, own_V30, own_V31, Sh.bt_big, Nat.reduceLT, Nat.reduceAdd, Nat.reduceSub, Nat.reduceLeDiff, decide_true, decide_false, Bool.and_true, Bool.true_and, Bool.and_false, Bool.false_and, Bool.or_false, Bool.false_or, Bool.not_true, Bool.not_false, Nat.zero_add, Nat.sub_zero, Nat.lt_irrefl, Nat.not_lt_zero]
  | 9, _ => simp only [Sh.bt_or, Sh.bt_zero, own_mask, own_shl0, own_shl4, own_shl8, own_shl12, own_shl16, own_shl20, own_shl24, own_shl28, own_shl32, own_shl36, own_shl40, own_shl44, own_shl48, own_ush4, own_ush16, own_ush28, own_ush40, own_ush52, own_V0, own_V1, own_V2, own_V3, own_V4, own_V5, own_V6, own_V7, own_V8, own_V9, own_V10, own_V11, own_V12, own_V13, own_V14, own_V15, own_V16, own_V17, own_V18, own_V19, own_V20, own_V21, own_V22, own_V23, own_V24, own_V25, own_V26, own_V27, own_V28, own_V29, own_V30, own_V31, Sh.bt_big, Nat.reduceLT, Nat.reduceAdd, Nat.reduceSub, Nat.reduceLeDiff, decide_true, decide_false, Bool.and_true, Bool.true_and, Bool.and_false, Bool.false_and, Bool.or_false, Bool.false_or, Bool.not_true, Bool.not_false, Nat.zero_add, Nat.sub_zero, Nat.lt_irrefl, Nat.not_lt_zero]
  | 10, _ => simp only [Sh.bt_or, Sh.bt_zero, own_mask, own_shl0, own_shl4, own_shl8, own_shl12, own_shl16, own_shl20, own_shl24, own_shl28, own_shl32, own_shl36, own_shl40, own_shl44, own_shl48, own_ush4, own_ush16, own_ush28, own_ush40, own_ush52, own_V0, own_V1, own_V2, own_V3, own_V4, own_V5, own_V6, own_V7, own_V8, own_V9, own_V10, own_V11, own_V12, own_V13, own_V14, own_V15, own_V16, own_V17, own_V18, own_V19, own_V20, own_V21, own_V22, own_V23, own_V24, own_V25, own_V26, own_V27, own_V28, own_V29, own_V30, own_V31, Sh.bt_big, Nat.reduceLT, Nat.reduceAdd, Nat.reduceSub, Nat.reduceLeDiff, decide_true, decide_false, Bool.and_true, Bool.true_and, Bool.and_false, Bool.false_and, Bool.or_false, Bool.false_or, Bool.not_true, Bool.not_false, Nat.zero_add, Nat.sub_zero, Nat.lt_irrefl, Nat.not_lt_zero]
  | 11, _ => simp only [Sh.bt_or, Sh.bt_zero, own_mask, own_shl0, own_shl4, own_shl8, own_shl12, own_shl16, own_shl20, own_shl24, own_shl28, own_shl32, own_shl36, own_shl40, own_shl44, own_shl48, own_ush4, own_ush16, own_ush28, own_ush40, own_ush52, own_V0, own_V1, own_V2, own_V3, own_V4, own_V5, own_V6, own_V7, own_V8, own_V9, own_V10, own_V11, own_V12, own_V13, own_V14, own_V15, own_V16, own_V17, own_V18, own_V19, own_V20, own_V21, own_V22, own_V23, own_V24, own_V25, own_V26, own_V27, own_V28, own_V29, own_V30, own_V31, Sh.bt_big, Nat.reduceLT, Nat.reduceAdd, Nat.reduceSub, Nat.reduceLeDiff, decide_true, decide_false, Bool.and_true, Bool.true_and, Bool.and_false, Bool.false_and, Bool.or_false, Bool.false_or, Bool.not_true, Bool.not_false, Nat.zero_add, Nat.sub_zero, Nat.lt_irrefl, Nat.not_lt_zero]
  | 12, _ => simp only [Sh.bt_or, Sh.bt_zero, own_mask, own_shl0, own_shl4, own_shl8, own_shl12, own_shl16, own_shl20, own_shl24, own_shl28, own_shl32, own_shl36, own_shl40, own_shl44, own_shl48, own_ush4, own_ush16, own_ush28, own_ush40, own_ush52, own_V0, own_V1, own_V2, own_V3, own_V4, own_V5, own_V6, own_V7, own_V8, own_V9, own_V10, own_V11, own_V12, own_V13, own_V14, own_V15, own_V16, own_V17, own_V18, own_V19, own_V20, own_V21, own_V22, own_V23, own_V24, own_V25, own_V26, own_V27, own_V28, own_V29, own_V30, own_V31, Sh.bt_big, Nat.reduceLT, Nat.reduceAdd, Nat.reduceSub, Nat.reduceLeDiff, decide_true, decide_false, Bool.and_true, Bool.true_and, Bool.and_false, Bool.false_and, Bool.or_false, Bool.false_or, Bool.not_true, Bool.not_false, Nat.zero_add, Nat.sub_zero, Nat.lt_irrefl, Nat.not_lt_zero]
  | 13, _ => simp only [Sh.bt_or, Sh.bt_zero, own_mask, own_shl0, own_shl4, own_shl8, own_shl12, own_shl16, own_shl20, own_shl24, own_shl28, own_shl32, own_shl36, own_shl40, own_shl44, own_shl48, own_ush4, own_ush16, own_ush28, own_ush40, own_ush52, own_V0, own_V1, own_V2, own_V3, own_V4, own_V5, own_V6, own_V7, own_V8, own_V9, own_V10, own_V11, own_V12, own_V13, own_V14, own_V15, own_V16, own_V17, own_V18, own_V19, own_V20, own_V21, own_V22, own_V23, own_V24, own_V25, own_V26, own_V27, own_V28, own_V29, own_V30, own_V31, Sh.bt_big, Nat.reduceLT, Nat.reduceAdd, Nat.reduceSub, Nat.reduceLeDiff, decide_true, decide_false, Bool.and_true, Bool.true_and, Bool.and_false, Bool.false_and, Bool.or_false, Bool.false_or, Bool.not_true, Bool.not_false, Nat.zero_add, Nat.sub_zero, Nat.lt_irrefl, Nat.not_lt_zero]
  | 14, _ => simp only [Sh.bt_or, Sh.bt_zero, own_mask, own_shl0, own_shl4, own_shl8, own_shl12, own_shl16, own_shl20, own_shl24, own_shl28, own_shl32, own_shl36, own_shl40, own_shl44, own_shl48, own_ush4, own_ush16, own_ush28, own_ush40, own_ush52, own_V0, own_V1, own_V2, own_V3, own_V4, own_V5, own_V6, own_V7, own_V8, own_V9, own_V10, own_V11, own_V12, own_V13, own_V14, own_V15, own_V16, own_V17, own_V18, own_V19, own_V20, own_V21, own_V22, own_V23, own_V24, own_V25, own_V26, own_V27, own_V28, own_V29, own_V30, own_V31, Sh.bt_big, Nat.reduceLT, Nat.reduceAdd, Nat.reduceSub, Nat.reduceLeDiff, decide_true, decide_false, Bool.and_true, Bool.true_and, Bool.and_false, Bool.false_and, Bool.or_false, Bool.false_or, Bool.not_true, Bool.not_false, Nat.zero_add, Nat.sub_zero, Nat.lt_irrefl, Nat.not_lt_zero]
  | 15, _ => simp only [Sh.bt_or, Sh.bt_zero, own_mask, own_shl0, own_shl4, own_shl8, own_shl12, own_shl16, own_shl20, own_shl24, own_shl28, own_shl32, own_shl36, own_shl40, own_shl44, own_shl48, own_ush4, own_ush16, own_ush28, own_ush40, own_ush52, own_V0, own_V1, own_V2, own_V3, own_V4, own_V5, own_V6, own_V7, own_V8, own_V9, own_V10, own_V11, own_V12, own_V13, own_V14, own_V15, own_V16, own_V17, own_V18, own_V19, own_V20, own_V21, own_V22, own_V23, own_V24, own_V25, own_V26, own_V27, own_V28, own_V29, own_V30, own_V31, Sh.bt_big, Nat.reduceLT, Nat.reduceAdd, Nat.reduceSub, Nat.reduceLeDiff, decide_true, decide_false, Bool.and_true, Bool.true_and, Bool.and_false, Bool.false_and, Bool.or_false, Bool.false_or, Bool.not_true, Bool.not_false, Nat.zero_add, Nat.sub_zero, Nat.lt_irrefl, Nat.not_lt_zero]
  | 16, _ => simp only [Sh.bt_or, Sh.bt_zero, own_mask, own_shl0, own_shl4, own_shl8, own_shl12, own_shl16, own_shl20, own_shl24, own_shl28, own_shl32, own_shl36, own_shl40, own_shl44, own_shl48, own_ush4, own_ush16, own_ush28, own_ush40, own_ush52, own_V0, own_V1, own_V2, own_V3, own_V4, own_V5, own_V6, own_V7, own_V8, own_V9, own_V10, own_V11, own_V12, own_V13, own_V14, own_V15, own_V16, own_V17, own_V18, own_V19, own_V20, own_V21, own_V22, own_V23, own_V24, own_V25, own_V26, own_V27, own_V28, own_V29, own_V30, own_V31, Sh.bt_big, Nat.reduceLT, Nat.reduceAdd, Nat.reduceSub, Nat.reduceLeDiff, decide_true, decide_false, Bool.and_true, Bool.true_and, Bool.and_false, Bool.false_and, Bool.or_false, Bool.false_or, Bool.not_true, Bool.not_false, Nat.zero_add, Nat.sub_zero, Nat.lt_irrefl, Nat.not_lt_zero]
  | 17, _ => simp only [Sh.bt_or, Sh.bt_zero, own_mask, own_shl0, own_shl4, own_shl8, own_shl12, own_shl16, own_shl20, own_shl24, own_shl28, own_shl32, own_shl36, own_shl40, own_shl44, own_shl48, own_ush4, own_ush16, own_ush28, own_ush40, own_ush52, own_V0, own_V1, own_V2, own_V3, own_V4, own_V5, own_V6, own_V7, own_V8, own_V9, own_V10, own_V11, own_V12, own_V13, own_V14, own_V15, own_V16, own_V17, own_V18, own_V19, own_V20, own_V21, own_V22, own_V23, own_V24, own_V25, own_V26, own_V27, own_V28, own_V29, own_V30, own_V31, Sh.bt_big, Nat.reduceLT, Nat.reduceAdd, Nat.reduceSub, Nat.reduceLeDiff, decide_true, decide_false, Bool.and_true, Bool.true_and, Bool.and_false, Bool.false_and, Bool.or_false, Bool.false_or, Bool.not_true, Bool.not_false, Nat.zero_add, Nat.sub_zero, Nat.lt_irrefl, Nat.not_lt_zero]
  | 18, _ => simp only [Sh.bt_or, Sh.bt_zero, own_mask, own_shl0, own_shl4, own_shl8, own_shl12, own_shl16, own_shl20, own_shl24, own_shl28, own_shl32, own_shl36, own_shl40, own_shl44, own_shl48, own_ush4, own_ush16, own_ush28, own_ush40, own_ush52, own_V0, own_V1, own_V2, own_V3, own_V4, own_V5, own_V6, own_V7, own_V8, own_V9, own_V10, own_V11, own_V12, own_V13, own_V14, own_V15, own_V16, own_V17, own_V18, own_V19, own_V20, own_V21, own_V22, own_V23, own_V24, own_V25, own_V26, own_V27, own_V28, own_V29, own_V30, own_V31, Sh.bt_big, Nat.reduceLT, Nat.reduceAdd, Nat.reduceSub, Nat.reduceLeDiff, decide_true, decide_false, Bool.and_true, Bool.true_and, Bool.and_false, Bool.false_and, Bool.or_false, Bool.false_or, Bool.not_true, Bool.not_false, Nat.zero_add, Nat.sub_zero, Nat.lt_irrefl, Nat.not_lt_zero]
  | 19, _ => simp only [Sh.bt_or, Sh.bt_zero, own_mask, own_shl0, own_shl4, own_shl8, own_shl12, own_shl16, own_shl20, own_shl24, own_shl28, own_shl32, own_shl36, own_shl40, own_shl44, own_shl48, own_ush4, own_ush16, own_ush28, own_ush40, own_ush52, own_V0, own_V1, own_V2, own_V3, own_V4, own_V5, own_V6, own_V7, own_V8, own_V9, own_V10, own_V11, own_V12, own_V13, own_V14, own_V15, own_V16, own_V17, own_V18, own_V19, own_V20, own_V21, own_V22, own_V23, own_V24, own_V25, own_V26, own_V27, own_V28, own_V29, own_V30, own_V31, Sh.bt_big, Nat.reduceLT, Nat.reduceAdd, Nat.reduceSub, Nat.reduceLeDiff, decide_true, decide_false, Bool.and_true, Bool.true_and, Bool.and_false, Bool.false_and, Bool.or_false, Bool.false_or, Bool.not_true, Bool.not_false, Nat.zero_add, Nat.sub_zero, Nat.lt_irrefl, Nat.not_lt_zero]
  | 20, _ => simp only [Sh.bt_or, Sh.bt_zero, own_mask, own_shl0, own_shl4, own_shl8, own_shl12, own_shl16, own_shl20, own_shl24, own_shl28, own_shl32, own_shl36, own_shl40, own_shl44, own_shl48, own_ush4, own_ush16, own_ush28, own_ush40, own_ush52, own_V0, own_V1, own_V2, own_V3, own_V4, own_V5, own_V6, own_V7, own_V8, own_V9, own_V10, own_V11, own_V12, own_V13, own_V14, own_V15, own_V16, own_V17, own_V18, own_V19, own_V20, own_V21, own_V22, own_V23, own_V24, own_V25, own_V26, own_V27, own_V28, own_V29, own_V30, own_V31, Sh.bt_big, Nat.reduceLT, Nat.reduceAdd, Nat.reduceSub, Nat.reduceLeDiff, decide_true, decide_false, Bool.and_true, Bool.true_and, Bool.and_false, Bool.false_and, Bool.or_false, Bool.false_or, Bool.not_true, Bool.not_false, Nat.zero_add, Nat.sub_zero, Nat.lt_irrefl, Nat.not_lt_zero]
  | 21, _ => simp only [Sh.bt_or, Sh.bt_zero, own_mask, own_shl0, own_shl4, own_shl8, own_shl12, own_shl16, own_shl20, own_shl24, own_shl28, own_shl32, own_shl36, own_shl40, own_shl44, own_shl48, own_ush4, own_ush16, own_ush28, own_ush40, own_ush52, own_V0, own_V1, own_V2, own_V3, own_V4, own_V5, own_V6, own_V7, own_V8, own_V9, own_V10, own_V11, own_V12, own_V13, own_V14, own_V15, own_V16, own_V17, own_V18, own_V19, own_V20, own_V21, own_V22, own_V23, own_V24, own_V25, own_V26, own_V27, own_V28, own_V29, own_V30, own_V31, Sh.bt_big, Nat.reduceLT, Nat.reduceAdd, Nat.reduceSub, Nat.reduceLeDiff, decide_true, decide_false, Bool.and_true, Bool.true_and, Bool.and_false, Bool.false_and, Bool.or_false, Bool.false_or, Bool.not_true, Bool.not_false, Nat.zero_add, Nat.sub_zero, Nat.lt_irrefl, Nat.not_lt_zero]
  | 22, _ => simp only [Sh.bt_or, Sh.bt_zero, own_mask, own_shl0, own_shl4, own_shl8, own_shl12, own_shl16, own_shl20, own_shl24, own_shl28, own_shl32, own_shl36, own_shl40, own_shl44, own_shl48, own_ush4, own_ush16, own_ush28, own_ush40, own_ush52, own_V0, own_V1, own_V2, own_V3, own_V4, own_V5, own_V6, own_V7, own_V8, own_V9, own_V10, own_V11, own_V12, own_V13, own_V14, own_V15, own_V16, own_V17, own_V18, own_V19, own_V20, own_V21, own_V22, own_V23, own_V24, own_V25, own_V26, own_V27, own_V28, own_V29, own_V30, own_V31, Sh.bt_big, Nat.reduceLT, Nat.reduceAdd, Nat.reduceSub, Nat.reduceLeDiff, decide_true, decide_false, Bool.and_true, Bool.true_and, Bool.and_false, Bool.false_and, Bool.or_false, Bool.false_or, Bool.not_true, Bool.not_false, Nat.zero_add, Nat.sub_zero, Nat.lt_irrefl, Nat.not_lt_zero]
  | 23, _ => simp only [Sh.bt_or, Sh.bt_zero, own_mask, own_shl0, own_shl4, own_shl8, own_shl12, own_shl16, own_shl20, own_shl24, own_shl28, own_shl32, own_shl36, own_shl40, own_shl44, own_shl48, own_ush4, own_ush16, own_ush28, own_ush40, own_ush52, own_V0, own_V1, own_V2, own_V3, own_V4, own_V5, own_V6, own_V7, own_V8, own_V9, own_V10, own_V11, own_V12, own_V13, own_V14, own_V15, own_V16, own_V17, own_V18, own_V19, own_V20, own_V21, own_V22, own_V23, own_V24, own_V25, own_V26, own_V27, own_V28, own_V29, own_V30, own_V31, Sh.bt_big, Nat.reduceLT, Nat.reduceAdd, Nat.reduceSub, Nat.reduceLeDiff, decide_true, decide_false, Bool.and_true, Bool.true_and, Bool.and_false, Bool.false_and, Bool.or_false, Bool.false_or, Bool.not_true, Bool.not_false, Nat.zero_add, Nat.sub_zero, Nat.lt_irrefl, Nat.not_lt_zero]
  | 24, _ => simp only [Sh.bt_or, Sh.bt_zero, own_mask, own_shl0, own_shl4, own_shl8, own_shl12, own_shl16, own_shl20, own_shl24, own_shl28, own_shl32, own_shl36, own_shl40, own_shl44, own_shl48, own_ush4, own_ush16, own_ush28, own_ush40, own_ush52, own_V0, own_V1, own_V2, own_V3, own_V4, own_V5, own_V6, own_V7, own_V8, own_V9, own_V10, own_V11, own_V12, own_V13, own_V14, own_V15, own_V16, own_V17, own_V18, own_V19, own_V20, own_V21, own_V22, own_V23, own_V24, own_V25, own_V26, own_V27, own_V28, own_V29, own_V30, own_V31, Sh.bt_big, Nat.reduceLT, Nat.reduceAdd, Nat.reduceSub, Nat.reduceLeDiff, decide_true, decide_false, Bool.and_true, Bool.true_and, Bool.and_false, Bool.false_and, Bool.or_false, Bool.false_or, Bool.not_true, Bool.not_false, Nat.zero_add, Nat.sub_zero, Nat.lt_irrefl, Nat.not_lt_zero]
  | 25, _ => simp only [Sh.bt_or, Sh.bt_zero, own_mask, own_shl0, own_shl4, own_shl8, own_shl12, own_shl16, own_shl20, own_shl24, own_shl28, own_shl32, own_shl36, own_shl40, own_shl44, own_shl48, own_ush4, own_ush16, own_ush28, own_ush40, own_ush52, own_V0, own_V1, own_V2, own_V3, own_V4, own_V5, own_V6, own_V7, own_V8, own_V9, own_V10, own_V11, own_V12, own_V13, own_V14, own_V15, own_V16, own_V17, own_V18, own_V19, own_V20, own_V21, own_V22, own_V23, own_V24, own_V25, own_V26, own_V27, own_V28, own_V29, own_V30, own_V31, Sh.bt_big, Nat.reduceLT, Nat.reduceAdd, Nat.reduceSub, Nat.reduceLeDiff, decide_true, decide_false, Bool.and_true, Bool.true_and, Bool.and_false, Bool.false_and, Bool.or_false, Bool.false_or, Bool.not_true, Bool.not_false, Nat.zero_add, Nat.sub_zero, Nat.lt_irrefl, Nat.not_lt_zero]
  | 26, _ => simp only [Sh.bt_or, Sh.bt_zero, own_mask, own_shl0, own_shl4, own_shl8, own_shl12, own_shl16, own_shl20, own_shl24, own_shl28, own_shl32, own_shl36, own_shl40, own_shl44, own_shl48, own_ush4, own_ush16, own_ush28, own_ush40, own_ush52, own_V0, own_V1, own_V2, own_V3, own_V4, own_V5, own_V6, own_V7, own_V8, own_V9, own_V10, own_V11, own_V12, own_V13, own_V14, own_V15, own_V16, own_V17, own_V18, own_V19, own_V20, own_V21, own_V22, own_V23, own_V24, own_V25, own_V26, own_V27, own_V28, own_V29, own_V30, own_V31, Sh.bt_big, Nat.reduceLT, Nat.reduceAdd, Nat.reduceSub, Nat.reduceLeDiff, decide_true, decide_false, Bool.and_true, Bool.true_and, Bool.and_false, Bool.false_and, Bool.or_false, Bool.false_or, Bool.not_true, Bool.not_false, Nat.zero_add, Nat.sub_zero, Nat.lt_irrefl, Nat.not_lt_zero]
  | 27, _ => simp only [Sh.bt_or, Sh.bt_zero, own_mask, own_shl0, own_shl4, own_shl8, own_shl12, own_shl16, own_shl20, own_shl24, own_shl28, own_shl32, own_shl36, own_shl40, own_shl44, own_shl48, own_ush4, own_ush16, own_ush28, own_ush40, own_ush52, own_V0, own_V1, own_V2, own_V3, own_V4, own_V5, own_V6, own_V7, own_V8, own_V9, own_V10, own_V11, own_V12, own_V13, own_V14, own_V15, own_V16, own_V17, own_V18, own_V19, own_V20, own_V21, own_V22, own_V23, own_V24, own_V25, own_V26, own_V27, own_V28, own_V29, own_V30, own_V31, Sh.bt_big, Nat.reduceLT, Nat.reduceAdd, Nat.reduceSub, Nat.reduceLeDiff, decide_true, decide_false, Bool.and_true, Bool.true_and, Bool.and_false, Bool.false_and, Bool.or_false, Bool.false_or, Bool.not_true, Bool.not_false, Nat.zero_add, Nat.sub_zero, Nat.lt_irrefl, Nat.not_lt_zero]
  | 28, _ => simp only [Sh.bt_or, Sh.bt_zero, own_mask, own_shl0, own_shl4, own_shl8, own_shl12, own_shl16, own_shl20, own_shl24, own_shl28, own_shl32, own_shl36, own_shl40, own_shl44, own_shl48, own_ush4, own_ush16, own_ush28, own_ush40, own_ush52, own_V0, own_V1, own_V2, own_V3, own_V4, own_V5, own_V6, own_V7, own_V8, own_V9, own_V10, own_V11, own_V12, own_V13, own_V14, own_V15, own_V16, own_V17, own_V18, own_V19, own_V20, own_V21, own_V22, own_V23, own_V24, own_V25, own_V26, own_V27, own_V28, own_V29, own_V30, own_V31, Sh.bt_big, Nat.reduceLT, Nat.reduceAdd, Nat.reduceSub, Nat.reduceLeDiff, decide_true, decide_false, Bool.and_true, Bool.true_and, Bool.and_false, Bool.false_and, Bool.or_false, Bool.false_or, Bool.not_true, Bool.not_false, Nat.zero_add, Nat.sub_zero, Nat.lt_irrefl, Nat.not_lt_zero]
  | 29, _ => simp only [Sh.bt_or, Sh.bt_zero, own_mask, own_shl0, own_shl4, own_shl8, own_shl12, own_shl16, own_shl20, own_shl24, own_shl28, own_shl32, own_shl36, own_shl40, own_shl44, own_shl48, own_ush4, own_ush16, own_ush28, own_ush40, own_ush52, own_V0, own_V1, own_V2, own_V3, own_V4, own_V5, own_V6, own_V7, own_V8, own_V9, own_V10, own_V11, own_V12, own_V13, own_V14, own_V15, own_V16, own_V17, own_V18, own_V19, own_V20, own_V21, own_V22, own_V23, own_V24, own_V25, own_V26, own_V27, own_V28, own_V29, own_V30, own_V31, Sh.bt_big, Nat.reduceLT, Nat.reduceAdd, Nat.reduceSub, Nat.reduceLeDiff, decide_true, decide_false, Bool.and_true, Bool.true_and, Bool.and_false, Bool.false_and, Bool.or_false, Bool.false_or, Bool.not_true, Bool.not_false, Nat.zero_add, Nat.sub_zero, Nat.lt_irrefl, Nat.not_lt_zero]
  | 30, _ => simp only [Sh.bt_or, Sh.bt_zero, own_mask, own_shl0, own_shl4, own_shl8, own_shl12, own_shl16, own_shl20, own_shl24, own_shl28, own_shl32, own_shl36, own_shl40, own_shl44, own_shl48, own_ush4, own_ush16, own_ush28, own_ush40, own_ush52, own_V0, own_V1, own_V2, own_V3, own_V4, own_V5, own_V6, own_V7, own_V8, own_V9, own_V10, own_V11, own_V12, own_V13, own_V14, own_V15, own_V16, own_V17, own_V18, own_V19, own_V20, own_V21, own_V22, own_V23, own_V24, own_V25, own_V26, own_V27, own_V28, own_V29, own_V30, own_V31, Sh.bt_big, Nat.reduceLT, Nat.reduceAdd, Nat.reduceSub, Nat.reduceLeDiff, decide_true, decide_false, Bool.and_true, Bool.true_and, Bool.and_false, Bool.false_and, Bool.or_false, Bool.false_or, Bool.not_true, Bool.not_false, Nat.zero_add, Nat.sub_zero, Nat.lt_irrefl, Nat.not_lt_zero]
  | 31, _ => simp only [Sh.bt_or, Sh.bt_zero, own_mask, own_shl0, own_shl4, own_shl8, own_shl12, own_shl16, own_shl20, own_shl24, own_shl28, own_shl32, own_shl36, own_shl40, own_shl44, own_shl48, own_ush4, own_ush16, own_ush28, own_ush40, own_ush52, own_V0, own_V1, own_V2, own_V3, own_V4, own_V5, own_V6, own_V7, own_V8, own_V9, own_V10, own_V11, own_V12, own_V13, own_V14, own_V15, own_V16, own_V17, own_V18, own_V19, own_V20, own_V21, own_V22, own_V23, own_V24, own_V25, own_V26, own_V27, own_V28, own_V29, own_V30, own_V31, Sh.bt_big, Nat.reduceLT, Nat.reduceAdd, Nat.reduceSub, Nat.reduceLeDiff, decide_true, decide_false, Bool.and_true, Bool.true_and, Bool.and_false, Bool.false_and, Bool.or_false, Bool.false_or, Bool.not_true, Bool.not_false, Nat.zero_add, Nat.sub_zero, Nat.lt_irrefl, Nat.not_lt_zero]
  | 32, _ => simp only [Sh.bt_or, Sh.bt_zero, own_mask, own_shl0, own_shl4, own_shl8, own_shl12, own_shl16, own_shl20, own_shl24, own_shl28, own_shl32, own_shl36, own_shl40, own_shl44, own_shl48, own_ush4, own_ush16, own_ush28, own_ush40, own_ush52, own_V0, own_V1, own_V2, own_V3, own_V4, own_V5, own_V6, own_V7, own_V8, own_V9, own_V10, own_V11, own_V12, own_V13, own_V14, own_V15, own_V16, own_V17, own_V18, own_V19, own_V20, own_V21, own_V22, own_V23, own_V24, own_V25, own_V26, own_V27, own_V28, own_V29, own_V30, own_V31, Sh.bt_big, Nat.reduceLT, Nat.reduceAdd, Nat.reduceSub, Nat.reduceLeDiff, decide_true, decide_false, Bool.and_true, Bool.true_and, Bool.and_false, Bool.false_and, Bool.or_false, Bool.false_or, Bool.not_true, Bool.not_false, Nat.zero_add, Nat.sub_zero, Nat.lt_irrefl, Nat.not_lt_zero]
  | 33, _ => simp only [Sh.bt_or, Sh.bt_zero, own_mask, own_shl0, own_shl4, own_shl8, own_shl12, own_shl16, own_shl20, own_shl24, own_shl28, own_shl32, own_shl36, own_shl40, own_shl44, own_shl48, own_ush4, own_ush16, own_ush28, own_ush40, own_ush52, own_V0, own_V1, own_V2, own_V3, own_V4, own_V5, own_V6, own_V7, own_V8, own_V9, own_V10, own_V11, own_V12, own_V13, own_V14, own_V15, own_V16, own_V17, own_V18, own_V19, own_V20, own_V21, own_V22, own_V23, own_V24, own_V25, own_V26, own_V27, own_V28, own_V29, own_V30, own_V31, Sh.bt_big, Nat.reduceLT, Nat.reduceAdd, Nat.reduceSub, Nat.reduceLeDiff, decide_true, decide_false, Bool.and_true, Bool.true_and, Bool.and_false, Bool.false_and, Bool.or_false, Bool.false_or, Bool.not_true, Bool.not_false, Nat.zero_add, Nat.sub_zero, Nat.lt_irrefl, Nat.not_lt_zero]
  | 34, _ => simp only [Sh.bt_or, Sh.bt_zero, own_mask, own_shl0, own_shl4, own_shl8, own_shl12, own_shl16, own_shl20, own_shl24, own_shl28, own_shl32, own_shl36, own_shl40, own_shl44, own_shl48, own_ush4, own_ush16, own_ush28, own_ush40, own_ush52, own_V0, own_V1, own_V2, own_V3, own_V4, own_V5, own_V6, own_V7, own_V8, own_V9, own_V10, own_V11, own_V12, own_V13, own_V14, own_V15, own_V16, own_V17, own_V18, own_V19, own_V20, own_V21, own_V22, own_V23, own_V24, own_V25, own_V26, own_V27, own_V28, own_V29, own_V30, own_V31, Sh.bt_big, Nat.reduceLT, Nat.reduceAdd, Nat.reduceSub, Nat.reduceLeDiff, decide_true, decide_false, Bool.and_true, Bool.true_and, Bool.and_false, Bool.false_and, Bool.or_false, Bool.false_or, Bool.not_true, Bool.not_false, Nat.zero_add, Nat.sub_zero, Nat.lt_irrefl, Nat.not_lt_zero]
  | 35, _ => simp only [Sh.bt_or, Sh.bt_zero, own_mask, own_shl0, own_shl4, own_shl8, own_shl12, own_shl16, own_shl20, own_shl24, own_shl28, own_shl32, own_shl36, own_shl40, own_shl44, own_shl48, own_ush4, own_ush16, own_ush28, own_ush40, own_ush52, own_V0, own_V1, own_V2, own_V3, own_V4, own_V5, own_V6, own_V7, own_V8, own_V9, own_V10, own_V11, own_V12, own_V13, own_V14, own_V15, own_V16, own_V17, own_V18, own_V19, own_V20, own_V21, own_V22, own_V23, own_V24, own_V25, own_V26, own_V27, own_V28, own_V29, own_V30, own_V31, Sh.bt_big, Nat.reduceLT, Nat.reduceAdd, Nat.reduceSub, Nat.reduceLeDiff, decide_true, decide_false, Bool.and_true, Bool.true_and, Bool.and_false, Bool.false_and, Bool.or_false, Bool.false_or, Bool.not_true, Bool.not_false, Nat.zero_add, Nat.sub_zero, Nat.lt_irrefl, Nat.not_lt_zero]
  | 36, _ => simp only [Sh.bt_or, Sh.bt_zero, own_mask, own_shl0, own_shl4, own_shl8, own_shl12, own_shl16, own_shl20, own_shl24, own_shl28, own_shl32, own_shl36, own_shl40, own_shl44, own_shl48, own_ush4, own_ush16, own_ush28, own_ush40, own_ush52, own_V0, own_V1, own_V2, own_V3, own_V4, own_V5, own_V6, own_V7, own_V8, own_V9, own_V10, own_V11, own_V12, own_V13, own_V14, own_V15, own_V16, own_V17, own_V18, own_V19, own_V20, own_V21, own_V22, own_V23, own_V24, own_V25, own_V26, own_V27, own_V28, own_V29, own_V30, own_V31, Sh.bt_big, Nat.reduceLT, Nat.reduceAdd, Nat.reduceSub, Nat.reduceLeDiff, decide_true, decide_false, Bool.and_true, Bool.true_and, Bool.and_false, Bool.false_and, Bool.or_false, Bool.false_or, Bool.not_true, Bool.not_false, Nat.zero_add, Nat.sub_zero, Nat.lt_irrefl, Nat.not_lt_zero]
  | 37, _ => simp only [Sh.bt_or, Sh.bt_zero, own_mask, own_shl0, own_shl4, own_shl8, own_shl12, own_shl16, own_shl20, own_shl24, own_shl28, own_shl32, own_shl36, own_shl40, own_shl44, own_shl48, own_ush4, own_ush16, own_ush28, own_ush40, own_ush52, own_V0, own_V1, own_V2, own_V3, own_V4, own_V5, own_V6, own_V7, own_V8, own_V9, own_V10, own_V11, own_V12, own_V13, own_V14, own_V15, own_V16, own_V17, own_V18, own_V19, own_V20, own_V21, own_V22, own_V23, own_V24, own_V25, own_V26, own_V27, own_V28, own_V29, own_V30, own_V31, Sh.bt_big, Nat.reduceLT, Nat.reduceAdd, Nat.reduceSub, Nat.reduceLeDiff, decide_true, decide_false, Bool.and_true, Bool.true_and, Bool.and_false, Bool.false_and, Bool.or_false, Bool.false_or, Bool.not_true, Bool.not_false, Nat.zero_add, Nat.sub_zero, Nat.lt_irrefl, Nat.not_lt_zero]
  | 38, _ => simp only [Sh.bt_or, Sh.bt_zero, own_mask, own_shl0, own_shl4, own_shl8, own_shl12, own_shl16, own_shl20, own_shl24, own_shl28, own_shl32, own_shl36, own_shl40, own_shl44, own_shl48, own_ush4, own_ush16, own_ush28, own_ush40, own_ush52, own_V0, own_V1, own_V2, own_V3, own_V4, own_V5, own_V6, own_V7, own_V8, own_V9, own_V10, own_V11, own_V12, own_V13, own_V14, own_V15, own_V16, own_V17, own_V18, own_V19, own_V20, own_V21, own_V22, own_V23, own_V24, own_V25, own_V26, own_V27, own_V28, own_V29, own_V30, own_V31, Sh.bt_big, Nat.reduceLT, Nat.reduceAdd, Nat.reduceSub, Nat.reduceLeDiff, decide_true, decide_false, Bool.and_true, Bool.true_and, Bool.and_false, Bool.false_and, Bool.or_false, Bool.false_or, Bool.not_true, Bool.not_false, Nat.zero_add, Nat.sub_zero, Nat.lt_irrefl, Nat.not_lt_zero]
  | 39, _ => simp only [Sh.bt_or, Sh.bt_zero, own_mask, own_shl0, own_shl4, own_shl8, own_shl12, own_shl16, own_shl20, own_shl24, own_shl28, own_shl32, own_shl36, own_shl40, own_shl44, own_shl48, own_ush4, own_ush16, own_ush28, own_ush40, own_ush52, own_V0, own_V1, own_V2, own_V3, own_V4, own_V5, own_V6, own_V7, own_V8, own_V9, own_V10, own_V11, own_V12, own_V13, own_V14, own_V15, own_V16, own_V17, own_V18, own_V19, own_V20, own_V21, own_V22, own_V23, own_V24, own_V25, own_V26, own_V27, own_V28, own_V29, own_V30, own_V31, Sh.bt_big, Nat.reduceLT, Nat.reduceAdd, Nat.reduceSub, Nat.reduceLeDiff, decide_true, decide_false, Bool.and_true, Bool.true_and, Bool.and_false, Bool.false_and, Bool.or_false, Bool.false_or, Bool.not_true, Bool.not_false, Nat.zero_add, Nat.sub_zero, Nat.lt_irrefl, Nat.not_lt_zero]
  | 40, _ => simp only [Sh.bt_or, Sh.bt_zero, own_mask, own_shl0, own_shl4, own_shl8, own_shl12, own_shl16, own_shl20, own_shl24, own_shl28, own_shl32, own_shl36, own_shl40, own_shl44, own_shl48, own_ush4, own_ush16, own_ush28, own_ush40, own_ush52, own_V0, own_V1, own_V2, own_V3, own_V4, own_V5, own_V6, own_V7, own_V8, own_V9, own_V10, own_V11, own_V12, own_V13, own_V14, own_V15, own_V16, own_V17, own_V18, own_V19, own_V20, own_V21, own_V22, own_V23, own_V24, own_V25, own_V26, own_V27, own_V28, own_V29, own_V30, own_V31, Sh.bt_big, Nat.reduceLT, Nat.reduceAdd, Nat.reduceSub, Nat.reduceLeDiff, decide_true, decide_false, Bool.and_true, Bool.true_and, Bool.and_false, Bool.false_and, Bool.or_false, Bool.false_or, Bool.not_true, Bool.not_false, Nat.zero_add, Nat.sub_zero, Nat.lt_irrefl, Nat.not_lt_zero]
  | 41, _ => simp only [Sh.bt_or, Sh.bt_zero, own_mask, own_shl0, own_shl4, own_shl8, own_shl12, own_shl16, own_shl20, own_shl24, own_shl28, own_shl32, own_shl36, own_shl40, own_shl44, own_shl48, own_ush4, own_ush16, own_ush28, own_ush40, own_ush52, own_V0, own_V1, own_V2, own_V3, own_V4, own_V5, own_V6, own_V7, own_V8, own_V9, own_V10, own_V11, own_V12, own_V13, own_V14, own_V15, own_V16, own_V17, own_V18, own_V19, own_V20, own_V21, own_V22, own_V23, own_V24, own_V25, own_V26, own_V27, own_V28, own_V29, own_V30, own_V31, Sh.bt_big, Nat.reduceLT, Nat.reduceAdd, Nat.reduceSub, Nat.reduceLeDiff, decide_true, decide_false, Bool.and_true, Bool.true_and, Bool.and_false, Bool.false_and, Bool.or_false, Bool.false_or, Bool.not_true, Bool.not_false, Nat.zero_add, Nat.sub_zero, Nat.lt_irrefl, Nat.not_lt_zero]
  | 42, _ => simp only [Sh.bt_or, Sh.bt_zero, own_mask, own_shl0, own_shl4, own_shl8, own_shl12, own_shl16, own_shl20, own_shl24, own_shl28, own_shl32, own_shl36, own_shl40, own_shl44, own_shl48, own_ush4, own_ush16, own_ush28, own_ush40, own_ush52, own_V0, own_V1, own_V2, own_V3, own_V4, own_V5, own_V6, own_V7, own_V8, own_V9, own_V10, own_V11, own_V12, own_V13, own_V14, own_V15, own_V16, own_V17, own_V18, own_V19, own_V20, own_V21, own_V22, own_V23, own_V24, own_V25, own_V26, own_V27, own_V28, own_V29, own_V30, own_V31, Sh.bt_big, Nat.reduceLT, Nat.reduceAdd, Nat.reduceSub, Nat.reduceLeDiff, decide_true, decide_false, Bool.and_true, Bool.true_and, Bool.and_false, Bool.false_and, Bool.or_false, Bool.false_or, Bool.not_true, Bool.not_false, Nat.zero_add, Nat.sub_zero, Nat.lt_irrefl, Nat.not_lt_zero]
  | 43, _ => simp only [Sh.bt_or, Sh.bt_zero, own_mask, own_shl0, own_shl4, own_shl8, own_shl12, own_shl16, own_shl20, own_shl24, own_shl28, own_shl32, own_shl36, own_shl40, own_shl44, own_shl48, own_ush4, own_ush16, own_ush28, own_ush40, own_ush52, own_V0, own_V1, own_V2, own_V3, own_V4, own_V5, own_V6, own_V7, own_V8, own_V9, own_V10, own_V11, own_V12, own_V13, own_V14, own_V15, own_V16, own_V17, own_V18, own_V19, own_V20, own_V21, own_V22, own_V23, own_V24, own_V25, own_V26, own_V27, own_V28, own_V29, own_V30, own_V31, Sh.bt_big, Nat.reduceLT, Nat.reduceAdd, Nat.reduceSub, Nat.reduceLeDiff, decide_true, decide_false, Bool.and_true, Bool.true_and, Bool.and_false, Bool.false_and, Bool.or_false, Bool.false_or, Bool.not_true, Bool.not_false, Nat.zero_add, Nat.sub_zero, Nat.lt_irrefl, Nat.not_lt_zero]
  | 44, _ => simp only [Sh.bt_or, Sh.bt_zero, own_mask, own_shl0, own_shl4, own_shl8, own_shl12, own_shl16, own_shl20, own_shl24, own_shl28, own_shl32, own_shl36, own_shl40, own_shl44, own_shl48, own_ush4, own_ush16, own_ush28, own_ush40, own_ush52, own_V0, own_V1, own_V2, own_V3, own_V4, own_V5, own_V6, own_V7, own_V8, own_V9, own_V10, own_V11, own_V12, own_V13, own_V14, own_V15, own_V16, own_V17, own_V18, own_V19, own_V20, own_V21, own_V22, own_V23, own_V24, own_V25, own_V26, own_V27, own_V28, own_V29, own_V30, own_V31, Sh.bt_big, Nat.reduceLT, Nat.reduceAdd, Nat.reduceSub, Nat.reduceLeDiff, decide_true, decide_false, Bool.and_true, Bool.true_and, Bool.and_false, Bool.false_and, Bool.or_false, Bool.false_or, Bool.not_true, Bool.not_false, Nat.zero_add, Nat.sub_zero, Nat.lt_irrefl, Nat.not_lt_zero]
  | 45, _ => simp only [Sh.bt_or, Sh.bt_zero, own_mask, own_shl0, own_shl4, own_shl8, own_shl12, own_shl16, own_shl20, own_shl24, own_shl28, own_shl32, own_shl36, own_shl40, own_shl44, own_shl48, own_ush4, own_ush16, own_ush28, own_ush40, own_ush52, own_V0, own_V1, own_V2, own_V3, own_V4, own_V5, own_V6, own_V7, own_V8, own_V9, own_V10, own_V11, own_V12, own_V13, own_V14, own_V15, own_V16, own_V17, own_V18, own_V19, own_V20, own_V21, own_V22, own_V23, own_V24, own_V25, own_V26, own_V27, own_V28, own_V29, own_V30, own_V31, Sh.bt_big, Nat.reduceLT, Nat.reduceAdd, Nat.reduceSub, Nat.reduceLeDiff, decide_true, decide_false, Bool.and_true, Bool.true_and, Bool.and_false, Bool.false_and, Bool.or_false, Bool.false_or, Bool.not_true, Bool.not_false, Nat.zero_add, Nat.sub_zero, Nat.lt_irrefl, Nat.not_lt_zero]
  | 46, _ => simp only [Sh.bt_or, Sh.bt_zero, own_mask, own_shl0, own_shl4, own_shl8, own_shl12, own_shl16, own_shl20, own_shl24, own_shl28, own_shl32, own_shl36, own_shl40, own_shl44, own_shl48, own_ush4, own_ush16, own_ush28, own_ush40, own_ush52, own_V0, own_V1, own_V2, own_V3, own_V4, own_V5, own_V6, own_V7, own_V8, own_V9, own_V10, own_V11, own_V12, own_V13, own_V14, own_V15, own_V16, own_V17, own_V18, own_V19, own_V20, own_V21, own_V22, own_V23, own_V24, own_V25, own_V26, own_V27, own_V28, own_V29, own_V30, own_V31, Sh.bt_big, Nat.reduceLT, Nat.reduceAdd, Nat.reduceSub, Nat.reduceLeDiff, decide_true, decide_false, Bool.and_true, Bool.true_and, Bool.and_false, Bool.false_and, Bool.or_false, Bool.false_or, Bool.not_true, Bool.not_false, Nat.zero_add, Nat.sub_zero, Nat.lt_irrefl, Nat.not_lt_zero]
  | 47, _ => simp only [Sh.bt_or, Sh.bt_zero, own_mask, own_shl0, own_shl4, own_shl8, own_shl12, own_shl16, own_shl20, own_shl24, own_shl28, own_shl32, own_shl36, own_shl40, own_shl44, own_shl48, own_ush4, own_ush16, own_ush28, own_ush40, own_ush52, own_V0, own_V1, own_V2, own_V3, own_V4, own_V5, own_V6, own_V7, own_V8, own_V9, own_V10, own_V11, own_V12, own_V13, own_V14, own_V15, own_V16, own_V17, own_V18, own_V19, own_V20, own_V21, own_V22, own_V23, own_V24, own_V25, own_V26, own_V27, own_V28, own_V29, own_V30, own_V31, Sh.bt_big, Nat.reduceLT, Nat.reduceAdd, Nat.reduceSub, Nat.reduceLeDiff, decide_true, decide_false, Bool.and_true, Bool.true_and, Bool.and_false, Bool.false_and, Bool.or_false, Bool.false_or, Bool.not_true, Bool.not_false, Nat.zero_add, Nat.sub_zero, Nat.lt_irrefl, Nat.not_lt_zero]
  | 48, _ => simp only [Sh.bt_or, Sh.bt_zero, own_mask, own_shl0, own_shl4, own_shl8, own_shl12, own_shl16, own_shl20, own_shl24, own_shl28, own_shl32, own_shl36, own_shl40, own_shl44, own_shl48, own_ush4, own_ush16, own_ush28, own_ush40, own_ush52, own_V0, own_V1, own_V2, own_V3, own_V4, own_V5, own_V6, own_V7, own_V8, own_V9, own_V10, own_V11, own_V12, own_V13, own_V14, own_V15, own_V16, own_V17, own_V18, own_V19, own_V20, own_V21, own_V22, own_V23, own_V24, own_V25, own_V26, own_V27, own_V28, own_V29, own_V30, own_V31, Sh.bt_big, Nat.reduceLT, Nat.reduceAdd, Nat.reduceSub, Nat.reduceLeDiff, decide_true, decide_false, Bool.and_true, Bool.true_and, Bool.and_false, Bool.false_and, Bool.or_false, Bool.false_or, Bool.not_true, Bool.not_false, Nat.zero_add, Nat.sub_zero, Nat.lt_irrefl, Nat.not_lt_zero]
  | 49, _ => simp only [Sh.bt_or, Sh.bt_zero, own_mask, own_shl0, own_shl4, own_shl8, own_shl12, own_shl16, own_shl20, own_shl24, own_shl28, own_shl32, own_shl36, own_shl40, own_shl44, own_shl48, own_ush4, own_ush16, own_ush28, own_ush40, own_ush52, own_V0, own_V1, own_V2, own_V3, own_V4, own_V5, own_V6, own_V7, own_V8, own_V9, own_V10, own_V11, own_V12, own_V13, own_V14, own_V15, own_V16, own_V17, own_V18, own_V19, own_V20, own_V21, own_V22, own_V23, own_V24, own_V25, own_V26, own_V27, own_V28, own_V29, own_V30, own_V31, Sh.bt_big, Nat.reduceLT, Nat.reduceAdd, Nat.reduceSub, Nat.reduceLeDiff, decide_true, decide_false, Bool.and_true, Bool.true_and, Bool.and_false, Bool.false_and, Bool.or_false, Bool.false_or, Bool.not_true, Bool.not_false, Nat.zero_add, Nat.sub_zero, Nat.lt_irrefl, Nat.not_lt_zero]
  | 50, _ => simp only [Sh.bt_or, Sh.bt_zero, own_mask, own_shl0, own_shl4, own_shl8, own_shl12, own_shl16, own_shl20, own_shl24, own_shl28, own_shl32, own_shl36, own_shl40, own_shl44, own_shl48, own_ush4, own_ush16, own_ush28, own_ush40, own_ush52, own_V0, own_V1, own_V2, own_V3, own_V4, own_V5, own_V6, own_V7, own_V8, own_V9, own_V10, own_V11, own_V12, own_V13, own_V14, own_V15, own_V16, own_V17, own_V18, own_V19, own_V20, own_V21, own_V22, own_V23, own_V24, own_V25, own_V26, own_V27, own_V28, own_V29, own_V30, own_V31, Sh.bt_big, Nat.reduceLT, Nat.reduceAdd, Nat.reduceSub, Nat.reduceLeDiff, decide_true, decide_false, Bool.and_true, Bool.true_and, Bool.and_false, Bool.false_and, Bool.or_false, Bool.false_or, Bool.not_true, Bool.not_false, Nat.zero_add, Nat.sub_zero, Nat.lt_irrefl, Nat.not_lt_zero]
  | 51, _ => simp only [Sh.bt_or, Sh.bt_zero, own_mask, own_shl0, own_shl4, own_shl8, own_shl12, own_shl16, own_shl20, own_shl24, own_shl28, own_shl32, own_shl36, own_shl40, own_shl44, own_shl48, own_ush4, own_ush16, own_ush28, own_ush40, own_ush52, own_V0, own_V1, own_V2, own_V3, own_V4, own_V5, own_V6, own_V7, own_V8, own_V9, own_V10, own_V11, own_V12, own_V13, own_V14, own_V15, own_V16, own_V17, own_V18, own_V19, own_V20, own_V21, own_V22, own_V23, own_V24, own_V25, own_V26, own_V27, own_V28, own_V29, own_V30, own_V31, Sh.bt_big, Nat.reduceLT, Nat.reduceAdd, Nat.reduceSub, Nat.reduceLeDiff, decide_true, decide_false, Bool.and_true, Bool.true_and, Bool.and_false, Bool.false_and, Bool.or_false, Bool.false_or, Bool.not_true, Bool.not_false, Nat.zero_add, Nat.sub_zero, Nat.lt_irrefl, Nat.not_lt_zero]
  | 52, _ => simp only [Sh.bt_or, Sh.bt_zero, own_mask, own_shl0, own_shl4, own_shl8, own_shl12, own_shl16, own_shl20, own_shl24, own_shl28, own_shl32, own_shl36, own_shl40, own_shl44, own_shl48, own_ush4, own_ush16, own_ush28, own_ush40, own_ush52, own_V0, own_V1, own_V2, own_V3, own_V4, own_V5, own_V6, own_V7, own_V8, own_V9, own_V10, own_V11, own_V12, own_V13, own_V14, own_V15, own_V16, own_V17, own_V18, own_V19, own_V20, own_V21, own_V22, own_V23, own_V24, own_V25, own_V26, own_V27, own_V28, own_V29, own_V30, own_V31, Sh.bt_big, Nat.reduceLT, Nat.reduceAdd, Nat.reduceSub, Nat.reduceLeDiff, decide_true, decide_false, Bool.and_true, Bool.true_and, Bool.and_false, Bool.false_and, Bool.or_false, Bool.false_or, Bool.not_true, Bool.not_false, Nat.zero_add, Nat.sub_zero, Nat.lt_irrefl, Nat.not_lt_zero]
  | 53, _ => simp only [Sh.bt_or, Sh.bt_zero, own_mask, own_shl0, own_shl4, own_shl8, own_shl12, own_shl16, own_shl20, own_shl24, own_shl28, own_shl32, own_shl36, own_shl40, own_shl44, own_shl48, own_ush4, own_ush16, own_ush28, own_ush40, own_ush52, own_V0, own_V1, own_V2, own_V3, own_V4, own_V5, own_V6, own_V7, own_V8, own_V9, own_V10, own_V11, own_V12, own_V13, own_V14, own_V15, own_V16, own_V17, own_V18, own_V19, own_V20, own_V21, own_V22, own_V23, own_V24, own_V25, own_V26, own_V27, own_V28, own_V29, own_V30, own_V31, Sh.bt_big, Nat.reduceLT, Nat.reduceAdd, Nat.reduceSub, Nat.reduceLeDiff, decide_true, decide_false, Bool.and_true, Bool.true_and, Bool.and_false, Bool.false_and, Bool.or_false, Bool.false_or, Bool.not_true, Bool.not_false, Nat.zero_add, Nat.sub_zero, Nat.lt_irrefl, Nat.not_lt_zero]
  | 54, _ => simp only [Sh.bt_or, Sh.bt_zero, own_mask, own_shl0, own_shl4, own_shl8, own_shl12, own_shl16, own_shl20, own_shl24, own_shl28, own_shl32, own_shl36, own_shl40, own_shl44, own_shl48, own_ush4, own_ush16, own_ush28, own_ush40, own_ush52, own_V0, own_V1, own_V2, own_V3, own_V4, own_V5, own_V6, own_V7, own_V8, own_V9, own_V10, own_V11, own_V12, own_V13, own_V14, own_V15, own_V16, own_V17, own_V18, own_V19, own_V20, own_V21, own_V22, own_V23, own_V24, own_V25, own_V26, own_V27, own_V28, own_V29, own_V30, own_V31, Sh.bt_big, Nat.reduceLT, Nat.reduceAdd, Nat.reduceSub, Nat.reduceLeDiff, decide_true, decide_false, Bool.and_true, Bool.true_and, Bool.and_false, Bool.false_and, Bool.or_false, Bool.false_or, Bool.not_true, Bool.not_false, Nat.zero_add, Nat.sub_zero, Nat.lt_irrefl, Nat.not_lt_zero]
  | 55, _ => simp only [Sh.bt_or, Sh.bt_zero, own_mask, own_shl0, own_shl4, own_shl8, own_shl12, own_shl16, own_shl20, own_shl24, own_shl28, own_shl32, own_shl36, own_shl40, own_shl44, own_shl48, own_ush4, own_ush16, own_ush28, own_ush40, own_ush52, own_V0, own_V1, own_V2, own_V3, own_V4, own_V5, own_V6, own_V7, own_V8, own_V9, own_V10, own_V11, own_V12, own_V13, own_V14, own_V15, own_V16, own_V17, own_V18, own_V19, own_V20, own_V21, own_V22, own_V23, own_V24, own_V25, own_V26, own_V27, own_V28, own_V29, own_V30, own_V31, Sh.bt_big, Nat.reduceLT, Nat.reduceAdd, Nat.reduceSub, Nat.reduceLeDiff, decide_true, decide_false, Bool.and_true, Bool.true_and, Bool.and_false, Bool.false_and, Bool.or_false, Bool.false_or, Bool.not_true, Bool.not_false, Nat.zero_add, Nat.sub_zero, Nat.lt_irrefl, Nat.not_lt_zero]
  | 56, _ => simp only [Sh.bt_or, Sh.bt_zero, own_mask, own_shl0, own_shl4, own_shl8, own_shl12, own_shl16, own_shl20, own_shl24, own_shl28, own_shl32, own_shl36, own_shl40, own_shl44, own_shl48, own_ush4, own_ush16, own_ush28, own_ush40, own_ush52, own_V0, own_V1, own_V2, own_V3, own_V4, own_V5, own_V6, own_V7, own_V8, own_V9, own_V10, own_V11, own_V12, own_V13, own_V14, own_V15, own_V16, own_V17, own_V18, own_V19, own_V20, own_V21, own_V22, own_V23, own_V24, own_V25, own_V26, own_V27, own_V28, own_V29, own_V30, own_V31, Sh.bt_big, Nat.reduceLT, Nat.reduceAdd, Nat.reduceSub, Nat.reduceLeDiff, decide_true, decide_false, Bool.and_true, Bool.true_and, Bool.and_false, Bool.false_and, Bool.or_false, Bool.false_or, Bool.not_true, Bool.not_false, Nat.zero_add, Nat.sub_zero, Nat.lt_irrefl, Nat.not_lt_zero]
  | 57, _ => simp only [Sh.bt_or, Sh.bt_zero, own_mask, own_shl0, own_shl4, own_shl8, own_shl12, own_shl16, own_shl20, own_shl24, own_shl28, own_shl32, own_shl36, own_shl40, own_shl44, own_shl48, own_ush4, own_ush16, own_ush28, own_ush40, own_ush52, own_V0, own_V1, own_V2, own_V3, own_V4, own_V5, own_V6, own_V7, own_V8, own_V9, own_V10, own_V11, own_V12, own_V13, own_V14, own_V15, own_V16, own_V17, own_V18, own_V19, own_V20, own_V21, own_V22, own_V23, own_V24, own_V25, own_V26, own_V27, own_V28, own_V29, own_V30, own_V31, Sh.bt_big, Nat.reduceLT, Nat.reduceAdd, Nat.reduceSub, Nat.reduceLeDiff, decide_true, decide_false, Bool.and_true, Bool.true_and, Bool.and_false, Bool.false_and, Bool.or_false, Bool.false_or, Bool.not_true, Bool.not_false, Nat.zero_add, Nat.sub_zero, Nat.lt_irrefl, Nat.not_lt_zero]
  | 58, _ => simp only [Sh.bt_or, Sh.bt_zero, own_mask, own_shl0, own_shl4, own_shl8, own_shl12, own_shl16, own_shl20, own_shl24, own_shl28, own_shl32, own_shl36, own_shl40, own_shl44, own_shl48, own_ush4, own_ush16, own_ush28, own_ush40, own_ush52, own_V0, own_V1, own_V2, own_V3, own_V4, own_V5, own_V6, own_V7, own_V8, own_V9, own_V10, own_V11, own_V12, own_V13, own_V14, own_V15, own_V16, own_V17, own_V18, own_V19, own_V20, own_V21, own_V22, own_V23, own_V24, own_V25, own_V26, own_V27, own_V28, own_V29, own_V30, own_V31, Sh.bt_big, Nat.reduceLT, Nat.reduceAdd, Nat.reduceSub, Nat.reduceLeDiff, decide_true, decide_false, Bool.and_true, Bool.true_and, Bool.and_false, Bool.false_and, Bool.or_false, Bool.false_or, Bool.not_true, Bool.not_false, Nat.zero_add, Nat.sub_zero, Nat.lt_irrefl, Nat.not_lt_zero]
  | 59, _ => simp only [Sh.bt_or, Sh.bt_zero, own_mask, own_shl0, own_shl4, own_shl8, own_shl12, own_shl16, own_shl20, own_shl24, own_shl28, own_shl32, own_shl36, own_shl40, own_shl44, own_shl48, own_ush4, own_ush16, own_ush28, own_ush40, own_ush52, own_V0, own_V1, own_V2, own_V3, own_V4, own_V5, own_V6, own_V7, own_V8, own_V9, own_V10, own_V11, own_V12, own_V13, own_V14, own_V15, own_V16, own_V17, own_V18, own_V19, own_V20, own_V21, own_V22, own_V23, own_V24, own_V25, own_V26, own_V27, own_V28, own_V29, own_V30, own_V31, Sh.bt_big, Nat.reduceLT, Nat.reduceAdd, Nat.reduceSub, Nat.reduceLeDiff, decide_true, decide_false, Bool.and_true, Bool.true_and, Bool.and_false, Bool.false_and, Bool.or_false, Bool.false_or, Bool.not_true, Bool.not_false, Nat.zero_add, Nat.sub_zero, Nat.lt_irrefl, Nat.not_lt_zero]
  | 60, _ => simp only [Sh.bt_or, Sh.bt_zero, own_mask, own_shl0, own_shl4, own_shl8, own_shl12, own_shl16, own_shl20, own_shl24, own_shl28, own_shl32, own_shl36, own_shl40, own_shl44, own_shl48, own_ush4, own_ush16, own_ush28, own_ush40, own_ush52, own_V0, own_V1, own_V2, own_V3, own_V4, own_V5, own_V6, own_V7, own_V8, own_V9, own_V10, own_V11, own_V12, own_V13, own_V14, own_V15, own_V16, own_V17, own_V18, own_V19, own_V20, own_V21, own_V22, own_V23, own_V24, own_V25, own_V26, own_V27, own_V28, own_V29, own_V30, own_V31, Sh.bt_big, Nat.reduceLT, Nat.reduceAdd, Nat.reduceSub, Nat.reduceLeDiff, decide_true, decide_false, Bool.and_true, Bool.true_and, Bool.and_false, Bool.false_and, Bool.or_false, Bool.false_or, Bool.not_true, Bool.not_false, Nat.zero_add, Nat.sub_zero, Nat.lt_irrefl, Nat.not_lt_zero]
  | 61, _ => simp only [Sh.bt_or, Sh.bt_zero, own_mask, own_shl0, own_shl4, own_shl8, own_shl12, own_shl16, own_shl20, own_shl24, own_shl28, own_shl32, own_shl36, own_shl40, own_shl44, own_shl48, own_ush4, own_ush16, own_ush28, own_ush40, own_ush52, own_V0, own_V1, own_V2, own_V3, own_V4, own_V5, own_V6, own_V7, own_V8, own_V9, own_V10, own_V11, own_V12, own_V13, own_V14, own_V15, own_V16, own_V17, own_V18, own_V19, own_V20, own_V21, own_V22, own_V23, own_V24, own_V25, own_V26, own_V27, own_V28, own_V29, own_V30, own_V31, Sh.bt_big, Nat.reduceLT, Nat.reduceAdd, Nat.reduceSub, Nat.reduceLeDiff, decide_true, decide_false, Bool.and_true, Bool.true_and, Bool.and_false, Bool.false_and, Bool.or_false, Bool.false_or, Bool.not_true, Bool.not_false, Nat.zero_add, Nat.sub_zero, Nat.lt_irrefl, Nat.not_lt_zero]
  | 62, _ => simp only [Sh.bt_or, Sh.bt_zero, own_mask, own_shl0, own_shl4, own_shl8, own_shl12, own_shl16, own_shl20, own_shl24, own_shl28, own_shl32, own_shl36, own_shl40, own_shl44, own_shl48, own_ush4, own_ush16, own_ush28, own_ush40, own_ush52, own_V0, own_V1, own_V2, own_V3, own_V4, own_V5, own_V6, own_V7, own_V8, own_V9, own_V10, own_V11, own_V12, own_V13, own_V14, own_V15, own_V16, own_V17, own_V18, own_V19, own_V20, own_V21, own_V22, own_V23, own_V24, own_V25, own_V26, own_V27, own_V28, own_V29, own_V30, own_V31, Sh.bt_big, Nat.reduceLT, Nat.reduceAdd, Nat.reduceSub, Nat.reduceLeDiff, decide_true, decide_false, Bool.and_true, Bool.true_and, Bool.and_false, Bool.false_and, Bool.or_false, Bool.false_or, Bool.not_true, Bool.not_false, Nat.zero_add, Nat.sub_zero, Nat.lt_irrefl, Nat.not_lt_zero]
  | 63, _ => simp only [Sh.bt_or, Sh.bt_zero, own_mask, own_shl0, own_shl4, own_shl8, own_shl12, own_shl16, own_shl20, own_shl24, own_shl28, own_shl32, own_shl36, own_shl40, own_shl44, own_shl48, own_ush4, own_ush16, own_ush28, own_ush40, own_ush52, own_V0, own_V1, own_V2, own_V3, own_V4, own_V5, own_V6, own_V7, own_V8, own_V9, own_V10, own_V11, own_V12, own_V13, own_V14, own_V15, own_V16, own_V17, own_V18, own_V19, own_V20, own_V21, own_V22, own_V23, own_V24, own_V25, own_V26, own_V27, own_V28, own_V29, own_V30, own_V31, Sh.bt_big, Nat.reduceLT, Nat.reduceAdd, Nat.reduceSub, Nat.reduceLeDiff, decide_true, decide_false, Bool.and_true, Bool.true_and, Bool.and_false, Bool.false_and, Bool.or_false, Bool.false_or, Bool.not_true, Bool.not_false, Nat.zero_add, Nat.sub_zero, Nat.lt_irrefl, Nat.not_lt_zero]
  | n + 64, h => exact absurd h (by omega)
theorem own_e1 (w0 w1 w2 w3 : Int64) : own_l1 (own_B w0 w1 w2 w3) = ((XT.ushrL w0 52) ||| ((w1 <<< ((12 : Int32).toInt64 &&& 63)) &&& 4503599627370495)) := by
  refine Sh.bt_ext fun i hi => ?_
  rw [own_l1]
  match i, hi with
  | 0, _ => simp only [Sh.bt_or, Sh.bt_zero, own_mask, own_shl0, own_shl4, own_shl8, own_shl12, own_shl16, own_shl20, own_shl24, own_shl28, own_shl32, own_shl36, own_shl40, own_shl44, own_shl48, own_ush4, own_ush16, own_ush28, own_ush40, own_ush52, own_V0, own_V1, own_V2, own_V3, own_V4, own_V5, own_V6, own_V7, own_V8, own_V9, own_V10, own_V11, own_V12, own_V13, own_V14, own_V15, own_V16, own_V17, own_V18, own_V19, own_V20, own_V21, own_V22, own_V23, own_V24, own_V25, own_V26, own_V27, own_V28, own_V29, own_V30, own_V31, Sh.bt_big, Nat.reduceLT, Nat.reduceAdd, Nat.reduceSub, Nat.reduceLeDiff, decide_true, decide_false, Bool.and_true, Bool.true_and, Bool.and_false, Bool.false_and, Bool.or_false, Bool.false_or, Bool.not_true, Bool.not_false, Nat.zero_add, Nat.sub_zero, Nat.lt_irrefl, Nat.not_lt_zero]
  | 1, _ => simp only [Sh.bt_or, Sh.bt_zero, own_mask, own_shl0, own_shl4, own_shl8, own_shl12, own_shl16, own_shl20, own_shl24, own_shl28, own_shl32, own_shl36, own_shl40, own_shl44, own_shl48, own_ush4, own_ush16, own_ush28, own_ush40, own_ush52, own_V0, own_V1, own_V2, own_V3, own_V4, own_V5, own_V6, own_V7, own_V8, own_V9, own_V10, own_V11, own_V12, own_V13, own_V14, own_V15, own_V16, own_V17, own_V18, own_V19, own_V20, own_V21, own_V22, own_V23, own_V24, own_V25, own_V26, own_V27, own_V28, own_V29, own_V30, own_V31, Sh.bt_big, Nat.reduceLT, Nat.reduceAdd, Nat.reduceSub, Nat.reduceLeDiff, decide_true, decide_false, Bool.and_true, Bool.true_and, Bool.and_false, Bool.false_and, Bool.or_false, Bool.false_or, Bool.not_true, Bool.not_false, Nat.zero_add, Nat.sub_zero, Nat.lt_irrefl, Nat.not_lt_zero]
  | 2, _ => simp only [Sh.bt_or, Sh.bt_zero, own_mask, own_shl0, own_shl4, own_shl8, own_shl12, own_shl16, own_shl20, own_shl24, own_shl28, own_shl32, own_shl36, own_shl40, own_shl44, own_shl48, own_ush4, own_ush16, own_ush28, own_ush40, own_ush52, own_V0, own_V1, own_V2, own_V3, own_V4, own_V5, own_V6, own_V7, own_V8, own_V9, own_V10, own_V11, own_V12, own_V13, own_V14, own_V15, own_V16, own_V17, own_V18, own_V19, own_V20, own_V21, own_V22, own_V23, own_V24, own_V25, own_V26, own_V27, own_V28, own_V29, own_V30, own_V31, Sh.bt_big, Nat.reduceLT, Nat.reduceAdd, Nat.reduceSub, Nat.reduceLeDiff, decide_true, decide_false, Bool.and_true, Bool.true_and, Bool.and_false, Bool.false_and, Bool.or_false, Bool.false_or, Bool.not_true, Bool.not_false, Nat.zero_add, Nat.sub_zero, Nat.lt_irrefl, Nat.not_lt_zero]
  | 3, _ => simp only [Sh.bt_or, Sh.bt_zero, own_mask, own_shl0, own_shl4, own_shl8, own_shl12, own_shl16, own_shl20, own_shl24, own_shl28, own_shl32, own_shl36, own_shl40, own_shl44, own_shl48, own_ush4, own_ush16, own_ush28, own_ush40, own_ush52, own_V0, own_V1, own_V2, own_V3, own_V4, own_V5, own_V6, own_V7, own_V8, own_V9, own_V10, own_V11, own_V12, own_V13, own_V14, own_V15, own_V16, own_V17, own_V18, own_V19, own_V20, own_V21, own_V22, own_V23, own_V24, own_V25, own_V26, own_V27, own_V28, own_V29, own_V30, own_V31, Sh.bt_big, Nat.reduceLT, Nat.reduceAdd, Nat.reduceSub, Nat.reduceLeDiff, decide_true, decide_false, Bool.and_true, Bool.true_and, Bool.and_false, Bool.false_and, Bool.or_false, Bool.false_or, Bool.not_true, Bool.not_false, Nat.zero_add, Nat.sub_zero, Nat.lt_irrefl, Nat.not_lt_zero]
  | 4, _ => simp only [Sh.bt_or, Sh.bt_zero, own_mask, own_shl0, own_shl4, own_shl8, own_shl12, own_shl16, own_shl20, own_shl24, own_shl28, own_shl32, own_shl36, own_shl40, own_shl44, own_shl48, own_ush4, own_ush16, own_ush28, own_ush40, own_ush52, own_V0, own_V1, own_V2, own_V3, own_V4, own_V5, own_V6, own_V7, own_V8, own_V9, own_V10, own_V11, own_V12, own_V13, own_V14, own_V15, own_V16, own_V17, own_V18, own_V19, own_V20, own_V21, own_V22, own_V23, own_V24, own_V25, own_V26, own_V27, own_V28, own_V29, own_V30, own_V31, Sh.bt_big, Nat.reduceLT, Nat.reduceAdd, Nat.reduceSub, Nat.reduceLeDiff, decide_true, decide_false, Bool.and_true, Bool.true_and, Bool.and_false, Bool.false_and, Bool.or_false, Bool.false_or, Bool.not_true, Bool.not_false, Nat.zero_add, Nat.sub_zero, Nat.lt_irrefl, Nat.not_lt_zero]
  | 5, _ => simp only [Sh.bt_or, Sh.bt_zero, own_mask, own_shl0, own_shl4, own_shl8, own_shl12, own_shl16, own_shl20, own_shl24, own_shl28, own_shl32, own_shl36, own_shl40, own_shl44, own_shl48, own_ush4, own_ush16, own_ush28, own_ush40, own_ush52, own_V0, own_V1, own_V2, own_V3, own_V4, own_V5, own_V6, own_V7, own_V8, own_V9, own_V10, own_V11, own_V12, own_V13, own_V14, own_V15, own_V16, own_V17, own_V18, own_V19, own_V20, own_V21, own_V22, own_V23, own_V24, own_V25, own_V26, own_V27, own_V28, own_V29, own_V30, own_V31, Sh.bt_big, Nat.reduceLT, Nat.reduceAdd, Nat.reduceSub, Nat.reduceLeDiff, decide_true, decide_false, Bool.and_true, Bool.true_and, Bool.and_false, Bool.false_and, Bool.or_false, Bool.false_or, Bool.not_true, Bool.not_false, Nat.zero_add, Nat.sub_zero, Nat.lt_irrefl, Nat.not_lt_zero]
  | 6, _ => simp only [Sh.bt_or, Sh.bt_zero, own_mask, own_shl0, own_shl4, own_shl8, own_shl12, own_shl16, own_shl20, own_shl24, own_shl28, own_shl32, own_shl36, own_shl40, own_shl44, own_shl48, own_ush4, own_ush16, own_ush28, own_ush40, own_ush52, own_V0, own_V1, own_V2, own_V3, own_V4, own_V5, own_V6, own_V7, own_V8, own_V9, own_V10, own_V11, own_V12, own_V13, own_V14, own_V15, own_V16, own_V17, own_V18, own_V19, own_V20, own_V21, own_V22, own_V23, own_V24, own_V25, own_V26, own_V27, own_V28, own_V29, own_V30, own_V31, Sh.bt_big, Nat.reduceLT, Nat.reduceAdd, Nat.reduceSub, Nat.reduceLeDiff, decide_true, decide_false, Bool.and_true, Bool.true_and, Bool.and_false, Bool.false_and, Bool.or_false, Bool.false_or, Bool.not_true, Bool.not_false, Nat.zero_add, Nat.sub_zero, Nat.lt_irrefl, Nat.not_lt_zero]
  | 7, _ => simp only [Sh.bt_or, Sh.bt_zero, own_mask, own_shl0, own_shl4, own_shl8, own_shl12, own_shl16, own_shl20, own_shl24, own_shl28, own_shl32, own_shl36, own_shl40, own_shl44, own_shl48, own_ush4, own_ush16, own_ush28, own_ush40, own_ush52, own_V0, own_V1, own_V2, own_V3, own_V4, own_V5, own_V6, own_V7, own_V8, own_V9, own_V10, own_V11, own_V12, own_V13, own_V14, own_V15, own_V16, own_V17, own_V18, own_V19, own_V20, own_V21, own_V22, own_V23, own_V24, own_V25, own_V26, own_V27, own_V28, own_V29, own_V30, own_V31, Sh.bt_big, Nat.reduceLT, Nat.reduceAdd, Nat.reduceSub, Nat.reduceLeDiff, decide_true, decide_false, Bool.and_true, Bool.true_and, Bool.and_false, Bool.false_and, Bool.or_false, Bool.false_or, Bool.not_true, Bool.not_false, Nat.zero_add, Nat.sub_zero, Nat.lt_irrefl, Nat.not_lt_zero]
  | 8, _ => simp only [Sh.bt_or, Sh.bt_zero, own_mask, own_shl0, own_shl4, own_shl8, own_shl12, own_shl16, own_shl20, own_shl24, own_shl28, own_shl32, own_shl36, own_shl40, own_shl44, own_shl48, own_ush4, own_ush16, own_ush28, own_ush40, own_ush52, own_V0, own_V1, own_V2, own_V3, own_V4, own_V5, own_V6, own_V7, own_V8, own_V9, own_V10, own_V11, own_V12, own_V13, own_V14, own_V15, own_V16, own_V17, own_V18, own_V19, own_V20, own_V21, own_V22, own_V23, own_V24, own_V25, own_V26, own_V27, own_V28, own_V29, own_V30, own_V31, Sh.bt_big, Nat.reduceLT, Nat.reduceAdd, Nat.reduceSub, Nat.reduceLeDiff, decide_true, decide_false, Bool.and_true, Bool.true_and, Bool.and_false, Bool.false_and, Bool.or_false, Bool.false_or, Bool.not_true, Bool.not_false, Nat.zero_add, Nat.sub_zero, Nat.lt_irrefl, Nat.not_lt_zero]
  | 9, _ => simp only [Sh.bt_or, Sh.bt_zero, own_mask, own_shl0, own_shl4, own_shl8, own_shl12, own_shl16, own_shl20, own_shl24, own_shl28, own_shl32, own_shl36, own_shl40, own_shl44, own_shl48, own_ush4, own_ush16, own_ush28, own_ush40, own_ush52, own_V0, own_V1, own_V2, own_V3, own_V4, own_V5, own_V6, own_V7, own_V8, own_V9, own_V10, own_V11, own_V12, own_V13, own_V14, own_V15, own_V16, own_V17, own_V18, own_V19, own_V20, own_V21, own_V22, own_V23, own_V24, own_V25, own_V26, own_V27, own_V28, own_V29, own_V30, own_V31, Sh.bt_big, Nat.reduceLT, Nat.reduceAdd, Nat.reduceSub, Nat.reduceLeDiff, decide_true, decide_false, Bool.and_true, Bool.true_and, Bool.and_false, Bool.false_and, Bool.or_false, Bool.false_or, Bool.not_true, Bool.not_false, Nat.zero_add, Nat.sub_zero, Nat.lt_irrefl, Nat.not_lt_zero]
  | 10, _ => simp only [Sh.bt_or, Sh.bt_zero, own_mask, own_shl0, own_shl4, own_shl8, own_shl12, own_shl16, own_shl20, own_shl24, own_shl28, own_shl32, own_shl36, own_shl40, own_shl44, own_shl48, own_ush4, own_ush16, own_ush28, own_ush40, own_ush52, own_V0, own_V1, own_V2, own_V3, own_V4, own_V5, own_V6, own_V7, own_V8, own_V9, own_V10, own_V11, own_V12, own_V13, own_V14, own_V15, own_V16, own_V17, own_V18, own_V19, own_V20, own_V21, own_V22, own_V23, own_V24, own_V25, own_V26, own_V27, own_V28, own_V29, own_V30, own_V31, Sh.bt_big, Nat.reduceLT, Nat.reduceAdd, Nat.reduceSub, Nat.reduceLeDiff, decide_true, decide_false, Bool.and_true, Bool.true_and, Bool.and_false, Bool.false_and, Bool.or_false, Bool.false_or, Bool.not_true, Bool.not_false, Nat.zero_add, Nat.sub_zero, Nat.lt_irrefl, Nat.not_lt_zero]
  | 11, _ => simp only [Sh.bt_or, Sh.bt_zero, own_mask, own_shl0, own_shl4, own_shl8, own_shl12, own_shl16, own_shl20, own_shl24, own_shl28, own_shl32, own_shl36, own_shl40, own_shl44, own_shl48, own_ush4, own_ush16, own_ush28, own_ush40, own_ush52, own_V0, own_V1, own_V2, own_V3, own_V4, own_V5, own_V6, own_V7, own_V8, own_V9, own_V10, own_V11, own_V12, own_V13, own_V14, own_V15, own_V16, own_V17, own_V18, own_V19, own_V20, own_V21, own_V22, own_V23, own_V24, own_V25, own_V26, own_V27, own_V28, own_V29, own_V30, own_V31, Sh.bt_big, Nat.reduceLT, Nat.reduceAdd, Nat.reduceSub, Nat.reduceLeDiff, decide_true, decide_false, Bool.and_true, Bool.true_and, Bool.and_false, Bool.false_and, Bool.or_false, Bool.false_or, Bool.not_true, Bool.not_false, Nat.zero_add, Nat.sub_zero, Nat.lt_irrefl, Nat.not_lt_zero]
  | 12, _ => simp only [Sh.bt_or, Sh.bt_zero, own_mask, own_shl0, own_shl4, own_shl8, own_shl12, own_shl16, own_shl20, own_shl24, own_shl28, own_shl32, own_shl36, own_shl40, own_shl44, own_shl48, own_ush4, own_ush16, own_ush28, own_ush40, own_ush52, own_V0, own_V1, own_V2, own_V3, own_V4, own_V5, own_V6, own_V7, own_V8, own_V9, own_V10, own_V11, own_V12, own_V13, own_V14, own_V15, own_V16, own_V17, own_V18, own_V19, own_V20, own_V21, own_V22, own_V23, own_V24, own_V25, own_V26, own_V27, own_V28, own_V29, own_V30, own_V31, Sh.bt_big, Nat.reduceLT, Nat.reduceAdd, Nat.reduceSub, Nat.reduceLeDiff, decide_true, decide_false, Bool.and_true, Bool.true_and, Bool.and_false, Bool.false_and, Bool.or_false, Bool.false_or, Bool.not_true, Bool.not_false, Nat.zero_add, Nat.sub_zero, Nat.lt_irrefl, Nat.not_lt_zero]
  | 13, _ => simp only [Sh.bt_or, Sh.bt_zero, own_mask, own_shl0, own_shl4, own_shl8, own_shl12, own_shl16, own_shl20, own_shl24, own_shl28, own_shl32, own_shl36, own_shl40, own_shl44, own_shl48, own_ush4, own_ush16, own_ush28, own_ush40, own_ush52, own_V0, own_V1, own_V2, own_V3, own_V4, own_V5, own_V6, own_V7, own_V8, own_V9, own_V10, own_V11, own_V12, own_V13, own_V14, own_V15, own_V16, own_V17, own_V18, own_V19, own_V20, own_V21, own_V22, own_V23, own_V24, own_V25, own_V26, own_V27, own_V28, own_V29, own_V30, own_V31, Sh.bt_big, Nat.reduceLT, Nat.reduceAdd, Nat.reduceSub, Nat.reduceLeDiff, decide_true, decide_false, Bool.and_true, Bool.true_and, Bool.and_false, Bool.false_and, Bool.or_false, Bool.false_or, Bool.not_true, Bool.not_false, Nat.zero_add, Nat.sub_zero, Nat.lt_irrefl, Nat.not_lt_zero]
  | 14, _ => simp only [Sh.bt_or, Sh.bt_zero, own_mask, own_shl0, own_shl4, own_shl8, own_shl12, own_shl16, own_shl20, own_shl24, own_shl28, own_shl32, own_shl36, own_shl40, own_shl44, own_shl48, own_ush4, own_ush16, own_ush28, own_ush40, own_ush52, own_V0, own_V1, own_V2, own_V3, own_V4, own_V5, own_V6, own_V7, own_V8, own_V9, own_V10, own_V11, own_V12, own_V13, own_V14, own_V15, own_V16, own_V17, own_V18, own_V19, own_V20, own_V21, own_V22, own_V23, own_V24, own_V25, own_V26, own_V27, own_V28, own_V29, own_V30, own_V31, Sh.bt_big, Nat.reduceLT, Nat.reduceAdd, Nat.reduceSub, Nat.reduceLeDiff, decide_true, decide_false, Bool.and_true, Bool.true_and, Bool.and_false, Bool.false_and, Bool.or_false, Bool.false_or, Bool.not_true, Bool.not_false, Nat.zero_add, Nat.sub_zero, Nat.lt_irrefl, Nat.not_lt_zero]
  | 15, _ => simp only [Sh.bt_or, Sh.bt_zero, own_mask, own_shl0, own_shl4, own_shl8, own_shl12, own_shl16, own_shl20, own_shl24, own_shl28, own_shl32, own_shl36, own_shl40, own_shl44, own_shl48, own_ush4, own_ush16, own_ush28, own_ush40, own_ush52, own_V0, own_V1, own_V2, own_V3, own_V4, own_V5, own_V6, own_V7, own_V8, own_V9, own_V10, own_V11, own_V12, own_V13, own_V14, own_V15, own_V16, own_V17, own_V18, own_V19, own_V20, own_V21, own_V22, own_V23, own_V24, own_V25, own_V26, own_V27, own_V28, own_V29, own_V30, own_V31, Sh.bt_big, Nat.reduceLT, Nat.reduceAdd, Nat.reduceSub, Nat.reduceLeDiff, decide_true, decide_false, Bool.and_true, Bool.true_and, Bool.and_false, Bool.false_and, Bool.or_false, Bool.false_or, Bool.not_true, Bool.not_false, Nat.zero_add, Nat.sub_zero, Nat.lt_irrefl, Nat.not_lt_zero]
  | 16, _ => simp only [Sh.bt_or, Sh.bt_zero, own_mask, own_shl0, own_shl4, own_shl8, own_shl12, own_shl16, own_shl20, own_shl24, own_shl28, own_shl32, own_shl36, own_shl40, own_shl44, own_shl48, own_ush4, own_ush16, own_ush28, own_ush40, own_ush52, own_V0, own_V1, own_V2, own_V3, own_V4, own_V5, own_V6, own_V7, own_V8, own_V9, own_V10, own_V11, own_V12, own_V13, own_V14, own_V15, own_V16, own_V17, own_V18, own_V19, own_V20, own_V21, own_V22, own_V23, own_V24, own_V25, own_V26, own_V27, own_V28, own_V29, own_V30, own_V31, Sh.bt_big, Nat.reduceLT, Nat.reduceAdd, Nat.reduceSub, Nat.reduceLeDiff, decide_true, decide_false, Bool.and_true, Bool.true_and, Bool.and_false, Bool.false_and, Bool.or_false, Bool.false_or, Bool.not_true, Bool.not_false, Nat.zero_add, Nat.sub_zero, Nat.lt_irrefl, Nat.not_lt_zero]
  | 17, _ => simp only [Sh.bt_or, Sh.bt_zero, own_mask, own_shl0, own_shl4, own_shl8, own_shl12, own_shl16, own_shl20, own_shl24, own_shl28, own_shl32, own_shl36, own_shl40, own_shl44, own_shl48, own_ush4, own_ush16, own_ush28, own_ush40, own_ush52, own_V0, own_V1, own_V2, own_V3, own_V4, own_V5, own_V6, own_V7, own_V8, own_V9, own_V10, own_V11, own_V12, own_V13, own_V14, own_V15, own_V16, own_V17, own_V18, own_V19, own_V20, own_V21, own_V22, own_V23, own_V24, own_V25, own_V26, own_V27, own_V28, own_V29, own_V30, own_V31, Sh.bt_big, Nat.reduceLT, Nat.reduceAdd, Nat.reduceSub, Nat.reduceLeDiff, decide_true, decide_false, Bool.and_true, Bool.true_and, Bool.and_false, Bool.false_and, Bool.or_false, Bool.false_or, Bool.not_true, Bool.not_false, Nat.zero_add, Nat.sub_zero, Nat.lt_irrefl, Nat.not_lt_zero]
  | 18, _ => simp only [Sh.bt_or, Sh.bt_zero, own_mask, own_shl0, own_shl4, own_shl8, own_shl12, own_shl16, own_shl20, own_shl24, own_shl28, own_shl32, own_shl36, own_shl40, own_shl44, own_shl48, own_ush4, own_ush16, own_ush28, own_ush40, own_ush52, own_V0, own_V1, own_V2, own_V3, own_V4, own_V5, own_V6, own_V7, own_V8, own_V9, own_V10, own_V11, own_V12, own_V13, own_V14, own_V15, own_V16, own_V17, own_V18, own_V19, own_V20, own_V21, own_V22, own_V23, own_V24, own_V25, own_V26, own_V27, own_V28, own_V29, own_V30, own_V31, Sh.bt_big, Nat.reduceLT, Nat.reduceAdd, Nat.reduceSub, Nat.reduceLeDiff, decide_true, decide_false, Bool.and_true, Bool.true_and, Bool.and_false, Bool.false_and, Bool.or_false, Bool.false_or, Bool.not_true, Bool.not_false, Nat.zero_add, Nat.sub_zero, Nat.lt_irrefl, Nat.not_lt_zero]
  | 19, _ => simp only [Sh.bt_or, Sh.bt_zero, own_mask, own_shl0, own_shl4, own_shl8, own_shl12, own_shl16, own_shl20, own_shl24, own_shl28, own_shl32, own_shl36, own_shl40, own_shl44, own_shl48, own_ush4, own_ush16, own_ush28, own_ush40, own_ush52, own_V0, own_V1, own_V2, own_V3, own_V4, own_V5, own_V6, own_V7, own_V8, own_V9, own_V10, own_V11, own_V12, own_V13, own_V14, own_V15, own_V16, own_V17, own_V18, own_V19, own_V20, own_V21, own_V22, own_V23, own_V24, own_V25, own_V26, own_V27, own_V28, own_V29, own_V30, own_V31, Sh.bt_big, Nat.reduceLT, Nat.reduceAdd, Nat.reduceSub, Nat.reduceLeDiff, decide_true, decide_false, Bool.and_true, Bool.true_and, Bool.and_false, Bool.false_and, Bool.or_false, Bool.false_or, Bool.not_true, Bool.not_false, Nat.zero_add, Nat.sub_zero, Nat.lt_irrefl, Nat.not_lt_zero]
  | 20, _ => simp only [Sh.bt_or, Sh.bt_zero, own_mask, own_shl0, own_shl4, own_shl8, own_shl12, own_shl16, own_shl20, own_shl24, own_shl28, own_shl32, own_shl36, own_shl40, own_shl44, own_shl48, own_ush4, own_ush16, own_ush28, own_ush40, own_ush52, own_V0, own_V1, own_V2, own_V3, own_V4, own_V5, own_V6, own_V7, own_V8, own_V9, own_V10, own_V11, own_V12, own_V13, own_V14, own_V15, own_V16, own_V17, own_V18, own_V19, own_V20, own_V21, own_V22, own_V23, own_V24, own_V25, own_V26, own_V27, own_V28, own_V29, own_V30, own_V31, Sh.bt_big, Nat.reduceLT, Nat.reduceAdd, Nat.reduceSub, Nat.reduceLeDiff, decide_true, decide_false, Bool.and_true, Bool.true_and, Bool.and_false, Bool.false_and, Bool.or_false, Bool.false_or, Bool.not_true, Bool.not_false, Nat.zero_add, Nat.sub_zero, Nat.lt_irrefl, Nat.not_lt_zero]
  | 21, _ => simp only [Sh.bt_or, Sh.bt_zero, own_mask, own_shl0, own_shl4, own_shl8, own_shl12, own_shl16, own_shl20, own_shl24, own_shl28, own_shl32, own_shl36, own_shl40, own_shl44, own_shl48, own_ush4, own_ush16, own_ush28, own_ush40, own_ush52, own_V0, own_V1, own_V2, own_V3, own_V4, own_V5, own_V6, own_V7, own_V8, own_V9, own_V10, own_V11, own_V12, own_V13, own_V14, own_V15, own_V16, own_V17, own_V18, own_V19, own_V20, own_V21, own_V22, own_V23, own_V24, own_V25, own_V26, own_V27, own_V28, own_V29, own_V30, own_V31, Sh.bt_big, Nat.reduceLT, Nat.reduceAdd, Nat.reduceSub, Nat.reduceLeDiff, decide_true, decide_false, Bool.and_true, Bool.true_and, Bool.and_false, Bool.false_and, Bool.or_false, Bool.false_or, Bool.not_true, Bool.not_false, Nat.zero_add, Nat.sub_zero, Nat.lt_irrefl, Nat.not_lt_zero]
  | 22, _ => simp only [Sh.bt_or, Sh.bt_zero, own_mask, own_shl0, own_shl4, own_shl8, own_shl12, own_shl16, own_shl20, own_shl24, own_shl28, own_shl32, own_shl36, own_shl40, own_shl44, own_shl48, own_ush4, own_ush16, own_ush28, own_ush40, own_ush52, own_V0, own_V1, own_V2, own_V3, own_V4, own_V5, own_V6, own_V7, own_V8, own_V9, own_V10, own_V11, own_V12, own_V13, own_V14, own_V15, own_V16, own_V17, own_V18, own_V19, own_V20, own_V21, own_V22, own_V23, own_V24, own_V25, own_V26, own_V27, own_V28, own_V29, own_V30, own_V31, Sh.bt_big, Nat.reduceLT, Nat.reduceAdd, Nat.reduceSub, Nat.reduceLeDiff, decide_true, decide_false, Bool.and_true, Bool.true_and, Bool.and_false, Bool.false_and, Bool.or_false, Bool.false_or, Bool.not_true, Bool.not_false, Nat.zero_add, Nat.sub_zero, Nat.lt_irrefl, Nat.not_lt_zero]
  | 23, _ => simp only [Sh.bt_or, Sh.bt_zero, own_mask, own_shl0, own_shl4, own_shl8, own_shl12, own_shl16, own_shl20, own_shl24, own_shl28, own_shl32, own_shl36, own_shl40, own_shl44, own_shl48, own_ush4, own_ush16, own_ush28, own_ush40, own_ush52, own_V0, own_V1, own_V2, own_V3, own_V4, own_V5, own_V6, own_V7, own_V8, own_V9, own_V10, own_V11, own_V12, own_V13, own_V14, own_V15, own_V16, own_V17, own_V18, own_V19, own_V20, own_V21, own_V22, own_V23, own_V24, own_V25, own_V26, own_V27, own_V28, own_V29, own_V30, own_V31, Sh.bt_big, Nat.reduceLT, Nat.reduceAdd, Nat.reduceSub, Nat.reduceLeDiff, decide_true, decide_false, Bool.and_true, Bool.true_and, Bool.and_false, Bool.false_and, Bool.or_false, Bool.false_or, Bool.not_true, Bool.not_false, Nat.zero_add, Nat.sub_zero, Nat.lt_irrefl, Nat.not_lt_zero]
  | 24, _ => simp only [Sh.bt_or, Sh.bt_zero, own_mask, own_shl0, own_shl4, own_shl8, own_shl12, own_shl16, own_shl20, own_shl24, own_shl28, own_shl32, own_shl36, own_shl40, own_shl44, own_shl48, own_ush4, own_ush16, own_ush28, own_ush40, own_ush52, own_V0, own_V1, own_V2, own_V3, own_V4, own_V5, own_V6, own_V7, own_V8, own_V9, own_V10, own_V11, own_V12, own_V13, own_V14, own_V15, own_V16, own_V17, own_V18, own_V19, own_V20, own_V21, own_V22, own_V23, own_V24, own_V25, own_V26, own_V27, own_V28, own_V29, own_V30, own_V31, Sh.bt_big, Nat.reduceLT, Nat.reduceAdd, Nat.reduceSub, Nat.reduceLeDiff, decide_true, decide_false, Bool.and_true, Bool.true_and, Bool.and_false, Bool.false_and, Bool.or_false, Bool.false_or, Bool.not_true, Bool.not_false, Nat.zero_add, Nat.sub_zero, Nat.lt_irrefl, Nat.not_lt_zero]
  | 25, _ => simp only [Sh.bt_or, Sh.bt_zero, own_mask, own_shl0, own_shl4, own_shl8, own_shl12, own_shl16, own_shl20, own_shl24, own_shl28, own_shl32, own_shl36, own_shl40, own_shl44, own_shl48, own_ush4, own_ush16, own_ush28, own_ush40, own_ush52, own_V0, own_V1, own_V2, own_V3, own_V4, own_V5, own_V6, own_V7, own_V8, own_V9, own_V10, own_V11, own_V12, own_V13, own_V14, own_V15, own_V16, own_V17, own_V18, own_V19, own_V20, own_V21, own_V22, own_V23, own_V24, own_V25, own_V26, own_V27, own_V28, own_V29, own_V30, own_V31, Sh.bt_big, Nat.reduceLT, Nat.reduceAdd, Nat.reduceSub, Nat.reduceLeDiff, decide_true, decide_false, Bool.and_true, Bool.true_and, Bool.and_false, Bool.false_and, Bool.or_false, Bool.false_or, Bool.not_true, Bool.not_false, Nat.zero_add, Nat.sub_zero, Nat.lt_irrefl, Nat.not_lt_zero]
  | 26, _ => simp only [Sh.bt_or, Sh.bt_zero, own_mask, own_shl0, own_shl4, own_shl8, own_shl12, own_shl16, own_shl20, own_shl24, own_shl28, own_shl32, own_shl36, own_shl40, own_shl44, own_shl48, own_ush4, own_ush16, own_ush28, own_ush40, own_ush52, own_V0, own_V1, own_V2, own_V3, own_V4, own_V5, own_V6, own_V7, own_V8, own_V9, own_V10, own_V11, own_V12, own_V13, own_V14, own_V15, own_V16, own_V17, own_V18, own_V19, own_V20, own_V21, own_V22, own_V23, own_V24, own_V25, own_V26, own_V27, own_V28, own_V29, own_V30, own_V31, Sh.bt_big, Nat.reduceLT, Nat.reduceAdd, Nat.reduceSub, Nat.reduceLeDiff, decide_true, decide_false, Bool.and_true, Bool.true_and, Bool.and_false, Bool.false_and, Bool.or_false, Bool.false_or, Bool.not_true, Bool.not_false, Nat.zero_add, Nat.sub_zero, Nat.lt_irrefl, Nat.not_lt_zero]
  | 27, _ => simp only [Sh.bt_or, Sh.bt_zero, own_mask, own_shl0, own_shl4, own_shl8, own_shl12, own_shl16, own_shl20, own_shl24, own_shl28, own_shl32, own_shl36, own_shl40, own_shl44, own_shl48, own_ush4, own_ush16, own_ush28, own_ush40, own_ush52, own_V0, own_V1, own_V2, own_V3, own_V4, own_V5, own_V6, own_V7, own_V8, own_V9, own_V10, own_V11, own_V12, own_V13, own_V14, own_V15, own_V16, own_V17, own_V18, own_V19, own_V20, own_V21, own_V22, own_V23, own_V24, own_V25, own_V26, own_V27, own_V28, own_V29, own_V30, own_V31, Sh.bt_big, Nat.reduceLT, Nat.reduceAdd, Nat.reduceSub, Nat.reduceLeDiff, decide_true, decide_false, Bool.and_true, Bool.true_and, Bool.and_false, Bool.false_and, Bool.or_false, Bool.false_or, Bool.not_true, Bool.not_false, Nat.zero_add, Nat.sub_zero, Nat.lt_irrefl, Nat.not_lt_zero]
  | 28, _ => simp only [Sh.bt_or, Sh.bt_zero, own_mask, own_shl0, own_shl4, own_shl8, own_shl12, own_shl16, own_shl20, own_shl24, own_shl28, own_shl32, own_shl36, own_shl40, own_shl44, own_shl48, own_ush4, own_ush16, own_ush28, own_ush40, own_ush52, own_V0, own_V1, own_V2, own_V3, own_V4, own_V5, own_V6, own_V7, own_V8, own_V9, own_V10, own_V11, own_V12, own_V13, own_V14, own_V15, own_V16, own_V17, own_V18, own_V19, own_V20, own_V21, own_V22, own_V23, own_V24, own_V25, own_V26, own_V27, own_V28, own_V29, own_V30, own_V31, Sh.bt_big, Nat.reduceLT, Nat.reduceAdd, Nat.reduceSub, Nat.reduceLeDiff, decide_true, decide_false, Bool.and_true, Bool.true_and, Bool.and_false, Bool.false_and, Bool.or_false, Bool.false_or, Bool.not_true, Bool.not_false, Nat.zero_add, Nat.sub_zero, Nat.lt_irrefl, Nat.not_lt_zero]
  | 29, _ => simp only [Sh.bt_or, Sh.bt_zero, own_mask, own_shl0, own_shl4, own_shl8, own_shl12, own_shl16, own_shl20, own_shl24, own_shl28, own_shl32, own_shl36, own_shl40, own_shl44, own_shl48, own_ush4, own_ush16, own_ush28, own_ush40, own_ush52, own_V0, own_V1, own_V2, own_V3, own_V4, own_V5, own_V6, own_V7, own_V8, own_V9, own_V10, own_V11, own_V12, own_V13, own_V14, own_V15, own_V16, own_V17, own_V18, own_V19, own_V20, own_V21, own_V22, own_V23, own_V24, own_V25, own_V26, own_V27, own_V28, own_V29, own_V30, own_V31, Sh.bt_big, Nat.reduceLT, Nat.reduceAdd, Nat.reduceSub, Nat.reduceLeDiff, decide_true, decide_false, Bool.and_true, Bool.true_and, Bool.and_false, Bool.false_and, Bool.or_false, Bool.false_or, Bool.not_true, Bool.not_false, Nat.zero_add, Nat.sub_zero, Nat.lt_irrefl, Nat.not_lt_zero]
  | 30, _ => simp only [Sh.bt_or, Sh.bt_zero, own_mask, own_shl0, own_shl4, own_shl8, own_shl12, own_shl16, own_shl20, own_shl24, own_shl28, own_shl32, own_shl36, own_shl40, own_shl44, own_shl48, own_ush4, own_ush16, own_ush28, own_ush40, own_ush52, own_V0, own_V1, own_V2, own_V3, own_V4, own_V5, own_V6, own_V7, own_V8, own_V9, own_V10, own_V11, own_V12, own_V13, own_V14, own_V15, own_V16, own_V17, own_V18, own_V19, own_V20, own_V21, own_V22, own_V23, own_V24, own_V25, own_V26, own_V27, own_V28, own_V29, own_V30, own_V31, Sh.bt_big, Nat.reduceLT, Nat.reduceAdd, Nat.reduceSub, Nat.reduceLeDiff, decide_true, decide_false, Bool.and_true, Bool.true_and, Bool.and_false, Bool.false_and, Bool.or_false, Bool.false_or, Bool.not_true, Bool.not_false, Nat.zero_add, Nat.sub_zero, Nat.lt_irrefl, Nat.not_lt_zero]
  | 31, _ => simp only [Sh.bt_or, Sh.bt_zero, own_mask, own_shl0, own_shl4, own_shl8, own_shl12, own_shl16, own_shl20, own_shl24, own_shl28, own_shl32, own_shl36, own_shl40, own_shl44, own_shl48, own_ush4, own_ush16, own_ush28, own_ush40, own_ush52, own_V0, own_V1, own_V2, own_V3, own_V4, own_V5, own_V6, own_V7, own_V8, own_V9, own_V10, own_V11, own_V12, own_V13, own_V14, own_V15, own_V16, own_V17, own_V18, own_V19, own_V20, own_V21, own_V22, own_V23, own_V24, own_V25, own_V26, own_V27, own_V28, own_V29, own_V30, own_V31, Sh.bt_big, Nat.reduceLT, Nat.reduceAdd, Nat.reduceSub, Nat.reduceLeDiff, decide_true, decide_false, Bool.and_true, Bool.true_and, Bool.and_false, Bool.false_and, Bool.or_false, Bool.false_or, Bool.not_true, Bool.not_false, Nat.zero_add, Nat.sub_zero, Nat.lt_irrefl, Nat.not_lt_zero]
  | 32, _ => simp only [Sh.bt_or, Sh.bt_zero, own_mask, own_shl0, own_shl4, own_shl8, own_shl12, own_shl16, own_shl20, own_shl24, own_shl28, own_shl32, own_shl36, own_shl40, own_shl44, own_shl48, own_ush4, own_ush16, own_ush28, own_ush40, own_ush52, own_V0, own_V1, own_V2, own_V3, own_V4, own_V5, own_V6, own_V7, own_V8, own_V9, own_V10, own_V11, own_V12, own_V13, own_V14, own_V15, own_V16, own_V17, own_V18, own_V19, own_V20, own_V21, own_V22, own_V23, own_V24, own_V25, own_V26, own_V27, own_V28, own_V29, own_V30, own_V31, Sh.bt_big, Nat.reduceLT, Nat.reduceAdd, Nat.reduceSub, Nat.reduceLeDiff, decide_true, decide_false, Bool.and_true, Bool.true_and, Bool.and_false, Bool.false_and, Bool.or_false, Bool.false_or, Bool.not_true, Bool.not_false, Nat.zero_add, Nat.sub_zero, Nat.lt_irrefl, Nat.not_lt_zero]
  | 33, _ => simp only [Sh.bt_or, Sh.bt_zero, own_mask, own_shl0, own_shl4, own_shl8, own_shl12, own_shl16, own_shl20, own_shl24, own_shl28, own_shl32, own_shl36, own_shl40, own_shl44, own_shl48, own_ush4, own_ush16, own_ush28, own_ush40, own_ush52, own_V0, own_V1, own_V2, own_V3, own_V4, own_V5, own_V6, own_V7, own_V8, own_V9, own_V10, own_V11, own_V12, own_V13, own_V14, own_V15, own_V16, own_V17, own_V18, own_V19, own_V20, own_V21, own_V22, own_V23, own_V24, own_V25, own_V26, own_V27, own_V28, own_V29, own_V30, own_V31, Sh.bt_big, Nat.reduceLT, Nat.reduceAdd, Nat.reduceSub, Nat.reduceLeDiff, decide_true, decide_false, Bool.and_true, Bool.true_and, Bool.and_false, Bool.false_and, Bool.or_false, Bool.false_or, Bool.not_true, Bool.not_false, Nat.zero_add, Nat.sub_zero, Nat.lt_irrefl, Nat.not_lt_zero]
  | 34, _ => simp only [Sh.bt_or, Sh.bt_zero, own_mask, own_shl0, own_shl4, own_shl8, own_shl12, own_shl16, own_shl20, own_shl24, own_shl28, own_shl32, own_shl36, own_shl40, own_shl44, own_shl48, own_ush4, own_ush16, own_ush28, own_ush40, own_ush52, own_V0, own_V1, own_V2, own_V3, own_V4, own_V5, own_V6, own_V7, own_V8, own_V9, own_V10, own_V11, own_V12, own_V13, own_V14, own_V15, own_V16, own_V17, own_V18, own_V19, own_V20, own_V21, own_V22, own_V23, own_V24, own_V25, own_V26, own_V27, own_V28, own_V29, own_V30, own_V31, Sh.bt_big, Nat.reduceLT, Nat.reduceAdd, Nat.reduceSub, Nat.reduceLeDiff, decide_true, decide_false, Bool.and_true, Bool.true_and, Bool.and_false, Bool.false_and, Bool.or_false, Bool.false_or, Bool.not_true, Bool.not_false, Nat.zero_add, Nat.sub_zero, Nat.lt_irrefl, Nat.not_lt_zero]
  | 35, _ => simp only [Sh.bt_or, Sh.bt_zero, own_mask, own_shl0, own_shl4, own_shl8, own_shl12, own_shl16, own_shl20, own_shl24, own_shl28, own_shl32, own_shl36, own_shl40, own_shl44, own_shl48, own_ush4, own_ush16, own_ush28, own_ush40, own_ush52, own_V0, own_V1, own_V2, own_V3, own_V4, own_V5, own_V6, own_V7, own_V8, own_V9, own_V10, own_V11, own_V12, own_V13, own_V14, own_V15, own_V16, own_V17, own_V18, own_V19, own_V20, own_V21, own_V22, own_V23, own_V24, own_V25, own_V26, own_V27, own_V28, own_V29, own_V30, own_V31, Sh.bt_big, Nat.reduceLT, Nat.reduceAdd, Nat.reduceSub, Nat.reduceLeDiff, decide_true, decide_false, Bool.and_true, Bool.true_and, Bool.and_false, Bool.false_and, Bool.or_false, Bool.false_or, Bool.not_true, Bool.not_false, Nat.zero_add, Nat.sub_zero, Nat.lt_irrefl, Nat.not_lt_zero]
  | 36, _ => simp only [Sh.bt_or, Sh.bt_zero, own_mask, own_shl0, own_shl4, own_shl8, own_shl12, own_shl16, own_shl20, own_shl24, own_shl28, own_shl32, own_shl36, own_shl40, own_shl44, own_shl48, own_ush4, own_ush16, own_ush28, own_ush40, own_ush52, own_V0, own_V1, own_V2, own_V3, own_V4, own_V5, own_V6, own_V7, own_V8, own_V9, own_V10, own_V11, own_V12, own_V13, own_V14, own_V15, own_V16, own_V17, own_V18, own_V19, own_V20, own_V21, own_V22, own_V23, own_V24, own_V25, own_V26, own_V27, own_V28, own_V29, own_V30, own_V31, Sh.bt_big, Nat.reduceLT, Nat.reduceAdd, Nat.reduceSub, Nat.reduceLeDiff, decide_true, decide_false, Bool.and_true, Bool.true_and, Bool.and_false, Bool.false_and, Bool.or_false, Bool.false_or, Bool.not_true, Bool.not_false, Nat.zero_add, Nat.sub_zero, Nat.lt_irrefl, Nat.not_lt_zero]
  | 37, _ => simp only [Sh.bt_or, Sh.bt_zero, own_mask, own_shl0, own_shl4, own_shl8, own_shl12, own_shl16, own_shl20, own_shl24, own_shl28, own_shl32, own_shl36, own_shl40, own_shl44, own_shl48, own_ush4, own_ush16, own_ush28, own_ush40, own_ush52, own_V0, own_V1, own_V2, own_V3, own_V4, own_V5, own_V6, own_V7, own_V8, own_V9, own_V10, own_V11, own_V12, own_V13, own_V14, own_V15, own_V16, own_V17, own_V18, own_V19, own_V20, own_V21, own_V22, own_V23, own_V24, own_V25, own_V26, own_V27, own_V28, own_V29, own_V30, own_V31, Sh.bt_big, Nat.reduceLT, Nat.reduceAdd, Nat.reduceSub, Nat.reduceLeDiff, decide_true, decide_false, Bool.and_true, Bool.true_and, Bool.and_false, Bool.false_and, Bool.or_false, Bool.false_or, Bool.not_true, Bool.not_false, Nat.zero_add, Nat.sub_zero, Nat.lt_irrefl, Nat.not_lt_zero]
  | 38, _ => simp only [Sh.bt_or, Sh.bt_zero, own_mask, own_shl0, own_shl4, own_shl8, own_shl12, own_shl16, own_shl20, own_shl24, own_shl28, own_shl32, own_shl36, own_shl40, own_shl44, own_shl48, own_ush4, own_ush16, own_ush28, own_ush40, own_ush52, own_V0, own_V1, own_V2, own_V3, own_V4, own_V5, own_V6, own_V7, own_V8, own_V9, own_V10, own_V11, own_V12, own_V13, own_V14, own_V15, own_V16, own_V17, own_V18, own_V19, own_V20, own_V21, own_V22, own_V23, own_V24, own_V25, own_V26, own_V27, own_V28, own_V29, own_V30, own_V31, Sh.bt_big, Nat.reduceLT, Nat.reduceAdd, Nat.reduceSub, Nat.reduceLeDiff, decide_true, decide_false, Bool.and_true, Bool.true_and, Bool.and_false, Bool.false_and, Bool.or_false, Bool.false_or, Bool.not_true, Bool.not_false, Nat.zero_add, Nat.sub_zero, Nat.lt_irrefl, Nat.not_lt_zero]
  | 39, _ => simp only [Sh.bt_or, Sh.bt_zero, own_mask, own_shl0, own_shl4, own_shl8, own_shl12, own_shl16, own_shl20, own_shl24, own_shl28, own_shl32, own_shl36, own_shl40, own_shl44, own_shl48, own_ush4, own_ush16, own_ush28, own_ush40, own_ush52, own_V0, own_V1, own_V2, own_V3, own_V4, own_V5, own_V6, own_V7, own_V8, own_V9, own_V10, own_V11, own_V12, own_V13, own_V14, own_V15, own_V16, own_V17, own_V18, own_V19, own_V20, own_V21, own_V22, own_V23, own_V24, own_V25, own_V26, own_V27, own_V28, own_V29, own_V30, own_V31, Sh.bt_big, Nat.reduceLT, Nat.reduceAdd, Nat.reduceSub, Nat.reduceLeDiff, decide_true, decide_false, Bool.and_true, Bool.true_and, Bool.and_false, Bool.false_and, Bool.or_false, Bool.false_or, Bool.not_true, Bool.not_false, Nat.zero_add, Nat.sub_zero, Nat.lt_irrefl, Nat.not_lt_zero]
  | 40, _ => simp only [Sh.bt_or, Sh.bt_zero, own_mask, own_shl0, own_shl4, own_shl8, own_shl12, own_shl16, own_shl20, own_shl24, own_shl28, own_shl32, own_shl36, own_shl40, own_shl44, own_shl48, own_ush4, own_ush16, own_ush28, own_ush40, own_ush52, own_V0, own_V1, own_V2, own_V3, own_V4, own_V5, own_V6, own_V7, own_V8, own_V9, own_V10, own_V11, own_V12, own_V13, own_V14, own_V15, own_V16, own_V17, own_V18, own_V19, own_V20, own_V21, own_V22, own_V23, own_V24, own_V25, own_V26, own_V27, own_V28, own_V29, own_V30, own_V31, Sh.bt_big, Nat.reduceLT, Nat.reduceAdd, Nat.reduceSub, Nat.reduceLeDiff, decide_true, decide_false, Bool.and_true, Bool.true_and, Bool.and_false, Bool.false_and, Bool.or_false, Bool.false_or, Bool.not_true, Bool.not_false, Nat.zero_add, Nat.sub_zero, Nat.lt_irrefl, Nat.not_lt_zero]
  | 41, _ => simp only [Sh.bt_or, Sh.bt_zero, own_mask, own_shl0, own_shl4, own_shl8, own_shl12, own_shl16, own_shl20, own_shl24, own_shl28, own_shl32, own_shl36, own_shl40, own_shl44, own_shl48, own_ush4, own_ush16, own_ush28, own_ush40, own_ush52, own_V0, own_V1, own_V2, own_V3, own_V4, own_V5, own_V6, own_V7, own_V8, own_V9, own_V10, own_V11, own_V12, own_V13, own_V14, own_V15, own_V16, own_V17, own_V18, own_V19, own_V20, own_V21, own_V22, own_V23, own_V24, own_V25, own_V26, own_V27, own_V28, own_V29, own_V30, own_V31, Sh.bt_big, Nat.reduceLT, Nat.reduceAdd, Nat.reduceSub, Nat.reduceLeDiff, decide_true, decide_false, Bool.and_true, Bool.true_and, Bool.and_false, Bool.false_and, Bool.or_false, Bool.false_or, Bool.not_true, Bool.not_false, Nat.zero_add, Nat.sub_zero, Nat.lt_irrefl, Nat.not_lt_zero]
  | 42, _ => simp only [Sh.bt_or, Sh.bt_zero, own_mask, own_shl0, own_shl4, own_shl8, own_shl12, own_shl16, own_shl20, own_shl24, own_shl28, own_shl32, own_shl36, own_shl40, own_shl44, own_shl48, own_ush4, own_ush16, own_ush28, own_ush40, own_ush52, own_V0, own_V1, own_V2, own_V3, own_V4, own_V5, own_V6, own_V7, own_V8, own_V9, own_V10, own_V11, own_V12, own_V13, own_V14, own_V15, own_V16, own_V17, own_V18, own_V19, own_V20, own_V21, own_V22, own_V23, own_V24, own_V25, own_V26, own_V27, own_V28, own_V29, own_V30, own_V31, Sh.bt_big, Nat.reduceLT, Nat.reduceAdd, Nat.reduceSub, Nat.reduceLeDiff, decide_true, decide_false, Bool.and_true, Bool.true_and, Bool.and_false, Bool.false_and, Bool.or_false, Bool.false_or, Bool.not_true, Bool.not_false, Nat.zero_add, Nat.sub_zero, Nat.lt_irrefl, Nat.not_lt_zero]
  | 43, _ => simp only [Sh.bt_or, Sh.bt_zero, own_mask, own_shl0, own_shl4, own_shl8, own_shl12, own_shl16, own_shl20, own_shl24, own_shl28, own_shl32, own_shl36, own_shl40, own_shl44, own_shl48, own_ush4, own_ush16, own_ush28, own_ush40, own_ush52, own_V0, own_V1, own_V2, own_V3, own_V4, own_V5, own_V6, own_V7, own_V8, own_V9, own_V10, own_V11, own_V12, own_V13, own_V14, own_V15, own_V16, own_V17, own_V18, own_V19, own_V20, own_V21, own_V22, own_V23, own_V24, own_V25, own_V26, own_V27, own_V28, own_V29, own_V30, own_V31, Sh.bt_big, Nat.reduceLT, Nat.reduceAdd, Nat.reduceSub, Nat.reduceLeDiff, decide_true, decide_false, Bool.and_true, Bool.true_and, Bool.and_false, Bool.false_and, Bool.or_false, Bool.false_or, Bool.not_true, Bool.not_false, Nat.zero_add, Nat.sub_zero, Nat.lt_irrefl, Nat.not_lt_zero]
  | 44, _ => simp only [Sh.bt_or, Sh.bt_zero, own_mask, own_shl0, own_shl4, own_shl8, own_shl12, own_shl16, own_shl20, own_shl24, own_shl28, own_shl32, own_shl36, own_shl40, own_shl44, own_shl48, own_ush4, own_ush16, own_ush28, own_ush40, own_ush52, own_V0, own_V1, own_V2, own_V3, own_V4, own_V5, own_V6, own_V7, own_V8, own_V9, own_V10, own_V11, own_V12, own_V13, own_V14, own_V15, own_V16, own_V17, own_V18, own_V19, own_V20, own_V21, own_V22, own_V23, own_V24, own_V25, own_V26, own_V27, own_V28, own_V29, own_V30, own_V31, Sh.bt_big, Nat.reduceLT, Nat.reduceAdd, Nat.reduceSub, Nat.reduceLeDiff, decide_true, decide_false, Bool.and_true, Bool.true_and, Bool.and_false, Bool.false_and, Bool.or_false, Bool.false_or, Bool.not_true, Bool.not_false, Nat.zero_add, Nat.sub_zero, Nat.lt_irrefl, Nat.not_lt_zero]
  | 45, _ => simp only [Sh.bt_or, Sh.bt_zero, own_mask, own_shl0, own_shl4, own_shl8, own_shl12, own_shl16, own_shl20, own_shl24, own_shl28, own_shl32, own_shl36, own_shl40, own_shl44, own_shl48, own_ush4, own_ush16, own_ush28, own_ush40, own_ush52, own_V0, own_V1, own_V2, own_V3, own_V4, own_V5, own_V6, own_V7, own_V8, own_V9, own_V10, own_V11, own_V12, own_V13, own_V14, own_V15, own_V16, own_V17, own_V18, own_V19, own_V20, own_V21, own_V22, own_V23, own_V24, own_V25, own_V26, own_V27, own_V28, own_V29, own_V30, own_V31, Sh.bt_big, Nat.reduceLT, Nat.reduceAdd, Nat.reduceSub, Nat.reduceLeDiff, decide_true, decide_false, Bool.and_true, Bool.true_and, Bool.and_false, Bool.false_and, Bool.or_false, Bool.false_or, Bool.not_true, Bool.not_false, Nat.zero_add, Nat.sub_zero, Nat.lt_irrefl, Nat.not_lt_zero]
  | 46, _ => simp only [Sh.bt_or, Sh.bt_zero, own_mask, own_shl0, own_shl4, own_shl8, own_shl12, own_shl16, own_shl20, own_shl24, own_shl28, own_shl32, own_shl36, own_shl40, own_shl44, own_shl48, own_ush4, own_ush16, own_ush28, own_ush40, own_ush52, own_V0, own_V1, own_V2, own_V3, own_V4, own_V5, own_V6, own_V7, own_V8, own_V9, own_V10, own_V11, own_V12, own_V13, own_V14, own_V15, own_V16, own_V17, own_V18, own_V19, own_V20, own_V21, own_V22, own_V23, own_V24, own_V25, own_V26, own_V27, own_V28, own_V29, own_V30, own_V31, Sh.bt_big, Nat.reduceLT, Nat.reduceAdd, Nat.reduceSub, Nat.reduceLeDiff, decide_true, decide_false, Bool.and_true, Bool.true_and, Bool.and_false, Bool.false_and, Bool.or_false, Bool.false_or, Bool.not_true, Bool.not_false, Nat.zero_add, Nat.sub_zero, Nat.lt_irrefl, Nat.not_lt_zero]
  | 47, _ => simp only [Sh.bt_or, Sh.bt_zero, own_mask, own_shl0, own_shl4, own_shl8, own_shl12, own_shl16, own_shl20, own_shl24, own_shl28, own_shl32, own_shl36, own_shl40, own_shl44, own_shl48, own_ush4, own_ush16, own_ush28, own_ush40, own_ush52, own_V0, own_V1, own_V2, own_V3, own_V4, own_V5, own_V6, own_V7, own_V8, own_V9, own_V10, own_V11, own_V12, own_V13, own_V14, own_V15, own_V16, own_V17, own_V18, own_V19, own_V20, own_V21, own_V22, own_V23, own_V24, own_V25, own_V26, own_V27, own_V28, own_V29, own_V30, own_V31, Sh.bt_big, Nat.reduceLT, Nat.reduceAdd, Nat.reduceSub, Nat.reduceLeDiff, decide_true, decide_false, Bool.and_true, Bool.true_and, Bool.and_false, Bool.false_and, Bool.or_false, Bool.false_or, Bool.not_true, Bool.not_false, Nat.zero_add, Nat.sub_zero, Nat.lt_irrefl, Nat.not_lt_zero]
  | 48, _ => simp only [Sh.bt_or, Sh.bt_zero, own_mask, own_shl0, own_shl4, own_shl8, own_shl12, own_shl16, own_shl20, own_shl24, own_shl28, own_shl32, own_shl36, own_shl40, own_shl44, own_shl48, own_ush4, own_ush16, own_ush28, own_ush40, own_ush52, own_V0, own_V1, own_V2, own_V3, own_V4, own_V5, own_V6, own_V7, own_V8, own_V9, own_V10, own_V11, own_V12, own_V13, own_V14, own_V15, own_V16, own_V17, own_V18, own_V19, own_V20, own_V21, own_V22, own_V23, own_V24, own_V25, own_V26, own_V27, own_V28, own_V29, own_V30, own_V31, Sh.bt_big, Nat.reduceLT, Nat.reduceAdd, Nat.reduceSub, Nat.reduceLeDiff, decide_true, decide_false, Bool.and_true, Bool.true_and, Bool.and_false, Bool.false_and, Bool.or_false, Bool.false_or, Bool.not_true, Bool.not_false, Nat.zero_add, Nat.sub_zero, Nat.lt_irrefl, Nat.not_lt_zero]
  | 49, _ => simp only [Sh.bt_or, Sh.bt_zero, own_mask, own_shl0, own_shl4, own_shl8, own_shl12, own_shl16, own_shl20, own_shl24, own_shl28, own_shl32, own_shl36, own_shl40, own_shl44, own_shl48, own_ush4, own_ush16, own_ush28, own_ush40, own_ush52, own_V0, own_V1, own_V2, own_V3, own_V4, own_V5, own_V6, own_V7, own_V8, own_V9, own_V10, own_V11, own_V12, own_V13, own_V14, own_V15, own_V16, own_V17, own_V18, own_V19, own_V20, own_V21, own_V22, own_V23, own_V24, own_V25, own_V26, own_V27, own_V28, own_V29, own_V30, own_V31, Sh.bt_big, Nat.reduceLT, Nat.reduceAdd, Nat.reduceSub, Nat.reduceLeDiff, decide_true, decide_false, Bool.and_true, Bool.true_and, Bool.and_false, Bool.false_and, Bool.or_false, Bool.false_or, Bool.not_true, Bool.not_false, Nat.zero_add, Nat.sub_zero, Nat.lt_irrefl, Nat.not_lt_zero]
  | 50, _ => simp only [Sh.bt_or, Sh.bt_zero, own_mask, own_shl0, own_shl4, own_shl8, own_shl12, own_shl16, own_shl20, own_shl24, own_shl28, own_shl32, own_shl36, own_shl40, own_shl44, own_shl48, own_ush4, own_ush16, own_ush28, own_ush40, own_ush52, own_V0, own_V1, own_V2, own_V3, own_V4, own_V5, own_V6, own_V7, own_V8, own_V9, own_V10, own_V11, own_V12, own_V13, own_V14, own_V15, own_V16, own_V17, own_V18, own_V19, own_V20, own_V21, own_V22, own_V23, own_V24, own_V25, own_V26, own_V27, own_V28, own_V29, own_V30, own_V31, Sh.bt_big, Nat.reduceLT, Nat.reduceAdd, Nat.reduceSub, Nat.reduceLeDiff, decide_true, decide_false, Bool.and_true, Bool.true_and, Bool.and_false, Bool.false_and, Bool.or_false, Bool.false_or, Bool.not_true, Bool.not_false, Nat.zero_add, Nat.sub_zero, Nat.lt_irrefl, Nat.not_lt_zero]
  | 51, _ => simp only [Sh.bt_or, Sh.bt_zero, own_mask, own_shl0, own_shl4, own_shl8, own_shl12, own_shl16, own_shl20, own_shl24, own_shl28, own_shl32, own_shl36, own_shl40, own_shl44, own_shl48, own_ush4, own_ush16, own_ush28, own_ush40, own_ush52, own_V0, own_V1, own_V2, own_V3, own_V4, own_V5, own_V6, own_V7, own_V8, own_V9, own_V10, own_V11, own_V12, own_V13, own_V14, own_V15, own_V16, own_V17, own_V18, own_V19, own_V20, own_V21, own_V22, own_V23, own_V24, own_V25, own_V26, own_V27, own_V28, own_V29, own_V30, own_V31, Sh.bt_big, Nat.reduceLT, Nat.reduceAdd, Nat.reduceSub, Nat.reduceLeDiff, decide_true, decide_false, Bool.and_true, Bool.true_and, Bool.and_false, Bool.false_and, Bool.or_false, Bool.false_or, Bool.not_true, Bool.not_false, Nat.zero_add, Nat.sub_zero, Nat.lt_irrefl, Nat.not_lt_zero]
  | 52, _ => simp only [Sh.bt_or, Sh.bt_zero, own_mask, own_shl0, own_shl4, own_shl8, own_shl12, own_shl16, own_shl20, own_shl24, own_shl28, own_shl32, own_shl36, own_shl40, own_shl44, own_shl48, own_ush4, own_ush16, own_ush28, own_ush40, own_ush52, own_V0, own_V1, own_V2, own_V3, own_V4, own_V5, own_V6, own_V7, own_V8, own_V9, own_V10, own_V11, own_V12, own_V13, own_V14, own_V15, own_V16, own_V17, own_V18, own_V19, own_V20, own_V21, own_V22, own_V23, own_V24, own_V25, own_V26, own_V27, own_V28, own_V29, own_V30, own_V31, Sh.bt_big, Nat.reduceLT, Nat.reduceAdd, Nat.reduceSub, Nat.reduceLeDiff, decide_true, decide_false, Bool.and_true, Bool.true_and, Bool.and_false, Bool.false_and, Bool.or_false, Bool.false_or, Bool.not_true, Bool.not_false, Nat.zero_add, Nat.sub_zero, Nat.lt_irrefl, Nat.not_lt_zero]
  | 53, _ => simp only [Sh.bt_or, Sh.bt_zero, own_mask, own_shl0, own_shl4, own_shl8, own_shl12, own_shl16, own_shl20, own_shl24, own_shl28, own_shl32, own_shl36, own_shl40, own_shl44, own_shl48, own_ush4, own_ush16, own_ush28, own_ush40, own_ush52, own_V0, own_V1, own_V2, own_V3, own_V4, own_V5, own_V6, own_V7, own_V8, own_V9, own_V10, own_V11, own_V12, own_V13, own_V14, own_V15, own_V16, own_V17, own_V18, own_V19, own_V20, own_V21, own_V22, own_V23, own_V24, own_V25, own_V26, own_V27, own_V28, own_V29, own_V30, own_V31, Sh.bt_big, Nat.reduceLT, Nat.reduceAdd, Nat.reduceSub, Nat.reduceLeDiff, decide_true, decide_false, Bool.and_true, Bool.true_and, Bool.and_false, Bool.false_and, Bool.or_false, Bool.false_or, Bool.not_true, Bool.not_false, Nat.zero_add, Nat.sub_zero, Nat.lt_irrefl, Nat.not_lt_zero]
  | 54, _ => simp only [Sh.bt_or, Sh.bt_zero, own_mask, own_shl0, own_shl4, own_shl8, own_shl12, own_shl16, own_shl20, own_shl24, own_shl28, own_shl32, own_shl36, own_shl40, own_shl44, own_shl48, own_ush4, own_ush16, own_ush28, own_ush40, own_ush52, own_V0, own_V1, own_V2, own_V3, own_V4, own_V5, own_V6, own_V7, own_V8, own_V9, own_V10, own_V11, own_V12, own_V13, own_V14, own_V15, own_V16, own_V17, own_V18, own_V19, own_V20, own_V21, own_V22, own_V23, own_V24, own_V25, own_V26, own_V27, own_V28, own_V29, own_V30, own_V31, Sh.bt_big, Nat.reduceLT, Nat.reduceAdd, Nat.reduceSub, Nat.reduceLeDiff, decide_true, decide_false, Bool.and_true, Bool.true_and, Bool.and_false, Bool.false_and, Bool.or_false, Bool.false_or, Bool.not_true, Bool.not_false, Nat.zero_add, Nat.sub_zero, Nat.lt_irrefl, Nat.not_lt_zero]
  | 55, _ => simp only [Sh.bt_or, Sh.bt_zero, own_mask, own_shl0, own_shl4, own_shl8, own_shl12, own_shl16, own_shl20, own_shl24, own_shl28, own_shl32, own_shl36, own_shl40, own_shl44, own_shl48, own_ush4, own_ush16, own_ush28, own_ush40, own_ush52, own_V0, own_V1, own_V2, own_V3, own_V4, own_V5, own_V6, own_V7, own_V8, own_V9, own_V10, own_V11, own_V12, own_V13, own_V14, own_V15, own_V16, own_V17, own_V18, own_V19, own_V20, own_V21, own_V22, own_V23, own_V24, own_V25, own_V26, own_V27, own_V28, own_V29, own_V30, own_V31, Sh.bt_big, Nat.reduceLT, Nat.reduceAdd, Nat.reduceSub, Nat.reduceLeDiff, decide_true, decide_false, Bool.and_true, Bool.true_and, Bool.and_false, Bool.false_and, Bool.or_false, Bool.false_or, Bool.not_true, Bool.not_false, Nat.zero_add, Nat.sub_zero, Nat.lt_irrefl, Nat.not_lt_zero]
  | 56, _ => simp only [Sh.bt_or, Sh.bt_zero, own_mask, own_shl0, own_shl4, own_shl8, own_shl12, own_shl16, own_shl20, own_shl24, own_shl28, own_shl32, own_shl36, own_shl40, own_shl44, own_shl48, own_ush4, own_ush16, own_ush28, own_ush40, own_ush52, own_V0, own_V1, own_V2, own_V3, own_V4, own_V5, own_V6, own_V7, own_V8, own_V9, own_V10, own_V11, own_V12, own_V13, own_V14, own_V15, own_V16, own_V17, own_V18, own_V19, own_V20, own_V21, own_V22, own_V23, own_V24, own_V25, own_V26, own_V27, own_V28, own_V29, own_V30, own_V31, Sh.bt_big, Nat.reduceLT, Nat.reduceAdd, Nat.reduceSub, Nat.reduceLeDiff, decide_true, decide_false, Bool.and_true, Bool.true_and, Bool.and_false, Bool.false_and, Bool.or_false, Bool.false_or, Bool.not_true, Bool.not_false, Nat.zero_add, Nat.sub_zero, Nat.lt_irrefl, Nat.not_lt_zero]
  | 57, _ => simp only [Sh.bt_or, Sh.bt_zero, own_mask, own_shl0, own_shl4, own_shl8, own_shl12, own_shl16, own_shl20, own_shl24, own_shl28, own_shl32, own_shl36, own_shl40, own_shl44, own_shl48, own_ush4, own_ush16, own_ush28, own_ush40, own_ush52, own_V0, own_V1, own_V2, own_V3, own_V4, own_V5, own_V6, own_V7, own_V8, own_V9, own_V10, own_V11, own_V12, own_V13, own_V14, own_V15, own_V16, own_V17, own_V18, own_V19, own_V20, own_V21, own_V22, own_V23, own_V24, own_V25, own_V26, own_V27, own_V28, own_V29, own_V30, own_V31, Sh.bt_big, Nat.reduceLT, Nat.reduceAdd, Nat.reduceSub, Nat.reduceLeDiff, decide_true, decide_false, Bool.and_true, Bool.true_and, Bool.and_false, Bool.false_and, Bool.or_false, Bool.false_or, Bool.not_true, Bool.not_false, Nat.zero_add, Nat.sub_zero, Nat.lt_irrefl, Nat.not_lt_zero]
  | 58, _ => simp only [Sh.bt_or, Sh.bt_zero, own_mask, own_shl0, own_shl4, own_shl8, own_shl12, own_shl16, own_shl20, own_shl24, own_shl28, own_shl32, own_shl36, own_shl40, own_shl44, own_shl48, own_ush4, own_ush16, own_ush28, own_ush40, own_ush52, own_V0, own_V1, own_V2, own_V3, own_V4, own_V5, own_V6, own_V7, own_V8, own_V9, own_V10, own_V11, own_V12, own_V13, own_V14, own_V15, own_V16, own_V17, own_V18, own_V19, own_V20, own_V21, own_V22, own_V23, own_V24, own_V25, own_V26, own_V27, own_V28, own_V29, own_V30, own_V31, Sh.bt_big, Nat.reduceLT, Nat.reduceAdd, Nat.reduceSub, Nat.reduceLeDiff, decide_true, decide_false, Bool.and_true, Bool.true_and, Bool.and_false, Bool.false_and, Bool.or_false, Bool.false_or, Bool.not_true, Bool.not_false, Nat.zero_add, Nat.sub_zero, Nat.lt_irrefl, Nat.not_lt_zero]
  | 59, _ => simp only [Sh.bt_or, Sh.bt_zero, own_mask, own_shl0, own_shl4, own_shl8, own_shl12, own_shl16, own_shl20, own_shl24, own_shl28, own_shl32, own_shl36, own_shl40, own_shl44, own_shl48, own_ush4, own_ush16, own_ush28, own_ush40, own_ush52, own_V0, own_V1, own_V2, own_V3, own_V4, own_V5, own_V6, own_V7, own_V8, own_V9, own_V10, own_V11, own_V12, own_V13, own_V14, own_V15, own_V16, own_V17, own_V18, own_V19, own_V20, own_V21, own_V22, own_V23, own_V24, own_V25, own_V26, own_V27, own_V28, own_V29, own_V30, own_V31, Sh.bt_big, Nat.reduceLT, Nat.reduceAdd, Nat.reduceSub, Nat.reduceLeDiff, decide_true, decide_false, Bool.and_true, Bool.true_and, Bool.and_false, Bool.false_and, Bool.or_false, Bool.false_or, Bool.not_true, Bool.not_false, Nat.zero_add, Nat.sub_zero, Nat.lt_irrefl, Nat.not_lt_zero]
  | 60, _ => simp only [Sh.bt_or, Sh.bt_zero, own_mask, own_shl0, own_shl4, own_shl8, own_shl12, own_shl16, own_shl20, own_shl24, own_shl28, own_shl32, own_shl36, own_shl40, own_shl44, own_shl48, own_ush4, own_ush16, own_ush28, own_ush40, own_ush52, own_V0, own_V1, own_V2, own_V3, own_V4, own_V5, own_V6, own_V7, own_V8, own_V9, own_V10, own_V11, own_V12, own_V13, own_V14, own_V15, own_V16, own_V17, own_V18, own_V19, own_V20, own_V21, own_V22, own_V23, own_V24, own_V25, own_V26, own_V27, own_V28, own_V29, own_V30, own_V31, Sh.bt_big, Nat.reduceLT, Nat.reduceAdd, Nat.reduceSub, Nat.reduceLeDiff, decide_true, decide_false, Bool.and_true, Bool.true_and, Bool.and_false, Bool.false_and, Bool.or_false, Bool.false_or, Bool.not_true, Bool.not_false, Nat.zero_add, Nat.sub_zero, Nat.lt_irrefl, Nat.not_lt_zero]
  | 61, _ => simp only [Sh.bt_or, Sh.bt_zero, own_mask, own_shl0, own_shl4, own_shl8, own_shl12, own_shl16, own_shl20, own_shl24, own_shl28, own_shl32, own_shl36, own_shl40, own_shl44, own_shl48, own_ush4, own_ush16, own_ush28, own_ush40, own_ush52, own_V0, own_V1, own_V2, own_V3, own_V4, own_V5, own_V6, own_V7, own_V8, own_V9, own_V10, own_V11, own_V12, own_V13, own_V14, own_V15, own_V16, own_V17, own_V18, own_V19, own_V20, own_V21, own_V22, own_V23, own_V24, own_V25, own_V26, own_V27, own_V28, own_V29, own_V30, own_V31, Sh.bt_big, Nat.reduceLT, Nat.reduceAdd, Nat.reduceSub, Nat.reduceLeDiff, decide_true, decide_false, Bool.and_true, Bool.true_and, Bool.and_false, Bool.false_and, Bool.or_false, Bool.false_or, Bool.not_true, Bool.not_false, Nat.zero_add, Nat.sub_zero, Nat.lt_irrefl, Nat.not_lt_zero]
  | 62, _ => simp only [Sh.bt_or, Sh.bt_zero, own_mask, own_shl0, own_shl4, own_shl8, own_shl12, own_shl16, own_shl20, own_shl24, own_shl28, own_shl32, own_shl36, own_shl40, own_shl44, own_shl48, own_ush4, own_ush16, own_ush28, own_ush40, own_ush52, own_V0, own_V1, own_V2, own_V3, own_V4, own_V5, own_V6, own_V7, own_V8, own_V9, own_V10, own_V11, own_V12, own_V13, own_V14, own_V15, own_V16, own_V17, own_V18, own_V19, own_V20, own_V21, own_V22, own_V23, own_V24, own_V25, own_V26, own_V27, own_V28, own_V29, own_V30, own_V31, Sh.bt_big, Nat.reduceLT, Nat.reduceAdd, Nat.reduceSub, Nat.reduceLeDiff, decide_true, decide_false, Bool.and_true, Bool.true_and, Bool.and_false, Bool.false_and, Bool.or_false, Bool.false_or, Bool.not_true, Bool.not_false, Nat.zero_add, Nat.sub_zero, Nat.lt_irrefl, Nat.not_lt_zero]
  | 63, _ => simp only [Sh.bt_or, Sh.bt_zero, own_mask, own_shl0, own_shl4, own_shl8, own_shl12, own_shl16, own_shl20, own_shl24, own_shl28, own_shl32, own_shl36, own_shl40, own_shl44, own_shl48, own_ush4, own_ush16, own_ush28, own_ush40, own_ush52, own_V0, own_V1, own_V2, own_V3, own_V4, own_V5, own_V6, own_V7, own_V8, own_V9, own_V10, own_V11, own_V12, own_V13, own_V14, own_V15, own_V16, own_V17, own_V18, own_V19, own_V20, own_V21, own_V22, own_V23, own_V24, own_V25, own_V26, own_V27, own_V28, own_V29, own_V30, own_V31, Sh.bt_big, Nat.reduceLT, Nat.reduceAdd, Nat.reduceSub, Nat.reduceLeDiff, decide_true, decide_false, Bool.and_true, Bool.true_and, Bool.and_false, Bool.false_and, Bool.or_false, Bool.false_or, Bool.not_true, Bool.not_false, Nat.zero_add, Nat.sub_zero, Nat.lt_irrefl, Nat.not_lt_zero]
  | n + 64, h => exact absurd h (by omega)
theorem own_e2 (w0 w1 w2 w3 : Int64) : own_l2 (own_B w0 w1 w2 w3) = ((XT.ushrL w1 40) ||| ((w2 <<< ((24 : Int32).toInt64 &&& 63)) &&& 4503599627370495)) := by
  refine Sh.bt_ext fun i hi => ?_
  rw [own_l2]
  match i, hi with
  | 0, _ => simp only [Sh.bt_or, Sh.bt_zero, own_mask, own_shl0, own_shl4, own_shl8, own_shl12, own_shl16, own_shl20, own_shl24, own_shl28, own_shl32, own_shl36, own_shl40, own_shl44, own_shl48, own_ush4, own_ush16, own_ush28, own_ush40, own_ush52, own_V0, own_V1, own_V2, own_V3, own_V4, own_V5, own_V6, own_V7, own_V8, own_V9, own_V10, own_V11, own_V12, own_V13, own_V14, own_V15, own_V16, own_V17, own_V18, own_V19, own_V20, own_V21, own_V22, own_V23, own_V24, own_V25, own_V26, own_V27, own_V28, own_V29, own_V30, own_V31, Sh.bt_big, Nat.reduceLT, Nat.reduceAdd, Nat.reduceSub, Nat.reduceLeDiff, decide_true, decide_false, Bool.and_true, Bool.true_and, Bool.and_false, Bool.false_and, Bool.or_false, Bool.false_or, Bool.not_true, Bool.not_false, Nat.zero_add, Nat.sub_zero, Nat.lt_irrefl, Nat.not_lt_zero]
  | 1, _ => simp only [Sh.bt_or, Sh.bt_zero, own_mask, own_shl0, own_shl4, own_shl8, own_shl12, own_shl16, own_shl20, own_shl24, own_shl28, own_shl32, own_shl36, own_shl40, own_shl44, own_shl48, own_ush4, own_ush16, own_ush28, own_ush40, own_ush52, own_V0, own_V1, own_V2, own_V3, own_V4, own_V5, own_V6, own_V7, own_V8, own_V9, own_V10, own_V11, own_V12, own_V13, own_V14, own_V15, own_V16, own_V17, own_V18, own_V19, own_V20, own_V21, own_V22, own_V23, own_V24, own_V25, own_V26, own_V27, own_V28, own_V29, own_V30, own_V31, Sh.bt_big, Nat.reduceLT, Nat.reduceAdd, Nat.reduceSub, Nat.reduceLeDiff, decide_true, decide_false, Bool.and_true, Bool.true_and, Bool.and_false, Bool.false_and, Bool.or_false, Bool.false_or, Bool.not_true, Bool.not_false, Nat.zero_add, Nat.sub_zero, Nat.lt_irrefl, Nat.not_lt_zero]
  | 2, _ => simp only [Sh.bt_or, Sh.bt_zero, own_mask, own_shl0, own_shl4, own_shl8, own_shl12, own_shl16, own_shl20, own_shl24, own_shl28, own_shl32, own_shl36, own_shl40, own_shl44, own_shl48, own_ush4, own_ush16, own_ush28, own_ush40, own_ush52, own_V0, own_V1, own_V2, own_V3, own_V4, own_V5, own_V6, own_V7, own_V8, own_V9, own_V10, own_V11, own_V12, own_V13, own_V14, own_V15, own_V16, own_V17, own_V18, own_V19, own_V20, own_V21, own_V22, own_V23, own_V24, own_V25, own_V26, own_V27, own_V28, own_V29, own_V30, own_V31, Sh.bt_big, Nat.reduceLT, Nat.reduceAdd, Nat.reduceSub, Nat.reduceLeDiff, decide_true, decide_false, Bool.and_true, Bool.true_and, Bool.and_false, Bool.false_and, Bool.or_false, Bool.false_or, Bool.not_true, Bool.not_false, Nat.zero_add, Nat.sub_zero, Nat.lt_irrefl, Nat.not_lt_zero]
  | 3, _ => simp only [Sh.bt_or, Sh.bt_zero, own_mask, own_shl0, own_shl4, own_shl8, own_shl12, own_shl16, own_shl20, own_shl24, own_shl28, own_shl32, own_shl36, own_shl40, own_shl44, own_shl48, own_ush4, own_ush16, own_ush28, own_ush40, own_ush52, own_V0, own_V1, own_V2, own_V3, own_V4, own_V5, own_V6, own_V7, own_V8, own_V9, own_V10, own_V11, own_V12, own_V13, own_V14, own_V15, own_V16, own_V17, own_V18, own_V19, own_V20, own_V21, own_V22, own_V23, own_V24, own_V25, own_V26, own_V27, own_V28, own_V29, own_V30, own_V31, Sh.bt_big, Nat.reduceLT, Nat.reduceAdd, Nat.reduceSub, Nat.reduceLeDiff, decide_true, decide_false, Bool.and_true, Bool.true_and, Bool.and_false, Bool.false_and, Bool.or_false, Bool.false_or, Bool.not_true, Bool.not_false, Nat.zero_add, Nat.sub_zero, Nat.lt_irrefl, Nat.not_lt_zero]
  | 4, _ => simp only [Sh.bt_or, Sh.bt_zero, own_mask, own_shl0, own_shl4, own_shl8, own_shl12, own_shl16, own_shl20, own_shl24, own_shl28, own_shl32, own_shl36, own_shl40, own_shl44, own_shl48, own_ush4, own_ush16, own_ush28, own_ush40, own_ush52, own_V0, own_V1, own_V2, own_V3, own_V4, own_V5, own_V6, own_V7, own_V8, own_V9, own_V10, own_V11, own_V12, own_V13, own_V14, own_V15, own_V16, own_V17, own_V18, own_V19, own_V20, own_V21, own_V22, own_V23, own_V24, own_V25, own_V26, own_V27, own_V28, own_V29, own_V30, own_V31, Sh.bt_big, Nat.reduceLT, Nat.reduceAdd, Nat.reduceSub, Nat.reduceLeDiff, decide_true, decide_false, Bool.and_true, Bool.true_and, Bool.and_false, Bool.false_and, Bool.or_false, Bool.false_or, Bool.not_true, Bool.not_false, Nat.zero_add, Nat.sub_zero, Nat.lt_irrefl, Nat.not_lt_zero]
  | 5, _ => simp only [Sh.bt_or, Sh.bt_zero, own_mask, own_shl0, own_shl4, own_shl8, own_shl12, own_shl16, own_shl20, own_shl24, own_shl28, own_shl32, own_shl36, own_shl40, own_shl44, own_shl48, own_ush4, own_ush16, own_ush28, own_ush40, own_ush52, own_V0, own_V1, own_V2, own_V3, own_V4, own_V5, own_V6, own_V7, own_V8, own_V9, own_V10, own_V11, own_V12, own_V13, own_V14, own_V15, own_V16, own_V17, own_V18, own_V19, own_V20, own_V21, own_V22, own_V23, own_V24, own_V25, own_V26, own_V27, own_V28, own_V29, own_V30, own_V31, Sh.bt_big, Nat.reduceLT, Nat.reduceAdd, Nat.reduceSub, Nat.reduceLeDiff, decide_true, decide_false, Bool.and_true, Bool.true_and, Bool.and_false, Bool.false_and, Bool.or_false, Bool.false_or, Bool.not_true, Bool.not_false, Nat.zero_add, Nat.sub_zero, Nat.lt_irrefl, Nat.not_lt_zero]
  | 6, _ => simp only [Sh.bt_or, Sh.bt_zero, own_mask, own_shl0, own_shl4, own_shl8, own_shl12, own_shl16, own_shl20, own_shl24, own_shl28, own_shl32, own_shl36, own_shl40, own_shl44, own_shl48, own_ush4, own_ush16, own_ush28, own_ush40, own_ush52, own_V0, own_V1, own_V2, own_V3, own_V4, own_V5, own_V6, own_V7, own_V8, own_V9, own_V10, own_V11, own_V12, own_V13, own_V14, own_V15, own_V16, own_V17, own_V18, own_V19, own_V20, own_V21, own_V22, own_V23, own_V24, own_V25, own_V26, own_V27, own_V28, own_V29, own_V30, own_V31, Sh.bt_big, Nat.reduceLT, Nat.reduceAdd, Nat.reduceSub, Nat.reduceLeDiff, decide_true, decide_false, Bool.and_true, Bool.true_and, Bool.and_false, Bool.false_and, Bool.or_false, Bool.false_or, Bool.not_true, Bool.not_false, Nat.zero_add, Nat.sub_zero, Nat.lt_irrefl, Nat.not_lt_zero]
  | 7, _ => simp only [Sh.bt_or, Sh.bt_zero, own_mask, own_shl0, own_shl4, own_shl8, own_shl12, own_shl16, own_shl20, own_shl24, own_shl28, own_shl32, own_shl36, own_shl40, own_shl44, own_shl48, own_ush4, own_ush16, own_ush28, own_ush40, own_ush52, own_V0, own_V1, own_V2, own_V3, own_V4, own_V5, own_V6, own_V7, own_V8, own_V9, own_V10, own_V11, own_V12, own_V13, own_V14, own_V15, own_V16, own_V17, own_V18, own_V19, own_V20, own_V21, own_V22, own_V23, own_V24, own_V25, own_V26, own_V27, own_V28, own_V29, own_V30, own_V31, Sh.bt_big, Nat.reduceLT, Nat.reduceAdd, Nat.reduceSub, Nat.reduceLeDiff, decide_true, decide_false, Bool.and_true, Bool.true_and, Bool.and_false, Bool.false_and, Bool.or_false, Bool.false_or, Bool.not_true, Bool.not_false, Nat.zero_add, Nat.sub_zero, Nat.lt_irrefl, Nat.not_lt_zero]
  | 8, _ => simp only [Sh.bt_or, Sh.bt_zero, own_mask, own_shl0, own_shl4, own_shl8, own_shl12, own_shl16, own_shl20, own_shl24, own_shl28, own_shl32, own_shl36, own_shl40, own_shl44, own_shl48, own_ush4, own_ush16, own_ush28, own_ush40, own_ush52, own_V0, own_V1, own_V2, own_V3, own_V4, own_V5, own_V6, own_V7, own_V8, own_V9, own_V10, own_V11, own_V12, own_V13, own_V14, own_V15, own_V16, own_V17, own_V18, own_V19, own_V20, own_V21, own_V22, own_V23, own_V24, own_V25, own_V26, own_V27, own_V28, own_V29, own_V30, own_V31, Sh.bt_big, Nat.reduceLT, Nat.reduceAdd, Nat.reduceSub, Nat.reduceLeDiff, decide_true, decide_false, Bool.and_true, Bool.true_and, Bool.and_false, Bool.false_and, Bool.or_false, Bool.false_or, Bool.not_true, Bool.not_false, Nat.zero_add, Nat.sub_zero, Nat.lt_irrefl, Nat.not_lt_zero]
  | 9, _ => simp only [Sh.bt_or, Sh.bt_zero, own_mask, own_shl0, own_shl4, own_shl8, own_shl12, own_shl16, own_shl20, own_shl24, own_shl28, own_shl32, own_shl36, own_shl40, own_shl44, own_shl48, own_ush4, own_ush16, own_ush28, own_ush40, own_ush52, own_V0, own_V1, own_V2, own_V3, own_V4, own_V5, own_V6, own_V7, own_V8, own_V9, own_V10, own_V11, own_V12, own_V13, own_V14, own_V15, own_V16, own_V17, own_V18, own_V19, own_V20, own_V21, own_V22, own_V23, own_V24, own_V25, own_V26, own_V27, own_V28, own_V29, own_V30, own_V31, Sh.bt_big, Nat.reduceLT, Nat.reduceAdd, Nat.reduceSub, Nat.reduceLeDiff, decide_true, decide_false, Bool.and_true, Bool.true_and, Bool.and_false, Bool.false_and, Bool.or_false, Bool.false_or, Bool.not_true, Bool.not_false, Nat.zero_add, Nat.sub_zero, Nat.lt_irrefl, Nat.not_lt_zero]
  | 10, _ => simp only [Sh.bt_or, Sh.bt_zero, own_mask, own_shl0, own_shl4, own_shl8, own_shl12, own_shl16, own_shl20, own_shl24, own_shl28, own_shl32, own_shl36, own_shl40, own_shl44, own_shl48, own_ush4, own_ush16, own_ush28, own_ush40, own_ush52, own_V0, own_V1, own_V2, own_V3, own_V4, own_V5, own_V6, own_V7, own_V8, own_V9, own_V10, own_V11, own_V12, own_V13, own_V14, own_V15, own_V16, own_V17, own_V18, own_V19, own_V20, own_V21, own_V22, own_V23, own_V24, own_V25, own_V26, own_V27, own_V28, own_V29, own_V30, own_V31, Sh.bt_big, Nat.reduceLT, Nat.reduceAdd, Nat.reduceSub, Nat.reduceLeDiff, decide_true, decide_false, Bool.and_true, Bool.true_and, Bool.and_false, Bool.false_and, Bool.or_false, Bool.false_or, Bool.not_true, Bool.not_false, Nat.zero_add, Nat.sub_zero, Nat.lt_irrefl, Nat.not_lt_zero]
  | 11, _ => simp only [Sh.bt_or, Sh.bt_zero, own_mask, own_shl0, own_shl4, own_shl8, own_shl12, own_shl16, own_shl20, own_shl24, own_shl28, own_shl32, own_shl36, own_shl40, own_shl44, own_shl48, own_ush4, own_ush16, own_ush28, own_ush40, own_ush52, own_V0, own_V1, own_V2, own_V3, own_V4, own_V5, own_V6, own_V7, own_V8, own_V9, own_V10, own_V11, own_V12, own_V13, own_V14, own_V15, own_V16, own_V17, own_V18, own_V19, own_V20, own_V21, own_V22, own_V23, own_V24, own_V25, own_V26, own_V27, own_V28, own_V29, own_V30, own_V31, Sh.bt_big, Nat.reduceLT, Nat.reduceAdd, Nat.reduceSub, Nat.reduceLeDiff, decide_true, decide_false, Bool.and_true, Bool.true_and, Bool.and_false, Bool.false_and, Bool.or_false, Bool.false_or, Bool.not_true, Bool.not_false, Nat.zero_add, Nat.sub_zero, Nat.lt_irrefl, Nat.not_lt_zero]
  | 12, _ => simp only [Sh.bt_or, Sh.bt_zero, own_mask, own_shl0, own_shl4, own_shl8, own_shl12, own_shl16, own_shl20, own_shl24, own_shl28, own_shl32, own_shl36, own_shl40, own_shl44, own_shl48, own_ush4, own_ush16, own_ush28, own_ush40, own_ush52, own_V0, own_V1, own_V2, own_V3, own_V4, own_V5, own_V6, own_V7, own_V8, own_V9, own_V10, own_V11, own_V12, own_V13, own_V14, own_V15, own_V16, own_V17, own_V18, own_V19, own_V20, own_V21, own_V22, own_V23, own_V24, own_V25, own_V26, own_V27, own_V28, own_V29, own_V30, own_V31, Sh.bt_big, Nat.reduceLT, Nat.reduceAdd, Nat.reduceSub, Nat.reduceLeDiff, decide_true, decide_false, Bool.and_true, Bool.true_and, Bool.and_false, Bool.false_and, Bool.or_false, Bool.false_or, Bool.not_true, Bool.not_false, Nat.zero_add, Nat.sub_zero, Nat.lt_irrefl, Nat.not_lt_zero]
  | 13, _ => simp only [Sh.bt_or, Sh.bt_zero, own_mask, own_shl0, own_shl4, own_shl8, own_shl12, own_shl16, own_shl20, own_shl24, own_shl28, own_shl32, own_shl36, own_shl40, own_shl44, own_shl48, own_ush4, own_ush16, own_ush28, own_ush40, own_ush52, own_V0, own_V1, own_V2, own_V3, own_V4, own_V5, own_V6, own_V7, own_V8, own_V9, own_V10, own_V11, own_V12, own_V13, own_V14, own_V15, own_V16, own_V17, own_V18, own_V19, own_V20, own_V21, own_V22, own_V23, own_V24, own_V25, own_V26, own_V27, own_V28, own_V29, own_V30, own_V31, Sh.bt_big, Nat.reduceLT, Nat.reduceAdd, Nat.reduceSub, Nat.reduceLeDiff, decide_true, decide_false, Bool.and_true, Bool.true_and, Bool.and_false, Bool.false_and, Bool.or_false, Bool.false_or, Bool.not_true, Bool.not_false, Nat.zero_add, Nat.sub_zero, Nat.lt_irrefl, Nat.not_lt_zero]
  | 14, _ => simp only [Sh.bt_or, Sh.bt_zero, own_mask, own_shl0, own_shl4, own_shl8, own_shl12, own_shl16, own_shl20, own_shl24, own_shl28, own_shl32, own_shl36, own_shl40, own_shl44, own_shl48, own_ush4, own_ush16, own_ush28, own_ush40, own_ush52, own_V0, own_V1, own_V2, own_V3, own_V4, own_V5, own_V6, own_V7, own_V8, own_V9, own_V10, own_V11, own_V12, own_V13, own_V14, own_V15, own_V16, own_V17, own_V18, own_V19, own_V20, own_V21, own_V22, own_V23, own_V24, own_V25, own_V26, own_V27, own_V28, own_V29, own_V30, own_V31, Sh.bt_big, Nat.reduceLT, Nat.reduceAdd, Nat.reduceSub, Nat.reduceLeDiff, decide_true, decide_false, Bool.and_true, Bool.true_and, Bool.and_false, Bool.false_and, Bool.or_false, Bool.false_or, Bool.not_true, Bool.not_false, Nat.zero_add, Nat.sub_zero, Nat.lt_irrefl, Nat.not_lt_zero]
  | 15, _ => simp only [Sh.bt_or, Sh.bt_zero, own_mask, own_shl0, own_shl4, own_shl8, own_shl12, own_shl16, own_shl20, own_shl24, own_shl28, own_shl32, own_shl36, own_shl40, own_shl44, own_shl48, own_ush4, own_ush16, own_ush28, own_ush40, own_ush52, own_V0, own_V1, own_V2, own_V3, own_V4, own_V5, own_V6, own_V7, own_V8, own_V9, own_V10, own_V11, own_V12, own_V13, own_V14, own_V15, own_V16, own_V17, own_V18, own_V19, own_V20, own_V21, own_V22, own_V23, own_V24, own_V25, own_V26, own_V27, own_V28, own_V29, own_V30, own_V31, Sh.bt_big, Nat.reduceLT, Nat.reduceAdd, Nat.reduceSub, Nat.reduceLeDiff, decide_true, decide_false, Bool.and_true, Bool.true_and, Bool.and_false, Bool.false_and, Bool.or_false, Bool.false_or, Bool.not_true, Bool.not_false, Nat.zero_add, Nat.sub_zero, Nat.lt_irrefl, Nat.not_lt_zero]
  | 16, _ => simp only [Sh.bt_or, Sh.bt_zero, own_mask, own_shl0, own_shl4, own_shl8, own_shl12, own_shl16, own_shl20, own_shl24, own_shl28, own_shl32, own_shl36, own_shl40, own_shl44, own_shl48, own_ush4, own_ush16, own_ush28, own_ush40, own_ush52, own_V0, own_V1, own_V2, own_V3, own_V4, own_V5, own_V6, own_V7, own_V8, own_V9, own_V10, own_V11, own_V12, own_V13, own_V14, own_V15, own_V16, own_V17, own_V18, own_V19, own_V20, own_V21, own_V22, own_V23, own_V24, own_V25, own_V26, own_V27, own_V28, own_V29, own_V30, own_V31, Sh.bt_big, Nat.reduceLT, Nat.reduceAdd, Nat.reduceSub, Nat.reduceLeDiff, decide_true, decide_false, Bool.and_true, Bool.true_and, Bool.and_false, Bool.false_and, Bool.or_false, Bool.false_or, Bool.not_true, Bool.not_false, Nat.zero_add, Nat.sub_zero, Nat.lt_irrefl, Nat.not_lt_zero]
  | 17, _ => simp only [Sh.bt_or, Sh.bt_zero, own_mask, own_shl0, own_shl4, own_shl8, own_shl12, own_shl16, own_shl20, own_shl24, own_shl28, own_shl32, own_shl36, own_shl40, own_shl44, own_shl48, own_ush4, own_ush16, own_ush28, own_ush40, own_ush52, own_V0, own_V1, own_V2, own_V3, own_V4, own_V5, own_V6, own_V7, own_V8, own_V9, own_V10, own_V11, own_V12, own_V13, own_V14, own_V15, own_V16, own_V17, own_V18, own_V19, own_V20, own_V21, own_V22, own_V23, own_V24, own_V25, own_V26, own_V27, own_V28, own_V29, own_V30, own_V31, Sh.bt_big, Nat.reduceLT, Nat.reduceAdd, Nat.reduceSub, Nat.reduceLeDiff, decide_true, decide_false, Bool.and_true, Bool.true_and, Bool.and_false, Bool.false_and, Bool.or_false, Bool.false_or, Bool.not_true, Bool.not_false, Nat.zero_add, Nat.sub_zero, Nat.lt_irrefl, Nat.not_lt_zero]
  | 18, _ => simp only [Sh.bt_or, Sh.bt_zero, own_mask, own_shl0, own_shl4, own_shl8, own_shl12, own_shl16, own_shl20, own_shl24, own_shl28, own_shl32, own_shl36, own_shl40, own_shl44, own_shl48, own_ush4, own_ush16, own_ush28, own_ush40, own_ush52, own_V0, own_V1, own_V2, own_V3, own_V4, own_V5, own_V6, own_V7, own_V8, own_V9, own_V10, own_V11, own_V12, own_V13, own_V14, own_V15, own_V16, own_V17, own_V18, own_V19, own_V20, own_V21, own_V22, own_V23, own_V24, own_V25, own_V26, own_V27, own_V28, own_V29, own_V30, own_V31, Sh.bt_big, Nat.reduceLT, Nat.reduceAdd, Nat.reduceSub, Nat.reduceLeDiff, decide_true, decide_false, Bool.and_true, Bool.true_and, Bool.and_false, Bool.false_and, Bool.or_false, Bool.false_or, Bool.not_true, Bool.not_false, Nat.zero_add, Nat.sub_zero, Nat.lt_irrefl, Nat.not_lt_zero]
  | 19, _ => simp only [Sh.bt_or, Sh.bt_zero, own_mask, own_shl0, own_shl4, own_shl8, own_shl12, own_shl16, own_shl20, own_shl24, own_shl28, own_shl32, own_shl36, own_shl40, own_shl44, own_shl48, own_ush4, own_ush16, own_ush28, own_ush40, own_ush52, own_V0, own_V1, own_V2, own_V3, own_V4, own_V5, own_V6, own_V7, own_V8, own_V9, own_V10, own_V11, own_V12, own_V13, own_V14, own_V15, own_V16, own_V17, own_V18, own_V19, own_V20, own_V21, own_V22, own_V23, own_V24, own_V25, own_V26, own_V27, own_V28, own_V29, own_V30, own_V31, Sh.bt_big, Nat.reduceLT, Nat.reduceAdd, Nat.reduceSub, Nat.reduceLeDiff, decide_true, decide_false, Bool.and_true, Bool.true_and, Bool.and_false, Bool.false_and, Bool.or_false, Bool.false_or, Bool.not_true, Bool.not_false, Nat.zero_add, Nat.sub_zero, Nat.lt_irrefl, Nat.not_lt_zero]
  | 20, _ => simp only [Sh.bt_or, Sh.bt_zero, own_mask, own_shl0, own_shl4, own_shl8, own_shl12, own_shl16, own_shl20, own_shl24, own_shl28, own_shl32, own_shl36, own_shl40, own_shl44, own_shl48, own_ush4, own_ush16, own_ush28, own_ush40, own_ush52, own_V0, own_V1, own_V2, own_V3, own_V4, own_V5, own_V6, own_V7, own_V8, own_V9, own_V10, own_V11, own_V12, own_V13, own_V14, own_V15, own_V16, own_V17, own_V18, own_V19, own_V20, own_V21, own_V22, own_V23, own_V24, own_V25, own_V26, own_V27, own_V28, own_V29, own_V30, own_V31, Sh.bt_big, Nat.reduceLT, Nat.reduceAdd, Nat.reduceSub, Nat.reduceLeDiff, decide_true, decide_false, Bool.and_true, Bool.true_and, Bool.and_false, Bool.false_and, Bool.or_false, Bool.false_or, Bool.not_true, Bool.not_false, Nat.zero_add, Nat.sub_zero, Nat.lt_irrefl, Nat.not_lt_zero]
  | 21, _ => simp only [Sh.bt_or, Sh.bt_zero, own_mask, own_shl0, own_shl4, own_shl8, own_shl12, own_shl16, own_shl20, own_shl24, own_shl28, own_shl32, own_shl36, own_shl40, own_shl44, own_shl48, own_ush4, own_ush16, own_ush28, own_ush40, own_ush52, own_V0, own_V1, own_V2, own_V3, own_V4, own_V5, own_V6, own_V7, own_V8, own_V9, own_V10, own_V11, own_V12, own_V13, own_V14, own_V15, own_V16, own_V17, own_V18, own_V19, own_V20, own_V21, own_V22, own_V23, own_V24, own_V25, own_V26, own_V27, own_V28, own_V29, own_V30, own_V31, Sh.bt_big, Nat.reduceLT, Nat.reduceAdd, Nat.reduceSub, Nat.reduceLeDiff, decide_true, decide_false, Bool.and_true, Bool.true_and, Bool.and_false, Bool.false_and, Bool.or_false, Bool.false_or, Bool.not_true, Bool.not_false, Nat.zero_add, Nat.sub_zero, Nat.lt_irrefl, Nat.not_lt_zero]
  | 22, _ => simp only [Sh.bt_or, Sh.bt_zero, own_mask, own_shl0, own_shl4, own_shl8, own_shl12, own_shl16, own_shl20, own_shl24, own_shl28, own_shl32, own_shl36, own_shl40, own_shl44, own_shl48, own_ush4, own_ush16, own_ush28, own_ush40, own_ush52, own_V0, own_V1, own_V2, own_V3, own_V4, own_V5, own_V6, own_V7, own_V8, own_V9, own_V10, own_V11, own_V12, own_V13, own_V14, own_V15, own_V16, own_V17, own_V18, own_V19, own_V20, own_V21, own_V22, own_V23, own_V24, own_V25, own_V26, own_V27, own_V28, own_V29, own_V30, own_V31, Sh.bt_big, Nat.reduceLT, Nat.reduceAdd, Nat.reduceSub, Nat.reduceLeDiff, decide_true, decide_false, Bool.and_true, Bool.true_and, Bool.and_false, Bool.false_and, Bool.or_false, Bool.false_or, Bool.not_true, Bool.not_false, Nat.zero_add, Nat.sub_zero, Nat.lt_irrefl, Nat.not_lt_zero]
  | 23, _ => simp only [Sh.bt_or, Sh.bt_zero, own_mask, own_shl0, own_shl4, own_shl8, own_shl12, own_shl16, own_shl20, own_shl24, own_shl28, own_shl32, own_shl36, own_shl40, own_shl44, own_shl48, own_ush4, own_ush16, own_ush28, own_ush40, own_ush52, own_V0, own_V1, own_V2, own_V3, own_V4, own_V5, own_V6, own_V7, own_V8, own_V9, own_V10, own_V11, own_V12, own_V13, own_V14, own_V15, own_V16, own_V17, own_V18, own_V19, own_V20, own_V21, own_V22, own_V23, own_V24, own_V25, own_V26, own_V27, own_V28, own_V29, own_V30, own_V31, Sh.bt_big, Nat.reduceLT, Nat.reduceAdd, Nat.reduceSub, Nat.reduceLeDiff, decide_true, decide_false, Bool.and_true, Bool.true_and, Bool.and_false, Bool.false_and, Bool.or_false, Bool.false_or, Bool.not_true, Bool.not_false, Nat.zero_add, Nat.sub_zero, Nat.lt_irrefl, Nat.not_lt_zero]
  | 24, _ => simp only [Sh.bt_or, Sh.bt_zero, own_mask, own_shl0, own_shl4, own_shl8, own_shl12, own_shl16, own_shl20, own_shl24, own_shl28, own_shl32, own_shl36, own_shl40, own_shl44, own_shl48, own_ush4, own_ush16, own_ush28, own_ush40, own_ush52, own_V0, own_V1, own_V2, own_V3, own_V4, own_V5, own_V6, own_V7, own_V8, own_V9, own_V10, own_V11, own_V12, own_V13, own_V14, own_V15, own_V16, own_V17, own_V18, own_V19, own_V20, own_V21, own_V22, own_V23, own_V24, own_V25, own_V26, own_V27, own_V28, own_V29, own_V30, own_V31, Sh.bt_big, Nat.reduceLT, Nat.reduceAdd, Nat.reduceSub, Nat.reduceLeDiff, decide_true, decide_false, Bool.and_true, Bool.true_and, Bool.and_false, Bool.false_and, Bool.or_false, Bool.false_or, Bool.not_true, Bool.not_false, Nat.zero_add, Nat.sub_zero, Nat.lt_irrefl, Nat.not_lt_zero]
  | 25, _ => simp only [Sh.bt_or, Sh.bt_zero, own_mask, own_shl0, own_shl4, own_shl8, own_shl12, own_shl16, own_shl20, own_shl24, own_shl28, own_shl32, own_shl36, own_shl40, own_shl44, own_shl48, own_ush4, own_ush16, own_ush28, own_ush40, own_ush52, own_V0, own_V1, own_V2, own_V3, own_V4, own_V5, own_V6, own_V7, own_V8, own_V9, own_V10, own_V11, own_V12, own_V13, own_V14, own_V15, own_V16, own_V17, own_V18, own_V19, own_V20, own_V21, own_V22, own_V23, own_V24, own_V25, own_V26, own_V27, own_V28, own_V29, own_V30, own_V31, Sh.bt_big, Nat.reduceLT, Nat.reduceAdd, Nat.reduceSub, Nat.reduceLeDiff, decide_true, decide_false, Bool.and_true, Bool.true_and, Bool.and_false, Bool.false_and, Bool.or_false, Bool.false_or, Bool.not_true, Bool.not_false, Nat.zero_add, Nat.sub_zero, Nat.lt_irrefl, Nat.not_lt_zero]
  | 26, _ => simp only [Sh.bt_or, Sh.bt_zero, own_mask, own_shl0, own_shl4, own_shl8, own_shl12, own_shl16, own_shl20, own_shl24, own_shl28, own_shl32, own_shl36, own_shl40, own_shl44, own_shl48, own_ush4, own_ush16, own_ush28, own_ush40, own_ush52, own_V0, own_V1, own_V2, own_V3, own_V4, own_V5, own_V6, own_V7, own_V8, own_V9, own_V10, own_V11, own_V12, own_V13, own_V14, own_V15, own_V16, own_V17, own_V18, own_V19, own_V20, own_V21, own_V22, own_V23, own_V24, own_V25, own_V26, own_V27, own_V28, own_V29, own_V30, own_V31, Sh.bt_big, Nat.reduceLT, Nat.reduceAdd, Nat.reduceSub, Nat.reduceLeDiff, decide_true, decide_false, Bool.and_true, Bool.true_and, Bool.and_false, Bool.false_and, Bool.or_false, Bool.false_or, Bool.not_true, Bool.not_false, Nat.zero_add, Nat.sub_zero, Nat.lt_irrefl, Nat.not_lt_zero]
  | 27, _ => simp only [Sh.bt_or, Sh.bt_zero, own_mask, own_shl0, own_shl4, own_shl8, own_shl12, own_shl16, own_shl20, own_shl24, own_shl28, own_shl32, own_shl36, own_shl40, own_shl44, own_shl48, own_ush4, own_ush16, own_ush28, own_ush40, own_ush52, own_V0, own_V1, own_V2, own_V3, own_V4, own_V5, own_V6, own_V7, own_V8, own_V9, own_V10, own_V11, own_V12, own_V13, own_V14, own_V15, own_V16, own_V17, own_V18, own_V19, own_V20, own_V21, own_V22, own_V23, own_V24, own_V25, own_V26, own_V27, own_V28, own_V29, own_V30, own_V31, Sh.bt_big, Nat.reduceLT, Nat.reduceAdd, Nat.reduceSub, Nat.reduceLeDiff, decide_true, decide_false, Bool.and_true, Bool.true_and, Bool.and_false, Bool.false_and, Bool.or_false, Bool.false_or, Bool.not_true, Bool.not_false, Nat.zero_add, Nat.sub_zero, Nat.lt_irrefl, Nat.not_lt_zero]
  | 28, _ => simp only [Sh.bt_or, Sh.bt_zero, own_mask, own_shl0, own_shl4, own_shl8, own_shl12, own_shl16, own_shl20, own_shl24, own_shl28, own_shl32, own_shl36, own_shl40, own_shl44, own_shl48, own_ush4, own_ush16, own_ush28, own_ush40, own_ush52, own_V0, own_V1, own_V2, own_V3, own_V4, own_V5, own_V6, own_V7, own_V8, own_V9, own_V10, own_V11, own_V12, own_V13, own_V14, own_V15, own_V16, own_V17, own_V18, own_V19, own_V20, own_V21, own_V22, own_V23, own_V24, own_V25, own_V26, own_V27, own_V28, own_V29, own_V30, own_V31, Sh.bt_big, Nat.reduceLT, Nat.reduceAdd, Nat.reduceSub, Nat.reduceLeDiff, decide_true, decide_false, Bool.and_true, Bool.true_and, Bool.and_false, Bool.false_and, Bool.or_false, Bool.false_or, Bool.not_true, Bool.not_false, Nat.zero_add, Nat.sub_zero, Nat.lt_irrefl, Nat.not_lt_zero]
  | 29, _ => simp only [Sh.bt_or, Sh.bt_zero, own_mask, own_shl0, own_shl4, own_shl8, own_shl12, own_shl16, own_shl20, own_shl24, own_shl28, own_shl32, own_shl36, own_shl40, own_shl44, own_shl48, own_ush4, own_ush16, own_ush28, own_ush40, own_ush52, own_V0, own_V1, own_V2, own_V3, own_V4, own_V5, own_V6, own_V7, own_V8, own_V9, own_V10, own_V11, own_V12, own_V13, own_V14, own_V15, own_V16, own_V17, own_V18, own_V19, own_V20, own_V21, own_V22, own_V23, own_V24, own_V25, own_V26, own_V27, own_V28, own_V29, own_V30, own_V31, Sh.bt_big, Nat.reduceLT, Nat.reduceAdd, Nat.reduceSub, Nat.reduceLeDiff, decide_true, decide_false, Bool.and_true, Bool.true_and, Bool.and_false, Bool.false_and, Bool.or_false, Bool.false_or, Bool.not_true, Bool.not_false, Nat.zero_add, Nat.sub_zero, Nat.lt_irrefl, Nat.not_lt_zero]
  | 30, _ => simp only [Sh.bt_or, Sh.bt_zero, own_mask, own_shl0, own_shl4, own_shl8, own_shl12, own_shl16, own_shl20, own_shl24, own_shl28, own_shl32, own_shl36, own_shl40, own_shl44, own_shl48, own_ush4, own_ush16, own_ush28, own_ush40, own_ush52, own_V0, own_V1, own_V2, own_V3, own_V4, own_V5, own_V6, own_V7, own_V8, own_V9, own_V10, own_V11, own_V12, own_V13, own_V14, own_V15, own_V16, own_V17, own_V18, own_V19, own_V20, own_V21, own_V22, own_V23, own_V24, own_V25, own_V26, own_V27, own_V28, own_V29, own_V30, own_V31, Sh.bt_big, Nat.reduceLT, Nat.reduceAdd, Nat.reduceSub, Nat.reduceLeDiff, decide_true, decide_false, Bool.and_true, Bool.true_and, Bool.and_false, Bool.false_and, Bool.or_false, Bool.false_or, Bool.not_true, Bool.not_false, Nat.zero_add, Nat.sub_zero, Nat.lt_irrefl, Nat.not_lt_zero]
  | 31, _ => simp only [Sh.bt_or, Sh.bt_zero, own_mask, own_shl0, own_shl4, own_shl8, own_shl12, own_shl16, own_shl20, own_shl24, own_shl28, own_shl32, own_shl36, own_shl40, own_shl44, own_shl48, own_ush4, own_ush16, own_ush28, own_ush40, own_ush52, own_V0, own_V1, own_V2, own_V3, own_V4, own_V5, own_V6, own_V7, own_V8, own_V9, own_V10, own_V11, own_V12, own_V13, own_V14, own_V15, own_V16, own_V17, own_V18, own_V19, own_V20, own_V21, own_V22, own_V23, own_V24, own_V25, own_V26, own_V27, own_V28, own_V29, own_V30, own_V31, Sh.bt_big, Nat.reduceLT, Nat.reduceAdd, Nat.reduceSub, Nat.reduceLeDiff, decide_true, decide_false, Bool.and_true, Bool.true_and, Bool.and_false, Bool.false_and, Bool.or_false, Bool.false_or, Bool.not_true, Bool.not_false, Nat.zero_add, Nat.sub_zero, Nat.lt_irrefl, Nat.not_lt_zero]
  | 32, _ => simp only [Sh.bt_or, Sh.bt_zero, own_mask, own_shl0, own_shl4, own_shl8, own_shl12, own_shl16, own_shl20, own_shl24, own_shl28, own_shl32, own_shl36, own_shl40, own_shl44, own_shl48, own_ush4, own_ush16, own_ush28, own_ush40, own_ush52, own_V0, own_V1, own_V2, own_V3, own_V4, own_V5, own_V6, own_V7, own_V8, own_V9, own_V10, own_V11, own_V12, own_V13, own_V14, own_V15, own_V16, own_V17, own_V18, own_V19, own_V20, own_V21, own_V22, own_V23, own_V24, own_V25, own_V26, own_V27, own_V28, own_V29, own_V30, own_V31, Sh.bt_big, Nat.reduceLT, Nat.reduceAdd, Nat.reduceSub, Nat.reduceLeDiff, decide_true, decide_false, Bool.and_true, Bool.true_and, Bool.and_false, Bool.false_and, Bool.or_false, Bool.false_or, Bool.not_true, Bool.not_false, Nat.zero_add, Nat.sub_zero, Nat.lt_irrefl, Nat.not_lt_zero]
  | 33, _ => simp only [Sh.bt_or, Sh.bt_zero, own_mask, own_shl0, own_shl4, own_shl8, own_shl12, own_shl16, own_shl20, own_shl24, own_shl28, own_shl32, own_shl36, own_shl40, own_shl44, own_shl48, own_ush4, own_ush16, own_ush28, own_ush40, own_ush52, own_V0, own_V1, own_V2, own_V3, own_V4, own_V5, own_V6, own_V7, own_V8, own_V9, own_V10, own_V11, own_V12, own_V13, own_V14, own_V15, own_V16, own_V17, own_V18, own_V19, own_V20, own_V21, own_V22, own_V23, own_V24, own_V25, own_V26, own_V27, own_V28, own_V29, own_V30, own_V31, Sh.bt_big, Nat.reduceLT, Nat.reduceAdd, Nat.reduceSub, Nat.reduceLeDiff, decide_true, decide_false, Bool.and_true, Bool.true_and, Bool.and_false, Bool.false_and, Bool.or_false, Bool.false_or, Bool.not_true, Bool.not_false, Nat.zero_add, Nat.sub_zero, Nat.lt_irrefl, Nat.not_lt_zero]
  | 34, _ => simp only [Sh.bt_or, Sh.bt_zero, own_mask, own_shl0, own_shl4, own_shl8, own_shl12, own_shl16, own_shl20, own_shl24, own_shl28, own_shl32, own_shl36, own_shl40, own_shl44, own_shl48, own_ush4, own_ush16, own_ush28, own_ush40, own_ush52, own_V0, own_V1, own_V2, own_V3, own_V4, own_V5, own_V6, own_V7, own_V8, own_V9, own_V10, own_V11, own_V12, own_V13, own_V14, own_V15, own_V16, own_V17, own_V18, own_V19, own_V20, own_V21, own_V22, own_V23, own_V24, own_V25, own_V26, own_V27, own_V28, own_V29, own_V30, own_V31, Sh.bt_big, Nat.reduceLT, Nat.reduceAdd, Nat.reduceSub, Nat.reduceLeDiff, decide_true, decide_false, Bool.and_true, Bool.true_and, Bool.and_false, Bool.false_and, Bool.or_false, Bool.false_or, Bool.not_true, Bool.not_false, Nat.zero_add, Nat.sub_zero, Nat.lt_irrefl, Nat.not_lt_zero]
  | 35, _ => simp only [Sh.bt_or, Sh.bt_zero, own_mask, own_shl0, own_shl4, own_shl8, own_shl12, own_shl16, own_shl20, own_shl24, own_shl28, own_shl32, own_shl36, own_shl40, own_shl44, own_shl48, own_ush4, own_ush16, own_ush28, own_ush40, own_ush52, own_V0, own_V1, own_V2, own_V3, own_V4, own_V5, own_V6, own_V7, own_V8, own_V9, own_V10, own_V11, own_V12, own_V13, own_V14, own_V15, own_V16, own_V17, own_V18, own_V19, own_V20, own_V21, own_V22, own_V23, own_V24, own_V25, own_V26, own_V27, own_V28, own_V29, own_V30, own_V31, Sh.bt_big, Nat.reduceLT, Nat.reduceAdd, Nat.reduceSub, Nat.reduceLeDiff, decide_true, decide_false, Bool.and_true, Bool.true_and, Bool.and_false, Bool.false_and, Bool.or_false, Bool.false_or, Bool.not_true, Bool.not_false, Nat.zero_add, Nat.sub_zero, Nat.lt_irrefl, Nat.not_lt_zero]
  | 36, _ => simp only [Sh.bt_or, Sh.bt_zero, own_mask, own_shl0, own_shl4, own_shl8, own_shl12, own_shl16, own_shl20, own_shl24, own_shl28, own_shl32, own_shl36, own_shl40, own_shl44, own_shl48, own_ush4, own_ush16, own_ush28, own_ush40, own_ush52, own_V0, own_V1, own_V2, own_V3, own_V4, own_V5, own_V6, own_V7, own_V8, own_V9, own_V10, own_V11, own_V12, own_V13, own_V14, own_V15, own_V16, own_V17, own_V18, own_V19, own_V20, own_V21, own_V22, own_V23, own_V24, own_V25, own_V26, own_V27, own_V28, own_V29, own_V30, own_V31, Sh.bt_big, Nat.reduceLT, Nat.reduceAdd, Nat.reduceSub, Nat.reduceLeDiff, decide_true, decide_false, Bool.and_true, Bool.true_and, Bool.and_false, Bool.false_and, Bool.or_false, Bool.false_or, Bool.not_true, Bool.not_false, Nat.zero_add, Nat.sub_zero, Nat.lt_irrefl, Nat.not_lt_zero]
  | 37, _ => simp only [Sh.bt_or, Sh.bt_zero, own_mask, own_shl0, own_shl4, own_shl8, own_shl12, own_shl16, own_shl20, own_shl24, own_shl28, own_shl32, own_shl36, own_shl40, own_shl44, own_shl48, own_ush4, own_ush16, own_ush28, own_ush40, own_ush52, own_V0, own_V1, own_V2, own_V3, own_V4, own_V5, own_V6, own_V7, own_V8, own_V9, own_V10, own_V11, own_V12, own_V13, own_V14, own_V15, own_V16, own_V17, own_V18, own_V19, own_V20, own_V21, own_V22, own_V23, own_V24, own_V25, own_V26, own_V27, own_V28, own_V29, own_V30, own_V31, Sh.bt_big, Nat.reduceLT, Nat.reduceAdd, Nat.reduceSub, Nat.reduceLeDiff, decide_true, decide_false, Bool.and_true, Bool.true_and, Bool.and_false, Bool.false_and, Bool.or_false, Bool.false_or, Bool.not_true, Bool.not_false, Nat.zero_add, Nat.sub_zero, Nat.lt_irrefl, Nat.not_lt_zero]
  | 38, _ => simp only [Sh.bt_or, Sh.bt_zero, own_mask, own_shl0, own_shl4, own_shl8, own_shl12, own_shl16, own_shl20, own_shl24, own_shl28, own_shl32, own_shl36, own_shl40, own_shl44, own_shl48, own_ush4, own_ush16, own_ush28, own_ush40, own_ush52, own_V0, own_V1, own_V2, own_V3, own_V4, own_V5, own_V6, own_V7, own_V8, own_V9, own_V10, own_V11, own_V12, own_V13, own_V14, own_V15, own_V16, own_V17, own_V18, own_V19, own_V20, own_V21, own_V22, own_V23, own_V24, own_V25, own_V26, own_V27, own_V28, own_V29, own_V30, own_V31, Sh.bt_big, Nat.reduceLT, Nat.reduceAdd, Nat.reduceSub, Nat.reduceLeDiff, decide_true, decide_false, Bool.and_true, Bool.true_and, Bool.and_false, Bool.false_and, Bool.or_false, Bool.false_or, Bool.not_true, Bool.not_false, Nat.zero_add, Nat.sub_zero, Nat.lt_irrefl, Nat.not_lt_zero]
  | 39, _ => simp only [Sh.bt_or, Sh.bt_zero, own_mask, own_shl0, own_shl4, own_shl8, own_shl12, own_shl16, own_shl20, own_shl24, own_shl28, own_shl32, own_shl36, own_shl40, own_shl44, own_shl48, own_ush4, own_ush16, own_ush28, own_ush40, own_ush52, own_V0, own_V1, own_V2, own_V3, own_V4, own_V5, own_V6, own_V7, own_V8, own_V9, own_V10, own_V11, own_V12, own_V13, own_V14, own_V15, own_V16, own_V17, own_V18, own_V19, own_V20, own_V21, own_V22, own_V23, own_V24, own_V25, own_V26, own_V27, own_V28, own_V29, own_V30, own_V31, Sh.bt_big, Nat.reduceLT, Nat.reduceAdd, Nat.reduceSub, Nat.reduceLeDiff, decide_true, decide_false, Bool.and_true, Bool.true_and, Bool.and_false, Bool.false_and, Bool.or_false, Bool.false_or, Bool.not_true, Bool.not_false, Nat.zero_add, Nat.sub_zero, Nat.lt_irrefl, Nat.not_lt_zero]
  | 40, _ => simp only [Sh.bt_or, Sh.bt_zero, own_mask, own_shl0, own_shl4, own_shl8, own_shl12, own_shl16, own_shl20, own_shl24, own_shl28, own_shl32, own_shl36, own_shl40, own_shl44, own_shl48, own_ush4, own_ush16, own_ush28, own_ush40, own_ush52, own_V0, own_V1, own_V2, own_V3, own_V4, own_V5, own_V6, own_V7, own_V8, own_V9, own_V10, own_V11, own_V12, own_V13, own_V14, own_V15, own_V16, own_V17, own_V18, own_V19, own_V20, own_V21, own_V22, own_V23, own_V24, own_V25, own_V26, own_V27, own_V28, own_V29, own_V30, own_V31, Sh.bt_big, Nat.reduceLT, Nat.reduceAdd, Nat.reduceSub, Nat.reduceLeDiff, decide_true, decide_false, Bool.and_true, Bool.true_and, Bool.and_false, Bool.false_and, Bool.or_false, Bool.false_or, Bool.not_true, Bool.not_false, Nat.zero_add, Nat.sub_zero, Nat.lt_irrefl, Nat.not_lt_zero]
  | 41, _ => simp only [Sh.bt_or, Sh.bt_zero, own_mask, own_shl0, own_shl4, own_shl8, own_shl12, own_shl16, own_shl20, own_shl24, own_shl28, own_shl32, own_shl36, own_shl40, own_shl44, own_shl48, own_ush4, own_ush16, own_ush28, own_ush40, own_ush52, own_V0, own_V1, own_V2, own_V3, own_V4, own_V5, own_V6, own_V7, own_V8, own_V9, own_V10, own_V11, own_V12, own_V13, own_V14, own_V15, own_V16, own_V17, own_V18, own_V19, own_V20, own_V21, own_V22, own_V23, own_V24, own_V25, own_V26, own_V27, own_V28, own_V29, own_V30, own_V31, Sh.bt_big, Nat.reduceLT, Nat.reduceAdd, Nat.reduceSub, Nat.reduceLeDiff, decide_true, decide_false, Bool.and_true, Bool.true_and, Bool.and_false, Bool.false_and, Bool.or_false, Bool.false_or, Bool.not_true, Bool.not_false, Nat.zero_add, Nat.sub_zero, Nat.lt_irrefl, Nat.not_lt_zero]
  | 42, _ => simp only [Sh.bt_or, Sh.bt_zero, own_mask, own_shl0, own_shl4, own_shl8, own_shl12, own_shl16, own_shl20, own_shl24, own_shl28, own_shl32, own_shl36, own_shl40, own_shl44, own_shl48, own_ush4, own_ush16, own_ush28, own_ush40, own_ush52, own_V0, own_V1, own_V2, own_V3, own_V4, own_V5, own_V6, own_V7, own_V8, own_V9, own_V10, own_V11, own_V12, own_V13, own_V14, own_V15, own_V16, own_V17, own_V18, own_V19, own_V20, own_V21, own_V22, own_V23, own_V24, own_V25, own_V26, own_V27, own_V28, own_V29, own_V30, own_V31, Sh.bt_big, Nat.reduceLT, Nat.reduceAdd, Nat.reduceSub, Nat.reduceLeDiff, decide_true, decide_false, Bool.and_true, Bool.true_and, Bool.and_false, Bool.false_and, Bool.or_false, Bool.false_or, Bool.not_true, Bool.not_false, Nat.zero_add, Nat.sub_zero, Nat.lt_irrefl, Nat.not_lt_zero]
  | 43, _ => simp only [Sh.bt_or, Sh.bt_zero, own_mask, own_shl0, own_shl4, own_shl8, own_shl12, own_shl16, own_shl20, own_shl24, own_shl28, own_shl32, own_shl36, own_shl40, own_shl44, own_shl48, own_ush4, own_ush16, own_ush28, own_ush40, own_ush52, own_V0, own_V1, own_V2, own_V3, own_V4, own_V5, own_V6, own_V7, own_V8, own_V9, own_V10, own_V11, own_V12, own_V13, own_V14, own_V15, own_V16, own_V17, own_V18, own_V19, own_V20, own_V21, own_V22, own_V23, own_V24, own_V25, own_V26, own_V27, own_V28, own_V29, own_V30, own_V31, Sh.bt_big, Nat.reduceLT, Nat.reduceAdd, Nat.reduceSub, Nat.reduceLeDiff, decide_true, decide_false, Bool.and_true, Bool.true_and, Bool.and_false, Bool.false_and, Bool.or_false, Bool.false_or, Bool.not_true, Bool.not_false, Nat.zero_add, Nat.sub_zero, Nat.lt_irrefl, Nat.not_lt_zero]
  | 44, _ => simp only [Sh.bt_or, Sh.bt_zero, own_mask, own_shl0, own_shl4, own_shl8, own_shl12, own_shl16, own_shl20, own_shl24, own_shl28, own_shl32, own_shl36, own_shl40, own_shl44, own_shl48, own_ush4, own_ush16, own_ush28, own_ush40, own_ush52, own_V0, own_V1, own_V2, own_V3, own_V4, own_V5, own_V6, own_V7, own_V8, own_V9, own_V10, own_V11, own_V12, own_V13, own_V14, own_V15, own_V16, own_V17, own_V18, own_V19, own_V20, own_V21, own_V22, own_V23, own_V24, own_V25, own_V26, own_V27, own_V28, own_V29, own_V30, own_V31, Sh.bt_big, Nat.reduceLT, Nat.reduceAdd, Nat.reduceSub, Nat.reduceLeDiff, decide_true, decide_false, Bool.and_true, Bool.true_and, Bool.and_false, Bool.false_and, Bool.or_false, Bool.false_or, Bool.not_true, Bool.not_false, Nat.zero_add, Nat.sub_zero, Nat.lt_irrefl, Nat.not_lt_zero]
  | 45, _ => simp only [Sh.bt_or, Sh.bt_zero, own_mask, own_shl0, own_shl4, own_shl8, own_shl12, own_shl16, own_shl20, own_shl24, own_shl28, own_shl32, own_shl36, own_shl40, own_shl44, own_shl48, own_ush4, own_ush16, own_ush28, own_ush40, own_ush52, own_V0, own_V1, own_V2, own_V3, own_V4, own_V5, own_V6, own_V7, own_V8, own_V9, own_V10, own_V11, own_V12, own_V13, own_V14, own_V15, own_V16, own_V17, own_V18, own_V19, own_V20, own_V21, own_V22, own_V23, own_V24, own_V25, own_V26, own_V27, own_V28, own_V29, own_V30, own_V31, Sh.bt_big, Nat.reduceLT, Nat.reduceAdd, Nat.reduceSub, Nat.reduceLeDiff, decide_true, decide_false, Bool.and_true, Bool.true_and, Bool.and_false, Bool.false_and, Bool.or_false, Bool.false_or, Bool.not_true, Bool.not_false, Nat.zero_add, Nat.sub_zero, Nat.lt_irrefl, Nat.not_lt_zero]
  | 46, _ => simp only [Sh.bt_or, Sh.bt_zero, own_mask, own_shl0, own_shl4, own_shl8, own_shl12, own_shl16, own_shl20, own_shl24, own_shl28, own_shl32, own_shl36, own_shl40, own_shl44, own_shl48, own_ush4, own_ush16, own_ush28, own_ush40, own_ush52, own_V0, own_V1, own_V2, own_V3, own_V4, own_V5, own_V6, own_V7, own_V8, own_V9, own_V10, own_V11, own_V12, own_V13, own_V14, own_V15, own_V16, own_V17, own_V18, own_V19, own_V20, own_V21, own_V22, own_V23, own_V24, own_V25, own_V26, own_V27, own_V28, own_V29, own_V30, own_V31, Sh.bt_big, Nat.reduceLT, Nat.reduceAdd, Nat.reduceSub, Nat.reduceLeDiff, decide_true, decide_false, Bool.and_true, Bool.true_and, Bool.and_false, Bool.false_and, Bool.or_false, Bool.false_or, Bool.not_true, Bool.not_false, Nat.zero_add, Nat.sub_zero, Nat.lt_irrefl, Nat.not_lt_zero]
  | 47, _ => simp only [Sh.bt_or, Sh.bt_zero, own_mask, own_shl0, own_shl4, own_shl8, own_shl12, own_shl16, own_shl20, own_shl24, own_shl28, own_shl32, own_shl36, own_shl40, own_shl44, own_shl48, own_ush4, own_ush16, own_ush28, own_ush40, own_ush52, own_V0, own_V1, own_V2, own_V3, own_V4, own_V5, own_V6, own_V7, own_V8, own_V9, own_V10, own_V11, own_V12, own_V13, own_V14, own_V15, own_V16, own_V17, own_V18, own_V19, own_V20, own_V21, own_V22, own_V23, own_V24, own_V25, own_V26, own_V27, own_V28, own_V29, own_V30, own_V31, Sh.bt_big, Nat.reduceLT, Nat.reduceAdd, Nat.reduceSub, Nat.reduceLeDiff, decide_true, decide_false, Bool.and_true, Bool.true_and, Bool.and_false, Bool.false_and, Bool.or_false, Bool.false_or, Bool.not_true, Bool.not_false, Nat.zero_add, Nat.sub_zero, Nat.lt_irrefl, Nat.not_lt_zero]
  | 48, _ => simp only [Sh.bt_or, Sh.bt_zero, own_mask, own_shl0, own_shl4, own_shl8, own_shl12, own_shl16, own_shl20, own_shl24, own_shl28, own_shl32, own_shl36, own_shl40, own_shl44, own_shl48, own_ush4, own_ush16, own_ush28, own_ush40, own_ush52, own_V0, own_V1, own_V2, own_V3, own_V4, own_V5, own_V6, own_V7, own_V8, own_V9, own_V10, own_V11, own_V12, own_V13, own_V14, own_V15, own_V16, own_V17, own_V18, own_V19, own_V20, own_V21, own_V22, own_V23, own_V24, own_V25, own_V26, own_V27, own_V28, own_V29, own_V30, own_V31, Sh.bt_big, Nat.reduceLT, Nat.reduceAdd, Nat.reduceSub, Nat.reduceLeDiff, decide_true, decide_false, Bool.and_true, Bool.true_and, Bool.and_false, Bool.false_and, Bool.or_false, Bool.false_or, Bool.not_true, Bool.not_false, Nat.zero_add, Nat.sub_zero, Nat.lt_irrefl, Nat.not_lt_zero]
  | 49, _ => simp only [Sh.bt_or, Sh.bt_zero, own_mask, own_shl0, own_shl4, own_shl8, own_shl12, own_shl16, own_shl20, own_shl24, own_shl28, own_shl32, own_shl36, own_shl40, own_shl44, own_shl48, own_ush4, own_ush16, own_ush28, own_ush40, own_ush52, own_V0, own_V1, own_V2, own_V3, own_V4, own_V5, own_V6, own_V7, own_V8, own_V9, own_V10, own_V11, own_V12, own_V13, own_V14, own_V15, own_V16, own_V17, own_V18, own_V19, own_V20, own_V21, own_V22, own_V23, own_V24, own_V25, own_V26, own_V27, own_V28, own_V29, own_V30, own_V31, Sh.bt_big, Nat.reduceLT, Nat.reduceAdd, Nat.reduceSub, Nat.reduceLeDiff, decide_true, decide_false, Bool.and_true, Bool.true_and, Bool.and_false, Bool.false_and, Bool.or_false, Bool.false_or, Bool.not_true, Bool.not_false, Nat.zero_add, Nat.sub_zero, Nat.lt_irrefl, Nat.not_lt_zero]
  | 50, _ => simp only [Sh.bt_or, Sh.bt_zero, own_mask, own_shl0, own_shl4, own_shl8, own_shl12, own_shl16, own_shl20, own_shl24, own_shl28, own_shl32, own_shl36, own_shl40, own_shl44, own_shl48, own_ush4, own_ush16, own_ush28, own_ush40, own_ush52, own_V0, own_V1, own_V2, own_V3, own_V4, own_V5, own_V6, own_V7, own_V8, own_V9, own_V10, own_V11, own_V12, own_V13, own_V14, own_V15, own_V16, own_V17, own_V18, own_V19, own_V20, own_V21, own_V22, own_V23, own_V24, own_V25, own_V26, own_V27, own_V28, own_V29, own_V30, own_V31, Sh.bt_big, Nat.reduceLT, Nat.reduceAdd, Nat.reduceSub, Nat.reduceLeDiff, decide_true, decide_false, Bool.and_true, Bool.true_and, Bool.and_false, Bool.false_and, Bool.or_false, Bool.false_or, Bool.not_true, Bool.not_false, Nat.zero_add, Nat.sub_zero, Nat.lt_irrefl, Nat.not_lt_zero]
  | 51, _ => simp only [Sh.bt_or, Sh.bt_zero, own_mask, own_shl0, own_shl4, own_shl8, own_shl12, own_shl16, own_shl20, own_shl24, own_shl28, own_shl32, own_shl36, own_shl40, own_shl44, own_shl48, own_ush4, own_ush16, own_ush28, own_ush40, own_ush52, own_V0, own_V1, own_V2, own_V3, own_V4, own_V5, own_V6, own_V7, own_V8, own_V9, own_V10, own_V11, own_V12, own_V13, own_V14, own_V15, own_V16, own_V17, own_V18, own_V19, own_V20, own_V21, own_V22, own_V23, own_V24, own_V25, own_V26, own_V27, own_V28, own_V29, own_V30, own_V31, Sh.bt_big, Nat.reduceLT, Nat.reduceAdd, Nat.reduceSub, Nat.reduceLeDiff, decide_true, decide_false, Bool.and_true, Bool.true_and, Bool.and_false, Bool.false_and, Bool.or_false, Bool.false_or, Bool.not_true, Bool.not_false, Nat.zero_add, Nat.sub_zero, Nat.lt_irrefl, Nat.not_lt_zero]
  | 52, _ => simp only [Sh.bt_or, Sh.bt_zero, own_mask, own_shl0, own_shl4, own_shl8, own_shl12, own_shl16, own_shl20, own_shl24, own_shl28, own_shl32, own_shl36, own_shl40, own_shl44, own_shl48, own_ush4, own_ush16, own_ush28, own_ush40, own_ush52, own_V0, own_V1, own_V2, own_V3, own_V4, own_V5, own_V6, own_V7, own_V8, own_V9, own_V10, own_V11, own_V12, own_V13, own_V14, own_V15, own_V16, own_V17, own_V18, own_V19, own_V20, own_V21, own_V22, own_V23, own_V24, own_V25, own_V26, own_V27, own_V28, own_V29, own_V30, own_V31, Sh.bt_big, Nat.reduceLT, Nat.reduceAdd, Nat.reduceSub, Nat.reduceLeDiff, decide_true, decide_false, Bool.and_true, Bool.true_and, Bool.and_false, Bool.false_and, Bool.or_false, Bool.false_or, Bool.not_true, Bool.not_false, Nat.zero_add, Nat.sub_zero, Nat.lt_irrefl, Nat.not_lt_zero]
  | 53, _ => simp only [Sh.bt_or, Sh.bt_zero, own_mask, own_shl0, own_shl4, own_shl8, own_shl12, own_shl16, own_shl20, own_shl24, own_shl28, own_shl32, own_shl36, own_shl40, own_shl44, own_shl48, own_ush4, own_ush16, own_ush28, own_ush40, own_ush52, own_V0, own_V1, own_V2, own_V3, own_V4, own_V5, own_V6, own_V7, own_V8, own_V9, own_V10, own_V11, own_V12, own_V13, own_V14, own_V15, own_V16, own_V17, own_V18, own_V19, own_V20, own_V21, own_V22, own_V23, own_V24, own_V25, own_V26, own_V27, own_V28, own_V29, own_V30, own_V31, Sh.bt_big, Nat.reduceLT, Nat.reduceAdd, Nat.reduceSub, Nat.reduceLeDiff, decide_true, decide_false, Bool.and_true, Bool.true_and, Bool.and_false, Bool.false_and, Bool.or_false, Bool.false_or, Bool.not_true, Bool.not_false, Nat.zero_add, Nat.sub_zero, Nat.lt_irrefl, Nat.not_lt_zero]
  | 54, _ => simp only [Sh.bt_or, Sh.bt_zero, own_mask, own_shl0, own_shl4, own_shl8, own_shl12, own_shl16, own_shl20, own_shl24, own_shl28, own_shl32, own_shl36, own_shl40, own_shl44, own_shl48, own_ush4, own_ush16, own_ush28, own_ush40, own_ush52, own_V0, own_V1, own_V2, own_V3, own_V4, own_V5, own_V6, own_V7, own_V8, own_V9, own_V10, own_V11, own_V12, own_V13, own_V14, own_V15, own_V16, own_V17, own_V18, own_V19, own_V20, own_V21, own_V22, own_V23, own_V24, own_V25, own_V26, own_V27, own_V28, own_V29, own_V30, own_V31, Sh.bt_big, Nat.reduceLT, Nat.reduceAdd, Nat.reduceSub, Nat.reduceLeDiff, decide_true, decide_false, Bool.and_true, Bool.true_and, Bool.and_false, Bool.false_and, Bool.or_false, Bool.false_or, Bool.not_true, Bool.not_false, Nat.zero_add, Nat.sub_zero, Nat.lt_irrefl, Nat.not_lt_zero]
  | 55, _ => simp only [Sh.bt_or, Sh.bt_zero, own_mask, own_shl0, own_shl4, own_shl8, own_shl12, own_shl16, own_shl20, own_shl24, own_shl28, own_shl32, own_shl36, own_shl40, own_shl44, own_shl48, own_ush4, own_ush16, own_ush28, own_ush40, own_ush52, own_V0, own_V1, own_V2, own_V3, own_V4, own_V5, own_V6, own_V7, own_V8, own_V9, own_V10, own_V11, own_V12, own_V13, own_V14, own_V15, own_V16, own_V17, own_V18, own_V19, own_V20, own_V21, own_V22, own_V23, own_V24, own_V25, own_V26, own_V27, own_V28, own_V29, own_V30, own_V31, Sh.bt_big, Nat.reduceLT, Nat.reduceAdd, Nat.reduceSub, Nat.reduceLeDiff, decide_true, decide_false, Bool.and_true, Bool.true_and, Bool.and_false, Bool.false_and, Bool.or_false, Bool.false_or, Bool.not_true, Bool.not_false, Nat.zero_add, Nat.sub_zero, Nat.lt_irrefl, Nat.not_lt_zero]
  | 56, _ => simp only [Sh.bt_or, Sh.bt_zero, own_mask, own_shl0, own_shl4, own_shl8, own_shl12, own_shl16, own_shl20, own_shl24, own_shl28, own_shl32, own_shl36, own_shl40, own_shl44, own_shl48, own_ush4, own_ush16, own_ush28, own_ush40, own_ush52, own_V0, own_V1, own_V2, own_V3, own_V4, own_V5, own_V6, own_V7, own_V8, own_V9, own_V10, own_V11, own_V12, own_V13, own_V14, own_V15, own_V16, own_V17, own_V18, own_V19, own_V20, own_V21, own_V22, own_V23, own_V24, own_V25, own_V26, own_V27, own_V28, own_V29, own_V30, own_V31, Sh.bt_big, Nat.reduceLT, Nat.reduceAdd, Nat.reduceSub, Nat.reduceLeDiff, decide_true, decide_false, Bool.and_true, Bool.true_and, Bool.and_false, Bool.false_and, Bool.or_false, Bool.false_or, Bool.not_true, Bool.not_false, Nat.zero_add, Nat.sub_zero, Nat.lt_irrefl, Nat.not_lt_zero]
  | 57, _ => simp only [Sh.bt_or, Sh.bt_zero, own_mask, own_shl0, own_shl4, own_shl8, own_shl12, own_shl16, own_shl20, own_shl24, own_shl28, own_shl32, own_shl36, own_shl40, own_shl44, own_shl48, own_ush4, own_ush16, own_ush28, own_ush40, own_ush52, own_V0, own_V1, own_V2, own_V3, own_V4, own_V5, own_V6, own_V7, own_V8, own_V9, own_V10, own_V11, own_V12, own_V13, own_V14, own_V15, own_V16, own_V17, own_V18, own_V19, own_V20, own_V21, own_V22, own_V23, own_V24, own_V25, own_V26, own_V27, own_V28, own_V29, own_V30, own_V31, Sh.bt_big, Nat.reduceLT, Nat.reduceAdd, Nat.reduceSub, Nat.reduceLeDiff, decide_true, decide_false, Bool.and_true, Bool.true_and, Bool.and_false, Bool.false_and, Bool.or_false, Bool.false_or, Bool.not_true, Bool.not_false, Nat.zero_add, Nat.sub_zero, Nat.lt_irrefl, Nat.not_lt_zero]
  | 58, _ => simp only [Sh.bt_or, Sh.bt_zero, own_mask, own_shl0, own_shl4, own_shl8, own_shl12, own_shl16, own_shl20, own_shl24, own_shl28, own_shl32, own_shl36, own_shl40, own_shl44, own_shl48, own_ush4, own_ush16, own_ush28, own_ush40, own_ush52, own_V0, own_V1, own_V2, own_V3, own_V4, own_V5, own_V6, own_V7, own_V8, own_V9, own_V10, own_V11, own_V12, own_V13, own_V14, own_V15, own_V16, own_V17, own_V18, own_V19, own_V20, own_V21, own_V22, own_V23, own_V24, own_V25, own_V26, own_V27, own_V28, own_V29, own_V30, own_V31, Sh.bt_big, Nat.reduceLT, Nat.reduceAdd, Nat.reduceSub, Nat.reduceLeDiff, decide_true, decide_false, Bool.and_true, Bool.true_and, Bool.and_false, Bool.false_and, Bool.or_false, Bool.false_or, Bool.not_true, Bool.not_false, Nat.zero_add, Nat.sub_zero, Nat.lt_irrefl, Nat.not_lt_zero]
  | 59, _ => simp only [Sh.bt_or, Sh.bt_zero, own_mask, own_shl0, own_shl4, own_shl8, own_shl12, own_shl16, own_shl20, own_shl24, own_shl28, own_shl32, own_shl36, own_shl40, own_shl44, own_shl48, own_ush4, own_ush16, own_ush28, own_ush40, own_ush52, own_V0, own_V1, own_V2, own_V3, own_V4, own_V5, own_V6, own_V7, own_V8, own_V9, own_V10, own_V11, own_V12, own_V13, own_V14, own_V15, own_V16, own_V17, own_V18, own_V19, own_V20, own_V21, own_V22, own_V23, own_V24, own_V25, own_V26, own_V27, own_V28, own_V29, own_V30, own_V31, Sh.bt_big, Nat.reduceLT, Nat.reduceAdd, Nat.reduceSub, Nat.reduceLeDiff, decide_true, decide_false, Bool.and_true, Bool.true_and, Bool.and_false, Bool.false_and, Bool.or_false, Bool.false_or, Bool.not_true, Bool.not_false, Nat.zero_add, Nat.sub_zero, Nat.lt_irrefl, Nat.not_lt_zero]
  | 60, _ => simp only [Sh.bt_or, Sh.bt_zero, own_mask, own_shl0, own_shl4, own_shl8, own_shl12, own_shl16, own_shl20, own_shl24, own_shl28, own_shl32, own_shl36, own_shl40, own_shl44, own_shl48, own_ush4, own_ush16, own_ush28, own_ush40, own_ush52, own_V0, own_V1, own_V2, own_V3, own_V4, own_V5, own_V6, own_V7, own_V8, own_V9, own_V10, own_V11, own_V12, own_V13, own_V14, own_V15, own_V16, own_V17, own_V18, own_V19, own_V20, own_V21, own_V22, own_V23, own_V24, own_V25, own_V26, own_V27, own_V28, own_V29, own_V30, own_V31, Sh.bt_big, Nat.reduceLT, Nat.reduceAdd, Nat.reduceSub, Nat.reduceLeDiff, decide_true, decide_false, Bool.and_true, Bool.true_and, Bool.and_false, Bool.false_and, Bool.or_false, Bool.false_or, Bool.not_true, Bool.not_false, Nat.zero_add, Nat.sub_zero, Nat.lt_irrefl, Nat.not_lt_zero]
  | 61, _ => simp only [Sh.bt_or, Sh.bt_zero, own_mask, own_shl0, own_shl4, own_shl8, own_shl12, own_shl16, own_shl20, own_shl24, own_shl28, own_shl32, own_shl36, own_shl40, own_shl44, own_shl48, own_ush4, own_ush16, own_ush28, own_ush40, own_ush52, own_V0, own_V1, own_V2, own_V3, own_V4, own_V5, own_V6, own_V7, own_V8, own_V9, own_V10, own_V11, own_V12, own_V13, own_V14, own_V15, own_V16, own_V17, own_V18, own_V19, own_V20, own_V21, own_V22, own_V23, own_V24, own_V25, own_V26, own_V27, own_V28, own_V29, own_V30, own_V31, Sh.bt_big, Nat.reduceLT, Nat.reduceAdd, Nat.reduceSub, Nat.reduceLeDiff, decide_true, decide_false, Bool.and_true, Bool.true_and, Bool.and_false, Bool.false_and, Bool.or_false, Bool.false_or, Bool.not_true, Bool.not_false, Nat.zero_add, Nat.sub_zero, Nat.lt_irrefl, Nat.not_lt_zero]
  | 62, _ => simp only [Sh.bt_or, Sh.bt_zero, own_mask, own_shl0, own_shl4, own_shl8, own_shl12, own_shl16, own_shl20, own_shl24, own_shl28, own_shl32, own_shl36, own_shl40, own_shl44, own_shl48, own_ush4, own_ush16, own_ush28, own_ush40, own_ush52, own_V0, own_V1, own_V2, own_V3, own_V4, own_V5, own_V6, own_V7, own_V8, own_V9, own_V10, own_V11, own_V12, own_V13, own_V14, own_V15, own_V16, own_V17, own_V18, own_V19, own_V20, own_V21, own_V22, own_V23, own_V24, own_V25, own_V26, own_V27, own_V28, own_V29, own_V30, own_V31, Sh.bt_big, Nat.reduceLT, Nat.reduceAdd, Nat.reduceSub, Nat.reduceLeDiff, decide_true, decide_false, Bool.and_true, Bool.true_and, Bool.and_false, Bool.false_and, Bool.or_false, Bool.false_or, Bool.not_true, Bool.not_false, Nat.zero_add, Nat.sub_zero, Nat.lt_irrefl, Nat.not_lt_zero]
  | 63, _ => simp only [Sh.bt_or, Sh.bt_zero, own_mask, own_shl0, own_shl4, own_shl8, own_shl12, own_shl16, own_shl20, own_shl24, own_shl28, own_shl32, own_shl36, own_shl40, own_shl44, own_shl48, own_ush4, own_ush16, own_ush28, own_ush40, own_ush52, own_V0, own_V1, own_V2, own_V3, own_V4, own_V5, own_V6, own_V7, own_V8, own_V9, own_V10, own_V11, own_V12, own_V13, own_V14, own_V15, own_V16, own_V17, own_V18, own_V19, own_V20, own_V21, own_V22, own_V23, own_V24, own_V25, own_V26, own_V27, own_V28, own_V29, own_V30, own_V31, Sh.bt_big, Nat.reduceLT, Nat.reduceAdd, Nat.reduceSub, Nat.reduceLeDiff, decide_true, decide_false, Bool.and_true, Bool.true_and, Bool.and_false, Bool.false_and, Bool.or_false, Bool.false_or, Bool.not_true, Bool.not_false, Nat.zero_add, Nat.sub_zero, Nat.lt_irrefl, Nat.not_lt_zero]
  | n + 64, h => exact absurd h (by omega)
theorem own_e3 (w0 w1 w2 w3 : Int64) : own_l3 (own_B w0 w1 w2 w3) = ((XT.ushrL w2 28) ||| ((w3 <<< ((36 : Int32).toInt64 &&& 63)) &&& 4503599627370495)) := by
  refine Sh.bt_ext fun i hi => ?_
  rw [own_l3]
  match i, hi with
  | 0, _ => simp only [Sh.bt_or, Sh.bt_zero, own_mask, own_shl0, own_shl4, own_shl8, own_shl12, own_shl16, own_shl20, own_shl24, own_shl28, own_shl32, own_shl36, own_shl40, own_shl44, own_shl48, own_ush4, own_ush16, own_ush28, own_ush40, own_ush52, own_V0, own_V1, own_V2, own_V3, own_V4, own_V5, own_V6, own_V7, own_V8, own_V9, own_V10, own_V11, own_V12, own_V13, own_V14, own_V15, own_V16, own_V17, own_V18, own_V19, own_V20, own_V21, own_V22, own_V23, own_V24, own_V25, own_V26, own_V27, own_V28, own_V29, own_V30, own_V31, Sh.bt_big, Nat.reduceLT, Nat.reduceAdd, Nat.reduceSub, Nat.reduceLeDiff, decide_true, decide_false, Bool.and_true, Bool.true_and, Bool.and_false, Bool.false_and, Bool.or_false, Bool.false_or, Bool.not_true, Bool.not_false, Nat.zero_add, Nat.sub_zero, Nat.lt_irrefl, Nat.not_lt_zero]
  | 1, _ => simp only [Sh.bt_or, Sh.bt_zero, own_mask, own_shl0, own_shl4, own_shl8, own_shl12, own_shl16, own_shl20, own_shl24, own_shl28, own_shl32, own_shl36, own_shl40, own_shl44, own_shl48, own_ush4, own_ush16, own_ush28, own_ush40, own_ush52, own_V0, own_V1, own_V2, own_V3, own_V4, own_V5, own_V6, own_V7, own_V8, own_V9, own_V10, own_V11, own_V12, own_V13, own_V14, own_V15, own_V16, own_V17, own_V18, own_V19, own_V20, own_V21, own_V22, own_V23, own_V24, own_V25, own_V26, own_V27, own_V28, own_V29, own_V30, own_V31, Sh.bt_big, Nat.reduceLT, Nat.reduceAdd, Nat.reduceSub, Nat.reduceLeDiff, decide_true, decide_false, Bool.and_true, Bool.true_and, Bool.and_false, Bool.false_and, Bool.or_false, Bool.false_or, Bool.not_true, Bool.not_false, Nat.zero_add, Nat.sub_zero, Nat.lt_irrefl, Nat.not_lt_zero]
  | 2, _ => simp only [Sh.bt_or, Sh.bt_zero, own_mask, own_shl0, own_shl4, own_shl8, own_shl12, own_shl16, own_shl20, own_shl24, own_shl28, own_shl32, own_shl36, own_shl40, own_shl44, own_shl48, own_ush4, own_ush16, own_ush28, own_ush40, own_ush52, own_V0, own_V1, own_V2, own_V3, own_V4, own_V5, own_V6, own_V7, own_V8, own_V9, own_V10, own_V11, own_V12, own_V13, own_V14, own_V15, own_V16, own_V17, own_V18, own_V19, own_V20, own_V21, own_V22, own_V23, own_V24, own_V25, own_V26, own_V27, own_V28, own_V29, own_V30, own_V31, Sh.bt_big, Nat.reduceLT, Nat.reduceAdd, Nat.reduceSub, Nat.reduceLeDiff, decide_true, decide_false, Bool.and_true, Bool.true_and, Bool.and_false, Bool.false_and, Bool.or_false, Bool.false_or, Bool.not_true, Bool.not_false, Nat.zero_add, Nat.sub_zero, Nat.lt_irrefl, Nat.not_lt_zero]
  | 3, _ => simp only [Sh.bt_or, Sh.bt_zero, own_mask, own_shl0, own_shl4, own_shl8, own_shl12, own_shl16, own_shl20, own_shl24, own_shl28, own_shl32, own_shl36, own_shl40, own_shl44, own_shl48, own_ush4, own_ush16, own_ush28, own_ush40, own_ush52, own_V0, own_V1, own_V2, own_V3, own_V4, own_V5, own_V6, own_V7, own_V8, own_V9, own_V10, own_V11, own_V12, own_V13, own_V14, own_V15, own_V16, own_V17, own_V18, own_V19, own_V20, own_V21, own_V22, own_V23, own_V24, own_V25, own_V26, own_V27, own_V28, own_V29, own_V30, own_V31, Sh.bt_big, Nat.reduceLT, Nat.reduceAdd, Nat.reduceSub, Nat.reduceLeDiff, decide_true, decide_false, Bool.and_true, Bool.true_and, Bool.and_false, Bool.false_and, Bool.or_false, Bool.false_or, Bool.not_true, Bool.not_false, Nat.zero_add, Nat.sub_zero, Nat.lt_irrefl, Nat.not_lt_zero]
  | 4, _ => simp only [Sh.bt_or, Sh.bt_zero, own_mask, own_shl0, own_shl4, own_shl8, own_shl12, own_shl16, own_shl20, own_shl24, own_shl28, own_shl32, own_shl36, own_shl40, own_shl44, own_shl48, own_ush4, own_ush16, own_ush28, own_ush40, own_ush52, own_V0, own_V1, own_V2, own_V3, own_V4, own_V5, own_V6, own_V7, own_V8, own_V9, own_V10, own_V11, own_V12, own_V13, own_V14, own_V15, own_V16, own_V17, own_V18, own_V19, own_V20, own_V21, own_V22, own_V23, own_V24, own_V25, own_V26, own_V27, own_V28, own_V29, own_V30, own_V31, Sh.bt_big, Nat.reduceLT, Nat.reduceAdd, Nat.reduceSub, Nat.reduceLeDiff, decide_true, decide_false, Bool.and_true, Bool.true_and, Bool.and_false, Bool.false_and, Bool.or_false, Bool.false_or, Bool.not_true, Bool.not_false, Nat.zero_add, Nat.sub_zero, Nat.lt_irrefl, Nat.not_lt_zero]
  | 5, _ => simp only [Sh.bt_or, Sh.bt_zero, own_mask, own_shl0, own_shl4, own_shl8, own_shl12, own_shl16, own_shl20, own_shl24, own_shl28, own_shl32, own_shl36, own_shl40, own_shl44, own_shl48, own_ush4, own_ush16, own_ush28, own_ush40, own_ush52, own_V0, own_V1, own_V2, own_V3, own_V4, own_V5, own_V6, own_V7, own_V8, own_V9, own_V10, own_V11, own_V12, own_V13, own_V14, own_V15, own_V16, own_V17, own_V18, own_V19, own_V20, own_V21, own_V22, own_V23, own_V24, own_V25, own_V26, own_V27, own_V28, own_V29, own_V30, own_V31, Sh.bt_big, Nat.reduceLT, Nat.reduceAdd, Nat.reduceSub, Nat.reduceLeDiff, decide_true, decide_false, Bool.and_true, Bool.true_and, Bool.and_false, Bool.false_and, Bool.or_false, Bool.false_or, Bool.not_true, Bool.not_false, Nat.zero_add, Nat.sub_zero, Nat.lt_irrefl, Nat.not_lt_zero]
  | 6, _ => simp only [Sh.bt_or, Sh.bt_zero, own_mask, own_shl0, own_shl4, own_shl8, own_shl12, own_shl16, own_shl20, own_shl24, own_shl28, own_shl32, own_shl36, own_shl40, own_shl44, own_shl48, own_ush4, own_ush16, own_ush28, own_ush40, own_ush52, own_V0, own_V1, own_V2, own_V3, own_V4, own_V5, own_V6, own_V7, own_V8, own_V9, own_V10, own_V11, own_V12, own_V13, own_V14, own_V15, own_V16, own_V17, own_V18, own_V19, own_V20, own_V21, own_V22, own_V23, own_V24, own_V25, own_V26, own_V27, own_V28, own_V29, own_V30, own_V31, Sh.bt_big, Nat.reduceLT, Nat.reduceAdd, Nat.reduceSub, Nat.reduceLeDiff, decide_true, decide_false, Bool.and_true, Bool.true_and, Bool.and_false, Bool.false_and, Bool.or_false, Bool.false_or, Bool.not_true, Bool.not_false, Nat.zero_add, Nat.sub_zero, Nat.lt_irrefl, Nat.not_lt_zero]
  | 7, _ => simp only [Sh.bt_or, Sh.bt_zero, own_mask, own_shl0, own_shl4, own_shl8, own_shl12, own_shl16, own_shl20, own_shl24, own_shl28, own_shl32, own_shl36, own_shl40, own_shl44, own_shl48, own_ush4, own_ush16, own_ush28, own_ush40, own_ush52, own_V0, own_V1, own_V2, own_V3, own_V4, own_V5, own_V6, own_V7, own_V8, own_V9, own_V10, own_V11, own_V12, own_V13, own_V14, own_V15, own_V16, own_V17, own_V18, own_V19, own_V20, own_V21, own_V22, own_V23, own_V24, own_V25, own_V26, own_V27, own_V28, own_V29, own_V30, own_V31, Sh.bt_big, Nat.reduceLT, Nat.reduceAdd, Nat.reduceSub, Nat.reduceLeDiff, decide_true, decide_false, Bool.and_true, Bool.true_and, Bool.and_false, Bool.false_and, Bool.or_false, Bool.false_or, Bool.not_true, Bool.not_false, Nat.zero_add, Nat.sub_zero, Nat.lt_irrefl, Nat.not_lt_zero]
  | 8, _ => simp only [Sh.bt_or, Sh.bt_zero, own_mask, own_shl0, own_shl4, own_shl8, own_shl12, own_shl16, own_shl20, own_shl24, own_shl28, own_shl32, own_shl36, own_shl40, own_shl44, own_shl48, own_ush4, own_ush16, own_ush28, own_ush40, own_ush52, own_V0, own_V1, own_V2, own_V3, own_V4, own_V5, own_V6, own_V7, own_V8, own_V9, own_V10, own_V11, own_V12, own_V13, own_V14, own_V15, own_V16, own_V17, own_V18, own_V19, own_V20, own_V21, own_V22, own_V23, own_V24, own_V25, own_V26, own_V27, own_V28, own_V29, own_V30, own_V31, Sh.bt_big, Nat.reduceLT, Nat.reduceAdd, Nat.reduceSub, Nat.reduceLeDiff, decide_true, decide_false, Bool.and_true, Bool.true_and, Bool.and_false, Bool.false_and, Bool.or_false, Bool.false_or, Bool.not_true, Bool.not_false, Nat.zero_add, Nat.sub_zero, Nat.lt_irrefl, Nat.not_lt_zero]
  | 9, _ => simp only [Sh.bt_or, Sh.bt_zero, own_mask, own_shl0, own_shl4, own_shl8, own_shl12, own_shl16, own_shl20, own_shl24, own_shl28, own_shl32, own_shl36, own_shl40, own_shl44, own_shl48, own_ush4, own_ush16, own_ush28, own_ush40, own_ush52, own_V0, own_V1, own_V2, own_V3, own_V4, own_V5, own_V6, own_V7, own_V8, own_V9, own_V10, own_V11, own_V12, own_V13, own_V14, own_V15, own_V16, own_V17, own_V18, own_V19, own_V20, own_V21, own_V22, own_V23, own_V24, own_V25, own_V26, own_V27, own_V28, own_V29, own_V30, own_V31, Sh.bt_big, Nat.reduceLT, Nat.reduceAdd, Nat.reduceSub, Nat.reduceLeDiff, decide_true, decide_false, Bool.and_true, Bool.true_and, Bool.and_false, Bool.false_and, Bool.or_false, Bool.false_or, Bool.not_true, Bool.not_false, Nat.zero_add, Nat.sub_zero, Nat.lt_irrefl, Nat.not_lt_zero]
  | 10, _ => simp only [Sh.bt_or, Sh.bt_zero, own_mask, own_shl0, own_shl4, own_shl8, own_shl12, own_shl16, own_shl20, own_shl24, own_shl28, own_shl32, own_shl36, own_shl40, own_shl44, own_shl48, own_ush4, own_ush16, own_ush28, own_ush40, own_ush52, own_V0, own_V1, own_V2, own_V3, own_V4, own_V5, own_V6, own_V7, own_V8, own_V9, own_V10, own_V11, own_V12, own_V13, own_V14, own_V15, own_V16, own_V17, own_V18, own_V19, own_V20, own_V21, own_V22, own_V23, own_V24, own_V25, own_V26, own_V27, own_V28, own_V29, own_V30, own_V31, Sh.bt_big, Nat.reduceLT, Nat.reduceAdd, Nat.reduceSub, Nat.reduceLeDiff, decide_true, decide_false, Bool.and_true, Bool.true_and, Bool.and_false, Bool.false_and, Bool.or_false, Bool.false_or, Bool.not_true, Bool.not_false, Nat.zero_add, Nat.sub_zero, Nat.lt_irrefl, Nat.not_lt_zero]
  | 11, _ => simp only [Sh.bt_or, Sh.bt_zero, own_mask, own_shl0, own_shl4, own_shl8, own_shl12, own_shl16, own_shl20, own_shl24, own_shl28, own_shl32, own_shl36, own_shl40, own_shl44, own_shl48, own_ush4, own_ush16, own_ush28, own_ush40, own_ush52, own_V0, own_V1, own_V2, own_V3, own_V4, own_V5, own_V6, own_V7, own_V8, own_V9, own_V10, own_V11, own_V12, own_V13, own_V14, own_V15, own_V16, own_V17, own_V18, own_V19, own_V20, own_V21, own_V22, own_V23, own_V24, own_V25, own_V26, own_V27, own_V28, own_V29, own_V30, own_V31, Sh.bt_big, Nat.reduceLT, Nat.reduceAdd, Nat.reduceSub, Nat.reduceLeDiff, decide_true, decide_false, Bool.and_true, Bool.true_and, Bool.and_false, Bool.false_and, Bool.or_false, Bool.false_or, Bool.not_true, Bool.not_false, Nat.zero_add, Nat.sub_zero, Nat.lt_irrefl, Nat.not_lt_zero]
  | 12, _ => simp only [Sh.bt_or, Sh.bt_zero, own_mask, own_shl0, own_shl4, own_shl8, own_shl12, own_shl16, own_shl20, own_shl24, own_shl28, own_shl32, own_shl36, own_shl40, own_shl44, own_shl48, own_ush4, own_ush16, own_ush28, own_ush40, own_ush52, own_V0, own_V1, own_V2, own_V3, own_V4, own_V5, own_V6, own_V7, own_V8, own_V9, own_V10, own_V11, own_V12, own_V13, own_V14, own_V15, own_V16, own_V17, own_V18, own_V19, own_V20, own_V21, own_V22, own_V23, own_V24, own_V25, own_V26, own_V27, own_V28, own_V29, own_V30, own_V31, Sh.bt_big, Nat.reduceLT, Nat.reduceAdd, Nat.reduceSub, Nat.reduceLeDiff, decide_true, decide_false, Bool.and_true, Bool.true_and, Bool.and_false, Bool.false_and, Bool.or_false, Bool.false_or, Bool.not_true, Bool.not_false, Nat.zero_add, Nat.sub_zero, Nat.lt_irrefl, Nat.not_lt_zero]
  | 13, _ => simp only [Sh.bt_or, Sh.bt_zero, own_mask, own_shl0, own_shl4, own_shl8, own_shl12, own_shl16, own_shl20, own_shl24, own_shl28, own_shl32, own_shl36, own_shl40, own_shl44, own_shl48, own_ush4, own_ush16, own_ush28, own_ush40, own_ush52, own_V0, own_V1, own_V2, own_V3, own_V4, own_V5, own_V6, own_V7, own_V8, own_V9, own_V10, own_V11, own_V12, own_V13, own_V14, own_V15, own_V16, own_V17, own_V18, own_V19, own_V20, own_V21, own_V22, own_V23, own_V24, own_V25, own_V26, own_V27, own_V28, own_V29, own_V30, own_V31, Sh.bt_big, Nat.reduceLT, Nat.reduceAdd, Nat.reduceSub, Nat.reduceLeDiff, decide_true, decide_false, Bool.and_true, Bool.true_and, Bool.and_false, Bool.false_and, Bool.or_false, Bool.false_or, Bool.not_true, Bool.not_false, Nat.zero_add, Nat.sub_zero, Nat.lt_irrefl, Nat.not_lt_zero]
  | 14, _ => simp only [Sh.bt_or, Sh.bt_zero, own_mask, own_shl0, own_shl4, own_shl8, own_shl12, own_shl16, own_shl20, own_shl24, own_shl28, own_shl32, own_shl36, own_shl40, own_shl44, own_shl48, own_ush4, own_ush16, own_ush28, own_ush40, own_ush52, own_V0, own_V1, own_V2, own_V3, own_V4, own_V5, own_V6, own_V7, own_V8, own_V9, own_V10, own_V11, own_V12, own_V13, own_V14, own_V15, own_V16, own_V17, own_V18, own_V19, own_V20, own_V21, own_V22, own_V23, own_V24, own_V25, own_V26, own_V27, own_V28, own_V29, own_V30, own_V31, Sh.bt_big, Nat.reduceLT, Nat.reduceAdd, Nat.reduceSub, Nat.reduceLeDiff, decide_true, decide_false, Bool.and_true, Bool.true_and, Bool.and_false, Bool.false_and, Bool.or_false, Bool.false_or, Bool.not_true, Bool.not_false, Nat.zero_add, Nat.sub_zero, Nat.lt_irrefl, Nat.not_lt_zero]
  | 15, _ => simp only [Sh.bt_or, Sh.bt_zero, own_mask, own_shl0, own_shl4, own_shl8, own_shl12, own_shl16, own_shl20, own_shl24, own_shl28, own_shl32, own_shl36, own_shl40, own_shl44, own_shl48, own_ush4, own_ush16, own_ush28, own_ush40, own_ush52, own_V0, own_V1, own_V2, own_V3, own_V4, own_V5, own_V6, own_V7, own_V8, own_V9, own_V10, own_V11, own_V12, own_V13, own_V14, own_V15, own_V16, own_V17, own_V18, own_V19, own_V20, own_V21, own_V22, own_V23, own_V24, own_V25, own_V26, own_V27, own_V28, own_V29, own_V30, own_V31, Sh.bt_big, Nat.reduceLT, Nat.reduceAdd, Nat.reduceSub, Nat.reduceLeDiff, decide_true, decide_false, Bool.and_true, Bool.true_and, Bool.and_false, Bool.false_and, Bool.or_false, Bool.false_or, Bool.not_true, Bool.not_false, Nat.zero_add, Nat.sub_zero, Nat.lt_irrefl, Nat.not_lt_zero]
  | 16, _ => simp only [Sh.bt_or, Sh.bt_zero, own_mask, own_shl0, own_shl4, own_shl8, own_shl12, own_shl16, own_shl20, own_shl24, own_shl28, own_shl32, own_shl36, own_shl40, own_shl44, own_shl48, own_ush4, own_ush16, own_ush28, own_ush40, own_ush52, own_V0, own_V1, own_V2, own_V3, own_V4, own_V5, own_V6, own_V7, own_V8, own_V9, own_V10, own_V11, own_V12, own_V13, own_V14, own_V15, own_V16, own_V17, own_V18, own_V19, own_V20, own_V21, own_V22, own_V23, own_V24, own_V25, own_V26, own_V27, own_V28, own_V29, own_V30, own_V31, Sh.bt_big, Nat.reduceLT, Nat.reduceAdd, Nat.reduceSub, Nat.reduceLeDiff, decide_true, decide_false, Bool.and_true, Bool.true_and, Bool.and_false, Bool.false_and, Bool.or_false, Bool.false_or, Bool.not_true, Bool.not_false, Nat.zero_add, Nat.sub_zero, Nat.lt_irrefl, Nat.not_lt_zero]
  | 17, _ => simp only [Sh.bt_or, Sh.bt_zero, own_mask, own_shl0, own_shl4, own_shl8, own_shl12, own_shl16, own_shl20, own_shl24, own_shl28, own_shl32, own_shl36, own_shl40, own_shl44, own_shl48, own_ush4, own_ush16, own_ush28, own_ush40, own_ush52, own_V0, own_V1, own_V2, own_V3, own_V4, own_V5, own_V6, own_V7, own_V8, own_V9, own_V10, own_V11, own_V12, own_V13, own_V14, own_V15, own_V16, own_V17, own_V18, own_V19, own_V20, own_V21, own_V22, own_V23, own_V24, own_V25, own_V26, own_V27, own_V28, own_V29, own_V30, own_V31, Sh.bt_big, Nat.reduceLT, Nat.reduceAdd, Nat.reduceSub, Nat.reduceLeDiff, decide_true, decide_false, Bool.and_true, Bool.true_and, Bool.and_false, Bool.false_and, Bool.or_false, Bool.false_or, Bool.not_true, Bool.not_false, Nat.zero_add, Nat.sub_zero, Nat.lt_irrefl, Nat.not_lt_zero]
  | 18, _ => simp only [Sh.bt_or, Sh.bt_zero, own_mask, own_shl0, own_shl4, own_shl8, own_shl12, own_shl16, own_shl20, own_shl24, own_shl28, own_shl32, own_shl36, own_shl40, own_shl44, own_shl48, own_ush4, own_ush16, own_ush28, own_ush40, own_ush52, own_V0, own_V1, own_V2, own_V3, own_V4, own_V5, own_V6, own_V7, own_V8, own_V9, own_V10, own_V11, own_V12, own_V13, own_V14, own_V15, own_V16, own_V17, own_V18, own_V19, own_V20, own_V21, own_V22, own_V23, own_V24, own_V25, own_V26, own_V27, own_V28, own_V29, own_V30, own_V31, Sh.bt_big, Nat.reduceLT, Nat.reduceAdd, Nat.reduceSub, Nat.reduceLeDiff, decide_true, decide_false, Bool.and_true, Bool.true_and, Bool.and_false, Bool.false_and, Bool.or_false, Bool.false_or, Bool.not_true, Bool.not_false, Nat.zero_add, Nat.sub_zero, Nat.lt_irrefl, Nat.not_lt_zero]
  | 19, _ => simp only [Sh.bt_or, Sh.bt_zero, own_mask, own_shl0, own_shl4, own_shl8, own_shl12, own_shl16, own_shl20, own_shl24, own_shl28, own_shl32, own_shl36, own_shl40, own_shl44, own_shl48, own_ush4, own_ush16, own_ush28, own_ush40, own_ush52, own_V0, own_V1, own_V2, own_V3, own_V4, own_V5, own_V6, own_V7, own_V8, own_V9, own_V10, own_V11, own_V12, own_V13, own_V14, own_V15, own_V16, own_V17, own_V18, own_V19, own_V20, own_V21, own_V22, own_V23, own_V24, own_V25, own_V26, own_V27, own_V28, own_V29, own_V30, own_V31, Sh.bt_big, Nat.reduceLT, Nat.reduceAdd, Nat.reduceSub, Nat.reduceLeDiff, decide_true, decide_false, Bool.and_true, Bool.true_and, Bool.and_false, Bool.false_and, Bool.or_false, Bool.false_or, Bool.not_true, Bool.not_false, Nat.zero_add, Nat.sub_zero, Nat.lt_irrefl, Nat.not_lt_zero]
  | 20, _ => simp only [Sh.bt_or, Sh.bt_zero, own_mask, own_shl0, own_shl4, own_shl8, own_shl12, own_shl16, own_shl20, own_shl24, own_shl28, own_shl32, own_shl36, own_shl40, own_shl44, own_shl48, own_ush4, own_ush16, own_ush28, own_ush40, own_ush52, own_V0, own_V1, own_V2, own_V3, own_V4, own_V5, own_V6, own_V7, own_V8, own_V9, own_V10, own_V11, own_V12, own_V13, own_V14, own_V15, own_V16, own_V17, own_V18, own_V19, own_V20, own_V21, own_V22, own_V23, own_V24, own_V25, own_V26, own_V27, own_V28, own_V29, own_V30, own_V31, Sh.bt_big, Nat.reduceLT, Nat.reduceAdd, Nat.reduceSub, Nat.reduceLeDiff, decide_true, decide_false, Bool.and_true, Bool.true_and, Bool.and_false, Bool.false_and, Bool.or_false, Bool.false_or, Bool.not_true, Bool.not_false, Nat.zero_add, Nat.sub_zero, Nat.lt_irrefl, Nat.not_lt_zero]
  | 21, _ => simp only [Sh.bt_or, Sh.bt_zero, own_mask, own_shl0, own_shl4, own_shl8, own_shl12, own_shl16, own_shl20, own_shl24, own_shl28, own_shl32, own_shl36, own_shl40, own_shl44, own_shl48, own_ush4, own_ush16, own_ush28, own_ush40, own_ush52, own_V0, own_V1, own_V2, own_V3, own_V4, own_V5, own_V6, own_V7, own_V8, own_V9, own_V10, own_V11, own_V12, own_V13, own_V14, own_V15, own_V16, own_V17, own_V18, own_V19, own_V20, own_V21, own_V22, own_V23, own_V24, own_V25, own_V26, own_V27, own_V28, own_V29, own_V30, own_V31, Sh.bt_big, Nat.reduceLT, Nat.reduceAdd, Nat.reduceSub, Nat.reduceLeDiff, decide_true, decide_false, Bool.and_true, Bool.true_and, Bool.and_false, Bool.false_and, Bool.or_false, Bool.false_or, Bool.not_true, Bool.not_false, Nat.zero_add, Nat.sub_zero, Nat.lt_irrefl, Nat.not_lt_zero]
  | 22, _ => simp only [Sh.bt_or, Sh.bt_zero, own_mask, own_shl0, own_shl4, own_shl8, own_shl12, own_shl16, own_shl20, own_shl24, own_shl28, own_shl32, own_shl36, own_shl40, own_shl44, own_shl48, own_ush4, own_ush16, own_ush28, own_ush40, own_ush52, own_V0, own_V1, own_V2, own_V3, own_V4, own_V5, own_V6, own_V7, own_V8, own_V9, own_V10, own_V11, own_V12, own_V13, own_V14, own_V15, own_V16, own_V17, own_V18, own_V19, own_V20, own_V21, own_V22, own_V23, own_V24, own_V25, own_V26, own_V27, own_V28, own_V29, own_V30, own_V31, Sh.bt_big, Nat.reduceLT, Nat.reduceAdd, Nat.reduceSub, Nat.reduceLeDiff, decide_true, decide_false, Bool.and_true, Bool.true_and, Bool.and_false, Bool.false_and, Bool.or_false, Bool.false_or, Bool.not_true, Bool.not_false, Nat.zero_add, Nat.sub_zero, Nat.lt_irrefl, Nat.not_lt_zero]
  | 23, _ => simp only [Sh.bt_or, Sh.bt_zero, own_mask, own_shl0, own_shl4, own_shl8, own_shl12, own_shl16, own_shl20, own_shl24, own_shl28, own_shl32, own_shl36, own_shl40, own_shl44, own_shl48, own_ush4, own_ush16, own_ush28, own_ush40, own_ush52, own_V0, own_V1, own_V2, own_V3, own_V4, own_V5, own_V6, own_V7, own_V8, own_V9, own_V10, own_V11, own_V12, own_V13, own_V14, own_V15, own_V16, own_V17, own_V18, own_V19, own_V20, own_V21, own_V22, own_V23, own_V24, own_V25, own_V26, own_V27, own_V28, own_V29, own_V30, own_V31, Sh.bt_big, Nat.reduceLT, Nat.reduceAdd, Nat.reduceSub, Nat.reduceLeDiff, decide_true, decide_false, Bool.and_true, Bool.true_and, Bool.and_false, Bool.false_and, Bool.or_false, Bool.false_or, Bool.not_true, Bool.not_false, Nat.zero_add, Nat.sub_zero, Nat.lt_irrefl, Nat.not_lt_zero]
  | 24, _ => simp only [Sh.bt_or, Sh.bt_zero, own_mask, own_shl0, own_shl4, own_shl8, own_shl12, own_shl16, own_shl20, own_shl24, own_shl28, own_shl32, own_shl36, own_shl40, own_shl44, own_shl48, own_ush4, own_ush16, own_ush28, own_ush40, own_ush52, own_V0, own_V1, own_V2, own_V3, own_V4, own_V5, own_V6, own_V7, own_V8, own_V9, own_V10, own_V11, own_V12, own_V13, own_V14, own_V15, own_V16, own_V17, own_V18, own_V19, own_V20, own_V21, own_V22, own_V23, own_V24, own_V25, own_V26, own_V27, own_V28, own_V29, own_V30, own_V31, Sh.bt_big, Nat.reduceLT, Nat.reduceAdd, Nat.reduceSub, Nat.reduceLeDiff, decide_true, decide_false, Bool.and_true, Bool.true_and, Bool.and_false, Bool.false_and, Bool.or_false, Bool.false_or, Bool.not_true, Bool.not_false, Nat.zero_add, Nat.sub_zero, Nat.lt_irrefl, Nat.not_lt_zero]
  | 25, _ => simp only [Sh.bt_or, Sh.bt_zero, own_mask, own_shl0, own_shl4, own_shl8, own_shl12, own_shl16, own_shl20, own_shl24, own_shl28, own_shl32, own_shl36, own_shl40, own_shl44, own_shl48, own_ush4, own_ush16, own_ush28, own_ush40, own_ush52, own_V0, own_V1, own_V2, own_V3, own_V4, own_V5, own_V6, own_V7, own_V8, own_V9, own_V10, own_V11, own_V12, own_V13, own_V14, own_V15, own_V16, own_V17, own_V18, own_V19, own_V20, own_V21, own_V22, own_V23, own_V24, own_V25, own_V26, own_V27, own_V28, own_V29, own_V30, own_V31, Sh.bt_big, Nat.reduceLT, Nat.reduceAdd, Nat.reduceSub, Nat.reduceLeDiff, decide_true, decide_false, Bool.and_true, Bool.true_and, Bool.and_false, Bool.false_and, Bool.or_false, Bool.false_or, Bool.not_true, Bool.not_false, Nat.zero_add, Nat.sub_zero, Nat.lt_irrefl, Nat.not_lt_zero]
  | 26, _ => simp only [Sh.bt_or, Sh.bt_zero, own_mask, own_shl0, own_shl4, own_shl8, own_shl12, own_shl16, own_shl20, own_shl24, own_shl28, own_shl32, own_shl36, own_shl40, own_shl44, own_shl48, own_ush4, own_ush16, own_ush28, own_ush40, own_ush52, own_V0, own_V1, own_V2, own_V3, own_V4, own_V5, own_V6, own_V7, own_V8, own_V9, own_V10, own_V11, own_V12, own_V13, own_V14, own_V15, own_V16, own_V17, own_V18, own_V19, own_V20, own_V21, own_V22, own_V23, own_V24, own_V25, own_V26, own_V27, own_V28, own_V29, own_V30, own_V31, Sh.bt_big, Nat.reduceLT, Nat.reduceAdd, Nat.reduceSub, Nat.reduceLeDiff, decide_true, decide_false, Bool.and_true, Bool.true_and, Bool.and_false, Bool.false_and, Bool.or_false, Bool.false_or, Bool.not_true, Bool.not_false, Nat.zero_add, Nat.sub_zero, Nat.lt_irrefl, Nat.not_lt_zero]
  | 27, _ => simp only [Sh.bt_or, Sh.bt_zero, own_mask, own_shl0, own_shl4, own_shl8, own_shl12, own_shl16, own_shl20, own_shl24, own_shl28, own_shl32, own_shl36, own_shl40, own_shl44, own_shl48, own_ush4, own_ush16, own_ush28, own_ush40, own_ush52, own_V0, own_V1, own_V2, own_V3, own_V4, own_V5, own_V6, own_V7, own_V8, own_V9, own_V10, own_V11, own_V12, own_V13, own_V14, own_V15, own_V16, own_V17, own_V18, own_V19, own_V20, own_V21, own_V22, own_V23, own_V24, own_V25, own_V26, own_V27, own_V28, own_V29, own_V30, own_V31, Sh.bt_big, Nat.reduceLT, Nat.reduceAdd, Nat.reduceSub, Nat.reduceLeDiff, decide_true, decide_false, Bool.and_true, Bool.true_and, Bool.and_false, Bool.false_and, Bool.or_false, Bool.false_or, Bool.not_true, Bool.not_false, Nat.zero_add, Nat.sub_zero, Nat.lt_irrefl, Nat.not_lt_zero]
  | 28, _ => simp only [Sh.bt_or, Sh.bt_zero, own_mask, own_shl0, own_shl4, own_shl8, own_shl12, own_shl16, own_shl20, own_shl24, own_shl28, own_shl32, own_shl36, own_shl40, own_shl44, own_shl48, own_ush4, own_ush16, own_ush28, own_ush40, own_ush52, own_V0, own_V1, own_V2, own_V3, own_V4, own_V5, own_V6, own_V7, own_V8, own_V9, own_V10, own_V11, own_V12, own_V13, own_V14, own_V15, own_V16, own_V17, own_V18, own_V19, own_V20, own_V21, own_V22, own_V23, own_V24, own_V25, own_V26, own_V27, own_V28, own_V29, own_V30, own_V31, Sh.bt_big, Nat.reduceLT, Nat.reduceAdd, Nat.reduceSub, Nat.reduceLeDiff, decide_true, decide_false, Bool.and_true, Bool.true_and, Bool.and_false, Bool.false_and, Bool.or_false, Bool.false_or, Bool.not_true, Bool.not_false, Nat.zero_add, Nat.sub_zero, Nat.lt_irrefl, Nat.not_lt_zero]
  | 29, _ => simp only [Sh.bt_or, Sh.bt_zero, own_mask, own_shl0, own_shl4, own_shl8, own_shl12, own_shl16, own_shl20, own_shl24, own_shl28, own_shl32, own_shl36, own_shl40, own_shl44, own_shl48, own_ush4, own_ush16, own_ush28, own_ush40, own_ush52, own_V0, own_V1, own_V2, own_V3, own_V4, own_V5, own_V6, own_V7, own_V8, own_V9, own_V10, own_V11, own_V12, own_V13, own_V14, own_V15, own_V16, own_V17, own_V18, own_V19, own_V20, own_V21, own_V22, own_V23, own_V24, own_V25, own_V26, own_V27, own_V28, own_V29, own_V30, own_V31, Sh.bt_big, Nat.reduceLT, Nat.reduceAdd, Nat.reduceSub, Nat.reduceLeDiff, decide_true, decide_false, Bool.and_true, Bool.true_and, Bool.and_false, Bool.false_and, Bool.or_false, Bool.false_or, Bool.not_true, Bool.not_false, Nat.zero_add, Nat.sub_zero, Nat.lt_irrefl, Nat.not_lt_zero]
  | 30, _ => simp only [Sh.bt_or, Sh.bt_zero, own_mask, own_shl0, own_shl4, own_shl8, own_shl12, own_shl16, own_shl20, own_shl24, own_shl28, own_shl32, own_shl36, own_shl40, own_shl44, own_shl48, own_ush4, own_ush16, own_ush28, own_ush40, own_ush52, own_V0, own_V1, own_V2, own_V3, own_V4, own_V5, own_V6, own_V7, own_V8, own_V9, own_V10, own_V11, own_V12, own_V13, own_V14, own_V15, own_V16, own_V17, own_V18, own_V19, own_V20, own_V21, own_V22, own_V23, own_V24, own_V25, own_V26, own_V27, own_V28, own_V29, own_V30, own_V31, Sh.bt_big, Nat.reduceLT, Nat.reduceAdd, Nat.reduceSub, Nat.reduceLeDiff, decide_true, decide_false, Bool.and_true, Bool.true_and, Bool.and_false, Bool.false_and, Bool.or_false, Bool.false_or, Bool.not_true, Bool.not_false, Nat.zero_add, Nat.sub_zero, Nat.lt_irrefl, Nat.not_lt_zero]
  | 31, _ => simp only [Sh.bt_or, Sh.bt_zero, own_mask, own_shl0, own_shl4, own_shl8, own_shl12, own_shl16, own_shl20, own_shl24, own_shl28, own_shl32, own_shl36, own_shl40, own_shl44, own_shl48, own_ush4, own_ush16, own_ush28, own_ush40, own_ush52, own_V0, own_V1, own_V2, own_V3, own_V4, own_V5, own_V6, own_V7, own_V8, own_V9, own_V10, own_V11, own_V12, own_V13, own_V14, own_V15, own_V16, own_V17, own_V18, own_V19, own_V20, own_V21, own_V22, own_V23, own_V24, own_V25, own_V26, own_V27, own_V28, own_V29, own_V30, own_V31, Sh.bt_big, Nat.reduceLT, Nat.reduceAdd, Nat.reduceSub, Nat.reduceLeDiff, decide_true, decide_false, Bool.and_true, Bool.true_and, Bool.and_false, Bool.false_and, Bool.or_false, Bool.false_or, Bool.not_true, Bool.not_false, Nat.zero_add, Nat.sub_zero, Nat.lt_irrefl, Nat.not_lt_zero]
  | 32, _ => simp only [Sh.bt_or, Sh.bt_zero, own_mask, own_shl0, own_shl4, own_shl8, own_shl12, own_shl16, own_shl20, own_shl24, own_shl28, own_shl32, own_shl36, own_shl40, own_shl44, own_shl48, own_ush4, own_ush16, own_ush28, own_ush40, own_ush52, own_V0, own_V1, own_V2, own_V3, own_V4, own_V5, own_V6, own_V7, own_V8, own_V9, own_V10, own_V11, own_V12, own_V13, own_V14, own_V15, own_V16, own_V17, own_V18, own_V19, own_V20, own_V21, own_V22, own_V23, own_V24, own_V25, own_V26, own_V27, own_V28, own_V29, own_V30, own_V31, Sh.bt_big, Nat.reduceLT, Nat.reduceAdd, Nat.reduceSub, Nat.reduceLeDiff, decide_true, decide_false, Bool.and_true, Bool.true_and, Bool.and_false, Bool.false_and, Bool.or_false, Bool.false_or, Bool.not_true, Bool.not_false, Nat.zero_add, Nat.sub_zero, Nat.lt_irrefl, Nat.not_lt_zero]
  | 33, _ => simp only [Sh.bt_or, Sh.bt_zero, own_mask, own_shl0, own_shl4, own_shl8, own_shl12, own_shl16, own_shl20, own_shl24, own_shl28, own_shl32, own_shl36, own_shl40, own_shl44, own_shl48, own_ush4, own_ush16, own_ush28, own_ush40, own_ush52, own_V0, own_V1, own_V2, own_V3, own_V4, own_V5, own_V6, own_V7, own_V8, own_V9, own_V10, own_V11, own_V12, own_V13, own_V14, own_V15, own_V16, own_V17, own_V18, own_V19, own_V20, own_V21, own_V22, own_V23, own_V24, own_V25, own_V26, own_V27, own_V28, own_V29, own_V30, own_V31, Sh.bt_big, Nat.reduceLT, Nat.reduceAdd, Nat.reduceSub, Nat.reduceLeDiff, decide_true, decide_false, Bool.and_true, Bool.true_and, Bool.and_false, Bool.false_and, Bool.or_false, Bool.false_or, Bool.not_true, Bool.not_false, Nat.zero_add, Nat.sub_zero, Nat.lt_irrefl, Nat.not_lt_zero]
  | 34, _ => simp only [Sh.bt_or, Sh.bt_zero, own_mask, own_shl0, own_shl4, own_shl8, own_shl12, own_shl16, own_shl20, own_shl24, own_shl28, own_shl32, own_shl36, own_shl40, own_shl44, own_shl48, own_ush4, own_ush16, own_ush28, own_ush40, own_ush52, own_V0, own_V1, own_V2, own_V3, own_V4, own_V5, own_V6, own_V7, own_V8, own_V9, own_V10, own_V11, own_V12, own_V13, own_V14, own_V15, own_V16, own_V17, own_V18, own_V19, own_V20, own_V21, own_V22, own_V23, own_V24, own_V25, own_V26, own_V27, own_V28, own_V29, own_V30, own_V31, Sh.bt_big, Nat.reduceLT, Nat.reduceAdd, Nat.reduceSub, Nat.reduceLeDiff, decide_true, decide_false, Bool.and_true, Bool.true_and, Bool.and_false, Bool.false_and, Bool.or_false, Bool.false_or, Bool.not_true, Bool.not_false, Nat.zero_add, Nat.sub_zero, Nat.lt_irrefl, Nat.not_lt_zero]
  | 35, _ => simp only [Sh.bt_or, Sh.bt_zero, own_mask, own_shl0, own_shl4, own_shl8, own_shl12, own_shl16, own_shl20, own_shl24, own_shl28, own_shl32, own_shl36, own_shl40, own_shl44, own_shl48, own_ush4, own_ush16, own_ush28, own_ush40, own_ush52, own_V0, own_V1, own_V2, own_V3, own_V4, own_V5, own_V6, own_V7, own_V8, own_V9, own_V10, own_V11, own_V12, own_V13, own_V14, own_V15, own_V16, own_V17, own_V18, own_V19, own_V20, own_V21, own_V22, own_V23, own_V24, own_V25, own_V26, own_V27, own_V28, own_V29, own_V30, own_V31, Sh.bt_big, Nat.reduceLT, Nat.reduceAdd, Nat.reduceSub, Nat.reduceLeDiff, decide_true, decide_false, Bool.and_true, Bool.true_and, Bool.and_false, Bool.false_and, Bool.or_false, Bool.false_or, Bool.not_true, Bool.not_false, Nat.zero_add, Nat.sub_zero, Nat.lt_irrefl, Nat.not_lt_zero]
  | 36, _ => simp only [Sh.bt_or, Sh.bt_zero, own_mask, own_shl0, own_shl4, own_shl8, own_shl12, own_shl16, own_shl20, own_shl24, own_shl28, own_shl32, own_shl36, own_shl40, own_shl44, own_shl48, own_ush4, own_ush16, own_ush28, own_ush40, own_ush52, own_V0, own_V1, own_V2, own_V3, own_V4, own_V5, own_V6, own_V7, own_V8, own_V9, own_V10, own_V11, own_V12, own_V13, own_V14, own_V15, own_V16, own_V17, own_V18, own_V19, own_V20, own_V21, own_V22, own_V23, own_V24, own_V25, own_V26, own_V27, own_V28, own_V29, own_V30, own_V31, Sh.bt_big, Nat.reduceLT, Nat.reduceAdd, Nat.reduceSub, Nat.reduceLeDiff, decide_true, decide_false, Bool.and_true, Bool.true_and, Bool.and_false, Bool.false_and, Bool.or_false, Bool.false_or, Bool.not_true, Bool.not_false, Nat.zero_add, Nat.sub_zero, Nat.lt_irrefl, Nat.not_lt_zero]
  | 37, _ => simp only [Sh.bt_or, Sh.bt_zero, own_mask, own_shl0, own_shl4, own_shl8, own_shl12, own_shl16, own_shl20, own_shl24, own_shl28, own_shl32, own_shl36, own_shl40, own_shl44, own_shl48, own_ush4, own_ush16, own_ush28, own_ush40, own_ush52, own_V0, own_V1, own_V2, own_V3, own_V4, own_V5, own_V6, own_V7, own_V8, own_V9, own_V10, own_V11, own_V12, own_V13, own_V14, own_V15, own_V16, own_V17, own_V18, own_V19, own_V20, own_V21, own_V22, own_V23, own_V24, own_V25, own_V26, own_V27, own_V28, own_V29, own_V30, own_V31, Sh.bt_big, Nat.reduceLT, Nat.reduceAdd, Nat.reduceSub, Nat.reduceLeDiff, decide_true, decide_false, Bool.and_true, Bool.true_and, Bool.and_false, Bool.false_and, Bool.or_false, Bool.false_or, Bool.not_true, Bool.not_false, Nat.zero_add, Nat.sub_zero, Nat.lt_irrefl, Nat.not_lt_zero]
  | 38, _ => simp only [Sh.bt_or, Sh.bt_zero, own_mask, own_shl0, own_shl4, own_shl8, own_shl12, own_shl16, own_shl20, own_shl24, own_shl28, own_shl32, own_shl36, own_shl40, own_shl44, own_shl48, own_ush4, own_ush16, own_ush28, own_ush40, own_ush52, own_V0, own_V1, own_V2, own_V3, own_V4, own_V5, own_V6, own_V7, own_V8, own_V9, own_V10, own_V11, own_V12, own_V13, own_V14, own_V15, own_V16, own_V17, own_V18, own_V19, own_V20, own_V21, own_V22, own_V23, own_V24, own_V25, own_V26, own_V27, own_V28, own_V29, own_V30, own_V31, Sh.bt_big, Nat.reduceLT, Nat.reduceAdd, Nat.reduceSub, Nat.reduceLeDiff, decide_true, decide_false, Bool.and_true, Bool.true_and, Bool.and_false, Bool.false_and, Bool.or_false, Bool.false_or, Bool.not_true, Bool.not_false, Nat.zero_add, Nat.sub_zero, Nat.lt_irrefl, Nat.not_lt_zero]
  | 39, _ => simp only [Sh.bt_or, Sh.bt_zero, own_mask, own_shl0, own_shl4, own_shl8, own_shl12, own_shl16, own_shl20, own_shl24, own_shl28, own_shl32, own_shl36, own_shl40, own_shl44, own_shl48, own_ush4, own_ush16, own_ush28, own_ush40, own_ush52, own_V0, own_V1, own_V2, own_V3, own_V4, own_V5, own_V6, own_V7, own_V8, own_V9, own_V10, own_V11, own_V12, own_V13, own_V14, own_V15, own_V16, own_V17, own_V18, own_V19, own_V20, own_V21, own_V22, own_V23, own_V24, own_V25, own_V26, own_V27, own_V28, own_V29, own_V30, own_V31, Sh.bt_big, Nat.reduceLT, Nat.reduceAdd, Nat.reduceSub, Nat.reduceLeDiff, decide_true, decide_false, Bool.and_true, Bool.true_and, Bool.and_false, Bool.false_and, Bool.or_false, Bool.false_or, Bool.not_true, Bool.not_false, Nat.zero_add, Nat.sub_zero, Nat.lt_irrefl, Nat.not_lt_zero]
  | 40, _ => simp only [Sh.bt_or, Sh.bt_zero, own_mask, own_shl0, own_shl4, own_shl8, own_shl12, own_shl16, own_shl20, own_shl24, own_shl28, own_shl32, own_shl36, own_shl40, own_shl44, own_shl48, own_ush4, own_ush16, own_ush28, own_ush40, own_ush52, own_V0, own_V1, own_V2, own_V3, own_V4, own_V5, own_V6, own_V7, own_V8, own_V9, own_V10, own_V11, own_V12, own_V13, own_V14, own_V15, own_V16, own_V17, own_V18, own_V19, own_V20, own_V21, own_V22, own_V23, own_V24, own_V25, own_V26, own_V27, own_V28, own_V29, own_V30, own_V31, Sh.bt_big, Nat.reduceLT, Nat.reduceAdd, Nat.reduceSub, Nat.reduceLeDiff, decide_true, decide_false, Bool.and_true, Bool.true_and, Bool.and_false, Bool.false_and, Bool.or_false, Bool.false_or, Bool.not_true, Bool.not_false, Nat.zero_add, Nat.sub_zero, Nat.lt_irrefl, Nat.not_lt_zero]
  | 41, _ => simp only [Sh.bt_or, Sh.bt_zero, own_mask, own_shl0, own_shl4, own_shl8, own_shl12, own_shl16, own_shl20, own_shl24, own_shl28, own_shl32, own_shl36, own_shl40, own_shl44, own_shl48, own_ush4, own_ush16, own_ush28, own_ush40, own_ush52, own_V0, own_V1, own_V2, own_V3, own_V4, own_V5, own_V6, own_V7, own_V8, own_V9, own_V10, own_V11, own_V12, own_V13, own_V14, own_V15, own_V16, own_V17, own_V18, own_V19, own_V20, own_V21, own_V22, own_V23, own_V24, own_V25, own_V26, own_V27, own_V28, own_V29, own_V30, own_V31, Sh.bt_big, Nat.reduceLT, Nat.reduceAdd, Nat.reduceSub, Nat.reduceLeDiff, decide_true, decide_false, Bool.and_true, Bool.true_and, Bool.and_false, Bool.false_and, Bool.or_false, Bool.false_or, Bool.not_true, Bool.not_false, Nat.zero_add, Nat.sub_zero, Nat.lt_irrefl, Nat.not_lt_zero]
  | 42, _ => simp only [Sh.bt_or, Sh.bt_zero, own_mask, own_shl0, own_shl4, own_shl8, own_shl12, own_shl16, own_shl20, own_shl24, own_shl28, own_shl32, own_shl36, own_shl40, own_shl44, own_shl48, own_ush4, own_ush16, own_ush28, own_ush40, own_ush52, own_V0, own_V1, own_V2, own_V3, own_V4, own_V5, own_V6, own_V7, own_V8, own_V9, own_V10, own_V11, own_V12, own_V13, own_V14, own_V15, own_V16, own_V17, own_V18, own_V19, own_V20, own_V21, own_V22, own_V23, own_V24, own_V25, own_V26, own_V27, own_V28, own_V29, own_V30, own_V31, Sh.bt_big, Nat.reduceLT, Nat.reduceAdd, Nat.reduceSub, Nat.reduceLeDiff, decide_true, decide_false, Bool.and_true, Bool.true_and, Bool.and_false, Bool.false_and, Bool.or_false, Bool.false_or, Bool.not_true, Bool.not_false, Nat.zero_add, Nat.sub_zero, Nat.lt_irrefl, Nat.not_lt_zero]
  | 43, _ => simp only [Sh.bt_or, Sh.bt_zero, own_mask, own_shl0, own_shl4, own_shl8, own_shl12, own_shl16, own_shl20, own_shl24, own_shl28, own_shl32, own_shl36, own_shl40, own_shl44, own_shl48, own_ush4, own_ush16, own_ush28, own_ush40, own_ush52, own_V0, own_V1, own_V2, own_V3, own_V4, own_V5, own_V6, own_V7, own_V8, own_V9, own_V10, own_V11, own_V12, own_V13, own_V14, own_V15, own_V16, own_V17, own_V18, own_V19, own_V20, own_V21, own_V22, own_V23, own_V24, own_V25, own_V26, own_V27, own_V28, own_V29, own_V30, own_V31, Sh.bt_big, Nat.reduceLT, Nat.reduceAdd, Nat.reduceSub, Nat.reduceLeDiff, decide_true, decide_false, Bool.and_true, Bool.true_and, Bool.and_false, Bool.false_and, Bool.or_false, Bool.false_or, Bool.not_true, Bool.not_false, Nat.zero_add, Nat.sub_zero, Nat.lt_irrefl, Nat.not_lt_zero]
  | 44, _ => simp only [Sh.bt_or, Sh.bt_zero, own_mask, own_shl0, own_shl4, own_shl8, own_shl12, own_shl16, own_shl20, own_shl24, own_shl28, own_shl32, own_shl36, own_shl40, own_shl44, own_shl48, own_ush4, own_ush16, own_ush28, own_ush40, own_ush52, own_V0, own_V1, own_V2, own_V3, own_V4, own_V5, own_V6, own_V7, own_V8, own_V9, own_V10, own_V11, own_V12, own_V13, own_V14, own_V15, own_V16, own_V17, own_V18, own_V19, own_V20, own_V21, own_V22, own_V23, own_V24, own_V25, own_V26, own_V27, own_V28, own_V29, own_V30, own_V31, Sh.bt_big, Nat.reduceLT, Nat.reduceAdd, Nat.reduceSub, Nat.reduceLeDiff, decide_true, decide_false, Bool.and_true, Bool.true_and, Bool.and_false, Bool.false_and, Bool.or_false, Bool.false_or, Bool.not_true, Bool.not_false, Nat.zero_add, Nat.sub_zero, Nat.lt_irrefl, Nat.not_lt_zero]
  | 45, _ => simp only [Sh.bt_or, Sh.bt_zero, own_mask, own_shl0, own_shl4, own_shl8, own_shl12, own_shl16, own_shl20, own_shl24, own_shl28, own_shl32, own_shl36, own_shl40, own_shl44, own_shl48, own_ush4, own_ush16, own_ush28, own_ush40, own_ush52, own_V0, own_V1, own_V2, own_V3, own_V4, own_V5, own_V6, own_V7, own_V8, own_V9, own_V10, own_V11, own_V12, own_V13, own_V14, own_V15, own_V16, own_V17, own_V18, own_V19, own_V20, own_V21, own_V22, own_V23, own_V24, own_V25, own_V26, own_V27, own_V28, own_V29, own_V30, own_V31, Sh.bt_big, Nat.reduceLT, Nat.reduceAdd, Nat.reduceSub, Nat.reduceLeDiff, decide_true, decide_false, Bool.and_true, Bool.true_and, Bool.and_false, Bool.false_and, Bool.or_false, Bool.false_or, Bool.not_true, Bool.not_false, Nat.zero_add, Nat.sub_zero, Nat.lt_irrefl, Nat.not_lt_zero]
  | 46, _ => simp only [Sh.bt_or, Sh.bt_zero, own_mask, own_shl0, own_shl4, own_shl8, own_shl12, own_shl16, own_shl20, own_shl24, own_shl28, own_shl32, own_shl36, own_shl40, own_shl44, own_shl48, own_ush4, own_ush16, own_ush28, own_ush40, own_ush52, own_V0, own_V1, own_V2, own_V3, own_V4, own_V5, own_V6, own_V7, own_V8, own_V9, own_V10, own_V11, own_V12, own_V13, own_V14, own_V15, own_V16, own_V17, own_V18, own_V19, own_V20, own_V21, own_V22, own_V23, own_V24, own_V25, own_V26, own_V27, own_V28, own_V29, own_V30, own_V31, Sh.bt_big, Nat.reduceLT, Nat.reduceAdd, Nat.reduceSub, Nat.reduceLeDiff, decide_true, decide_false, Bool.and_true, Bool.true_and, Bool.and_false, Bool.false_and, Bool.or_false, Bool.false_or, Bool.not_true, Bool.not_false, Nat.zero_add, Nat.sub_zero, Nat.lt_irrefl, Nat.not_lt_zero]
  | 47, _ => simp only [Sh.bt_or, Sh.bt_zero, own_mask, own_shl0, own_shl4, own_shl8, own_shl12, own_shl16, own_shl20, own_shl24, own_shl28, own_shl32, own_shl36, own_shl40, own_shl44, own_shl48, own_ush4, own_ush16, own_ush28, own_ush40, own_ush52, own_V0, own_V1, own_V2, own_V3, own_V4, own_V5, own_V6, own_V7, own_V8, own_V9, own_V10, own_V11, own_V12, own_V13, own_V14, own_V15, own_V16, own_V17, own_V18, own_V19, own_V20, own_V21, own_V22, own_V23, own_V24, own_V25, own_V26, own_V27, own_V28, own_V29, own_V30, own_V31, Sh.bt_big, Nat.reduceLT, Nat.reduceAdd, Nat.reduceSub, Nat.reduceLeDiff, decide_true, decide_false, Bool.and_true, Bool.true_and, Bool.and_false, Bool.false_and, Bool.or_false, Bool.false_or, Bool.not_true, Bool.not_false, Nat.zero_add, Nat.sub_zero, Nat.lt_irrefl, Nat.not_lt_zero]
  | 48, _ => simp only [Sh.bt_or, Sh.bt_zero, own_mask, own_shl0, own_shl4, own_shl8, own_shl12, own_shl16, own_shl20, own_shl24, own_shl28, own_shl32, own_shl36, own_shl40, own_shl44, own_shl48, own_ush4, own_ush16, own_ush28, own_ush40, own_ush52, own_V0, own_V1, own_V2, own_V3, own_V4, own_V5, own_V6, own_V7, own_V8, own_V9, own_V10, own_V11, own_V12, own_V13, own_V14, own_V15, own_V16, own_V17, own_V18, own_V19, own_V20, own_V21, own_V22, own_V23, own_V24, own_V25, own_V26, own_V27, own_V28, own_V29, own_V30, own_V31, Sh.bt_big, Nat.reduceLT, Nat.reduceAdd, Nat.reduceSub, Nat.reduceLeDiff, decide_true, decide_false, Bool.and_true, Bool.true_and, Bool.and_false, Bool.false_and, Bool.or_false, Bool.false_or, Bool.not_true, Bool.not_false, Nat.zero_add, Nat.sub_zero, Nat.lt_irrefl, Nat.not_lt_zero]
  | 49, _ => simp only [Sh.bt_or, Sh.bt_zero, own_mask, own_shl0, own_shl4, own_shl8, own_shl12, own_shl16, own_shl20, own_shl24, own_shl28, own_shl32, own_shl36, own_shl40, own_shl44, own_shl48, own_ush4, own_ush16, own_ush28, own_ush40, own_ush52, own_V0, own_V1, own_V2, own_V3, own_V4, own_V5, own_V6, own_V7, own_V8, own_V9, own_V10, own_V11, own_V12, own_V13, own_V14, own_V15, own_V16, own_V17, own_V18, own_V19, own_V20, own_V21, own_V22, own_V23, own_V24, own_V25, own_V26, own_V27, own_V28, own_V29, own_V30, own_V31, Sh.bt_big, Nat.reduceLT, Nat.reduceAdd, Nat.reduceSub, Nat.reduceLeDiff, decide_true, decide_false, Bool.and_true, Bool.true_and, Bool.and_false, Bool.false_and, Bool.or_false, Bool.false_or, Bool.not_true, Bool.not_false, Nat.zero_add, Nat.sub_zero, Nat.lt_irrefl, Nat.not_lt_zero]
  | 50, _ => simp only [Sh.bt_or, Sh.bt_zero, own_mask, own_shl0, own_shl4, own_shl8, own_shl12, own_shl16, own_shl20, own_shl24, own_shl28, own_shl32, own_shl36, own_shl40, own_shl44, own_shl48, own_ush4, own_ush16, own_ush28, own_ush40, own_ush52, own_V0, own_V1, own_V2, own_V3, own_V4, own_V5, own_V6, own_V7, own_V8, own_V9, own_V10, own_V11, own_V12, own_V13, own_V14, own_V15, own_V16, own_V17, own_V18, own_V19, own_V20, own_V21, own_V22, own_V23, own_V24, own_V25, own_V26, own_V27, own_V28, own_V29, own_V30, own_V31, Sh.bt_big, Nat.reduceLT, Nat.reduceAdd, Nat.reduceSub, Nat.reduceLeDiff, decide_true, decide_false, Bool.and_true, Bool.true_and, Bool.and_false, Bool.false_and, Bool.or_false, Bool.false_or, Bool.not_true, Bool.not_false, Nat.zero_add, Nat.sub_zero, Nat.lt_irrefl, Nat.not_lt_zero]
  | 51, _ => simp only [Sh.bt_or, Sh.bt_zero, own_mask, own_shl0, own_shl4, own_shl8, own_shl12, own_shl16, own_shl20, own_shl24, own_shl28, own_shl32, own_shl36, own_shl40, own_shl44, own_shl48, own_ush4, own_ush16, own_ush28, own_ush40, own_ush52, own_V0, own_V1, own_V2, own_V3, own_V4, own_V5, own_V6, own_V7, own_V8, own_V9, own_V10, own_V11, own_V12, own_V13, own_V14, own_V15, own_V16, own_V17, own_V18, own_V19, own_V20, own_V21, own_V22, own_V23, own_V24, own_V25, own_V26, own_V27, own_V28, own_V29, own_V30, own_V31, Sh.bt_big, Nat.reduceLT, Nat.reduceAdd, Nat.reduceSub, Nat.reduceLeDiff, decide_true, decide_false, Bool.and_true, Bool.true_and, Bool.and_false, Bool.false_and, Bool.or_false, Bool.false_or, Bool.not_true, Bool.not_false, Nat.zero_add, Nat.sub_zero, Nat.lt_irrefl, Nat.not_lt_zero]
  | 52, _ => simp only [Sh.bt_or, Sh.bt_zero, own_mask, own_shl0, own_shl4, own_shl8, own_shl12, own_shl16, own_shl20, own_shl24, own_shl28, own_shl32, own_shl36, own_shl40, own_shl44, own_shl48, own_ush4, own_ush16, own_ush28, own_ush40, own_ush52, own_V0, own_V1, own_V2, own_V3, own_V4, own_V5, own_V6, own_V7, own_V8, own_V9, own_V10, own_V11, own_V12, own_V13, own_V14, own_V15, own_V16, own_V17, own_V18, own_V19, own_V20, own_V21, own_V22, own_V23, own_V24, own_V25, own_V26, own_V27, own_V28, own_V29, own_V30, own_V31, Sh.bt_big, Nat.reduceLT, Nat.reduceAdd, Nat.reduceSub, Nat.reduceLeDiff, decide_true, decide_false, Bool.and_true, Bool.true_and, Bool.and_false, Bool.false_and, Bool.or_false, Bool.false_or, Bool.not_true, Bool.not_false, Nat.zero_add, Nat.sub_zero, Nat.lt_irrefl, Nat.not_lt_zero]
  | 53, _ => simp only [Sh.bt_or, Sh.bt_zero, own_mask, own_shl0, own_shl4, own_shl8, own_shl12, own_shl16, own_shl20, own_shl24, own_shl28, own_shl32, own_shl36, own_shl40, own_shl44, own_shl48, own_ush4, own_ush16, own_ush28, own_ush40, own_ush52, own_V0, own_V1, own_V2, own_V3, own_V4, own_V5, own_V6, own_V7, own_V8, own_V9, own_V10, own_V11, own_V12, own_V13, own_V14, own_V15, own_V16, own_V17, own_V18, own_V19, own_V20, own_V21, own_V22, own_V23, own_V24, own_V25, own_V26, own_V27, own_V28, own_V29, own_V30, own_V31, Sh.bt_big, Nat.reduceLT, Nat.reduceAdd, Nat.reduceSub, Nat.reduceLeDiff, decide_true, decide_false, Bool.and_true, Bool.true_and, Bool.and_false, Bool.false_and, Bool.or_false, Bool.false_or, Bool.not_true, Bool.not_false, Nat.zero_add, Nat.sub_zero, Nat.lt_irrefl, Nat.not_lt_zero]
  | 54, _ => simp only [Sh.bt_or, Sh.bt_zero, own_mask, own_shl0, own_shl4, own_shl8, own_shl12, own_shl16, own_shl20, own_shl24, own_shl28, own_shl32, own_shl36, own_shl40, own_shl44, own_shl48, own_ush4, own_ush16, own_ush28, own_ush40, own_ush52, own_V0, own_V1, own_V2, own_V3, own_V4, own_V5, own_V6, own_V7, own_V8, own_V9, own_V10, own_V11, own_V12, own_V13, own_V14, own_V15, own_V16, own_V17, own_V18, own_V19, own_V20, own_V21, own_V22, own_V23, own_V24, own_V25, own_V26, own_V27, own_V28, own_V29, own_V30, own_V31, Sh.bt_big, Nat.reduceLT, Nat.reduceAdd, Nat.reduceSub, Nat.reduceLeDiff, decide_true, decide_false, Bool.and_true, Bool.true_and, Bool.and_false, Bool.false_and, Bool.or_false, Bool.false_or, Bool.not_true, Bool.not_false, Nat.zero_add, Nat.sub_zero, Nat.lt_irrefl, Nat.not_lt_zero]
  | 55, _ => simp only [Sh.bt_or, Sh.bt_zero, own_mask, own_shl0, own_shl4, own_shl8, own_shl12, own_shl16, own_shl20, own_shl24, own_shl28, own_shl32, own_shl36, own_shl40, own_shl44, own_shl48, own_ush4, own_ush16, own_ush28, own_ush40, own_ush52, own_V0, own_V1, own_V2, own_V3, own_V4, own_V5, own_V6, own_V7, own_V8, own_V9, own_V10, own_V11, own_V12, own_V13, own_V14, own_V15, own_V16, own_V17, own_V18, own_V19, own_V20, own_V21, own_V22, own_V23, own_V24, own_V25, own_V26, own_V27, own_V28, own_V29, own_V30, own_V31, Sh.bt_big, Nat.reduceLT, Nat.reduceAdd, Nat.reduceSub, Nat.reduceLeDiff, decide_true, decide_false, Bool.and_true, Bool.true_and, Bool.and_false, Bool.false_and, Bool.or_false, Bool.false_or, Bool.not_true, Bool.not_false, Nat.zero_add, Nat.sub_zero, Nat.lt_irrefl, Nat.not_lt_zero]
  | 56, _ => simp only [Sh.bt_or, Sh.bt_zero, own_mask, own_shl0, own_shl4, own_shl8, own_shl12, own_shl16, own_shl20, own_shl24, own_shl28, own_shl32, own_shl36, own_shl40, own_shl44, own_shl48, own_ush4, own_ush16, own_ush28, own_ush40, own_ush52, own_V0, own_V1, own_V2, own_V3, own_V4, own_V5, own_V6, own_V7, own_V8, own_V9, own_V10, own_V11, own_V12, own_V13, own_V14, own_V15, own_V16, own_V17, own_V18, own_V19, own_V20, own_V21, own_V22, own_V23, own_V24, own_V25, own_V26, own_V27, own_V28, own_V29, own_V30, own_V31, Sh.bt_big, Nat.reduceLT, Nat.reduceAdd, Nat.reduceSub, Nat.reduceLeDiff, decide_true, decide_false, Bool.and_true, Bool.true_and, Bool.and_false, Bool.false_and, Bool.or_false, Bool.false_or, Bool.not_true, Bool.not_false, Nat.zero_add, Nat.sub_zero, Nat.lt_irrefl, Nat.not_lt_zero]
  | 57, _ => simp only [Sh.bt_or, Sh.bt_zero, own_mask, own_shl0, own_shl4, own_shl8, own_shl12, own_shl16, own_shl20, own_shl24, own_shl28, own_shl32, own_shl36, own_shl40, own_shl44, own_shl48, own_ush4, own_ush16, own_ush28, own_ush40, own_ush52, own_V0, own_V1, own_V2, own_V3, own_V4, own_V5, own_V6, own_V7, own_V8, own_V9, own_V10, own_V11, own_V12, own_V13, own_V14, own_V15, own_V16, own_V17, own_V18, own_V19, own_V20, own_V21, own_V22, own_V23, own_V24, own_V25, own_V26, own_V27, own_V28, own_V29, own_V30, own_V31, Sh.bt_big, Nat.reduceLT, Nat.reduceAdd, Nat.reduceSub, Nat.reduceLeDiff, decide_true, decide_false, Bool.and_true, Bool.true_and, Bool.and_false, Bool.false_and, Bool.or_false, Bool.false_or, Bool.not_true, Bool.not_false, Nat.zero_add, Nat.sub_zero, Nat.lt_irrefl, Nat.not_lt_zero]
  | 58, _ => simp only [Sh.bt_or, Sh.bt_zero, own_mask, own_shl0, own_shl4, own_shl8, own_shl12, own_shl16, own_shl20, own_shl24, own_shl28, own_shl32, own_shl36, own_shl40, own_shl44, own_shl48, own_ush4, own_ush16, own_ush28, own_ush40, own_ush52, own_V0, own_V1, own_V2, own_V3, own_V4, own_V5, own_V6, own_V7, own_V8, own_V9, own_V10, own_V11, own_V12, own_V13, own_V14, own_V15, own_V16, own_V17, own_V18, own_V19, own_V20, own_V21, own_V22, own_V23, own_V24, own_V25, own_V26, own_V27, own_V28, own_V29, own_V30, own_V31, Sh.bt_big, Nat.reduceLT, Nat.reduceAdd, Nat.reduceSub, Nat.reduceLeDiff, decide_true, decide_false, Bool.and_true, Bool.true_and, Bool.and_false, Bool.false_and, Bool.or_false, Bool.false_or, Bool.not_true, Bool.not_false, Nat.zero_add, Nat.sub_zero, Nat.lt_irrefl, Nat.not_lt_zero]
  | 59, _ => simp only [Sh.bt_or, Sh.bt_zero, own_mask, own_shl0, own_shl4, own_shl8, own_shl12, own_shl16, own_shl20, own_shl24, own_shl28, own_shl32, own_shl36, own_shl40, own_shl44, own_shl48, own_ush4, own_ush16, own_ush28, own_ush40, own_ush52, own_V0, own_V1, own_V2, own_V3, own_V4, own_V5, own_V6, own_V7, own_V8, own_V9, own_V10, own_V11, own_V12, own_V13, own_V14, own_V15, own_V16, own_V17, own_V18, own_V19, own_V20, own_V21, own_V22, own_V23, own_V24, own_V25, own_V26, own_V27, own_V28, own_V29, own_V30, own_V31, Sh.bt_big, Nat.reduceLT, Nat.reduceAdd, Nat.reduceSub, Nat.reduceLeDiff, decide_true, decide_false, Bool.and_true, Bool.true_and, Bool.and_false, Bool.false_and, Bool.or_false, Bool.false_or, Bool.not_true, Bool.not_false, Nat.zero_add, Nat.sub_zero, Nat.lt_irrefl, Nat.not_lt_zero]
  | 60, _ => simp only [Sh.bt_or, Sh.bt_zero, own_mask, own_shl0, own_shl4, own_shl8, own_shl12, own_shl16, own_shl20, own_shl24, own_shl28, own_shl32, own_shl36, own_shl40, own_shl44, own_shl48, own_ush4, own_ush16, own_ush28, own_ush40, own_ush52, own_V0, own_V1, own_V2, own_V3, own_V4, own_V5, own_V6, own_V7, own_V8, own_V9, own_V10, own_V11, own_V12, own_V13, own_V14, own_V15, own_V16, own_V17, own_V18, own_V19, own_V20, own_V21, own_V22, own_V23, own_V24, own_V25, own_V26, own_V27, own_V28, own_V29, own_V30, own_V31, Sh.bt_big, Nat.reduceLT, Nat.reduceAdd, Nat.reduceSub, Nat.reduceLeDiff, decide_true, decide_false, Bool.and_true, Bool.true_and, Bool.and_false, Bool.false_and, Bool.or_false, Bool.false_or, Bool.not_true, Bool.not_false, Nat.zero_add, Nat.sub_zero, Nat.lt_irrefl, Nat.not_lt_zero]
  | 61, _ => simp only [Sh.bt_or, Sh.bt_zero, own_mask, own_shl0, own_shl4, own_shl8, own_shl12, own_shl16, own_shl20, own_shl24, own_shl28, own_shl32, own_shl36, own_shl40, own_shl44, own_shl48, own_ush4, own_ush16, own_ush28, own_ush40, own_ush52, own_V0, own_V1, own_V2, own_V3, own_V4, own_V5, own_V6, own_V7, own_V8, own_V9, own_V10, own_V11, own_V12, own_V13, own_V14, own_V15, own_V16, own_V17, own_V18, own_V19, own_V20, own_V21, own_V22, own_V23, own_V24, own_V25, own_V26, own_V27, own_V28, own_V29, own_V30, own_V31, Sh.bt_big, Nat.reduceLT, Nat.reduceAdd, Nat.reduceSub, Nat.reduceLeDiff, decide_true, decide_false, Bool.and_true, Bool.true_and, Bool.and_false, Bool.false_and, Bool.or_false, Bool.false_or, Bool.not_true, Bool.not_false, Nat.zero_add, Nat.sub_zero, Nat.lt_irrefl, Nat.not_lt_zero]
  | 62, _ => simp only [Sh.bt_or, Sh.bt_zero, own_mask, own_shl0, own_shl4, own_shl8, own_shl12, own_shl16, own_shl20, own_shl24, own_shl28, own_shl32, own_shl36, own_shl40, own_shl44, own_shl48, own_ush4, own_ush16, own_ush28, own_ush40, own_ush52, own_V0, own_V1, own_V2, own_V3, own_V4, own_V5, own_V6, own_V7, own_V8, own_V9, own_V10, own_V11, own_V12, own_V13, own_V14, own_V15, own_V16, own_V17, own_V18, own_V19, own_V20, own_V21, own_V22, own_V23, own_V24, own_V25, own_V26, own_V27, own_V28, own_V29, own_V30, own_V31, Sh.bt_big, Nat.reduceLT, Nat.reduceAdd, Nat.reduceSub, Nat.reduceLeDiff, decide_true, decide_false, Bool.and_true, Bool.true_and, Bool.and_false, Bool.false_and, Bool.or_false, Bool.false_or, Bool.not_true, Bool.not_false, Nat.zero_add, Nat.sub_zero, Nat.lt_irrefl, Nat.not_lt_zero]
  | 63, _ => simp only [Sh.bt_or, Sh.bt_zero, own_mask, own_shl0, own_shl4, own_shl8, own_shl12, own_shl16, own_shl20, own_shl24, own_shl28, own_shl32, own_shl36, own_shl40, own_shl44, own_shl48, own_ush4, own_ush16, own_ush28, own_ush40, own_ush52, own_V0, own_V1, own_V2, own_V3, own_V4, own_V5, own_V6, own_V7, own_V8, own_V9, own_V10, own_V11, own_V12, own_V13, own_V14, own_V15, own_V16, own_V17, own_V18, own_V19, own_V20, own_V21, own_V22, own_V23, own_V24, own_V25, own_V26, own_V27, own_V28, own_V29, own_V30, own_V31, Sh.bt_big, Nat.reduceLT, Nat.reduceAdd, Nat.reduceSub, Nat.reduceLeDiff, decide_true, decide_false, Bool.and_true, Bool.true_and, Bool.and_false, Bool.false_and, Bool.or_false, Bool.false_or, Bool.not_true, Bool.not_false, Nat.zero_add, Nat.sub_zero, Nat.lt_irrefl, Nat.not_lt_zero]
  | n + 64, h => exact absurd h (by omega)
theorem own_e4 (w0 w1 w2 w3 : Int64) : own_l4 (own_B w0 w1 w2 w3) = (XT.ushrL w3 16) := by
  refine Sh.bt_ext fun i hi => ?_
  rw [own_l4]
  match i, hi with
  | 0, _ => simp only [Sh.bt_or, Sh.bt_zero, own_mask, own_shl0, own_shl4, own_shl8, own_shl12, own_shl16, own_shl20, own_shl24, own_shl28, own_shl32, own_shl36, own_shl40, own_shl44, own_shl48, own_ush4, own_ush16, own_ush28, own_ush40, own_ush52, own_V0, own_V1, own_V2, own_V3, own_V4, own_V5, own_V6, own_V7, own_V8, own_V9, own_V10, own_V11, own_V12, own_V13, own_V14, own_V15, own_V16, own_V17, own_V18, own_V19, own_V20, own_V21, own_V22, own_V23, own_V24, own_V25, own_V26, own_V27, own_V28, own_V29, own_V30, own_V31, Sh.bt_big, Nat.reduceLT, Nat.reduceAdd, Nat.reduceSub, Nat.reduceLeDiff, decide_true, decide_false, Bool.and_true, Bool.true_and, Bool.and_false, Bool.false_and, Bool.or_false, Bool.false_or, Bool.not_true, Bool.not_false, Nat.zero_add, Nat.sub_zero, Nat.lt_irrefl, Nat.not_lt_zero]
  | 1, _ => simp only [Sh.bt_or, Sh.bt_zero, own_mask, own_shl0, own_shl4, own_shl8, own_shl12, own_shl16, own_shl20, own_shl24, own_shl28, own_shl32, own_shl36, own_shl40, own_shl44, own_shl48, own_ush4, own_ush16, own_ush28, own_ush40, own_ush52, own_V0, own_V1, own_V2, own_V3, own_V4, own_V5, own_V6, own_V7, own_V8, own_V9, own_V10, own_V11, own_V12, own_V13, own_V14, own_V15, own_V16, own_V17, own_V18, own_V19, own_V20, own_V21, own_V22, own_V23, own_V24, own_V25, own_V26, own_V27, own_V28, own_V29, own_V30, own_V31, Sh.bt_big, Nat.reduceLT, Nat.reduceAdd, Nat.reduceSub, Nat.reduceLeDiff, decide_true, decide_false, Bool.and_true, Bool.true_and, Bool.and_false, Bool.false_and, Bool.or_false, Bool.false_or, Bool.not_true, Bool.not_false, Nat.zero_add, Nat.sub_zero, Nat.lt_irrefl, Nat.not_lt_zero]
  | 2, _ => simp only [Sh.bt_or, Sh.bt_zero, own_mask, own_shl0, own_shl4, own_shl8, own_shl12, own_shl16, own_shl20, own_shl24, own_shl28, own_shl32, own_shl36, own_shl40, own_shl44, own_shl48, own_ush4, own_ush16, own_ush28, own_ush40, own_ush52, own_V0, own_V1, own_V2, own_V3, own_V4, own_V5, own_V6, own_V7, own_V8, own_V9, own_V10, own_V11, own_V12, own_V13, own_V14, own_V15, own_V16, own_V17, own_V18, own_V19, own_V20, own_V21, own_V22, own_V23, own_V24, own_V25, own_V26, own_V27, own_V28, own_V29, own_V30, own_V31, Sh.bt_big, Nat.reduceLT, Nat.reduceAdd, Nat.reduceSub, Nat.reduceLeDiff, decide_true, decide_false, Bool.and_true, Bool.true_and, Bool.and_false, Bool.false_and, Bool.or_false, Bool.false_or, Bool.not_true, Bool.not_false, Nat.zero_add, Nat.sub_zero, Nat.lt_irrefl, Nat.not_lt_zero]
  | 3, _ => simp only [Sh.bt_or, Sh.bt_zero, own_mask, own_shl0, own_shl4, own_shl8, own_shl12, own_shl16, own_shl20, own_shl24, own_shl28, own_shl32, own_shl36, own_shl40, own_shl44, own_shl48, own_ush4, own_ush16, own_ush28, own_ush40, own_ush52, own_V0, own_V1, own_V2, own_V3, own_V4, own_V5, own_V6, own_V7, own_V8, own_V9, own_V10, own_V11, own_V12, own_V13, own_V14, own_V15, own_V16, own_V17, own_V18, own_V19, own_V20, own_V21, own_V22, own_V23, own_V24, own_V25, own_V26, own_V27, own_V28, own_V29, own_V30, own_V31, Sh.bt_big, Nat.reduceLT, Nat.reduceAdd, Nat.reduceSub, Nat.reduceLeDiff, decide_true, decide_false, Bool.and_true, Bool.true_and, Bool.and_false, Bool.false_and, Bool.or_false, Bool.false_or, Bool.not_true, Bool.not_false, Nat.zero_add, Nat.sub_zero, Nat.lt_irrefl, Nat.not_lt_zero]
  | 4, _ => simp only [Sh.bt_or, Sh.bt_zero, own_mask, own_shl0, own_shl4, own_shl8, own_shl12, own_shl16, own_shl20, own_shl24, own_shl28, own_shl32, own_shl36, own_shl40, own_shl44, own_shl48, own_ush4, own_ush16, own_ush28, own_ush40, own_ush52, own_V0, own_V1, own_V2, own_V3, own_V4, own_V5, own_V6, own_V7, own_V8, own_V9, own_V10, own_V11, own_V12, own_V13, own_V14, own_V15, own_V16, own_V17, own_V18, own_V19, own_V20, own_V21, own_V22, own_V23, own_V24, own_V25, own_V26, own_V27, own_V28, own_V29, own_V30, own_V31, Sh.bt_big, Nat.reduceLT, Nat.reduceAdd, Nat.reduceSub, Nat.reduceLeDiff, decide_true, decide_false, Bool.and_true, Bool.true_and, Bool.and_false, Bool.false_and, Bool.or_false, Bool.false_or, Bool.not_true, Bool.not_false, Nat.zero_add, Nat.sub_zero, Nat.lt_irrefl, Nat.not_lt_zero]
  | 5, _ => simp only [Sh.bt_or, Sh.bt_zero, own_mask, own_shl0, own_shl4, own_shl8, own_shl12, own_shl16, own_shl20, own_shl24, own_shl28, own_shl32, own_shl36, own_shl40, own_shl44, own_shl48, own_ush4, own_ush16, own_ush28, own_ush40, own_ush52, own_V0, own_V1, own_V2, own_V3, own_V4, own_V5, own_V6, own_V7, own_V8, own_V9, own_V10, own_V11, own_V12, own_V13, own_V14, own_V15, own_V16, own_V17, own_V18, own_V19, own_V20, own_V21, own_V22, own_V23, own_V24, own_V25, own_V26, own_V27, own_V28, own_V29, own_V30, own_V31, Sh.bt_big, Nat.reduceLT, Nat.reduceAdd, Nat.reduceSub, Nat.reduceLeDiff, decide_true, decide_false, Bool.and_true, Bool.true_and, Bool.and_false, Bool.false_and, Bool.or_false, Bool.false_or, Bool.not_true, Bool.not_false, Nat.zero_add, Nat.sub_zero, Nat.lt_irrefl, Nat.not_lt_zero]
  | 6, _ => simp only [Sh.bt_or, Sh.bt_zero, own_mask, own_shl0, own_shl4, own_shl8, own_shl12, own_shl16, own_shl20, own_shl24, own_shl28, own_shl32, own_shl36, own_shl40, own_shl44, own_shl48, own_ush4, own_ush16, own_ush28, own_ush40, own_ush52, own_V0, own_V1, own_V2, own_V3, own_V4, own_V5, own_V6, own_V7, own_V8, own_V9, own_V10, own_V11, own_V12, own_V13, own_V14, own_V15, own_V16, own_V17, own_V18, own_V19, own_V20, own_V21, own_V22, own_V23, own_V24, own_V25, own_V26, own_V27, own_V28, own_V29, own_V30, own_V31, Sh.bt_big, Nat.reduceLT, Nat.reduceAdd, Nat.reduceSub, Nat.reduceLeDiff, decide_true, decide_false, Bool.and_true, Bool.true_and, Bool.and_false, Bool.false_and, Bool.or_false, Bool.false_or, Bool.not_true, Bool.not_false, Nat.zero_add, Nat.sub_zero, Nat.lt_irrefl, Nat.not_lt_zero]
  | 7, _ => simp only [Sh.bt_or, Sh.bt_zero, own_mask, own_shl0, own_shl4, own_shl8, own_shl12, own_shl16, own_shl20, own_shl24, own_shl28, own_shl32, own_shl36, own_shl40, own_shl44, own_shl48, own_ush4, own_ush16, own_ush28, own_ush40, own_ush52, own_V0, own_V1, own_V2, own_V3, own_V4, own_V5, own_V6, own_V7, own_V8, own_V9, own_V10, own_V11, own_V12, own_V13, own_V14, own_V15, own_V16, own_V17, own_V18, own_V19, own_V20, own_V21, own_V22, own_V23, own_V24, own_V25, own_V26, own_V27, own_V28, own_V29, own_V30, own_V31, Sh.bt_big, Nat.reduceLT, Nat.reduceAdd, Nat.reduceSub, Nat.reduceLeDiff, decide_true, decide_false, Bool.and_true, Bool.true_and, Bool.and_false, Bool.false_and, Bool.or_false, Bool.false_or, Bool.not_true, Bool.not_false, Nat.zero_add, Nat.sub_zero, Nat.lt_irrefl, Nat.not_lt_zero]
  | 8, _ => simp only [Sh.bt_or, Sh.bt_zero, own_mask, own_shl0, own_shl4, own_shl8, own_shl12, own_shl16, own_shl20, own_shl24, own_shl28, own_shl32, own_shl36, own_shl40, own_shl44, own_shl48, own_ush4, own_ush16, own_ush28, own_ush40, own_ush52, own_V0, own_V1, own_V2, own_V3, own_V4, own_V5, own_V6, own_V7, own_V8, own_V9, own_V10, own_V11, own_V12, own_V13, own_V14, own_V15, own_V16, own_V17, own_V18, own_V19, own_V20, own_V21, own_V22, own_V23, own_V24, own_V25, own_V26, own_V27, own_V28, own_V29, own_V30, own_V31, Sh.bt_big, Nat.reduceLT, Nat.reduceAdd, Nat.reduceSub, Nat.reduceLeDiff, decide_true, decide_false, Bool.and_true, Bool.true_and, Bool.and_false, Bool.false_and, Bool.or_false, Bool.false_or, Bool.not_true, Bool.not_false, Nat.zero_add, Nat.sub_zero, Nat.lt_irrefl, Nat.not_lt_zero]
  | 9, _ => simp only [Sh.bt_or, Sh.bt_zero, own_mask, own_shl0, own_shl4, own_shl8, own_shl12, own_shl16, own_shl20, own_shl24, own_shl28, own_shl32, own_shl36, own_shl40, own_shl44, own_shl48, own_ush4, own_ush16, own_ush28, own_ush40, own_ush52, own_V0, own_V1, own_V2, own_V3, own_V4, own_V5, own_V6, own_V7, own_V8, own_V9, own_V10, own_V11, own_V12, own_V13, own_V14, own_V15, own_V16, own_V17, own_V18, own_V19, own_V20, own_V21, own_V22, own_V23, own_V24, own_V25, own_V26, own_V27, own_V28, own_V29, own_V30, own_V31, Sh.bt_big, Nat.reduceLT, Nat.reduceAdd, Nat.reduceSub, Nat.reduceLeDiff, decide_true, decide_false, Bool.and_true, Bool.true_and, Bool.and_false, Bool.false_and, Bool.or_false, Bool.false_or, Bool.not_true, Bool.not_false, Nat.zero_add, Nat.sub_zero, Nat.lt_irrefl, Nat.not_lt_zero]
  | 10, _ => simp only [Sh.bt_or, Sh.bt_zero, own_mask, own_shl0, own_shl4, own_shl8, own_shl12, own_shl16, own_shl20, own_shl24, own_shl28, own_shl32, own_shl36, own_shl40, own_shl44, own_shl48, own_ush4, own_ush16, own_ush28, own_ush40, own_ush52, own_V0, own_V1, own_V2, own_V3, own_V4, own_V5, own_V6, own_V7, own_V8, own_V9, own_V10, own_V11, own_V12, own_V13, own_V14, own_V15, own_V16, own_V17, own_V18, own_V19, own_V20, own_V21, own_V22, own_V23, own_V24, own_V25, own_V26, own_V27, own_V28, own_V29, own_V30, own_V31, Sh.bt_big, Nat.reduceLT, Nat.reduceAdd, Nat.reduceSub, Nat.reduceLeDiff, decide_true, decide_false, Bool.and_true, Bool.true_and, Bool.and_false, Bool.false_and, Bool.or_false, Bool.false_or, Bool.not_true, Bool.not_false, Nat.zero_add, Nat.sub_zero, Nat.lt_irrefl, Nat.not_lt_zero]
  | 11, _ => simp only [Sh.bt_or, Sh.bt_zero, own_mask, own_shl0, own_shl4, own_shl8, own_shl12, own_shl16, own_shl20, own_shl24, own_shl28, own_shl32, own_shl36, own_shl40, own_shl44, own_shl48, own_ush4, own_ush16, own_ush28, own_ush40, own_ush52, own_V0, own_V1, own_V2, own_V3, own_V4, own_V5, own_V6, own_V7, own_V8, own_V9, own_V10, own_V11, own_V12, own_V13, own_V14, own_V15, own_V16, own_V17, own_V18, own_V19, own_V20, own_V21, own_V22, own_V23, own_V24, own_V25, own_V26, own_V27, own_V28, own_V29, own_V30, own_V31, Sh.bt_big, Nat.reduceLT, Nat.reduceAdd, Nat.reduceSub, Nat.reduceLeDiff, decide_true, decide_false, Bool.and_true, Bool.true_and, Bool.and_false, Bool.false_and, Bool.or_false, Bool.false_or, Bool.not_true, Bool.not_false, Nat.zero_add, Nat.sub_zero, Nat.lt_irrefl, Nat.not_lt_zero]
  | 12, _ => simp only [Sh.bt_or, Sh.bt_zero, own_mask, own_shl0, own_shl4, own_shl8, own_shl12, own_shl16, own_shl20, own_shl24, own_shl28, own_shl32, own_shl36, own_shl40, own_shl44, own_shl48, own_ush4, own_ush16, own_ush28, own_ush40, own_ush52, own_V0, own_V1, own_V2, own_V3, own_V4, own_V5, own_V6, own_V7, own_V8, own_V9, own_V10, own_V11, own_V12, own_V13, own_V14, own_V15, own_V16, own_V17, own_V18, own_V19, own_V20, own_V21, own_V22, own_V23, own_V24, own_V25, own_V26, own_V27, own_V28, own_V29, own_V30, own_V31, Sh.bt_big, Nat.reduceLT, Nat.reduceAdd, Nat.reduceSub, Nat.reduceLeDiff, decide_true, decide_false, Bool.and_true, Bool.true_and, Bool.and_false, Bool.false_and, Bool.or_false, Bool.false_or, Bool.not_true, Bool.not_false, Nat.zero_add, Nat.sub_zero, Nat.lt_irrefl, Nat.not_lt_zero]
  | 13, _ => simp only [Sh.bt_or, Sh.bt_zero, own_mask, own_shl0, own_shl4, own_shl8, own_shl12, own_shl16, own_shl20, own_shl24, own_shl28, own_shl32, own_shl36, own_shl40, own_shl44, own_shl48, own_ush4, own_ush16, own_ush28, own_ush40, own_ush52, own_V0, own_V1, own_V2, own_V3, own_V4, own_V5, own_V6, own_V7, own_V8, own_V9, own_V10, own_V11, own_V12, own_V13, own_V14, own_V15, own_V16, own_V17, own_V18, own_V19, own_V20, own_V21, own_V22, own_V23, own_V24, own_V25, own_V26, own_V27, own_V28, own_V29, own_V30, own_V31, Sh.bt_big, Nat.reduceLT, Nat.reduceAdd, Nat.reduceSub, Nat.reduceLeDiff, decide_true, decide_false, Bool.and_true, Bool.true_and, Bool.and_false, Bool.false_and, Bool.or_false, Bool.false_or, Bool.not_true, Bool.not_false, Nat.zero_add, Nat.sub_zero, Nat.lt_irrefl, Nat.not_lt_zero]
  | 14, _ => simp only [Sh.bt_or, Sh.bt_zero, own_mask, own_shl0, own_shl4, own_shl8, own_shl12, own_shl16, own_shl20, own_shl24, own_shl28, own_shl32, own_shl36, own_shl40, own_shl44, own_shl48, own_ush4, own_ush16, own_ush28, own_ush40, own_ush52, own_V0, own_V1, own_V2, own_V3, own_V4, own_V5, own_V6, own_V7, own_V8, own_V9, own_V10, own_V11, own_V12, own_V13, own_V14, own_V15, own_V16, own_V17, own_V18, own_V19, own_V20, own_V21, own_V22, own_V23, own_V24, own_V25, own_V26, own_V27, own_V28, own_V29, own_V30, own_V31, Sh.bt_big, Nat.reduceLT, Nat.reduceAdd, Nat.reduceSub, Nat.reduceLeDiff, decide_true, decide_false, Bool.and_true, Bool.true_and, Bool.and_false, Bool.false_and, Bool.or_false, Bool.false_or, Bool.not_true, Bool.not_false, Nat.zero_add, Nat.sub_zero, Nat.lt_irrefl, Nat.not_lt_zero]
  | 15, _ => simp only [Sh.bt_or, Sh.bt_zero, own_mask, own_shl0, own_shl4, own_shl8, own_shl12, own_shl16, own_shl20, own_shl24, own_shl28, own_shl32, own_shl36, own_shl40, own_shl44, own_shl48, own_ush4, own_ush16, own_ush28, own_ush40, own_ush52, own_V0, own_V1, own_V2, own_V3, own_V4, own_V5, own_V6, own_V7, own_V8, own_V9, own_V10, own_V11, own_V12, own_V13, own_V14, own_V15, own_V16, own_V17, own_V18, own_V19, own_V20, own_V21, own_V22, own_V23, own_V24, own_V25, own_V26, own_V27, own_V28, own_V29, own_V30, own_V31, Sh.bt_big, Nat.reduceLT, Nat.reduceAdd, Nat.reduceSub, Nat.reduceLeDiff, decide_true, decide_false, Bool.and_true, Bool.true_and, Bool.and_false, Bool.false_and, Bool.or_false, Bool.false_or, Bool.not_true, Bool.not_false, Nat.zero_add, Nat.sub_zero, Nat.lt_irrefl, Nat.not_lt_zero]
  | 16, _ => simp only [Sh.bt_or, Sh.bt_zero, own_mask, own_shl0, own_shl4, own_shl8, own_shl12, own_shl16, own_shl20, own_shl24, own_shl28, own_shl32, own_shl36, own_shl40, own_shl44, own_shl48, own_ush4, own_ush16, own_ush28, own_ush40, own_ush52, own_V0, own_V1, own_V2, own_V3, own_V4, own_V5, own_V6, own_V7, own_V8, own_V9, own_V10, own_V11, own_V12, own_V13, own_V14, own_V15, own_V16, own_V17, own_V18, own_V19, own_V20, own_V21, own_V22, own_V23, own_V24, own_V25, own_V26, own_V27, own_V28, own_V29, own_V30, own_V31, Sh.bt_big, Nat.reduceLT, Nat.reduceAdd, Nat.reduceSub, Nat.reduceLeDiff, decide_true, decide_false, Bool.and_true, Bool.true_and, Bool.and_false, Bool.false_and, Bool.or_false, Bool.false_or, Bool.not_true, Bool.not_false, Nat.zero_add, Nat.sub_zero, Nat.lt_irrefl, Nat.not_lt_zero]
  | 17, _ => simp only [Sh.bt_or, Sh.bt_zero, own_mask, own_shl0, own_shl4, own_shl8, own_shl12, own_shl16, own_shl20, own_shl24, own_shl28, own_shl32, own_shl36, own_shl40, own_shl44, own_shl48, own_ush4, own_ush16, own_ush28, own_ush40, own_ush52, own_V0, own_V1, own_V2, own_V3, own_V4, own_V5, own_V6, own_V7, own_V8, own_V9, own_V10, own_V11, own_V12, own_V13, own_V14, own_V15, own_V16, own_V17, own_V18, own_V19, own_V20, own_V21, own_V22, own_V23, own_V24, own_V25, own_V26, own_V27, own_V28, own_V29, own_V30, own_V31, Sh.bt_big, Nat.reduceLT, Nat.reduceAdd, Nat.reduceSub, Nat.reduceLeDiff, decide_true, decide_false, Bool.and_true, Bool.true_and, Bool.and_false, Bool.false_and, Bool.or_false, Bool.false_or, Bool.not_true, Bool.not_false, Nat.zero_add, Nat.sub_zero, Nat.lt_irrefl, Nat.not_lt_zero]
  | 18, _ => simp only [Sh.bt_or, Sh.bt_zero, own_mask, own_shl0, own_shl4, own_shl8, own_shl12, own_shl16, own_shl20, own_shl24, own_shl28, own_shl32, own_shl36, own_shl40, own_shl44, own_shl48, own_ush4, own_ush16, own_ush28, own_ush40, own_ush52, own_V0, own_V1, own_V2, own_V3, own_V4, own_V5, own_V6, own_V7, own_V8, own_V9, own_V10, own_V11, own_V12, own_V13, own_V14, own_V15, own_V16, own_V17, own_V18, own_V19, own_V20, own_V21, own_V22, own_V23, own_V24, own_V25, own_V26, own_V27, own_V28, own_V29, own_V30, own_V31, Sh.bt_big, Nat.reduceLT, Nat.reduceAdd, Nat.reduceSub, Nat.reduceLeDiff, decide_true, decide_false, Bool.and_true, Bool.true_and, Bool.and_false, Bool.false_and, Bool.or_false, Bool.false_or, Bool.not_true, Bool.not_false, Nat.zero_add, Nat.sub_zero, Nat.lt_irrefl, Nat.not_lt_zero]
  | 19, _ => simp only [Sh.bt_or, Sh.bt_zero, own_mask, own_shl0, own_shl4, own_shl8, own_shl12, own_shl16, own_shl20, own_shl24, own_shl28, own_shl32, own_shl36, own_shl40, own_shl44, own_shl48, own_ush4, own_ush16, own_ush28, own_ush40, own_ush52, own_V0, own_V1, own_V2, own_V3, own_V4, own_V5, own_V6, own_V7, own_V8, own_V9, own_V10, own_V11, own_V12, own_V13, own_V14, own_V15, own_V16, own_V17, own_V18, own_V19, own_V20, own_V21, own_V22, own_V23, own_V24, own_V25, own_V26, own_V27, own_V28, own_V29, own_V30, own_V31, Sh.bt_big, Nat.reduceLT, Nat.reduceAdd, Nat.reduceSub, Nat.reduceLeDiff, decide_true, decide_false, Bool.and_true, Bool.true_and, Bool.and_false, Bool.false_and, Bool.or_false, Bool.false_or, Bool.not_true, Bool.not_false, Nat.zero_add, Nat.sub_zero, Nat.lt_irrefl, Nat.not_lt_zero]
  | 20, _ => simp only [Sh.bt_or, Sh.bt_zero, own_mask, own_shl0, own_shl4, own_shl8, own_shl12, own_shl16, own_shl20, own_shl24, own_shl28, own_shl32, own_shl36, own_shl40, own_shl44, own_shl48, own_ush4, own_ush16, own_ush28, own_ush40, own_ush52, own_V0, own_V1, own_V2, own_V3, own_V4, own_V5, own_V6, own_V7, own_V8, own_V9, own_V10, own_V11, own_V12, own_V13, own_V14, own_V15, own_V16, own_V17, own_V18, own_V19, own_V20, own_V21, own_V22, own_V23, own_V24, own_V25, own_V26, own_V27, own_V28, own_V29, own_V30, own_V31, Sh.bt_big, Nat.reduceLT, Nat.reduceAdd, Nat.reduceSub, Nat.reduceLeDiff, decide_true, decide_false, Bool.and_true, Bool.true_and, Bool.and_false, Bool.false_and, Bool.or_false, Bool.false_or, Bool.not_true, Bool.not_false, Nat.zero_add, Nat.sub_zero, Nat.lt_irrefl, Nat.not_lt_zero]
  | 21, _ => simp only [Sh.bt_or, Sh.bt_zero, own_mask, own_shl0, own_shl4, own_shl8, own_shl12, own_shl16, own_shl20, own_shl24, own_shl28, own_shl32, own_shl36, own_shl40, own_shl44, own_shl48, own_ush4, own_ush16, own_ush28, own_ush40, own_ush52, own_V0, own_V1, own_V2, own_V3, own_V4, own_V5, own_V6, own_V7, own_V8, own_V9, own_V10, own_V11, own_V12, own_V13, own_V14, own_V15, own_V16, own_V17, own_V18, own_V19, own_V20, own_V21, own_V22, own_V23, own_V24, own_V25, own_V26, own_V27, own_V28, own_V29, own_V30, own_V31, Sh.bt_big, Nat.reduceLT, Nat.reduceAdd, Nat.reduceSub, Nat.reduceLeDiff, decide_true, decide_false, Bool.and_true, Bool.true_and, Bool.and_false, Bool.false_and, Bool.or_false, Bool.false_or, Bool.not_true, Bool.not_false, Nat.zero_add, Nat.sub_zero, Nat.lt_irrefl, Nat.not_lt_zero]
  | 22, _ => simp only [Sh.bt_or, Sh.bt_zero, own_mask, own_shl0, own_shl4, own_shl8, own_shl12, own_shl16, own_shl20, own_shl24, own_shl28, own_shl32, own_shl36, own_shl40, own_shl44, own_shl48, own_ush4, own_ush16, own_ush28, own_ush40, own_ush52, own_V0, own_V1, own_V2, own_V3, own_V4, own_V5, own_V6, own_V7, own_V8, own_V9, own_V10, own_V11, own_V12, own_V13, own_V14, own_V15, own_V16, own_V17, own_V18, own_V19, own_V20, own_V21, own_V22, own_V23, own_V24, own_V25, own_V26, own_V27, own_V28, own_V29, own_V30, own_V31, Sh.bt_big, Nat.reduceLT, Nat.reduceAdd, Nat.reduceSub, Nat.reduceLeDiff, decide_true, decide_false, Bool.and_true, Bool.true_and, Bool.and_false, Bool.false_and, Bool.or_false, Bool.false_or, Bool.not_true, Bool.not_false, Nat.zero_add, Nat.sub_zero, Nat.lt_irrefl, Nat.not_lt_zero]
  | 23, _ => simp only [Sh.bt_or, Sh.bt_zero, own_mask, own_shl0, own_shl4, own_shl8, own_shl12, own_shl16, own_shl20, own_shl24, own_shl28, own_shl32, own_shl36, own_shl40, own_shl44, own_shl48, own_ush4, own_ush16, own_ush28, own_ush40, own_ush52, own_V0, own_V1, own_V2, own_V3, own_V4, own_V5, own_V6, own_V7, own_V8, own_V9, own_V10, own_V11, own_V12, own_V13, own_V14, own_V15, own_V16, own_V17, own_V18, own_V19, own_V20, own_V21, own_V22, own_V23, own_V24, own_V25, own_V26, own_V27, own_V28, own_V29, own_V30, own_V31, Sh.bt_big, Nat.reduceLT, Nat.reduceAdd, Nat.reduceSub, Nat.reduceLeDiff, decide_true, decide_false, Bool.and_true, Bool.true_and, Bool.and_false, Bool.false_and, Bool.or_false, Bool.false_or, Bool.not_true, Bool.not_false, Nat.zero_add, Nat.sub_zero, Nat.lt_irrefl, Nat.not_lt_zero]
  | 24, _ => simp only [Sh.bt_or, Sh.bt_zero, own_mask, own_shl0, own_shl4, own_shl8, own_shl12, own_shl16, own_shl20, own_shl24, own_shl28, own_shl32, own_shl36, own_shl40, own_shl44, own_shl48, own_ush4, own_ush16, own_ush28, own_ush40, own_ush52, own_V0, own_V1, own_V2, own_V3, own_V4, own_V5, own_V6, own_V7, own_V8, own_V9, own_V10, own_V11, own_V12, own_V13, own_V14, own_V15, own_V16, own_V17, own_V18, own_V19, own_V20, own_V21, own_V22, own_V23, own_V24, own_V25, own_V26, own_V27, own_V28, own_V29, own_V30, own_V31, Sh.bt_big, Nat.reduceLT, Nat.reduceAdd, Nat.reduceSub, Nat.reduceLeDiff, decide_true, decide_false, Bool.and_true, Bool.true_and, Bool.and_false, Bool.false_and, Bool.or_false, Bool.false_or, Bool.not_true, Bool.not_false, Nat.zero_add, Nat.sub_zero, Nat.lt_irrefl, Nat.not_lt_zero]
  | 25, _ => simp only [Sh.bt_or, Sh.bt_zero, own_mask, own_shl0, own_shl4, own_shl8, own_shl12, own_shl16, own_shl20, own_shl24, own_shl28, own_shl32, own_shl36, own_shl40, own_shl44, own_shl48, own_ush4, own_ush16, own_ush28, own_ush40, own_ush52, own_V0, own_V1, own_V2, own_V3, own_V4, own_V5, own_V6, own_V7, own_V8, own_V9, own_V10, own_V11, own_V12, own_V13, own_V14, own_V15, own_V16, own_V17, own_V18, own_V19, own_V20, own_V21, own_V22, own_V23, own_V24, own_V25, own_V26, own_V27, own_V28, own_V29, own_V30, own_V31, Sh.bt_big, Nat.reduceLT, Nat.reduceAdd, Nat.reduceSub, Nat.reduceLeDiff, decide_true, decide_false, Bool.and_true, Bool.true_and, Bool.and_false, Bool.false_and, Bool.or_false, Bool.false_or, Bool.not_true, Bool.not_false, Nat.zero_add, Nat.sub_zero, Nat.lt_irrefl, Nat.not_lt_zero]
  | 26, _ => simp only [Sh.bt_or, Sh.bt_zero, own_mask, own_shl0, own_shl4, own_shl8, own_shl12, own_shl16, own_shl20, own_shl24, own_shl28, own_shl32, own_shl36, own_shl40, own_shl44, own_shl48, own_ush4, own_ush16, own_ush28, own_ush40, own_ush52, own_V0, own_V1, own_V2, own_V3, own_V4, own_V5, own_V6, own_V7, own_V8, own_V9, own_V10, own_V11, own_V12, own_V13, own_V14, own_V15, own_V16, own_V17, own_V18, own_V19, own_V20, own_V21, own_V22, own_V23, own_V24, own_V25, own_V26, own_V27, own_V28, own_V29, own_V30, own_V31, Sh.bt_big, Nat.reduceLT, Nat.reduceAdd, Nat.reduceSub, Nat.reduceLeDiff, decide_true, decide_false, Bool.and_true, Bool.true_and, Bool.and_false, Bool.false_and, Bool.or_false, Bool.false_or, Bool.not_true, Bool.not_false, Nat.zero_add, Nat.sub_zero, Nat.lt_irrefl, Nat.not_lt_zero]
  | 27, _ => simp only [Sh.bt_or, Sh.bt_zero, own_mask, own_shl0, own_shl4, own_shl8, own_shl12, own_shl16, own_shl20, own_shl24, own_shl28, own_shl32, own_shl36, own_shl40, own_shl44, own_shl48, own_ush4, own_ush16, own_ush28, own_ush40, own_ush52, own_V0, own_V1, own_V2, own_V3, own_V4, own_V5, own_V6, own_V7, own_V8, own_V9, own_V10, own_V11, own_V12, own_V13, own_V14, own_V15, own_V16, own_V17, own_V18, own_V19, own_V20, own_V21, own_V22, own_V23, own_V24, own_V25, own_V26, own_V27, own_V28, own_V29, own_V30, own_V31, Sh.bt_big, Nat.reduceLT, Nat.reduceAdd, Nat.reduceSub, Nat.reduceLeDiff, decide_true, decide_false, Bool.and_true, Bool.true_and, Bool.and_false, Bool.false_and, Bool.or_false, Bool.false_or, Bool.not_true, Bool.not_false, Nat.zero_add, Nat.sub_zero, Nat.lt_irrefl, Nat.not_lt_zero]
  | 28, _ => simp only [Sh.bt_or, Sh.bt_zero, own_mask, own_shl0, own_shl4, own_shl8, own_shl12, own_shl16, own_shl20, own_shl24, own_shl28, own_shl32, own_shl36, own_shl40, own_shl44, own_shl48, own_ush4, own_ush16, own_ush28, own_ush40, own_ush52, own_V0, own_V1, own_V2, own_V3, own_V4, own_V5, own_V6, own_V7, own_V8, own_V9, own_V10, own_V11, own_V12, own_V13, own_V14, own_V15, own_V16, own_V17, own_V18, own_V19, own_V20, own_V21, own_V22, own_V23, own_V24, own_V25, own_V26, own_V27, own_V28, own_V29, own_V30, own_V31, Sh.bt_big, Nat.reduceLT, Nat.reduceAdd, Nat.reduceSub, Nat.reduceLeDiff, decide_true, decide_false, Bool.and_true, Bool.true_and, Bool.and_false, Bool.false_and, Bool.or_false, Bool.false_or, Bool.not_true, Bool.not_false, Nat.zero_add, Nat.sub_zero, Nat.lt_irrefl, Nat.not_lt_zero]
  | 29, _ => simp only [Sh.bt_or, Sh.bt_zero, own_mask, own_shl0, own_shl4, own_shl8, own_shl12, own_shl16, own_shl20, own_shl24, own_shl28, own_shl32, own_shl36, own_shl40, own_shl44, own_shl48, own_ush4, own_ush16, own_ush28, own_ush40, own_ush52, own_V0, own_V1, own_V2, own_V3, own_V4, own_V5, own_V6, own_V7, own_V8, own_V9, own_V10, own_V11, own_V12, own_V13, own_V14, own_V15, own_V16, own_V17, own_V18, own_V19, own_V20, own_V21, own_V22, own_V23, own_V24, own_V25, own_V26, own_V27, own_V28, own_V29, own_V30, own_V31, Sh.bt_big, Nat.reduceLT, Nat.reduceAdd, Nat.reduceSub, Nat.reduceLeDiff, decide_true, decide_false, Bool.and_true, Bool.true_and, Bool.and_false, Bool.false_and, Bool.or_false, Bool.false_or, Bool.not_true, Bool.not_false, Nat.zero_add, Nat.sub_zero, Nat.lt_irrefl, Nat.not_lt_zero]
  | 30, _ => simp only [Sh.bt_or, Sh.bt_zero, own_mask, own_shl0, own_shl4, own_shl8, own_shl12, own_shl16, own_shl20, own_shl24, own_shl28, own_shl32, own_shl36, own_shl40, own_shl44, own_shl48, own_ush4, own_ush16, own_ush28, own_ush40, own_ush52, own_V0, own_V1, own_V2, own_V3, own_V4, own_V5, own_V6, own_V7, own_V8, own_V9, own_V10, own_V11, own_V12, own_V13, own_V14, own_V15, own_V16, own_V17, own_V18, own_V19, own_V20, own_V21, own_V22, own_V23, own_V24, own_V25, own_V26, own_V27, own_V28, own_V29, own_V30, own_V31, Sh.bt_big, Nat.reduceLT, Nat.reduceAdd, Nat.reduceSub, Nat.reduceLeDiff, decide_true, decide_false, Bool.and_true, Bool.true_and, Bool.and_false, Bool.false_and, Bool.or_false, Bool.false_or, Bool.not_true, Bool.not_false, Nat.zero_add, Nat.sub_zero, Nat.lt_irrefl, Nat.not_lt_zero]
  | 31, _ => simp only [Sh.bt_or, Sh.bt_zero, own_mask, own_shl0, own_shl4, own_shl8, own_shl12, own_shl16, own_shl20, own_shl24, own_shl28, own_shl32, own_shl36, own_shl40, own_shl44, own_shl48, own_ush4, own_ush16, own_ush28, own_ush40, own_ush52, own_V0, own_V1, own_V2, own_V3, own_V4, own_V5, own_V6, own_V7, own_V8, own_V9, own_V10, own_V11, own_V12, own_V13, own_V14, own_V15, own_V16, own_V17, own_V18, own_V19, own_V20, own_V21, own_V22, own_V23, own_V24, own_V25, own_V26, own_V27, own_V28, own_V29, own_V30, own_V31, Sh.bt_big, Nat.reduceLT, Nat.reduceAdd, Nat.reduceSub, Nat.reduceLeDiff, decide_true, decide_false, Bool.and_true, Bool.true_and, Bool.and_false, Bool.false_and, Bool.or_false, Bool.false_or, Bool.not_true, Bool.not_false, Nat.zero_add, Nat.sub_zero, Nat.lt_irrefl, Nat.not_lt_zero]
  | 32, _ => simp only [Sh.bt_or, Sh.bt_zero, own_mask, own_shl0, own_shl4, own_shl8, own_shl12, own_shl16, own_shl20, own_shl24, own_shl28, own_shl32, own_shl36, own_shl40, own_shl44, own_shl48, own_ush4, own_ush16, own_ush28, own_ush40, own_ush52, own_V0, own_V1, own_V2, own_V3, own_V4, own_V5, own_V6, own_V7, own_V8, own_V9, own_V10, own_V11, own_V12, own_V13, own_V14, own_V15, own_V16, own_V17, own_V18, own_V19, own_V20, own_V21, own_V22, own_V23, own_V24, own_V25, own_V26, own_V27, own_V28, own_V29, own_V30, own_V31, Sh.bt_big, Nat.reduceLT, Nat.reduceAdd, Nat.reduceSub, Nat.reduceLeDiff, decide_true, decide_false, Bool.and_true, Bool.true_and, Bool.and_false, Bool.false_and, Bool.or_false, Bool.false_or, Bool.not_true, Bool.not_false, Nat.zero_add, Nat.sub_zero, Nat.lt_irrefl, Nat.not_lt_zero]
  | 33, _ => simp only [Sh.bt_or, Sh.bt_zero, own_mask, own_shl0, own_shl4, own_shl8, own_shl12, own_shl16, own_shl20, own_shl24, own_shl28, own_shl32, own_shl36, own_shl40, own_shl44, own_shl48, own_ush4, own_ush16, own_ush28, own_ush40, own_ush52, own_V0, own_V1, own_V2, own_V3, own_V4, own_V5, own_V6, own_V7, own_V8, own_V9, own_V10, own_V11, own_V12, own_V13, own_V14, own_V15, own_V16, own_V17, own_V18, own_V19, own_V20, own_V21, own_V22, own_V23, own_V24, own_V25, own_V26, own_V27, own_V28, own_V29, own_V30, own_V31, Sh.bt_big, Nat.reduceLT, Nat.reduceAdd, Nat.reduceSub, Nat.reduceLeDiff, decide_true, decide_false, Bool.and_true, Bool.true_and, Bool.and_false, Bool.false_and, Bool.or_false, Bool.false_or, Bool.not_true, Bool.not_false, Nat.zero_add, Nat.sub_zero, Nat.lt_irrefl, Nat.not_lt_zero]
  | 34, _ => simp only [Sh.bt_or, Sh.bt_zero, own_mask, own_shl0, own_shl4, own_shl8, own_shl12, own_shl16, own_shl20, own_shl24, own_shl28, own_shl32, own_shl36, own_shl40, own_shl44, own_shl48, own_ush4, own_ush16, own_ush28, own_ush40, own_ush52, own_V0, own_V1, own_V2, own_V3, own_V4, own_V5, own_V6, own_V7, own_V8, own_V9, own_V10, own_V11, own_V12, own_V13, own_V14, own_V15, own_V16, own_V17, own_V18, own_V19, own_V20, own_V21, own_V22, own_V23, own_V24, own_V25, own_V26, own_V27, own_V28, own_V29, own_V30, own_V31, Sh.bt_big, Nat.reduceLT, Nat.reduceAdd, Nat.reduceSub, Nat.reduceLeDiff, decide_true, decide_false, Bool.and_true, Bool.true_and, Bool.and_false, Bool.false_and, Bool.or_false, Bool.false_or, Bool.not_true, Bool.not_false, Nat.zero_add, Nat.sub_zero, Nat.lt_irrefl, Nat.not_lt_zero]
  | 35, _ => simp only [Sh.bt_or, Sh.bt_zero, own_mask, own_shl0, own_shl4, own_shl8, own_shl12, own_shl16, own_shl20, own_shl24, own_shl28, own_shl32, own_shl36, own_shl40, own_shl44, own_shl48, own_ush4, own_ush16, own_ush28, own_ush40, own_ush52, own_V0, own_V1, own_V2, own_V3, own_V4, own_V5, own_V6, own_V7, own_V8, own_V9, own_V10, own_V11, own_V12, own_V13, own_V14, own_V15, own_V16, own_V17, own_V18, own_V19, own_V20, own_V21, own_V22, own_V23, own_V24, own_V25, own_V26, own_V27, own_V28, own_V29, own_V30, own_V31, Sh.bt_big, Nat.reduceLT, Nat.reduceAdd, Nat.reduceSub, Nat.reduceLeDiff, decide_true, decide_false, Bool.and_true, Bool.true_and, Bool.and_false, Bool.false_and, Bool.or_false, Bool.false_or, Bool.not_true, Bool.not_false, Nat.zero_add, Nat.sub_zero, Nat.lt_irrefl, Nat.not_lt_zero]
  | 36, _ => simp only [Sh.bt_or, Sh.bt_zero, own_mask, own_shl0, own_shl4, own_shl8, own_shl12, own_shl16, own_shl20, own_shl24, own_shl28, own_shl32, own_shl36, own_shl40, own_shl44, own_shl48, own_ush4, own_ush16, own_ush28, own_ush40, own_ush52, own_V0, own_V1, own_V2, own_V3, own_V4, own_V5, own_V6, own_V7, own_V8, own_V9, own_V10, own_V11, own_V12, own_V13, own_V14, own_V15, own_V16, own_V17, own_V18, own_V19, own_V20, own_V21, own_V22, own_V23, own_V24, own_V25, own_V26, own_V27, own_V28, own_V29, own_V30, own_V31, Sh.bt_big, Nat.reduceLT, Nat.reduceAdd, Nat.reduceSub, Nat.reduceLeDiff, decide_true, decide_false, Bool.and_true, Bool.true_and, Bool.and_false, Bool.false_and, Bool.or_false, Bool.false_or, Bool.not_true, Bool.not_false, Nat.zero_add, Nat.sub_zero, Nat.lt_irrefl, Nat.not_lt_zero]
  | 37, _ => simp only [Sh.bt_or, Sh.bt_zero, own_mask, own_shl0, own_shl4, own_shl8, own_shl12, own_shl16, own_shl20, own_shl24, own_shl28, own_shl32, own_shl36, own_shl40, own_shl44, own_shl48, own_ush4, own_ush16, own_ush28, own_ush40, own_ush52, own_V0, own_V1, own_V2, own_V3, own_V4, own_V5, own_V6, own_V7, own_V8, own_V9, own_V10, own_V11, own_V12, own_V13, own_V14, own_V15, own_V16, own_V17, own_V18, own_V19, own_V20, own_V21, own_V22, own_V23, own_V24, own_V25, own_V26, own_V27, own_V28, own_V29, own_V30, own_V31, Sh.bt_big, Nat.reduceLT, Nat.reduceAdd, Nat.reduceSub, Nat.reduceLeDiff, decide_true, decide_false, Bool.and_true, Bool.true_and, Bool.and_false, Bool.false_and, Bool.or_false, Bool.false_or, Bool.not_true, Bool.not_false, Nat.zero_add, Nat.sub_zero, Nat.lt_irrefl, Nat.not_lt_zero]
  | 38, _ => simp only [Sh.bt_or, Sh.bt_zero, own_mask, own_shl0, own_shl4, own_shl8, own_shl12, own_shl16, own_shl20, own_shl24, own_shl28, own_shl32, own_shl36, own_shl40, own_shl44, own_shl48, own_ush4, own_ush16, own_ush28, own_ush40, own_ush52, own_V0, own_V1, own_V2, own_V3, own_V4, own_V5, own_V6, own_V7, own_V8, own_V9, own_V10, own_V11, own_V12, own_V13, own_V14, own_V15, own_V16, own_V17, own_V18, own_V19, own_V20, own_V21, own_V22, own_V23, own_V24, own_V25, own_V26, own_V27, own_V28, own_V29, own_V30, own_V31, Sh.bt_big, Nat.reduceLT, Nat.reduceAdd, Nat.reduceSub, Nat.reduceLeDiff, decide_true, decide_false, Bool.and_true, Bool.true_and, Bool.and_false, Bool.false_and, Bool.or_false, Bool.false_or, Bool.not_true, Bool.not_false, Nat.zero_add, Nat.sub_zero, Nat.lt_irrefl, Nat.not_lt_zero]
  | 39, _ => simp only [Sh.bt_or, Sh.bt_zero, own_mask, own_shl0, own_shl4, own_shl8, own_shl12, own_shl16, own_shl20, own_shl24, own_shl28, own_shl32, own_shl36, own_shl40, own_shl44, own_shl48, own_ush4, own_ush16, own_ush28, own_ush40, own_ush52, own_V0, own_V1, own_V2, own_V3, own_V4, own_V5, own_V6, own_V7, own_V8, own_V9, own_V10, own_V11, own_V12, own_V13, own_V14, own_V15, own_V16, own_V17, own_V18, own_V19, own_V20, own_V21, own_V22, own_V23, own_V24, own_V25, own_V26, own_V27, own_V28, own_V29, own_V30, own_V31, Sh.bt_big, Nat.reduceLT, Nat.reduceAdd, Nat.reduceSub, Nat.reduceLeDiff, decide_true, decide_false, Bool.and_true, Bool.true_and, Bool.and_false, Bool.false_and, Bool.or_false, Bool.false_or, Bool.not_true, Bool.not_false, Nat.zero_add, Nat.sub_zero, Nat.lt_irrefl, Nat.not_lt_zero]
  | 40, _ => simp only [Sh.bt_or, Sh.bt_zero, own_mask, own_shl0, own_shl4, own_shl8, own_shl12, own_shl16, own_shl20, own_shl24, own_shl28, own_shl32, own_shl36, own_shl40, own_shl44, own_shl48, own_ush4, own_ush16, own_ush28, own_ush40, own_ush52, own_V0, own_V1, own_V2, own_V3, own_V4, own_V5, own_V6, own_V7, own_V8, own_V9, own_V10, own_V11, own_V12, own_V13, own_V14, own_V15, own_V16, own_V17, own_V18, own_V19, own_V20, own_V21, own_V22, own_V23, own_V24, own_V25, own_V26, own_V27, own_V28, own_V29, own_V30, own_V31, Sh.bt_big, Nat.reduceLT, Nat.reduceAdd, Nat.reduceSub, Nat.reduceLeDiff, decide_true, decide_false, Bool.and_true, Bool.true_and, Bool.and_false, Bool.false_and, Bool.or_false, Bool.false_or, Bool.not_true, Bool.not_false, Nat.zero_add, Nat.sub_zero, Nat.lt_irrefl, Nat.not_lt_zero]
  | 41, _ => simp only [Sh.bt_or, Sh.bt_zero, own_mask, own_shl0, own_shl4, own_shl8, own_shl12, own_shl16, own_shl20, own_shl24, own_shl28, own_shl32, own_shl36, own_shl40, own_shl44, own_shl48, own_ush4, own_ush16, own_ush28, own_ush40, own_ush52, own_V0, own_V1, own_V2, own_V3, own_V4, own_V5, own_V6, own_V7, own_V8, own_V9, own_V10, own_V11, own_V12, own_V13, own_V14, own_V15, own_V16, own_V17, own_V18, own_V19, own_V20, own_V21, own_V22, own_V23, own_V24, own_V25, own_V26, own_V27, own_V28, own_V29, own_V30, own_V31, Sh.bt_big, Nat.reduceLT, Nat.reduceAdd, Nat.reduceSub, Nat.reduceLeDiff, decide_true, decide_false, Bool.and_true, Bool.true_and, Bool.and_false, Bool.false_and, Bool.or_false, Bool.false_or, Bool.not_true, Bool.not_false, Nat.zero_add, Nat.sub_zero, Nat.lt_irrefl, Nat.not_lt_zero]
  | 42, _ => simp only [Sh.bt_or, Sh.bt_zero, own_mask, own_shl0, own_shl4, own_shl8, own_shl12, own_shl16, own_shl20, own_shl24, own_shl28, own_shl32, own_shl36, own_shl40, own_shl44, own_shl48, own_ush4, own_ush16, own_ush28, own_ush40, own_ush52, own_V0, own_V1, own_V2, own_V3, own_V4, own_V5, own_V6, own_V7, own_V8, own_V9, own_V10, own_V11, own_V12, own_V13, own_V14, own_V15, own_V16, own_V17, own_V18, own_V19, own_V20, own_V21, own_V22, own_V23, own_V24, own_V25, own_V26, own_V27, own_V28, own_V29, own_V30, own_V31, Sh.bt_big, Nat.reduceLT, Nat.reduceAdd, Nat.reduceSub, Nat.reduceLeDiff, decide_true, decide_false, Bool.and_true, Bool.true_and, Bool.and_false, Bool.false_and, Bool.or_false, Bool.false_or, Bool.not_true, Bool.not_false, Nat.zero_add, Nat.sub_zero, Nat.lt_irrefl, Nat.not_lt_zero]
  | 43, _ => simp only [Sh.bt_or, Sh.bt_zero, own_mask, own_shl0, own_shl4, own_shl8, own_shl12, own_shl16, own_shl20, own_shl24, own_shl28, own_shl32, own_shl36, own_shl40, own_shl44, own_shl48, own_ush4, own_ush16, own_ush28, own_ush40, own_ush52, own_V0, own_V1, own_V2, own_V3, own_V4, own_V5, own_V6, own_V7, own_V8, own_V9, own_V10, own_V11, own_V12, own_V13, own_V14, own_V15, own_V16, own_V17, own_V18, own_V19, own_V20, own_V21, own_V22, own_V23, own_V24, own_V25, own_V26, own_V27, own_V28, own_V29, own_V30, own_V31, Sh.bt_big, Nat.reduceLT, Nat.reduceAdd, Nat.reduceSub, Nat.reduceLeDiff, decide_true, decide_false, Bool.and_true, Bool.true_and, Bool.and_false, Bool.false_and, Bool.or_false, Bool.false_or, Bool.not_true, Bool.not_false, Nat.zero_add, Nat.sub_zero, Nat.lt_irrefl, Nat.not_lt_zero]
  | 44, _ => simp only [Sh.bt_or, Sh.bt_zero, own_mask, own_shl0, own_shl4, own_shl8, own_shl12, own_shl16, own_shl20, own_shl24, own_shl28, own_shl32, own_shl36, own_shl40, own_shl44, own_shl48, own_ush4, own_ush16, own_ush28, own_ush40, own_ush52, own_V0, own_V1, own_V2, own_V3, own_V4, own_V5, own_V6, own_V7, own_V8, own_V9, own_V10, own_V11, own_V12, own_V13, own_V14, own_V15, own_V16, own_V17, own_V18, own_V19, own_V20, own_V21, own_V22, own_V23, own_V24, own_V25, own_V26, own_V27, own_V28, own_V29, own_V30, own_V31, Sh.bt_big, Nat.reduceLT, Nat.reduceAdd, Nat.reduceSub, Nat.reduceLeDiff, decide_true, decide_false, Bool.and_true, Bool.true_and, Bool.and_false, Bool.false_and, Bool.or_false, Bool.false_or, Bool.not_true, Bool.not_false, Nat.zero_add, Nat.sub_zero, Nat.lt_irrefl, Nat.not_lt_zero]
  | 45, _ => simp only [Sh.bt_or, Sh.bt_zero, own_mask, own_shl0, own_shl4, own_shl8, own_shl12, own_shl16, own_shl20, own_shl24, own_shl28, own_shl32, own_shl36, own_shl40, own_shl44, own_shl48, own_ush4, own_ush16, own_ush28, own_ush40, own_ush52, own_V0, own_V1, own_V2, own_V3, own_V4, own_V5, own_V6, own_V7, own_V8, own_V9, own_V10, own_V11, own_V12, own_V13, own_V14, own_V15, own_V16, own_V17, own_V18, own_V19, own_V20, own_V21, own_V22, own_V23, own_V24, own_V25, own_V26, own_V27, own_V28, own_V29, own_V30, own_V31, Sh.bt_big, Nat.reduceLT, Nat.reduceAdd, Nat.reduceSub, Nat.reduceLeDiff, decide_true, decide_false, Bool.and_true, Bool.true_and, Bool.and_false, Bool.false_and, Bool.or_false, Bool.false_or, Bool.not_true, Bool.not_false, Nat.zero_add, Nat.sub_zero, Nat.lt_irrefl, Nat.not_lt_zero]
  | 46, _ => simp only [Sh.bt_or, Sh.bt_zero, own_mask, own_shl0, own_shl4, own_shl8, own_shl12, own_shl16, own_shl20, own_shl24, own_shl28, own_shl32, own_shl36, own_shl40, own_shl44, own_shl48, own_ush4, own_ush16, own_ush28, own_ush40, own_ush52, own_V0, own_V1, own_V2, own_V3, own_V4, own_V5, own_V6, own_V7, own_V8, own_V9, own_V10, own_V11, own_V12, own_V13, own_V14, own_V15, own_V16, own_V17, own_V18, own_V19, own_V20, own_V21, own_V22, own_V23, own_V24, own_V25, own_V26, own_V27, own_V28, own_V29, own_V30, own_V31, Sh.bt_big, Nat.reduceLT, Nat.reduceAdd, Nat.reduceSub, Nat.reduceLeDiff, decide_true, decide_false, Bool.and_true, Bool.true_and, Bool.and_false, Bool.false_and, Bool.or_false, Bool.false_or, Bool.not_true, Bool.not_false, Nat.zero_add, Nat.sub_zero, Nat.lt_irrefl, Nat.not_lt_zero]
  | 47, _ => simp only [Sh.bt_or, Sh.bt_zero, own_mask, own_shl0, own_shl4, own_shl8, own_shl12, own_shl16, own_shl20, own_shl24, own_shl28, own_shl32, own_shl36, own_shl40, own_shl44, own_shl48, own_ush4, own_ush16, own_ush28, own_ush40, own_ush52, own_V0, own_V1, own_V2, own_V3, own_V4, own_V5, own_V6, own_V7, own_V8, own_V9, own_V10, own_V11, own_V12, own_V13, own_V14, own_V15, own_V16, own_V17, own_V18, own_V19, own_V20, own_V21, own_V22, own_V23, own_V24, own_V25, own_V26, own_V27, own_V28, own_V29, own_V30, own_V31, Sh.bt_big, Nat.reduceLT, Nat.reduceAdd, Nat.reduceSub, Nat.reduceLeDiff, decide_true, decide_false, Bool.and_true, Bool.true_and, Bool.and_false, Bool.false_and, Bool.or_false, Bool.false_or, Bool.not_true, Bool.not_false, Nat.zero_add, Nat.sub_zero, Nat.lt_irrefl, Nat.not_lt_zero]
  | 48, _ => simp only [Sh.bt_or, Sh.bt_zero, own_mask, own_shl0, own_shl4, own_shl8, own_shl12, own_shl16, own_shl20, own_shl24, own_shl28, own_shl32, own_shl36, own_shl40, own_shl44, own_shl48, own_ush4, own_ush16, own_ush28, own_ush40, own_ush52, own_V0, own_V1, own_V2, own_V3, own_V4, own_V5, own_V6, own_V7, own_V8, own_V9, own_V10, own_V11, own_V12, own_V13, own_V14, own_V15, own_V16, own_V17, own_V18, own_V19, own_V20, own_V21, own_V22, own_V23, own_V24, own_V25, own_V26, own_V27, own_V28, own_V29, own_V30, own_V31, Sh.bt_big, Nat.reduceLT, Nat.reduceAdd, Nat.reduceSub, Nat.reduceLeDiff, decide_true, decide_false, Bool.and_true, Bool.true_and, Bool.and_false, Bool.false_and, Bool.or_false, Bool.false_or, Bool.not_true, Bool.not_false, Nat.zero_add, Nat.sub_zero, Nat.lt_irrefl, Nat.not_lt_zero]
  | 49, _ => simp only [Sh.bt_or, Sh.bt_zero, own_mask, own_shl0, own_shl4, own_shl8, own_shl12, own_shl16, own_shl20, own_shl24, own_shl28, own_shl32, own_shl36, own_shl40, own_shl44, own_shl48, own_ush4, own_ush16, own_ush28, own_ush40, own_ush52, own_V0, own_V1, own_V2, own_V3, own_V4, own_V5, own_V6, own_V7, own_V8, own_V9, own_V10, own_V11, own_V12, own_V13, own_V14, own_V15, own_V16, own_V17, own_V18, own_V19, own_V20, own_V21, own_V22, own_V23, own_V24, own_V25, own_V26, own_V27, own_V28, own_V29, own_V30, own_V31, Sh.bt_big, Nat.reduceLT, Nat.reduceAdd, Nat.reduceSub, Nat.reduceLeDiff, decide_true, decide_false, Bool.and_true, Bool.true_and, Bool.and_false, Bool.false_and, Bool.or_false, Bool.false_or, Bool.not_true, Bool.not_false, Nat.zero_add, Nat.sub_zero, Nat.lt_irrefl, Nat.not_lt_zero]
  | 50, _ => simp only [Sh.bt_or, Sh.bt_zero, own_mask, own_shl0, own_shl4, own_shl8, own_shl12, own_shl16, own_shl20, own_shl24, own_shl28, own_shl32, own_shl36, own_shl40, own_shl44, own_shl48, own_ush4, own_ush16, own_ush28, own_ush40, own_ush52, own_V0, own_V1, own_V2, own_V3, own_V4, own_V5, own_V6, own_V7, own_V8, own_V9, own_V10, own_V11, own_V12, own_V13, own_V14, own_V15, own_V16, own_V17, own_V18, own_V19, own_V20, own_V21, own_V22, own_V23, own_V24, own_V25, own_V26, own_V27, own_V28, own_V29, own_V30, own_V31, Sh.bt_big, Nat.reduceLT, Nat.reduceAdd, Nat.reduceSub, Nat.reduceLeDiff, decide_true, decide_false, Bool.and_true, Bool.true_and, Bool.and_false, Bool.false_and, Bool.or_false, Bool.false_or, Bool.not_true, Bool.not_false, Nat.zero_add, Nat.sub_zero, Nat.lt_irrefl, Nat.not_lt_zero]
  | 51, _ => simp only [Sh.bt_or, Sh.bt_zero, own_mask, own_shl0, own_shl4, own_shl8, own_shl12, own_shl16, own_shl20, own_shl24, own_shl28, own_shl32, own_shl36, own_shl40, own_shl44, own_shl48, own_ush4, own_ush16, own_ush28, own_ush40, own_ush52, own_V0, own_V1, own_V2, own_V3, own_V4, own_V5, own_V6, own_V7, own_V8, own_V9, own_V10, own_V11, own_V12, own_V13, own_V14, own_V15, own_V16, own_V17, own_V18, own_V19, own_V20, own_V21, own_V22, own_V23, own_V24, own_V25, own_V26, own_V27, own_V28, own_V29, own_V30, own_V31, Sh.bt_big, Nat.reduceLT, Nat.reduceAdd, Nat.reduceSub, Nat.reduceLeDiff, decide_true, decide_false, Bool.and_true, Bool.true_and, Bool.and_false, Bool.false_and, Bool.or_false, Bool.false_or, Bool.not_true, Bool.not_false, Nat.zero_add, Nat.sub_zero, Nat.lt_irrefl, Nat.not_lt_zero]
  | 52, _ => simp only [Sh.bt_or, Sh.bt_zero, own_mask, own_shl0, own_shl4, own_shl8, own_shl12, own_shl16, own_shl20, own_shl24, own_shl28, own_shl32, own_shl36, own_shl40, own_shl44, own_shl48, own_ush4, own_ush16, own_ush28, own_ush40, own_ush52, own_V0, own_V1, own_V2, own_V3, own_V4, own_V5, own_V6, own_V7, own_V8, own_V9, own_V10, own_V11, own_V12, own_V13, own_V14, own_V15, own_V16, own_V17, own_V18, own_V19, own_V20, own_V21, own_V22, own_V23, own_V24, own_V25, own_V26, own_V27, own_V28, own_V29, own_V30, own_V31, Sh.bt_big, Nat.reduceLT, Nat.reduceAdd, Nat.reduceSub, Nat.reduceLeDiff, decide_true, decide_false, Bool.and_true, Bool.true_and, Bool.and_false, Bool.false_and, Bool.or_false, Bool.false_or, Bool.not_true, Bool.not_false, Nat.zero_add, Nat.sub_zero, Nat.lt_irrefl, Nat.not_lt_zero]
  | 53, _ => simp only [Sh.bt_or, Sh.bt_zero, own_mask, own_shl0, own_shl4, own_shl8, own_shl12, own_shl16, own_shl20, own_shl24, own_shl28, own_shl32, own_shl36, own_shl40, own_shl44, own_shl48, own_ush4, own_ush16, own_ush28, own_ush40, own_ush52, own_V0, own_V1, own_V2, own_V3, own_V4, own_V5, own_V6, own_V7, own_V8, own_V9, own_V10, own_V11, own_V12, own_V13, own_V14, own_V15, own_V16, own_V17, own_V18, own_V19, own_V20, own_V21, own_V22, own_V23, own_V24, own_V25, own_V26, own_V27, own_V28, own_V29, own_V30, own_V31, Sh.bt_big, Nat.reduceLT, Nat.reduceAdd, Nat.reduceSub, Nat.reduceLeDiff, decide_true, decide_false, Bool.and_true, Bool.true_and, Bool.and_false, Bool.false_and, Bool.or_false, Bool.false_or, Bool.not_true, Bool.not_false, Nat.zero_add, Nat.sub_zero, Nat.lt_irrefl, Nat.not_lt_zero]
  | 54, _ => simp only [Sh.bt_or, Sh.bt_zero, own_mask, own_shl0, own_shl4, own_shl8, own_shl12, own_shl16, own_shl20, own_shl24, own_shl28, own_shl32, own_shl36, own_shl40, own_shl44, own_shl48, own_ush4, own_ush16, own_ush28, own_ush40, own_ush52, own_V0, own_V1, own_V2, own_V3, own_V4, own_V5, own_V6, own_V7, own_V8, own_V9, own_V10, own_V11, own_V12, own_V13, own_V14, own_V15, own_V16, own_V17, own_V18, own_V19, own_V20, own_V21, own_V22, own_V23, own_V24, own_V25, own_V26, own_V27, own_V28, own_V29, own_V30, own_V31, Sh.bt_big, Nat.reduceLT, Nat.reduceAdd, Nat.reduceSub, Nat.reduceLeDiff, decide_true, decide_false, Bool.and_true, Bool.true_and, Bool.and_false, Bool.false_and, Bool.or_false, Bool.false_or, Bool.not_true, Bool.not_false, Nat.zero_add, Nat.sub_zero, Nat.lt_irrefl, Nat.not_lt_zero]
  | 55, _ => simp only [Sh.bt_or, Sh.bt_zero, own_mask, own_shl0, own_shl4, own_shl8, own_shl12, own_shl16, own_shl20, own_shl24, own_shl28, own_shl32, own_shl36, own_shl40, own_shl44, own_shl48, own_ush4, own_ush16, own_ush28, own_ush40, own_ush52, own_V0, own_V1, own_V2, own_V3, own_V4, own_V5, own_V6, own_V7, own_V8, own_V9, own_V10, own_V11, own_V12, own_V13, own_V14, own_V15, own_V16, own_V17, own_V18, own_V19, own_V20, own_V21, own_V22, own_V23, own_V24, own_V25, own_V26, own_V27, own_V28, own_V29, own_V30, own_V31, Sh.bt_big, Nat.reduceLT, Nat.reduceAdd, Nat.reduceSub, Nat.reduceLeDiff, decide_true, decide_false, Bool.and_true, Bool.true_and, Bool.and_false, Bool.false_and, Bool.or_false, Bool.false_or, Bool.not_true, Bool.not_false, Nat.zero_add, Nat.sub_zero, Nat.lt_irrefl, Nat.not_lt_zero]
  | 56, _ => simp only [Sh.bt_or, Sh.bt_zero, own_mask, own_shl0, own_shl4, own_shl8, own_shl12, own_shl16, own_shl20, own_shl24, own_shl28, own_shl32, own_shl36, own_shl40, own_shl44, own_shl48, own_ush4, own_ush16, own_ush28, own_ush40, own_ush52, own_V0, own_V1, own_V2, own_V3, own_V4, own_V5, own_V6, own_V7, own_V8, own_V9, own_V10, own_V11, own_V12, own_V13, own_V14, own_V15, own_V16, own_V17, own_V18, own_V19, own_V20, own_V21, own_V22, own_V23, own_V24, own_V25, own_V26, own_V27, own_V28, own_V29, own_V30, own_V31, Sh.bt_big, Nat.reduceLT, Nat.reduceAdd, Nat.reduceSub, Nat.reduceLeDiff, decide_true, decide_false, Bool.and_true, Bool.true_and, Bool.and_false, Bool.false_and, Bool.or_false, Bool.false_or, Bool.not_true, Bool.not_false, Nat.zero_add, Nat.sub_zero, Nat.lt_irrefl, Nat.not_lt_zero]
  | 57, _ => simp only [Sh.bt_or, Sh.bt_zero, own_mask, own_shl0, own_shl4, own_shl8, own_shl12, own_shl16, own_shl20, own_shl24, own_shl28, own_shl32, own_shl36, own_shl40, own_shl44, own_shl48, own_ush4, own_ush16, own_ush28, own_ush40, own_ush52, own_V0, own_V1, own_V2, own_V3, own_V4, own_V5, own_V6, own_V7, own_V8, own_V9, own_V10, own_V11, own_V12, own_V13, own_V14, own_V15, own_V16, own_V17, own_V18, own_V19, own_V20, own_V21, own_V22, own_V23, own_V24, own_V25, own_V26, own_V27, own_V28, own_V29, own_V30, own_V31, Sh.bt_big, Nat.reduceLT, Nat.reduceAdd, Nat.reduceSub, Nat.reduceLeDiff, decide_true, decide_false, Bool.and_true, Bool.true_and, Bool.and_false, Bool.false_and, Bool.or_false, Bool.false_or, Bool.not_true, Bool.not_false, Nat.zero_add, Nat.sub_zero, Nat.lt_irrefl, Nat.not_lt_zero]
  | 58, _ => simp only [Sh.bt_or, Sh.bt_zero, own_mask, own_shl0, own_shl4, own_shl8, own_shl12, own_shl16, own_shl20, own_shl24, own_shl28, own_shl32, own_shl36, own_shl40, own_shl44, own_shl48, own_ush4, own_ush16, own_ush28, own_ush40, own_ush52, own_V0, own_V1, own_V2, own_V3, own_V4, own_V5, own_V6, own_V7, own_V8, own_V9, own_V10, own_V11, own_V12, own_V13, own_V14, own_V15, own_V16, own_V17, own_V18, own_V19, own_V20, own_V21, own_V22, own_V23, own_V24, own_V25, own_V26, own_V27, own_V28, own_V29, own_V30, own_V31, Sh.bt_big, Nat.reduceLT, Nat.reduceAdd, Nat.reduceSub, Nat.reduceLeDiff, decide_true, decide_false, Bool.and_true, Bool.true_and, Bool.and_false, Bool.false_and, Bool.or_false, Bool.false_or, Bool.not_true, Bool.not_false, Nat.zero_add, Nat.sub_zero, Nat.lt_irrefl, Nat.not_lt_zero]
  | 59, _ => simp only [Sh.bt_or, Sh.bt_zero, own_mask, own_shl0, own_shl4, own_shl8, own_shl12, own_shl16, own_shl20, own_shl24, own_shl28, own_shl32, own_shl36, own_shl40, own_shl44, own_shl48, own_ush4, own_ush16, own_ush28, own_ush40, own_ush52, own_V0, own_V1, own_V2, own_V3, own_V4, own_V5, own_V6, own_V7, own_V8, own_V9, own_V10, own_V11, own_V12, own_V13, own_V14, own_V15, own_V16, own_V17, own_V18, own_V19, own_V20, own_V21, own_V22, own_V23, own_V24, own_V25, own_V26, own_V27, own_V28, own_V29, own_V30, own_V31, Sh.bt_big, Nat.reduceLT, Nat.reduceAdd, Nat.reduceSub, Nat.reduceLeDiff, decide_true, decide_false, Bool.and_true, Bool.true_and, Bool.and_false, Bool.false_and, Bool.or_false, Bool.false_or, Bool.not_true, Bool.not_false, Nat.zero_add, Nat.sub_zero, Nat.lt_irrefl, Nat.not_lt_zero]
  | 60, _ => simp only [Sh.bt_or, Sh.bt_zero, own_mask, own_shl0, own_shl4, own_shl8, own_shl12, own_shl16, own_shl20, own_shl24, own_shl28, own_shl32, own_shl36, own_shl40, own_shl44, own_shl48, own_ush4, own_ush16, own_ush28, own_ush40, own_ush52, own_V0, own_V1, own_V2, own_V3, own_V4, own_V5, own_V6, own_V7, own_V8, own_V9, own_V10, own_V11, own_V12, own_V13, own_V14, own_V15, own_V16, own_V17, own_V18, own_V19, own_V20, own_V21, own_V22, own_V23, own_V24, own_V25, own_V26, own_V27, own_V28, own_V29, own_V30, own_V31, Sh.bt_big, Nat.reduceLT, Nat.reduceAdd, Nat.reduceSub, Nat.reduceLeDiff, decide_true, decide_false, Bool.and_true, Bool.true_and, Bool.and_false, Bool.false_and, Bool.or_false, Bool.false_or, Bool.not_true, Bool.not_false, Nat.zero_add, Nat.sub_zero, Nat.lt_irrefl, Nat.not_lt_zero]
  | 61, _ => simp only [Sh.bt_or, Sh.bt_zero, own_mask, own_shl0, own_shl4, own_shl8, own_shl12, own_shl16, own_shl20, own_shl24, own_shl28, own_shl32, own_shl36, own_shl40, own_shl44, own_shl48, own_ush4, own_ush16, own_ush28, own_ush40, own_ush52, own_V0, own_V1, own_V2, own_V3, own_V4, own_V5, own_V6, own_V7, own_V8, own_V9, own_V10, own_V11, own_V12, own_V13, own_V14, own_V15, own_V16, own_V17, own_V18, own_V19, own_V20, own_V21, own_V22, own_V23, own_V24, own_V25, own_V26, own_V27, own_V28, own_V29, own_V30, own_V31, Sh.bt_big, Nat.reduceLT, Nat.reduceAdd, Nat.reduceSub, Nat.reduceLeDiff, decide_true, decide_false, Bool.and_true, Bool.true_and, Bool.and_false, Bool.false_and, Bool.or_false, Bool.false_or, Bool.not_true, Bool.not_false, Nat.zero_add, Nat.sub_zero, Nat.lt_irrefl, Nat.not_lt_zero]
  | 62, _ => simp only [Sh.bt_or, Sh.bt_zero, own_mask, own_shl0, own_shl4, own_shl8, own_shl12, own_shl16, own_shl20, own_shl24, own_shl28, own_shl32, own_shl36, own_shl40, own_shl44, own_shl48, own_ush4, own_ush16, own_ush28, own_ush40, own_ush52, own_V0, own_V1, own_V2, own_V3, own_V4, own_V5, own_V6, own_V7, own_V8, own_V9, own_V10, own_V11, own_V12, own_V13, own_V14, own_V15, own_V16, own_V17, own_V18, own_V19, own_V20, own_V21, own_V22, own_V23, own_V24, own_V25, own_V26, own_V27, own_V28, own_V29, own_V30, own_V31, Sh.bt_big, Nat.reduceLT, Nat.reduceAdd, Nat.reduceSub, Nat.reduceLeDiff, decide_true, decide_false, Bool.and_true, Bool.true_and, Bool.and_false, Bool.false_and, Bool.or_false, Bool.false_or, Bool.not_true, Bool.not_false, Nat.zero_add, Nat.sub_zero, Nat.lt_irrefl, Nat.not_lt_zero]
  | 63, _ => simp only [Sh.bt_or, Sh.bt_zero, own_mask, own_shl0, own_shl4, own_shl8, own_shl12, own_shl16, own_shl20, own_shl24, own_shl28, own_shl32, own_shl36, own_shl40, own_shl44, own_shl48, own_ush4, own_ush16, own_ush28, own_ush40, own_ush52, own_V0, own_V1, own_V2, own_V3, own_V4, own_V5, own_V6, own_V7, own_V8, own_V9, own_V10, own_V11, own_V12, own_V13, own_V14, own_V15, own_V16, own_V17, own_V18, own_V19, own_V20, own_V21, own_V22, own_V23, own_V24, own_V25, own_V26, own_V27, own_V28, own_V29, own_V30, own_V31, Sh.bt_big, Nat.reduceLT, Nat.reduceAdd, Nat.reduceSub, Nat.reduceLeDiff, decide_true, decide_false, Bool.and_true, Bool.true_and, Bool.and_false, Bool.false_and, Bool.or_false, Bool.false_or, Bool.not_true, Bool.not_false, Nat.zero_add, Nat.sub_zero, Nat.lt_irrefl, Nat.not_lt_zero]
  | n + 64, h => exact absurd h (by omega)
def own_put (vs : List Value) (p : Nat) (w : Int64) : List Value := (((((((vs.set p (.int (own_b w 7))).set (p + 1) (.int (own_b w 6))).set (p + 2) (.int (own_b w 5))).set (p + 3) (.int (own_b w 4))).set (p + 4) (.int (own_b w 3))).set (p + 5) (.int (own_b w 2))).set (p + 6) (.int (own_b w 1))).set (p + 7) (.int (own_b w 0))
theorem own_plen (vs : List Value) (p : Nat) (w : Int64) : (own_put vs p w).length = vs.length := by simp [own_put]
theorem own_pout (vs : List Value) (p : Nat) (w : Int64) (j : Nat) (h : j < p ∨ p + 8 ≤ j) : (own_put vs p w)[j]? = vs[j]? := by
  rw [own_put, List.getElem?_set_ne (by omega), List.getElem?_set_ne (by omega), List.getElem?_set_ne (by omega), List.getElem?_set_ne (by omega), List.getElem?_set_ne (by omega), List.getElem?_set_ne (by omega), List.getElem?_set_ne (by omega), List.getElem?_set_ne (by omega)]
theorem own_pin (vs : List Value) (p : Nat) (w : Int64) (hl : p + 8 ≤ vs.length) (b : Nat) (hb : b < 8) : (own_put vs p w)[p + (7 - b)]? = some (.int (own_b w b)) := by
  rw [own_put]
  match b, hb with
  | 0, _ => rw [List.getElem?_set_self (by first | omega | (simp only [List.length_set]; omega))]
  | 1, _ => rw [List.getElem?_set_ne (by omega), List.getElem?_set_self (by first | omega | (simp only [List.length_set]; omega))]
  | 2, _ => rw [List.getElem?_set_ne (by omega), List.getElem?_set_ne (by omega), List.getElem?_set_self (by first | omega | (simp only [List.length_set]; omega))]
  | 3, _ => rw [List.getElem?_set_ne (by omega), List.getElem?_set_ne (by omega), List.getElem?_set_ne (by omega), List.getElem?_set_self (by first | omega | (simp only [List.length_set]; omega))]
  | 4, _ => rw [List.getElem?_set_ne (by omega), List.getElem?_set_ne (by omega), List.getElem?_set_ne (by omega), List.getElem?_set_ne (by omega), List.getElem?_set_self (by first | omega | (simp only [List.length_set]; omega))]
  | 5, _ => rw [List.getElem?_set_ne (by omega), List.getElem?_set_ne (by omega), List.getElem?_set_ne (by omega), List.getElem?_set_ne (by omega), List.getElem?_set_ne (by omega), List.getElem?_set_self (by first | omega | (simp only [List.length_set]; omega))]
  | 6, _ => rw [List.getElem?_set_ne (by omega), List.getElem?_set_ne (by omega), List.getElem?_set_ne (by omega), List.getElem?_set_ne (by omega), List.getElem?_set_ne (by omega), List.getElem?_set_ne (by omega), List.getElem?_set_self (by first | omega | (simp only [List.length_set]; omega))]
  | 7, _ => rw [show p + (7 - 7) = p from rfl, List.getElem?_set_ne (by omega), List.getElem?_set_ne (by omega), List.getElem?_set_ne (by omega), List.getElem?_set_ne (by omega), List.getElem?_set_ne (by omega), List.getElem?_set_ne (by omega), List.getElem?_set_ne (by omega), List.getElem?_set_self (by first | omega | (simp only [List.length_set]; omega))]
theorem own_read (vs : List Value) (p : Nat) (w0 w1 w2 w3 : Int64) (hl : p + 32 ≤ vs.length) (c : Nat) (hc : c < 32) : (own_put (own_put (own_put (own_put vs p w3) (p + 8) w2) (p + 16) w1) (p + 24) w0)[p + 32 - 1 - c]? = some (.int (own_B w0 w1 w2 w3 c)) := by
  by_cases q0 : c < 8
  · rw [show p + 32 - 1 - c = p + 24 + (7 - c) by omega, own_pin _ _ _ (by simp only [own_plen]; omega) c q0, own_B, if_pos q0]
  · by_cases q1 : c < 16
    · rw [show p + 32 - 1 - c = p + 16 + (7 - (c - 8)) by omega, own_pout _ _ _ _ (by omega), own_pin _ _ _ (by simp only [own_plen]; omega) (c - 8) (by omega), own_B, if_neg q0, if_pos q1]
    · by_cases q2 : c < 24
      · rw [show p + 32 - 1 - c = p + 8 + (7 - (c - 16)) by omega, own_pout _ _ _ _ (by omega), own_pout _ _ _ _ (by omega), own_pin _ _ _ (by simp only [own_plen]; omega) (c - 16) (by omega), own_B, if_neg q0, if_neg q1, if_pos q2]
      · rw [show p + 32 - 1 - c = p + (7 - (c - 24)) by omega, own_pout _ _ _ _ (by omega), own_pout _ _ _ _ (by omega), own_pout _ _ _ _ (by omega), own_pin _ _ _ (by omega) (c - 24) (by omega), own_B, if_neg q0, if_neg q1, if_neg q2]
section
variable (l : Launch) (Z : State) (a0 : Array Value) (n0 : Nat)
theorem m1 (hw : HW Z a0) (vs : List Value) (p : Nat) (w : Int64) (hl : p + 8 ≤ vs.length) (hv : vs.length < 100) : Sh.Meth l Z a0 n0 b1 R1 [.ref 0, .int (Int32.ofNat p), .long w] [.inr (.byte, vs)] (fun v H' => v = none ∧ H' = [.inr (.byte, own_put vs p w)]) := by
  refine Sh.Meth.of pn1 (L := [.val (.ref 0), .val (.int (Int32.ofNat p)), .val (.long w), .second]) rfl ?_
  refine Sh.aload_n d1_0 rfl rfl ?_
  refine Sh.iload_n d1_1 rfl ?_
  refine Sh.lload_n d1_2 rfl ?_
  refine Sh.bipush d1_3 (x := 56) rfl ?_
  refine Sh.lushr d1_5 ?_
  refine Sh.l2i d1_6 ?_
  refine Sh.i2b d1_7 ?_
  refine Sh.bastore d1_8 rfl (Sh.onNN (by omega)) (Sh.onCl (by omega)) (by first | omega | (simp only [List.length_set]; omega)) (Sh.i8_idem _) rfl (Sh.ls_0) ?_
  refine Sh.aload_n d1_9 rfl rfl ?_
  refine Sh.iload_n d1_10 rfl ?_
  refine Sh.iconst d1_11 (x := 1) rfl ?_
  refine Sh.iaddE d1_12 (Sh.onAdd _ 1) ?_
  refine Sh.lload_n d1_13 rfl ?_
  refine Sh.bipush d1_14 (x := 48) rfl ?_
  refine Sh.lushr d1_16 ?_
  refine Sh.l2i d1_17 ?_
  refine Sh.i2b d1_18 ?_
  refine Sh.bastore d1_19 rfl (Sh.onNN (by omega)) (Sh.onCl (by omega)) (by first | omega | (simp only [List.length_set]; omega)) (Sh.i8_idem _) rfl (Sh.ls_0) ?_
  refine Sh.aload_n d1_20 rfl rfl ?_
  refine Sh.iload_n d1_21 rfl ?_
  refine Sh.iconst d1_22 (x := 2) rfl ?_
  refine Sh.iaddE d1_23 (Sh.onAdd _ 2) ?_
  refine Sh.lload_n d1_24 rfl ?_
  refine Sh.bipush d1_25 (x := 40) rfl ?_
  refine Sh.lushr d1_27 ?_
  refine Sh.l2i d1_28 ?_
  refine Sh.i2b d1_29 ?_
  refine Sh.bastore d1_30 rfl (Sh.onNN (by omega)) (Sh.onCl (by omega)) (by first | omega | (simp only [List.length_set]; omega)) (Sh.i8_idem _) rfl (Sh.ls_0) ?_
  refine Sh.aload_n d1_31 rfl rfl ?_
  refine Sh.iload_n d1_32 rfl ?_
  refine Sh.iconst d1_33 (x := 3) rfl ?_
  refine Sh.iaddE d1_34 (Sh.onAdd _ 3) ?_
  refine Sh.lload_n d1_35 rfl ?_
  refine Sh.bipush d1_36 (x := 32) rfl ?_
  refine Sh.lushr d1_38 ?_
  refine Sh.l2i d1_39 ?_
  refine Sh.i2b d1_40 ?_
  refine Sh.bastore d1_41 rfl (Sh.onNN (by omega)) (Sh.onCl (by omega)) (by first | omega | (simp only [List.length_set]; omega)) (Sh.i8_idem _) rfl (Sh.ls_0) ?_
  refine Sh.aload_n d1_42 rfl rfl ?_
  refine Sh.iload_n d1_43 rfl ?_
  refine Sh.iconst d1_44 (x := 4) rfl ?_
  refine Sh.iaddE d1_45 (Sh.onAdd _ 4) ?_
  refine Sh.lload_n d1_46 rfl ?_
  refine Sh.bipush d1_47 (x := 24) rfl ?_
  refine Sh.lushr d1_49 ?_
  refine Sh.l2i d1_50 ?_
  refine Sh.i2b d1_51 ?_
  refine Sh.bastore d1_52 rfl (Sh.onNN (by omega)) (Sh.onCl (by omega)) (by first | omega | (simp only [List.length_set]; omega)) (Sh.i8_idem _) rfl (Sh.ls_0) ?_
  refine Sh.aload_n d1_53 rfl rfl ?_
  refine Sh.iload_n d1_54 rfl ?_
  refine Sh.iconst d1_55 (x := 5) rfl ?_
  refine Sh.iaddE d1_56 (Sh.onAdd _ 5) ?_
  refine Sh.lload_n d1_57 rfl ?_
  refine Sh.bipush d1_58 (x := 16) rfl ?_
  refine Sh.lushr d1_60 ?_
  refine Sh.l2i d1_61 ?_
  refine Sh.i2b d1_62 ?_
  refine Sh.bastore d1_63 rfl (Sh.onNN (by omega)) (Sh.onCl (by omega)) (by first | omega | (simp only [List.length_set]; omega)) (Sh.i8_idem _) rfl (Sh.ls_0) ?_
  refine Sh.aload_n d1_64 rfl rfl ?_
  refine Sh.iload_n d1_65 rfl ?_
  refine Sh.bipush d1_66 (x := 6) rfl ?_
  refine Sh.iaddE d1_68 (Sh.onAdd _ 6) ?_
  refine Sh.lload_n d1_69 rfl ?_
  refine Sh.bipush d1_70 (x := 8) rfl ?_
  refine Sh.lushr d1_72 ?_
  refine Sh.l2i d1_73 ?_
  refine Sh.i2b d1_74 ?_
  refine Sh.bastore d1_75 rfl (Sh.onNN (by omega)) (Sh.onCl (by omega)) (by first | omega | (simp only [List.length_set]; omega)) (Sh.i8_idem _) rfl (Sh.ls_0) ?_
  refine Sh.aload_n d1_76 rfl rfl ?_
  refine Sh.iload_n d1_77 rfl ?_
  refine Sh.bipush d1_78 (x := 7) rfl ?_
  refine Sh.iaddE d1_80 (Sh.onAdd _ 7) ?_
  refine Sh.lload_n d1_81 rfl ?_
  refine Sh.l2i d1_82 ?_
  refine Sh.i2b d1_83 ?_
  refine Sh.bastore d1_84 rfl (Sh.onNN (by omega)) (Sh.onCl (by omega)) (by first | omega | (simp only [List.length_set]; omega)) (Sh.i8_idem _) rfl (Sh.ls_0) ?_
  refine Sh.ret0 d1_85 rfl (Sh.le rfl) (Sh.le rfl) ?_
  exact ⟨rfl, rfl⟩
theorem m2 (hw : HW Z a0) (vs : List Value) (p : Nat) (B : Nat → Int32) (hp : p < 100) (hB : ∀ c, c < 32 → vs[p + 32 - 1 - c]? = some (.int (B c))) : Sh.Meth l Z a0 n0 b2 R2 [.ref 0, .int (Int32.ofNat p)] [.inr (.byte, vs)] (fun v H' => v = some (.ref 1) ∧ H' = [.inr (.byte, vs), .inr (.long, [.long (own_l0 B), .long (own_l1 B), .long (own_l2 B), .long (own_l3 B), .long (own_l4 B)])]) := by
  refine Sh.Meth.of pn2 (L := [.val (.ref 0), .val (.int (Int32.ofNat p)), .unset, .unset, .unset, .unset, .unset, .unset]) rfl ?_
  refine Sh.iconst d2_0 (x := 5) rfl ?_
  refine Sh.newarr hw (i := 9) (ty := .long) (dv := .long 0) (N := 5) (cap := 5) (k' := 1) (n' := 5) (a := 1) rfl rfl d2_1 rfl (by decide) rfl (Sh.rp_5) (Sh.le rfl) (by decide) (Sh.le rfl) (Sh.le rfl) rfl rfl rfl (Sh.ap_1) ?_
  refine Sh.astore_n d2_3 rfl (Sh.s1_2 rfl rfl) ?_
  refine Sh.iconst d2_4 (x := 0) rfl ?_
  refine Sh.istore_n d2_5 (Sh.s1_3 rfl rfl) ?_
  refine Sh.iload_n d2_6 rfl ?_
  refine Sh.sipush d2_7 (x := 256) rfl ?_
  refine Sh.icmpF d2_10 (by decide) ?_
  refine Sh.aload_n d2_13 rfl rfl ?_
  refine Sh.iload_n d2_14 rfl ?_
  refine Sh.bipush d2_15 (x := 32) rfl ?_
  refine Sh.iaddE d2_17 (Sh.onAdd _ 32) ?_
  refine Sh.iconst d2_18 (x := 1) rfl ?_
  refine Sh.isubE d2_19 (Sh.onSub (b := 1) (by omega) (by omega)) ?_
  refine Sh.iload_n d2_20 rfl ?_
  refine Sh.bipush d2_21 (x := 8) rfl ?_
  refine Sh.idivE (z := 0) d2_23 (by decide) (by decide) ?_
  refine Sh.isubE d2_24 (Sh.onSub (b := 0) (by omega) (by omega)) ?_
  refine Sh.baload d2_25 rfl (Sh.onNN (by omega)) (Sh.onCl (by omega)) (hB 0 (by decide)) ?_
  refine Sh.sipush d2_26 (x := 255) rfl ?_
  refine Sh.iand d2_29 ?_
  refine Sh.i2l d2_30 ?_
  refine Sh.lstore d2_31 (Sh.s2_4 rfl rfl rfl) ?_
  refine Sh.iload_n d2_33 rfl ?_
  refine Sh.bipush d2_34 (x := 52) rfl ?_
  refine Sh.idivE (z := 0) d2_36 (by decide) (by decide) ?_
  refine Sh.istore d2_37 (Sh.s1_6 rfl rfl) ?_
  refine Sh.iload_n d2_39 rfl ?_
  refine Sh.bipush d2_40 (x := 52) rfl ?_
  refine Sh.iremE (z := 0) d2_42 (by decide) (by decide) ?_
  refine Sh.istore d2_43 (Sh.s1_7 rfl rfl) ?_
  refine Sh.aload_n d2_45 rfl rfl ?_
  refine Sh.iload d2_46 rfl ?_
  refine Sh.dup2 d2_48 rfl rfl ?_
  refine Sh.laload (jn := 0) d2_49 rfl (by decide) rfl rfl ?_
  refine Sh.lload d2_50 rfl ?_
  refine Sh.iload d2_52 rfl ?_
  refine Sh.lshl d2_54 ?_
  refine Sh.ldc2L hw (i := 10) rfl d2_55 ?_
  refine Sh.land d2_58 ?_
  refine Sh.lor d2_59 ?_
  refine Sh.lastore (jn := 0) d2_60 rfl (by decide) rfl (Sh.le rfl) (Sh.ls_0) (Sh.ls_1) ?_
  refine Sh.iload d2_61 rfl ?_
  refine Sh.bipush d2_63 (x := 44) rfl ?_
  refine Sh.icmpT d2_65 (pc' := 85) rfl (by decide) (by decide) ?_
  refine Sh.iinc d2_85 rfl (ci := 8) (y := 8) rfl (by decide) (Sh.s1_3 rfl rfl) ?_
  refine Sh.goto d2_88 (pc' := 6) rfl (by decide) ?_
  refine Sh.iload_n d2_6 rfl ?_
  refine Sh.sipush d2_7 (x := 256) rfl ?_
  refine Sh.icmpF d2_10 (by decide) ?_
  refine Sh.aload_n d2_13 rfl rfl ?_
  refine Sh.iload_n d2_14 rfl ?_
  refine Sh.bipush d2_15 (x := 32) rfl ?_
  refine Sh.iaddE d2_17 (Sh.onAdd _ 32) ?_
  refine Sh.iconst d2_18 (x := 1) rfl ?_
  refine Sh.isubE d2_19 (Sh.onSub (b := 1) (by omega) (by omega)) ?_
  refine Sh.iload_n d2_20 rfl ?_
  refine Sh.bipush d2_21 (x := 8) rfl ?_
  refine Sh.idivE (z := 1) d2_23 (by decide) (by decide) ?_
  refine Sh.isubE d2_24 (Sh.onSub (b := 1) (by omega) (by omega)) ?_
  refine Sh.baload d2_25 rfl (Sh.onNN (by omega)) (Sh.onCl (by omega)) (hB 1 (by decide)) ?_
  refine Sh.sipush d2_26 (x := 255) rfl ?_
  refine Sh.iand d2_29 ?_
  refine Sh.i2l d2_30 ?_
  refine Sh.lstore d2_31 (Sh.s2_4 rfl rfl rfl) ?_
  refine Sh.iload_n d2_33 rfl ?_
  refine Sh.bipush d2_34 (x := 52) rfl ?_
  refine Sh.idivE (z := 0) d2_36 (by decide) (by decide) ?_
  refine Sh.istore d2_37 (Sh.s1_6 rfl rfl) ?_
  refine Sh.iload_n d2_39 rfl ?_
  refine Sh.bipush d2_40 (x := 52) rfl ?_
  refine Sh.iremE (z := 8) d2_42 (by decide) (by decide) ?_
  refine Sh.istore d2_43 (Sh.s1_7 rfl rfl) ?_
  refine Sh.aload_n d2_45 rfl rfl ?_
  refine Sh.iload d2_46 rfl ?_
  refine Sh.dup2 d2_48 rfl rfl ?_
  refine Sh.laload (jn := 0) d2_49 rfl (by decide) rfl rfl ?_
  refine Sh.lload d2_50 rfl ?_
  refine Sh.iload d2_52 rfl ?_
  refine Sh.lshl d2_54 ?_
  refine Sh.ldc2L hw (i := 10) rfl d2_55 ?_
  refine Sh.land d2_58 ?_
  refine Sh.lor d2_59 ?_
  refine Sh.lastore (jn := 0) d2_60 rfl (by decide) rfl (Sh.le rfl) (Sh.ls_0) (Sh.ls_1) ?_
  refine Sh.iload d2_61 rfl ?_
  refine Sh.bipush d2_63 (x := 44) rfl ?_
  refine Sh.icmpT d2_65 (pc' := 85) rfl (by decide) (by decide) ?_
  refine Sh.iinc d2_85 rfl (ci := 8) (y := 16) rfl (by decide) (Sh.s1_3 rfl rfl) ?_
  refine Sh.goto d2_88 (pc' := 6) rfl (by decide) ?_
  refine Sh.iload_n d2_6 rfl ?_
  refine Sh.sipush d2_7 (x := 256) rfl ?_
  refine Sh.icmpF d2_10 (by decide) ?_
  refine Sh.aload_n d2_13 rfl rfl ?_
  refine Sh.iload_n d2_14 rfl ?_
  refine Sh.bipush d2_15 (x := 32) rfl ?_
  refine Sh.iaddE d2_17 (Sh.onAdd _ 32) ?_
  refine Sh.iconst d2_18 (x := 1) rfl ?_
  refine Sh.isubE d2_19 (Sh.onSub (b := 1) (by omega) (by omega)) ?_
  refine Sh.iload_n d2_20 rfl ?_
  refine Sh.bipush d2_21 (x := 8) rfl ?_
  refine Sh.idivE (z := 2) d2_23 (by decide) (by decide) ?_
  refine Sh.isubE d2_24 (Sh.onSub (b := 2) (by omega) (by omega)) ?_
  refine Sh.baload d2_25 rfl (Sh.onNN (by omega)) (Sh.onCl (by omega)) (hB 2 (by decide)) ?_
  refine Sh.sipush d2_26 (x := 255) rfl ?_
  refine Sh.iand d2_29 ?_
  refine Sh.i2l d2_30 ?_
  refine Sh.lstore d2_31 (Sh.s2_4 rfl rfl rfl) ?_
  refine Sh.iload_n d2_33 rfl ?_
  refine Sh.bipush d2_34 (x := 52) rfl ?_
  refine Sh.idivE (z := 0) d2_36 (by decide) (by decide) ?_
  refine Sh.istore d2_37 (Sh.s1_6 rfl rfl) ?_
  refine Sh.iload_n d2_39 rfl ?_
  refine Sh.bipush d2_40 (x := 52) rfl ?_
  refine Sh.iremE (z := 16) d2_42 (by decide) (by decide) ?_
  refine Sh.istore d2_43 (Sh.s1_7 rfl rfl) ?_
  refine Sh.aload_n d2_45 rfl rfl ?_
  refine Sh.iload d2_46 rfl ?_
  refine Sh.dup2 d2_48 rfl rfl ?_
  refine Sh.laload (jn := 0) d2_49 rfl (by decide) rfl rfl ?_
  refine Sh.lload d2_50 rfl ?_
  refine Sh.iload d2_52 rfl ?_
  refine Sh.lshl d2_54 ?_
  refine Sh.ldc2L hw (i := 10) rfl d2_55 ?_
  refine Sh.land d2_58 ?_
  refine Sh.lor d2_59 ?_
  refine Sh.lastore (jn := 0) d2_60 rfl (by decide) rfl (Sh.le rfl) (Sh.ls_0) (Sh.ls_1) ?_
  refine Sh.iload d2_61 rfl ?_
  refine Sh.bipush d2_63 (x := 44) rfl ?_
  refine Sh.icmpT d2_65 (pc' := 85) rfl (by decide) (by decide) ?_
  refine Sh.iinc d2_85 rfl (ci := 8) (y := 24) rfl (by decide) (Sh.s1_3 rfl rfl) ?_
  refine Sh.goto d2_88 (pc' := 6) rfl (by decide) ?_
  refine Sh.iload_n d2_6 rfl ?_
  refine Sh.sipush d2_7 (x := 256) rfl ?_
  refine Sh.icmpF d2_10 (by decide) ?_
  refine Sh.aload_n d2_13 rfl rfl ?_
  refine Sh.iload_n d2_14 rfl ?_
  refine Sh.bipush d2_15 (x := 32) rfl ?_
  refine Sh.iaddE d2_17 (Sh.onAdd _ 32) ?_
  refine Sh.iconst d2_18 (x := 1) rfl ?_
  refine Sh.isubE d2_19 (Sh.onSub (b := 1) (by omega) (by omega)) ?_
  refine Sh.iload_n d2_20 rfl ?_
  refine Sh.bipush d2_21 (x := 8) rfl ?_
  refine Sh.idivE (z := 3) d2_23 (by decide) (by decide) ?_
  refine Sh.isubE d2_24 (Sh.onSub (b := 3) (by omega) (by omega)) ?_
  refine Sh.baload d2_25 rfl (Sh.onNN (by omega)) (Sh.onCl (by omega)) (hB 3 (by decide)) ?_
  refine Sh.sipush d2_26 (x := 255) rfl ?_
  refine Sh.iand d2_29 ?_
  refine Sh.i2l d2_30 ?_
  refine Sh.lstore d2_31 (Sh.s2_4 rfl rfl rfl) ?_
  refine Sh.iload_n d2_33 rfl ?_
  refine Sh.bipush d2_34 (x := 52) rfl ?_
  refine Sh.idivE (z := 0) d2_36 (by decide) (by decide) ?_
  refine Sh.istore d2_37 (Sh.s1_6 rfl rfl) ?_
  refine Sh.iload_n d2_39 rfl ?_
  refine Sh.bipush d2_40 (x := 52) rfl ?_
  refine Sh.iremE (z := 24) d2_42 (by decide) (by decide) ?_
  refine Sh.istore d2_43 (Sh.s1_7 rfl rfl) ?_
  refine Sh.aload_n d2_45 rfl rfl ?_
  refine Sh.iload d2_46 rfl ?_
  refine Sh.dup2 d2_48 rfl rfl ?_
  refine Sh.laload (jn := 0) d2_49 rfl (by decide) rfl rfl ?_
  refine Sh.lload d2_50 rfl ?_
  refine Sh.iload d2_52 rfl ?_
  refine Sh.lshl d2_54 ?_
  refine Sh.ldc2L hw (i := 10) rfl d2_55 ?_
  refine Sh.land d2_58 ?_
  refine Sh.lor d2_59 ?_
  refine Sh.lastore (jn := 0) d2_60 rfl (by decide) rfl (Sh.le rfl) (Sh.ls_0) (Sh.ls_1) ?_
  refine Sh.iload d2_61 rfl ?_
  refine Sh.bipush d2_63 (x := 44) rfl ?_
  refine Sh.icmpT d2_65 (pc' := 85) rfl (by decide) (by decide) ?_
  refine Sh.iinc d2_85 rfl (ci := 8) (y := 32) rfl (by decide) (Sh.s1_3 rfl rfl) ?_
  refine Sh.goto d2_88 (pc' := 6) rfl (by decide) ?_
  refine Sh.iload_n d2_6 rfl ?_
  refine Sh.sipush d2_7 (x := 256) rfl ?_
  refine Sh.icmpF d2_10 (by decide) ?_
  refine Sh.aload_n d2_13 rfl rfl ?_
  refine Sh.iload_n d2_14 rfl ?_
  refine Sh.bipush d2_15 (x := 32) rfl ?_
  refine Sh.iaddE d2_17 (Sh.onAdd _ 32) ?_
  refine Sh.iconst d2_18 (x := 1) rfl ?_
  refine Sh.isubE d2_19 (Sh.onSub (b := 1) (by omega) (by omega)) ?_
  refine Sh.iload_n d2_20 rfl ?_
  refine Sh.bipush d2_21 (x := 8) rfl ?_
  refine Sh.idivE (z := 4) d2_23 (by decide) (by decide) ?_
  refine Sh.isubE d2_24 (Sh.onSub (b := 4) (by omega) (by omega)) ?_
  refine Sh.baload d2_25 rfl (Sh.onNN (by omega)) (Sh.onCl (by omega)) (hB 4 (by decide)) ?_
  refine Sh.sipush d2_26 (x := 255) rfl ?_
  refine Sh.iand d2_29 ?_
  refine Sh.i2l d2_30 ?_
  refine Sh.lstore d2_31 (Sh.s2_4 rfl rfl rfl) ?_
  refine Sh.iload_n d2_33 rfl ?_
  refine Sh.bipush d2_34 (x := 52) rfl ?_
  refine Sh.idivE (z := 0) d2_36 (by decide) (by decide) ?_
  refine Sh.istore d2_37 (Sh.s1_6 rfl rfl) ?_
  refine Sh.iload_n d2_39 rfl ?_
  refine Sh.bipush d2_40 (x := 52) rfl ?_
  refine Sh.iremE (z := 32) d2_42 (by decide) (by decide) ?_
  refine Sh.istore d2_43 (Sh.s1_7 rfl rfl) ?_
  refine Sh.aload_n d2_45 rfl rfl ?_
  refine Sh.iload d2_46 rfl ?_
  refine Sh.dup2 d2_48 rfl rfl ?_
  refine Sh.laload (jn := 0) d2_49 rfl (by decide) rfl rfl ?_
  refine Sh.lload d2_50 rfl ?_
  refine Sh.iload d2_52 rfl ?_
  refine Sh.lshl d2_54 ?_
  refine Sh.ldc2L hw (i := 10) rfl d2_55 ?_
  refine Sh.land d2_58 ?_
  refine Sh.lor d2_59 ?_
  refine Sh.lastore (jn := 0) d2_60 rfl (by decide) rfl (Sh.le rfl) (Sh.ls_0) (Sh.ls_1) ?_
  refine Sh.iload d2_61 rfl ?_
  refine Sh.bipush d2_63 (x := 44) rfl ?_
  refine Sh.icmpT d2_65 (pc' := 85) rfl (by decide) (by decide) ?_
  refine Sh.iinc d2_85 rfl (ci := 8) (y := 40) rfl (by decide) (Sh.s1_3 rfl rfl) ?_
  refine Sh.goto d2_88 (pc' := 6) rfl (by decide) ?_
  refine Sh.iload_n d2_6 rfl ?_
  refine Sh.sipush d2_7 (x := 256) rfl ?_
  refine Sh.icmpF d2_10 (by decide) ?_
  refine Sh.aload_n d2_13 rfl rfl ?_
  refine Sh.iload_n d2_14 rfl ?_
  refine Sh.bipush d2_15 (x := 32) rfl ?_
  refine Sh.iaddE d2_17 (Sh.onAdd _ 32) ?_
  refine Sh.iconst d2_18 (x := 1) rfl ?_
  refine Sh.isubE d2_19 (Sh.onSub (b := 1) (by omega) (by omega)) ?_
  refine Sh.iload_n d2_20 rfl ?_
  refine Sh.bipush d2_21 (x := 8) rfl ?_
  refine Sh.idivE (z := 5) d2_23 (by decide) (by decide) ?_
  refine Sh.isubE d2_24 (Sh.onSub (b := 5) (by omega) (by omega)) ?_
  refine Sh.baload d2_25 rfl (Sh.onNN (by omega)) (Sh.onCl (by omega)) (hB 5 (by decide)) ?_
  refine Sh.sipush d2_26 (x := 255) rfl ?_
  refine Sh.iand d2_29 ?_
  refine Sh.i2l d2_30 ?_
  refine Sh.lstore d2_31 (Sh.s2_4 rfl rfl rfl) ?_
  refine Sh.iload_n d2_33 rfl ?_
  refine Sh.bipush d2_34 (x := 52) rfl ?_
  refine Sh.idivE (z := 0) d2_36 (by decide) (by decide) ?_
  refine Sh.istore d2_37 (Sh.s1_6 rfl rfl) ?_
  refine Sh.iload_n d2_39 rfl ?_
  refine Sh.bipush d2_40 (x := 52) rfl ?_
  refine Sh.iremE (z := 40) d2_42 (by decide) (by decide) ?_
  refine Sh.istore d2_43 (Sh.s1_7 rfl rfl) ?_
  refine Sh.aload_n d2_45 rfl rfl ?_
  refine Sh.iload d2_46 rfl ?_
  refine Sh.dup2 d2_48 rfl rfl ?_
  refine Sh.laload (jn := 0) d2_49 rfl (by decide) rfl rfl ?_
  refine Sh.lload d2_50 rfl ?_
  refine Sh.iload d2_52 rfl ?_
  refine Sh.lshl d2_54 ?_
  refine Sh.ldc2L hw (i := 10) rfl d2_55 ?_
  refine Sh.land d2_58 ?_
  refine Sh.lor d2_59 ?_
  refine Sh.lastore (jn := 0) d2_60 rfl (by decide) rfl (Sh.le rfl) (Sh.ls_0) (Sh.ls_1) ?_
  refine Sh.iload d2_61 rfl ?_
  refine Sh.bipush d2_63 (x := 44) rfl ?_
  refine Sh.icmpT d2_65 (pc' := 85) rfl (by decide) (by decide) ?_
  refine Sh.iinc d2_85 rfl (ci := 8) (y := 48) rfl (by decide) (Sh.s1_3 rfl rfl) ?_
  refine Sh.goto d2_88 (pc' := 6) rfl (by decide) ?_
  refine Sh.iload_n d2_6 rfl ?_
  refine Sh.sipush d2_7 (x := 256) rfl ?_
  refine Sh.icmpF d2_10 (by decide) ?_
  refine Sh.aload_n d2_13 rfl rfl ?_
  refine Sh.iload_n d2_14 rfl ?_
  refine Sh.bipush d2_15 (x := 32) rfl ?_
  refine Sh.iaddE d2_17 (Sh.onAdd _ 32) ?_
  refine Sh.iconst d2_18 (x := 1) rfl ?_
  refine Sh.isubE d2_19 (Sh.onSub (b := 1) (by omega) (by omega)) ?_
  refine Sh.iload_n d2_20 rfl ?_
  refine Sh.bipush d2_21 (x := 8) rfl ?_
  refine Sh.idivE (z := 6) d2_23 (by decide) (by decide) ?_
  refine Sh.isubE d2_24 (Sh.onSub (b := 6) (by omega) (by omega)) ?_
  refine Sh.baload d2_25 rfl (Sh.onNN (by omega)) (Sh.onCl (by omega)) (hB 6 (by decide)) ?_
  refine Sh.sipush d2_26 (x := 255) rfl ?_
  refine Sh.iand d2_29 ?_
  refine Sh.i2l d2_30 ?_
  refine Sh.lstore d2_31 (Sh.s2_4 rfl rfl rfl) ?_
  refine Sh.iload_n d2_33 rfl ?_
  refine Sh.bipush d2_34 (x := 52) rfl ?_
  refine Sh.idivE (z := 0) d2_36 (by decide) (by decide) ?_
  refine Sh.istore d2_37 (Sh.s1_6 rfl rfl) ?_
  refine Sh.iload_n d2_39 rfl ?_
  refine Sh.bipush d2_40 (x := 52) rfl ?_
  refine Sh.iremE (z := 48) d2_42 (by decide) (by decide) ?_
  refine Sh.istore d2_43 (Sh.s1_7 rfl rfl) ?_
  refine Sh.aload_n d2_45 rfl rfl ?_
  refine Sh.iload d2_46 rfl ?_
  refine Sh.dup2 d2_48 rfl rfl ?_
  refine Sh.laload (jn := 0) d2_49 rfl (by decide) rfl rfl ?_
  refine Sh.lload d2_50 rfl ?_
  refine Sh.iload d2_52 rfl ?_
  refine Sh.lshl d2_54 ?_
  refine Sh.ldc2L hw (i := 10) rfl d2_55 ?_
  refine Sh.land d2_58 ?_
  refine Sh.lor d2_59 ?_
  refine Sh.lastore (jn := 0) d2_60 rfl (by decide) rfl (Sh.le rfl) (Sh.ls_0) (Sh.ls_1) ?_
  refine Sh.iload d2_61 rfl ?_
  refine Sh.bipush d2_63 (x := 44) rfl ?_
  refine Sh.icmpF d2_65 (by decide) ?_
  refine Sh.aload_n d2_68 rfl rfl ?_
  refine Sh.iload d2_69 rfl ?_
  refine Sh.iconst d2_71 (x := 1) rfl ?_
  refine Sh.iaddE (z := 1) d2_72 (by decide) ?_
  refine Sh.dup2 d2_73 rfl rfl ?_
  refine Sh.laload (jn := 1) d2_74 rfl (by decide) rfl rfl ?_
  refine Sh.lload d2_75 rfl ?_
  refine Sh.bipush d2_77 (x := 52) rfl ?_
  refine Sh.iload d2_79 rfl ?_
  refine Sh.isubE (z := 4) d2_81 (by decide) ?_
  refine Sh.lushr d2_82 ?_
  refine Sh.lor d2_83 ?_
  refine Sh.lastore (jn := 1) d2_84 rfl (by decide) rfl (Sh.le rfl) (Sh.ls_1) (Sh.ls_1) ?_
  refine Sh.iinc d2_85 rfl (ci := 8) (y := 56) rfl (by decide) (Sh.s1_3 rfl rfl) ?_
  refine Sh.goto d2_88 (pc' := 6) rfl (by decide) ?_
  refine Sh.iload_n d2_6 rfl ?_
  refine Sh.sipush d2_7 (x := 256) rfl ?_
  refine Sh.icmpF d2_10 (by decide) ?_
  refine Sh.aload_n d2_13 rfl rfl ?_
  refine Sh.iload_n d2_14 rfl ?_
  refine Sh.bipush d2_15 (x := 32) rfl ?_
  refine Sh.iaddE d2_17 (Sh.onAdd _ 32) ?_
  refine Sh.iconst d2_18 (x := 1) rfl ?_
  refine Sh.isubE d2_19 (Sh.onSub (b := 1) (by omega) (by omega)) ?_
  refine Sh.iload_n d2_20 rfl ?_
  refine Sh.bipush d2_21 (x := 8) rfl ?_
  refine Sh.idivE (z := 7) d2_23 (by decide) (by decide) ?_
  refine Sh.isubE d2_24 (Sh.onSub (b := 7) (by omega) (by omega)) ?_
  refine Sh.baload d2_25 rfl (Sh.onNN (by omega)) (Sh.onCl (by omega)) (hB 7 (by decide)) ?_
  refine Sh.sipush d2_26 (x := 255) rfl ?_
  refine Sh.iand d2_29 ?_
  refine Sh.i2l d2_30 ?_
  refine Sh.lstore d2_31 (Sh.s2_4 rfl rfl rfl) ?_
  refine Sh.iload_n d2_33 rfl ?_
  refine Sh.bipush d2_34 (x := 52) rfl ?_
  refine Sh.idivE (z := 1) d2_36 (by decide) (by decide) ?_
  refine Sh.istore d2_37 (Sh.s1_6 rfl rfl) ?_
  refine Sh.iload_n d2_39 rfl ?_
  refine Sh.bipush d2_40 (x := 52) rfl ?_
  refine Sh.iremE (z := 4) d2_42 (by decide) (by decide) ?_
  refine Sh.istore d2_43 (Sh.s1_7 rfl rfl) ?_
  refine Sh.aload_n d2_45 rfl rfl ?_
  refine Sh.iload d2_46 rfl ?_
  refine Sh.dup2 d2_48 rfl rfl ?_
  refine Sh.laload (jn := 1) d2_49 rfl (by decide) rfl rfl ?_
  refine Sh.lload d2_50 rfl ?_
  refine Sh.iload d2_52 rfl ?_
  refine Sh.lshl d2_54 ?_
  refine Sh.ldc2L hw (i := 10) rfl d2_55 ?_
  refine Sh.land d2_58 ?_
  refine Sh.lor d2_59 ?_
  refine Sh.lastore (jn := 1) d2_60 rfl (by decide) rfl (Sh.le rfl) (Sh.ls_1) (Sh.ls_1) ?_
  refine Sh.iload d2_61 rfl ?_
  refine Sh.bipush d2_63 (x := 44) rfl ?_
  refine Sh.icmpT d2_65 (pc' := 85) rfl (by decide) (by decide) ?_
  refine Sh.iinc d2_85 rfl (ci := 8) (y := 64) rfl (by decide) (Sh.s1_3 rfl rfl) ?_
  refine Sh.goto d2_88 (pc' := 6) rfl (by decide) ?_
  refine Sh.iload_n d2_6 rfl ?_
  refine Sh.sipush d2_7 (x := 256) rfl ?_
  refine Sh.icmpF d2_10 (by decide) ?_
  refine Sh.aload_n d2_13 rfl rfl ?_
  refine Sh.iload_n d2_14 rfl ?_
  refine Sh.bipush d2_15 (x := 32) rfl ?_
  refine Sh.iaddE d2_17 (Sh.onAdd _ 32) ?_
  refine Sh.iconst d2_18 (x := 1) rfl ?_
  refine Sh.isubE d2_19 (Sh.onSub (b := 1) (by omega) (by omega)) ?_
  refine Sh.iload_n d2_20 rfl ?_
  refine Sh.bipush d2_21 (x := 8) rfl ?_
  refine Sh.idivE (z := 8) d2_23 (by decide) (by decide) ?_
  refine Sh.isubE d2_24 (Sh.onSub (b := 8) (by omega) (by omega)) ?_
  refine Sh.baload d2_25 rfl (Sh.onNN (by omega)) (Sh.onCl (by omega)) (hB 8 (by decide)) ?_
  refine Sh.sipush d2_26 (x := 255) rfl ?_
  refine Sh.iand d2_29 ?_
  refine Sh.i2l d2_30 ?_
  refine Sh.lstore d2_31 (Sh.s2_4 rfl rfl rfl) ?_
  refine Sh.iload_n d2_33 rfl ?_
  refine Sh.bipush d2_34 (x := 52) rfl ?_
  refine Sh.idivE (z := 1) d2_36 (by decide) (by decide) ?_
  refine Sh.istore d2_37 (Sh.s1_6 rfl rfl) ?_
  refine Sh.iload_n d2_39 rfl ?_
  refine Sh.bipush d2_40 (x := 52) rfl ?_
  refine Sh.iremE (z := 12) d2_42 (by decide) (by decide) ?_
  refine Sh.istore d2_43 (Sh.s1_7 rfl rfl) ?_
  refine Sh.aload_n d2_45 rfl rfl ?_
  refine Sh.iload d2_46 rfl ?_
  refine Sh.dup2 d2_48 rfl rfl ?_
  refine Sh.laload (jn := 1) d2_49 rfl (by decide) rfl rfl ?_
  refine Sh.lload d2_50 rfl ?_
  refine Sh.iload d2_52 rfl ?_
  refine Sh.lshl d2_54 ?_
  refine Sh.ldc2L hw (i := 10) rfl d2_55 ?_
  refine Sh.land d2_58 ?_
  refine Sh.lor d2_59 ?_
  refine Sh.lastore (jn := 1) d2_60 rfl (by decide) rfl (Sh.le rfl) (Sh.ls_1) (Sh.ls_1) ?_
  refine Sh.iload d2_61 rfl ?_
  refine Sh.bipush d2_63 (x := 44) rfl ?_
  refine Sh.icmpT d2_65 (pc' := 85) rfl (by decide) (by decide) ?_
  refine Sh.iinc d2_85 rfl (ci := 8) (y := 72) rfl (by decide) (Sh.s1_3 rfl rfl) ?_
  refine Sh.goto d2_88 (pc' := 6) rfl (by decide) ?_
  refine Sh.iload_n d2_6 rfl ?_
  refine Sh.sipush d2_7 (x := 256) rfl ?_
  refine Sh.icmpF d2_10 (by decide) ?_
  refine Sh.aload_n d2_13 rfl rfl ?_
  refine Sh.iload_n d2_14 rfl ?_
  refine Sh.bipush d2_15 (x := 32) rfl ?_
  refine Sh.iaddE d2_17 (Sh.onAdd _ 32) ?_
  refine Sh.iconst d2_18 (x := 1) rfl ?_
  refine Sh.isubE d2_19 (Sh.onSub (b := 1) (by omega) (by omega)) ?_
  refine Sh.iload_n d2_20 rfl ?_
  refine Sh.bipush d2_21 (x := 8) rfl ?_
  refine Sh.idivE (z := 9) d2_23 (by decide) (by decide) ?_
  refine Sh.isubE d2_24 (Sh.onSub (b := 9) (by omega) (by omega)) ?_
  refine Sh.baload d2_25 rfl (Sh.onNN (by omega)) (Sh.onCl (by omega)) (hB 9 (by decide)) ?_
  refine Sh.sipush d2_26 (x := 255) rfl ?_
  refine Sh.iand d2_29 ?_
  refine Sh.i2l d2_30 ?_
  refine Sh.lstore d2_31 (Sh.s2_4 rfl rfl rfl) ?_
  refine Sh.iload_n d2_33 rfl ?_
  refine Sh.bipush d2_34 (x := 52) rfl ?_
  refine Sh.idivE (z := 1) d2_36 (by decide) (by decide) ?_
  refine Sh.istore d2_37 (Sh.s1_6 rfl rfl) ?_
  refine Sh.iload_n d2_39 rfl ?_
  refine Sh.bipush d2_40 (x := 52) rfl ?_
  refine Sh.iremE (z := 20) d2_42 (by decide) (by decide) ?_
  refine Sh.istore d2_43 (Sh.s1_7 rfl rfl) ?_
  refine Sh.aload_n d2_45 rfl rfl ?_
  refine Sh.iload d2_46 rfl ?_
  refine Sh.dup2 d2_48 rfl rfl ?_
  refine Sh.laload (jn := 1) d2_49 rfl (by decide) rfl rfl ?_
  refine Sh.lload d2_50 rfl ?_
  refine Sh.iload d2_52 rfl ?_
  refine Sh.lshl d2_54 ?_
  refine Sh.ldc2L hw (i := 10) rfl d2_55 ?_
  refine Sh.land d2_58 ?_
  refine Sh.lor d2_59 ?_
  refine Sh.lastore (jn := 1) d2_60 rfl (by decide) rfl (Sh.le rfl) (Sh.ls_1) (Sh.ls_1) ?_
  refine Sh.iload d2_61 rfl ?_
  refine Sh.bipush d2_63 (x := 44) rfl ?_
  refine Sh.icmpT d2_65 (pc' := 85) rfl (by decide) (by decide) ?_
  refine Sh.iinc d2_85 rfl (ci := 8) (y := 80) rfl (by decide) (Sh.s1_3 rfl rfl) ?_
  refine Sh.goto d2_88 (pc' := 6) rfl (by decide) ?_
  refine Sh.iload_n d2_6 rfl ?_
  refine Sh.sipush d2_7 (x := 256) rfl ?_
  refine Sh.icmpF d2_10 (by decide) ?_
  refine Sh.aload_n d2_13 rfl rfl ?_
  refine Sh.iload_n d2_14 rfl ?_
  refine Sh.bipush d2_15 (x := 32) rfl ?_
  refine Sh.iaddE d2_17 (Sh.onAdd _ 32) ?_
  refine Sh.iconst d2_18 (x := 1) rfl ?_
  refine Sh.isubE d2_19 (Sh.onSub (b := 1) (by omega) (by omega)) ?_
  refine Sh.iload_n d2_20 rfl ?_
  refine Sh.bipush d2_21 (x := 8) rfl ?_
  refine Sh.idivE (z := 10) d2_23 (by decide) (by decide) ?_
  refine Sh.isubE d2_24 (Sh.onSub (b := 10) (by omega) (by omega)) ?_
  refine Sh.baload d2_25 rfl (Sh.onNN (by omega)) (Sh.onCl (by omega)) (hB 10 (by decide)) ?_
  refine Sh.sipush d2_26 (x := 255) rfl ?_
  refine Sh.iand d2_29 ?_
  refine Sh.i2l d2_30 ?_
  refine Sh.lstore d2_31 (Sh.s2_4 rfl rfl rfl) ?_
  refine Sh.iload_n d2_33 rfl ?_
  refine Sh.bipush d2_34 (x := 52) rfl ?_
  refine Sh.idivE (z := 1) d2_36 (by decide) (by decide) ?_
  refine Sh.istore d2_37 (Sh.s1_6 rfl rfl) ?_
  refine Sh.iload_n d2_39 rfl ?_
  refine Sh.bipush d2_40 (x := 52) rfl ?_
  refine Sh.iremE (z := 28) d2_42 (by decide) (by decide) ?_
  refine Sh.istore d2_43 (Sh.s1_7 rfl rfl) ?_
  refine Sh.aload_n d2_45 rfl rfl ?_
  refine Sh.iload d2_46 rfl ?_
  refine Sh.dup2 d2_48 rfl rfl ?_
  refine Sh.laload (jn := 1) d2_49 rfl (by decide) rfl rfl ?_
  refine Sh.lload d2_50 rfl ?_
  refine Sh.iload d2_52 rfl ?_
  refine Sh.lshl d2_54 ?_
  refine Sh.ldc2L hw (i := 10) rfl d2_55 ?_
  refine Sh.land d2_58 ?_
  refine Sh.lor d2_59 ?_
  refine Sh.lastore (jn := 1) d2_60 rfl (by decide) rfl (Sh.le rfl) (Sh.ls_1) (Sh.ls_1) ?_
  refine Sh.iload d2_61 rfl ?_
  refine Sh.bipush d2_63 (x := 44) rfl ?_
  refine Sh.icmpT d2_65 (pc' := 85) rfl (by decide) (by decide) ?_
  refine Sh.iinc d2_85 rfl (ci := 8) (y := 88) rfl (by decide) (Sh.s1_3 rfl rfl) ?_
  refine Sh.goto d2_88 (pc' := 6) rfl (by decide) ?_
  refine Sh.iload_n d2_6 rfl ?_
  refine Sh.sipush d2_7 (x := 256) rfl ?_
  refine Sh.icmpF d2_10 (by decide) ?_
  refine Sh.aload_n d2_13 rfl rfl ?_
  refine Sh.iload_n d2_14 rfl ?_
  refine Sh.bipush d2_15 (x := 32) rfl ?_
  refine Sh.iaddE d2_17 (Sh.onAdd _ 32) ?_
  refine Sh.iconst d2_18 (x := 1) rfl ?_
  refine Sh.isubE d2_19 (Sh.onSub (b := 1) (by omega) (by omega)) ?_
  refine Sh.iload_n d2_20 rfl ?_
  refine Sh.bipush d2_21 (x := 8) rfl ?_
  refine Sh.idivE (z := 11) d2_23 (by decide) (by decide) ?_
  refine Sh.isubE d2_24 (Sh.onSub (b := 11) (by omega) (by omega)) ?_
  refine Sh.baload d2_25 rfl (Sh.onNN (by omega)) (Sh.onCl (by omega)) (hB 11 (by decide)) ?_
  refine Sh.sipush d2_26 (x := 255) rfl ?_
  refine Sh.iand d2_29 ?_
  refine Sh.i2l d2_30 ?_
  refine Sh.lstore d2_31 (Sh.s2_4 rfl rfl rfl) ?_
  refine Sh.iload_n d2_33 rfl ?_
  refine Sh.bipush d2_34 (x := 52) rfl ?_
  refine Sh.idivE (z := 1) d2_36 (by decide) (by decide) ?_
  refine Sh.istore d2_37 (Sh.s1_6 rfl rfl) ?_
  refine Sh.iload_n d2_39 rfl ?_
  refine Sh.bipush d2_40 (x := 52) rfl ?_
  refine Sh.iremE (z := 36) d2_42 (by decide) (by decide) ?_
  refine Sh.istore d2_43 (Sh.s1_7 rfl rfl) ?_
  refine Sh.aload_n d2_45 rfl rfl ?_
  refine Sh.iload d2_46 rfl ?_
  refine Sh.dup2 d2_48 rfl rfl ?_
  refine Sh.laload (jn := 1) d2_49 rfl (by decide) rfl rfl ?_
  refine Sh.lload d2_50 rfl ?_
  refine Sh.iload d2_52 rfl ?_
  refine Sh.lshl d2_54 ?_
  refine Sh.ldc2L hw (i := 10) rfl d2_55 ?_
  refine Sh.land d2_58 ?_
  refine Sh.lor d2_59 ?_
  refine Sh.lastore (jn := 1) d2_60 rfl (by decide) rfl (Sh.le rfl) (Sh.ls_1) (Sh.ls_1) ?_
  refine Sh.iload d2_61 rfl ?_
  refine Sh.bipush d2_63 (x := 44) rfl ?_
  refine Sh.icmpT d2_65 (pc' := 85) rfl (by decide) (by decide) ?_
  refine Sh.iinc d2_85 rfl (ci := 8) (y := 96) rfl (by decide) (Sh.s1_3 rfl rfl) ?_
  refine Sh.goto d2_88 (pc' := 6) rfl (by decide) ?_
  refine Sh.iload_n d2_6 rfl ?_
  refine Sh.sipush d2_7 (x := 256) rfl ?_
  refine Sh.icmpF d2_10 (by decide) ?_
  refine Sh.aload_n d2_13 rfl rfl ?_
  refine Sh.iload_n d2_14 rfl ?_
  refine Sh.bipush d2_15 (x := 32) rfl ?_
  refine Sh.iaddE d2_17 (Sh.onAdd _ 32) ?_
  refine Sh.iconst d2_18 (x := 1) rfl ?_
  refine Sh.isubE d2_19 (Sh.onSub (b := 1) (by omega) (by omega)) ?_
  refine Sh.iload_n d2_20 rfl ?_
  refine Sh.bipush d2_21 (x := 8) rfl ?_
  refine Sh.idivE (z := 12) d2_23 (by decide) (by decide) ?_
  refine Sh.isubE d2_24 (Sh.onSub (b := 12) (by omega) (by omega)) ?_
  refine Sh.baload d2_25 rfl (Sh.onNN (by omega)) (Sh.onCl (by omega)) (hB 12 (by decide)) ?_
  refine Sh.sipush d2_26 (x := 255) rfl ?_
  refine Sh.iand d2_29 ?_
  refine Sh.i2l d2_30 ?_
  refine Sh.lstore d2_31 (Sh.s2_4 rfl rfl rfl) ?_
  refine Sh.iload_n d2_33 rfl ?_
  refine Sh.bipush d2_34 (x := 52) rfl ?_
  refine Sh.idivE (z := 1) d2_36 (by decide) (by decide) ?_
  refine Sh.istore d2_37 (Sh.s1_6 rfl rfl) ?_
  refine Sh.iload_n d2_39 rfl ?_
  refine Sh.bipush d2_40 (x := 52) rfl ?_
  refine Sh.iremE (z := 44) d2_42 (by decide) (by decide) ?_
  refine Sh.istore d2_43 (Sh.s1_7 rfl rfl) ?_
  refine Sh.aload_n d2_45 rfl rfl ?_
  refine Sh.iload d2_46 rfl ?_
  refine Sh.dup2 d2_48 rfl rfl ?_
  refine Sh.laload (jn := 1) d2_49 rfl (by decide) rfl rfl ?_
  refine Sh.lload d2_50 rfl ?_
  refine Sh.iload d2_52 rfl ?_
  refine Sh.lshl d2_54 ?_
  refine Sh.ldc2L hw (i := 10) rfl d2_55 ?_
  refine Sh.land d2_58 ?_
  refine Sh.lor d2_59 ?_
  refine Sh.lastore (jn := 1) d2_60 rfl (by decide) rfl (Sh.le rfl) (Sh.ls_1) (Sh.ls_1) ?_
  refine Sh.iload d2_61 rfl ?_
  refine Sh.bipush d2_63 (x := 44) rfl ?_
  refine Sh.icmpT d2_65 (pc' := 85) rfl (by decide) (by decide) ?_
  refine Sh.iinc d2_85 rfl (ci := 8) (y := 104) rfl (by decide) (Sh.s1_3 rfl rfl) ?_
  refine Sh.goto d2_88 (pc' := 6) rfl (by decide) ?_
  refine Sh.iload_n d2_6 rfl ?_
  refine Sh.sipush d2_7 (x := 256) rfl ?_
  refine Sh.icmpF d2_10 (by decide) ?_
  refine Sh.aload_n d2_13 rfl rfl ?_
  refine Sh.iload_n d2_14 rfl ?_
  refine Sh.bipush d2_15 (x := 32) rfl ?_
  refine Sh.iaddE d2_17 (Sh.onAdd _ 32) ?_
  refine Sh.iconst d2_18 (x := 1) rfl ?_
  refine Sh.isubE d2_19 (Sh.onSub (b := 1) (by omega) (by omega)) ?_
  refine Sh.iload_n d2_20 rfl ?_
  refine Sh.bipush d2_21 (x := 8) rfl ?_
  refine Sh.idivE (z := 13) d2_23 (by decide) (by decide) ?_
  refine Sh.isubE d2_24 (Sh.onSub (b := 13) (by omega) (by omega)) ?_
  refine Sh.baload d2_25 rfl (Sh.onNN (by omega)) (Sh.onCl (by omega)) (hB 13 (by decide)) ?_
  refine Sh.sipush d2_26 (x := 255) rfl ?_
  refine Sh.iand d2_29 ?_
  refine Sh.i2l d2_30 ?_
  refine Sh.lstore d2_31 (Sh.s2_4 rfl rfl rfl) ?_
  refine Sh.iload_n d2_33 rfl ?_
  refine Sh.bipush d2_34 (x := 52) rfl ?_
  refine Sh.idivE (z := 2) d2_36 (by decide) (by decide) ?_
  refine Sh.istore d2_37 (Sh.s1_6 rfl rfl) ?_
  refine Sh.iload_n d2_39 rfl ?_
  refine Sh.bipush d2_40 (x := 52) rfl ?_
  refine Sh.iremE (z := 0) d2_42 (by decide) (by decide) ?_
  refine Sh.istore d2_43 (Sh.s1_7 rfl rfl) ?_
  refine Sh.aload_n d2_45 rfl rfl ?_
  refine Sh.iload d2_46 rfl ?_
  refine Sh.dup2 d2_48 rfl rfl ?_
  refine Sh.laload (jn := 2) d2_49 rfl (by decide) rfl rfl ?_
  refine Sh.lload d2_50 rfl ?_
  refine Sh.iload d2_52 rfl ?_
  refine Sh.lshl d2_54 ?_
  refine Sh.ldc2L hw (i := 10) rfl d2_55 ?_
  refine Sh.land d2_58 ?_
  refine Sh.lor d2_59 ?_
  refine Sh.lastore (jn := 2) d2_60 rfl (by decide) rfl (Sh.le rfl) (Sh.ls_2) (Sh.ls_1) ?_
  refine Sh.iload d2_61 rfl ?_
  refine Sh.bipush d2_63 (x := 44) rfl ?_
  refine Sh.icmpT d2_65 (pc' := 85) rfl (by decide) (by decide) ?_
  refine Sh.iinc d2_85 rfl (ci := 8) (y := 112) rfl (by decide) (Sh.s1_3 rfl rfl) ?_
  refine Sh.goto d2_88 (pc' := 6) rfl (by decide) ?_
  refine Sh.iload_n d2_6 rfl ?_
  refine Sh.sipush d2_7 (x := 256) rfl ?_
  refine Sh.icmpF d2_10 (by decide) ?_
  refine Sh.aload_n d2_13 rfl rfl ?_
  refine Sh.iload_n d2_14 rfl ?_
  refine Sh.bipush d2_15 (x := 32) rfl ?_
  refine Sh.iaddE d2_17 (Sh.onAdd _ 32) ?_
  refine Sh.iconst d2_18 (x := 1) rfl ?_
  refine Sh.isubE d2_19 (Sh.onSub (b := 1) (by omega) (by omega)) ?_
  refine Sh.iload_n d2_20 rfl ?_
  refine Sh.bipush d2_21 (x := 8) rfl ?_
  refine Sh.idivE (z := 14) d2_23 (by decide) (by decide) ?_
  refine Sh.isubE d2_24 (Sh.onSub (b := 14) (by omega) (by omega)) ?_
  refine Sh.baload d2_25 rfl (Sh.onNN (by omega)) (Sh.onCl (by omega)) (hB 14 (by decide)) ?_
  refine Sh.sipush d2_26 (x := 255) rfl ?_
  refine Sh.iand d2_29 ?_
  refine Sh.i2l d2_30 ?_
  refine Sh.lstore d2_31 (Sh.s2_4 rfl rfl rfl) ?_
  refine Sh.iload_n d2_33 rfl ?_
  refine Sh.bipush d2_34 (x := 52) rfl ?_
  refine Sh.idivE (z := 2) d2_36 (by decide) (by decide) ?_
  refine Sh.istore d2_37 (Sh.s1_6 rfl rfl) ?_
  refine Sh.iload_n d2_39 rfl ?_
  refine Sh.bipush d2_40 (x := 52) rfl ?_
  refine Sh.iremE (z := 8) d2_42 (by decide) (by decide) ?_
  refine Sh.istore d2_43 (Sh.s1_7 rfl rfl) ?_
  refine Sh.aload_n d2_45 rfl rfl ?_
  refine Sh.iload d2_46 rfl ?_
  refine Sh.dup2 d2_48 rfl rfl ?_
  refine Sh.laload (jn := 2) d2_49 rfl (by decide) rfl rfl ?_
  refine Sh.lload d2_50 rfl ?_
  refine Sh.iload d2_52 rfl ?_
  refine Sh.lshl d2_54 ?_
  refine Sh.ldc2L hw (i := 10) rfl d2_55 ?_
  refine Sh.land d2_58 ?_
  refine Sh.lor d2_59 ?_
  refine Sh.lastore (jn := 2) d2_60 rfl (by decide) rfl (Sh.le rfl) (Sh.ls_2) (Sh.ls_1) ?_
  refine Sh.iload d2_61 rfl ?_
  refine Sh.bipush d2_63 (x := 44) rfl ?_
  refine Sh.icmpT d2_65 (pc' := 85) rfl (by decide) (by decide) ?_
  refine Sh.iinc d2_85 rfl (ci := 8) (y := 120) rfl (by decide) (Sh.s1_3 rfl rfl) ?_
  refine Sh.goto d2_88 (pc' := 6) rfl (by decide) ?_
  refine Sh.iload_n d2_6 rfl ?_
  refine Sh.sipush d2_7 (x := 256) rfl ?_
  refine Sh.icmpF d2_10 (by decide) ?_
  refine Sh.aload_n d2_13 rfl rfl ?_
  refine Sh.iload_n d2_14 rfl ?_
  refine Sh.bipush d2_15 (x := 32) rfl ?_
  refine Sh.iaddE d2_17 (Sh.onAdd _ 32) ?_
  refine Sh.iconst d2_18 (x := 1) rfl ?_
  refine Sh.isubE d2_19 (Sh.onSub (b := 1) (by omega) (by omega)) ?_
  refine Sh.iload_n d2_20 rfl ?_
  refine Sh.bipush d2_21 (x := 8) rfl ?_
  refine Sh.idivE (z := 15) d2_23 (by decide) (by decide) ?_
  refine Sh.isubE d2_24 (Sh.onSub (b := 15) (by omega) (by omega)) ?_
  refine Sh.baload d2_25 rfl (Sh.onNN (by omega)) (Sh.onCl (by omega)) (hB 15 (by decide)) ?_
  refine Sh.sipush d2_26 (x := 255) rfl ?_
  refine Sh.iand d2_29 ?_
  refine Sh.i2l d2_30 ?_
  refine Sh.lstore d2_31 (Sh.s2_4 rfl rfl rfl) ?_
  refine Sh.iload_n d2_33 rfl ?_
  refine Sh.bipush d2_34 (x := 52) rfl ?_
  refine Sh.idivE (z := 2) d2_36 (by decide) (by decide) ?_
  refine Sh.istore d2_37 (Sh.s1_6 rfl rfl) ?_
  refine Sh.iload_n d2_39 rfl ?_
  refine Sh.bipush d2_40 (x := 52) rfl ?_
  refine Sh.iremE (z := 16) d2_42 (by decide) (by decide) ?_
  refine Sh.istore d2_43 (Sh.s1_7 rfl rfl) ?_
  refine Sh.aload_n d2_45 rfl rfl ?_
  refine Sh.iload d2_46 rfl ?_
  refine Sh.dup2 d2_48 rfl rfl ?_
  refine Sh.laload (jn := 2) d2_49 rfl (by decide) rfl rfl ?_
  refine Sh.lload d2_50 rfl ?_
  refine Sh.iload d2_52 rfl ?_
  refine Sh.lshl d2_54 ?_
  refine Sh.ldc2L hw (i := 10) rfl d2_55 ?_
  refine Sh.land d2_58 ?_
  refine Sh.lor d2_59 ?_
  refine Sh.lastore (jn := 2) d2_60 rfl (by decide) rfl (Sh.le rfl) (Sh.ls_2) (Sh.ls_1) ?_
  refine Sh.iload d2_61 rfl ?_
  refine Sh.bipush d2_63 (x := 44) rfl ?_
  refine Sh.icmpT d2_65 (pc' := 85) rfl (by decide) (by decide) ?_
  refine Sh.iinc d2_85 rfl (ci := 8) (y := 128) rfl (by decide) (Sh.s1_3 rfl rfl) ?_
  refine Sh.goto d2_88 (pc' := 6) rfl (by decide) ?_
  refine Sh.iload_n d2_6 rfl ?_
  refine Sh.sipush d2_7 (x := 256) rfl ?_
  refine Sh.icmpF d2_10 (by decide) ?_
  refine Sh.aload_n d2_13 rfl rfl ?_
  refine Sh.iload_n d2_14 rfl ?_
  refine Sh.bipush d2_15 (x := 32) rfl ?_
  refine Sh.iaddE d2_17 (Sh.onAdd _ 32) ?_
  refine Sh.iconst d2_18 (x := 1) rfl ?_
  refine Sh.isubE d2_19 (Sh.onSub (b := 1) (by omega) (by omega)) ?_
  refine Sh.iload_n d2_20 rfl ?_
  refine Sh.bipush d2_21 (x := 8) rfl ?_
  refine Sh.idivE (z := 16) d2_23 (by decide) (by decide) ?_
  refine Sh.isubE d2_24 (Sh.onSub (b := 16) (by omega) (by omega)) ?_
  refine Sh.baload d2_25 rfl (Sh.onNN (by omega)) (Sh.onCl (by omega)) (hB 16 (by decide)) ?_
  refine Sh.sipush d2_26 (x := 255) rfl ?_
  refine Sh.iand d2_29 ?_
  refine Sh.i2l d2_30 ?_
  refine Sh.lstore d2_31 (Sh.s2_4 rfl rfl rfl) ?_
  refine Sh.iload_n d2_33 rfl ?_
  refine Sh.bipush d2_34 (x := 52) rfl ?_
  refine Sh.idivE (z := 2) d2_36 (by decide) (by decide) ?_
  refine Sh.istore d2_37 (Sh.s1_6 rfl rfl) ?_
  refine Sh.iload_n d2_39 rfl ?_
  refine Sh.bipush d2_40 (x := 52) rfl ?_
  refine Sh.iremE (z := 24) d2_42 (by decide) (by decide) ?_
  refine Sh.istore d2_43 (Sh.s1_7 rfl rfl) ?_
  refine Sh.aload_n d2_45 rfl rfl ?_
  refine Sh.iload d2_46 rfl ?_
  refine Sh.dup2 d2_48 rfl rfl ?_
  refine Sh.laload (jn := 2) d2_49 rfl (by decide) rfl rfl ?_
  refine Sh.lload d2_50 rfl ?_
  refine Sh.iload d2_52 rfl ?_
  refine Sh.lshl d2_54 ?_
  refine Sh.ldc2L hw (i := 10) rfl d2_55 ?_
  refine Sh.land d2_58 ?_
  refine Sh.lor d2_59 ?_
  refine Sh.lastore (jn := 2) d2_60 rfl (by decide) rfl (Sh.le rfl) (Sh.ls_2) (Sh.ls_1) ?_
  refine Sh.iload d2_61 rfl ?_
  refine Sh.bipush d2_63 (x := 44) rfl ?_
  refine Sh.icmpT d2_65 (pc' := 85) rfl (by decide) (by decide) ?_
  refine Sh.iinc d2_85 rfl (ci := 8) (y := 136) rfl (by decide) (Sh.s1_3 rfl rfl) ?_
  refine Sh.goto d2_88 (pc' := 6) rfl (by decide) ?_
  refine Sh.iload_n d2_6 rfl ?_
  refine Sh.sipush d2_7 (x := 256) rfl ?_
  refine Sh.icmpF d2_10 (by decide) ?_
  refine Sh.aload_n d2_13 rfl rfl ?_
  refine Sh.iload_n d2_14 rfl ?_
  refine Sh.bipush d2_15 (x := 32) rfl ?_
  refine Sh.iaddE d2_17 (Sh.onAdd _ 32) ?_
  refine Sh.iconst d2_18 (x := 1) rfl ?_
  refine Sh.isubE d2_19 (Sh.onSub (b := 1) (by omega) (by omega)) ?_
  refine Sh.iload_n d2_20 rfl ?_
  refine Sh.bipush d2_21 (x := 8) rfl ?_
  refine Sh.idivE (z := 17) d2_23 (by decide) (by decide) ?_
  refine Sh.isubE d2_24 (Sh.onSub (b := 17) (by omega) (by omega)) ?_
  refine Sh.baload d2_25 rfl (Sh.onNN (by omega)) (Sh.onCl (by omega)) (hB 17 (by decide)) ?_
  refine Sh.sipush d2_26 (x := 255) rfl ?_
  refine Sh.iand d2_29 ?_
  refine Sh.i2l d2_30 ?_
  refine Sh.lstore d2_31 (Sh.s2_4 rfl rfl rfl) ?_
  refine Sh.iload_n d2_33 rfl ?_
  refine Sh.bipush d2_34 (x := 52) rfl ?_
  refine Sh.idivE (z := 2) d2_36 (by decide) (by decide) ?_
  refine Sh.istore d2_37 (Sh.s1_6 rfl rfl) ?_
  refine Sh.iload_n d2_39 rfl ?_
  refine Sh.bipush d2_40 (x := 52) rfl ?_
  refine Sh.iremE (z := 32) d2_42 (by decide) (by decide) ?_
  refine Sh.istore d2_43 (Sh.s1_7 rfl rfl) ?_
  refine Sh.aload_n d2_45 rfl rfl ?_
  refine Sh.iload d2_46 rfl ?_
  refine Sh.dup2 d2_48 rfl rfl ?_
  refine Sh.laload (jn := 2) d2_49 rfl (by decide) rfl rfl ?_
  refine Sh.lload d2_50 rfl ?_
  refine Sh.iload d2_52 rfl ?_
  refine Sh.lshl d2_54 ?_
  refine Sh.ldc2L hw (i := 10) rfl d2_55 ?_
  refine Sh.land d2_58 ?_
  refine Sh.lor d2_59 ?_
  refine Sh.lastore (jn := 2) d2_60 rfl (by decide) rfl (Sh.le rfl) (Sh.ls_2) (Sh.ls_1) ?_
  refine Sh.iload d2_61 rfl ?_
  refine Sh.bipush d2_63 (x := 44) rfl ?_
  refine Sh.icmpT d2_65 (pc' := 85) rfl (by decide) (by decide) ?_
  refine Sh.iinc d2_85 rfl (ci := 8) (y := 144) rfl (by decide) (Sh.s1_3 rfl rfl) ?_
  refine Sh.goto d2_88 (pc' := 6) rfl (by decide) ?_
  refine Sh.iload_n d2_6 rfl ?_
  refine Sh.sipush d2_7 (x := 256) rfl ?_
  refine Sh.icmpF d2_10 (by decide) ?_
  refine Sh.aload_n d2_13 rfl rfl ?_
  refine Sh.iload_n d2_14 rfl ?_
  refine Sh.bipush d2_15 (x := 32) rfl ?_
  refine Sh.iaddE d2_17 (Sh.onAdd _ 32) ?_
  refine Sh.iconst d2_18 (x := 1) rfl ?_
  refine Sh.isubE d2_19 (Sh.onSub (b := 1) (by omega) (by omega)) ?_
  refine Sh.iload_n d2_20 rfl ?_
  refine Sh.bipush d2_21 (x := 8) rfl ?_
  refine Sh.idivE (z := 18) d2_23 (by decide) (by decide) ?_
  refine Sh.isubE d2_24 (Sh.onSub (b := 18) (by omega) (by omega)) ?_
  refine Sh.baload d2_25 rfl (Sh.onNN (by omega)) (Sh.onCl (by omega)) (hB 18 (by decide)) ?_
  refine Sh.sipush d2_26 (x := 255) rfl ?_
  refine Sh.iand d2_29 ?_
  refine Sh.i2l d2_30 ?_
  refine Sh.lstore d2_31 (Sh.s2_4 rfl rfl rfl) ?_
  refine Sh.iload_n d2_33 rfl ?_
  refine Sh.bipush d2_34 (x := 52) rfl ?_
  refine Sh.idivE (z := 2) d2_36 (by decide) (by decide) ?_
  refine Sh.istore d2_37 (Sh.s1_6 rfl rfl) ?_
  refine Sh.iload_n d2_39 rfl ?_
  refine Sh.bipush d2_40 (x := 52) rfl ?_
  refine Sh.iremE (z := 40) d2_42 (by decide) (by decide) ?_
  refine Sh.istore d2_43 (Sh.s1_7 rfl rfl) ?_
  refine Sh.aload_n d2_45 rfl rfl ?_
  refine Sh.iload d2_46 rfl ?_
  refine Sh.dup2 d2_48 rfl rfl ?_
  refine Sh.laload (jn := 2) d2_49 rfl (by decide) rfl rfl ?_
  refine Sh.lload d2_50 rfl ?_
  refine Sh.iload d2_52 rfl ?_
  refine Sh.lshl d2_54 ?_
  refine Sh.ldc2L hw (i := 10) rfl d2_55 ?_
  refine Sh.land d2_58 ?_
  refine Sh.lor d2_59 ?_
  refine Sh.lastore (jn := 2) d2_60 rfl (by decide) rfl (Sh.le rfl) (Sh.ls_2) (Sh.ls_1) ?_
  refine Sh.iload d2_61 rfl ?_
  refine Sh.bipush d2_63 (x := 44) rfl ?_
  refine Sh.icmpT d2_65 (pc' := 85) rfl (by decide) (by decide) ?_
  refine Sh.iinc d2_85 rfl (ci := 8) (y := 152) rfl (by decide) (Sh.s1_3 rfl rfl) ?_
  refine Sh.goto d2_88 (pc' := 6) rfl (by decide) ?_
  refine Sh.iload_n d2_6 rfl ?_
  refine Sh.sipush d2_7 (x := 256) rfl ?_
  refine Sh.icmpF d2_10 (by decide) ?_
  refine Sh.aload_n d2_13 rfl rfl ?_
  refine Sh.iload_n d2_14 rfl ?_
  refine Sh.bipush d2_15 (x := 32) rfl ?_
  refine Sh.iaddE d2_17 (Sh.onAdd _ 32) ?_
  refine Sh.iconst d2_18 (x := 1) rfl ?_
  refine Sh.isubE d2_19 (Sh.onSub (b := 1) (by omega) (by omega)) ?_
  refine Sh.iload_n d2_20 rfl ?_
  refine Sh.bipush d2_21 (x := 8) rfl ?_
  refine Sh.idivE (z := 19) d2_23 (by decide) (by decide) ?_
  refine Sh.isubE d2_24 (Sh.onSub (b := 19) (by omega) (by omega)) ?_
  refine Sh.baload d2_25 rfl (Sh.onNN (by omega)) (Sh.onCl (by omega)) (hB 19 (by decide)) ?_
  refine Sh.sipush d2_26 (x := 255) rfl ?_
  refine Sh.iand d2_29 ?_
  refine Sh.i2l d2_30 ?_
  refine Sh.lstore d2_31 (Sh.s2_4 rfl rfl rfl) ?_
  refine Sh.iload_n d2_33 rfl ?_
  refine Sh.bipush d2_34 (x := 52) rfl ?_
  refine Sh.idivE (z := 2) d2_36 (by decide) (by decide) ?_
  refine Sh.istore d2_37 (Sh.s1_6 rfl rfl) ?_
  refine Sh.iload_n d2_39 rfl ?_
  refine Sh.bipush d2_40 (x := 52) rfl ?_
  refine Sh.iremE (z := 48) d2_42 (by decide) (by decide) ?_
  refine Sh.istore d2_43 (Sh.s1_7 rfl rfl) ?_
  refine Sh.aload_n d2_45 rfl rfl ?_
  refine Sh.iload d2_46 rfl ?_
  refine Sh.dup2 d2_48 rfl rfl ?_
  refine Sh.laload (jn := 2) d2_49 rfl (by decide) rfl rfl ?_
  refine Sh.lload d2_50 rfl ?_
  refine Sh.iload d2_52 rfl ?_
  refine Sh.lshl d2_54 ?_
  refine Sh.ldc2L hw (i := 10) rfl d2_55 ?_
  refine Sh.land d2_58 ?_
  refine Sh.lor d2_59 ?_
  refine Sh.lastore (jn := 2) d2_60 rfl (by decide) rfl (Sh.le rfl) (Sh.ls_2) (Sh.ls_1) ?_
  refine Sh.iload d2_61 rfl ?_
  refine Sh.bipush d2_63 (x := 44) rfl ?_
  refine Sh.icmpF d2_65 (by decide) ?_
  refine Sh.aload_n d2_68 rfl rfl ?_
  refine Sh.iload d2_69 rfl ?_
  refine Sh.iconst d2_71 (x := 1) rfl ?_
  refine Sh.iaddE (z := 3) d2_72 (by decide) ?_
  refine Sh.dup2 d2_73 rfl rfl ?_
  refine Sh.laload (jn := 3) d2_74 rfl (by decide) rfl rfl ?_
  refine Sh.lload d2_75 rfl ?_
  refine Sh.bipush d2_77 (x := 52) rfl ?_
  refine Sh.iload d2_79 rfl ?_
  refine Sh.isubE (z := 4) d2_81 (by decide) ?_
  refine Sh.lushr d2_82 ?_
  refine Sh.lor d2_83 ?_
  refine Sh.lastore (jn := 3) d2_84 rfl (by decide) rfl (Sh.le rfl) (Sh.ls_3) (Sh.ls_1) ?_
  refine Sh.iinc d2_85 rfl (ci := 8) (y := 160) rfl (by decide) (Sh.s1_3 rfl rfl) ?_
  refine Sh.goto d2_88 (pc' := 6) rfl (by decide) ?_
  refine Sh.iload_n d2_6 rfl ?_
  refine Sh.sipush d2_7 (x := 256) rfl ?_
  refine Sh.icmpF d2_10 (by decide) ?_
  refine Sh.aload_n d2_13 rfl rfl ?_
  refine Sh.iload_n d2_14 rfl ?_
  refine Sh.bipush d2_15 (x := 32) rfl ?_
  refine Sh.iaddE d2_17 (Sh.onAdd _ 32) ?_
  refine Sh.iconst d2_18 (x := 1) rfl ?_
  refine Sh.isubE d2_19 (Sh.onSub (b := 1) (by omega) (by omega)) ?_
  refine Sh.iload_n d2_20 rfl ?_
  refine Sh.bipush d2_21 (x := 8) rfl ?_
  refine Sh.idivE (z := 20) d2_23 (by decide) (by decide) ?_
  refine Sh.isubE d2_24 (Sh.onSub (b := 20) (by omega) (by omega)) ?_
  refine Sh.baload d2_25 rfl (Sh.onNN (by omega)) (Sh.onCl (by omega)) (hB 20 (by decide)) ?_
  refine Sh.sipush d2_26 (x := 255) rfl ?_
  refine Sh.iand d2_29 ?_
  refine Sh.i2l d2_30 ?_
  refine Sh.lstore d2_31 (Sh.s2_4 rfl rfl rfl) ?_
  refine Sh.iload_n d2_33 rfl ?_
  refine Sh.bipush d2_34 (x := 52) rfl ?_
  refine Sh.idivE (z := 3) d2_36 (by decide) (by decide) ?_
  refine Sh.istore d2_37 (Sh.s1_6 rfl rfl) ?_
  refine Sh.iload_n d2_39 rfl ?_
  refine Sh.bipush d2_40 (x := 52) rfl ?_
  refine Sh.iremE (z := 4) d2_42 (by decide) (by decide) ?_
  refine Sh.istore d2_43 (Sh.s1_7 rfl rfl) ?_
  refine Sh.aload_n d2_45 rfl rfl ?_
  refine Sh.iload d2_46 rfl ?_
  refine Sh.dup2 d2_48 rfl rfl ?_
  refine Sh.laload (jn := 3) d2_49 rfl (by decide) rfl rfl ?_
  refine Sh.lload d2_50 rfl ?_
  refine Sh.iload d2_52 rfl ?_
  refine Sh.lshl d2_54 ?_
  refine Sh.ldc2L hw (i := 10) rfl d2_55 ?_
  refine Sh.land d2_58 ?_
  refine Sh.lor d2_59 ?_
  refine Sh.lastore (jn := 3) d2_60 rfl (by decide) rfl (Sh.le rfl) (Sh.ls_3) (Sh.ls_1) ?_
  refine Sh.iload d2_61 rfl ?_
  refine Sh.bipush d2_63 (x := 44) rfl ?_
  refine Sh.icmpT d2_65 (pc' := 85) rfl (by decide) (by decide) ?_
  refine Sh.iinc d2_85 rfl (ci := 8) (y := 168) rfl (by decide) (Sh.s1_3 rfl rfl) ?_
  refine Sh.goto d2_88 (pc' := 6) rfl (by decide) ?_
  refine Sh.iload_n d2_6 rfl ?_
  refine Sh.sipush d2_7 (x := 256) rfl ?_
  refine Sh.icmpF d2_10 (by decide) ?_
  refine Sh.aload_n d2_13 rfl rfl ?_
  refine Sh.iload_n d2_14 rfl ?_
  refine Sh.bipush d2_15 (x := 32) rfl ?_
  refine Sh.iaddE d2_17 (Sh.onAdd _ 32) ?_
  refine Sh.iconst d2_18 (x := 1) rfl ?_
  refine Sh.isubE d2_19 (Sh.onSub (b := 1) (by omega) (by omega)) ?_
  refine Sh.iload_n d2_20 rfl ?_
  refine Sh.bipush d2_21 (x := 8) rfl ?_
  refine Sh.idivE (z := 21) d2_23 (by decide) (by decide) ?_
  refine Sh.isubE d2_24 (Sh.onSub (b := 21) (by omega) (by omega)) ?_
  refine Sh.baload d2_25 rfl (Sh.onNN (by omega)) (Sh.onCl (by omega)) (hB 21 (by decide)) ?_
  refine Sh.sipush d2_26 (x := 255) rfl ?_
  refine Sh.iand d2_29 ?_
  refine Sh.i2l d2_30 ?_
  refine Sh.lstore d2_31 (Sh.s2_4 rfl rfl rfl) ?_
  refine Sh.iload_n d2_33 rfl ?_
  refine Sh.bipush d2_34 (x := 52) rfl ?_
  refine Sh.idivE (z := 3) d2_36 (by decide) (by decide) ?_
  refine Sh.istore d2_37 (Sh.s1_6 rfl rfl) ?_
  refine Sh.iload_n d2_39 rfl ?_
  refine Sh.bipush d2_40 (x := 52) rfl ?_
  refine Sh.iremE (z := 12) d2_42 (by decide) (by decide) ?_
  refine Sh.istore d2_43 (Sh.s1_7 rfl rfl) ?_
  refine Sh.aload_n d2_45 rfl rfl ?_
  refine Sh.iload d2_46 rfl ?_
  refine Sh.dup2 d2_48 rfl rfl ?_
  refine Sh.laload (jn := 3) d2_49 rfl (by decide) rfl rfl ?_
  refine Sh.lload d2_50 rfl ?_
  refine Sh.iload d2_52 rfl ?_
  refine Sh.lshl d2_54 ?_
  refine Sh.ldc2L hw (i := 10) rfl d2_55 ?_
  refine Sh.land d2_58 ?_
  refine Sh.lor d2_59 ?_
  refine Sh.lastore (jn := 3) d2_60 rfl (by decide) rfl (Sh.le rfl) (Sh.ls_3) (Sh.ls_1) ?_
  refine Sh.iload d2_61 rfl ?_
  refine Sh.bipush d2_63 (x := 44) rfl ?_
  refine Sh.icmpT d2_65 (pc' := 85) rfl (by decide) (by decide) ?_
  refine Sh.iinc d2_85 rfl (ci := 8) (y := 176) rfl (by decide) (Sh.s1_3 rfl rfl) ?_
  refine Sh.goto d2_88 (pc' := 6) rfl (by decide) ?_
  refine Sh.iload_n d2_6 rfl ?_
  refine Sh.sipush d2_7 (x := 256) rfl ?_
  refine Sh.icmpF d2_10 (by decide) ?_
  refine Sh.aload_n d2_13 rfl rfl ?_
  refine Sh.iload_n d2_14 rfl ?_
  refine Sh.bipush d2_15 (x := 32) rfl ?_
  refine Sh.iaddE d2_17 (Sh.onAdd _ 32) ?_
  refine Sh.iconst d2_18 (x := 1) rfl ?_
  refine Sh.isubE d2_19 (Sh.onSub (b := 1) (by omega) (by omega)) ?_
  refine Sh.iload_n d2_20 rfl ?_
  refine Sh.bipush d2_21 (x := 8) rfl ?_
  refine Sh.idivE (z := 22) d2_23 (by decide) (by decide) ?_
  refine Sh.isubE d2_24 (Sh.onSub (b := 22) (by omega) (by omega)) ?_
  refine Sh.baload d2_25 rfl (Sh.onNN (by omega)) (Sh.onCl (by omega)) (hB 22 (by decide)) ?_
  refine Sh.sipush d2_26 (x := 255) rfl ?_
  refine Sh.iand d2_29 ?_
  refine Sh.i2l d2_30 ?_
  refine Sh.lstore d2_31 (Sh.s2_4 rfl rfl rfl) ?_
  refine Sh.iload_n d2_33 rfl ?_
  refine Sh.bipush d2_34 (x := 52) rfl ?_
  refine Sh.idivE (z := 3) d2_36 (by decide) (by decide) ?_
  refine Sh.istore d2_37 (Sh.s1_6 rfl rfl) ?_
  refine Sh.iload_n d2_39 rfl ?_
  refine Sh.bipush d2_40 (x := 52) rfl ?_
  refine Sh.iremE (z := 20) d2_42 (by decide) (by decide) ?_
  refine Sh.istore d2_43 (Sh.s1_7 rfl rfl) ?_
  refine Sh.aload_n d2_45 rfl rfl ?_
  refine Sh.iload d2_46 rfl ?_
  refine Sh.dup2 d2_48 rfl rfl ?_
  refine Sh.laload (jn := 3) d2_49 rfl (by decide) rfl rfl ?_
  refine Sh.lload d2_50 rfl ?_
  refine Sh.iload d2_52 rfl ?_
  refine Sh.lshl d2_54 ?_
  refine Sh.ldc2L hw (i := 10) rfl d2_55 ?_
  refine Sh.land d2_58 ?_
  refine Sh.lor d2_59 ?_
  refine Sh.lastore (jn := 3) d2_60 rfl (by decide) rfl (Sh.le rfl) (Sh.ls_3) (Sh.ls_1) ?_
  refine Sh.iload d2_61 rfl ?_
  refine Sh.bipush d2_63 (x := 44) rfl ?_
  refine Sh.icmpT d2_65 (pc' := 85) rfl (by decide) (by decide) ?_
  refine Sh.iinc d2_85 rfl (ci := 8) (y := 184) rfl (by decide) (Sh.s1_3 rfl rfl) ?_
  refine Sh.goto d2_88 (pc' := 6) rfl (by decide) ?_
  refine Sh.iload_n d2_6 rfl ?_
  refine Sh.sipush d2_7 (x := 256) rfl ?_
  refine Sh.icmpF d2_10 (by decide) ?_
  refine Sh.aload_n d2_13 rfl rfl ?_
  refine Sh.iload_n d2_14 rfl ?_
  refine Sh.bipush d2_15 (x := 32) rfl ?_
  refine Sh.iaddE d2_17 (Sh.onAdd _ 32) ?_
  refine Sh.iconst d2_18 (x := 1) rfl ?_
  refine Sh.isubE d2_19 (Sh.onSub (b := 1) (by omega) (by omega)) ?_
  refine Sh.iload_n d2_20 rfl ?_
  refine Sh.bipush d2_21 (x := 8) rfl ?_
  refine Sh.idivE (z := 23) d2_23 (by decide) (by decide) ?_
  refine Sh.isubE d2_24 (Sh.onSub (b := 23) (by omega) (by omega)) ?_
  refine Sh.baload d2_25 rfl (Sh.onNN (by omega)) (Sh.onCl (by omega)) (hB 23 (by decide)) ?_
  refine Sh.sipush d2_26 (x := 255) rfl ?_
  refine Sh.iand d2_29 ?_
  refine Sh.i2l d2_30 ?_
  refine Sh.lstore d2_31 (Sh.s2_4 rfl rfl rfl) ?_
  refine Sh.iload_n d2_33 rfl ?_
  refine Sh.bipush d2_34 (x := 52) rfl ?_
  refine Sh.idivE (z := 3) d2_36 (by decide) (by decide) ?_
  refine Sh.istore d2_37 (Sh.s1_6 rfl rfl) ?_
  refine Sh.iload_n d2_39 rfl ?_
  refine Sh.bipush d2_40 (x := 52) rfl ?_
  refine Sh.iremE (z := 28) d2_42 (by decide) (by decide) ?_
  refine Sh.istore d2_43 (Sh.s1_7 rfl rfl) ?_
  refine Sh.aload_n d2_45 rfl rfl ?_
  refine Sh.iload d2_46 rfl ?_
  refine Sh.dup2 d2_48 rfl rfl ?_
  refine Sh.laload (jn := 3) d2_49 rfl (by decide) rfl rfl ?_
  refine Sh.lload d2_50 rfl ?_
  refine Sh.iload d2_52 rfl ?_
  refine Sh.lshl d2_54 ?_
  refine Sh.ldc2L hw (i := 10) rfl d2_55 ?_
  refine Sh.land d2_58 ?_
  refine Sh.lor d2_59 ?_
  refine Sh.lastore (jn := 3) d2_60 rfl (by decide) rfl (Sh.le rfl) (Sh.ls_3) (Sh.ls_1) ?_
  refine Sh.iload d2_61 rfl ?_
  refine Sh.bipush d2_63 (x := 44) rfl ?_
  refine Sh.icmpT d2_65 (pc' := 85) rfl (by decide) (by decide) ?_
  refine Sh.iinc d2_85 rfl (ci := 8) (y := 192) rfl (by decide) (Sh.s1_3 rfl rfl) ?_
  refine Sh.goto d2_88 (pc' := 6) rfl (by decide) ?_
  refine Sh.iload_n d2_6 rfl ?_
  refine Sh.sipush d2_7 (x := 256) rfl ?_
  refine Sh.icmpF d2_10 (by decide) ?_
  refine Sh.aload_n d2_13 rfl rfl ?_
  refine Sh.iload_n d2_14 rfl ?_
  refine Sh.bipush d2_15 (x := 32) rfl ?_
  refine Sh.iaddE d2_17 (Sh.onAdd _ 32) ?_
  refine Sh.iconst d2_18 (x := 1) rfl ?_
  refine Sh.isubE d2_19 (Sh.onSub (b := 1) (by omega) (by omega)) ?_
  refine Sh.iload_n d2_20 rfl ?_
  refine Sh.bipush d2_21 (x := 8) rfl ?_
  refine Sh.idivE (z := 24) d2_23 (by decide) (by decide) ?_
  refine Sh.isubE d2_24 (Sh.onSub (b := 24) (by omega) (by omega)) ?_
  refine Sh.baload d2_25 rfl (Sh.onNN (by omega)) (Sh.onCl (by omega)) (hB 24 (by decide)) ?_
  refine Sh.sipush d2_26 (x := 255) rfl ?_
  refine Sh.iand d2_29 ?_
  refine Sh.i2l d2_30 ?_
  refine Sh.lstore d2_31 (Sh.s2_4 rfl rfl rfl) ?_
  refine Sh.iload_n d2_33 rfl ?_
  refine Sh.bipush d2_34 (x := 52) rfl ?_
  refine Sh.idivE (z := 3) d2_36 (by decide) (by decide) ?_
  refine Sh.istore d2_37 (Sh.s1_6 rfl rfl) ?_
  refine Sh.iload_n d2_39 rfl ?_
  refine Sh.bipush d2_40 (x := 52) rfl ?_
  refine Sh.iremE (z := 36) d2_42 (by decide) (by decide) ?_
  refine Sh.istore d2_43 (Sh.s1_7 rfl rfl) ?_
  refine Sh.aload_n d2_45 rfl rfl ?_
  refine Sh.iload d2_46 rfl ?_
  refine Sh.dup2 d2_48 rfl rfl ?_
  refine Sh.laload (jn := 3) d2_49 rfl (by decide) rfl rfl ?_
  refine Sh.lload d2_50 rfl ?_
  refine Sh.iload d2_52 rfl ?_
  refine Sh.lshl d2_54 ?_
  refine Sh.ldc2L hw (i := 10) rfl d2_55 ?_
  refine Sh.land d2_58 ?_
  refine Sh.lor d2_59 ?_
  refine Sh.lastore (jn := 3) d2_60 rfl (by decide) rfl (Sh.le rfl) (Sh.ls_3) (Sh.ls_1) ?_
  refine Sh.iload d2_61 rfl ?_
  refine Sh.bipush d2_63 (x := 44) rfl ?_
  refine Sh.icmpT d2_65 (pc' := 85) rfl (by decide) (by decide) ?_
  refine Sh.iinc d2_85 rfl (ci := 8) (y := 200) rfl (by decide) (Sh.s1_3 rfl rfl) ?_
  refine Sh.goto d2_88 (pc' := 6) rfl (by decide) ?_
  refine Sh.iload_n d2_6 rfl ?_
  refine Sh.sipush d2_7 (x := 256) rfl ?_
  refine Sh.icmpF d2_10 (by decide) ?_
  refine Sh.aload_n d2_13 rfl rfl ?_
  refine Sh.iload_n d2_14 rfl ?_
  refine Sh.bipush d2_15 (x := 32) rfl ?_
  refine Sh.iaddE d2_17 (Sh.onAdd _ 32) ?_
  refine Sh.iconst d2_18 (x := 1) rfl ?_
  refine Sh.isubE d2_19 (Sh.onSub (b := 1) (by omega) (by omega)) ?_
  refine Sh.iload_n d2_20 rfl ?_
  refine Sh.bipush d2_21 (x := 8) rfl ?_
  refine Sh.idivE (z := 25) d2_23 (by decide) (by decide) ?_
  refine Sh.isubE d2_24 (Sh.onSub (b := 25) (by omega) (by omega)) ?_
  refine Sh.baload d2_25 rfl (Sh.onNN (by omega)) (Sh.onCl (by omega)) (hB 25 (by decide)) ?_
  refine Sh.sipush d2_26 (x := 255) rfl ?_
  refine Sh.iand d2_29 ?_
  refine Sh.i2l d2_30 ?_
  refine Sh.lstore d2_31 (Sh.s2_4 rfl rfl rfl) ?_
  refine Sh.iload_n d2_33 rfl ?_
  refine Sh.bipush d2_34 (x := 52) rfl ?_
  refine Sh.idivE (z := 3) d2_36 (by decide) (by decide) ?_
  refine Sh.istore d2_37 (Sh.s1_6 rfl rfl) ?_
  refine Sh.iload_n d2_39 rfl ?_
  refine Sh.bipush d2_40 (x := 52) rfl ?_
  refine Sh.iremE (z := 44) d2_42 (by decide) (by decide) ?_
  refine Sh.istore d2_43 (Sh.s1_7 rfl rfl) ?_
  refine Sh.aload_n d2_45 rfl rfl ?_
  refine Sh.iload d2_46 rfl ?_
  refine Sh.dup2 d2_48 rfl rfl ?_
  refine Sh.laload (jn := 3) d2_49 rfl (by decide) rfl rfl ?_
  refine Sh.lload d2_50 rfl ?_
  refine Sh.iload d2_52 rfl ?_
  refine Sh.lshl d2_54 ?_
  refine Sh.ldc2L hw (i := 10) rfl d2_55 ?_
  refine Sh.land d2_58 ?_
  refine Sh.lor d2_59 ?_
  refine Sh.lastore (jn := 3) d2_60 rfl (by decide) rfl (Sh.le rfl) (Sh.ls_3) (Sh.ls_1) ?_
  refine Sh.iload d2_61 rfl ?_
  refine Sh.bipush d2_63 (x := 44) rfl ?_
  refine Sh.icmpT d2_65 (pc' := 85) rfl (by decide) (by decide) ?_
  refine Sh.iinc d2_85 rfl (ci := 8) (y := 208) rfl (by decide) (Sh.s1_3 rfl rfl) ?_
  refine Sh.goto d2_88 (pc' := 6) rfl (by decide) ?_
  refine Sh.iload_n d2_6 rfl ?_
  refine Sh.sipush d2_7 (x := 256) rfl ?_
  refine Sh.icmpF d2_10 (by decide) ?_
  refine Sh.aload_n d2_13 rfl rfl ?_
  refine Sh.iload_n d2_14 rfl ?_
  refine Sh.bipush d2_15 (x := 32) rfl ?_
  refine Sh.iaddE d2_17 (Sh.onAdd _ 32) ?_
  refine Sh.iconst d2_18 (x := 1) rfl ?_
  refine Sh.isubE d2_19 (Sh.onSub (b := 1) (by omega) (by omega)) ?_
  refine Sh.iload_n d2_20 rfl ?_
  refine Sh.bipush d2_21 (x := 8) rfl ?_
  refine Sh.idivE (z := 26) d2_23 (by decide) (by decide) ?_
  refine Sh.isubE d2_24 (Sh.onSub (b := 26) (by omega) (by omega)) ?_
  refine Sh.baload d2_25 rfl (Sh.onNN (by omega)) (Sh.onCl (by omega)) (hB 26 (by decide)) ?_
  refine Sh.sipush d2_26 (x := 255) rfl ?_
  refine Sh.iand d2_29 ?_
  refine Sh.i2l d2_30 ?_
  refine Sh.lstore d2_31 (Sh.s2_4 rfl rfl rfl) ?_
  refine Sh.iload_n d2_33 rfl ?_
  refine Sh.bipush d2_34 (x := 52) rfl ?_
  refine Sh.idivE (z := 4) d2_36 (by decide) (by decide) ?_
  refine Sh.istore d2_37 (Sh.s1_6 rfl rfl) ?_
  refine Sh.iload_n d2_39 rfl ?_
  refine Sh.bipush d2_40 (x := 52) rfl ?_
  refine Sh.iremE (z := 0) d2_42 (by decide) (by decide) ?_
  refine Sh.istore d2_43 (Sh.s1_7 rfl rfl) ?_
  refine Sh.aload_n d2_45 rfl rfl ?_
  refine Sh.iload d2_46 rfl ?_
  refine Sh.dup2 d2_48 rfl rfl ?_
  refine Sh.laload (jn := 4) d2_49 rfl (by decide) rfl rfl ?_
  refine Sh.lload d2_50 rfl ?_
  refine Sh.iload d2_52 rfl ?_
  refine Sh.lshl d2_54 ?_
  refine Sh.ldc2L hw (i := 10) rfl d2_55 ?_
  refine Sh.land d2_58 ?_
  refine Sh.lor d2_59 ?_
  refine Sh.lastore (jn := 4) d2_60 rfl (by decide) rfl (Sh.le rfl) (Sh.ls_4) (Sh.ls_1) ?_
  refine Sh.iload d2_61 rfl ?_
  refine Sh.bipush d2_63 (x := 44) rfl ?_
  refine Sh.icmpT d2_65 (pc' := 85) rfl (by decide) (by decide) ?_
  refine Sh.iinc d2_85 rfl (ci := 8) (y := 216) rfl (by decide) (Sh.s1_3 rfl rfl) ?_
  refine Sh.goto d2_88 (pc' := 6) rfl (by decide) ?_
  refine Sh.iload_n d2_6 rfl ?_
  refine Sh.sipush d2_7 (x := 256) rfl ?_
  refine Sh.icmpF d2_10 (by decide) ?_
  refine Sh.aload_n d2_13 rfl rfl ?_
  refine Sh.iload_n d2_14 rfl ?_
  refine Sh.bipush d2_15 (x := 32) rfl ?_
  refine Sh.iaddE d2_17 (Sh.onAdd _ 32) ?_
  refine Sh.iconst d2_18 (x := 1) rfl ?_
  refine Sh.isubE d2_19 (Sh.onSub (b := 1) (by omega) (by omega)) ?_
  refine Sh.iload_n d2_20 rfl ?_
  refine Sh.bipush d2_21 (x := 8) rfl ?_
  refine Sh.idivE (z := 27) d2_23 (by decide) (by decide) ?_
  refine Sh.isubE d2_24 (Sh.onSub (b := 27) (by omega) (by omega)) ?_
  refine Sh.baload d2_25 rfl (Sh.onNN (by omega)) (Sh.onCl (by omega)) (hB 27 (by decide)) ?_
  refine Sh.sipush d2_26 (x := 255) rfl ?_
  refine Sh.iand d2_29 ?_
  refine Sh.i2l d2_30 ?_
  refine Sh.lstore d2_31 (Sh.s2_4 rfl rfl rfl) ?_
  refine Sh.iload_n d2_33 rfl ?_
  refine Sh.bipush d2_34 (x := 52) rfl ?_
  refine Sh.idivE (z := 4) d2_36 (by decide) (by decide) ?_
  refine Sh.istore d2_37 (Sh.s1_6 rfl rfl) ?_
  refine Sh.iload_n d2_39 rfl ?_
  refine Sh.bipush d2_40 (x := 52) rfl ?_
  refine Sh.iremE (z := 8) d2_42 (by decide) (by decide) ?_
  refine Sh.istore d2_43 (Sh.s1_7 rfl rfl) ?_
  refine Sh.aload_n d2_45 rfl rfl ?_
  refine Sh.iload d2_46 rfl ?_
  refine Sh.dup2 d2_48 rfl rfl ?_
  refine Sh.laload (jn := 4) d2_49 rfl (by decide) rfl rfl ?_
  refine Sh.lload d2_50 rfl ?_
  refine Sh.iload d2_52 rfl ?_
  refine Sh.lshl d2_54 ?_
  refine Sh.ldc2L hw (i := 10) rfl d2_55 ?_
  refine Sh.land d2_58 ?_
  refine Sh.lor d2_59 ?_
  refine Sh.lastore (jn := 4) d2_60 rfl (by decide) rfl (Sh.le rfl) (Sh.ls_4) (Sh.ls_1) ?_
  refine Sh.iload d2_61 rfl ?_
  refine Sh.bipush d2_63 (x := 44) rfl ?_
  refine Sh.icmpT d2_65 (pc' := 85) rfl (by decide) (by decide) ?_
  refine Sh.iinc d2_85 rfl (ci := 8) (y := 224) rfl (by decide) (Sh.s1_3 rfl rfl) ?_
  refine Sh.goto d2_88 (pc' := 6) rfl (by decide) ?_
  refine Sh.iload_n d2_6 rfl ?_
  refine Sh.sipush d2_7 (x := 256) rfl ?_
  refine Sh.icmpF d2_10 (by decide) ?_
  refine Sh.aload_n d2_13 rfl rfl ?_
  refine Sh.iload_n d2_14 rfl ?_
  refine Sh.bipush d2_15 (x := 32) rfl ?_
  refine Sh.iaddE d2_17 (Sh.onAdd _ 32) ?_
  refine Sh.iconst d2_18 (x := 1) rfl ?_
  refine Sh.isubE d2_19 (Sh.onSub (b := 1) (by omega) (by omega)) ?_
  refine Sh.iload_n d2_20 rfl ?_
  refine Sh.bipush d2_21 (x := 8) rfl ?_
  refine Sh.idivE (z := 28) d2_23 (by decide) (by decide) ?_
  refine Sh.isubE d2_24 (Sh.onSub (b := 28) (by omega) (by omega)) ?_
  refine Sh.baload d2_25 rfl (Sh.onNN (by omega)) (Sh.onCl (by omega)) (hB 28 (by decide)) ?_
  refine Sh.sipush d2_26 (x := 255) rfl ?_
  refine Sh.iand d2_29 ?_
  refine Sh.i2l d2_30 ?_
  refine Sh.lstore d2_31 (Sh.s2_4 rfl rfl rfl) ?_
  refine Sh.iload_n d2_33 rfl ?_
  refine Sh.bipush d2_34 (x := 52) rfl ?_
  refine Sh.idivE (z := 4) d2_36 (by decide) (by decide) ?_
  refine Sh.istore d2_37 (Sh.s1_6 rfl rfl) ?_
  refine Sh.iload_n d2_39 rfl ?_
  refine Sh.bipush d2_40 (x := 52) rfl ?_
  refine Sh.iremE (z := 16) d2_42 (by decide) (by decide) ?_
  refine Sh.istore d2_43 (Sh.s1_7 rfl rfl) ?_
  refine Sh.aload_n d2_45 rfl rfl ?_
  refine Sh.iload d2_46 rfl ?_
  refine Sh.dup2 d2_48 rfl rfl ?_
  refine Sh.laload (jn := 4) d2_49 rfl (by decide) rfl rfl ?_
  refine Sh.lload d2_50 rfl ?_
  refine Sh.iload d2_52 rfl ?_
  refine Sh.lshl d2_54 ?_
  refine Sh.ldc2L hw (i := 10) rfl d2_55 ?_
  refine Sh.land d2_58 ?_
  refine Sh.lor d2_59 ?_
  refine Sh.lastore (jn := 4) d2_60 rfl (by decide) rfl (Sh.le rfl) (Sh.ls_4) (Sh.ls_1) ?_
  refine Sh.iload d2_61 rfl ?_
  refine Sh.bipush d2_63 (x := 44) rfl ?_
  refine Sh.icmpT d2_65 (pc' := 85) rfl (by decide) (by decide) ?_
  refine Sh.iinc d2_85 rfl (ci := 8) (y := 232) rfl (by decide) (Sh.s1_3 rfl rfl) ?_
  refine Sh.goto d2_88 (pc' := 6) rfl (by decide) ?_
  refine Sh.iload_n d2_6 rfl ?_
  refine Sh.sipush d2_7 (x := 256) rfl ?_
  refine Sh.icmpF d2_10 (by decide) ?_
  refine Sh.aload_n d2_13 rfl rfl ?_
  refine Sh.iload_n d2_14 rfl ?_
  refine Sh.bipush d2_15 (x := 32) rfl ?_
  refine Sh.iaddE d2_17 (Sh.onAdd _ 32) ?_
  refine Sh.iconst d2_18 (x := 1) rfl ?_
  refine Sh.isubE d2_19 (Sh.onSub (b := 1) (by omega) (by omega)) ?_
  refine Sh.iload_n d2_20 rfl ?_
  refine Sh.bipush d2_21 (x := 8) rfl ?_
  refine Sh.idivE (z := 29) d2_23 (by decide) (by decide) ?_
  refine Sh.isubE d2_24 (Sh.onSub (b := 29) (by omega) (by omega)) ?_
  refine Sh.baload d2_25 rfl (Sh.onNN (by omega)) (Sh.onCl (by omega)) (hB 29 (by decide)) ?_
  refine Sh.sipush d2_26 (x := 255) rfl ?_
  refine Sh.iand d2_29 ?_
  refine Sh.i2l d2_30 ?_
  refine Sh.lstore d2_31 (Sh.s2_4 rfl rfl rfl) ?_
  refine Sh.iload_n d2_33 rfl ?_
  refine Sh.bipush d2_34 (x := 52) rfl ?_
  refine Sh.idivE (z := 4) d2_36 (by decide) (by decide) ?_
  refine Sh.istore d2_37 (Sh.s1_6 rfl rfl) ?_
  refine Sh.iload_n d2_39 rfl ?_
  refine Sh.bipush d2_40 (x := 52) rfl ?_
  refine Sh.iremE (z := 24) d2_42 (by decide) (by decide) ?_
  refine Sh.istore d2_43 (Sh.s1_7 rfl rfl) ?_
  refine Sh.aload_n d2_45 rfl rfl ?_
  refine Sh.iload d2_46 rfl ?_
  refine Sh.dup2 d2_48 rfl rfl ?_
  refine Sh.laload (jn := 4) d2_49 rfl (by decide) rfl rfl ?_
  refine Sh.lload d2_50 rfl ?_
  refine Sh.iload d2_52 rfl ?_
  refine Sh.lshl d2_54 ?_
  refine Sh.ldc2L hw (i := 10) rfl d2_55 ?_
  refine Sh.land d2_58 ?_
  refine Sh.lor d2_59 ?_
  refine Sh.lastore (jn := 4) d2_60 rfl (by decide) rfl (Sh.le rfl) (Sh.ls_4) (Sh.ls_1) ?_
  refine Sh.iload d2_61 rfl ?_
  refine Sh.bipush d2_63 (x := 44) rfl ?_
  refine Sh.icmpT d2_65 (pc' := 85) rfl (by decide) (by decide) ?_
  refine Sh.iinc d2_85 rfl (ci := 8) (y := 240) rfl (by decide) (Sh.s1_3 rfl rfl) ?_
  refine Sh.goto d2_88 (pc' := 6) rfl (by decide) ?_
  refine Sh.iload_n d2_6 rfl ?_
  refine Sh.sipush d2_7 (x := 256) rfl ?_
  refine Sh.icmpF d2_10 (by decide) ?_
  refine Sh.aload_n d2_13 rfl rfl ?_
  refine Sh.iload_n d2_14 rfl ?_
  refine Sh.bipush d2_15 (x := 32) rfl ?_
  refine Sh.iaddE d2_17 (Sh.onAdd _ 32) ?_
  refine Sh.iconst d2_18 (x := 1) rfl ?_
  refine Sh.isubE d2_19 (Sh.onSub (b := 1) (by omega) (by omega)) ?_
  refine Sh.iload_n d2_20 rfl ?_
  refine Sh.bipush d2_21 (x := 8) rfl ?_
  refine Sh.idivE (z := 30) d2_23 (by decide) (by decide) ?_
  refine Sh.isubE d2_24 (Sh.onSub (b := 30) (by omega) (by omega)) ?_
  refine Sh.baload d2_25 rfl (Sh.onNN (by omega)) (Sh.onCl (by omega)) (hB 30 (by decide)) ?_
  refine Sh.sipush d2_26 (x := 255) rfl ?_
  refine Sh.iand d2_29 ?_
  refine Sh.i2l d2_30 ?_
  refine Sh.lstore d2_31 (Sh.s2_4 rfl rfl rfl) ?_
  refine Sh.iload_n d2_33 rfl ?_
  refine Sh.bipush d2_34 (x := 52) rfl ?_
  refine Sh.idivE (z := 4) d2_36 (by decide) (by decide) ?_
  refine Sh.istore d2_37 (Sh.s1_6 rfl rfl) ?_
  refine Sh.iload_n d2_39 rfl ?_
  refine Sh.bipush d2_40 (x := 52) rfl ?_
  refine Sh.iremE (z := 32) d2_42 (by decide) (by decide) ?_
  refine Sh.istore d2_43 (Sh.s1_7 rfl rfl) ?_
  refine Sh.aload_n d2_45 rfl rfl ?_
  refine Sh.iload d2_46 rfl ?_
  refine Sh.dup2 d2_48 rfl rfl ?_
  refine Sh.laload (jn := 4) d2_49 rfl (by decide) rfl rfl ?_
  refine Sh.lload d2_50 rfl ?_
  refine Sh.iload d2_52 rfl ?_
  refine Sh.lshl d2_54 ?_
  refine Sh.ldc2L hw (i := 10) rfl d2_55 ?_
  refine Sh.land d2_58 ?_
  refine Sh.lor d2_59 ?_
  refine Sh.lastore (jn := 4) d2_60 rfl (by decide) rfl (Sh.le rfl) (Sh.ls_4) (Sh.ls_1) ?_
  refine Sh.iload d2_61 rfl ?_
  refine Sh.bipush d2_63 (x := 44) rfl ?_
  refine Sh.icmpT d2_65 (pc' := 85) rfl (by decide) (by decide) ?_
  refine Sh.iinc d2_85 rfl (ci := 8) (y := 248) rfl (by decide) (Sh.s1_3 rfl rfl) ?_
  refine Sh.goto d2_88 (pc' := 6) rfl (by decide) ?_
  refine Sh.iload_n d2_6 rfl ?_
  refine Sh.sipush d2_7 (x := 256) rfl ?_
  refine Sh.icmpF d2_10 (by decide) ?_
  refine Sh.aload_n d2_13 rfl rfl ?_
  refine Sh.iload_n d2_14 rfl ?_
  refine Sh.bipush d2_15 (x := 32) rfl ?_
  refine Sh.iaddE d2_17 (Sh.onAdd _ 32) ?_
  refine Sh.iconst d2_18 (x := 1) rfl ?_
  refine Sh.isubE d2_19 (Sh.onSub (b := 1) (by omega) (by omega)) ?_
  refine Sh.iload_n d2_20 rfl ?_
  refine Sh.bipush d2_21 (x := 8) rfl ?_
  refine Sh.idivE (z := 31) d2_23 (by decide) (by decide) ?_
  refine Sh.isubE d2_24 (Sh.onSub (b := 31) (by omega) (by omega)) ?_
  refine Sh.baload d2_25 rfl (Sh.onNN (by omega)) (Sh.onCl (by omega)) (hB 31 (by decide)) ?_
  refine Sh.sipush d2_26 (x := 255) rfl ?_
  refine Sh.iand d2_29 ?_
  refine Sh.i2l d2_30 ?_
  refine Sh.lstore d2_31 (Sh.s2_4 rfl rfl rfl) ?_
  refine Sh.iload_n d2_33 rfl ?_
  refine Sh.bipush d2_34 (x := 52) rfl ?_
  refine Sh.idivE (z := 4) d2_36 (by decide) (by decide) ?_
  refine Sh.istore d2_37 (Sh.s1_6 rfl rfl) ?_
  refine Sh.iload_n d2_39 rfl ?_
  refine Sh.bipush d2_40 (x := 52) rfl ?_
  refine Sh.iremE (z := 40) d2_42 (by decide) (by decide) ?_
  refine Sh.istore d2_43 (Sh.s1_7 rfl rfl) ?_
  refine Sh.aload_n d2_45 rfl rfl ?_
  refine Sh.iload d2_46 rfl ?_
  refine Sh.dup2 d2_48 rfl rfl ?_
  refine Sh.laload (jn := 4) d2_49 rfl (by decide) rfl rfl ?_
  refine Sh.lload d2_50 rfl ?_
  refine Sh.iload d2_52 rfl ?_
  refine Sh.lshl d2_54 ?_
  refine Sh.ldc2L hw (i := 10) rfl d2_55 ?_
  refine Sh.land d2_58 ?_
  refine Sh.lor d2_59 ?_
  refine Sh.lastore (jn := 4) d2_60 rfl (by decide) rfl (Sh.le rfl) (Sh.ls_4) (Sh.ls_1) ?_
  refine Sh.iload d2_61 rfl ?_
  refine Sh.bipush d2_63 (x := 44) rfl ?_
  refine Sh.icmpT d2_65 (pc' := 85) rfl (by decide) (by decide) ?_
  refine Sh.iinc d2_85 rfl (ci := 8) (y := 256) rfl (by decide) (Sh.s1_3 rfl rfl) ?_
  refine Sh.goto d2_88 (pc' := 6) rfl (by decide) ?_
  refine Sh.iload_n d2_6 rfl ?_
  refine Sh.sipush d2_7 (x := 256) rfl ?_
  refine Sh.icmpT d2_10 (pc' := 91) rfl (by decide) (by decide) ?_
  refine Sh.aload_n d2_91 rfl rfl ?_
  refine Sh.retA d2_92 rfl rfl rfl (Sh.le rfl) (Sh.le rfl) ?_
  exact ⟨rfl, rfl⟩
theorem law_ok (hw : HW Z a0) (w3 w2 w1 w0 : Int64) (off pad : Int32) : Sh.Meth l Z a0 n0 b0 room_1 [.long w3, .long w2, .long w1, .long w0, .int off, .int pad] [] (fun v _ => v = some (.int 1)) := by
  refine Sh.Meth.of pn0 (L := [.val (.long w3), .second, .val (.long w2), .second, .val (.long w1), .second, .val (.long w0), .second, .val (.int off), .val (.int pad), .unset, .unset, .unset, .unset, .unset, .unset, .unset, .unset, .unset, .unset, .unset, .unset, .unset]) rfl ?_
  obtain ⟨p, hp, ep⟩ := Sh.maskNat off 3 2 (by decide) (by decide)
  have hp4 : p < 4 := hp
  clear hp
  refine Sh.iload at_0 rfl ?_
  refine Sh.iconst at_2 (x := 3) rfl ?_
  refine Sh.iand at_3 ?_
  rw [ep]
  have go : ∀ vs : List Value, vs.length = 35 → Sh.WP l Z a0 n0 b0 room_1 1 35 71 [.val (.long w3), .second, .val (.long w2), .second, .val (.long w1), .second, .val (.long w0), .second, .val (.int off), .val (.int pad), .val (.int (Int32.ofNat p)), .val (.ref 0), .unset, .unset, .unset, .unset, .unset, .unset, .unset, .unset, .unset, .unset, .unset] [] [.inr (.byte, vs)] (fun v _ => v = some (.int 1)) := by
    intro vs hl
    refine Sh.aload at_71 rfl rfl ?_
    refine Sh.iload at_73 rfl ?_
    refine Sh.lload_n at_75 rfl ?_
    refine Sh.callS hw (i1 := 1) (i2 := 2) (i3 := 3) (i4 := 4) (k' := 1) (n' := 35) (B' := b1) (R' := R1) rfl rfl rfl rfl (by decide) (m1 l Z a0 n0 hw vs p w3 (by omega) (by omega)) at_76 rfl rfl pd1 rfl (Sh.le rfl) (Sh.le rfl) (Sh.le rfl) (Sh.le rfl) rfl rfl ?_
    rintro _ _ ⟨rfl, rfl⟩
    refine Sh.aload at_79 rfl rfl ?_
    refine Sh.iload at_81 rfl ?_
    refine Sh.bipush at_83 (x := 8) rfl ?_
    refine Sh.iaddE at_85 (Sh.onAdd _ 8) ?_
    refine Sh.lload_n at_86 rfl ?_
    refine Sh.callS hw (i1 := 1) (i2 := 2) (i3 := 3) (i4 := 4) (k' := 1) (n' := 35) (B' := b1) (R' := R1) rfl rfl rfl rfl (by decide) (m1 l Z a0 n0 hw _ (p + 8) w2 (by simp only [own_plen]; omega) (by simp only [own_plen]; omega)) at_87 rfl rfl pd1 rfl (Sh.le rfl) (Sh.le rfl) (Sh.le rfl) (Sh.le rfl) rfl rfl ?_
    rintro _ _ ⟨rfl, rfl⟩
    refine Sh.aload at_90 rfl rfl ?_
    refine Sh.iload at_92 rfl ?_
    refine Sh.bipush at_94 (x := 16) rfl ?_
    refine Sh.iaddE at_96 (Sh.onAdd _ 16) ?_
    refine Sh.lload at_97 rfl ?_
    refine Sh.callS hw (i1 := 1) (i2 := 2) (i3 := 3) (i4 := 4) (k' := 1) (n' := 35) (B' := b1) (R' := R1) rfl rfl rfl rfl (by decide) (m1 l Z a0 n0 hw _ (p + 16) w1 (by simp only [own_plen]; omega) (by simp only [own_plen]; omega)) at_99 rfl rfl pd1 rfl (Sh.le rfl) (Sh.le rfl) (Sh.le rfl) (Sh.le rfl) rfl rfl ?_
    rintro _ _ ⟨rfl, rfl⟩
    refine Sh.aload at_102 rfl rfl ?_
    refine Sh.iload at_104 rfl ?_
    refine Sh.bipush at_106 (x := 24) rfl ?_
    refine Sh.iaddE at_108 (Sh.onAdd _ 24) ?_
    refine Sh.lload at_109 rfl ?_
    refine Sh.callS hw (i1 := 1) (i2 := 2) (i3 := 3) (i4 := 4) (k' := 1) (n' := 35) (B' := b1) (R' := R1) rfl rfl rfl rfl (by decide) (m1 l Z a0 n0 hw _ (p + 24) w0 (by simp only [own_plen]; omega) (by simp only [own_plen]; omega)) at_111 rfl rfl pd1 rfl (Sh.le rfl) (Sh.le rfl) (Sh.le rfl) (Sh.le rfl) rfl rfl ?_
    rintro _ _ ⟨rfl, rfl⟩
    refine Sh.aload at_114 rfl rfl ?_
    refine Sh.iload at_116 rfl ?_
    refine Sh.callS hw (i1 := 5) (i2 := 6) (i3 := 7) (i4 := 8) (k' := 2) (n' := 40) (B' := b2) (R' := R2) rfl rfl rfl rfl (by decide) (m2 l Z a0 n0 hw _ p (own_B w0 w1 w2 w3) (by omega) (fun c hc => own_read vs p w0 w1 w2 w3 (by omega) c hc)) at_118 rfl rfl pd2 rfl (Sh.le rfl) (Sh.le rfl) (Sh.le rfl) (Sh.le rfl) rfl rfl ?_
    rintro _ _ ⟨rfl, rfl⟩
    refine Sh.astore at_121 rfl (Sh.s1_12 rfl rfl) ?_
    rw [own_e0, own_e1, own_e2, own_e3, own_e4]
    refine Sh.aload at_123 rfl rfl ?_
    refine Sh.ifnullF at_125 ?_
    refine Sh.aload at_128 rfl rfl ?_
    refine Sh.arraylength at_130 rfl (N := 5) rfl ?_
    refine Sh.iconst at_131 (x := 5) rfl ?_
    refine Sh.icmpT at_132 (pc' := 137) rfl (by decide) (by decide) ?_
    refine Sh.lload at_137 rfl ?_
    refine Sh.ldc2L hw (i := 11) rfl at_139 ?_
    refine Sh.land at_142 ?_
    refine Sh.lstore at_143 (Sh.s2_13 rfl rfl rfl) ?_
    refine Sh.lload at_145 rfl ?_
    refine Sh.bipush at_147 (x := 52) rfl ?_
    refine Sh.lushr at_149 ?_
    refine Sh.lload at_150 rfl ?_
    refine Sh.bipush at_152 (x := 12) rfl ?_
    refine Sh.lshl at_154 ?_
    refine Sh.ldc2L hw (i := 11) rfl at_155 ?_
    refine Sh.land at_158 ?_
    refine Sh.lor at_159 ?_
    refine Sh.lstore at_160 (Sh.s2_15 rfl rfl rfl) ?_
    refine Sh.lload at_162 rfl ?_
    refine Sh.bipush at_164 (x := 40) rfl ?_
    refine Sh.lushr at_166 ?_
    refine Sh.lload_n at_167 rfl ?_
    refine Sh.bipush at_168 (x := 24) rfl ?_
    refine Sh.lshl at_170 ?_
    refine Sh.ldc2L hw (i := 11) rfl at_171 ?_
    refine Sh.land at_174 ?_
    refine Sh.lor at_175 ?_
    refine Sh.lstore at_176 (Sh.s2_17 rfl rfl rfl) ?_
    refine Sh.lload_n at_178 rfl ?_
    refine Sh.bipush at_179 (x := 28) rfl ?_
    refine Sh.lushr at_181 ?_
    refine Sh.lload_n at_182 rfl ?_
    refine Sh.bipush at_183 (x := 36) rfl ?_
    refine Sh.lshl at_185 ?_
    refine Sh.ldc2L hw (i := 11) rfl at_186 ?_
    refine Sh.land at_189 ?_
    refine Sh.lor at_190 ?_
    refine Sh.lstore at_191 (Sh.s2_19 rfl rfl rfl) ?_
    refine Sh.lload_n at_193 rfl ?_
    refine Sh.bipush at_194 (x := 16) rfl ?_
    refine Sh.lushr at_196 ?_
    refine Sh.lstore at_197 (Sh.s2_21 rfl rfl rfl) ?_
    refine Sh.aload at_199 rfl rfl ?_
    refine Sh.iconst at_201 (x := 0) rfl ?_
    refine Sh.laload (jn := 0) at_202 rfl (by decide) rfl rfl ?_
    refine Sh.lload at_203 rfl ?_
    refine Sh.lcmpF at_205 at_206 (fun q => q rfl) ?_
    refine Sh.aload at_209 rfl rfl ?_
    refine Sh.iconst at_211 (x := 1) rfl ?_
    refine Sh.laload (jn := 1) at_212 rfl (by decide) rfl rfl ?_
    refine Sh.lload at_213 rfl ?_
    refine Sh.lcmpF at_215 at_216 (fun q => q rfl) ?_
    refine Sh.aload at_219 rfl rfl ?_
    refine Sh.iconst at_221 (x := 2) rfl ?_
    refine Sh.laload (jn := 2) at_222 rfl (by decide) rfl rfl ?_
    refine Sh.lload at_223 rfl ?_
    refine Sh.lcmpF at_225 at_226 (fun q => q rfl) ?_
    refine Sh.aload at_229 rfl rfl ?_
    refine Sh.iconst at_231 (x := 3) rfl ?_
    refine Sh.laload (jn := 3) at_232 rfl (by decide) rfl rfl ?_
    refine Sh.lload at_233 rfl ?_
    refine Sh.lcmpF at_235 at_236 (fun q => q rfl) ?_
    refine Sh.aload at_239 rfl rfl ?_
    refine Sh.iconst at_241 (x := 4) rfl ?_
    refine Sh.laload (jn := 4) at_242 rfl (by decide) rfl rfl ?_
    refine Sh.lload at_243 rfl ?_
    refine Sh.lcmpF at_245 at_246 (fun q => q rfl) ?_
    refine Sh.iconst at_249 (x := 1) rfl ?_
    refine Sh.goto at_250 (pc' := 254) rfl (by decide) ?_
    refine Sh.retN at_254 rfl (by simp) rfl (Sh.le rfl) (Sh.le rfl) ?_
    rfl
  refine Sh.istore at_4 (Sh.s1_10 rfl rfl) ?_
  refine Sh.bipush at_6 (x := 35) rfl ?_
  refine Sh.newarr hw (i := 0) (ty := .byte) (dv := .int 0) (N := 35) (cap := 35) (k' := 1) (n' := 35) (a := 0) rfl rfl at_8 rfl (by decide) rfl (Sh.rp_35) (Sh.le rfl) (by decide) (Sh.le rfl) (Sh.le rfl) rfl rfl rfl (Sh.ap_0) ?_
  refine Sh.astore at_10 rfl (Sh.s1_11 rfl rfl) ?_
  refine Sh.aload at_12 rfl rfl ?_
  refine Sh.iconst at_14 (x := 0) rfl ?_
  refine Sh.iload at_15 rfl ?_
  refine Sh.i2b at_17 ?_
  refine Sh.bastore (jn := 0) at_18 rfl (by decide) rfl (Sh.le rfl) (Sh.i8_idem _) (Sh.ls_0) (Sh.ls_0) ?_
  refine Sh.aload at_19 rfl rfl ?_
  refine Sh.iconst at_21 (x := 1) rfl ?_
  refine Sh.iload at_22 rfl ?_
  refine Sh.bipush at_24 (x := 8) rfl ?_
  refine Sh.iushr at_26 ?_
  refine Sh.i2b at_27 ?_
  refine Sh.bastore (jn := 1) at_28 rfl (by decide) rfl (Sh.le rfl) (Sh.i8_idem _) (Sh.ls_1) (Sh.ls_0) ?_
  refine Sh.aload at_29 rfl rfl ?_
  refine Sh.iconst at_31 (x := 2) rfl ?_
  refine Sh.iload at_32 rfl ?_
  refine Sh.bipush at_34 (x := 16) rfl ?_
  refine Sh.iushr at_36 ?_
  refine Sh.i2b at_37 ?_
  refine Sh.bastore (jn := 2) at_38 rfl (by decide) rfl (Sh.le rfl) (Sh.i8_idem _) (Sh.ls_2) (Sh.ls_0) ?_
  refine Sh.aload at_39 rfl rfl ?_
  refine Sh.bipush at_41 (x := 32) rfl ?_
  refine Sh.iload at_43 rfl ?_
  refine Sh.bipush at_45 (x := 24) rfl ?_
  refine Sh.iushr at_47 ?_
  refine Sh.i2b at_48 ?_
  refine Sh.bastore (jn := 32) at_49 rfl (by decide) rfl (Sh.le rfl) (Sh.i8_idem _) (Sh.ls_32) (Sh.ls_0) ?_
  refine Sh.aload at_50 rfl rfl ?_
  refine Sh.bipush at_52 (x := 33) rfl ?_
  refine Sh.iload at_54 rfl ?_
  refine Sh.iconst at_56 (x := 4) rfl ?_
  refine Sh.iushr at_57 ?_
  refine Sh.i2b at_58 ?_
  refine Sh.bastore (jn := 33) at_59 rfl (by decide) rfl (Sh.le rfl) (Sh.i8_idem _) (Sh.ls_33) (Sh.ls_0) ?_
  refine Sh.aload at_60 rfl rfl ?_
  refine Sh.bipush at_62 (x := 34) rfl ?_
  refine Sh.iload at_64 rfl ?_
  refine Sh.bipush at_66 (x := 12) rfl ?_
  refine Sh.iushr at_68 ?_
  refine Sh.i2b at_69 ?_
  refine Sh.bastore (jn := 34) at_70 rfl (by decide) rfl (Sh.le rfl) (Sh.i8_idem _) (Sh.ls_34) (Sh.ls_0) ?_
  exact go _ rfl
end
set_option maxRecDepth 65536 in
set_option maxHeartbeats 40000000 in
theorem comes_1 {Post : Tables → Env → Array Value → State → Outcome → State → Prop} (hpost : ∀ tb e args s v u, (limb_1_1.after args s (.returned v) u = true ∧ limb_1_2.after args s (.returned v) u = true ∧ True) → FrameEnd s (.returned v) u (Jvm.fieldLocs frame_1_writes args s ++ Jvm.arrayLocs frame_1_arrays args s ++ Jvm.staticLocs frame_1_statics s) 16 192 → Post tb e args s (.returned v) u) :
    ArmFor flags0 classFile x code maxLocals ret World_1 tables_1 room_1 Calls_1 rest_1 Pre_1 Post := by
  intro l hfl _ _ p e ha hc hk s m args below hf hA hF happ hP
  obtain ⟨hcalls, hrest, hpre⟩ := hP
  obtain ⟨-, -, -, -, -, -, -, hat⟩ := (Spec.applies_iff hf).mp happ
  obtain ⟨hg, hn⟩ := and_e (Cond.before_iff.mp (show (Jvm.Cond.and given_1 narrow_1).before args s = true from hpre))
  obtain ⟨h1, h2⟩ := and_e hg
  obtain ⟨w0, w1, w2, w3, w4, w5, rfl⟩ : ∃ w0 w1 w2 w3 w4 w5 : Value, args = #[w0, w1, w2, w3, w4, w5] := by
    have hs : args.size = 6 := by simpa [Cond.value, given_1] using h1
    obtain ⟨L⟩ := args
    match L, hs with
    | [w0, w1, w2, w3, w4, w5], _ => exact ⟨w0, w1, w2, w3, w4, w5, rfl⟩
  have hw := fun d (hd : d ∈ tables_1) => atoms_spec (ws := Jvm.Cond.code x code maxLocals ret :: tables_1) hat d (List.mem_cons_of_mem _ hd)
  obtain ⟨g0, q0⟩ := and_e h2
  obtain ⟨i0, e0⟩ := isL_v g0
  obtain rfl : w0 = (.long i0) := Option.some.inj e0
  obtain ⟨g1, q1⟩ := and_e q0
  obtain ⟨i1, e1⟩ := isL_v g1
  obtain rfl : w1 = (.long i1) := Option.some.inj e1
  obtain ⟨g2, q2⟩ := and_e q1
  obtain ⟨i2, e2⟩ := isL_v g2
  obtain rfl : w2 = (.long i2) := Option.some.inj e2
  obtain ⟨g3, q3⟩ := and_e q2
  obtain ⟨i3, e3⟩ := isL_v g3
  obtain rfl : w3 = (.long i3) := Option.some.inj e3
  obtain ⟨g4, q4⟩ := and_e q3
  obtain ⟨i4, e4⟩ := is_v g4
  obtain rfl : w4 = (.int i4) := Option.some.inj e4
  obtain ⟨i5, e5⟩ := is_v q4
  obtain rfl : w5 = (.int i5) := Option.some.inj e5
  have hM := law_ok l s _ s.heap.size hw i0 i1 i2 i3 i4 i5 s.heap tables_1 ⟨by simp, fun i c h => by simp at h⟩ p e ha hc hk s m _ below hf ((Spec.applies_iff_loose hf).mp happ).1 ⟨by simp [Sh.lf], State.Warmed39.refl s, rfl⟩ trivial
  obtain ⟨n, o, h1, h2, h3, _, L, rfl, ⟨v, H, rfl, rfl, hR, N⟩, hq⟩ := hM
  refine ⟨n, _, h1, h2, h3, hpost _ _ _ _ _ _ ⟨Cond.after_iff.mpr rfl, Cond.after_iff.mpr (eq_i res_at (Term.int_eval (1)) rfl), trivial⟩ ⟨hq.1, hq.2.1, (hq.2.2.sift fun y hy => Or.inr (N y hy)).mono (by decide) (by decide)⟩⟩
theorem main_1_1 : Claimed_1_1 := comes_1 fun _ _ _ _ _ _ h hF => ⟨h.1, hF⟩
theorem main_1_2 : Claimed_1_2 := comes_1 fun _ _ _ _ _ _ h hF => ⟨h.2.1, hF⟩
end Jvm.Pilot.@@N@@
namespace Jvm.Pilot.@@N@@
open Jvm Jvm.ClassFile Sem Op Lib Jvm.Free Jvm.Stand Jvm.Pilot.@@N@@.Jvm.D
/-! MADE BY PROGRAM (witnessworld.py) out of the Statement's table words and the real class files: 11 classes; the members and pool entries that the words name. The judged class is class 1, her method 2. -/
namespace start1
open Jvm.ClassFile
def u (s : String) : CpInfo := .utf8 (stringToUtf16 s)
/-- a pool by its gaps: so many unusable entries, then the entry; so many at the end -/
def gap : Nat → List CpInfo → List CpInfo
  | 0, r => r
  | n + 1, r => .unusable :: gap n r
def poolList (es : List (Nat × CpInfo)) (last : Nat) : List CpInfo := es.foldr (fun e r => gap e.1 (e.2 :: r)) (gap last [])
def pool (es : List (Nat × CpInfo)) (last : Nat) : Array CpInfo := ⟨poolList es last⟩
def fileOf (pool : Array CpInfo) (this : Nat) (attrs : Array Attribute := #[]) (ms : Array MethodInfo := #[]) (fl : Nat := 33) (sup : Nat := 0) (ifs : Array Nat := #[]) (fds : Array FieldInfo := #[]) : ClassFile where
  minorVersion := 0
  majorVersion := 65
  constantPool := pool
  accessFlags := fl
  thisClass := this
  superClass := sup
  interfaces := ifs
  fields := fds
  methods := ms
  attributes := attrs
def plain (name : String) (sup : Option ClassId) : Class where
  name := name
  kind := .ordinary
  loader := none
  accessFlags := 33
  super := sup
  interfaces := #[]
  cf := none
  fields := #[]
  methods := #[]
  instanceTypes := #[]
  staticTypes := #[]
  resolved := #[]
  callSites := []
  init := .initialized
  statics := none
  mirror := none

def pool0 : Array CpInfo := pool [(5, u "<init>"), (0, u "()V"), (1, .class_ 10), (1, u "java/lang/Object")] 113

def k0m0 : Method := { name := "<init>", desc := "()V", sig := { parameters := [], returnType := none }, accessFlags := 1, code := none }
/-- java/lang/Object -/
def k0 : Class := { plain "java/lang/Object" none with
  accessFlags := 33
  interfaces := #[]
  cf := some (fileOf pool0 8 #[] #[{ accessFlags := 1, nameIndex := 5, descriptorIndex := 6, attributes := #[] }] 33 0 #[] #[])
  fields := #[]
  methods := #[k0m0]
  instanceTypes := #[]
  staticTypes := #[]
  resolved := Array.replicate 124 none
  statics := none }

def pool1 : Array CpInfo := pool [(2, .class_ 4), (1, u "java/lang/Object"), (0, u "<init>"), (0, u "()V"), (0, .methodref 8 9), (0, .class_ 10), (0, .nameAndType 11 12), (0, u "com/example/aktenwerk/aktenwerk/crypto/MontgomeryLimbsPinLaw"), (0, u "put"), (0, u "([BIJ)V"), (0, .methodref 14 15), (0, .class_ 16), (0, .nameAndType 17 18), (0, u "com/example/aktenwerk/aktenwerk/crypto/Montgomery"), (0, u "limbs"), (0, u "([BI)[J"), (0, .long 4503599627370495), (1, u "M"), (0, u "J"), (3, u "law"), (0, u "(JJJJII)Z")] 7

def k1m0 : Method := { name := "<init>", desc := "()V", sig := { parameters := [], returnType := none }, accessFlags := 1, code := none }
def k1c1 : Code := { maxStack := 5, maxLocals := 4, code := method_2_code, exceptionTable := #[], attributes := #[] }
def k1m1 : Method := { name := "put", desc := "([BIJ)V", sig := { parameters := [(.array .byte), .int, .long], returnType := none }, accessFlags := 10, code := some k1c1 }
def k1c2 : Code := { maxStack := 6, maxLocals := 23, code := code, exceptionTable := #[], attributes := #[] }
def k1m2 : Method := { name := "law", desc := "(JJJJII)Z", sig := { parameters := [.long, .long, .long, .long, .int, .int], returnType := some .boolean }, accessFlags := 9, code := some k1c2 }
/-- com/example/aktenwerk/aktenwerk/crypto/MontgomeryLimbsPinLaw -/
def k1 : Class := { plain "com/example/aktenwerk/aktenwerk/crypto/MontgomeryLimbsPinLaw" (some 0) with
  accessFlags := 49
  interfaces := #[]
  cf := some (fileOf pool1 8 #[] #[{ accessFlags := 1, nameIndex := 5, descriptorIndex := 6, attributes := #[] }, { accessFlags := 10, nameIndex := 11, descriptorIndex := 12, attributes := #[] }, { accessFlags := 9, nameIndex := 26, descriptorIndex := 27, attributes := #[] }] 49 2 #[] #[{ accessFlags := 26, nameIndex := 21, descriptorIndex := 22, attributes := #[] }])
  fields := #[{ name := "M", type := .long, accessFlags := 26, slot := 0, constantValue := 0 }]
  methods := #[k1m0, k1m1, k1m2]
  instanceTypes := #[]
  staticTypes := #[.long]
  resolved := Array.replicate 35 none
  statics := none }

def pool2 : Array CpInfo := pool [(1, .class_ 2), (0, u "com/example/aktenwerk/aktenwerk/crypto/Montgomery"), (1, .class_ 6), (1, u "java/lang/Object"), (30, u "limbs"), (3, u "m0"), (0, u "J"), (2, u "m1"), (2, u "m2"), (2, u "m3"), (2, u "m4"), (21, u "negatedInverse"), (8, u "rSquared"), (0, u "[J"), (2, u "one"), (5, u "inverseExponent"), (8, .long 4503599627370495), (45, u "LIMBS"), (0, u "I"), (2, u "BYTES"), (1, u "LIMB_BITS"), (1, u "LIMB_MASK"), (4, u "([BI)[J")] 32

def k2c0 : Code := { maxStack := 8, maxLocals := 8, code := prog_16_method_3_code, exceptionTable := #[], attributes := #[] }
def k2m0 : Method := { name := "limbs", desc := "([BI)[J", sig := { parameters := [(.array .byte), .int], returnType := some (.array .long) }, accessFlags := 8, code := some k2c0 }
/-- com/example/aktenwerk/aktenwerk/crypto/Montgomery -/
def k2 : Class := { plain "com/example/aktenwerk/aktenwerk/crypto/Montgomery" (some 0) with
  accessFlags := 49
  interfaces := #[]
  cf := some (fileOf pool2 1 #[] #[{ accessFlags := 8, nameIndex := 37, descriptorIndex := 163, attributes := #[] }] 49 4 #[] #[{ accessFlags := 24, nameIndex := 150, descriptorIndex := 151, attributes := #[] }, { accessFlags := 24, nameIndex := 154, descriptorIndex := 151, attributes := #[] }, { accessFlags := 24, nameIndex := 156, descriptorIndex := 151, attributes := #[] }, { accessFlags := 26, nameIndex := 158, descriptorIndex := 42, attributes := #[] }, { accessFlags := 18, nameIndex := 41, descriptorIndex := 42, attributes := #[] }, { accessFlags := 18, nameIndex := 45, descriptorIndex := 42, attributes := #[] }, { accessFlags := 18, nameIndex := 48, descriptorIndex := 42, attributes := #[] }, { accessFlags := 18, nameIndex := 51, descriptorIndex := 42, attributes := #[] }, { accessFlags := 18, nameIndex := 54, descriptorIndex := 42, attributes := #[] }, { accessFlags := 18, nameIndex := 76, descriptorIndex := 42, attributes := #[] }, { accessFlags := 18, nameIndex := 85, descriptorIndex := 86, attributes := #[] }, { accessFlags := 18, nameIndex := 89, descriptorIndex := 86, attributes := #[] }, { accessFlags := 18, nameIndex := 95, descriptorIndex := 86, attributes := #[] }])
  fields := #[{ name := "LIMBS", type := .int, accessFlags := 24, slot := 0, constantValue := 0 }, { name := "BYTES", type := .int, accessFlags := 24, slot := 1, constantValue := 0 }, { name := "LIMB_BITS", type := .int, accessFlags := 24, slot := 2, constantValue := 0 }, { name := "LIMB_MASK", type := .long, accessFlags := 26, slot := 3, constantValue := 0 }, { name := "m0", type := .long, accessFlags := 18, slot := 0, constantValue := 0 }, { name := "m1", type := .long, accessFlags := 18, slot := 1, constantValue := 0 }, { name := "m2", type := .long, accessFlags := 18, slot := 2, constantValue := 0 }, { name := "m3", type := .long, accessFlags := 18, slot := 3, constantValue := 0 }, { name := "m4", type := .long, accessFlags := 18, slot := 4, constantValue := 0 }, { name := "negatedInverse", type := .long, accessFlags := 18, slot := 5, constantValue := 0 }, { name := "rSquared", type := (.array .long), accessFlags := 18, slot := 6, constantValue := 0 }, { name := "one", type := (.array .long), accessFlags := 18, slot := 7, constantValue := 0 }, { name := "inverseExponent", type := (.array .long), accessFlags := 18, slot := 8, constantValue := 0 }]
  methods := #[k2m0]
  instanceTypes := #[.long, .long, .long, .long, .long, .long, (.array .long), (.array .long), (.array .long)]
  staticTypes := #[.int, .int, .int, .long]
  resolved := Array.replicate 196 none
  statics := none }

def pool3 : Array CpInfo := pool [(1, u "java/lang/Cloneable"), (0, .class_ 1), (0, u "java/lang/Object"), (0, .class_ 3)] 3

/-- java/lang/Cloneable -/
def k3 : Class := { plain "java/lang/Cloneable" (some 0) with
  accessFlags := 1537
  interfaces := #[]
  cf := some (fileOf pool3 2 #[] #[] 1537 4 #[] #[])
  fields := #[]
  methods := #[]
  instanceTypes := #[]
  staticTypes := #[]
  resolved := Array.replicate 8 none
  statics := none }

def pool4 : Array CpInfo := pool [(1, u "java/io/Serializable"), (0, .class_ 1), (0, u "java/lang/Object"), (0, .class_ 3)] 3

/-- java/io/Serializable -/
def k4 : Class := { plain "java/io/Serializable" (some 0) with
  accessFlags := 1537
  interfaces := #[]
  cf := some (fileOf pool4 2 #[] #[] 1537 4 #[] #[])
  fields := #[]
  methods := #[]
  instanceTypes := #[]
  staticTypes := #[]
  resolved := Array.replicate 8 none
  statics := none }

/-- the primitive byte -/
def k5 : Class := { plain "byte" none with kind := .primitive 'B', accessFlags := 0x411 }
/-- [B -/
def k6 : Class := { plain "[B" (some 0) with kind := .array 5 .byte, interfaces := #[3, 4], accessFlags := 1041 }

/-- the primitive int -/
def k7 : Class := { plain "int" none with kind := .primitive 'I', accessFlags := 0x411 }
/-- [I -/
def k8 : Class := { plain "[I" (some 0) with kind := .array 7 .int, interfaces := #[3, 4], accessFlags := 1041 }

/-- the primitive long -/
def k9 : Class := { plain "long" none with kind := .primitive 'J', accessFlags := 0x411 }
/-- [J -/
def k10 : Class := { plain "[J" (some 0) with kind := .array 9 .long, interfaces := #[3, 4], accessFlags := 1041 }

def heap : Heap := #[]
def classes : Array Class := #[k0, k1, k2, k3, k4, k5, k6, k7, k8, k9, k10]
def interned : List (Array UInt16 × Addr) := []
def slotsUsed : Nat := 0
def theMethod : MethodId := ⟨1, 2⟩
def args0 : Array Value := #[.long 5, .long 5, .long 5, .long 5, .int 5, .int 5]
def aboutOver (below : List Frame) : State where
  vm := { classes := classes, interned := interned.toArray }
  heap := heap
  slotsUsed := slotsUsed
  threads := #[{ frames := .invoking theMethod args0 :: below }]
def below0 : List Frame := [.native { method := ⟨0, 0⟩, args := #[] }]
def about1 : State := aboutOver below0
def p0 : Program := .bare "" "" ""
def e0 : Env := launch0.env 0 0 0
theorem w_frames : about1.frames = Frame.invoking theMethod args0 :: below0 := rfl
set_option maxRecDepth 65536 in
theorem w_args : argsFit about1.vm theMethod args0 = true := by decide +kernel
set_option maxRecDepth 65536 in
theorem w_heap : heapFits about1 = true := by decide +kernel
set_option maxRecDepth 65536 in
theorem w_runnable : about1.curStatus? = some .runnable := by decide +kernel
set_option maxRecDepth 65536 in
theorem w_alone : about1.alone = true := by decide +kernel
set_option maxRecDepth 65536 in
theorem w_named : about1.methodNamed? x = some theMethod := by decide +kernel
set_option maxRecDepth 65536 in
theorem w_hears : about1.hears theMethod below0 = true := by decide +kernel
set_option maxRecDepth 65536 in
theorem w_ripe : about1.ripe theMethod args0 below0 = true := by decide +kernel
theorem w_running : about1.status = .running := rfl
set_option maxRecDepth 65536 in
theorem w_room : about1.hasRoom e0.platform room_1 = true :=
  launch0.hasRoom_least _ room_1 (by decide +kernel) (by decide +kernel) (by decide +kernel) (by decide +kernel) (by decide +kernel) (by decide +kernel)
theorem allAtoms_all (ts : List Jvm.Cond) (a : Array Jvm.Value) (st : Jvm.State) : (allAtoms ts).before a st = ts.all (fun c => c.before a st) := by
  induction ts with
  | nil => rfl
  | cons c t ih =>
    show (Jvm.Cond.and c (allAtoms t)).before a st = _
    rw [Jvm.Cond.before_and, ih, List.all_cons]
def words1 : List Jvm.Cond := Jvm.Cond.code x code maxLocals ret :: tables_1
/-- a 'code' word, met by the world's own term for the bytes: nothing is compared byte by byte -/
theorem code_word {y : MethodName} {bytes : ByteArray} {mx : Nat} {rt : Option FieldType} {a : Array Value} {s : State} {m : MethodId} {meth : Method} {c : Code} (h1 : s.methodNamed? y = some m) (h2 : s.vm.method? m = some meth) (h3 : meth.code = some c) (h4 : c.code = bytes)
    (h5 : (c.maxLocals == mx && c.exceptionTable.isEmpty && decide (c.maxStack ≤ mostOperands) && decide (meth.sig.returnType = rt) && !meth.locks && decide (parseMethodDescriptor y.desc = some meth.sig)) = true) : (Jvm.Cond.code y bytes mx rt).before a s = true := by
  simp only [Bool.and_eq_true, beq_iff_eq, Bool.not_eq_true', decide_eq_true_eq] at h5
  obtain ⟨⟨⟨⟨⟨g1, g2⟩, g3⟩, g4⟩, g5⟩, g6⟩ := h5
  simp [Cond.before, Cond.holds, Cond.value, h1, h2, h3, h4, g1, g2, g3, g4, g5, g6]
def isCode : Jvm.Cond → Bool
  | .code _ _ _ _ => true
  | _ => false
theorem all_split {L : List Jvm.Cond} {P : Jvm.Cond → Bool} (h1 : L.all (fun c => isCode c || P c) = true) (h2 : ∀ c ∈ L.filter isCode, P c = true) : L.all P = true := by
  refine List.all_eq_true.mpr fun c hc => ?_
  have h := List.all_eq_true.mp h1 c hc
  rcases Bool.eq_false_or_eq_true (isCode c) with hi | hi
  · exact h2 c (List.mem_filter.mpr ⟨hc, hi⟩)
  · simpa [hi] using h
set_option maxRecDepth 65536 in
theorem w_c0 : (Jvm.Cond.code x code maxLocals ret).before args0 about1 = true := code_word (m := ⟨1, 2⟩) (meth := k1m2) (c := k1c2) (by decide +kernel) rfl rfl rfl (by decide +kernel)
set_option maxRecDepth 65536 in
theorem w_c1 : (Jvm.Cond.code ({ cls := "com/example/aktenwerk/aktenwerk/crypto/MontgomeryLimbsPinLaw", name := "put", desc := "([BIJ)V" } : Jvm.MethodName) method_2_code (4 : Nat) (Option.none : Option Jvm.ClassFile.FieldType)).before args0 about1 = true := code_word (m := ⟨1, 1⟩) (meth := k1m1) (c := k1c1) (by decide +kernel) rfl rfl rfl (by decide +kernel)
set_option maxRecDepth 65536 in
theorem w_c2 : (Jvm.Cond.code ({ cls := "com/example/aktenwerk/aktenwerk/crypto/Montgomery", name := "limbs", desc := "([BI)[J" } : Jvm.MethodName) prog_16_method_3_code (8 : Nat) (Option.some (Jvm.ClassFile.FieldType.array Jvm.ClassFile.FieldType.long))).before args0 about1 = true := code_word (m := ⟨2, 0⟩) (meth := k2m0) (c := k2c0) (by decide +kernel) rfl rfl rfl (by decide +kernel)
def codes1 : List Jvm.Cond := [Jvm.Cond.code x code maxLocals ret, Jvm.Cond.code ({ cls := "com/example/aktenwerk/aktenwerk/crypto/MontgomeryLimbsPinLaw", name := "put", desc := "([BIJ)V" } : Jvm.MethodName) method_2_code (4 : Nat) (Option.none : Option Jvm.ClassFile.FieldType), Jvm.Cond.code ({ cls := "com/example/aktenwerk/aktenwerk/crypto/Montgomery", name := "limbs", desc := "([BI)[J" } : Jvm.MethodName) prog_16_method_3_code (8 : Nat) (Option.some (Jvm.ClassFile.FieldType.array Jvm.ClassFile.FieldType.long))]
set_option maxRecDepth 65536 in
theorem codes_eq : words1.filter isCode = codes1 := rfl
theorem w_codes : ∀ c ∈ words1.filter isCode, c.before args0 about1 = true := by
  rw [codes_eq]
  intro c hc
  simp only [codes1, List.mem_cons, List.not_mem_nil, or_false] at hc
  rcases hc with rfl | rfl | rfl
  · exact w_c0
  · exact w_c1
  · exact w_c2
set_option maxRecDepth 65536 in
theorem w_t1 : words1.all (fun c => isCode c || c.before args0 about1) = true := by decide +kernel
theorem w_tables : (allAtoms (Jvm.Cond.code x code maxLocals ret :: tables_1)).before args0 about1 = true := by
  rw [allAtoms_all]
  show words1.all (fun c => c.before args0 about1) = true
  refine all_split ?_ w_codes
  rw [w_t1]
set_option maxRecDepth 65536 in
theorem w_case : (Jvm.Cond.and given_1 narrow_1).before args0 about1 = true := by decide +kernel
theorem w_applies : (headSpec (Jvm.Cond.code x code maxLocals ret :: tables_1) room_1).applies x e0.platform about1 = true :=
  (Spec.applies_iff w_frames).mpr ⟨w_running, w_runnable, w_alone, w_named, w_hears, w_ripe, w_room, w_tables⟩
theorem atStart : AtStart classFile x code maxLocals ret World_1 tables_1 room_1 Calls_1 rest_1 Pre_1 launch0 p0 e0 about1 theMethod args0 below0 :=
  ⟨lists_1, trivial, launch0.admits_env _ _ _, launch0.least_env, fairChoices_fair.cas, fairChoices_fair.clock, w_frames, w_args, w_heap, w_applies, trivial, trivial, w_case⟩
end start1
theorem witness_1 : WitnessClaimed_1 := ⟨start1.p0, start1.e0, start1.about1, start1.theMethod, start1.args0, start1.below0, start1.atStart⟩
end Jvm.Pilot.@@N@@
