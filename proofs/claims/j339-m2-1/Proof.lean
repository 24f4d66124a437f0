import JvmDerived
import JvmDerived.Pilot.@@N@@Statement
import JvmDerived.Pilot.@@N@@Code
set_option linter.unusedVariables false
set_option linter.unusedSimpArgs false
namespace Jvm.Sh
open Jvm Jvm.ClassFile Sem Op Lib Jvm.Free Jvm.Stand Jvm.LawKit Jvm.RoadKit Bundle
/-! A shadow of what a law makes. A shadow heap H is the list of the cells made since the start: an object (its class, its fields' names, kinds and values) or an array (its component's kind, its values). A shadow reference i stands for the address n0 + i. -/
abbrev SC := (String × List (String × String × Value)) ⊕ (FieldType × List Value)
abbrev SH := List SC
def lf (n0 : Nat) : Value → Value
  | .ref i => .ref (n0 + i)
  | v => v
def lz (n0 : Nat) : Slot → Slot
  | .val v => .val (lf n0 v)
  | x => x
abbrev LL (n0 : Nat) (L : List Slot) : Array Slot := (L.map (lz n0)).toArray
theorem lf_cat (n0 : Nat) (v : Value) : (lf n0 v).category = v.category := by cases v <;> rfl
theorem lf_isRef (n0 : Nat) (v : Value) : (lf n0 v).isRef = v.isRef := by cases v <;> rfl
theorem LL_get {n0 k : Nat} {L : List Slot} {v : Value} (h : L[k]? = some (.val v)) : (LL n0 L)[k]? = some (.val (lf n0 v)) := by simp [h, lz]
/-- an object's or an array's cell, as the shadow says -/
def CellOk (Z : State) (a0 : Array Value) (n0 : Nat) (h : Heap) (a : Addr) : SC → Prop
  | .inl (C, fs) => Exa Z h a C ∧ (∃ k, (Cond.instantiable C k).before a0 Z = true) ∧ (fs.map (·.1)).Nodup ∧
      ∀ f ∈ fs, Laid Z a0 C C f.1 f.2.1 ∧ (∃ ty, parseFieldDescriptor f.2.1 = some ty) ∧ Fld Z h a C f.1 f.2.1 (lf n0 f.2.2)
  | .inr (ty, vs) => ∃ c : Cell, Arr Z h a c ty ∧ c.slots = (vs.map (lf n0)).toArray ∧ vs.length < 2 ^ 31
def Rep (Z : State) (a0 : Array Value) (n0 : Nat) (h : Heap) (H : SH) : Prop :=
  h.size = n0 + H.length ∧ ∀ i c, H[i]? = some c → CellOk Z a0 n0 h (n0 + i) c
theorem CellOk.ext {Z : State} {a0 : Array Value} {n0 : Nat} {h h' : Heap} {a : Addr} {c : SC} (E : Ext h h') (K : CellOk Z a0 n0 h a c) : CellOk Z a0 n0 h' a c := by
  rcases c with ⟨C, fs⟩ | ⟨ty, vs⟩
  · exact ⟨K.1.ext E, K.2.1, K.2.2.1, fun f hf => ⟨(K.2.2.2 f hf).1, (K.2.2.2 f hf).2.1, (K.2.2.2 f hf).2.2.ext E⟩⟩
  · obtain ⟨c, A, r⟩ := K
    exact ⟨c, A.ext E, r⟩
theorem CellOk.other {Z : State} {a0 : Array Value} {n0 : Nat} {h h' : Heap} {a b : Addr} {sl : Nat} {v : Value} {c : SC} (W : Wr h h' a sl v) (K : CellOk Z a0 n0 h b c) (hne : b ≠ a) : CellOk Z a0 n0 h' b c := by
  rcases c with ⟨C, fs⟩ | ⟨ty, vs⟩
  · exact ⟨K.1.wr W, K.2.1, K.2.2.1, fun f hf => ⟨(K.2.2.2 f hf).1, (K.2.2.2 f hf).2.1, (K.2.2.2 f hf).2.2.other W (Or.inl hne)⟩⟩
  · obtain ⟨c, A, r⟩ := K
    exact ⟨c, A.other W hne, r⟩
theorem Rep.set {Z : State} {a0 : Array Value} {n0 i : Nat} {h h' : Heap} {H : SH} {sl : Nat} {v : Value} {c : SC} (K : Rep Z a0 n0 h H) (W : Wr h h' (n0 + i) sl v) (hi : i < H.length) (hc : CellOk Z a0 n0 h' (n0 + i) c) : Rep Z a0 n0 h' (H.set i c) := by
  refine ⟨by rw [W.size, List.length_set]; exact K.1, fun j d hd => ?_⟩
  by_cases e : j = i
  · subst e
    rw [List.getElem?_set_self hi] at hd
    cases hd
    exact hc
  · rw [List.getElem?_set_ne (Ne.symm e)] at hd
    exact (K.2 j d hd).other W (fun q => e (Nat.add_left_cancel q))
theorem Rep.push {Z : State} {a0 : Array Value} {n0 : Nat} {h h' : Heap} {H : SH} {c : SC} (K : Rep Z a0 n0 h H) (E : Ext h h') (hs : h'.size = h.size + 1) (hc : CellOk Z a0 n0 h' h.size c) : Rep Z a0 n0 h' (H ++ [c]) := by
  refine ⟨by rw [hs, K.1, List.length_append]; simp; omega, fun j d hd => ?_⟩
  rcases Nat.lt_trichotomy j H.length with q | q | q
  · rw [List.getElem?_append_left q] at hd
    exact (K.2 j d hd).ext E
  · subst q
    simp at hd
    subst hd
    rw [← K.1]; exact hc
  · rw [List.getElem?_eq_none (by simp; omega)] at hd
    cases hd
abbrev Bdy := MethodName × ByteArray × Nat × Option FieldType
/-- From this place (pc, locals, stack, shadow heap; k cells and n slots made by this call so far) the method comes to its end and returns v over H' such that Q v H'. -/
def WP (l : Launch) (Z : State) (a0 : Array Value) (n0 : Nat) (B : Bdy) (R : Room) (k n pc : Nat) (L : List Slot) (S : List Value) (H : SH) (Q : Option Value → SH → Prop) : Prop :=
  ∀ (p : Program) (e : Env) (s : State) (m : MethodId) (args : Array Value) (below : List Frame) (meth : Method) (c : Code) (T : State) (locs : List Loc),
    Stand p l e R s m args below meth c T locs k n → p.tables.exec = Jvm.exec → c.code = B.2.1 → c.maxLocals = B.2.2.1 → meth.sig.returnType = B.2.2.2 → meth.locks = false → Z.Warmed39 s.vm →
    s.vm.findClass B.1.cls = some m.cls → meth.name = B.1.name → Fr n0 locs → Rep Z a0 n0 T.heap H →
    ∃ t o, Steps p.tables e below (T.setTop (mkF m pc (LL n0 L) (S.map (lf n0)))) t ∧ t.status = .running ∧ Ended t below o ∧
      ∃ v L', o = .returned (v.map (lf n0)) ∧ (∃ H', Q v H' ∧ Rep Z a0 n0 t.heap H') ∧ Fr n0 L' ∧ FrameEnd s o t L' R.cells R.slots
/-- The method, called with these (shadow) values over this shadow heap, returns v over H' such that Q v H'. -/
def Meth (l : Launch) (Z : State) (a0 : Array Value) (n0 : Nat) (B : Bdy) (R : Room) (as : List Value) (H : SH) (Q : Option Value → SH → Prop) : Prop :=
  ∀ (h0 : Heap) (ws : List Jvm.Cond), Rep Z a0 n0 h0 H →
    MetFree l B.1 (head1 (Jvm.Cond.code B.1 B.2.1 B.2.2.1 B.2.2.2 :: ws) R) (fun a U => a = (as.map (lf n0)).toArray ∧ Z.Warmed39 U.vm ∧ U.heap = h0) (fun _ _ _ _ _ => True)
      (fun _ U o U' => ∃ v L, o = .returned v ∧ (∃ v' H', v = v'.map (lf n0) ∧ Q v' H' ∧ Rep Z a0 n0 U'.heap H' ∧ Fr n0 L) ∧ FrameEnd U o U' L R.cells R.slots)
def entryL (as : List Value) (ml : Nat) : List Slot :=
  as.foldr (fun v r => if v.category = 2 then .val v :: .second :: r else .val v :: r) [] ++ List.replicate (ml - (as.foldr (fun v r => v.category + r) 0)) .unset
section
variable {l : Launch} {Z : State} {a0 : Array Value} {n0 : Nat} {B : Bdy} {R : Room} {k n pc : Nat} {L : List Slot} {S : List Value} {H : SH} {Q : Option Value → SH → Prop}
theorem cat_pos (v : Value) : v.category = 1 ∨ v.category = 2 := by cases v <;> simp [Value.category]
theorem entry_acc (n0 : Nat) (as : List Value) (acc : Array Slot) : (as.map (lf n0)).foldl (fun acc v => if v.category = 2 then (acc.push (Slot.val v)).push Slot.second else acc.push (.val v)) acc =
    acc ++ ((as.foldr (fun v r => if v.category = 2 then Slot.val v :: Slot.second :: r else .val v :: r) []).map (lz n0)).toArray := by
  induction as generalizing acc with
  | nil => simp
  | cons v as ih =>
    simp only [List.map_cons, List.foldl_cons, List.foldr_cons, lf_cat]
    rw [ih]
    by_cases q : v.category = 2
    · simp [q, lz]
    · simp [q, lz]
theorem entry_len (as : List Value) : (as.foldr (fun v r => if v.category = 2 then Slot.val v :: Slot.second :: r else .val v :: r) []).length = as.foldr (fun v r => v.category + r) 0 := by
  induction as with
  | nil => rfl
  | cons v as ih =>
    rcases cat_pos v with q | q <;> simp [q] at ih ⊢ <;> omega
theorem entry_eq (n0 : Nat) (m : MethodId) (as : List Value) (ml : Nat) : entryFrame m (as.map (lf n0)).toArray ml = mkF m 0 (LL n0 (entryL as ml)) [] := by
  have e : argsToLocals (as.map (lf n0)).toArray ml = LL n0 (entryL as ml) := by
    simp only [argsToLocals, LL, entryL, List.foldl_toArray']
    rw [entry_acc]
    apply Array.toList_inj.mp
    simp [entry_len, lz]
  simp [entryFrame, e, mkF]
theorem Meth.of {as : List Value} (hp : plainFor B.1 = true) (hL : entryL as B.2.2.1 = L) (hW : WP l Z a0 n0 B R 0 0 0 L [] H Q) : Meth l Z a0 n0 B R as H Q := by
  intro h0 ws hR
  refine MetFree.of_bodySF hp hisR ?_
  intro p e s m args below meth c s₁ Bd hml0 hP hK
  obtain ⟨rfl, hZ, hh⟩ := hP
  have e0 : s₁.heap = h0 := by rw [← hh, Bd.state]; rfl
  subst hL
  obtain ⟨t, o, h1, h2, h3, v, L', h4, ⟨H', h5, h6⟩, h7, h8⟩ := hW p e s m _ below meth c s₁ [] (Stand.of_body Bd) Bd.exec Bd.bytes hml0 Bd.returns Bd.notSynchronized hZ (findClass_of_methodNamed Bd.named) (name_of_methodNamed Bd.named Bd.method).1 (Fr.nil n0) (by rw [e0]; exact hR)
  exact ⟨t, o, castTop (entry_eq n0 m as _) h1, h2, h3, _, L', h4, ⟨v, H', rfl, h5, h6, h7⟩, h8⟩
theorem WP.mono {Q' : Option Value → SH → Prop} (hW : WP l Z a0 n0 B R k n pc L S H Q) (hq : ∀ v H', Q v H' → Q' v H') : WP l Z a0 n0 B R k n pc L S H Q' := by
  intro p e s m args below meth c T locs X hx hc hml hret hlk hZ hown hnm hF hR
  obtain ⟨t, o, h1, h2, h3, v, L', h4, ⟨H', h5, h6⟩, h7⟩ := hW p e s m args below meth c T locs X hx hc hml hret hlk hZ hown hnm hF hR
  exact ⟨t, o, h1, h2, h3, v, L', h4, ⟨H', hq _ _ h5, h6⟩, h7⟩
theorem Meth.mono {as : List Value} {Q' : Option Value → SH → Prop} (hM : Meth l Z a0 n0 B R as H Q) (hq : ∀ v H', Q v H' → Q' v H') : Meth l Z a0 n0 B R as H Q' := by
  intro h0 ws hR p e ha hc hk s m args below hf happ hP hK
  obtain ⟨n, o, h1, h2, h3, v, L, h4, ⟨v', H', h5, h6, h7⟩, h8⟩ := hM h0 ws hR p e ha hc hk s m args below hf happ hP hK
  exact ⟨n, o, h1, h2, h3, v, L, h4, ⟨v', H', h5, hq _ _ h6, h7⟩, h8⟩
/-- a step that moves nothing but the frame -/
theorem pure {pc' : Nat} {L' : List Slot} {S' : List Value} (hr : WP l Z a0 n0 B R k n pc' L' S' H Q)
    (f : ∀ {p : Program} {e : Env} {below : List Frame} {T target : State} {m : MethodId} {c : Code}, At T m c below → p.tables.exec = Jvm.exec → c.code = B.2.1 →
      Steps p.tables e below (T.setTop (mkF m pc' (LL n0 L') (S'.map (lf n0)))) target → Steps p.tables e below (T.setTop (mkF m pc (LL n0 L) (S.map (lf n0)))) target) : WP l Z a0 n0 B R k n pc L S H Q := by
  intro p e s m args below meth c T locs X hx hc hml hret hlk hZ hown hnm hF hR
  obtain ⟨t, o, h1, h2⟩ := hr p e s m args below meth c T locs X hx hc hml hret hlk hZ hown hnm hF hR
  exact ⟨t, o, f X.here hx hc h1, h2⟩
/-! ### loads, constants -/
theorem aload_n {j : Fin 4} {v : Value} (d : decode B.2.1 pc = .ok (.aload_n j, 1)) (hl : L[j.val]? = some (.val v)) (hv : v.isRef = true) (hr : WP l Z a0 n0 B R k n (pc + 1) L (v :: S) H Q) : WP l Z a0 n0 B R k n pc L S H Q :=
  pure hr fun h hx hc st => XS.aloadN h hx rfl (hb hc d) (LL_get hl) (by rw [lf_isRef]; exact hv) st
theorem aload {j : Nat} {v : Value} (d : decode B.2.1 pc = .ok (.aload j, 2)) (hl : L[j]? = some (.val v)) (hv : v.isRef = true) (hr : WP l Z a0 n0 B R k n (pc + 2) L (v :: S) H Q) : WP l Z a0 n0 B R k n pc L S H Q :=
  pure hr fun h hx hc st => XS.aload h hx rfl (hb hc d) (LL_get hl) (by rw [lf_isRef]; exact hv) st
theorem iload_n {j : Fin 4} {x : Int32} (d : decode B.2.1 pc = .ok (.iload_n j, 1)) (hl : L[j.val]? = some (.val (.int x))) (hr : WP l Z a0 n0 B R k n (pc + 1) L (.int x :: S) H Q) : WP l Z a0 n0 B R k n pc L S H Q :=
  pure hr fun h hx hc st => XS.iloadN h hx rfl (hb hc d) (LL_get (n0 := n0) hl) st
theorem iload {j : Nat} {x : Int32} (d : decode B.2.1 pc = .ok (.iload j, 2)) (hl : L[j]? = some (.val (.int x))) (hr : WP l Z a0 n0 B R k n (pc + 2) L (.int x :: S) H Q) : WP l Z a0 n0 B R k n pc L S H Q :=
  pure hr fun h hx hc st => XS.iload h hx rfl (hb hc d) (LL_get (n0 := n0) hl) st
theorem lload_n {j : Fin 4} {x : Int64} (d : decode B.2.1 pc = .ok (.lload_n j, 1)) (hl : L[j.val]? = some (.val (.long x))) (hr : WP l Z a0 n0 B R k n (pc + 1) L (.long x :: S) H Q) : WP l Z a0 n0 B R k n pc L S H Q :=
  pure hr fun h hx hc st => XT.lloadN h hx rfl (hb hc d) (LL_get (n0 := n0) hl) st
theorem lload {j : Nat} {x : Int64} (d : decode B.2.1 pc = .ok (.lload j, 2)) (hl : L[j]? = some (.val (.long x))) (hr : WP l Z a0 n0 B R k n (pc + 2) L (.long x :: S) H Q) : WP l Z a0 n0 B R k n pc L S H Q :=
  pure hr fun h hx hc st => XT.lload h hx rfl (hb hc d) (LL_get (n0 := n0) hl) st
theorem iconst {i : Int} {x : Int32} (d : decode B.2.1 pc = .ok (.iconst i, 1)) (hx' : Int32.ofInt i = x) (hr : WP l Z a0 n0 B R k n (pc + 1) L (.int x :: S) H Q) : WP l Z a0 n0 B R k n pc L S H Q :=
  pure (hx' ▸ hr) fun h hx hc st => XS.iconst h hx rfl (hb hc d) st
theorem bipush {i : Int} {x : Int32} (d : decode B.2.1 pc = .ok (.bipush i, 2)) (hx' : (Int8.ofInt i).toInt32 = x) (hr : WP l Z a0 n0 B R k n (pc + 2) L (.int x :: S) H Q) : WP l Z a0 n0 B R k n pc L S H Q :=
  pure (hx' ▸ hr) fun h hx hc st => XS.bipush h hx rfl (hb hc d) st
theorem sipush {i : Int} {x : Int32} (d : decode B.2.1 pc = .ok (.sipush i, 3)) (hx' : (Int16.ofInt i).toInt32 = x) (hr : WP l Z a0 n0 B R k n (pc + 3) L (.int x :: S) H Q) : WP l Z a0 n0 B R k n pc L S H Q :=
  pure (hx' ▸ hr) fun h hx hc st => XS.sipush h hx rfl (hb hc d) st
theorem lconst {i : Fin 2} {x : Int64} (d : decode B.2.1 pc = .ok (.lconst i, 1)) (hx' : Int64.ofNat i = x) (hr : WP l Z a0 n0 B R k n (pc + 1) L (.long x :: S) H Q) : WP l Z a0 n0 B R k n pc L S H Q :=
  pure (hx' ▸ hr) fun h hx hc st => XT.lconst h hx rfl (hb hc d) st
theorem aconst_null (d : decode B.2.1 pc = .ok (.aconst_null, 1)) (hr : WP l Z a0 n0 B R k n (pc + 1) L (.null :: S) H Q) : WP l Z a0 n0 B R k n pc L S H Q :=
  pure hr fun h hx hc st => XS.aconstNull h hx rfl (hb hc d) st
theorem ldcI {W : List Jvm.Cond} (hw : ∀ d ∈ W, d.before a0 Z = true) {i idx : Nat} {x : Int32} (w : W[i]? = some (.constant B.1.cls idx x)) (d : decode B.2.1 pc = .ok (.ldc idx, 2)) (hr : WP l Z a0 n0 B R k n (pc + 2) L (.int x :: S) H Q) : WP l Z a0 n0 B R k n pc L S H Q := by
  intro p e s m args below meth c T locs X hx hc hml hret hlk hZ hown hnm hF hR
  obtain ⟨t, o, h1, h2⟩ := hr p e s m args below meth c T locs X hx hc hml hret hlk hZ hown hnm hF hR
  have v1 := hw _ (List.mem_of_getElem? w)
  exact ⟨t, o, X.ldcInt hx hown (mv hZ v1) (g := mkF m pc (LL n0 L) (S.map (lf n0))) rfl (hb hc d) _ h1, h2⟩
theorem ldc2L {W : List Jvm.Cond} (hw : ∀ d ∈ W, d.before a0 Z = true) {i idx : Nat} {x : Int64} (w : W[i]? = some (.constantLong B.1.cls idx x)) (d : decode B.2.1 pc = .ok (.ldc2_w idx, 3)) (hr : WP l Z a0 n0 B R k n (pc + 3) L (.long x :: S) H Q) : WP l Z a0 n0 B R k n pc L S H Q := by
  intro p e s m args below meth c T locs X hx hc hml hret hlk hZ hown hnm hF hR
  obtain ⟨t, o, h1, h2⟩ := hr p e s m args below meth c T locs X hx hc hml hret hlk hZ hown hnm hF hR
  have v1 := hw _ (List.mem_of_getElem? w)
  exact ⟨t, o, X.ldc2Long hx hown (mv hZ v1) (g := mkF m pc (LL n0 L) (S.map (lf n0))) rfl (hb hc d) _ h1, h2⟩

/-! ### stores -/
def okS : Slot → Bool
  | .unset => true
  | .val w => w.category == 1
  | .second => false
def nS : Slot → Bool
  | .second => false
  | _ => true
def n2 : Slot → Bool
  | .val w => w.category == 1
  | _ => true
def stOK (L : List Slot) (k : Nat) (v : Value) (L' : List Slot) : Prop := ∀ n0, storeLocals (LL n0 L) k (lf n0 v) = some (LL n0 L')
theorem LL_at {n0 j : Nat} {o : Slot} (h : L[j]? = some o) : (LL n0 L)[j]? = some (lz n0 o) := by simp [h]
theorem LL_set {n0 j : Nat} {o : Slot} : (LL n0 L).setIfInBounds j (lz n0 o) = LL n0 (L.set j o) := by
  apply Array.toList_inj.mp; simp [List.map_set]
theorem st1 {L' : List Slot} {j : Nat} {o : Slot} {v : Value} (h : L[j]? = some o) (ho : okS o = true) (hv : v.category = 1) (e : L.set j (.val v) = L') : stOK L j v L' := by
  intro n0
  rw [XS.store1 (LL_at h) (by cases o <;> simp_all [okS, lz, lf_cat]) (by rw [lf_cat]; exact hv), ← e, ← LL_set]
  rfl
theorem LL_size {n0 : Nat} : (LL n0 L).size = L.length := by simp
theorem lt_of_at {α : Type} {l : List α} {j : Nat} {o : α} (h : l[j]? = some o) : j < l.length := (List.getElem?_eq_some_iff.mp h).1
theorem setAt_LL {n0 j : Nat} {o : Slot} (h : j < L.length) : setAt (LL n0 L) j (lz n0 o) = some (LL n0 (L.set j o)) := by
  simp only [setAt, LL_size, h, if_true, LL_set]
theorem self1 {n0 j : Nat} {v : Value} (h : j < L.length) (hv : v.category = 1) : storeSelf (LL n0 L) j (lf n0 v) = some (LL n0 (L.set j (.val v))) := by
  have e := setAt_LL (n0 := n0) (o := .val v) h
  simp only [lz] at e
  simp [storeSelf, e, lf_cat, hv]
theorem self2 {n0 j : Nat} {v : Value} {o : Slot} (h : L[j + 1]? = some o) (ho : n2 o = true) (hv : v.category = 2) : storeSelf (LL n0 L) j (lf n0 v) = some (LL n0 ((L.set j (.val v)).set (j + 1) .second)) := by
  have h1 := lt_of_at h
  have e := setAt_LL (n0 := n0) (o := .val v) (show j < L.length by omega)
  simp only [lz] at e
  have e2 := setAt_LL (n0 := n0) (L := L.set j (.val v)) (o := .second) (j := j + 1) (by simpa using h1)
  simp only [lz] at e2
  have e3 : (LL n0 (L.set j (.val v)))[j + 1]? = some (lz n0 o) := LL_at (by rw [List.getElem?_set_ne (by omega)]; exact h)
  simp only [storeSelf, e, lf_cat, hv, Option.bind_eq_bind, Option.bind_some, if_true, e3]
  cases o with
  | unset => simpa [lz] using e2
  | second => simpa [lz] using e2
  | val w =>
    have hw : w.category = 1 := by simpa [n2] using ho
    simpa [lz, lf_cat, hw] using e2
theorem st1s {L' : List Slot} {j : Nat} {v : Value} (h : L[j + 1]? = some .second) (hv : v.category = 1) (e : (L.set j .unset).set (j + 1) (.val v) = L') : stOK L (j + 1) v L' := by
  intro n0
  subst e
  have h1 := lt_of_at h
  have e1 := LL_at (n0 := n0) h
  have e2 := setAt_LL (n0 := n0) (o := .unset) (show j < L.length by omega)
  simp only [lz] at e1 e2
  have e3 := self1 (n0 := n0) (L := L.set j .unset) (j := j + 1) (by simpa using h1) hv
  simp only [storeLocals, e1, Option.bind_eq_bind, Option.bind_some, Nat.add_sub_cancel, e2, e3]
theorem st1w {L' : List Slot} {j : Nat} {w v : Value} (h : L[j]? = some (.val w)) (hw : w.category = 2) (hl : j + 1 < L.length) (hv : v.category = 1) (e : (L.set (j + 1) .unset).set j (.val v) = L') : stOK L j v L' := by
  intro n0
  subst e
  have h1 := lt_of_at h
  have e1 := LL_at (n0 := n0) h
  have e2 := setAt_LL (n0 := n0) (o := .unset) hl
  simp only [lz] at e1 e2
  have e3 := self1 (n0 := n0) (L := L.set (j + 1) .unset) (j := j) (by simpa using h1) hv
  simp only [storeLocals, e1, lf_cat, hw, if_true, Option.bind_eq_bind, Option.bind_some, e2, e3]
theorem st2 {L' : List Slot} {j : Nat} {o o2 : Slot} {v : Value} (h : L[j]? = some o) (ho : nS o = true) (h2 : L[j + 1]? = some o2) (ho2 : n2 o2 = true) (hv : v.category = 2) (e : (L.set j (.val v)).set (j + 1) .second = L') : stOK L j v L' := by
  intro n0
  subst e
  have e1 := LL_at (n0 := n0) h
  have h3 := lt_of_at h2
  cases o with
  | second => simp [nS] at ho
  | unset =>
    simp only [lz] at e1
    simp only [storeLocals, e1, Option.bind_eq_bind, Option.bind_some, self2 h2 ho2 hv]
  | val w =>
    simp only [lz] at e1
    rcases cat_pos w with q | q
    · simp [storeLocals, e1, lf_cat, q, self2 h2 ho2 hv]
    · have e2 := setAt_LL (n0 := n0) (o := .unset) h3
      simp only [lz] at e2
      have e3 := self2 (n0 := n0) (L := L.set (j + 1) .unset) (j := j) (o := .unset) (v := v) (by rw [List.getElem?_set_self h3]) rfl hv
      have e4 : ((L.set (j + 1) .unset).set j (.val v)).set (j + 1) .second = (L.set j (.val v)).set (j + 1) .second := by
        rw [List.set_comm _ _ (show j + 1 ≠ j by omega), List.set_set]
      rw [e4] at e3
      simp only [storeLocals, e1, lf_cat, q, if_true, Option.bind_eq_bind, Option.bind_some, e2, e3]
theorem istore_n {j : Fin 4} {x : Int32} {L' : List Slot} (d : decode B.2.1 pc = .ok (.istore_n j, 1)) (hs : stOK L j.val (.int x) L') (hr : WP l Z a0 n0 B R k n (pc + 1) L' S H Q) : WP l Z a0 n0 B R k n pc L (.int x :: S) H Q :=
  pure hr fun h hx hc st => XS.istoreN h hx rfl (hb hc d) rfl (hs n0) st
theorem istore {j : Nat} {x : Int32} {L' : List Slot} (d : decode B.2.1 pc = .ok (.istore j, 2)) (hs : stOK L j (.int x) L') (hr : WP l Z a0 n0 B R k n (pc + 2) L' S H Q) : WP l Z a0 n0 B R k n pc L (.int x :: S) H Q :=
  pure hr fun h hx hc st => XS.istore h hx rfl (hb hc d) rfl (hs n0) st
theorem lstore_n {j : Fin 4} {x : Int64} {L' : List Slot} (d : decode B.2.1 pc = .ok (.lstore_n j, 1)) (hs : stOK L j.val (.long x) L') (hr : WP l Z a0 n0 B R k n (pc + 1) L' S H Q) : WP l Z a0 n0 B R k n pc L (.long x :: S) H Q :=
  pure hr fun h hx hc st => XT.lstoreN h hx rfl (hb hc d) rfl (hs n0) st
theorem lstore {j : Nat} {x : Int64} {L' : List Slot} (d : decode B.2.1 pc = .ok (.lstore j, 2)) (hs : stOK L j (.long x) L') (hr : WP l Z a0 n0 B R k n (pc + 2) L' S H Q) : WP l Z a0 n0 B R k n pc L (.long x :: S) H Q :=
  pure hr fun h hx hc st => XT.lstore h hx rfl (hb hc d) rfl (hs n0) st
theorem astore_n {j : Fin 4} {v : Value} {L' : List Slot} (d : decode B.2.1 pc = .ok (.astore_n j, 1)) (hv : v.isRef = true) (hs : stOK L j.val v L') (hr : WP l Z a0 n0 B R k n (pc + 1) L' S H Q) : WP l Z a0 n0 B R k n pc L (v :: S) H Q :=
  pure hr fun h hx hc st => XS.astoreN h hx rfl (hb hc d) rfl (by rw [lf_isRef]; exact hv) (hs n0) st
theorem astore {j : Nat} {v : Value} {L' : List Slot} (d : decode B.2.1 pc = .ok (.astore j, 2)) (hv : v.isRef = true) (hs : stOK L j v L') (hr : WP l Z a0 n0 B R k n (pc + 2) L' S H Q) : WP l Z a0 n0 B R k n pc L (v :: S) H Q :=
  pure hr fun h hx hc st => XS.astore h hx rfl (hb hc d) rfl (by rw [lf_isRef]; exact hv) (hs n0) st
theorem iinc {j : Nat} {cst : Int} {x ci y : Int32} {L' : List Slot} (d : decode B.2.1 pc = .ok (.iinc j cst, 3)) (hl : L[j]? = some (.val (.int x))) (hci : Int32.ofInt cst = ci) (hy : x + ci = y) (hs : stOK L j (.int y) L') (hr : WP l Z a0 n0 B R k n (pc + 3) L' S H Q) : WP l Z a0 n0 B R k n pc L S H Q :=
  pure hr fun h hx hc st => XS.iinc h hx rfl (hb hc d) (LL_get (n0 := n0) hl) (by rw [hci, hy]; exact hs n0) st
/-! ### the stack, arithmetic -/
theorem dup {v : Value} (d : decode B.2.1 pc = .ok (.dup, 1)) (hv : v.category = 1) (hr : WP l Z a0 n0 B R k n (pc + 1) L (v :: v :: S) H Q) : WP l Z a0 n0 B R k n pc L (v :: S) H Q :=
  pure hr fun h hx hc st => XS.dup h hx rfl (hb hc d) rfl (by rw [lf_cat]; exact hv) st
theorem pop {v : Value} (d : decode B.2.1 pc = .ok (.pop, 1)) (hv : v.category = 1) (hr : WP l Z a0 n0 B R k n (pc + 1) L S H Q) : WP l Z a0 n0 B R k n pc L (v :: S) H Q :=
  pure hr fun h hx hc st => XT.pop h hx rfl (hb hc d) rfl (by rw [lf_cat]; exact hv) st
theorem dup_x1 {v w : Value} (d : decode B.2.1 pc = .ok (.dup_x1, 1)) (hv : v.category = 1) (hv' : w.category = 1) (hr : WP l Z a0 n0 B R k n (pc + 1) L (v :: w :: v :: S) H Q) : WP l Z a0 n0 B R k n pc L (v :: w :: S) H Q :=
  pure hr fun h hx hc st => XT.dupX1 h hx rfl (hb hc d) rfl (by rw [lf_cat]; exact hv) (by rw [lf_cat]; exact hv') st
theorem dup2 {v w : Value} (d : decode B.2.1 pc = .ok (.dup2, 1)) (hv : v.category = 1) (hv' : w.category = 1) (hr : WP l Z a0 n0 B R k n (pc + 1) L (v :: w :: v :: w :: S) H Q) : WP l Z a0 n0 B R k n pc L (v :: w :: S) H Q :=
  pure hr fun h hx hc st => XT.dup2 h hx rfl (hb hc d) rfl (by rw [lf_cat]; exact hv) (by rw [lf_cat]; exact hv') st
theorem dup2L {x : Int64} (d : decode B.2.1 pc = .ok (.dup2, 1)) (hr : WP l Z a0 n0 B R k n (pc + 1) L (.long x :: .long x :: S) H Q) : WP l Z a0 n0 B R k n pc L (.long x :: S) H Q :=
  pure hr fun h hx hc st => XT.dup2L h hx rfl (hb hc d) rfl st
theorem iadd {x : Int32} {y : Int32} (d : decode B.2.1 pc = .ok (.iadd, 1)) (hr : WP l Z a0 n0 B R k n (pc + 1) L (.int (x + y) :: S) H Q) : WP l Z a0 n0 B R k n pc L (.int y :: .int x :: S) H Q :=
  pure hr fun h hx hc st => XS.iadd h hx rfl (hb hc d) rfl st
theorem isub {x : Int32} {y : Int32} (d : decode B.2.1 pc = .ok (.isub, 1)) (hr : WP l Z a0 n0 B R k n (pc + 1) L (.int (x - y) :: S) H Q) : WP l Z a0 n0 B R k n pc L (.int y :: .int x :: S) H Q :=
  pure hr fun h hx hc st => XS.isub h hx rfl (hb hc d) rfl st
theorem iand {x : Int32} {y : Int32} (d : decode B.2.1 pc = .ok (.iand, 1)) (hr : WP l Z a0 n0 B R k n (pc + 1) L (.int (x &&& y) :: S) H Q) : WP l Z a0 n0 B R k n pc L (.int y :: .int x :: S) H Q :=
  pure hr fun h hx hc st => XS.iand h hx rfl (hb hc d) rfl st
theorem imul {x : Int32} {y : Int32} (d : decode B.2.1 pc = .ok (.imul, 1)) (hr : WP l Z a0 n0 B R k n (pc + 1) L (.int (x * y) :: S) H Q) : WP l Z a0 n0 B R k n pc L (.int y :: .int x :: S) H Q :=
  pure hr fun h hx hc st => XS.imul h hx rfl (hb hc d) rfl st
theorem ixor {x : Int32} {y : Int32} (d : decode B.2.1 pc = .ok (.ixor, 1)) (hr : WP l Z a0 n0 B R k n (pc + 1) L (.int (x ^^^ y) :: S) H Q) : WP l Z a0 n0 B R k n pc L (.int y :: .int x :: S) H Q :=
  pure hr fun h hx hc st => XT.ixor h hx rfl (hb hc d) rfl st
theorem ior {x : Int32} {y : Int32} (d : decode B.2.1 pc = .ok (.ior, 1)) (hr : WP l Z a0 n0 B R k n (pc + 1) L (.int (x ||| y) :: S) H Q) : WP l Z a0 n0 B R k n pc L (.int y :: .int x :: S) H Q :=
  pure hr fun h hx hc st => XT.ior h hx rfl (hb hc d) rfl st
theorem ishl {x : Int32} {y : Int32} (d : decode B.2.1 pc = .ok (.ishl, 1)) (hr : WP l Z a0 n0 B R k n (pc + 1) L (.int (x <<< (y &&& 31)) :: S) H Q) : WP l Z a0 n0 B R k n pc L (.int y :: .int x :: S) H Q :=
  pure hr fun h hx hc st => XT.ishl h hx rfl (hb hc d) rfl st
theorem ishr {x : Int32} {y : Int32} (d : decode B.2.1 pc = .ok (.ishr, 1)) (hr : WP l Z a0 n0 B R k n (pc + 1) L (.int (x >>> (y &&& 31)) :: S) H Q) : WP l Z a0 n0 B R k n pc L (.int y :: .int x :: S) H Q :=
  pure hr fun h hx hc st => XT.ishr h hx rfl (hb hc d) rfl st
theorem iushr {x : Int32} {y : Int32} (d : decode B.2.1 pc = .ok (.iushr, 1)) (hr : WP l Z a0 n0 B R k n (pc + 1) L (.int (XT.ushr x y) :: S) H Q) : WP l Z a0 n0 B R k n pc L (.int y :: .int x :: S) H Q :=
  pure hr fun h hx hc st => XT.iushr h hx rfl (hb hc d) rfl st
theorem ladd {x : Int64} {y : Int64} (d : decode B.2.1 pc = .ok (.ladd, 1)) (hr : WP l Z a0 n0 B R k n (pc + 1) L (.long (x + y) :: S) H Q) : WP l Z a0 n0 B R k n pc L (.long y :: .long x :: S) H Q :=
  pure hr fun h hx hc st => XT.ladd h hx rfl (hb hc d) rfl st
theorem lsub {x : Int64} {y : Int64} (d : decode B.2.1 pc = .ok (.lsub, 1)) (hr : WP l Z a0 n0 B R k n (pc + 1) L (.long (x - y) :: S) H Q) : WP l Z a0 n0 B R k n pc L (.long y :: .long x :: S) H Q :=
  pure hr fun h hx hc st => XT.lsub h hx rfl (hb hc d) rfl st
theorem lmul {x : Int64} {y : Int64} (d : decode B.2.1 pc = .ok (.lmul, 1)) (hr : WP l Z a0 n0 B R k n (pc + 1) L (.long (x * y) :: S) H Q) : WP l Z a0 n0 B R k n pc L (.long y :: .long x :: S) H Q :=
  pure hr fun h hx hc st => XT.lmul h hx rfl (hb hc d) rfl st
theorem land {x : Int64} {y : Int64} (d : decode B.2.1 pc = .ok (.land, 1)) (hr : WP l Z a0 n0 B R k n (pc + 1) L (.long (x &&& y) :: S) H Q) : WP l Z a0 n0 B R k n pc L (.long y :: .long x :: S) H Q :=
  pure hr fun h hx hc st => XT.land h hx rfl (hb hc d) rfl st
theorem lor {x : Int64} {y : Int64} (d : decode B.2.1 pc = .ok (.lor, 1)) (hr : WP l Z a0 n0 B R k n (pc + 1) L (.long (x ||| y) :: S) H Q) : WP l Z a0 n0 B R k n pc L (.long y :: .long x :: S) H Q :=
  pure hr fun h hx hc st => XT.lor h hx rfl (hb hc d) rfl st
theorem lxor {x : Int64} {y : Int64} (d : decode B.2.1 pc = .ok (.lxor, 1)) (hr : WP l Z a0 n0 B R k n (pc + 1) L (.long (x ^^^ y) :: S) H Q) : WP l Z a0 n0 B R k n pc L (.long y :: .long x :: S) H Q :=
  pure hr fun h hx hc st => XT.lxor h hx rfl (hb hc d) rfl st
theorem lshl {x : Int64} {y : Int32} (d : decode B.2.1 pc = .ok (.lshl, 1)) (hr : WP l Z a0 n0 B R k n (pc + 1) L (.long (x <<< (y.toInt64 &&& 63)) :: S) H Q) : WP l Z a0 n0 B R k n pc L (.int y :: .long x :: S) H Q :=
  pure hr fun h hx hc st => XT.lshl h hx rfl (hb hc d) rfl st
theorem lshr {x : Int64} {y : Int32} (d : decode B.2.1 pc = .ok (.lshr, 1)) (hr : WP l Z a0 n0 B R k n (pc + 1) L (.long (x >>> (y.toInt64 &&& 63)) :: S) H Q) : WP l Z a0 n0 B R k n pc L (.int y :: .long x :: S) H Q :=
  pure hr fun h hx hc st => XT.lshr h hx rfl (hb hc d) rfl st
theorem lushr {x : Int64} {y : Int32} (d : decode B.2.1 pc = .ok (.lushr, 1)) (hr : WP l Z a0 n0 B R k n (pc + 1) L (.long (XT.ushrL x y) :: S) H Q) : WP l Z a0 n0 B R k n pc L (.int y :: .long x :: S) H Q :=
  pure hr fun h hx hc st => XT.lushr h hx rfl (hb hc d) rfl st
theorem ineg {x : Int32} (d : decode B.2.1 pc = .ok (.ineg, 1)) (hr : WP l Z a0 n0 B R k n (pc + 1) L (.int (-x) :: S) H Q) : WP l Z a0 n0 B R k n pc L (.int x :: S) H Q :=
  pure hr fun h hx hc st => XS.ineg h hx rfl (hb hc d) rfl st
theorem lneg {x : Int64} (d : decode B.2.1 pc = .ok (.lneg, 1)) (hr : WP l Z a0 n0 B R k n (pc + 1) L (.long (-x) :: S) H Q) : WP l Z a0 n0 B R k n pc L (.long x :: S) H Q :=
  pure hr fun h hx hc st => XT.lneg h hx rfl (hb hc d) rfl st
theorem i2l {x : Int32} (d : decode B.2.1 pc = .ok (.i2l, 1)) (hr : WP l Z a0 n0 B R k n (pc + 1) L (.long (x.toInt64) :: S) H Q) : WP l Z a0 n0 B R k n pc L (.int x :: S) H Q :=
  pure hr fun h hx hc st => XT.i2l h hx rfl (hb hc d) rfl st
theorem l2i {x : Int64} (d : decode B.2.1 pc = .ok (.l2i, 1)) (hr : WP l Z a0 n0 B R k n (pc + 1) L (.int (x.toInt32) :: S) H Q) : WP l Z a0 n0 B R k n pc L (.long x :: S) H Q :=
  pure hr fun h hx hc st => XT.l2i h hx rfl (hb hc d) rfl st
theorem i2b {x : Int32} (d : decode B.2.1 pc = .ok (.i2b, 1)) (hr : WP l Z a0 n0 B R k n (pc + 1) L (.int (x.toInt8.toInt32) :: S) H Q) : WP l Z a0 n0 B R k n pc L (.int x :: S) H Q :=
  pure hr fun h hx hc st => XT.i2b h hx rfl (hb hc d) rfl st
theorem i2s {x : Int32} (d : decode B.2.1 pc = .ok (.i2s, 1)) (hr : WP l Z a0 n0 B R k n (pc + 1) L (.int (x.toInt16.toInt32) :: S) H Q) : WP l Z a0 n0 B R k n pc L (.int x :: S) H Q :=
  pure hr fun h hx hc st => XT.i2s h hx rfl (hb hc d) rfl st
theorem i2c {x : Int32} (d : decode B.2.1 pc = .ok (.i2c, 1)) (hr : WP l Z a0 n0 B R k n (pc + 1) L (.int (x.toUInt32.toUInt16.toUInt32.toInt32) :: S) H Q) : WP l Z a0 n0 B R k n pc L (.int x :: S) H Q :=
  pure hr fun h hx hc st => XT.i2c h hx rfl (hb hc d) rfl st
theorem iaddE {x y z : Int32} (d : decode B.2.1 pc = .ok (.iadd, 1)) (hz : x + y = z) (hr : WP l Z a0 n0 B R k n (pc + 1) L (.int z :: S) H Q) : WP l Z a0 n0 B R k n pc L (.int y :: .int x :: S) H Q := iadd d (hz ▸ hr)
theorem isubE {x y z : Int32} (d : decode B.2.1 pc = .ok (.isub, 1)) (hz : x - y = z) (hr : WP l Z a0 n0 B R k n (pc + 1) L (.int z :: S) H Q) : WP l Z a0 n0 B R k n pc L (.int y :: .int x :: S) H Q := isub d (hz ▸ hr)
theorem imulE {x y z : Int32} (d : decode B.2.1 pc = .ok (.imul, 1)) (hz : x * y = z) (hr : WP l Z a0 n0 B R k n (pc + 1) L (.int z :: S) H Q) : WP l Z a0 n0 B R k n pc L (.int y :: .int x :: S) H Q := imul d (hz ▸ hr)
theorem idiv {x y : Int32} (d : decode B.2.1 pc = .ok (.idiv, 1)) (hy : y ≠ 0) (hr : WP l Z a0 n0 B R k n (pc + 1) L (.int (x / y) :: S) H Q) : WP l Z a0 n0 B R k n pc L (.int y :: .int x :: S) H Q :=
  pure hr fun h hx hc st => XS.idiv h hx rfl (hb hc d) rfl hy st
theorem irem {x y : Int32} (d : decode B.2.1 pc = .ok (.irem, 1)) (hy : y ≠ 0) (hr : WP l Z a0 n0 B R k n (pc + 1) L (.int (x % y) :: S) H Q) : WP l Z a0 n0 B R k n pc L (.int y :: .int x :: S) H Q :=
  pure hr fun h hx hc st => XS.irem h hx rfl (hb hc d) rfl hy (by rw [irem_eq_mod]; exact st)
theorem iushrE {x y z : Int32} (d : decode B.2.1 pc = .ok (.iushr, 1)) (hz : XT.ushr x y = z) (hr : WP l Z a0 n0 B R k n (pc + 1) L (.int z :: S) H Q) : WP l Z a0 n0 B R k n pc L (.int y :: .int x :: S) H Q := iushr d (hz ▸ hr)
theorem iandE {x y z : Int32} (d : decode B.2.1 pc = .ok (.iand, 1)) (hz : x &&& y = z) (hr : WP l Z a0 n0 B R k n (pc + 1) L (.int z :: S) H Q) : WP l Z a0 n0 B R k n pc L (.int y :: .int x :: S) H Q := iand d (hz ▸ hr)
theorem idivE {x y z : Int32} (d : decode B.2.1 pc = .ok (.idiv, 1)) (hy : y ≠ 0) (hz : x / y = z) (hr : WP l Z a0 n0 B R k n (pc + 1) L (.int z :: S) H Q) : WP l Z a0 n0 B R k n pc L (.int y :: .int x :: S) H Q := idiv d hy (hz ▸ hr)
theorem iremE {x y z : Int32} (d : decode B.2.1 pc = .ok (.irem, 1)) (hy : y ≠ 0) (hz : x % y = z) (hr : WP l Z a0 n0 B R k n (pc + 1) L (.int z :: S) H Q) : WP l Z a0 n0 B R k n pc L (.int y :: .int x :: S) H Q := irem d hy (hz ▸ hr)
/-! ### branches -/
theorem goto {o : Int} {pc' : Nat} (d : decode B.2.1 pc = .ok (.goto o, 3)) (hp : ((pc : Int) + o).toNat = pc') (ho : 0 ≤ (pc : Int) + o) (hr : WP l Z a0 n0 B R k n pc' L S H Q) : WP l Z a0 n0 B R k n pc L S H Q :=
  pure hr fun h hx hc st => XS.goto h hx rfl (pc0 := pc) rfl (hb hc d) ho hp st
def cP : ClassFile.Cond → Int32 → Int32 → Prop
  | .eq, x, y => x = y
  | .ne, x, y => ¬ x = y
  | .lt, x, y => x < y
  | .ge, x, y => ¬ x < y
  | .gt, x, y => y < x
  | .le, x, y => ¬ y < x
def cPL : ClassFile.Cond → Int64 → Int64 → Prop
  | .eq, x, y => x = y
  | .ne, x, y => ¬ x = y
  | .lt, x, y => x < y
  | .ge, x, y => ¬ x < y
  | .gt, x, y => y < x
  | .le, x, y => ¬ y < x
instance (cd : ClassFile.Cond) (x y : Int32) : Decidable (cP cd x y) := by cases cd <;> simp only [cP] <;> infer_instance
instance (cd : ClassFile.Cond) (x y : Int64) : Decidable (cPL cd x y) := by cases cd <;> simp only [cPL] <;> infer_instance
theorem cP_iff (cd : ClassFile.Cond) (x y : Int32) : if_icmp.holds cd x y = true ↔ cP cd x y := by
  cases cd
  · by_cases h : x = y
    · exact ⟨fun _ => h, fun _ => (teq h).1⟩
    · simp [(feq h).1, cP, h]
  · by_cases h : x = y
    · exact ⟨fun q => (by rw [(teq h).2] at q; cases q), fun q => absurd h q⟩
    · simp [(feq h).2, cP, h]
  · by_cases h : x < y
    · simp [(tlt h).1, cP, h]
    · simp [(flt h).1, cP, h]
  · by_cases h : x < y
    · simp [(tlt h).2.1, cP, h]
    · simp [(flt h).2.1, cP, h]
  · by_cases h : y < x
    · simp [(tlt h).2.2.1, cP, h]
    · simp [(flt h).2.2.1, cP, h]
  · by_cases h : y < x
    · simp [(tlt h).2.2.2, cP, h]
    · simp [(flt h).2.2.2, cP, h]
theorem cPL_iff (cd : ClassFile.Cond) (x y : Int64) : ifCond.holds cd (XT.cmpL x y) = true ↔ cPL cd x y := by
  rw [if0, cP_iff]
  by_cases h : y < x
  · have h1 : ¬ x < y := Int64.not_lt.mpr (Int64.le_of_lt h)
    have h2 : ¬ x = y := fun e => by subst e; exact absurd h Int64.lt_irrefl
    cases cd <;> simp [cP, cPL, XT.cmpL, h, h1, h2]
  · by_cases h2 : x = y
    · subst h2
      cases cd <;> simp [cP, cPL, XT.cmpL, Int64.lt_irrefl]
    · have h1 : x < y := Int64.lt_of_le_of_ne (Int64.not_lt.mp h) h2
      cases cd <;> simp [cP, cPL, XT.cmpL, h, h1, h2]
theorem icmpT {cd : ClassFile.Cond} {x y : Int32} {o : Int} {pc' : Nat} (d : decode B.2.1 pc = .ok (.if_icmp cd o, 3)) (hp : ((pc : Int) + o).toNat = pc') (ho : 0 ≤ (pc : Int) + o) (hc : cP cd x y) (hr : WP l Z a0 n0 B R k n pc' L S H Q) : WP l Z a0 n0 B R k n pc L (.int y :: .int x :: S) H Q :=
  pure hr fun h hx hc' st => XS.icmpYes h hx rfl (pc0 := pc) rfl (hb hc' d) rfl ((cP_iff _ _ _).mpr hc) ho hp st
theorem icmpF {cd : ClassFile.Cond} {x y : Int32} {o : Int} (d : decode B.2.1 pc = .ok (.if_icmp cd o, 3)) (hc : ¬ cP cd x y) (hr : WP l Z a0 n0 B R k n (pc + 3) L S H Q) : WP l Z a0 n0 B R k n pc L (.int y :: .int x :: S) H Q :=
  pure hr fun h hx hc' st => XS.icmpNo h hx rfl (hb hc' d) rfl (Bool.eq_false_iff.mpr fun q => hc ((cP_iff _ _ _).mp q)) st
theorem ifT {cd : ClassFile.Cond} {x : Int32} {o : Int} {pc' : Nat} (d : decode B.2.1 pc = .ok (.ifCond cd o, 3)) (hp : ((pc : Int) + o).toNat = pc') (ho : 0 ≤ (pc : Int) + o) (hc : cP cd x 0) (hr : WP l Z a0 n0 B R k n pc' L S H Q) : WP l Z a0 n0 B R k n pc L (.int x :: S) H Q :=
  pure hr fun h hx hc' st => XS.ifYes h hx rfl (pc0 := pc) rfl (hb hc' d) rfl ((if0 _ _).trans ((cP_iff _ _ _).mpr hc)) ho hp st
theorem ifF {cd : ClassFile.Cond} {x : Int32} {o : Int} (d : decode B.2.1 pc = .ok (.ifCond cd o, 3)) (hc : ¬ cP cd x 0) (hr : WP l Z a0 n0 B R k n (pc + 3) L S H Q) : WP l Z a0 n0 B R k n pc L (.int x :: S) H Q :=
  pure hr fun h hx hc' st => XS.ifNo h hx rfl (hb hc' d) rfl ((if0 _ _).trans (Bool.eq_false_iff.mpr fun q => hc ((cP_iff _ _ _).mp q))) st
theorem lcmp {x y : Int64} (d : decode B.2.1 pc = .ok (.lcmp, 1)) (hr : WP l Z a0 n0 B R k n (pc + 1) L (.int (XT.cmpL x y) :: S) H Q) : WP l Z a0 n0 B R k n pc L (.long y :: .long x :: S) H Q :=
  pure hr fun h hx hc st => XT.lcmp h hx rfl (hb hc d) rfl st
theorem lcmpT {cd : ClassFile.Cond} {x y : Int64} {o : Int} {pc' : Nat} (d1 : decode B.2.1 pc = .ok (.lcmp, 1)) (d : decode B.2.1 (pc + 1) = .ok (.ifCond cd o, 3)) (hp : (((pc + 1 : Nat) : Int) + o).toNat = pc') (ho : 0 ≤ ((pc + 1 : Nat) : Int) + o) (hc : cPL cd x y) (hr : WP l Z a0 n0 B R k n pc' L S H Q) : WP l Z a0 n0 B R k n pc L (.long y :: .long x :: S) H Q :=
  lcmp d1 (pure hr fun h hx hc' st => XS.ifYes h hx rfl (pc0 := pc + 1) rfl (hb hc' d) rfl ((cPL_iff _ _ _).mpr hc) ho hp st)
theorem lcmpF {cd : ClassFile.Cond} {x y : Int64} {o : Int} (d1 : decode B.2.1 pc = .ok (.lcmp, 1)) (d : decode B.2.1 (pc + 1) = .ok (.ifCond cd o, 3)) (hc : ¬ cPL cd x y) (hr : WP l Z a0 n0 B R k n (pc + 4) L S H Q) : WP l Z a0 n0 B R k n pc L (.long y :: .long x :: S) H Q :=
  lcmp d1 (pure hr fun h hx hc' st => XS.ifNo h hx rfl (hb hc' d) rfl (Bool.eq_false_iff.mpr fun q => hc ((cPL_iff _ _ _).mp q)) st)
theorem ifnullF {o : Int} {i : Nat} (d : decode B.2.1 pc = .ok (.ifnull o, 3)) (hr : WP l Z a0 n0 B R k n (pc + 3) L S H Q) : WP l Z a0 n0 B R k n pc L (.ref i :: S) H Q :=
  pure hr fun h hx hc st => XS.ifnullNo h hx rfl (hb hc d) rfl st
theorem ifnonnullT {o : Int} {i pc' : Nat} (d : decode B.2.1 pc = .ok (.ifnonnull o, 3)) (hp : ((pc : Int) + o).toNat = pc') (ho : 0 ≤ (pc : Int) + o) (hr : WP l Z a0 n0 B R k n pc' L S H Q) : WP l Z a0 n0 B R k n pc L (.ref i :: S) H Q :=
  pure hr fun h hx hc st => XT.ifnonnullYes h hx rfl (pc0 := pc) rfl (hb hc d) rfl ho hp st
theorem acmpneT {o : Int} {i j pc' : Nat} (d : decode B.2.1 pc = .ok (.if_acmp .ne o, 3)) (hp : ((pc : Int) + o).toNat = pc') (ho : 0 ≤ (pc : Int) + o) (hij : ¬ i = j) (hr : WP l Z a0 n0 B R k n pc' L S H Q) : WP l Z a0 n0 B R k n pc L (.ref j :: .ref i :: S) H Q :=
  pure hr fun h hx hc st => XT.acmpYes h hx rfl (pc0 := pc) rfl (hb hc d) rfl rfl rfl (by simp [XT.acmp, lf, hij]) ho hp st
theorem icmp_eq {x y : Int32} {o : Int} {pc' : Nat} (d : decode B.2.1 pc = .ok (.if_icmp .eq o, 3)) (hp : ((pc : Int) + o).toNat = pc') (ho : 0 ≤ (pc : Int) + o) (h1 : x = y → WP l Z a0 n0 B R k n pc' L S H Q) (h2 : ¬ x = y → WP l Z a0 n0 B R k n (pc + 3) L S H Q) : WP l Z a0 n0 B R k n pc L (.int y :: .int x :: S) H Q :=
  if q : cP .eq x y then icmpT d hp ho q (h1 q) else icmpF d q (h2 q)
theorem if_eq {x : Int32} {o : Int} {pc' : Nat} (d : decode B.2.1 pc = .ok (.ifCond .eq o, 3)) (hp : ((pc : Int) + o).toNat = pc') (ho : 0 ≤ (pc : Int) + o) (h1 : x = 0 → WP l Z a0 n0 B R k n pc' L S H Q) (h2 : ¬ x = 0 → WP l Z a0 n0 B R k n (pc + 3) L S H Q) : WP l Z a0 n0 B R k n pc L (.int x :: S) H Q :=
  if q : cP .eq x 0 then ifT d hp ho q (h1 q) else ifF d q (h2 q)
theorem lcmp_eq {x y : Int64} {o : Int} {pc' : Nat} (d1 : decode B.2.1 pc = .ok (.lcmp, 1)) (d : decode B.2.1 (pc + 1) = .ok (.ifCond .eq o, 3)) (hp : (((pc + 1 : Nat) : Int) + o).toNat = pc') (ho : 0 ≤ ((pc + 1 : Nat) : Int) + o) (h1 : x = y → WP l Z a0 n0 B R k n pc' L S H Q) (h2 : ¬ x = y → WP l Z a0 n0 B R k n (pc + 4) L S H Q) : WP l Z a0 n0 B R k n pc L (.long y :: .long x :: S) H Q :=
  if q : cPL .eq x y then lcmpT d1 d hp ho q (h1 q) else lcmpF d1 d q (h2 q)
theorem icmp_ne {x y : Int32} {o : Int} {pc' : Nat} (d : decode B.2.1 pc = .ok (.if_icmp .ne o, 3)) (hp : ((pc : Int) + o).toNat = pc') (ho : 0 ≤ (pc : Int) + o) (h1 : ¬ x = y → WP l Z a0 n0 B R k n pc' L S H Q) (h2 : x = y → WP l Z a0 n0 B R k n (pc + 3) L S H Q) : WP l Z a0 n0 B R k n pc L (.int y :: .int x :: S) H Q :=
  if q : cP .ne x y then icmpT d hp ho q (h1 q) else icmpF d q (h2 (Decidable.not_not.mp q))
theorem if_ne {x : Int32} {o : Int} {pc' : Nat} (d : decode B.2.1 pc = .ok (.ifCond .ne o, 3)) (hp : ((pc : Int) + o).toNat = pc') (ho : 0 ≤ (pc : Int) + o) (h1 : ¬ x = 0 → WP l Z a0 n0 B R k n pc' L S H Q) (h2 : x = 0 → WP l Z a0 n0 B R k n (pc + 3) L S H Q) : WP l Z a0 n0 B R k n pc L (.int x :: S) H Q :=
  if q : cP .ne x 0 then ifT d hp ho q (h1 q) else ifF d q (h2 (Decidable.not_not.mp q))
theorem lcmp_ne {x y : Int64} {o : Int} {pc' : Nat} (d1 : decode B.2.1 pc = .ok (.lcmp, 1)) (d : decode B.2.1 (pc + 1) = .ok (.ifCond .ne o, 3)) (hp : (((pc + 1 : Nat) : Int) + o).toNat = pc') (ho : 0 ≤ ((pc + 1 : Nat) : Int) + o) (h1 : ¬ x = y → WP l Z a0 n0 B R k n pc' L S H Q) (h2 : x = y → WP l Z a0 n0 B R k n (pc + 4) L S H Q) : WP l Z a0 n0 B R k n pc L (.long y :: .long x :: S) H Q :=
  if q : cPL .ne x y then lcmpT d1 d hp ho q (h1 q) else lcmpF d1 d q (h2 (Decidable.not_not.mp q))
theorem icmp_lt {x y : Int32} {o : Int} {pc' : Nat} (d : decode B.2.1 pc = .ok (.if_icmp .lt o, 3)) (hp : ((pc : Int) + o).toNat = pc') (ho : 0 ≤ (pc : Int) + o) (h1 : x < y → WP l Z a0 n0 B R k n pc' L S H Q) (h2 : ¬ x < y → WP l Z a0 n0 B R k n (pc + 3) L S H Q) : WP l Z a0 n0 B R k n pc L (.int y :: .int x :: S) H Q :=
  if q : cP .lt x y then icmpT d hp ho q (h1 q) else icmpF d q (h2 q)
theorem if_lt {x : Int32} {o : Int} {pc' : Nat} (d : decode B.2.1 pc = .ok (.ifCond .lt o, 3)) (hp : ((pc : Int) + o).toNat = pc') (ho : 0 ≤ (pc : Int) + o) (h1 : x < 0 → WP l Z a0 n0 B R k n pc' L S H Q) (h2 : ¬ x < 0 → WP l Z a0 n0 B R k n (pc + 3) L S H Q) : WP l Z a0 n0 B R k n pc L (.int x :: S) H Q :=
  if q : cP .lt x 0 then ifT d hp ho q (h1 q) else ifF d q (h2 q)
theorem lcmp_lt {x y : Int64} {o : Int} {pc' : Nat} (d1 : decode B.2.1 pc = .ok (.lcmp, 1)) (d : decode B.2.1 (pc + 1) = .ok (.ifCond .lt o, 3)) (hp : (((pc + 1 : Nat) : Int) + o).toNat = pc') (ho : 0 ≤ ((pc + 1 : Nat) : Int) + o) (h1 : x < y → WP l Z a0 n0 B R k n pc' L S H Q) (h2 : ¬ x < y → WP l Z a0 n0 B R k n (pc + 4) L S H Q) : WP l Z a0 n0 B R k n pc L (.long y :: .long x :: S) H Q :=
  if q : cPL .lt x y then lcmpT d1 d hp ho q (h1 q) else lcmpF d1 d q (h2 q)
theorem icmp_ge {x y : Int32} {o : Int} {pc' : Nat} (d : decode B.2.1 pc = .ok (.if_icmp .ge o, 3)) (hp : ((pc : Int) + o).toNat = pc') (ho : 0 ≤ (pc : Int) + o) (h1 : ¬ x < y → WP l Z a0 n0 B R k n pc' L S H Q) (h2 : x < y → WP l Z a0 n0 B R k n (pc + 3) L S H Q) : WP l Z a0 n0 B R k n pc L (.int y :: .int x :: S) H Q :=
  if q : cP .ge x y then icmpT d hp ho q (h1 q) else icmpF d q (h2 (Decidable.not_not.mp q))
theorem if_ge {x : Int32} {o : Int} {pc' : Nat} (d : decode B.2.1 pc = .ok (.ifCond .ge o, 3)) (hp : ((pc : Int) + o).toNat = pc') (ho : 0 ≤ (pc : Int) + o) (h1 : ¬ x < 0 → WP l Z a0 n0 B R k n pc' L S H Q) (h2 : x < 0 → WP l Z a0 n0 B R k n (pc + 3) L S H Q) : WP l Z a0 n0 B R k n pc L (.int x :: S) H Q :=
  if q : cP .ge x 0 then ifT d hp ho q (h1 q) else ifF d q (h2 (Decidable.not_not.mp q))
theorem lcmp_ge {x y : Int64} {o : Int} {pc' : Nat} (d1 : decode B.2.1 pc = .ok (.lcmp, 1)) (d : decode B.2.1 (pc + 1) = .ok (.ifCond .ge o, 3)) (hp : (((pc + 1 : Nat) : Int) + o).toNat = pc') (ho : 0 ≤ ((pc + 1 : Nat) : Int) + o) (h1 : ¬ x < y → WP l Z a0 n0 B R k n pc' L S H Q) (h2 : x < y → WP l Z a0 n0 B R k n (pc + 4) L S H Q) : WP l Z a0 n0 B R k n pc L (.long y :: .long x :: S) H Q :=
  if q : cPL .ge x y then lcmpT d1 d hp ho q (h1 q) else lcmpF d1 d q (h2 (Decidable.not_not.mp q))
theorem icmp_gt {x y : Int32} {o : Int} {pc' : Nat} (d : decode B.2.1 pc = .ok (.if_icmp .gt o, 3)) (hp : ((pc : Int) + o).toNat = pc') (ho : 0 ≤ (pc : Int) + o) (h1 : y < x → WP l Z a0 n0 B R k n pc' L S H Q) (h2 : ¬ y < x → WP l Z a0 n0 B R k n (pc + 3) L S H Q) : WP l Z a0 n0 B R k n pc L (.int y :: .int x :: S) H Q :=
  if q : cP .gt x y then icmpT d hp ho q (h1 q) else icmpF d q (h2 q)
theorem if_gt {x : Int32} {o : Int} {pc' : Nat} (d : decode B.2.1 pc = .ok (.ifCond .gt o, 3)) (hp : ((pc : Int) + o).toNat = pc') (ho : 0 ≤ (pc : Int) + o) (h1 : 0 < x → WP l Z a0 n0 B R k n pc' L S H Q) (h2 : ¬ 0 < x → WP l Z a0 n0 B R k n (pc + 3) L S H Q) : WP l Z a0 n0 B R k n pc L (.int x :: S) H Q :=
  if q : cP .gt x 0 then ifT d hp ho q (h1 q) else ifF d q (h2 q)
theorem lcmp_gt {x y : Int64} {o : Int} {pc' : Nat} (d1 : decode B.2.1 pc = .ok (.lcmp, 1)) (d : decode B.2.1 (pc + 1) = .ok (.ifCond .gt o, 3)) (hp : (((pc + 1 : Nat) : Int) + o).toNat = pc') (ho : 0 ≤ ((pc + 1 : Nat) : Int) + o) (h1 : y < x → WP l Z a0 n0 B R k n pc' L S H Q) (h2 : ¬ y < x → WP l Z a0 n0 B R k n (pc + 4) L S H Q) : WP l Z a0 n0 B R k n pc L (.long y :: .long x :: S) H Q :=
  if q : cPL .gt x y then lcmpT d1 d hp ho q (h1 q) else lcmpF d1 d q (h2 q)
theorem icmp_le {x y : Int32} {o : Int} {pc' : Nat} (d : decode B.2.1 pc = .ok (.if_icmp .le o, 3)) (hp : ((pc : Int) + o).toNat = pc') (ho : 0 ≤ (pc : Int) + o) (h1 : ¬ y < x → WP l Z a0 n0 B R k n pc' L S H Q) (h2 : y < x → WP l Z a0 n0 B R k n (pc + 3) L S H Q) : WP l Z a0 n0 B R k n pc L (.int y :: .int x :: S) H Q :=
  if q : cP .le x y then icmpT d hp ho q (h1 q) else icmpF d q (h2 (Decidable.not_not.mp q))
theorem if_le {x : Int32} {o : Int} {pc' : Nat} (d : decode B.2.1 pc = .ok (.ifCond .le o, 3)) (hp : ((pc : Int) + o).toNat = pc') (ho : 0 ≤ (pc : Int) + o) (h1 : ¬ 0 < x → WP l Z a0 n0 B R k n pc' L S H Q) (h2 : 0 < x → WP l Z a0 n0 B R k n (pc + 3) L S H Q) : WP l Z a0 n0 B R k n pc L (.int x :: S) H Q :=
  if q : cP .le x 0 then ifT d hp ho q (h1 q) else ifF d q (h2 (Decidable.not_not.mp q))
theorem lcmp_le {x y : Int64} {o : Int} {pc' : Nat} (d1 : decode B.2.1 pc = .ok (.lcmp, 1)) (d : decode B.2.1 (pc + 1) = .ok (.ifCond .le o, 3)) (hp : (((pc + 1 : Nat) : Int) + o).toNat = pc') (ho : 0 ≤ ((pc + 1 : Nat) : Int) + o) (h1 : ¬ y < x → WP l Z a0 n0 B R k n pc' L S H Q) (h2 : y < x → WP l Z a0 n0 B R k n (pc + 4) L S H Q) : WP l Z a0 n0 B R k n pc L (.long y :: .long x :: S) H Q :=
  if q : cPL .le x y then lcmpT d1 d hp ho q (h1 q) else lcmpF d1 d q (h2 (Decidable.not_not.mp q))
end
end Jvm.Sh
namespace Jvm.Sh
open Jvm Jvm.ClassFile Sem Op Lib Jvm.Free Jvm.Stand Jvm.LawKit Jvm.RoadKit Bundle
section
variable {l : Launch} {Z : State} {a0 : Array Value} {n0 : Nat} {B : Bdy} {R : Room} {k n pc : Nat} {L : List Slot} {S : List Value} {H : SH} {Q : Option Value → SH → Prop} {W : List Jvm.Cond}
/-! ### the heap -/
theorem lf_default (n0 : Nat) (ty : FieldType) : lf n0 (defaultValue ty) = defaultValue ty := by cases ty <;> rfl
theorem lf_narrow {n0 : Nat} {ty : FieldType} {v : Value} (h : narrow ty v = v) : narrow ty (lf n0 v) = lf n0 v := by
  cases v <;> first | exact h | (cases ty <;> rfl)
theorem lf_fits {n0 : Nat} {ty : FieldType} {v : Value} (h : fits ty v = true) : fits ty (lf n0 v) = true := by
  cases v <;> first | exact h | (cases ty <;> simp [fits, lf] at h ⊢)
theorem ext_push (h : Heap) (c : Cell) : Ext h (h.push c) :=
  ⟨by simp, fun a d e => by rw [Array.getElem?_push_lt (Array.getElem?_eq_some_iff.mp e).1]; exact (Array.getElem?_eq_getElem _).symm.trans e⟩
theorem getfield (hw : ∀ d ∈ W, d.before a0 Z = true) {i idx a j : Nat} {C nm ds : String} {fs : List (String × String × Value)} {v : Value} (w : W[i]? = some (.fieldLink B.1.cls idx C nm ds)) (d : decode B.2.1 pc = .ok (.getfield idx, 3))
    (hH : H[a]? = some (.inl (C, fs))) (hf : fs[j]? = some (nm, ds, v)) (hr : WP l Z a0 n0 B R k n (pc + 3) L (v :: S) H Q) : WP l Z a0 n0 B R k n pc L (.ref a :: S) H Q := by
  intro p e s m args below meth c T locs X hx hc hml hret hlk hZ hown hnm hF hR
  have K := (hR.2 a _ hH).2.2.2 _ (List.mem_of_getElem? hf)
  obtain ⟨T', X', e', st⟩ := getF X hx hZ hown (host := "") (Or.inl (hw _ (List.mem_of_getElem? w))) Via.refl rfl K.2.2 (g := mkF m pc (LL n0 L) ((Value.ref a :: S).map (lf n0))) rfl rfl (hb hc d)
  obtain ⟨t, o, h1, h2⟩ := hr p e s m args below meth c T' locs X' hx hc hml hret hlk hZ hown hnm hF (by rw [e']; exact hR)
  exact ⟨t, o, st _ h1, h2⟩
theorem put_ok {h h' : Heap} {a : Addr} {C nm ds : String} {fs : List (String × String × Value)} {j : Nat} {old v : Value} (K : CellOk Z a0 n0 h a (.inl (C, fs))) (hf : fs[j]? = some (nm, ds, old)) (W' : Wr h h' a (RoadKit.slotOf Z C nm ds) (lf n0 v)) :
    CellOk Z a0 n0 h' a (.inl (C, fs.set j (nm, ds, v))) := by
  obtain ⟨E, I, N, F⟩ := K
  have hj := lt_of_at hf
  have hfm := List.mem_of_getElem? hf
  refine ⟨E.wr W', I, ?_, fun f hfm' => ?_⟩
  · have : (fs.set j (nm, ds, v)).map (·.1) = fs.map (·.1) := by
      rw [List.map_set]
      apply List.ext_getElem? 
      intro i
      by_cases q : i = j
      · subst q
        rw [List.getElem?_set_self (by simpa using hj)]
        simp [hf]
      · rw [List.getElem?_set_ne (Ne.symm q)]
    rw [this]; exact N
  · obtain ⟨i, hi⟩ := List.getElem?_of_mem hfm'
    by_cases q : i = j
    · subst q
      rw [List.getElem?_set_self hj] at hi
      cases hi
      exact ⟨(F _ hfm).1, (F _ hfm).2.1, (F _ hfm).2.2.same W'⟩
    · rw [List.getElem?_set_ne (Ne.symm q)] at hi
      have hm := List.mem_of_getElem? hi
      obtain ⟨t1, ht1⟩ := (F _ hm).2.1
      obtain ⟨t2, ht2⟩ := (F _ hfm).2.1
      refine ⟨(F _ hm).1, (F _ hm).2.1, (F _ hm).2.2.other W' (Or.inr (slot_ne (F _ hm).1 (F _ hfm).1 (fun e => q ?_) ht1 ht2))⟩
      have n1 : (fs.map (·.1))[i]? = some f.1 := by simp [hi]
      have n2 : (fs.map (·.1))[j]? = some nm := by simp [hf]
      have li := lt_of_at n1
      have lj := lt_of_at n2
      refine (List.getElem_inj (h₀ := li) (h₁ := lj) N).mp ?_
      have e1 := (List.getElem?_eq_some_iff.mp n1).2
      have e2 := (List.getElem?_eq_some_iff.mp n2).2
      rw [e1, e2]; exact e
theorem putfield' (hw : ∀ d ∈ W, d.before a0 Z = true) {i i2 idx a j : Nat} {C nm ds : String} {fs fs' : List (String × String × Value)} {old v : Value} {ty : FieldType} {H' : SH} (w : W[i]? = some (.fieldLink B.1.cls idx C nm ds))
    (w2 : W[i2]? = some (.lays C C nm ds) ∨ (W[i2]? = some (.laysFinal C C nm ds) ∧ B.1.cls = C ∧ B.1.name = "<init>")) (d : decode B.2.1 pc = .ok (.putfield idx, 3))
    (hH : H[a]? = some (.inl (C, fs))) (hf : fs[j]? = some (nm, ds, old)) (hty : parseFieldDescriptor ds = some ty) (hn : narrow ty v = v) (hfit : fits ty v = true) (hset1 : fs.set j (nm, ds, v) = fs') (hset : H.set a (.inl (C, fs')) = H')
    (hr : WP l Z a0 n0 B R k n (pc + 3) L S H' Q) : WP l Z a0 n0 B R k n pc L (v :: .ref a :: S) H Q := by
  intro p e s m args below meth c T locs X hx hc hml hret hlk hZ hown hnm hF hR
  have K0 := hR.2 a _ hH
  have K := K0.2.2.2 _ (List.mem_of_getElem? hf)
  obtain ⟨kk, hk⟩ := K0.2.1
  obtain ⟨T', h', X', e', W', st⟩ := putF X hx hZ hown (host := "") (Or.inl (hw _ (List.mem_of_getElem? w))) Via.refl rfl K.2.2 K0.1 (w2.imp (fun q => hw _ (List.mem_of_getElem? q)) (fun q => ⟨hw _ (List.mem_of_getElem? q.1), q.2.1, hnm.trans q.2.2⟩)) hk hty (lf_narrow hn) (lf_fits hfit) (g := mkF m pc (LL n0 L) ((v :: Value.ref a :: S).map (lf n0))) rfl rfl (hb hc d)
  have hR' : Rep Z a0 n0 T'.heap H' := by
    rw [e', ← hset, ← hset1]
    exact hR.set W' (lt_of_at hH) (put_ok K0 hf W')
  obtain ⟨t, o, h1, h2⟩ := hr p e s m args below meth c T' _ X' hx hc hml hret hlk hZ hown hnm (Fr.snoc X' hF (Nat.le_add_right _ _)) hR'
  exact ⟨t, o, st _ h1, h2⟩
theorem putfield (hw : ∀ d ∈ W, d.before a0 Z = true) {i i2 idx a j : Nat} {C nm ds : String} {fs fs' : List (String × String × Value)} {old v : Value} {ty : FieldType} {H' : SH} (w : W[i]? = some (.fieldLink B.1.cls idx C nm ds))
    (w2 : W[i2]? = some (.lays C C nm ds)) (d : decode B.2.1 pc = .ok (.putfield idx, 3))
    (hH : H[a]? = some (.inl (C, fs))) (hf : fs[j]? = some (nm, ds, old)) (hty : parseFieldDescriptor ds = some ty) (hn : narrow ty v = v) (hfit : fits ty v = true) (hset1 : fs.set j (nm, ds, v) = fs') (hset : H.set a (.inl (C, fs')) = H')
    (hr : WP l Z a0 n0 B R k n (pc + 3) L S H' Q) : WP l Z a0 n0 B R k n pc L (v :: .ref a :: S) H Q := putfield' hw w (Or.inl w2) d hH hf hty hn hfit hset1 hset hr
theorem putfieldF (hw : ∀ d ∈ W, d.before a0 Z = true) {i i2 idx a j : Nat} {C nm ds : String} {fs fs' : List (String × String × Value)} {old v : Value} {ty : FieldType} {H' : SH} (w : W[i]? = some (.fieldLink B.1.cls idx C nm ds))
    (w2 : W[i2]? = some (.laysFinal C C nm ds)) (hC : B.1.cls = C) (hI : B.1.name = "<init>") (d : decode B.2.1 pc = .ok (.putfield idx, 3))
    (hH : H[a]? = some (.inl (C, fs))) (hf : fs[j]? = some (nm, ds, old)) (hty : parseFieldDescriptor ds = some ty) (hn : narrow ty v = v) (hfit : fits ty v = true) (hset1 : fs.set j (nm, ds, v) = fs') (hset : H.set a (.inl (C, fs')) = H')
    (hr : WP l Z a0 n0 B R k n (pc + 3) L S H' Q) : WP l Z a0 n0 B R k n pc L (v :: .ref a :: S) H Q := putfield' hw w (Or.inr ⟨w2, hC, hI⟩) d hH hf hty hn hfit hset1 hset hr
theorem newobj (hw : ∀ d ∈ W, d.before a0 Z = true) {i1 i2 i3 idx cnt a k' n' : Nat} {C : String} {fs : List (String × String × Value)} {H' : SH} (w1 : W[i1]? = some (.classLink B.1.cls idx C)) (w2 : W[i2]? = some (.instantiable C cnt)) (w3 : W[i3]? = some (.initialized C)) (d : decode B.2.1 pc = .ok (.new idx, 3))
    (hfs : ∀ f ∈ fs, (.lays C C f.1 f.2.1 ∈ W ∨ .laysFinal C C f.1 f.2.1 ∈ W) ∧ ∃ ty, parseFieldDescriptor f.2.1 = some ty ∧ defaultValue ty = f.2.2) (hnd : (fs.map (·.1)).Nodup) (hc : k + 1 ≤ R.cells) (hl : n + cnt ≤ R.slots) (hk : k + 1 = k') (hn : n + cnt = n') (hlen : H.length = a) (happ : H ++ [.inl (C, fs)] = H')
    (hr : WP l Z a0 n0 B R k' n' (pc + 3) L (.ref a :: S) H' Q) : WP l Z a0 n0 B R k n pc L S H Q := by
  intro p e s m args below meth c T locs X hx hc' hml hret hlk hZ hown hnm hF hR
  subst hk hn hlen happ
  have v1 := hw _ (List.mem_of_getElem? w1)
  have v2 := hw _ (List.mem_of_getElem? w2)
  have v3 := hw _ (List.mem_of_getElem? w3)
  obtain ⟨vm', cC, kC, h1, h2, h3, h4, X', st⟩ := X.newCold hx hown (mv hZ v1) (mv hZ v2) (mv hZ v3) (g := mkF m pc (LL n0 L) (S.map (lf n0))) rfl (hb hc' d) hc hl
  rw [hZ.alike.findClass] at h1
  obtain ⟨kZ, z1, -⟩ := Vm.findClass_spec h1
  obtain ⟨kx, z2, z3⟩ := hZ.alike.2.2 _ _ z1
  cases h2.symm.trans z2
  have ei : kC.instanceTypes = kZ.instanceTypes := by rw [z3]
  have hN : (T.heap.push { cls := cC, slots := kC.instanceTypes.map defaultValue, vm := .none })[T.heap.size]? = some { cls := cC, slots := kC.instanceTypes.map defaultValue, vm := .none } := by simp
  have E : Exa Z (T.heap.push { cls := cC, slots := kC.instanceTypes.map defaultValue, vm := .none }) T.heap.size C := ⟨_, kZ, hN, h1, z1, rfl, fun _ => by simp [ei]⟩
  have hR' : Rep Z a0 n0 (T.heap.push { cls := cC, slots := kC.instanceTypes.map defaultValue, vm := .none }) (H ++ [.inl (C, fs)]) := by
    refine hR.push (ext_push _ _) (by simp) ⟨E, ⟨_, v2⟩, hnd, fun f hf => ?_⟩
    obtain ⟨hL, ty, ht, hdv⟩ := hfs f hf
    have LD : Laid Z a0 C C f.1 f.2.1 := hL.imp (fun q => hw _ q) (fun q => hw _ q)
    refine ⟨LD, ⟨ty, ht⟩, ?_⟩
    obtain ⟨c1, k1, cf, kf, i, fd, b1, b2, b3, b4, b5, b6, -⟩ := LD.spec
    cases h1.symm.trans b1
    cases z1.symm.trans b2
    rw [← hdv, lf_default]
    exact ⟨_, cf, kf, i, fd, hN, b3, b4, by simp, rfl, b5, by simp [ei, b6, (State.fieldFound?_type b3 ht).2]⟩
  obtain ⟨t, o, g1, g2⟩ := hr p e s m args below meth c _ locs X' hx hc' hml hret hlk hZ hown hnm hF hR'
  refine ⟨t, o, st _ ?_, g2⟩
  rw [hR.1]
  exact g1
theorem newarr (hw : ∀ d ∈ W, d.before a0 Z = true) {i N cap a k' n' : Nat} {aty : ArrayType} {ty : FieldType} {dv : Value} {vs : List Value} {x : Int32} {H' : SH} (w : W[i]? = some (.arrayClass ty)) (hty : newarray.typeOf aty = ty) (d : decode B.2.1 pc = .ok (.newarray aty, 2))
    (hdv : defaultValue ty = dv) (hx0 : ¬ x < 0) (hN : x.toNatClampNeg = N) (hvs : List.replicate N dv = vs) (hcap : N ≤ cap) (hb' : cap * 8 ≤ 536870912) (hc : k + 1 ≤ R.cells) (hl : n + cap ≤ R.slots) (hk : k + 1 = k') (hn : n + cap = n') (hlen : H.length = a) (happ : H ++ [.inr (ty, vs)] = H')
    (hr : WP l Z a0 n0 B R k' n' (pc + 2) L (.ref a :: S) H' Q) : WP l Z a0 n0 B R k n pc L (.int x :: S) H Q := by
  intro p e s m args below meth c T locs X hx hc' hml hret hlk hZ hown hnm hF hR
  subst hk hn hlen happ hty hN hdv hvs
  have v1 := hw _ (List.mem_of_getElem? w)
  have hcb : componentBytes (newarray.typeOf aty) ≤ 8 := by cases aty <;> decide
  obtain ⟨cA, kA, comp, h1, h2, h3, X', st⟩ := X.newarrayPrim hx (mvA hZ v1) (g := mkF m pc (LL n0 L) ((Value.int x :: S).map (lf n0))) rfl (hb hc' d) rfl hx0 (Nat.le_trans (Nat.mul_le_mul hcap hcb) hb') hc (by omega)
  rw [hZ.alike.findClass] at h1
  obtain ⟨kZ, z1, -⟩ := Vm.findClass_spec h1
  obtain ⟨kx, z2, z3⟩ := hZ.alike.2.2 _ _ z1
  cases h2.symm.trans z2
  have hR' : Rep Z a0 n0 (T.heap.push { cls := cA, slots := Array.replicate x.toNatClampNeg (defaultValue (newarray.typeOf aty)), vm := .none }) (H ++ [.inr (newarray.typeOf aty, List.replicate x.toNatClampNeg (defaultValue (newarray.typeOf aty)))]) := by
    refine hR.push (ext_push _ _) (by simp) ⟨_, ⟨by simp; rfl, ⟨by simp, kZ, z1, comp, by rw [← h3, z3]⟩, by simp⟩, ?_, ?_⟩
    · apply Array.toList_inj.mp
      simp [lf_default]
    · have := (back32 hx0).2
      simpa using this
  obtain ⟨t, o, g1, g2⟩ := hr p e s m args below meth c _ locs (X'.more (Nat.le_refl _) (by omega)) hx hc' hml hret hlk hZ hown hnm hF hR'
  refine ⟨t, o, st _ ?_, g2⟩
  rw [hR.1]
  exact g1
theorem arr_at {h : Heap} {a : Nat} {ty : FieldType} {vs : List Value} {j : Int32} {jn : Nat} (hR : Rep Z a0 n0 h H) (hH : H[a]? = some (.inr (ty, vs))) (hj0 : ¬ j < 0) (hj : j.toNatClampNeg = jn) (hlt : jn < vs.length) :
    ∃ c : Cell, Arr Z h (n0 + a) c ty ∧ c.slots = (vs.map (lf n0)).toArray ∧ vs.length < 2 ^ 31 ∧ ¬ (j < 0 ∨ c.slots.size ≤ j.toNatClampNeg) := by
  obtain ⟨c, A, e, hl⟩ := hR.2 a _ hH
  refine ⟨c, A, e, hl, fun q => q.elim hj0 fun q => ?_⟩
  rw [e, hj] at q
  simp at q
  omega
theorem load_at {c : Cell} {vs : List Value} {j : Int32} {jn : Nat} {v : Value} (e : c.slots = (vs.map (lf n0)).toArray) (hj : j.toNatClampNeg = jn) (hv : vs[jn]? = some v) : c.slots[j.toNatClampNeg]? = some (lf n0 v) := by
  rw [e, hj]; simp [hv]
theorem iaload {a jn : Nat} {vs : List Value} {j : Int32} {v : Value} (d : decode B.2.1 pc = .ok (.iaload, 1)) (hH : H[a]? = some (.inr (.int, vs))) (hj0 : ¬ j < 0) (hj : j.toNatClampNeg = jn) (hv : vs[jn]? = some v)
    (hr : WP l Z a0 n0 B R k n (pc + 1) L (v :: S) H Q) : WP l Z a0 n0 B R k n pc L (.int j :: .ref a :: S) H Q := by
  intro p e s m args below meth c T locs X hx hc hml hret hlk hZ hown hnm hF hR
  obtain ⟨cl, A, es, -, hin⟩ := arr_at hR hH hj0 hj (lt_of_at hv)
  obtain ⟨t, o, h1, h2⟩ := hr p e s m args below meth c T locs X hx hc hml hret hlk hZ hown hnm hF hR
  exact ⟨t, o, X.iaload hx A.1 (State.isArrayOf_alike hZ.alike A.2.1) A.2.2 hin (load_at es hj hv) (g := mkF m pc (LL n0 L) ((Value.int j :: Value.ref a :: S).map (lf n0))) rfl rfl (hb hc d) _ h1, h2⟩
theorem laload {a jn : Nat} {vs : List Value} {j : Int32} {v : Value} (d : decode B.2.1 pc = .ok (.laload, 1)) (hH : H[a]? = some (.inr (.long, vs))) (hj0 : ¬ j < 0) (hj : j.toNatClampNeg = jn) (hv : vs[jn]? = some v)
    (hr : WP l Z a0 n0 B R k n (pc + 1) L (v :: S) H Q) : WP l Z a0 n0 B R k n pc L (.int j :: .ref a :: S) H Q := by
  intro p e s m args below meth c T locs X hx hc hml hret hlk hZ hown hnm hF hR
  obtain ⟨cl, A, es, -, hin⟩ := arr_at hR hH hj0 hj (lt_of_at hv)
  obtain ⟨t, o, h1, h2⟩ := hr p e s m args below meth c T locs X hx hc hml hret hlk hZ hown hnm hF hR
  exact ⟨t, o, X.laload hx A.1 (State.isArrayOf_alike hZ.alike A.2.1) A.2.2 hin (load_at es hj hv) (g := mkF m pc (LL n0 L) ((Value.int j :: Value.ref a :: S).map (lf n0))) rfl rfl (hb hc d) _ h1, h2⟩
theorem baload {a jn : Nat} {vs : List Value} {j : Int32} {v : Value} (d : decode B.2.1 pc = .ok (.baload, 1)) (hH : H[a]? = some (.inr (.byte, vs))) (hj0 : ¬ j < 0) (hj : j.toNatClampNeg = jn) (hv : vs[jn]? = some v)
    (hr : WP l Z a0 n0 B R k n (pc + 1) L (v :: S) H Q) : WP l Z a0 n0 B R k n pc L (.int j :: .ref a :: S) H Q := by
  intro p e s m args below meth c T locs X hx hc hml hret hlk hZ hown hnm hF hR
  obtain ⟨cl, A, es, -, hin⟩ := arr_at hR hH hj0 hj (lt_of_at hv)
  obtain ⟨t, o, h1, h2⟩ := hr p e s m args below meth c T locs X hx hc hml hret hlk hZ hown hnm hF hR
  exact ⟨t, o, X.baloadBytes hx A.1 (State.isArrayOf_alike hZ.alike A.2.1) A.2.2 hin (load_at es hj hv) (g := mkF m pc (LL n0 L) ((Value.int j :: Value.ref a :: S).map (lf n0))) rfl rfl (hb hc d) _ h1, h2⟩
theorem set_rep {h h' : Heap} {a jn : Nat} {ty : FieldType} {vs vs' : List Value} {c : Cell} {v : Value} {H' : SH} (hR : Rep Z a0 n0 h H) (hH : H[a]? = some (.inr (ty, vs))) (A : Arr Z h (n0 + a) c ty) (es : c.slots = (vs.map (lf n0)).toArray) (hlen : vs.length < 2 ^ 31) (W' : Wr h h' (n0 + a) jn (lf n0 v))
    (hset : vs.set jn v = vs') (hset2 : H.set a (.inr (ty, vs')) = H') : Rep Z a0 n0 h' H' := by
  subst hset hset2
  refine hR.set W' (lt_of_at hH) ⟨_, A.same W', ?_, by simpa using hlen⟩
  simp only [Cell.setSlot, es]
  apply Array.toList_inj.mp
  simp [List.map_set]
theorem iastore {a jn : Nat} {vs vs' : List Value} {j x : Int32} {H' : SH} (d : decode B.2.1 pc = .ok (.iastore, 1)) (hH : H[a]? = some (.inr (.int, vs))) (hj0 : ¬ j < 0) (hj : j.toNatClampNeg = jn) (hlt : jn < vs.length) (hset : vs.set jn (.int x) = vs') (hset2 : H.set a (.inr (.int, vs')) = H')
    (hr : WP l Z a0 n0 B R k n (pc + 1) L S H' Q) : WP l Z a0 n0 B R k n pc L (.int x :: .int j :: .ref a :: S) H Q := by
  intro p e s m args below meth c T locs X hx hc hml hret hlk hZ hown hnm hF hR
  obtain ⟨cl, A, es, hlen, hin⟩ := arr_at hR hH hj0 hj hlt
  obtain ⟨T', h', X', e', W', st⟩ := stI X hx hZ rfl A hin (g := mkF m pc (LL n0 L) ((Value.int x :: Value.int j :: Value.ref a :: S).map (lf n0))) rfl rfl (hb hc d)
  obtain ⟨t, o, h1, h2⟩ := hr p e s m args below meth c T' _ X' hx hc hml hret hlk hZ hown hnm (Fr.snoc X' hF (Nat.le_add_right _ _)) (by rw [e']; exact set_rep hR hH A es hlen (hj ▸ W') hset hset2)
  exact ⟨t, o, st _ h1, h2⟩
theorem lastore {a jn : Nat} {vs vs' : List Value} {j : Int32} {x : Int64} {H' : SH} (d : decode B.2.1 pc = .ok (.lastore, 1)) (hH : H[a]? = some (.inr (.long, vs))) (hj0 : ¬ j < 0) (hj : j.toNatClampNeg = jn) (hlt : jn < vs.length) (hset : vs.set jn (.long x) = vs') (hset2 : H.set a (.inr (.long, vs')) = H')
    (hr : WP l Z a0 n0 B R k n (pc + 1) L S H' Q) : WP l Z a0 n0 B R k n pc L (.long x :: .int j :: .ref a :: S) H Q := by
  intro p e s m args below meth c T locs X hx hc hml hret hlk hZ hown hnm hF hR
  obtain ⟨cl, A, es, hlen, hin⟩ := arr_at hR hH hj0 hj hlt
  obtain ⟨T', h', X', e', W', st⟩ := stJ X hx hZ rfl A hin (g := mkF m pc (LL n0 L) ((Value.long x :: Value.int j :: Value.ref a :: S).map (lf n0))) rfl rfl (hb hc d)
  obtain ⟨t, o, h1, h2⟩ := hr p e s m args below meth c T' _ X' hx hc hml hret hlk hZ hown hnm (Fr.snoc X' hF (Nat.le_add_right _ _)) (by rw [e']; exact set_rep hR hH A es hlen (hj ▸ W') hset hset2)
  exact ⟨t, o, st _ h1, h2⟩
theorem bastore {a jn : Nat} {vs vs' : List Value} {j x y : Int32} {H' : SH} (d : decode B.2.1 pc = .ok (.bastore, 1)) (hH : H[a]? = some (.inr (.byte, vs))) (hj0 : ¬ j < 0) (hj : j.toNatClampNeg = jn) (hlt : jn < vs.length) (hy : x.toInt8.toInt32 = y) (hset : vs.set jn (.int y) = vs') (hset2 : H.set a (.inr (.byte, vs')) = H')
    (hr : WP l Z a0 n0 B R k n (pc + 1) L S H' Q) : WP l Z a0 n0 B R k n pc L (.int x :: .int j :: .ref a :: S) H Q := by
  intro p e s m args below meth c T locs X hx hc hml hret hlk hZ hown hnm hF hR
  obtain ⟨cl, A, es, hlen, hin⟩ := arr_at hR hH hj0 hj hlt
  obtain ⟨T', h', X', e', W', st⟩ := stB X hx hZ rfl A hin (g := mkF m pc (LL n0 L) ((Value.int x :: Value.int j :: Value.ref a :: S).map (lf n0))) rfl rfl (hb hc d)
  subst hy
  obtain ⟨t, o, h1, h2⟩ := hr p e s m args below meth c T' _ X' hx hc hml hret hlk hZ hown hnm (Fr.snoc X' hF (Nat.le_add_right _ _)) (by rw [e']; exact set_rep (v := .int x.toInt8.toInt32) hR hH A es hlen (hj ▸ W') hset hset2)
  exact ⟨t, o, st _ h1, h2⟩
theorem arraylength {a : Nat} {ty : FieldType} {vs : List Value} {N : Int32} (d : decode B.2.1 pc = .ok (.arraylength, 1)) (hH : H[a]? = some (.inr (ty, vs))) (hN : vs.length.toInt32 = N) (hr : WP l Z a0 n0 B R k n (pc + 1) L (.int N :: S) H Q) : WP l Z a0 n0 B R k n pc L (.ref a :: S) H Q := by
  intro p e s m args below meth c T locs X hx hc hml hret hlk hZ hown hnm hF hR
  obtain ⟨cl, A, es, -⟩ := hR.2 a _ hH
  obtain ⟨t, o, h1, h2⟩ := hr p e s m args below meth c T locs X hx hc hml hret hlk hZ hown hnm hF hR
  refine ⟨t, o, X.arraylength hx A.1 (State.isArrayOf_alike hZ.alike A.2.1) (g := mkF m pc (LL n0 L) ((Value.ref a :: S).map (lf n0))) rfl rfl (hb hc d) _ ?_, h2⟩
  have e1 : cl.slots.size.toInt32 = N := by rw [es, ← hN]; simp
  rw [e1]
  exact h1
/-! ### returns -/
theorem leave' {p : Program} {e : Env} {s : State} {m : MethodId} {args : Array Value} {below : List Frame} {meth : Method} {c : Code} {T : State} {locs : List Loc} (X : Stand p l e R s m args below meth c T locs k n) (hlk : meth.locks = false) {v : Option Value} (hv : meth.sig.returnType = none → v = none) (hF : Fr n0 locs) (hR : Rep Z a0 n0 T.heap H) (hQ : Q v H) (hk : k ≤ R.cells) (hn : n ≤ R.slots) {g : JFrame}
    (st : ∀ fs, (∀ (f : JFrame) (acts : List Action), f.method = m → f.locked = none → f.entered = [] → (doReturn e (T.setTop f) acts (v.map (lf n0))).1 = T.setFrames fs) → Steps p.tables e below (T.setTop g) (T.setFrames fs)) :
    ∃ t o, Steps p.tables e below (T.setTop g) t ∧ t.status = .running ∧ Ended t below o ∧
      ∃ v L', o = .returned (v.map (lf n0)) ∧ (∃ H', Q v H' ∧ Rep Z a0 n0 t.heap H') ∧ Fr n0 L' ∧ FrameEnd s o t L' R.cells R.slots := by
  obtain ⟨fs, hr, hrun, hended, hW, hsame⟩ := X.leave (v := v.map (lf n0)) (fun q => by rw [hv q]; rfl) hlk
  exact ⟨_, _, st fs hr, hrun, hended, v, locs, rfl, ⟨H, hQ, hR⟩, hF, ⟨_, rfl⟩, hW, hsame.mono hk hn⟩
theorem retI {x : Int32} (d : decode B.2.1 pc = .ok (.ireturn, 1)) (hrt : B.2.2.2 = some .int) (hk : k ≤ R.cells) (hn : n ≤ R.slots) (hQ : Q (some (.int x)) H) : WP l Z a0 n0 B R k n pc L (.int x :: S) H Q := by
  intro p e s m args below meth c T locs X hx hc hml hret hlk hZ hown hnm hF hR
  refine leave' X hlk (v := some (.int x)) (fun q => by rw [hret, hrt] at q; cases q) hF hR hQ hk hn fun fs hr => ?_
  exact retOut X hx (hret.trans hrt) rfl (Or.inl ⟨rfl, Or.inl rfl, x, rfl⟩) (hb hc d) hr
theorem retN {x y : Int32} {ty : FieldType} (d : decode B.2.1 pc = .ok (.ireturn, 1)) (hrt : B.2.2.2 = some ty) (ht : ty = .boolean ∨ ty = .byte ∨ ty = .char ∨ ty = .short) (hy : nar ty x = y) (hk : k ≤ R.cells) (hn : n ≤ R.slots) (hQ : Q (some (.int y)) H) : WP l Z a0 n0 B R k n pc L (.int x :: S) H Q := by
  intro p e s m args below meth c T locs X hx hc hml hret hlk hZ hown hnm hF hR
  subst hy
  refine leave' X hlk (v := some (.int (nar ty x))) (fun q => by rw [hret, hrt] at q; cases q) hF hR hQ hk hn fun fs hr => ?_
  exact RoadKit.retN X hx (hret.trans hrt) ht (hb hc d) hr
theorem retL {x : Int64} (d : decode B.2.1 pc = .ok (.lreturn, 1)) (hrt : B.2.2.2 = some .long) (hk : k ≤ R.cells) (hn : n ≤ R.slots) (hQ : Q (some (.long x)) H) : WP l Z a0 n0 B R k n pc L (.long x :: S) H Q := by
  intro p e s m args below meth c T locs X hx hc hml hret hlk hZ hown hnm hF hR
  refine leave' X hlk (v := some (.long x)) (fun q => by rw [hret, hrt] at q; cases q) hF hR hQ hk hn fun fs hr => ?_
  exact retOut X hx (hret.trans hrt) rfl (Or.inr (Or.inl ⟨rfl, rfl, x, rfl⟩)) (hb hc d) hr
theorem retA {v : Value} {ty : FieldType} (d : decode B.2.1 pc = .ok (.areturn, 1)) (hrt : B.2.2.2 = some ty) (ht : ty.isReference = true) (hv : v.isRef = true) (hk : k ≤ R.cells) (hn : n ≤ R.slots) (hQ : Q (some v) H) : WP l Z a0 n0 B R k n pc L (v :: S) H Q := by
  intro p e s m args below meth c T locs X hx hc hml hret hlk hZ hown hnm hF hR
  refine leave' X hlk (v := some v) (fun q => by rw [hret, hrt] at q; cases q) hF hR hQ hk hn fun fs hr => ?_
  refine retOut X hx (hret.trans hrt) ?_ (Or.inr (Or.inr (Or.inr (Or.inr ⟨rfl, ht, by rw [lf_isRef]; exact hv⟩)))) (hb hc d) hr
  cases ty <;> first | (cases ht; done) | rfl
theorem ret0 (d : decode B.2.1 pc = .ok (.return_, 1)) (hrt : B.2.2.2 = none) (hk : k ≤ R.cells) (hn : n ≤ R.slots) (hQ : Q none H) : WP l Z a0 n0 B R k n pc L [] H Q := by
  intro p e s m args below meth c T locs X hx hc hml hret hlk hZ hown hnm hF hR
  refine leave' X hlk (v := none) (fun _ => rfl) hF hR hQ hk hn fun fs hr => ?_
  exact X.returnOut hx (hret.trans hrt) (hb hc d) hr
/-! ### calls -/
theorem cat_sum (n0 : Nat) (S : List Value) : ((S.map (lf n0)).map fun v => v.category).sum = (S.map fun v => v.category).sum := by
  simp [List.map_map, Function.comp_def, lf_cat]
theorem lf_out (n0 : Nat) (v : Option Value) (S : List Value) : (v.map (lf n0)).toList ++ S.map (lf n0) = (v.toList ++ S).map (lf n0) := by cases v <;> simp
theorem rep_plain {h : Heap} {a : Nat} {c : SC} (hR : Rep Z a0 n0 h H) (hH : H[a]? = some c) : ∃ cell : Cell, h[n0 + a]? = some cell ∧ ∀ q, cell.vm ≠ .statics q := by
  have K := hR.2 a _ hH
  rcases c with ⟨C, fs⟩ | ⟨ty, vs⟩
  · exact K.1.cell
  · obtain ⟨c, A, -⟩ := K
    exact ⟨c, A.1, A.2.1.1⟩
variable {B' : Bdy} {R' : Room} {as S' : List Value} {Q' : Option Value → SH → Prop} {ps : List FieldType} {r : Option FieldType} {i1 i2 i3 i4 i5 idx k' n' : Nat}
theorem callS (hw : ∀ d ∈ W, d.before a0 Z = true) (w1 : W[i1]? = some (.methodLink B.1.cls idx B'.1)) (w2 : W[i2]? = some (.static B'.1)) (w3 : W[i3]? = some (.initialized B'.1.cls)) (w4 : W[i4]? = some (.code B'.1 B'.2.1 B'.2.2.1 B'.2.2.2))
    (hy : B'.1.cls ≠ "java/lang/invoke/MethodHandle" ∧ B'.1.cls ≠ "java/lang/invoke/VarHandle") (hM : Meth l Z a0 n0 B' R' as H Q') (d : decode B.2.1 pc = .ok (.invokestatic idx, 3)) (hS : S = as.reverse ++ S') (hL : L.length = B.2.2.1) (hd : parseMethodDescriptor B'.1.desc = some ⟨ps, r⟩) (hps : as.length = ps.length)
    (hf : R'.frames + 1 ≤ R.frames) (hl : (S'.map fun v => v.category).sum + (B'.2.2.1 + 11) + R'.locals ≤ R.locals) (hc : k + R'.cells ≤ R.cells) (hs : n + R'.slots ≤ R.slots) (hk : k + R'.cells = k') (hn : n + R'.slots = n')
    (hr : ∀ v H', Q' v H' → WP l Z a0 n0 B R k' n' (pc + 3) L (v.toList ++ S') H' Q) : WP l Z a0 n0 B R k n pc L S H Q := by
  intro p e s m args below meth c T locs X hx hc' hml hret hlk hZ hown hnm hF hR
  subst hk hn hS
  have v4 := hw _ (List.mem_of_getElem? w4)
  have v3 := hw _ (List.mem_of_getElem? w3)
  obtain ⟨_, _, ⟨T', L1, k1, n1⟩, -, X', ⟨L2, ⟨v, H', rfl, hq, hR', hF'⟩, e1, e2, e3⟩, st⟩ := Jvm.LawKit.callS X hx hown (mvT hZ (hw _ (List.mem_of_getElem? w1))) (mvT hZ (hw _ (List.mem_of_getElem? w2))) (mvT hZ v3) (mvT hZ v4) hy (W := (S'.map fun v => v.category).sum)
    (backOf (h := T.heap) (Q := fun v h L => ∃ v' H', v = v'.map (lf n0) ∧ Q' v' H' ∧ Rep Z a0 n0 h H' ∧ Fr n0 L) (hM T.heap [] hR) hZ v4 v3 hf hl) (g := mkF m pc (LL n0 L) ((as.reverse ++ S').map (lf n0))) rfl (by rw [hml, ← hL]; simp) (argsL := as.map (lf n0)) (rest := S'.map (lf n0)) (lenOf hd (by simpa using hps)) (by simp) (by show 2 * 0 + _ ≤ _; rw [cat_sum]; omega) (hb hc' d) (fun _ _ => ⟨rfl, rfl, hc, hs⟩)
  dsimp only [Pt.U, Pt.locs, Pt.cells, Pt.slots] at X' e1 e2 e3 hR' st
  subst e1 e2 e3
  obtain ⟨t, o, h1, h2⟩ := hr v H' hq p e s m args below meth c T' _ X' hx hc' hml hret hlk hZ hown hnm (Fr.app hF hF') hR'
  refine ⟨t, o, st _ ?_, h2⟩
  rw [lf_out]
  exact h1
theorem callI {a : Nat} (hw : ∀ d ∈ W, d.before a0 Z = true) (hi : B'.1.name = "<init>") (hret' : B'.2.2.2 = none) (w1 : W[i1]? = some (.methodLink B.1.cls idx B'.1)) (w2 : W[i2]? = some (.instanceMethod B'.1)) (w3 : W[i3]? = some (.initialized B'.1.cls)) (w4 : W[i4]? = some (.code B'.1 B'.2.1 B'.2.2.1 B'.2.2.2))
    (hy : B'.1.cls ≠ "java/lang/invoke/MethodHandle" ∧ B'.1.cls ≠ "java/lang/invoke/VarHandle") (hM : Meth l Z a0 n0 B' R' (.ref a :: as) H Q') (d : decode B.2.1 pc = .ok (.invokespecial idx, 3)) (hS : S = as.reverse ++ .ref a :: S') (hL : L.length = B.2.2.1) (hd : parseMethodDescriptor B'.1.desc = some ⟨ps, r⟩) (hps : as.length = ps.length)
    (hf : R'.frames + 1 ≤ R.frames) (hl : (S'.map fun v => v.category).sum + (B'.2.2.1 + 11) + R'.locals ≤ R.locals) (hc : k + R'.cells ≤ R.cells) (hs : n + R'.slots ≤ R.slots) (hk : k + R'.cells = k') (hn : n + R'.slots = n')
    (hr : ∀ v H', Q' v H' → WP l Z a0 n0 B R k' n' (pc + 3) L (v.toList ++ S') H' Q) : WP l Z a0 n0 B R k n pc L S H Q := by
  intro p e s m args below meth c T locs X hx hc' hml hret hlk hZ hown hnm hF hR
  subst hk hn hS
  have v4 := hw _ (List.mem_of_getElem? w4)
  have v3 := hw _ (List.mem_of_getElem? w3)
  obtain ⟨_, _, ⟨T', L1, k1, n1⟩, -, X', ⟨L2, ⟨v, H', rfl, hq, hR', hF'⟩, e1, e2, e3⟩, st⟩ := X.specialBack hx hi hown (mvT hZ (hw _ (List.mem_of_getElem? w1))) (mvT hZ (hw _ (List.mem_of_getElem? w2))) (bytes := B'.2.1) (maxL := B'.2.2.1) (by rw [← hret']; exact mvT hZ v4) hy (W := (S'.map fun v => v.category).sum)
    (backOf (h := T.heap) (Q := fun v h L => ∃ v' H', v = v'.map (lf n0) ∧ Q' v' H' ∧ Rep Z a0 n0 h H' ∧ Fr n0 L) (hM T.heap [] hR) hZ v4 v3 hf hl) (g := mkF m pc (LL n0 L) ((as.reverse ++ Value.ref a :: S').map (lf n0))) rfl (by rw [hml, ← hL]; simp) (Steps.refl _) (a := n0 + a) (argsL := as.map (lf n0)) (rest := S'.map (lf n0)) (lenOf hd (by simpa using hps)) (by simp [lf]) (by show 2 * 0 + _ ≤ _; rw [cat_sum]; omega) (hb hc' d) (fun _ _ => ⟨rfl, rfl, hc, hs⟩)
  dsimp only [Pt.U, Pt.locs, Pt.cells, Pt.slots] at X' e1 e2 e3 hR' st
  subst e1 e2 e3
  obtain ⟨t, o, h1, h2⟩ := hr v H' hq p e s m args below meth c T' _ X' hx hc' hml hret hlk hZ hown hnm (Fr.app hF hF') hR'
  refine ⟨t, o, st.trans ?_, h2⟩
  rw [lf_out]
  exact h1
theorem callV {a : Nat} {fs : List (String × String × Value)} (hw : ∀ d ∈ W, d.before a0 Z = true) (w1 : W[i1]? = some (.methodLink B.1.cls idx B'.1)) (w5 : W[i5]? = some (.declares B'.1)) (w2 : W[i2]? = some (.instanceMethod B'.1)) {i6 : Nat} (w6 : W[i6]? = some (.selects B'.1.cls B'.1 B'.1)) (w3 : W[i3]? = some (.initialized B'.1.cls)) (w4 : W[i4]? = some (.code B'.1 B'.2.1 B'.2.2.1 B'.2.2.2))
    (hy : B'.1.cls ≠ "java/lang/invoke/MethodHandle" ∧ B'.1.cls ≠ "java/lang/invoke/VarHandle") (hH : H[a]? = some (.inl (B'.1.cls, fs))) (hM : Meth l Z a0 n0 B' R' (.ref a :: as) H Q') (d : decode B.2.1 pc = .ok (.invokevirtual idx, 3)) (hS : S = as.reverse ++ .ref a :: S') (hL : L.length = B.2.2.1) (hd : parseMethodDescriptor B'.1.desc = some ⟨ps, r⟩) (hps : as.length = ps.length)
    (hf : R'.frames + 1 ≤ R.frames) (hl : (S'.map fun v => v.category).sum + (B'.2.2.1 + 11) + R'.locals ≤ R.locals) (hc : k + R'.cells ≤ R.cells) (hs : n + R'.slots ≤ R.slots) (hk : k + R'.cells = k') (hn : n + R'.slots = n')
    (hr : ∀ v H', Q' v H' → WP l Z a0 n0 B R k' n' (pc + 3) L (v.toList ++ S') H' Q) : WP l Z a0 n0 B R k n pc L S H Q := by
  intro p e s m args below meth c T locs X hx hc' hml hret hlk hZ hown hnm hF hR
  subst hk hn hS
  have v4 := hw _ (List.mem_of_getElem? w4)
  have v3 := hw _ (List.mem_of_getElem? w3)
  have v6 := hw _ (List.mem_of_getElem? w6)
  obtain ⟨cB, kB, f1, f2, f3⟩ := isOf hZ rfl (hR.2 a _ hH).1
  obtain ⟨_, _, ⟨T', L1, k1, n1⟩, -, X', ⟨L2, ⟨v, H', rfl, hq, hR', hF'⟩, e1, e2, e3⟩, st⟩ := X.virtualBack hx hown (mvT hZ (hw _ (List.mem_of_getElem? w1))) (mvT hZ (hw _ (List.mem_of_getElem? w5))) (notFace_of_selects (args := #[]) (mvT hZ v6)) (mvT hZ v6) (mvT hZ (hw _ (List.mem_of_getElem? w2))) hy (W := (S'.map fun v => v.category).sum)
    (backOf (h := T.heap) (Q := fun v h L => ∃ v' H', v = v'.map (lf n0) ∧ Q' v' H' ∧ Rep Z a0 n0 h H' ∧ Fr n0 L) (hM T.heap [] hR) hZ v4 v3 hf hl) f1 f3 (g := mkF m pc (LL n0 L) ((as.reverse ++ Value.ref a :: S').map (lf n0))) rfl (by rw [hml, ← hL]; simp) (Steps.refl _) (argsL := as.map (lf n0)) (rest := S'.map (lf n0)) (lenOf hd (by simpa using hps)) (by simp [lf]) (by show 2 * 0 + _ ≤ _; rw [cat_sum]; omega) (hb hc' d) (fun _ _ => ⟨rfl, rfl, hc, hs⟩)
  dsimp only [Pt.U, Pt.locs, Pt.cells, Pt.slots] at X' e1 e2 e3 hR' st
  subst e1 e2 e3
  obtain ⟨t, o, h1, h2⟩ := hr v H' hq p e s m args below meth c T' _ X' hx hc' hml hret hlk hZ hown hnm (Fr.app hF hF') hR'
  refine ⟨t, o, st.trans ?_, h2⟩
  rw [lf_out]
  exact h1
/-- a private instance method: its class is no interface, as some 'instantiable' word of it says -/
theorem callP {a : Nat} {fs : List (String × String × Value)} (hw : ∀ d ∈ W, d.before a0 Z = true) (w1 : W[i1]? = some (.methodLink B.1.cls idx B'.1)) (w2 : W[i2]? = some (.instanceMethod B'.1)) (w5 : W[i5]? = some (.privateMethod B'.1)) {i6 cnt : Nat} (w6 : W[i6]? = some (.instantiable B'.1.cls cnt)) (w3 : W[i3]? = some (.initialized B'.1.cls)) (w4 : W[i4]? = some (.code B'.1 B'.2.1 B'.2.2.1 B'.2.2.2))
    (hy : B'.1.cls ≠ "java/lang/invoke/MethodHandle" ∧ B'.1.cls ≠ "java/lang/invoke/VarHandle") (hH : H[a]? = some (.inl (B'.1.cls, fs))) (hM : Meth l Z a0 n0 B' R' (.ref a :: as) H Q') (d : decode B.2.1 pc = .ok (.invokevirtual idx, 3)) (hS : S = as.reverse ++ .ref a :: S') (hL : L.length = B.2.2.1) (hd : parseMethodDescriptor B'.1.desc = some ⟨ps, r⟩) (hps : as.length = ps.length)
    (hf : R'.frames + 1 ≤ R.frames) (hl : (S'.map fun v => v.category).sum + (B'.2.2.1 + 11) + R'.locals ≤ R.locals) (hc : k + R'.cells ≤ R.cells) (hs : n + R'.slots ≤ R.slots) (hk : k + R'.cells = k') (hn : n + R'.slots = n')
    (hr : ∀ v H', Q' v H' → WP l Z a0 n0 B R k' n' (pc + 3) L (v.toList ++ S') H' Q) : WP l Z a0 n0 B R k n pc L S H Q := by
  intro p e s m args below meth c T locs X hx hc' hml hret hlk hZ hown hnm hF hR
  subst hk hn hS
  have v4 := hw _ (List.mem_of_getElem? w4)
  have v3 := hw _ (List.mem_of_getElem? w3)
  have v2 : (Jvm.Cond.instanceMethod B'.1).before args s = true := mvT hZ (hw _ (List.mem_of_getElem? w2))
  have vp := Cond.privateMethod_at (mvP hZ (hw _ (List.mem_of_getElem? w5)) (args := #[]))
  have v6 : (Jvm.Cond.instantiable B'.1.cls cnt).before args s = true := mv hZ (hw _ (List.mem_of_getElem? w6))
  obtain ⟨cI, kI, j1, j2, j3, j4⟩ := Cond.instantiable_spec v6
  have jI : kI.isInterface = false := (Bool.or_eq_false_iff.mp j4.1).1
  obtain ⟨cell, q1, q2⟩ := rep_plain hR hH
  obtain ⟨_, _, ⟨T', L1, k1, n1⟩, -, X', ⟨L2, ⟨v, H', rfl, hq, hR', hF'⟩, e1, e2, e3⟩, st⟩ := X.privateBack hx hown (mvT hZ (hw _ (List.mem_of_getElem? w1))) v2 (selects_self_of_private j1 j2 jI vp v2 hy) vp (mvT hZ v4) hy (W := (S'.map fun v => v.category).sum)
    (backOf (h := T.heap) (Q := fun v h L => ∃ v' H', v = v'.map (lf n0) ∧ Q' v' H' ∧ Rep Z a0 n0 h H' ∧ Fr n0 L) (hM T.heap [] hR) hZ v4 v3 hf hl) (g := mkF m pc (LL n0 L) ((as.reverse ++ Value.ref a :: S').map (lf n0))) rfl (by rw [hml, ← hL]; simp) (Steps.refl _) (a := n0 + a) q1 q2 (argsL := as.map (lf n0)) (rest := S'.map (lf n0)) (lenOf hd (by simpa using hps)) (by simp [lf]) (by show 2 * 0 + _ ≤ _; rw [cat_sum]; omega) (hb hc' d) (fun _ _ => ⟨rfl, rfl, hc, hs⟩)
  dsimp only [Pt.U, Pt.locs, Pt.cells, Pt.slots] at X' e1 e2 e3 hR' st
  subst e1 e2 e3
  obtain ⟨t, o, h1, h2⟩ := hr v H' hq p e s m args below meth c T' _ X' hx hc' hml hret hlk hZ hown hnm (Fr.app hF hF') hR'
  refine ⟨t, o, st.trans ?_, h2⟩
  rw [lf_out]
  exact h1
theorem initObj {a : Nat} (hw : ∀ d ∈ W, d.before a0 Z = true) (w1 : W[i1]? = some (.methodLink B.1.cls idx Lib.objectInit)) (w2 : W[i2]? = some (.instanceMethod Lib.objectInit)) (w3 : W[i3]? = some (.code Lib.objectInit ⟨#[0xb1]⟩ 1 none)) (d : decode B.2.1 pc = .ok (.invokespecial idx, 3)) (hL : L.length = B.2.2.1)
    (hf : 1 ≤ R.frames) (hl : (S.map fun v => v.category).sum + 12 ≤ R.locals) (hr : WP l Z a0 n0 B R k n (pc + 3) L S H Q) : WP l Z a0 n0 B R k n pc L (.ref a :: S) H Q := by
  intro p e s m args below meth c T locs X hx hc hml hret hlk hZ hown hnm hF hR
  obtain ⟨T', X', e', st⟩ := initO X hx hZ hown (hw _ (List.mem_of_getElem? w1)) (hw _ (List.mem_of_getElem? w2)) (hw _ (List.mem_of_getElem? w3)) rfl (g := mkF m pc (LL n0 L) ((Value.ref a :: S).map (lf n0))) rfl (by rw [hml, ← hL]; simp) (a := n0 + a) (rest := S.map (lf n0)) rfl (hb hc d) hf (W := (S.map fun v => v.category).sum) (by show 2 * 0 + _ ≤ _; rw [cat_sum]; omega) hl
  obtain ⟨t, o, h1, h2⟩ := hr p e s m args below meth c T' locs X' hx hc hml hret hlk hZ hown hnm hF (by rw [e']; exact hR)
  exact ⟨t, o, st _ h1, h2⟩
end
end Jvm.Sh
namespace Jvm.Sh
open Jvm Jvm.ClassFile Sem Op Lib
theorem le {a b : Nat} (h : Nat.ble a b = true) : a ≤ b := Nat.le_of_ble_eq_true h
theorem s1_3 {a0 a1 a2 o : Slot} {L : List Slot} {v : Value} (ho : okS o = true) (hv : v.category = 1) : stOK (a0 :: a1 :: a2 :: o :: L) 3 v (a0 :: a1 :: a2 :: .val v :: L) := st1 (o := o) rfl ho hv rfl
theorem s1_4 {a0 a1 a2 a3 o : Slot} {L : List Slot} {v : Value} (ho : okS o = true) (hv : v.category = 1) : stOK (a0 :: a1 :: a2 :: a3 :: o :: L) 4 v (a0 :: a1 :: a2 :: a3 :: .val v :: L) := st1 (o := o) rfl ho hv rfl
theorem s1_5 {a0 a1 a2 a3 a4 o : Slot} {L : List Slot} {v : Value} (ho : okS o = true) (hv : v.category = 1) : stOK (a0 :: a1 :: a2 :: a3 :: a4 :: o :: L) 5 v (a0 :: a1 :: a2 :: a3 :: a4 :: .val v :: L) := st1 (o := o) rfl ho hv rfl
theorem s2_6 {a0 a1 a2 a3 a4 a5 o o2 : Slot} {L : List Slot} {v : Value} (ho : nS o = true) (h2 : n2 o2 = true) (hv : v.category = 2) : stOK (a0 :: a1 :: a2 :: a3 :: a4 :: a5 :: o :: o2 :: L) 6 v (a0 :: a1 :: a2 :: a3 :: a4 :: a5 :: .val v :: .second :: L) := st2 (o := o) (o2 := o2) rfl ho rfl h2 hv rfl
theorem s2_11 {a0 a1 a2 a3 a4 a5 a6 a7 a8 a9 a10 o o2 : Slot} {L : List Slot} {v : Value} (ho : nS o = true) (h2 : n2 o2 = true) (hv : v.category = 2) : stOK (a0 :: a1 :: a2 :: a3 :: a4 :: a5 :: a6 :: a7 :: a8 :: a9 :: a10 :: o :: o2 :: L) 11 v (a0 :: a1 :: a2 :: a3 :: a4 :: a5 :: a6 :: a7 :: a8 :: a9 :: a10 :: .val v :: .second :: L) := st2 (o := o) (o2 := o2) rfl ho rfl h2 hv rfl
theorem s2_13 {a0 a1 a2 a3 a4 a5 a6 a7 a8 a9 a10 a11 a12 o o2 : Slot} {L : List Slot} {v : Value} (ho : nS o = true) (h2 : n2 o2 = true) (hv : v.category = 2) : stOK (a0 :: a1 :: a2 :: a3 :: a4 :: a5 :: a6 :: a7 :: a8 :: a9 :: a10 :: a11 :: a12 :: o :: o2 :: L) 13 v (a0 :: a1 :: a2 :: a3 :: a4 :: a5 :: a6 :: a7 :: a8 :: a9 :: a10 :: a11 :: a12 :: .val v :: .second :: L) := st2 (o := o) (o2 := o2) rfl ho rfl h2 hv rfl
theorem s2_15 {a0 a1 a2 a3 a4 a5 a6 a7 a8 a9 a10 a11 a12 a13 a14 o o2 : Slot} {L : List Slot} {v : Value} (ho : nS o = true) (h2 : n2 o2 = true) (hv : v.category = 2) : stOK (a0 :: a1 :: a2 :: a3 :: a4 :: a5 :: a6 :: a7 :: a8 :: a9 :: a10 :: a11 :: a12 :: a13 :: a14 :: o :: o2 :: L) 15 v (a0 :: a1 :: a2 :: a3 :: a4 :: a5 :: a6 :: a7 :: a8 :: a9 :: a10 :: a11 :: a12 :: a13 :: a14 :: .val v :: .second :: L) := st2 (o := o) (o2 := o2) rfl ho rfl h2 hv rfl
theorem s2_17 {a0 a1 a2 a3 a4 a5 a6 a7 a8 a9 a10 a11 a12 a13 a14 a15 a16 o o2 : Slot} {L : List Slot} {v : Value} (ho : nS o = true) (h2 : n2 o2 = true) (hv : v.category = 2) : stOK (a0 :: a1 :: a2 :: a3 :: a4 :: a5 :: a6 :: a7 :: a8 :: a9 :: a10 :: a11 :: a12 :: a13 :: a14 :: a15 :: a16 :: o :: o2 :: L) 17 v (a0 :: a1 :: a2 :: a3 :: a4 :: a5 :: a6 :: a7 :: a8 :: a9 :: a10 :: a11 :: a12 :: a13 :: a14 :: a15 :: a16 :: .val v :: .second :: L) := st2 (o := o) (o2 := o2) rfl ho rfl h2 hv rfl
theorem s2_19 {a0 a1 a2 a3 a4 a5 a6 a7 a8 a9 a10 a11 a12 a13 a14 a15 a16 a17 a18 o o2 : Slot} {L : List Slot} {v : Value} (ho : nS o = true) (h2 : n2 o2 = true) (hv : v.category = 2) : stOK (a0 :: a1 :: a2 :: a3 :: a4 :: a5 :: a6 :: a7 :: a8 :: a9 :: a10 :: a11 :: a12 :: a13 :: a14 :: a15 :: a16 :: a17 :: a18 :: o :: o2 :: L) 19 v (a0 :: a1 :: a2 :: a3 :: a4 :: a5 :: a6 :: a7 :: a8 :: a9 :: a10 :: a11 :: a12 :: a13 :: a14 :: a15 :: a16 :: a17 :: a18 :: .val v :: .second :: L) := st2 (o := o) (o2 := o2) rfl ho rfl h2 hv rfl
theorem s2_21 {a0 a1 a2 a3 a4 a5 a6 a7 a8 a9 a10 a11 a12 a13 a14 a15 a16 a17 a18 a19 a20 o o2 : Slot} {L : List Slot} {v : Value} (ho : nS o = true) (h2 : n2 o2 = true) (hv : v.category = 2) : stOK (a0 :: a1 :: a2 :: a3 :: a4 :: a5 :: a6 :: a7 :: a8 :: a9 :: a10 :: a11 :: a12 :: a13 :: a14 :: a15 :: a16 :: a17 :: a18 :: a19 :: a20 :: o :: o2 :: L) 21 v (a0 :: a1 :: a2 :: a3 :: a4 :: a5 :: a6 :: a7 :: a8 :: a9 :: a10 :: a11 :: a12 :: a13 :: a14 :: a15 :: a16 :: a17 :: a18 :: a19 :: a20 :: .val v :: .second :: L) := st2 (o := o) (o2 := o2) rfl ho rfl h2 hv rfl
theorem s2_23 {a0 a1 a2 a3 a4 a5 a6 a7 a8 a9 a10 a11 a12 a13 a14 a15 a16 a17 a18 a19 a20 a21 a22 o o2 : Slot} {L : List Slot} {v : Value} (ho : nS o = true) (h2 : n2 o2 = true) (hv : v.category = 2) : stOK (a0 :: a1 :: a2 :: a3 :: a4 :: a5 :: a6 :: a7 :: a8 :: a9 :: a10 :: a11 :: a12 :: a13 :: a14 :: a15 :: a16 :: a17 :: a18 :: a19 :: a20 :: a21 :: a22 :: o :: o2 :: L) 23 v (a0 :: a1 :: a2 :: a3 :: a4 :: a5 :: a6 :: a7 :: a8 :: a9 :: a10 :: a11 :: a12 :: a13 :: a14 :: a15 :: a16 :: a17 :: a18 :: a19 :: a20 :: a21 :: a22 :: .val v :: .second :: L) := st2 (o := o) (o2 := o2) rfl ho rfl h2 hv rfl
theorem s1_25 {a0 a1 a2 a3 a4 a5 a6 a7 a8 a9 a10 a11 a12 a13 a14 a15 a16 a17 a18 a19 a20 a21 a22 a23 a24 o : Slot} {L : List Slot} {v : Value} (ho : okS o = true) (hv : v.category = 1) : stOK (a0 :: a1 :: a2 :: a3 :: a4 :: a5 :: a6 :: a7 :: a8 :: a9 :: a10 :: a11 :: a12 :: a13 :: a14 :: a15 :: a16 :: a17 :: a18 :: a19 :: a20 :: a21 :: a22 :: a23 :: a24 :: o :: L) 25 v (a0 :: a1 :: a2 :: a3 :: a4 :: a5 :: a6 :: a7 :: a8 :: a9 :: a10 :: a11 :: a12 :: a13 :: a14 :: a15 :: a16 :: a17 :: a18 :: a19 :: a20 :: a21 :: a22 :: a23 :: a24 :: .val v :: L) := st1 (o := o) rfl ho hv rfl
theorem s1_26 {a0 a1 a2 a3 a4 a5 a6 a7 a8 a9 a10 a11 a12 a13 a14 a15 a16 a17 a18 a19 a20 a21 a22 a23 a24 a25 o : Slot} {L : List Slot} {v : Value} (ho : okS o = true) (hv : v.category = 1) : stOK (a0 :: a1 :: a2 :: a3 :: a4 :: a5 :: a6 :: a7 :: a8 :: a9 :: a10 :: a11 :: a12 :: a13 :: a14 :: a15 :: a16 :: a17 :: a18 :: a19 :: a20 :: a21 :: a22 :: a23 :: a24 :: a25 :: o :: L) 26 v (a0 :: a1 :: a2 :: a3 :: a4 :: a5 :: a6 :: a7 :: a8 :: a9 :: a10 :: a11 :: a12 :: a13 :: a14 :: a15 :: a16 :: a17 :: a18 :: a19 :: a20 :: a21 :: a22 :: a23 :: a24 :: a25 :: .val v :: L) := st1 (o := o) rfl ho hv rfl
theorem s1_27 {a0 a1 a2 a3 a4 a5 a6 a7 a8 a9 a10 a11 a12 a13 a14 a15 a16 a17 a18 a19 a20 a21 a22 a23 a24 a25 a26 o : Slot} {L : List Slot} {v : Value} (ho : okS o = true) (hv : v.category = 1) : stOK (a0 :: a1 :: a2 :: a3 :: a4 :: a5 :: a6 :: a7 :: a8 :: a9 :: a10 :: a11 :: a12 :: a13 :: a14 :: a15 :: a16 :: a17 :: a18 :: a19 :: a20 :: a21 :: a22 :: a23 :: a24 :: a25 :: a26 :: o :: L) 27 v (a0 :: a1 :: a2 :: a3 :: a4 :: a5 :: a6 :: a7 :: a8 :: a9 :: a10 :: a11 :: a12 :: a13 :: a14 :: a15 :: a16 :: a17 :: a18 :: a19 :: a20 :: a21 :: a22 :: a23 :: a24 :: a25 :: a26 :: .val v :: L) := st1 (o := o) rfl ho hv rfl
theorem s1_28 {a0 a1 a2 a3 a4 a5 a6 a7 a8 a9 a10 a11 a12 a13 a14 a15 a16 a17 a18 a19 a20 a21 a22 a23 a24 a25 a26 a27 o : Slot} {L : List Slot} {v : Value} (ho : okS o = true) (hv : v.category = 1) : stOK (a0 :: a1 :: a2 :: a3 :: a4 :: a5 :: a6 :: a7 :: a8 :: a9 :: a10 :: a11 :: a12 :: a13 :: a14 :: a15 :: a16 :: a17 :: a18 :: a19 :: a20 :: a21 :: a22 :: a23 :: a24 :: a25 :: a26 :: a27 :: o :: L) 28 v (a0 :: a1 :: a2 :: a3 :: a4 :: a5 :: a6 :: a7 :: a8 :: a9 :: a10 :: a11 :: a12 :: a13 :: a14 :: a15 :: a16 :: a17 :: a18 :: a19 :: a20 :: a21 :: a22 :: a23 :: a24 :: a25 :: a26 :: a27 :: .val v :: L) := st1 (o := o) rfl ho hv rfl
theorem s2_29 {a0 a1 a2 a3 a4 a5 a6 a7 a8 a9 a10 a11 a12 a13 a14 a15 a16 a17 a18 a19 a20 a21 a22 a23 a24 a25 a26 a27 a28 o o2 : Slot} {L : List Slot} {v : Value} (ho : nS o = true) (h2 : n2 o2 = true) (hv : v.category = 2) : stOK (a0 :: a1 :: a2 :: a3 :: a4 :: a5 :: a6 :: a7 :: a8 :: a9 :: a10 :: a11 :: a12 :: a13 :: a14 :: a15 :: a16 :: a17 :: a18 :: a19 :: a20 :: a21 :: a22 :: a23 :: a24 :: a25 :: a26 :: a27 :: a28 :: o :: o2 :: L) 29 v (a0 :: a1 :: a2 :: a3 :: a4 :: a5 :: a6 :: a7 :: a8 :: a9 :: a10 :: a11 :: a12 :: a13 :: a14 :: a15 :: a16 :: a17 :: a18 :: a19 :: a20 :: a21 :: a22 :: a23 :: a24 :: a25 :: a26 :: a27 :: a28 :: .val v :: .second :: L) := st2 (o := o) (o2 := o2) rfl ho rfl h2 hv rfl
theorem s2_31 {a0 a1 a2 a3 a4 a5 a6 a7 a8 a9 a10 a11 a12 a13 a14 a15 a16 a17 a18 a19 a20 a21 a22 a23 a24 a25 a26 a27 a28 a29 a30 o o2 : Slot} {L : List Slot} {v : Value} (ho : nS o = true) (h2 : n2 o2 = true) (hv : v.category = 2) : stOK (a0 :: a1 :: a2 :: a3 :: a4 :: a5 :: a6 :: a7 :: a8 :: a9 :: a10 :: a11 :: a12 :: a13 :: a14 :: a15 :: a16 :: a17 :: a18 :: a19 :: a20 :: a21 :: a22 :: a23 :: a24 :: a25 :: a26 :: a27 :: a28 :: a29 :: a30 :: o :: o2 :: L) 31 v (a0 :: a1 :: a2 :: a3 :: a4 :: a5 :: a6 :: a7 :: a8 :: a9 :: a10 :: a11 :: a12 :: a13 :: a14 :: a15 :: a16 :: a17 :: a18 :: a19 :: a20 :: a21 :: a22 :: a23 :: a24 :: a25 :: a26 :: a27 :: a28 :: a29 :: a30 :: .val v :: .second :: L) := st2 (o := o) (o2 := o2) rfl ho rfl h2 hv rfl
theorem s2_33 {a0 a1 a2 a3 a4 a5 a6 a7 a8 a9 a10 a11 a12 a13 a14 a15 a16 a17 a18 a19 a20 a21 a22 a23 a24 a25 a26 a27 a28 a29 a30 a31 a32 o o2 : Slot} {L : List Slot} {v : Value} (ho : nS o = true) (h2 : n2 o2 = true) (hv : v.category = 2) : stOK (a0 :: a1 :: a2 :: a3 :: a4 :: a5 :: a6 :: a7 :: a8 :: a9 :: a10 :: a11 :: a12 :: a13 :: a14 :: a15 :: a16 :: a17 :: a18 :: a19 :: a20 :: a21 :: a22 :: a23 :: a24 :: a25 :: a26 :: a27 :: a28 :: a29 :: a30 :: a31 :: a32 :: o :: o2 :: L) 33 v (a0 :: a1 :: a2 :: a3 :: a4 :: a5 :: a6 :: a7 :: a8 :: a9 :: a10 :: a11 :: a12 :: a13 :: a14 :: a15 :: a16 :: a17 :: a18 :: a19 :: a20 :: a21 :: a22 :: a23 :: a24 :: a25 :: a26 :: a27 :: a28 :: a29 :: a30 :: a31 :: a32 :: .val v :: .second :: L) := st2 (o := o) (o2 := o2) rfl ho rfl h2 hv rfl
theorem s2_35 {a0 a1 a2 a3 a4 a5 a6 a7 a8 a9 a10 a11 a12 a13 a14 a15 a16 a17 a18 a19 a20 a21 a22 a23 a24 a25 a26 a27 a28 a29 a30 a31 a32 a33 a34 o o2 : Slot} {L : List Slot} {v : Value} (ho : nS o = true) (h2 : n2 o2 = true) (hv : v.category = 2) : stOK (a0 :: a1 :: a2 :: a3 :: a4 :: a5 :: a6 :: a7 :: a8 :: a9 :: a10 :: a11 :: a12 :: a13 :: a14 :: a15 :: a16 :: a17 :: a18 :: a19 :: a20 :: a21 :: a22 :: a23 :: a24 :: a25 :: a26 :: a27 :: a28 :: a29 :: a30 :: a31 :: a32 :: a33 :: a34 :: o :: o2 :: L) 35 v (a0 :: a1 :: a2 :: a3 :: a4 :: a5 :: a6 :: a7 :: a8 :: a9 :: a10 :: a11 :: a12 :: a13 :: a14 :: a15 :: a16 :: a17 :: a18 :: a19 :: a20 :: a21 :: a22 :: a23 :: a24 :: a25 :: a26 :: a27 :: a28 :: a29 :: a30 :: a31 :: a32 :: a33 :: a34 :: .val v :: .second :: L) := st2 (o := o) (o2 := o2) rfl ho rfl h2 hv rfl
section
variable {α : Type}
theorem ls_0 { o v : α} {L : List α} : (o :: L).set 0 v = v :: L := rfl
theorem ls_1 {a0 o v : α} {L : List α} : (a0 :: o :: L).set 1 v = a0 :: v :: L := rfl
theorem ls_2 {a0 a1 o v : α} {L : List α} : (a0 :: a1 :: o :: L).set 2 v = a0 :: a1 :: v :: L := rfl
theorem ls_3 {a0 a1 a2 o v : α} {L : List α} : (a0 :: a1 :: a2 :: o :: L).set 3 v = a0 :: a1 :: a2 :: v :: L := rfl
theorem ls_4 {a0 a1 a2 a3 o v : α} {L : List α} : (a0 :: a1 :: a2 :: a3 :: o :: L).set 4 v = a0 :: a1 :: a2 :: a3 :: v :: L := rfl
theorem ap_0 { v : α} : [] ++ [v] = [v] := rfl
theorem ap_1 {a0 v : α} : [a0] ++ [v] = [a0, v] := rfl
theorem ap_2 {a0 a1 v : α} : [a0, a1] ++ [v] = [a0, a1, v] := rfl
theorem rp_5 {v : α} : List.replicate 5 v = [v, v, v, v, v] := rfl
theorem rp_37 {v : α} : List.replicate 37 v = [v, v, v, v, v, v, v, v, v, v, v, v, v, v, v, v, v, v, v, v, v, v, v, v, v, v, v, v, v, v, v, v, v, v, v, v, v] := rfl
end
end Jvm.Sh
namespace Jvm.Sh
open Jvm Jvm.ClassFile Jvm.RoadKit
/-! small naturals as ints -/
theorem onToInt {a : Nat} (h : a < 2147483648) : (Int32.ofNat a).toInt = a := Int32.toInt_ofNat_of_lt h
theorem onLt {a b : Nat} (ha : a < 2147483648) (hb : b < 2147483648) : Int32.ofNat a < Int32.ofNat b ↔ a < b := by
  rw [Int32.lt_iff_toInt_lt, onToInt ha, onToInt hb]; omega
theorem onInj {a b : Nat} (ha : a < 2147483648) (hb : b < 2147483648) : Int32.ofNat a = Int32.ofNat b ↔ a = b := by
  rw [← Int32.toInt_inj, onToInt ha, onToInt hb]; omega
theorem onNN {a : Nat} (ha : a < 2147483648) : ¬ Int32.ofNat a < 0 := by
  rw [Int32.lt_iff_toInt_lt, onToInt ha, show (0 : Int32).toInt = 0 from by decide]; omega
theorem onCl {a : Nat} (ha : a < 2147483648) : (Int32.ofNat a).toNatClampNeg = a := by
  rw [Int32.toNatClampNeg, onToInt ha]; omega
theorem onAdd (a b : Nat) : Int32.ofNat a + Int32.ofNat b = Int32.ofNat (a + b) := (Int32.ofNat_add a b).symm
theorem onSucc (a : Nat) : Int32.ofNat a + 1 = Int32.ofNat (a + 1) := onAdd a 1
theorem onSub {a b : Nat} (h : b ≤ a) (ha : a < 2147483648) : Int32.ofNat a - Int32.ofNat b = Int32.ofNat (a - b) := by
  apply Int32.toInt_inj.mp
  have q := c_isub (Int32.ofNat a) (Int32.ofNat b)
  have r := rng32 (Int32.ofNat a - Int32.ofNat b)
  rw [onToInt ha, onToInt (show b < 2147483648 by omega)] at q
  rw [onToInt (show a - b < 2147483648 by omega)]
  omega
theorem onMul {a b : Nat} : Int32.ofNat a * Int32.ofNat b = Int32.ofNat (a * b) := (Int32.ofNat_mul a b).symm
theorem isNat (x : Int32) (h0 : 0 ≤ x.toInt) : ∃ r : Nat, (r : Int) = x.toInt ∧ r < 2147483648 ∧ x = Int32.ofNat r := by
  have := rng32 x
  refine ⟨x.toInt.toNat, by omega, by omega, Int32.toInt_inj.mp ?_⟩
  rw [onToInt (by omega)]
  omega
/-- (x & 0x7fffffff) % m is a natural below m -/
theorem remNat (x m : Int32) (M : Nat) (hm : m.toInt = M) (hM : 0 < M) : ∃ r, r < M ∧ (x &&& 2147483647) % m = Int32.ofNat r := by
  have h := (c_iremV (x &&& 2147483647) m).1 (c_and x 2147483647 (by decide)).1 (by omega)
  obtain ⟨r, h1, h2, h3⟩ := isNat _ h.1
  exact ⟨r, by omega, h3⟩
theorem remNat' (x m : Int32) (M : Nat) (hx : 0 ≤ x.toInt) (hm : m.toInt = M) (hM : 0 < M) : ∃ r, r < M ∧ x % m = Int32.ofNat r := by
  have h := (c_iremV x m).1 hx (by omega)
  obtain ⟨r, h1, h2, h3⟩ := isNat _ h.1
  exact ⟨r, by omega, h3⟩
theorem maskNat (x m : Int32) (k : Nat) (hk : k ≤ 31) (hm : m.toBitVec.toNat = 2 ^ k - 1) : ∃ r, r < 2 ^ k ∧ x &&& m = Int32.ofNat r := by
  have h := c_mask x m k hk hm
  have hp : (0 : Int) < (2 ^ k : Nat) := by have := Nat.two_pow_pos k; omega
  have h1 := Int.emod_nonneg x.toInt (Int.ne_of_gt hp)
  have h2 := Int.emod_lt_of_pos x.toInt hp
  obtain ⟨r, g1, g2, g3⟩ := isNat (x &&& m) (by omega)
  exact ⟨r, by omega, g3⟩
theorem ushrNN (x k : Int32) (n : Nat) (hk : k.toBitVec.toNat % 32 = n) (h0 : 0 < n) : 0 ≤ (Jvm.Free.XT.ushr x k).toInt := by
  have e : (Jvm.Free.XT.ushr x k).toInt = (x.toInt % 4294967296) / (2 ^ n : Nat) := c_iushr x k n hk h0
  rw [e]
  exact Int.ediv_nonneg (Int.emod_nonneg _ (by decide)) (Int.natCast_nonneg _)
theorem i8_idem (x : Int32) : x.toInt8.toInt32.toInt8.toInt32 = x.toInt8.toInt32 := by simp
end Jvm.Sh
namespace Jvm.Sh
open Jvm Jvm.ClassFile Jvm.RoadKit
/-! bits -/
def bt (x : Int64) (i : Nat) : Bool := x.toBitVec.getLsbD i
def bi (x : Int32) (i : Nat) : Bool := x.toBitVec.getLsbD i
theorem bt_ext {x y : Int64} (h : ∀ i, i < 64 → bt x i = bt y i) : x = y := Int64.toBitVec_inj.mp (BitVec.eq_of_getLsbD_eq fun i hi => h i hi)
theorem bi_ext {x y : Int32} (h : ∀ i, i < 32 → bi x i = bi y i) : x = y := Int32.toBitVec_inj.mp (BitVec.eq_of_getLsbD_eq fun i hi => h i hi)
theorem bt_or (x y : Int64) (i : Nat) : bt (x ||| y) i = (bt x i || bt y i) := by simp [bt]
theorem bt_and (x y : Int64) (i : Nat) : bt (x &&& y) i = (bt x i && bt y i) := by simp [bt]
theorem bt_xor (x y : Int64) (i : Nat) : bt (x ^^^ y) i = (bt x i ^^ bt y i) := by simp [bt]
theorem bi_or (x y : Int32) (i : Nat) : bi (x ||| y) i = (bi x i || bi y i) := by simp [bi]
theorem bi_and (x y : Int32) (i : Nat) : bi (x &&& y) i = (bi x i && bi y i) := by simp [bi]
theorem bt_zero (i : Nat) : bt 0 i = false := by simp [bt]
theorem bi_zero (i : Nat) : bi 0 i = false := by simp [bi]
theorem bt_big (x : Int64) (i : Nat) (h : 64 ≤ i) : bt x i = false := BitVec.getLsbD_of_ge _ _ h
theorem bi_big (x : Int32) (i : Nat) (h : 32 ≤ i) : bi x i = false := BitVec.getLsbD_of_ge _ _ h
theorem bt_mask (x m : Int64) (k : Nat) (hm : m.toBitVec = BitVec.ofNat 64 (2 ^ k - 1)) (i : Nat) (hi : i < 64) : bt (x &&& m) i = (decide (i < k) && bt x i) := by
  rw [bt_and, Bool.and_comm]
  congr 1
  rw [bt, hm, BitVec.getLsbD_ofNat, Nat.testBit_two_pow_sub_one]
  simp [hi]
theorem bi_mask (x m : Int32) (k : Nat) (hm : m.toBitVec = BitVec.ofNat 32 (2 ^ k - 1)) (i : Nat) (hi : i < 32) : bi (x &&& m) i = (decide (i < k) && bi x i) := by
  rw [bi_and, Bool.and_comm]
  congr 1
  rw [bi, hm, BitVec.getLsbD_ofNat, Nat.testBit_two_pow_sub_one]
  simp [hi]
theorem shAmt : ∀ k : Fin 64, ((Int32.ofNat k.val).toInt64 &&& 63) = Int64.ofNat k.val ∧ ((BitVec.ofNat 64 k.val).smod 64) = BitVec.ofNat 64 k.val ∧ ((Int32.ofNat k.val).toInt64.toUInt64 &&& Int64.toUInt64 63) = UInt64.ofNat k.val ∧ ((BitVec.ofNat 64 k.val) % 64) = BitVec.ofNat 64 k.val := by decide +kernel
theorem shl_bv (x : Int64) (k : Nat) (hk : k < 64) : (x <<< ((Int32.ofNat k).toInt64 &&& 63)).toBitVec = x.toBitVec <<< k := by
  obtain ⟨h1, h2, -, -⟩ := shAmt ⟨k, hk⟩
  dsimp only at h1 h2
  rw [h1, Int64.toBitVec_shiftLeft]
  have e : (Int64.ofNat k).toBitVec = BitVec.ofNat 64 k := rfl
  rw [e, h2, BitVec.shiftLeft_eq', BitVec.toNat_ofNat, Nat.mod_eq_of_lt (by omega)]
theorem ushr_bv (x : Int64) (k : Nat) (hk : k < 64) : (Jvm.Free.XT.ushrL x (Int32.ofNat k)).toBitVec = x.toBitVec >>> k := by
  obtain ⟨-, -, h3, h4⟩ := shAmt ⟨k, hk⟩
  dsimp only at h3 h4
  show (x.toUInt64 >>> ((Int32.ofNat k).toInt64.toUInt64 &&& Int64.toUInt64 63)).toBitVec = _
  rw [h3, UInt64.toBitVec_shiftRight]
  have e : (UInt64.ofNat k).toBitVec = BitVec.ofNat 64 k := rfl
  rw [e, h4, BitVec.ushiftRight_eq', BitVec.toNat_ofNat, Nat.mod_eq_of_lt (by omega)]
  rfl
theorem bt_shl (x : Int64) (k i : Nat) (hk : k < 64) (hi : i < 64) : bt (x <<< ((Int32.ofNat k).toInt64 &&& 63)) i = (!decide (i < k) && bt x (i - k)) := by
  rw [bt, shl_bv x k hk, BitVec.getLsbD_shiftLeft, bt]
  simp only [hi, decide_true, Bool.true_and]
theorem bt_ushr (x : Int64) (k i : Nat) (hk : k < 64) : bt (Jvm.Free.XT.ushrL x (Int32.ofNat k)) i = bt x (k + i) := by
  simp [bt, ushr_bv x k hk]
theorem bi_l2i (x : Int64) (i : Nat) (hi : i < 32) : bi x.toInt32 i = bt x i := by
  simp only [bi, bt]
  show (x.toBitVec.signExtend 32).getLsbD i = _
  rw [BitVec.getLsbD_signExtend]
  simp [hi, show i < 64 by omega]
theorem bt_i2l (x : Int32) (i : Nat) (hi : i < 64) : bt x.toInt64 i = if i < 32 then bi x i else bi x 31 := by
  simp only [bi, bt]
  show (x.toBitVec.signExtend 64).getLsbD i = _
  rw [BitVec.getLsbD_signExtend]
  simp [hi, BitVec.msb_eq_getLsbD_last]
theorem bi_i2b (x : Int32) (i : Nat) (hi : i < 32) : bi x.toInt8.toInt32 i = if i < 8 then bi x i else bi x 7 := by
  simp only [bi]
  show ((x.toBitVec.signExtend 8).signExtend 32).getLsbD i = _
  rw [BitVec.getLsbD_signExtend]
  by_cases q : i < 8
  · rw [BitVec.getLsbD_signExtend]
    simp [hi, q, show i < 32 by omega]
  · simp [hi, q, BitVec.msb_eq_getLsbD_last, BitVec.getElem_signExtend]
end Jvm.Sh
namespace Jvm.Pilot.@@N@@
open Jvm Jvm.ClassFile Sem Op Lib Jvm.Free Jvm.Stand Jvm.LawKit Jvm.RoadKit Bundle Jvm.Pilot.@@N@@.Jvm.D
abbrev HW (Z : State) (a0 : Array Value) : Prop := ∀ d ∈ tables_1, d.before a0 Z = true
theorem d1_0 : decode prog_16_method_4_code 0 = .ok (.iconst 0, 1) := by decide +kernel
theorem d1_1 : decode prog_16_method_4_code 1 = .ok (.istore_n 3, 1) := by decide +kernel
theorem d1_2 : decode prog_16_method_4_code 2 = .ok (.iload_n 3, 1) := by decide +kernel
theorem d1_3 : decode prog_16_method_4_code 3 = .ok (.sipush 256, 3) := by decide +kernel
theorem d1_6 : decode prog_16_method_4_code 6 = .ok (.if_icmp .ge 71, 3) := by decide +kernel
theorem d1_9 : decode prog_16_method_4_code 9 = .ok (.iload_n 3, 1) := by decide +kernel
theorem d1_10 : decode prog_16_method_4_code 10 = .ok (.bipush 52, 2) := by decide +kernel
theorem d1_12 : decode prog_16_method_4_code 12 = .ok (.idiv, 1) := by decide +kernel
theorem d1_13 : decode prog_16_method_4_code 13 = .ok (.istore 4, 2) := by decide +kernel
theorem d1_15 : decode prog_16_method_4_code 15 = .ok (.iload_n 3, 1) := by decide +kernel
theorem d1_16 : decode prog_16_method_4_code 16 = .ok (.bipush 52, 2) := by decide +kernel
theorem d1_18 : decode prog_16_method_4_code 18 = .ok (.irem, 1) := by decide +kernel
theorem d1_19 : decode prog_16_method_4_code 19 = .ok (.istore 5, 2) := by decide +kernel
theorem d1_21 : decode prog_16_method_4_code 21 = .ok (.aload_n 0, 1) := by decide +kernel
theorem d1_22 : decode prog_16_method_4_code 22 = .ok (.iload 4, 2) := by decide +kernel
theorem d1_24 : decode prog_16_method_4_code 24 = .ok (.laload, 1) := by decide +kernel
theorem d1_25 : decode prog_16_method_4_code 25 = .ok (.iload 5, 2) := by decide +kernel
theorem d1_27 : decode prog_16_method_4_code 27 = .ok (.lushr, 1) := by decide +kernel
theorem d1_28 : decode prog_16_method_4_code 28 = .ok (.lstore 6, 2) := by decide +kernel
theorem d1_30 : decode prog_16_method_4_code 30 = .ok (.iload 5, 2) := by decide +kernel
theorem d1_32 : decode prog_16_method_4_code 32 = .ok (.bipush 44, 2) := by decide +kernel
theorem d1_34 : decode prog_16_method_4_code 34 = .ok (.if_icmp .le 20, 3) := by decide +kernel
theorem d1_37 : decode prog_16_method_4_code 37 = .ok (.lload 6, 2) := by decide +kernel
theorem d1_39 : decode prog_16_method_4_code 39 = .ok (.aload_n 0, 1) := by decide +kernel
theorem d1_40 : decode prog_16_method_4_code 40 = .ok (.iload 4, 2) := by decide +kernel
theorem d1_42 : decode prog_16_method_4_code 42 = .ok (.iconst 1, 1) := by decide +kernel
theorem d1_43 : decode prog_16_method_4_code 43 = .ok (.iadd, 1) := by decide +kernel
theorem d1_44 : decode prog_16_method_4_code 44 = .ok (.laload, 1) := by decide +kernel
theorem d1_45 : decode prog_16_method_4_code 45 = .ok (.bipush 52, 2) := by decide +kernel
theorem d1_47 : decode prog_16_method_4_code 47 = .ok (.iload 5, 2) := by decide +kernel
theorem d1_49 : decode prog_16_method_4_code 49 = .ok (.isub, 1) := by decide +kernel
theorem d1_50 : decode prog_16_method_4_code 50 = .ok (.lshl, 1) := by decide +kernel
theorem d1_51 : decode prog_16_method_4_code 51 = .ok (.lor, 1) := by decide +kernel
theorem d1_52 : decode prog_16_method_4_code 52 = .ok (.lstore 6, 2) := by decide +kernel
theorem d1_54 : decode prog_16_method_4_code 54 = .ok (.aload_n 1, 1) := by decide +kernel
theorem d1_55 : decode prog_16_method_4_code 55 = .ok (.iload_n 2, 1) := by decide +kernel
theorem d1_56 : decode prog_16_method_4_code 56 = .ok (.bipush 32, 2) := by decide +kernel
theorem d1_58 : decode prog_16_method_4_code 58 = .ok (.iadd, 1) := by decide +kernel
theorem d1_59 : decode prog_16_method_4_code 59 = .ok (.iconst 1, 1) := by decide +kernel
theorem d1_60 : decode prog_16_method_4_code 60 = .ok (.isub, 1) := by decide +kernel
theorem d1_61 : decode prog_16_method_4_code 61 = .ok (.iload_n 3, 1) := by decide +kernel
theorem d1_62 : decode prog_16_method_4_code 62 = .ok (.bipush 8, 2) := by decide +kernel
theorem d1_64 : decode prog_16_method_4_code 64 = .ok (.idiv, 1) := by decide +kernel
theorem d1_65 : decode prog_16_method_4_code 65 = .ok (.isub, 1) := by decide +kernel
theorem d1_66 : decode prog_16_method_4_code 66 = .ok (.lload 6, 2) := by decide +kernel
theorem d1_68 : decode prog_16_method_4_code 68 = .ok (.l2i, 1) := by decide +kernel
theorem d1_69 : decode prog_16_method_4_code 69 = .ok (.i2b, 1) := by decide +kernel
theorem d1_70 : decode prog_16_method_4_code 70 = .ok (.bastore, 1) := by decide +kernel
theorem d1_71 : decode prog_16_method_4_code 71 = .ok (.iinc 3 8, 3) := by decide +kernel
theorem d1_74 : decode prog_16_method_4_code 74 = .ok (.goto (-72), 3) := by decide +kernel
theorem d1_77 : decode prog_16_method_4_code 77 = .ok (.return_, 1) := by decide +kernel
theorem pn1 : plainFor (⟨"com/example/aktenwerk/aktenwerk/crypto/Montgomery", "write", "([J[BI)V"⟩ : MethodName) = true := plainFor_of_name (by first | (simp [plainName, overriddenIn]; done) | decide +kernel)
theorem pd1 : parseMethodDescriptor "([J[BI)V" = some ⟨[(.array .long), (.array .byte), .int], none⟩ := by decide +kernel
def b1 : Sh.Bdy := (⟨"com/example/aktenwerk/aktenwerk/crypto/Montgomery", "write", "([J[BI)V"⟩, prog_16_method_4_code, 8, none)
def R1 : Room := { frames := 0, cells := 0, slots := 0, locals := 0 }
theorem d2_0 : decode method_2_code 0 = .ok (.aload_n 0, 1) := by decide +kernel
theorem d2_1 : decode method_2_code 1 = .ok (.iload_n 1, 1) := by decide +kernel
theorem d2_2 : decode method_2_code 2 = .ok (.baload, 1) := by decide +kernel
theorem d2_3 : decode method_2_code 3 = .ok (.i2l, 1) := by decide +kernel
theorem d2_4 : decode method_2_code 4 = .ok (.ldc2_w 7, 3) := by decide +kernel
theorem d2_7 : decode method_2_code 7 = .ok (.land, 1) := by decide +kernel
theorem d2_8 : decode method_2_code 8 = .ok (.bipush 56, 2) := by decide +kernel
theorem d2_10 : decode method_2_code 10 = .ok (.lshl, 1) := by decide +kernel
theorem d2_11 : decode method_2_code 11 = .ok (.aload_n 0, 1) := by decide +kernel
theorem d2_12 : decode method_2_code 12 = .ok (.iload_n 1, 1) := by decide +kernel
theorem d2_13 : decode method_2_code 13 = .ok (.iconst 1, 1) := by decide +kernel
theorem d2_14 : decode method_2_code 14 = .ok (.iadd, 1) := by decide +kernel
theorem d2_15 : decode method_2_code 15 = .ok (.baload, 1) := by decide +kernel
theorem d2_16 : decode method_2_code 16 = .ok (.i2l, 1) := by decide +kernel
theorem d2_17 : decode method_2_code 17 = .ok (.ldc2_w 7, 3) := by decide +kernel
theorem d2_20 : decode method_2_code 20 = .ok (.land, 1) := by decide +kernel
theorem d2_21 : decode method_2_code 21 = .ok (.bipush 48, 2) := by decide +kernel
theorem d2_23 : decode method_2_code 23 = .ok (.lshl, 1) := by decide +kernel
theorem d2_24 : decode method_2_code 24 = .ok (.lor, 1) := by decide +kernel
theorem d2_25 : decode method_2_code 25 = .ok (.aload_n 0, 1) := by decide +kernel
theorem d2_26 : decode method_2_code 26 = .ok (.iload_n 1, 1) := by decide +kernel
theorem d2_27 : decode method_2_code 27 = .ok (.iconst 2, 1) := by decide +kernel
theorem d2_28 : decode method_2_code 28 = .ok (.iadd, 1) := by decide +kernel
theorem d2_29 : decode method_2_code 29 = .ok (.baload, 1) := by decide +kernel
theorem d2_30 : decode method_2_code 30 = .ok (.i2l, 1) := by decide +kernel
theorem d2_31 : decode method_2_code 31 = .ok (.ldc2_w 7, 3) := by decide +kernel
theorem d2_34 : decode method_2_code 34 = .ok (.land, 1) := by decide +kernel
theorem d2_35 : decode method_2_code 35 = .ok (.bipush 40, 2) := by decide +kernel
theorem d2_37 : decode method_2_code 37 = .ok (.lshl, 1) := by decide +kernel
theorem d2_38 : decode method_2_code 38 = .ok (.lor, 1) := by decide +kernel
theorem d2_39 : decode method_2_code 39 = .ok (.aload_n 0, 1) := by decide +kernel
theorem d2_40 : decode method_2_code 40 = .ok (.iload_n 1, 1) := by decide +kernel
theorem d2_41 : decode method_2_code 41 = .ok (.iconst 3, 1) := by decide +kernel
theorem d2_42 : decode method_2_code 42 = .ok (.iadd, 1) := by decide +kernel
theorem d2_43 : decode method_2_code 43 = .ok (.baload, 1) := by decide +kernel
theorem d2_44 : decode method_2_code 44 = .ok (.i2l, 1) := by decide +kernel
theorem d2_45 : decode method_2_code 45 = .ok (.ldc2_w 7, 3) := by decide +kernel
theorem d2_48 : decode method_2_code 48 = .ok (.land, 1) := by decide +kernel
theorem d2_49 : decode method_2_code 49 = .ok (.bipush 32, 2) := by decide +kernel
theorem d2_51 : decode method_2_code 51 = .ok (.lshl, 1) := by decide +kernel
theorem d2_52 : decode method_2_code 52 = .ok (.lor, 1) := by decide +kernel
theorem d2_53 : decode method_2_code 53 = .ok (.aload_n 0, 1) := by decide +kernel
theorem d2_54 : decode method_2_code 54 = .ok (.iload_n 1, 1) := by decide +kernel
theorem d2_55 : decode method_2_code 55 = .ok (.iconst 4, 1) := by decide +kernel
theorem d2_56 : decode method_2_code 56 = .ok (.iadd, 1) := by decide +kernel
theorem d2_57 : decode method_2_code 57 = .ok (.baload, 1) := by decide +kernel
theorem d2_58 : decode method_2_code 58 = .ok (.i2l, 1) := by decide +kernel
theorem d2_59 : decode method_2_code 59 = .ok (.ldc2_w 7, 3) := by decide +kernel
theorem d2_62 : decode method_2_code 62 = .ok (.land, 1) := by decide +kernel
theorem d2_63 : decode method_2_code 63 = .ok (.bipush 24, 2) := by decide +kernel
theorem d2_65 : decode method_2_code 65 = .ok (.lshl, 1) := by decide +kernel
theorem d2_66 : decode method_2_code 66 = .ok (.lor, 1) := by decide +kernel
theorem d2_67 : decode method_2_code 67 = .ok (.aload_n 0, 1) := by decide +kernel
theorem d2_68 : decode method_2_code 68 = .ok (.iload_n 1, 1) := by decide +kernel
theorem d2_69 : decode method_2_code 69 = .ok (.iconst 5, 1) := by decide +kernel
theorem d2_70 : decode method_2_code 70 = .ok (.iadd, 1) := by decide +kernel
theorem d2_71 : decode method_2_code 71 = .ok (.baload, 1) := by decide +kernel
theorem d2_72 : decode method_2_code 72 = .ok (.i2l, 1) := by decide +kernel
theorem d2_73 : decode method_2_code 73 = .ok (.ldc2_w 7, 3) := by decide +kernel
theorem d2_76 : decode method_2_code 76 = .ok (.land, 1) := by decide +kernel
theorem d2_77 : decode method_2_code 77 = .ok (.bipush 16, 2) := by decide +kernel
theorem d2_79 : decode method_2_code 79 = .ok (.lshl, 1) := by decide +kernel
theorem d2_80 : decode method_2_code 80 = .ok (.lor, 1) := by decide +kernel
theorem d2_81 : decode method_2_code 81 = .ok (.aload_n 0, 1) := by decide +kernel
theorem d2_82 : decode method_2_code 82 = .ok (.iload_n 1, 1) := by decide +kernel
theorem d2_83 : decode method_2_code 83 = .ok (.bipush 6, 2) := by decide +kernel
theorem d2_85 : decode method_2_code 85 = .ok (.iadd, 1) := by decide +kernel
theorem d2_86 : decode method_2_code 86 = .ok (.baload, 1) := by decide +kernel
theorem d2_87 : decode method_2_code 87 = .ok (.i2l, 1) := by decide +kernel
theorem d2_88 : decode method_2_code 88 = .ok (.ldc2_w 7, 3) := by decide +kernel
theorem d2_91 : decode method_2_code 91 = .ok (.land, 1) := by decide +kernel
theorem d2_92 : decode method_2_code 92 = .ok (.bipush 8, 2) := by decide +kernel
theorem d2_94 : decode method_2_code 94 = .ok (.lshl, 1) := by decide +kernel
theorem d2_95 : decode method_2_code 95 = .ok (.lor, 1) := by decide +kernel
theorem d2_96 : decode method_2_code 96 = .ok (.aload_n 0, 1) := by decide +kernel
theorem d2_97 : decode method_2_code 97 = .ok (.iload_n 1, 1) := by decide +kernel
theorem d2_98 : decode method_2_code 98 = .ok (.bipush 7, 2) := by decide +kernel
theorem d2_100 : decode method_2_code 100 = .ok (.iadd, 1) := by decide +kernel
theorem d2_101 : decode method_2_code 101 = .ok (.baload, 1) := by decide +kernel
theorem d2_102 : decode method_2_code 102 = .ok (.i2l, 1) := by decide +kernel
theorem d2_103 : decode method_2_code 103 = .ok (.ldc2_w 7, 3) := by decide +kernel
theorem d2_106 : decode method_2_code 106 = .ok (.land, 1) := by decide +kernel
theorem d2_107 : decode method_2_code 107 = .ok (.lor, 1) := by decide +kernel
theorem d2_108 : decode method_2_code 108 = .ok (.lreturn, 1) := by decide +kernel
theorem pn2 : plainFor (⟨"com/example/aktenwerk/aktenwerk/crypto/MontgomeryWritePinLaw", "word", "([BI)J"⟩ : MethodName) = true := plainFor_of_name (by first | (simp [plainName, overriddenIn]; done) | decide +kernel)
theorem pd2 : parseMethodDescriptor "([BI)J" = some ⟨[(.array .byte), .int], some .long⟩ := by decide +kernel
def b2 : Sh.Bdy := (⟨"com/example/aktenwerk/aktenwerk/crypto/MontgomeryWritePinLaw", "word", "([BI)J"⟩, method_2_code, 2, some .long)
def R2 : Room := { frames := 0, cells := 0, slots := 0, locals := 0 }
theorem pn0 : plainFor (⟨"com/example/aktenwerk/aktenwerk/crypto/MontgomeryWritePinLaw", "law", "(JJJJJI)Z"⟩ : MethodName) = true := plainFor_of_name (by first | (simp [plainName, overriddenIn]; done) | decide +kernel)
theorem pd0 : parseMethodDescriptor "(JJJJJI)Z" = some ⟨[.long, .long, .long, .long, .long, .int], some .boolean⟩ := by decide +kernel
def b0 : Sh.Bdy := (x, code, maxLocals, ret)
def own_f (l0 l1 l2 l3 l4 : Int64) : Nat → Int32
  | 0 => (XT.ushrL l0 0).toInt32.toInt8.toInt32
  | 1 => (XT.ushrL l0 8).toInt32.toInt8.toInt32
  | 2 => (XT.ushrL l0 16).toInt32.toInt8.toInt32
  | 3 => (XT.ushrL l0 24).toInt32.toInt8.toInt32
  | 4 => (XT.ushrL l0 32).toInt32.toInt8.toInt32
  | 5 => (XT.ushrL l0 40).toInt32.toInt8.toInt32
  | 6 => ((XT.ushrL l0 48) ||| (l1 <<< ((4 : Int32).toInt64 &&& 63))).toInt32.toInt8.toInt32
  | 7 => (XT.ushrL l1 4).toInt32.toInt8.toInt32
  | 8 => (XT.ushrL l1 12).toInt32.toInt8.toInt32
  | 9 => (XT.ushrL l1 20).toInt32.toInt8.toInt32
  | 10 => (XT.ushrL l1 28).toInt32.toInt8.toInt32
  | 11 => (XT.ushrL l1 36).toInt32.toInt8.toInt32
  | 12 => (XT.ushrL l1 44).toInt32.toInt8.toInt32
  | 13 => (XT.ushrL l2 0).toInt32.toInt8.toInt32
  | 14 => (XT.ushrL l2 8).toInt32.toInt8.toInt32
  | 15 => (XT.ushrL l2 16).toInt32.toInt8.toInt32
  | 16 => (XT.ushrL l2 24).toInt32.toInt8.toInt32
  | 17 => (XT.ushrL l2 32).toInt32.toInt8.toInt32
  | 18 => (XT.ushrL l2 40).toInt32.toInt8.toInt32
  | 19 => ((XT.ushrL l2 48) ||| (l3 <<< ((4 : Int32).toInt64 &&& 63))).toInt32.toInt8.toInt32
  | 20 => (XT.ushrL l3 4).toInt32.toInt8.toInt32
  | 21 => (XT.ushrL l3 12).toInt32.toInt8.toInt32
  | 22 => (XT.ushrL l3 20).toInt32.toInt8.toInt32
  | 23 => (XT.ushrL l3 28).toInt32.toInt8.toInt32
  | 24 => (XT.ushrL l3 36).toInt32.toInt8.toInt32
  | 25 => (XT.ushrL l3 44).toInt32.toInt8.toInt32
  | 26 => (XT.ushrL l4 0).toInt32.toInt8.toInt32
  | 27 => (XT.ushrL l4 8).toInt32.toInt8.toInt32
  | 28 => (XT.ushrL l4 16).toInt32.toInt8.toInt32
  | 29 => (XT.ushrL l4 24).toInt32.toInt8.toInt32
  | 30 => (XT.ushrL l4 32).toInt32.toInt8.toInt32
  | 31 => (XT.ushrL l4 40).toInt32.toInt8.toInt32
  | _ => 0
theorem own_gx (x : Int64) (i : Nat) (hi : i < 64) : Sh.bt (x.toInt32.toInt8.toInt32.toInt64 &&& 255) i = (decide (i < 8) && Sh.bt x i) := by
  rw [Sh.bt_mask _ 255 8 (by decide) i hi]
  by_cases q : i < 8
  · rw [Sh.bt_i2l _ _ hi, if_pos (by omega), Sh.bi_i2b _ _ (by omega), if_pos q, Sh.bi_l2i _ _ (by omega)]
  · simp [q]
theorem own_mask (x : Int64) (i : Nat) (hi : i < 64) : Sh.bt (x &&& 4503599627370495) i = (decide (i < 52) && Sh.bt x i) := Sh.bt_mask x _ 52 (by decide) i hi
theorem own_mask4 (x : Int64) (i : Nat) (hi : i < 64) : Sh.bt (x &&& 281474976710655) i = (decide (i < 48) && Sh.bt x i) := Sh.bt_mask x _ 48 (by decide) i hi
theorem own_shl4 (x : Int64) (i : Nat) (hi : i < 64) : Sh.bt (x <<< ((4 : Int32).toInt64 &&& 63)) i = (!decide (i < 4) && Sh.bt x (i - 4)) := Sh.bt_shl x 4 i (by decide) hi
theorem own_shl8 (x : Int64) (i : Nat) (hi : i < 64) : Sh.bt (x <<< ((8 : Int32).toInt64 &&& 63)) i = (!decide (i < 8) && Sh.bt x (i - 8)) := Sh.bt_shl x 8 i (by decide) hi
theorem own_shl16 (x : Int64) (i : Nat) (hi : i < 64) : Sh.bt (x <<< ((16 : Int32).toInt64 &&& 63)) i = (!decide (i < 16) && Sh.bt x (i - 16)) := Sh.bt_shl x 16 i (by decide) hi
theorem own_shl24 (x : Int64) (i : Nat) (hi : i < 64) : Sh.bt (x <<< ((24 : Int32).toInt64 &&& 63)) i = (!decide (i < 24) && Sh.bt x (i - 24)) := Sh.bt_shl x 24 i (by decide) hi
theorem own_shl28 (x : Int64) (i : Nat) (hi : i < 64) : Sh.bt (x <<< ((28 : Int32).toInt64 &&& 63)) i = (!decide (i < 28) && Sh.bt x (i - 28)) := Sh.bt_shl x 28 i (by decide) hi
theorem own_shl32 (x : Int64) (i : Nat) (hi : i < 64) : Sh.bt (x <<< ((32 : Int32).toInt64 &&& 63)) i = (!decide (i < 32) && Sh.bt x (i - 32)) := Sh.bt_shl x 32 i (by decide) hi
theorem own_shl40 (x : Int64) (i : Nat) (hi : i < 64) : Sh.bt (x <<< ((40 : Int32).toInt64 &&& 63)) i = (!decide (i < 40) && Sh.bt x (i - 40)) := Sh.bt_shl x 40 i (by decide) hi
theorem own_shl48 (x : Int64) (i : Nat) (hi : i < 64) : Sh.bt (x <<< ((48 : Int32).toInt64 &&& 63)) i = (!decide (i < 48) && Sh.bt x (i - 48)) := Sh.bt_shl x 48 i (by decide) hi
theorem own_shl52 (x : Int64) (i : Nat) (hi : i < 64) : Sh.bt (x <<< ((52 : Int32).toInt64 &&& 63)) i = (!decide (i < 52) && Sh.bt x (i - 52)) := Sh.bt_shl x 52 i (by decide) hi
theorem own_shl56 (x : Int64) (i : Nat) (hi : i < 64) : Sh.bt (x <<< ((56 : Int32).toInt64 &&& 63)) i = (!decide (i < 56) && Sh.bt x (i - 56)) := Sh.bt_shl x 56 i (by decide) hi
theorem own_ush0 (x : Int64) (i : Nat) : Sh.bt (XT.ushrL x 0) i = Sh.bt x (0 + i) := Sh.bt_ushr x 0 i (by decide)
theorem own_ush4 (x : Int64) (i : Nat) : Sh.bt (XT.ushrL x 4) i = Sh.bt x (4 + i) := Sh.bt_ushr x 4 i (by decide)
theorem own_ush8 (x : Int64) (i : Nat) : Sh.bt (XT.ushrL x 8) i = Sh.bt x (8 + i) := Sh.bt_ushr x 8 i (by decide)
theorem own_ush12 (x : Int64) (i : Nat) : Sh.bt (XT.ushrL x 12) i = Sh.bt x (12 + i) := Sh.bt_ushr x 12 i (by decide)
theorem own_ush16 (x : Int64) (i : Nat) : Sh.bt (XT.ushrL x 16) i = Sh.bt x (16 + i) := Sh.bt_ushr x 16 i (by decide)
theorem own_ush20 (x : Int64) (i : Nat) : Sh.bt (XT.ushrL x 20) i = Sh.bt x (20 + i) := Sh.bt_ushr x 20 i (by decide)
theorem own_ush24 (x : Int64) (i : Nat) : Sh.bt (XT.ushrL x 24) i = Sh.bt x (24 + i) := Sh.bt_ushr x 24 i (by decide)
theorem own_ush28 (x : Int64) (i : Nat) : Sh.bt (XT.ushrL x 28) i = Sh.bt x (28 + i) := Sh.bt_ushr x 28 i (by decide)
theorem own_ush32 (x : Int64) (i : Nat) : Sh.bt (XT.ushrL x 32) i = Sh.bt x (32 + i) := Sh.bt_ushr x 32 i (by decide)
theorem own_ush36 (x : Int64) (i : Nat) : Sh.bt (XT.ushrL x 36) i = Sh.bt x (36 + i) := Sh.bt_ushr x 36 i (by decide)
theorem own_ush40 (x : Int64) (i : Nat) : Sh.bt (XT.ushrL x 40) i = Sh.bt x (40 + i) := Sh.bt_ushr x 40 i (by decide)
theorem own_ush44 (x : Int64) (i : Nat) : Sh.bt (XT.ushrL x 44) i = Sh.bt x (44 + i) := Sh.bt_ushr x 44 i (by decide)
theorem own_ush48 (x : Int64) (i : Nat) : Sh.bt (XT.ushrL x 48) i = Sh.bt x (48 + i) := Sh.bt_ushr x 48 i (by decide)
theorem own_G0 (l0 l1 l2 l3 l4 : Int64) (i : Nat) (hi : i < 64) : Sh.bt ((own_f l0 l1 l2 l3 l4 0).toInt64 &&& 255) i = (decide (i < 8) && Sh.bt (XT.ushrL l0 0) i) := own_gx _ i hi
theorem own_G1 (l0 l1 l2 l3 l4 : Int64) (i : Nat) (hi : i < 64) : Sh.bt ((own_f l0 l1 l2 l3 l4 1).toInt64 &&& 255) i = (decide (i < 8) && Sh.bt (XT.ushrL l0 8) i) := own_gx _ i hi
theorem own_G2 (l0 l1 l2 l3 l4 : Int64) (i : Nat) (hi : i < 64) : Sh.bt ((own_f l0 l1 l2 l3 l4 2).toInt64 &&& 255) i = (decide (i < 8) && Sh.bt (XT.ushrL l0 16) i) := own_gx _ i hi
theorem own_G3 (l0 l1 l2 l3 l4 : Int64) (i : Nat) (hi : i < 64) : Sh.bt ((own_f l0 l1 l2 l3 l4 3).toInt64 &&& 255) i = (decide (i < 8) && Sh.bt (XT.ushrL l0 24) i) := own_gx _ i hi
theorem own_G4 (l0 l1 l2 l3 l4 : Int64) (i : Nat) (hi : i < 64) : Sh.bt ((own_f l0 l1 l2 l3 l4 4).toInt64 &&& 255) i = (decide (i < 8) && Sh.bt (XT.ushrL l0 32) i) := own_gx _ i hi
theorem own_G5 (l0 l1 l2 l3 l4 : Int64) (i : Nat) (hi : i < 64) : Sh.bt ((own_f l0 l1 l2 l3 l4 5).toInt64 &&& 255) i = (decide (i < 8) && Sh.bt (XT.ushrL l0 40) i) := own_gx _ i hi
theorem own_G6 (l0 l1 l2 l3 l4 : Int64) (i : Nat) (hi : i < 64) : Sh.bt ((own_f l0 l1 l2 l3 l4 6).toInt64 &&& 255) i = (decide (i < 8) && Sh.bt ((XT.ushrL l0 48) ||| (l1 <<< ((4 : Int32).toInt64 &&& 63))) i) := own_gx _ i hi
theorem own_G7 (l0 l1 l2 l3 l4 : Int64) (i : Nat) (hi : i < 64) : Sh.bt ((own_f l0 l1 l2 l3 l4 7).toInt64 &&& 255) i = (decide (i < 8) && Sh.bt (XT.ushrL l1 4) i) := own_gx _ i hi
theorem own_G8 (l0 l1 l2 l3 l4 : Int64) (i : Nat) (hi : i < 64) : Sh.bt ((own_f l0 l1 l2 l3 l4 8).toInt64 &&& 255) i = (decide (i < 8) && Sh.bt (XT.ushrL l1 12) i) := own_gx _ i hi
theorem own_G9 (l0 l1 l2 l3 l4 : Int64) (i : Nat) (hi : i < 64) : Sh.bt ((own_f l0 l1 l2 l3 l4 9).toInt64 &&& 255) i = (decide (i < 8) && Sh.bt (XT.ushrL l1 20) i) := own_gx _ i hi
theorem own_G10 (l0 l1 l2 l3 l4 : Int64) (i : Nat) (hi : i < 64) : Sh.bt ((own_f l0 l1 l2 l3 l4 10).toInt64 &&& 255) i = (decide (i < 8) && Sh.bt (XT.ushrL l1 28) i) := own_gx _ i hi
theorem own_G11 (l0 l1 l2 l3 l4 : Int64) (i : Nat) (hi : i < 64) : Sh.bt ((own_f l0 l1 l2 l3 l4 11).toInt64 &&& 255) i = (decide (i < 8) && Sh.bt (XT.ushrL l1 36) i) := own_gx _ i hi
theorem own_G12 (l0 l1 l2 l3 l4 : Int64) (i : Nat) (hi : i < 64) : Sh.bt ((own_f l0 l1 l2 l3 l4 12).toInt64 &&& 255) i = (decide (i < 8) && Sh.bt (XT.ushrL l1 44) i) := own_gx _ i hi
theorem own_G13 (l0 l1 l2 l3 l4 : Int64) (i : Nat) (hi : i < 64) : Sh.bt ((own_f l0 l1 l2 l3 l4 13).toInt64 &&& 255) i = (decide (i < 8) && Sh.bt (XT.ushrL l2 0) i) := own_gx _ i hi
theorem own_G14 (l0 l1 l2 l3 l4 : Int64) (i : Nat) (hi : i < 64) : Sh.bt ((own_f l0 l1 l2 l3 l4 14).toInt64 &&& 255) i = (decide (i < 8) && Sh.bt (XT.ushrL l2 8) i) := own_gx _ i hi
theorem own_G15 (l0 l1 l2 l3 l4 : Int64) (i : Nat) (hi : i < 64) : Sh.bt ((own_f l0 l1 l2 l3 l4 15).toInt64 &&& 255) i = (decide (i < 8) && Sh.bt (XT.ushrL l2 16) i) := own_gx _ i hi
theorem own_G16 (l0 l1 l2 l3 l4 : Int64) (i : Nat) (hi : i < 64) : Sh.bt ((own_f l0 l1 l2 l3 l4 16).toInt64 &&& 255) i = (decide (i < 8) && Sh.bt (XT.ushrL l2 24) i) := own_gx _ i hi
theorem own_G17 (l0 l1 l2 l3 l4 : Int64) (i : Nat) (hi : i < 64) : Sh.bt ((own_f l0 l1 l2 l3 l4 17).toInt64 &&& 255) i = (decide (i < 8) && Sh.bt (XT.ushrL l2 32) i) := own_gx _ i hi
theorem own_G18 (l0 l1 l2 l3 l4 : Int64) (i : Nat) (hi : i < 64) : Sh.bt ((own_f l0 l1 l2 l3 l4 18).toInt64 &&& 255) i = (decide (i < 8) && Sh.bt (XT.ushrL l2 40) i) := own_gx _ i hi
theorem own_G19 (l0 l1 l2 l3 l4 : Int64) (i : Nat) (hi : i < 64) : Sh.bt ((own_f l0 l1 l2 l3 l4 19).toInt64 &&& 255) i = (decide (i < 8) && Sh.bt ((XT.ushrL l2 48) ||| (l3 <<< ((4 : Int32).toInt64 &&& 63))) i) := own_gx _ i hi
theorem own_G20 (l0 l1 l2 l3 l4 : Int64) (i : Nat) (hi : i < 64) : Sh.bt ((own_f l0 l1 l2 l3 l4 20).toInt64 &&& 255) i = (decide (i < 8) && Sh.bt (XT.ushrL l3 4) i) := own_gx _ i hi
theorem own_G21 (l0 l1 l2 l3 l4 : Int64) (i : Nat) (hi : i < 64) : Sh.bt ((own_f l0 l1 l2 l3 l4 21).toInt64 &&& 255) i = (decide (i < 8) && Sh.bt (XT.ushrL l3 12) i) := own_gx _ i hi
theorem own_G22 (l0 l1 l2 l3 l4 : Int64) (i : Nat) (hi : i < 64) : Sh.bt ((own_f l0 l1 l2 l3 l4 22).toInt64 &&& 255) i = (decide (i < 8) && Sh.bt (XT.ushrL l3 20) i) := own_gx _ i hi
theorem own_G23 (l0 l1 l2 l3 l4 : Int64) (i : Nat) (hi : i < 64) : Sh.bt ((own_f l0 l1 l2 l3 l4 23).toInt64 &&& 255) i = (decide (i < 8) && Sh.bt (XT.ushrL l3 28) i) := own_gx _ i hi
theorem own_G24 (l0 l1 l2 l3 l4 : Int64) (i : Nat) (hi : i < 64) : Sh.bt ((own_f l0 l1 l2 l3 l4 24).toInt64 &&& 255) i = (decide (i < 8) && Sh.bt (XT.ushrL l3 36) i) := own_gx _ i hi
theorem own_G25 (l0 l1 l2 l3 l4 : Int64) (i : Nat) (hi : i < 64) : Sh.bt ((own_f l0 l1 l2 l3 l4 25).toInt64 &&& 255) i = (decide (i < 8) && Sh.bt (XT.ushrL l3 44) i) := own_gx _ i hi
theorem own_G26 (l0 l1 l2 l3 l4 : Int64) (i : Nat) (hi : i < 64) : Sh.bt ((own_f l0 l1 l2 l3 l4 26).toInt64 &&& 255) i = (decide (i < 8) && Sh.bt (XT.ushrL l4 0) i) := own_gx _ i hi
theorem own_G27 (l0 l1 l2 l3 l4 : Int64) (i : Nat) (hi : i < 64) : Sh.bt ((own_f l0 l1 l2 l3 l4 27).toInt64 &&& 255) i = (decide (i < 8) && Sh.bt (XT.ushrL l4 8) i) := own_gx _ i hi
theorem own_G28 (l0 l1 l2 l3 l4 : Int64) (i : Nat) (hi : i < 64) : Sh.bt ((own_f l0 l1 l2 l3 l4 28).toInt64 &&& 255) i = (decide (i < 8) && Sh.bt (XT.ushrL l4 16) i) := own_gx _ i hi
theorem own_G29 (l0 l1 l2 l3 l4 : Int64) (i : Nat) (hi : i < 64) : Sh.bt ((own_f l0 l1 l2 l3 l4 29).toInt64 &&& 255) i = (decide (i < 8) && Sh.bt (XT.ushrL l4 24) i) := own_gx _ i hi
theorem own_G30 (l0 l1 l2 l3 l4 : Int64) (i : Nat) (hi : i < 64) : Sh.bt ((own_f l0 l1 l2 l3 l4 30).toInt64 &&& 255) i = (decide (i < 8) && Sh.bt (XT.ushrL l4 32) i) := own_gx _ i hi
theorem own_G31 (l0 l1 l2 l3 l4 : Int64) (i : Nat) (hi : i < 64) : Sh.bt ((own_f l0 l1 l2 l3 l4 31).toInt64 &&& 255) i = (decide (i < 8) && Sh.bt (XT.ushrL l4 40) i) := own_gx _ i hi
def own_word (g0 g1 g2 g3 g4 g5 g6 g7 : Int32) : Int64 := ((((((((g0.toInt64 &&& 255) <<< ((56 : Int32).toInt64 &&& 63)) ||| ((g1.toInt64 &&& 255) <<< ((48 : Int32).toInt64 &&& 63))) ||| ((g2.toInt64 &&& 255) <<< ((40 : Int32).toInt64 &&& 63))) ||| ((g3.toInt64 &&& 255) <<< ((32 : Int32).toInt64 &&& 63))) ||| ((g4.toInt64 &&& 255) <<< ((24 : Int32).toInt64 &&& 63))) ||| ((g5.toInt64 &&& 255) <<< ((16 : Int32).toInt64 &&& 63))) ||| ((g6.toInt64 &&& 255) <<< ((8 : Int32).toInt64 &&& 63))) ||| (g7.toInt64 &&& 255)
theorem own_e0 (a0 a1 a2 a3 a4 : Int64) : own_word (own_f (a0 &&& 4503599627370495) (a1 &&& 4503599627370495) (a2 &&& 4503599627370495) (a3 &&& 4503599627370495) (a4 &&& 281474976710655) 7) (own_f (a0 &&& 4503599627370495) (a1 &&& 4503599627370495) (a2 &&& 4503599627370495) (a3 &&& 4503599627370495) (a4 &&& 281474976710655) 6) (own_f (a0 &&& 4503599627370495) (a1 &&& 4503599627370495) (a2 &&& 4503599627370495) (a3 &&& 4503599627370495) (a4 &&& 281474976710655) 5) (own_f (a0 &&& 4503599627370495) (a1 &&& 4503599627370495) (a2 &&& 4503599627370495) (a3 &&& 4503599627370495) (a4 &&& 281474976710655) 4) (own_f (a0 &&& 4503599627370495) (a1 &&& 4503599627370495) (a2 &&& 4503599627370495) (a3 &&& 4503599627370495) (a4 &&& 281474976710655) 3) (own_f (a0 &&& 4503599627370495) (a1 &&& 4503599627370495) (a2 &&& 4503599627370495) (a3 &&& 4503599627370495) (a4 &&& 281474976710655) 2) (own_f (a0 &&& 4503599627370495) (a1 &&& 4503599627370495) (a2 &&& 4503599627370495) (a3 &&& 4503599627370495) (a4 &&& 281474976710655) 1) (own_f (a0 &&& 4503599627370495) (a1 &&& 4503599627370495) (a2 &&& 4503599627370495) (a3 &&& 4503599627370495) (a4 &&& 281474976710655) 0) = ((a0 &&& 4503599627370495) ||| ((a1 &&& 4503599627370495) <<< ((52 : Int32).toInt64 &&& 63))) := by
  refine Sh.bt_ext fun i hi => ?_
  rw [own_word]
  match i, hi with
  | 0, _ => simp only [Sh.bt_or, Sh.bt_zero, own_mask, own_mask4, own_shl4, own_shl8, own_shl16, own_shl24, own_shl28, own_shl32, own_shl40, own_shl48, own_shl52, own_shl56, own_ush0, own_ush4, own_ush8, own_ush12, own_ush16, own_ush20, own_ush24, own_ush28, own_ush32, own_ush36, own_ush40, own_ush44, own_ush48, own_G0, own_G1, own_G2, own_G3, own_G4, own_G5, own_G6, own_G7, own_G8, own_G9, own_G10, own_G11, own_G12, own_G13, own_G14, own_G15, own_G16, own_G17, own_G18, own_G19, own_G20, own_G21, own_G22, own_G23, own_G24, own_G25, own_G26, own_G27, own_G28, own_G29, own_G30, own_G31, Sh.bt_big, Nat.reduceLT, Nat.reduceAdd, Nat.reduceSub, Nat.reduceLeDiff, decide_true, decide_false, Bool.and_true, Bool.true_and, Bool.and_false, Bool.false_and, Bool.or_false, Bool.false_or, Bool.not_true, Bool.not_false, Nat.zero_add, Nat.sub_zero, Nat.lt_irrefl, Nat.not_lt_zero]
  | 1, _ => simp only [Sh.bt_or, Sh.bt_zero, own_mask, own_mask4, own_shl4, own_shl8, own_shl16, own_shl24, own_shl28, own_shl32, own_shl40, own_shl48, own_shl52, own_shl56, own_ush0, own_ush4, own_ush8, own_ush12, own_ush16, own_ush20, own_ush24, own_ush28, own_ush32, own_ush36, own_ush40, own_ush44, own_ush48, own_G0, own_G1, own_G2, own_G3, own_G4, own_G5, own_G6, own_G7, own_G8, own_G9, own_G10, own_G11, own_G12, own_G13, own_G14, own_G15, own_G16, own_G17, own_G18, own_G19, own_G20, own_G21, own_G22, own_G23, own_G24, own_G25, own_G26, own_G27, own_G28, own_G29, own_G30, own_G31, Sh.bt_big, Nat.reduceLT, Nat.reduceAdd, Nat.reduceSub, Nat.reduceLeDiff, decide_true, decide_false, Bool.and_true, Bool.true_and, Bool.and_false, Bool.false_and, Bool.or_false, Bool.false_or, Bool.not_true, Bool.not_false, Nat.zero_add, Nat.sub_zero, Nat.lt_irrefl, Nat.not_lt_zero]
  | 2, _ => simp only [Sh.bt_or, Sh.bt_zero, own_mask, own_mask4, own_shl4, own_shl8, own_shl16, own_shl24, own_shl28, own_shl32, own_shl40, own_shl48, own_shl52, own_shl56, own_ush0, own_ush4, own_ush8, own_ush12, own_ush16, own_ush20, own_ush24, own_ush28, own_ush32, own_ush36, own_ush40, own_ush44, own_ush48, own_G0, own_G1, own_G2, own_G3, own_G4, own_G5, own_G6, own_G7, own_G8, own_G9, own_G10, own_G11, own_G12, own_G13, own_G14, own_G15, own_G16, own_G17, own_G18, own_G19, own_G20, own_G21, own_G22, own_G23, own_G24, own_G25, own_G26, own_G27, own_G28, own_G29, own_G30, own_G31, Sh.bt_big, Nat.reduceLT, Nat.reduceAdd, Nat.reduceSub, Nat.reduceLeDiff, decide_true, decide_false, Bool.and_true, Bool.true_and, Bool.and_false, Bool.false_and, Bool.or_false, Bool.false_or, Bool.not_true, Bool.not_false, Nat.zero_add, Nat.sub_zero, Nat.lt_irrefl, Nat.not_lt_zero]
  | 3, _ => simp only [Sh.bt_or, Sh.bt_zero, own_mask, own_mask4, own_shl4, own_shl8, own_shl16, own_shl24, own_shl28, own_shl32, own_shl40, own_shl48, own_shl52, own_shl56, own_ush0, own_ush4, own_ush8, own_ush12, own_ush16, own_ush20, own_ush24, own_ush28, own_ush32, own_ush36, own_ush40, own_ush44, own_ush48, own_G0, own_G1, own_G2, own_G3, own_G4, own_G5, own_G6, own_G7, own_G8, own_G9, own_G10, own_G11, own_G12, own_G13, own_G14, own_G15, own_G16, own_G17, own_G18, own_G19, own_G20, own_G21, own_G22, own_G23, own_G24, own_G25, own_G26, own_G27, own_G28, own_G29, own_G30, own_G31, Sh.bt_big, Nat.reduceLT, Nat.reduceAdd, Nat.reduceSub, Nat.reduceLeDiff, decide_true, decide_false, Bool.and_true, Bool.true_and, Bool.and_false, Bool.false_and, Bool.or_false, Bool.false_or, Bool.not_true, Bool.not_false, Nat.zero_add, Nat.sub_zero, Nat.lt_irrefl, Nat.not_lt_zero]
  | 4, _ => simp only [Sh.bt_or, Sh.bt_zero, own_mask, own_mask4, own_shl4, own_shl8, own_shl16, own_shl24, own_shl28, own_shl32, own_shl40, own_shl48, own_shl52, own_shl56, own_ush0, own_ush4, own_ush8, own_ush12, own_ush16, own_ush20, own_ush24, own_ush28, own_ush32, own_ush36, own_ush40, own_ush44, own_ush48, own_G0, own_G1, own_G2, own_G3, own_G4, own_G5, own_G6, own_G7, own_G8, own_G9, own_G10, own_G11, own_G12, own_G13, own_G14, own_G15, own_G16, own_G17, own_G18, own_G19, own_G20, own_G21, own_G22, own_G23, own_G24, own_G25, own_G26, own_G27, own_G28, own_G29, own_G30, own_G31, Sh.bt_big, Nat.reduceLT, Nat.reduceAdd, Nat.reduceSub, Nat.reduceLeDiff, decide_true, decide_false, Bool.and_true, Bool.true_and, Bool.and_false, Bool.false_and, Bool.or_false, Bool.false_or, Bool.not_true, Bool.not_false, Nat.zero_add, Nat.sub_zero, Nat.lt_irrefl, Nat.not_lt_zero]
  | 5, _ => simp only [Sh.bt_or, Sh.bt_zero, own_mask, own_mask4, own_shl4, own_shl8, own_shl16, own_shl24, own_shl28, own_shl32, own_shl40, own_shl48, own_shl52, own_shl56, own_ush0, own_ush4, own_ush8, own_ush12, own_ush16, own_ush20, own_ush24, own_ush28, own_ush32, own_ush36, own_ush40, own_ush44, own_ush48, own_G0, own_G1, own_G2, own_G3, own_G4, own_G5, own_G6, own_G7, own_G8, own_G9, own_G10, own_G11, own_G12, own_G13, own_G14, own_G15, own_G16, own_G17, own_G18, own_G19, own_G20, own_G21, own_G22, own_G23, own_G24, own_G25, own_G26, own_G27, own_G28, own_G29, own_G30, own_G31, Sh.bt_big, Nat.reduceLT, Nat.reduceAdd, Nat.reduceSub, Nat.reduceLeDiff, decide_true, decide_false, Bool.and_true, Bool.true_and, Bool.and_false, Bool.false_and, Bool.or_false, Bool.false_or, Bool.not_true, Bool.not_false, Nat.zero_add, Nat.sub_zero, Nat.lt_irrefl, Nat.not_lt_zero]
  | 6, _ => simp only [Sh.bt_or, Sh.bt_zero, own_mask, own_mask4, own_shl4, own_shl8, own_shl16, own_shl24, own_shl28, own_shl32, own_shl40, own_shl48, own_shl52, own_shl56, own_ush0, own_ush4, own_ush8, own_ush12, own_ush16, own_ush20, own_ush24, own_ush28, own_ush32, own_ush36, own_ush40, own_ush44, own_ush48, own_G0, own_G1, own_G2, own_G3, own_G4, own_G5, own_G6, own_G7, own_G8, own_G9, own_G10, own_G11, own_G12, own_G13, own_G14, own_G15, own_G16, own_G17, own_G18, own_G19, own_G20, own_G21, own_G22, own_G23, own_G24, own_G25, own_G26, own_G27, own_G28, own_G29, own_G30, own_G31, Sh.bt_big, Nat.reduceLT, Nat.reduceAdd, Nat.reduceSub, Nat.reduceLeDiff, decide_true, decide_false, Bool.and_true, Bool.true_and, Bool.and_false, Bool.false_and, Bool.or_false, Bool.false_or, Bool.not_true, Bool.not_false, Nat.zero_add, Nat.sub_zero, Nat.lt_irrefl, Nat.not_lt_zero]
  | 7, _ => simp only [Sh.bt_or, Sh.bt_zero, own_mask, own_mask4, own_shl4, own_shl8, own_shl16, own_shl24, own_shl28, own_shl32, own_shl40, own_shl48, own_shl52, own_shl56, own_ush0, own_ush4, own_ush8, own_ush12, own_ush16, own_ush20, own_ush24, own_ush28, own_ush32, own_ush36, own_ush40, own_ush44, own_ush48, own_G0, own_G1, own_G2, own_G3, own_G4, own_G5, own_G6, own_G7, own_G8, own_G9, own_G10, own_G11, own_G12, own_G13, own_G14, own_G15, own_G16, own_G17, own_G18, own_G19, own_G20, own_G21, own_G22, own_G23, own_G24, own_G25, own_G26, own_G27, own_G28, own_G29, own_G30, own_G31, Sh.bt_big, Nat.reduceLT, Nat.reduceAdd, Nat.reduceSub, Nat.reduceLeDiff, decide_true, decide_false, Bool.and_true, Bool.true_and, Bool.and_false, Bool.false_and, Bool.or_false, Bool.false_or, Bool.not_true, Bool.not_false, Nat.zero_add, Nat.sub_zero, Nat.lt_irrefl, Nat.not_lt_zero]
  | 8, _ => simp only [Sh.bt_or, Sh.bt_zero, own_mask, own_mask4, own_shl4, own_shl8, own_shl16, own_shl24, own_shl28, own_shl32, own_shl40, own_shl48, own_shl52, own_shl56, own_ush0, own_ush4, own_ush8, own_ush12, own_ush16, own_ush20, own_ush24, own_ush28, own_ush32, own_ush36, own_ush40, own_ush44, own_ush48, own_G0, own_G1, own_G2, own_G3, own_G4, own_G5, own_G6, own_G7, own_G8, own_G9, own_G10, own_G11, own_G12, own_G13, own_G14, own_G15, own_G16, own_G17, own_G18, own_G19, own_G20, own_G21, own_G22, own_G23, own_G24, own_G25, own_G26, own_G27, own_G28, own_G29, own_G30, own_G31, Sh.bt_big, Nat.reduceLT, Nat.reduceAdd, Nat.reduceSub, Nat.reduceLeDiff, decide_true, decide_false, Bool.and_true, Bool.true_and, Bool.and_false, Bool.false_and, Bool.or_false, Bool.false_or, Bool.not_true, Bool.not_false, Nat.zero_add, Nat.sub_zero, Nat.lt_irrefl, Nat.not_lt_zero]
  | 9, _ => simp only [Sh.bt_or, Sh.bt_zero, own_mask, own_mask4, own_shl4, own_shl8, own_shl16, own_shl24, own_shl28, own_shl32, own_shl40, own_shl48, own_shl52, own_shl56, own_ush0, own_ush4, own_ush8, own_ush12, own_ush16, own_ush20, own_ush24, own_ush28, own_ush32, own_ush36, own_ush40, own_ush44, own_ush48, own_G0, own_G1, own_G2, own_G3, own_G4, own_G5, own_G6, own_G7, own_G8, own_G9, own_G10, own_G11, own_G12, own_G13, own_G14, own_G15, own_G16, own_G17, own_G18, own_G19, own_G20, own_G21, own_G22, own_G23, own_G24, own_G25, own_G26, own_G27, own_G28, own_G29, own_G30, own_G31, Sh.bt_big, Nat.reduceLT, Nat.reduceAdd, Nat.reduceSub, Nat.reduceLeDiff, decide_true, decide_false, Bool.and_true, Bool.true_and, Bool.and_false, Bool.false_and, Bool.or_false, Bool.false_or, Bool.not_true, Bool.not_false, Nat.zero_add, Nat.sub_zero, Nat.lt_irrefl, Nat.not_lt_zero]
  | 10, _ => simp only [Sh.bt_or, Sh.bt_zero, own_mask, own_mask4, own_shl4, own_shl8, own_shl16, own_shl24, own_shl28, own_shl32, own_shl40, own_shl48, own_shl52, own_shl56, own_ush0, own_ush4, own_ush8, own_ush12, own_ush16, own_ush20, own_ush24, own_ush28, own_ush32, own_ush36, own_ush40, own_ush44, own_ush48, own_G0, own_G1, own_G2, own_G3, own_G4, own_G5, own_G6, own_G7, own_G8, own_G9, own_G10, own_G11, own_G12, own_G13, own_G14, own_G15, own_G16, own_G17, own_G18, own_G19, own_G20, own_G21, own_G22, own_G23, own_G24, own_G25, own_G26, own_G27, own_G28, own_G29, own_G30, own_G31, Sh.bt_big, Nat.reduceLT, Nat.reduceAdd, Nat.reduceSub, Nat.reduceLeDiff, decide_true, decide_false, Bool.and_true, Bool.true_and, Bool.and_false, Bool.false_and, Bool.or_false, Bool.false_or, Bool.not_true, Bool.not_false, Nat.zero_add, Nat.sub_zero, Nat.lt_irrefl, Nat.not_lt_zero]
  | 11, _ => simp only [Sh.bt_or, Sh.bt_zero, own_mask, own_mask4, own_shl4, own_shl8, own_shl16, own_shl24, own_shl28, own_shl32, own_shl40, own_shl48, own_shl52, own_shl56, own_ush0, own_ush4, own_ush8, own_ush12, own_ush16, own_ush20, own_ush24, own_ush28, own_ush32, own_ush36, own_ush40, own_ush44, own_ush48, own_G0, own_G1, own_G2, own_G3, own_G4, own_G5, own_G6, own_G7, own_G8, own_G9, own_G10, own_G11, own_G12, own_G13, own_G14, own_G15, own_G16, own_G17, own_G18, own_G19, own_G20, own_G21, own_G22, own_G23, own_G24, own_G25, own_G26, own_G27, own_G28, own_G29, own_G30, own_G31, Sh.bt_big, Nat.reduceLT, Nat.reduceAdd, Nat.reduceSub, Nat.reduceLeDiff, decide_true, decide_false, Bool.and_true, Bool.true_and, Bool.and_false, Bool.false_and, Bool.or_false, Bool.false_or, Bool.not_true, Bool.not_false, Nat.zero_add, Nat.sub_zero, Nat.lt_irrefl, Nat.not_lt_zero]
  | 12, _ => simp only [Sh.bt_or, Sh.bt_zero, own_mask, own_mask4, own_shl4, own_shl8, own_shl16, own_shl24, own_shl28, own_shl32, own_shl40, own_shl48, own_shl52, own_shl56, own_ush0, own_ush4, own_ush8, own_ush12, own_ush16, own_ush20, own_ush24, own_ush28, own_ush32, own_ush36, own_ush40, own_ush44, own_ush48, own_G0, own_G1, own_G2, own_G3, own_G4, own_G5, own_G6, own_G7, own_G8, own_G9, own_G10, own_G11, own_G12, own_G13, own_G14, own_G15, own_G16, own_G17, own_G18, own_G19, own_G20, own_G21, own_G22, own_G23, own_G24, own_G25, own_G26, own_G27, own_G28, own_G29, own_G30, own_G31, Sh.bt_big, Nat.reduceLT, Nat.reduceAdd, Nat.reduceSub, Nat.reduceLeDiff, decide_true, decide_false, Bool.and_true, Bool.true_and, Bool.and_false, Bool.false_and, Bool.or_false, Bool.false_or, Bool.not_true, Bool.not_false, Nat.zero_add, Nat.sub_zero, Nat.lt_irrefl, Nat.not_lt_zero]
  | 13, _ => simp only [Sh.bt_or, Sh.bt_zero, own_mask, own_mask4, own_shl4, own_shl8, own_shl16, own_shl24, own_shl28, own_shl32, own_shl40, own_shl48, own_shl52, own_shl56, own_ush0, own_ush4, own_ush8, own_ush12, own_ush16, own_ush20, own_ush24, own_ush28, own_ush32, own_ush36, own_ush40, own_ush44, own_ush48, own_G0, own_G1, own_G2, own_G3, own_G4, own_G5, own_G6, own_G7, own_G8, own_G9, own_G10, own_G11, own_G12, own_G13, own_G14, own_G15, own_G16, own_G17, own_G18, own_G19, own_G20, own_G21, own_G22, own_G23, own_G24, own_G25, own_G26, own_G27, own_G28, own_G29, own_G30, own_G31, Sh.bt_big, Nat.reduceLT, Nat.reduceAdd, Nat.reduceSub, Nat.reduceLeDiff, decide_true, decide_false, Bool.and_true, Bool.true_and, Bool.and_false, Bool.false_and, Bool.or_false, Bool.false_or, Bool.not_true, Bool.not_false, Nat.zero_add, Nat.sub_zero, Nat.lt_irrefl, Nat.not_lt_zero]
  | 14, _ => simp only [Sh.bt_or, Sh.bt_zero, own_mask, own_mask4, own_shl4, own_shl8, own_shl16, own_shl24, own_shl28, own_shl32, own_shl40, own_shl48, own_shl52, own_shl56, own_ush0, own_ush4, own_ush8, own_ush12, own_ush16, own_ush20, own_ush24, own_ush28, own_ush32, own_ush36, own_ush40, own_ush44, own_ush48, own_G0, own_G1, own_G2, own_G3, own_G4, own_G5, own_G6, own_G7, own_G8, own_G9, own_G10, own_G11, own_G12, own_G13, own_G14, own_G15, own_G16, own_G17, own_G18, own_G19, own_G20, own_G21, own_G22, own_G23, own_G24, own_G25, own_G26, own_G27, own_G28, own_G29, own_G30, own_G31, Sh.bt_big, Nat.reduceLT, Nat.reduceAdd, Nat.reduceSub, Nat.reduceLeDiff, decide_true, decide_false, Bool.and_true, Bool.true_and, Bool.and_false, Bool.false_and, Bool.or_false, Bool.false_or, Bool.not_true, Bool.not_false, Nat.zero_add, Nat.sub_zero, Nat.lt_irrefl, Nat.not_lt_zero]
  | 15, _ => simp only [Sh.bt_or, Sh.bt_zero, own_mask, own_mask4, own_shl4, own_shl8, own_shl16, own_shl24, own_shl28, own_shl32, own_shl40, own_shl48, own_shl52, own_shl56, own_ush0, own_ush4, own_ush8, own_ush12, own_ush16, own_ush20, own_ush24, own_ush28, own_ush32, own_ush36, own_ush40, own_ush44, own_ush48, own_G0, own_G1, own_G2, own_G3, own_G4, own_G5, own_G6, own_G7, own_G8, own_G9, own_G10, own_G11, own_G12, own_G13, own_G14, own_G15, own_G16, own_G17, own_G18, own_G19, own_G20, own_G21, own_G22, own_G23, own_G24, own_G25, own_G26, own_G27, own_G28, own_G29, own_G30, own_G31, Sh.bt_big, Nat.reduceLT, Nat.reduceAdd, Nat.reduceSub, Nat.reduceLeDiff, decide_true, decide_false, Bool.and_true, Bool.true_and, Bool.and_false, Bool.false_and, Bool.or_false, Bool.false_or, Bool.not_true, Bool.not_false, Nat.zero_add, Nat.sub_zero, Nat.lt_irrefl, Nat.not_lt_zero]
  | 16, _ => simp only [Sh.bt_or, Sh.bt_zero, own_mask, own_mask4, own_shl4, own_shl8, own_shl16, own_shl24, own_shl28, own_shl32, own_shl40, own_shl48, own_shl52, own_shl56, own_ush0, own_ush4, own_ush8, own_ush12, own_ush16, own_ush20, own_ush24, own_ush28, own_ush32, own_ush36, own_ush40, own_ush44, own_ush48, own_G0, own_G1, own_G2, own_G3, own_G4, own_G5, own_G6, own_G7, own_G8, own_G9, own_G10, own_G11, own_G12, own_G13, own_G14, own_G15, own_G16, own_G17, own_G18, own_G19, own_G20, own_G21, own_G22, own_G23, own_G24, own_G25, own_G26, own_G27, own_G28, own_G29, own_G30, own_G31, Sh.bt_big, Nat.reduceLT, Nat.reduceAdd, Nat.reduceSub, Nat.reduceLeDiff, decide_true, decide_false, Bool.and_true, Bool.true_and, Bool.and_false, Bool.false_and, Bool.or_false, Bool.false_or, Bool.not_true, Bool.not_false, Nat.zero_add, Nat.sub_zero, Nat.lt_irrefl, Nat.not_lt_zero]
  | 17, _ => simp only [Sh.bt_or, Sh.bt_zero, own_mask, own_mask4, own_shl4, own_shl8, own_shl16, own_shl24, own_shl28, own_shl32, own_shl40, own_shl48, own_shl52, own_shl56, own_ush0, own_ush4, own_ush8, own_ush12, own_ush16, own_ush20, own_ush24, own_ush28, own_ush32, own_ush36, own_ush40, own_ush44, own_ush48, own_G0, own_G1, own_G2, own_G3, own_G4, own_G5, own_G6, own_G7, own_G8, own_G9, own_G10, own_G11, own_G12, own_G13, own_G14, own_G15, own_G16, own_G17, own_G18, own_G19, own_G20, own_G21, own_G22, own_G23, own_G24, own_G25, own_G26, own_G27, own_G28, own_G29, own_G30, own_G31, Sh.bt_big, Nat.reduceLT, Nat.reduceAdd, Nat.reduceSub, Nat.reduceLeDiff, decide_true, decide_false, Bool.and_true, Bool.true_and, Bool.and_false, Bool.false_and, Bool.or_false, Bool.false_or, Bool.not_true, Bool.not_false, Nat.zero_add, Nat.sub_zero, Nat.lt_irrefl, Nat.not_lt_zero]
  | 18, _ => simp only [Sh.bt_or, Sh.bt_zero, own_mask, own_mask4, own_shl4, own_shl8, own_shl16, own_shl24, own_shl28, own_shl32, own_shl40, own_shl48, own_shl52, own_shl56, own_ush0, own_ush4, own_ush8, own_ush12, own_ush16, own_ush20, own_ush24, own_ush28, own_ush32, own_ush36, own_ush40, own_ush44, own_ush48, own_G0, own_G1, own_G2, own_G3, own_G4, own_G5, own_G6, own_G7, own_G8, own_G9, own_G10, own_G11, own_G12, own_G13, own_G14, own_G15, own_G16, own_G17, own_G18, own_G19, own_G20, own_G21, own_G22, own_G23, own_G24, own_G25, own_G26, own_G27, own_G28, own_G29, own_G30, own_G31, Sh.bt_big, Nat.reduceLT, Nat.reduceAdd, Nat.reduceSub, Nat.reduceLeDiff, decide_true, decide_false, Bool.and_true, Bool.true_and, Bool.and_false, Bool.false_and, Bool.or_false, Bool.false_or, Bool.not_true, Bool.not_false, Nat.zero_add, Nat.sub_zero, Nat.lt_irrefl, Nat.not_lt_zero]
  | 19, _ => simp only [Sh.bt_or, Sh.bt_zero, own_mask, own_mask4, own_shl4, own_shl8, own_shl16, own_shl24, own_shl28, own_shl32, own_shl40, own_shl48, own_shl52, own_shl56, own_ush0, own_ush4, own_ush8, own_ush12, own_ush16, own_ush20, own_ush24, own_ush28, own_ush32, own_ush36, own_ush40, own_ush44, own_ush48, own_G0, own_G1, own_G2, own_G3, own_G4, own_G5, own_G6, own_G7, own_G8, own_G9, own_G10, own_G11, own_G12, own_G13, own_G14, own_G15, own_G16, own_G17, own_G18, own_G19, own_G20, own_G21, own_G22, own_G23, own_G24, own_G25, own_G26, own_G27, own_G28, own_G29, own_G30, own_G31, Sh.bt_big, Nat.reduceLT, Nat.reduceAdd, Nat.reduceSub, Nat.reduceLeDiff, decide_true, decide_false, Bool.and_true, Bool.true_and, Bool.and_false, Bool.false_and, Bool.or_false, Bool.false_or, Bool.not_true, Bool.not_false, Nat.zero_add, Nat.sub_zero, Nat.lt_irrefl, Nat.not_lt_zero]
  | 20, _ => simp only [Sh.bt_or, Sh.bt_zero, own_mask, own_mask4, own_shl4, own_shl8, own_shl16, own_shl24, own_shl28, own_shl32, own_shl40, own_shl48, own_shl52, own_shl56, own_ush0, own_ush4, own_ush8, own_ush12, own_ush16, own_ush20, own_ush24, own_ush28, own_ush32, own_ush36, own_ush40, own_ush44, own_ush48, own_G0, own_G1, own_G2, own_G3, own_G4, own_G5, own_G6, own_G7, own_G8, own_G9, own_G10, own_G11, own_G12, own_G13, own_G14, own_G15, own_G16, own_G17, own_G18, own_G19, own_G20, own_G21, own_G22, own_G23, own_G24, own_G25, own_G26, own_G27, own_G28, own_G29, own_G30, own_G31, Sh.bt_big, Nat.reduceLT, Nat.reduceAdd, Nat.reduceSub, Nat.reduceLeDiff, decide_true, decide_false, Bool.and_true, Bool.true_and, Bool.and_false, Bool.false_and, Bool.or_false, Bool.false_or, Bool.not_true, Bool.not_false, Nat.zero_add, Nat.sub_zero, Nat.lt_irrefl, Nat.not_lt_zero]
  | 21, _ => simp only [Sh.bt_or, Sh.bt_zero, own_mask, own_mask4, own_shl4, own_shl8, own_shl16, own_shl24, own_shl28, own_shl32, own_shl40, own_shl48, own_shl52, own_shl56, own_ush0, own_ush4, own_ush8, own_ush12, own_ush16, own_ush20, own_ush24, own_ush28, own_ush32, own_ush36, own_ush40, own_ush44, own_ush48, own_G0, own_G1, own_G2, own_G3, own_G4, own_G5, own_G6, own_G7, own_G8, own_G9, own_G10, own_G11, own_G12, own_G13, own_G14, own_G15, own_G16, own_G17, own_G18, own_G19, own_G20, own_G21, own_G22, own_G23, own_G24, own_G25, own_G26, own_G27, own_G28, own_G29, own_G30, own_G31, Sh.bt_big, Nat.reduceLT, Nat.reduceAdd, Nat.reduceSub, Nat.reduceLeDiff, decide_true, decide_false, Bool.and_true, Bool.true_and, Bool.and_false, Bool.false_and, Bool.or_false, Bool.false_or, Bool.not_true, Bool.not_false, Nat.zero_add, Nat.sub_zero, Nat.lt_irrefl, Nat.not_lt_zero]
  | 22, _ => simp only [Sh.bt_or, Sh.bt_zero, own_mask, own_mask4, own_shl4, own_shl8, own_shl16, own_shl24, own_shl28, own_shl32, own_shl40, own_shl48, own_shl52, own_shl56, own_ush0, own_ush4, own_ush8, own_ush12, own_ush16, own_ush20, own_ush24, own_ush28, own_ush32, own_ush36, own_ush40, own_ush44, own_ush48, own_G0, own_G1, own_G2, own_G3, own_G4, own_G5, own_G6, own_G7, own_G8, own_G9, own_G10, own_G11, own_G12, own_G13, own_G14, own_G15, own_G16, own_G17, own_G18, own_G19, own_G20, own_G21, own_G22, own_G23, own_G24, own_G25, own_G26, own_G27, own_G28, own_G29, own_G30, own_G31, Sh.bt_big, Nat.reduceLT, Nat.reduceAdd, Nat.reduceSub, Nat.reduceLeDiff, decide_true, decide_false, Bool.and_true, Bool.true_and, Bool.and_false, Bool.false_and, Bool.or_false, Bool.false_or, Bool.not_true, Bool.not_false, Nat.zero_add, Nat.sub_zero, Nat.lt_irrefl, Nat.not_lt_zero]
  | 23, _ => simp only [Sh.bt_or, Sh.bt_zero, own_mask, own_mask4, own_shl4, own_shl8, own_shl16, own_shl24, own_shl28, own_shl32, own_shl40, own_shl48, own_shl52, own_shl56, own_ush0, own_ush4, own_ush8, own_ush12, own_ush16, own_ush20, own_ush24, own_ush28, own_ush32, own_ush36, own_ush40, own_ush44, own_ush48, own_G0, own_G1, own_G2, own_G3, own_G4, own_G5, own_G6, own_G7, own_G8, own_G9, own_G10, own_G11, own_G12, own_G13, own_G14, own_G15, own_G16, own_G17, own_G18, own_G19, own_G20, own_G21, own_G22, own_G23, own_G24, own_G25, own_G26, own_G27, own_G28, own_G29, own_G30, own_G31, Sh.bt_big, Nat.reduceLT, Nat.reduceAdd, Nat.reduceSub, Nat.reduceLeDiff, decide_true, decide_false, Bool.and_true, Bool.true_and, Bool.and_false, Bool.false_and, Bool.or_false, Bool.false_or, Bool.not_true, Bool.not_false, Nat.zero_add, Nat.sub_zero, Nat.lt_irrefl, Nat.not_lt_zero]
  | 24, _ => simp only [Sh.bt_or, Sh.bt_zero, own_mask, own_mask4, own_shl4, own_shl8, own_shl16, own_shl24, own_shl28, own_shl32, own_shl40, own_shl48, own_shl52, own_shl56, own_ush0, own_ush4, own_ush8, own_ush12, own_ush16, own_ush20, own_ush24, own_ush28, own_ush32, own_ush36, own_ush40, own_ush44, own_ush48, own_G0, own_G1, own_G2, own_G3, own_G4, own_G5, own_G6, own_G7, own_G8, own_G9, own_G10, own_G11, own_G12, own_G13, own_G14, own_G15, own_G16, own_G17, own_G18, own_G19, own_G20, own_G21, own_G22, own_G23, own_G24, own_G25, own_G26, own_G27, own_G28, own_G29, own_G30, own_G31, Sh.bt_big, Nat.reduceLT, Nat.reduceAdd, Nat.reduceSub, Nat.reduceLeDiff, decide_true, decide_false, Bool.and_true, Bool.true_and, Bool.and_false, Bool.false_and, Bool.or_false, Bool.false_or, Bool.not_true, Bool.not_false, Nat.zero_add, Nat.sub_zero, Nat.lt_irrefl, Nat.not_lt_zero]
  | 25, _ => simp only [Sh.bt_or, Sh.bt_zero, own_mask, own_mask4, own_shl4, own_shl8, own_shl16, own_shl24, own_shl28, own_shl32, own_shl40, own_shl48, own_shl52, own_shl56, own_ush0, own_ush4, own_ush8, own_ush12, own_ush16, own_ush20, own_ush24, own_ush28, own_ush32, own_ush36, own_ush40, own_ush44, own_ush48, own_G0, own_G1, own_G2, own_G3, own_G4, own_G5, own_G6, own_G7, own_G8, own_G9, own_G10, own_G11, own_G12, own_G13, own_G14, own_G15, own_G16, own_G17, own_G18, own_G19, own_G20, own_G21, own_G22, own_G23, own_G24, own_G25, own_G26, own_G27, own_G28, own_G29, own_G30, own_G31, Sh.bt_big, Nat.reduceLT, Nat.reduceAdd, Nat.reduceSub, Nat.reduceLeDiff, decide_true, decide_false, Bool.and_true, Bool.true_and, Bool.and_false, Bool.false_and, Bool.or_false, Bool.false_or, Bool.not_true, Bool.not_false, Nat.zero_add, Nat.sub_zero, Nat.lt_irrefl, Nat.not_lt_zero]
  | 26, _ => simp only [Sh.bt_or, Sh.bt_zero, own_mask, own_mask4, own_shl4, own_shl8, own_shl16, own_shl24, own_shl28, own_shl32, own_shl40, own_shl48, own_shl52, own_shl56, own_ush0, own_ush4, own_ush8, own_ush12, own_ush16, own_ush20, own_ush24, own_ush28, own_ush32, own_ush36, own_ush40, own_ush44, own_ush48, own_G0, own_G1, own_G2, own_G3, own_G4, own_G5, own_G6, own_G7, own_G8, own_G9, own_G10, own_G11, own_G12, own_G13, own_G14, own_G15, own_G16, own_G17, own_G18, own_G19, own_G20, own_G21, own_G22, own_G23, own_G24, own_G25, own_G26, own_G27, own_G28, own_G29, own_G30, own_G31, Sh.bt_big, Nat.reduceLT, Nat.reduceAdd, Nat.reduceSub, Nat.reduceLeDiff, decide_true, decide_false, Bool.and_true, Bool.true_and, Bool.and_false, Bool.false_and, Bool.or_false, Bool.false_or, Bool.not_true, Bool.not_false, Nat.zero_add, Nat.sub_zero, Nat.lt_irrefl, Nat.not_lt_zero]
  | 27, _ => simp only [Sh.bt_or, Sh.bt_zero, own_mask, own_mask4, own_shl4, own_shl8, own_shl16, own_shl24, own_shl28, own_shl32, own_shl40, own_shl48, own_shl52, own_shl56, own_ush0, own_ush4, own_ush8, own_ush12, own_ush16, own_ush20, own_ush24, own_ush28, own_ush32, own_ush36, own_ush40, own_ush44, own_ush48, own_G0, own_G1, own_G2, own_G3, own_G4, own_G5, own_G6, own_G7, own_G8, own_G9, own_G10, own_G11, own_G12, own_G13, own_G14, own_G15, own_G16, own_G17, own_G18, own_G19, own_G20, own_G21, own_G22, own_G23, own_G24, own_G25, own_G26, own_G27, own_G28, own_G29, own_G30, own_G31, Sh.bt_big, Nat.reduceLT, Nat.reduceAdd, Nat.reduceSub, Nat.reduceLeDiff, decide_true, decide_false, Bool.and_true, Bool.true_and, Bool.and_false, Bool.false_and, Bool.or_false, Bool.false_or, Bool.not_true, Bool.not_false, Nat.zero_add, Nat.sub_zero, Nat.lt_irrefl, Nat.not_lt_zero]
  | 28, _ => simp only [Sh.bt_or, Sh.bt_zero, own_mask, own_mask4, own_shl4, own_shl8, own_shl16, own_shl24, own_shl28, own_shl32, own_shl40, own_shl48, own_shl52, own_shl56, own_ush0, own_ush4, own_ush8, own_ush12, own_ush16, own_ush20, own_ush24, own_ush28, own_ush32, own_ush36, own_ush40, own_ush44, own_ush48, own_G0, own_G1, own_G2, own_G3, own_G4, own_G5, own_G6, own_G7, own_G8, own_G9, own_G10, own_G11, own_G12, own_G13, own_G14, own_G15, own_G16, own_G17, own_G18, own_G19, own_G20, own_G21, own_G22, own_G23, own_G24, own_G25, own_G26, own_G27, own_G28, own_G29, own_G30, own_G31, Sh.bt_big, Nat.reduceLT, Nat.reduceAdd, Nat.reduceSub, Nat.reduceLeDiff, decide_true, decide_false, Bool.and_true, Bool.true_and, Bool.and_false, Bool.false_and, Bool.or_false, Bool.false_or, Bool.not_true, Bool.not_false, Nat.zero_add, Nat.sub_zero, Nat.lt_irrefl, Nat.not_lt_zero]
  | 29, _ => simp only [Sh.bt_or, Sh.bt_zero, own_mask, own_mask4, own_shl4, own_shl8, own_shl16, own_shl24, own_shl28, own_shl32, own_shl40, own_shl48, own_shl52, own_shl56, own_ush0, own_ush4, own_ush8, own_ush12, own_ush16, own_ush20, own_ush24, own_ush28, own_ush32, own_ush36, own_ush40, own_ush44, own_ush48, own_G0, own_G1, own_G2, own_G3, own_G4, own_G5, own_G6, own_G7, own_G8, own_G9, own_G10, own_G11, own_G12, own_G13, own_G14, own_G15, own_G16, own_G17, own_G18, own_G19, own_G20, own_G21, own_G22, own_G23, own_G24, own_G25, own_G26, own_G27, own_G28, own_G29, own_G30, own_G31, Sh.bt_big, Nat.reduceLT, Nat.reduceAdd, Nat.reduceSub, Nat.reduceLeDiff, decide_true, decide_false, Bool.and_true, Bool.true_and, Bool.and_false, Bool.false_and, Bool.or_false, Bool.false_or, Bool.not_true, Bool.not_false, Nat.zero_add, Nat.sub_zero, Nat.lt_irrefl, Nat.not_lt_zero]
  | 30, _ => simp only [Sh.bt_or, Sh.bt_zero, own_mask, own_mask4, own_shl4, own_shl8, own_shl16, own_shl24, own_shl28, own_shl32, own_shl40, own_shl48, own_shl52, own_shl56, own_ush0, own_ush4, own_ush8, own_ush12, own_ush16, own_ush20, own_ush24, own_ush28, own_ush32, own_ush36, own_ush40, own_ush44, own_ush48, own_G0, own_G1, own_G2, own_G3, own_G4, own_G5, own_G6, own_G7, own_G8, own_G9, own_G10, own_G11, own_G12, own_G13, own_G14, own_G15, own_G16, own_G17, own_G18, own_G19, own_G20, own_G21, own_G22, own_G23, own_G24, own_G25, own_G26, own_G27, own_G28, own_G29, own_G30, own_G31, Sh.bt_big, Nat.reduceLT, Nat.reduceAdd, Nat.reduceSub, Nat.reduceLeDiff, decide_true, decide_false, Bool.and_true, Bool.true_and, Bool.and_false, Bool.false_and, Bool.or_false, Bool.false_or, Bool.not_true, Bool.not_false, Nat.zero_add, Nat.sub_zero, Nat.lt_irrefl, Nat.not_lt_zero]
  | 31, _ => simp only [Sh.bt_or, Sh.bt_zero, own_mask, own_mask4, own_shl4, own_shl8, own_shl16, own_shl24, own_shl28, own_shl32, own_shl40, own_shl48, own_shl52, own_shl56, own_ush0, own_ush4, own_ush8, own_ush12, own_ush16, own_ush20, own_ush24, own_ush28, own_ush32, own_ush36, own_ush40, own_ush44, own_ush48, own_G0, own_G1, own_G2, own_G3, own_G4, own_G5, own_G6, own_G7, own_G8, own_G9, own_G10, own_G11, own_G12, own_G13, own_G14, own_G15, own_G16, own_G17, own_G18, own_G19, own_G20, own_G21, own_G22, own_G23, own_G24, own_G25, own_G26, own_G27, own_G28, own_G29, own_G30, own_G31, Sh.bt_big, Nat.reduceLT, Nat.reduceAdd, Nat.reduceSub, Nat.reduceLeDiff, decide_true, decide_false, Bool.and_true, Bool.true_and, Bool.and_false, Bool.false_and, Bool.or_false, Bool.false_or, Bool.not_true, Bool.not_false, Nat.zero_add, Nat.sub_zero, Nat.lt_irrefl, Nat.not_lt_zero]
  | 32, _ => simp only [Sh.bt_or, Sh.bt_zero, own_mask, own_mask4, own_shl4, own_shl8, own_shl16, own_shl24, own_shl28, own_shl32, own_shl40, own_shl48, own_shl52, own_shl56, own_ush0, own_ush4, own_ush8, own_ush12, own_ush16, own_ush20, own_ush24, own_ush28, own_ush32, own_ush36, own_ush40, own_ush44, own_ush48, own_G0, own_G1, own_G2, own_G3, own_G4, own_G5, own_G6, own_G7, own_G8, own_G9, own_G10, own_G11, own_G12, own_G13, own_G14, own_G15, own_G16, own_G17, own_G18, own_G19, own_G20, own_G21, own_G22, own_G23, own_G24, own_G25, own_G26, own_G27, own_G28, own_G29, own_G30, own_G31, Sh.bt_big, Nat.reduceLT, Nat.reduceAdd, Nat.reduceSub, Nat.reduceLeDiff, decide_true, decide_false, Bool.and_true, Bool.true_and, Bool.and_false, Bool.false_and, Bool.or_false, Bool.false_or, Bool.not_true, Bool.not_false, Nat.zero_add, Nat.sub_zero, Nat.lt_irrefl, Nat.not_lt_zero]
  | 33, _ => simp only [Sh.bt_or, Sh.bt_zero, own_mask, own_mask4, own_shl4, own_shl8, own_shl16, own_shl24, own_shl28, own_shl32, own_shl40, own_shl48, own_shl52, own_shl56, own_ush0, own_ush4, own_ush8, own_ush12, own_ush16, own_ush20, own_ush24, own_ush28, own_ush32, own_ush36, own_ush40, own_ush44, own_ush48, own_G0, own_G1, own_G2, own_G3, own_G4, own_G5, own_G6, own_G7, own_G8, own_G9, own_G10, own_G11, own_G12, own_G13, own_G14, own_G15, own_G16, own_G17, own_G18, own_G19, own_G20, own_G21, own_G22, own_G23, own_G24, own_G25, own_G26, own_G27, own_G28, own_G29, own_G30, own_G31, Sh.bt_big, Nat.reduceLT, Nat.reduceAdd, Nat.reduceSub, Nat.reduceLeDiff, decide_true, decide_false, Bool.and_true, Bool.true_and, Bool.and_false, Bool.false_and, Bool.or_false, Bool.false_or, Bool.not_true, Bool.not_false, Nat.zero_add, Nat.sub_zero, Nat.lt_irrefl, Nat.not_lt_zero]
  | 34, _ => simp only [Sh.bt_or, Sh.bt_zero, own_mask, own_mask4, own_shl4, own_shl8, own_shl16, own_shl24, own_shl28, own_shl32, own_shl40, own_shl48, own_shl52, own_shl56, own_ush0, own_ush4, own_ush8, own_ush12, own_ush16, own_ush20, own_ush24, own_ush28, own_ush32, own_ush36, own_ush40, own_ush44, own_ush48, own_G0, own_G1, own_G2, own_G3, own_G4, own_G5, own_G6, own_G7, own_G8, own_G9, own_G10, own_G11, own_G12, own_G13, own_G14, own_G15, own_G16, own_G17, own_G18, own_G19, own_G20, own_G21, own_G22, own_G23, own_G24, own_G25, own_G26, own_G27, own_G28, own_G29, own_G30, own_G31, Sh.bt_big, Nat.reduceLT, Nat.reduceAdd, Nat.reduceSub, Nat.reduceLeDiff, decide_true, decide_false, Bool.and_true, Bool.true_and, Bool.and_false, Bool.false_and, Bool.or_false, Bool.false_or, Bool.not_true, Bool.not_false, Nat.zero_add, Nat.sub_zero, Nat.lt_irrefl, Nat.not_lt_zero]
  | 35, _ => simp only [Sh.bt_or, Sh.bt_zero, own_mask, own_mask4, own_shl4, own_shl8, own_shl16, own_shl24, own_shl28, own_shl32, own_shl40, own_shl48, own_shl52, own_shl56, own_ush0, own_ush4, own_ush8, own_ush12, own_ush16, own_ush20, own_ush24, own_ush28, own_ush32, own_ush36, own_ush40, own_ush44, own_ush48, own_G0, own_G1, own_G2, own_G3, own_G4, own_G5, own_G6, own_G7, own_G8, own_G9, own_G10, own_G11, own_G12, own_G13, own_G14, own_G15, own_G16, own_G17, own_G18, own_G19, own_G20, own_G21, own_G22, own_G23, own_G24, own_G25, own_G26, own_G27, own_G28, own_G29, own_G30, own_G31, Sh.bt_big, Nat.reduceLT, Nat.reduceAdd, Nat.reduceSub, Nat.reduceLeDiff, decide_true, decide_false, Bool.and_true, Bool.true_and, Bool.and_false, Bool.false_and, Bool.or_false, Bool.false_or, Bool.not_true, Bool.not_false, Nat.zero_add, Nat.sub_zero, Nat.lt_irrefl, Nat.not_lt_zero]
  | 36, _ => simp only [Sh.bt_or, Sh.bt_zero, own_mask, own_mask4, own_shl4, own_shl8, own_shl16, own_shl24, own_shl28, own_shl32, own_shl40, own_shl48, own_shl52, own_shl56, own_ush0, own_ush4, own_ush8, own_ush12, own_ush16, own_ush20, own_ush24, own_ush28, own_ush32, own_ush36, own_ush40, own_ush44, own_ush48, own_G0, own_G1, own_G2, own_G3, own_G4, own_G5, own_G6, own_G7, own_G8, own_G9, own_G10, own_G11, own_G12, own_G13, own_G14, own_G15, own_G16, own_G17, own_G18, own_G19, own_G20, own_G21, own_G22, own_G23, own_G24, own_G25, own_G26, own_G27, own_G28, own_G29, own_G30, own_G31, Sh.bt_big, Nat.reduceLT, Nat.reduceAdd, Nat.reduceSub, Nat.reduceLeDiff, decide_true, decide_false, Bool.and_true, Bool.true_and, Bool.and_false, Bool.false_and, Bool.or_false, Bool.false_or, Bool.not_true, Bool.not_false, Nat.zero_add, Nat.sub_zero, Nat.lt_irrefl, Nat.not_lt_zero]
  | 37, _ => simp only [Sh.bt_or, Sh.bt_zero, own_mask, own_mask4, own_shl4, own_shl8, own_shl16, own_shl24, own_shl28, own_shl32, own_shl40, own_shl48, own_shl52, own_shl56, own_ush0, own_ush4, own_ush8, own_ush12, own_ush16, own_ush20, own_ush24, own_ush28, own_ush32, own_ush36, own_ush40, own_ush44, own_ush48, own_G0, own_G1, own_G2, own_G3, own_G4, own_G5, own_G6, own_G7, own_G8, own_G9, own_G10, own_G11, own_G12, own_G13, own_G14, own_G15, own_G16, own_G17, own_G18, own_G19, own_G20, own_G21, own_G22, own_G23, own_G24, own_G25, own_G26, own_G27, own_G28, own_G29, own_G30, own_G31, Sh.bt_big, Nat.reduceLT, Nat.reduceAdd, Nat.reduceSub, Nat.reduceLeDiff, decide_true, decide_false, Bool.and_true, Bool.true_and, Bool.and_false, Bool.false_and, Bool.or_false, Bool.false_or, Bool.not_true, Bool.not_false, Nat.zero_add, Nat.sub_zero, Nat.lt_irrefl, Nat.not_lt_zero]
  | 38, _ => simp only [Sh.bt_or, Sh.bt_zero, own_mask, own_mask4, own_shl4, own_shl8, own_shl16, own_shl24, own_shl28, own_shl32, own_shl40, own_shl48, own_shl52, own_shl56, own_ush0, own_ush4, own_ush8, own_ush12, own_ush16, own_ush20, own_ush24, own_ush28, own_ush32, own_ush36, own_ush40, own_ush44, own_ush48, own_G0, own_G1, own_G2, own_G3, own_G4, own_G5, own_G6, own_G7, own_G8, own_G9, own_G10, own_G11, own_G12, own_G13, own_G14, own_G15, own_G16, own_G17, own_G18, own_G19, own_G20, own_G21, own_G22, own_G23, own_G24, own_G25, own_G26, own_G27, own_G28, own_G29, own_G30, own_G31, Sh.bt_big, Nat.reduceLT, Nat.reduceAdd, Nat.reduceSub, Nat.reduceLeDiff, decide_true, decide_false, Bool.and_true, Bool.true_and, Bool.and_false, Bool.false_and, Bool.or_false, Bool.false_or, Bool.not_true, Bool.not_false, Nat.zero_add, Nat.sub_zero, Nat.lt_irrefl, Nat.not_lt_zero]
  | 39, _ => simp only [Sh.bt_or, Sh.bt_zero, own_mask, own_mask4, own_shl4, own_shl8, own_shl16, own_shl24, own_shl28, own_shl32, own_shl40, own_shl48, own_shl52, own_shl56, own_ush0, own_ush4, own_ush8, own_ush12, own_ush16, own_ush20, own_ush24, own_ush28, own_ush32, own_ush36, own_ush40, own_ush44, own_ush48, own_G0, own_G1, own_G2, own_G3, own_G4, own_G5, own_G6, own_G7, own_G8, own_G9, own_G10, own_G11, own_G12, own_G13, own_G14, own_G15, own_G16, own_G17, own_G18, own_G19, own_G20, own_G21, own_G22, own_G23, own_G24, own_G25, own_G26, own_G27, own_G28, own_G29, own_G30, own_G31, Sh.bt_big, Nat.reduceLT, Nat.reduceAdd, Nat.reduceSub, Nat.reduceLeDiff, decide_true, decide_false, Bool.and_true, Bool.true_and, Bool.and_false, Bool.false_and, Bool.or_false, Bool.false_or, Bool.not_true, Bool.not_false, Nat.zero_add, Nat.sub_zero, Nat.lt_irrefl, Nat.not_lt_zero]
  | 40, _ => simp only [Sh.bt_or, Sh.bt_zero, own_mask, own_mask4, own_shl4, own_shl8, own_shl16, own_shl24, own_shl28, own_shl32, own_shl40, own_shl48, own_shl52, own_shl56, own_ush0, own_ush4, own_ush8, own_ush12, own_ush16, own_ush20, own_ush24, own_ush28, own_ush32, own_ush36, own_ush40, own_ush44, own_ush48, own_G0, own_G1, own_G2, own_G3, own_G4, own_G5, own_G6, own_G7, own_G8, own_G9, own_G10, own_G11, own_G12, own_G13, own_G14, own_G15, own_G16, own_G17, own_G18, own_G19, own_G20, own_G21, own_G22, own_G23, own_G24, own_G25, own_G26, own_G27, own_G28, own_G29, own_G30, own_G31, Sh.bt_big, Nat.reduceLT, Nat.reduceAdd, Nat.reduceSub, Nat.reduceLeDiff, decide_true, decide_false, Bool.and_true, Bool.true_and, Bool.and_false, Bool.false_and, Bool.or_false, Bool.false_or, Bool.not_true, Bool.not_false, Nat.zero_add, Nat.sub_zero, Nat.lt_irrefl, Nat.not_lt_zero]
  | 41, _ => simp only [Sh.bt_or, Sh.bt_zero, own_mask, own_mask4, own_shl4, own_shl8, own_shl16, own_shl24, own_shl28, own_shl32, own_shl40, own_shl48, own_shl52, own_shl56, own_ush0, own_ush4, own_ush8, own_ush12, own_ush16, own_ush20, own_ush24, own_ush28, own_ush32, own_ush36, own_ush40, own_ush44, own_ush48, own_G0, own_G1, own_G2, own_G3, own_G4, own_G5, own_G6, own_G7, own_G8, own_G9, own_G10, own_G11, own_G12, own_G13, own_G14, own_G15, own_G16, own_G17, own_G18, own_G19, own_G20, own_G21, own_G22, own_G23, own_G24, own_G25, own_G26, own_G27, own_G28, own_G29, own_G30, own_G31, Sh.bt_big, Nat.reduceLT, Nat.reduceAdd, Nat.reduceSub, Nat.reduceLeDiff, decide_true, decide_false, Bool.and_true, Bool.true_and, Bool.and_false, Bool.false_and, Bool.or_false, Bool.false_or, Bool.not_true, Bool.not_false, Nat.zero_add, Nat.sub_zero, Nat.lt_irrefl, Nat.not_lt_zero]
  | 42, _ => simp only [Sh.bt_or, Sh.bt_zero, own_mask, own_mask4, own_shl4, own_shl8, own_shl16, own_shl24, own_shl28, own_shl32, own_shl40, own_shl48, own_shl52, own_shl56, own_ush0, own_ush4, own_ush8, own_ush12, own_ush16, own_ush20, own_ush24, own_ush28, own_ush32, own_ush36, own_ush40, own_ush44, own_ush48, own_G0, own_G1, own_G2, own_G3, own_G4, own_G5, own_G6, own_G7, own_G8, own_G9, own_G10, own_G11, own_G12, own_G13, own_G14, own_G15, own_G16, own_G17, own_G18, own_G19, own_G20, own_G21, own_G22, own_G23, own_G24, own_G25, own_G26, own_G27, own_G28, own_G29, own_G30, own_G31, Sh.bt_big, Nat.reduceLT, Nat.reduceAdd, Nat.reduceSub, Nat.reduceLeDiff, decide_true, decide_false, Bool.and_true, Bool.true_and, Bool.and_false, Bool.false_and, Bool.or_false, Bool.false_or, Bool.not_true, Bool.not_false, Nat.zero_add, Nat.sub_zero, Nat.lt_irrefl, Nat.not_lt_zero]
  | 43, _ => simp only [Sh.bt_or, Sh.bt_zero, own_mask, own_mask4, own_shl4, own_shl8, own_shl16, own_shl24, own_shl28, own_shl32, own_shl40, own_shl48, own_shl52, own_shl56, own_ush0, own_ush4, own_ush8, own_ush12, own_ush16, own_ush20, own_ush24, own_ush28, own_ush32, own_ush36, own_ush40, own_ush44, own_ush48, own_G0, own_G1, own_G2, own_G3, own_G4, own_G5, own_G6, own_G7, own_G8, own_G9, own_G10, own_G11, own_G12, own_G13, own_G14, own_G15, own_G16, own_G17, own_G18, own_G19, own_G20, own_G21, own_G22, own_G23, own_G24, own_G25, own_G26, own_G27, own_G28, own_G29, own_G30, own_G31, Sh.bt_big, Nat.reduceLT, Nat.reduceAdd, Nat.reduceSub, Nat.reduceLeDiff, decide_true, decide_false, Bool.and_true, Bool.true_and, Bool.and_false, Bool.false_and, Bool.or_false, Bool.false_or, Bool.not_true, Bool.not_false, Nat.zero_add, Nat.sub_zero, Nat.lt_irrefl, Nat.not_lt_zero]
  | 44, _ => simp only [Sh.bt_or, Sh.bt_zero, own_mask, own_mask4, own_shl4, own_shl8, own_shl16, own_shl24, own_shl28, own_shl32, own_shl40, own_shl48, own_shl52, own_shl56, own_ush0, own_ush4, own_ush8, own_ush12, own_ush16, own_ush20, own_ush24, own_ush28, own_ush32, own_ush36, own_ush40, own_ush44, own_ush48, own_G0, own_G1, own_G2, own_G3, own_G4, own_G5, own_G6, own_G7, own_G8, own_G9, own_G10, own_G11, own_G12, own_G13, own_G14, own_G15, own_G16, own_G17, own_G18, own_G19, own_G20, own_G21, own_G22, own_G23, own_G24, own_G25, own_G26, own_G27, own_G28, own_G29, own_G30, own_G31, Sh.bt_big, Nat.reduceLT, Nat.reduceAdd, Nat.reduceSub, Nat.reduceLeDiff, decide_true, decide_false, Bool.and_true, Bool.true_and, Bool.and_false, Bool.false_and, Bool.or_false, Bool.false_or, Bool.not_true, Bool.not_false, Nat.zero_add, Nat.sub_zero, Nat.lt_irrefl, Nat.not_lt_zero]
  | 45, _ => simp only [Sh.bt_or, Sh.bt_zero, own_mask, own_mask4, own_shl4, own_shl8, own_shl16, own_shl24, own_shl28, own_shl32, own_shl40, own_shl48, own_shl52, own_shl56, own_ush0, own_ush4, own_ush8, own_ush12, own_ush16, own_ush20, own_ush24, own_ush28, own_ush32, own_ush36, own_ush40, own_ush44, own_ush48, own_G0, own_G1, own_G2, own_G3, own_G4, own_G5, own_G6, own_G7, own_G8, own_G9, own_G10, own_G11, own_G12, own_G13, own_G14, own_G15, own_G16, own_G17, own_G18, own_G19, own_G20, own_G21, own_G22, own_G23, own_G24, own_G25, own_G26, own_G27, own_G28, own_G29, own_G30, own_G31, Sh.bt_big, Nat.reduceLT, Nat.reduceAdd, Nat.reduceSub, Nat.reduceLeDiff, decide_true, decide_false, Bool.and_true, Bool.true_and, Bool.and_false, Bool.false_and, Bool.or_false, Bool.false_or, Bool.not_true, Bool.not_false, Nat.zero_add, Nat.sub_zero, Nat.lt_irrefl, Nat.not_lt_zero]
  | 46, _ => simp only [Sh.bt_or, Sh.bt_zero, own_mask, own_mask4, own_shl4, own_shl8, own_shl16, own_shl24, own_shl28, own_shl32, own_shl40, own_shl48, own_shl52, own_shl56, own_ush0, own_ush4, own_ush8, own_ush12, own_ush16, own_ush20, own_ush24, own_ush28, own_ush32, own_ush36, own_ush40, own_ush44, own_ush48, own_G0, own_G1, own_G2, own_G3, own_G4, own_G5, own_G6, own_G7, own_G8, own_G9, own_G10, own_G11, own_G12, own_G13, own_G14, own_G15, own_G16, own_G17, own_G18, own_G19, own_G20, own_G21, own_G22, own_G23, own_G24, own_G25, own_G26, own_G27, own_G28, own_G29, own_G30, own_G31, Sh.bt_big, Nat.reduceLT, Nat.reduceAdd, Nat.reduceSub, Nat.reduceLeDiff, decide_true, decide_false, Bool.and_true, Bool.true_and, Bool.and_false, Bool.false_and, Bool.or_false, Bool.false_or, Bool.not_true, Bool.not_false, Nat.zero_add, Nat.sub_zero, Nat.lt_irrefl, Nat.not_lt_zero]
  | 47, _ => simp only [Sh.bt_or, Sh.bt_zero, own_mask, own_mask4, own_shl4, own_shl8, own_shl16, own_shl24, own_shl28, own_shl32, own_shl40, own_shl48, own_shl52, own_shl56, own_ush0, own_ush4, own_ush8, own_ush12, own_ush16, own_ush20, own_ush24, own_ush28, own_ush32, own_ush36, own_ush40, own_ush44, own_ush48, own_G0, own_G1, own_G2, own_G3, own_G4, own_G5, own_G6, own_G7, own_G8, own_G9, own_G10, own_G11, own_G12, own_G13, own_G14, own_G15, own_G16, own_G17, own_G18, own_G19, own_G20, own_G21, own_G22, own_G23, own_G24, own_G25, own_G26, own_G27, own_G28, own_G29, own_G30, own_G31, Sh.bt_big, Nat.reduceLT, Nat.reduceAdd, Nat.reduceSub, Nat.reduceLeDiff, decide_true, decide_false, Bool.and_true, Bool.true_and, Bool.and_false, Bool.false_and, Bool.or_false, Bool.false_or, Bool.not_true, Bool.not_false, Nat.zero_add, Nat.sub_zero, Nat.lt_irrefl, Nat.not_lt_zero]
  | 48, _ => simp only [Sh.bt_or, Sh.bt_zero, own_mask, own_mask4, own_shl4, own_shl8, own_shl16, own_shl24, own_shl28, own_shl32, own_shl40, own_shl48, own_shl52, own_shl56, own_ush0, own_ush4, own_ush8, own_ush12, own_ush16, own_ush20, own_ush24, own_ush28, own_ush32, own_ush36, own_ush40, own_ush44, own_ush48, own_G0, own_G1, own_G2, own_G3, own_G4, own_G5, own_G6, own_G7, own_G8, own_G9, own_G10, own_G11, own_G12, own_G13, own_G14, own_G15, own_G16, own_G17, own_G18, own_G19, own_G20, own_G21, own_G22, own_G23, own_G24, own_G25, own_G26, own_G27, own_G28, own_G29, own_G30, own_G31, Sh.bt_big, Nat.reduceLT, Nat.reduceAdd, Nat.reduceSub, Nat.reduceLeDiff, decide_true, decide_false, Bool.and_true, Bool.true_and, Bool.and_false, Bool.false_and, Bool.or_false, Bool.false_or, Bool.not_true, Bool.not_false, Nat.zero_add, Nat.sub_zero, Nat.lt_irrefl, Nat.not_lt_zero]
  | 49, _ => simp only [Sh.bt_or, Sh.bt_zero, own_mask, own_mask4, own_shl4, own_shl8, own_shl16, own_shl24, own_shl28, own_shl32, own_shl40, own_shl48, own_shl52, own_shl56, own_ush0, own_ush4, own_ush8, own_ush12, own_ush16, own_ush20, own_ush24, own_ush28, own_ush32, own_ush36, own_ush40, own_ush44, own_ush48, own_G0, own_G1, own_G2, own_G3, own_G4, own_G5, own_G6, own_G7, own_G8, own_G9, own_G10, own_G11, own_G12, own_G13, own_G14, own_G15, own_G16, own_G17, own_G18, own_G19, own_G20, own_G21, own_G22, own_G23, own_G24, own_G25, own_G26, own_G27, own_G28, own_G29, own_G30, own_G31, Sh.bt_big, Nat.reduceLT, Nat.reduceAdd, Nat.reduceSub, Nat.reduceLeDiff, decide_true, decide_false, Bool.and_true, Bool.true_and, Bool.and_false, Bool.false_and, Bool.or_false, Bool.false_or, Bool.not_true, Bool.not_false, Nat.zero_add, Nat.sub_zero, Nat.lt_irrefl, Nat.not_lt_zero]
  | 50, _ => simp only [Sh.bt_or, Sh.bt_zero, own_mask, own_mask4, own_shl4, own_shl8, own_shl16, own_shl24, own_shl28, own_shl32, own_shl40, own_shl48, own_shl52, own_shl56, own_ush0, own_ush4, own_ush8, own_ush12, own_ush16, own_ush20, own_ush24, own_ush28, own_ush32, own_ush36, own_ush40, own_ush44, own_ush48, own_G0, own_G1, own_G2, own_G3, own_G4, own_G5, own_G6, own_G7, own_G8, own_G9, own_G10, own_G11, own_G12, own_G13, own_G14, own_G15, own_G16, own_G17, own_G18, own_G19, own_G20, own_G21, own_G22, own_G23, own_G24, own_G25, own_G26, own_G27, own_G28, own_G29, own_G30, own_G31, Sh.bt_big, Nat.reduceLT, Nat.reduceAdd, Nat.reduceSub, Nat.reduceLeDiff, decide_true, decide_false, Bool.and_true, Bool.true_and, Bool.and_false, Bool.false_and, Bool.or_false, Bool.false_or, Bool.not_true, Bool.not_false, Nat.zero_add, Nat.sub_zero, Nat.lt_irrefl, Nat.not_lt_zero]
  | 51, _ => simp only [Sh.bt_or, Sh.bt_zero, own_mask, own_mask4, own_shl4, own_shl8, own_shl16, own_shl24, own_shl28, own_shl32, own_shl40, own_shl48, own_shl52, own_shl56, own_ush0, own_ush4, own_ush8, own_ush12, own_ush16, own_ush20, own_ush24, own_ush28, own_ush32, own_ush36, own_ush40, own_ush44, own_ush48, own_G0, own_G1, own_G2, own_G3, own_G4, own_G5, own_G6, own_G7, own_G8, own_G9, own_G10, own_G11, own_G12, own_G13, own_G14, own_G15, own_G16, own_G17, own_G18, own_G19, own_G20, own_G21, own_G22, own_G23, own_G24, own_G25, own_G26, own_G27, own_G28, own_G29, own_G30, own_G31, Sh.bt_big, Nat.reduceLT, Nat.reduceAdd, Nat.reduceSub, Nat.reduceLeDiff, decide_true, decide_false, Bool.and_true, Bool.true_and, Bool.and_false, Bool.false_and, Bool.or_false, Bool.false_or, Bool.not_true, Bool.not_false, Nat.zero_add, Nat.sub_zero, Nat.lt_irrefl, Nat.not_lt_zero]
  | 52, _ => simp only [Sh.bt_or, Sh.bt_zero, own_mask, own_mask4, own_shl4, own_shl8, own_shl16, own_shl24, own_shl28, own_shl32, own_shl40, own_shl48, own_shl52, own_shl56, own_ush0, own_ush4, own_ush8, own_ush12, own_ush16, own_ush20, own_ush24, own_ush28, own_ush32, own_ush36, own_ush40, own_ush44, own_ush48, own_G0, own_G1, own_G2, own_G3, own_G4, own_G5, own_G6, own_G7, own_G8, own_G9, own_G10, own_G11, own_G12, own_G13, own_G14, own_G15, own_G16, own_G17, own_G18, own_G19, own_G20, own_G21, own_G22, own_G23, own_G24, own_G25, own_G26, own_G27, own_G28, own_G29, own_G30, own_G31, Sh.bt_big, Nat.reduceLT, Nat.reduceAdd, Nat.reduceSub, Nat.reduceLeDiff, decide_true, decide_false, Bool.and_true, Bool.true_and, Bool.and_false, Bool.false_and, Bool.or_false, Bool.false_or, Bool.not_true, Bool.not_false, Nat.zero_add, Nat.sub_zero, Nat.lt_irrefl, Nat.not_lt_zero]
  | 53, _ => simp only [Sh.bt_or, Sh.bt_zero, own_mask, own_mask4, own_shl4, own_shl8, own_shl16, own_shl24, own_shl28, own_shl32, own_shl40, own_shl48, own_shl52, own_shl56, own_ush0, own_ush4, own_ush8, own_ush12, own_ush16, own_ush20, own_ush24, own_ush28, own_ush32, own_ush36, own_ush40, own_ush44, own_ush48, own_G0, own_G1, own_G2, own_G3, own_G4, own_G5, own_G6, own_G7, own_G8, own_G9, own_G10, own_G11, own_G12, own_G13, own_G14, own_G15, own_G16, own_G17, own_G18, own_G19, own_G20, own_G21, own_G22, own_G23, own_G24, own_G25, own_G26, own_G27, own_G28, own_G29, own_G30, own_G31, Sh.bt_big, Nat.reduceLT, Nat.reduceAdd, Nat.reduceSub, Nat.reduceLeDiff, decide_true, decide_false, Bool.and_true, Bool.true_and, Bool.and_false, Bool.false_and, Bool.or_false, Bool.false_or, Bool.not_true, Bool.not_false, Nat.zero_add, Nat.sub_zero, Nat.lt_irrefl, Nat.not_lt_zero]
  | 54, _ => simp only [Sh.bt_or, Sh.bt_zero, own_mask, own_mask4, own_shl4, own_shl8, own_shl16, own_shl24, own_shl28, own_shl32, own_shl40, own_shl48, own_shl52, own_shl56, own_ush0, own_ush4, own_ush8, own_ush12, own_ush16, own_ush20, own_ush24, own_ush28, own_ush32, own_ush36, own_ush40, own_ush44, own_ush48, own_G0, own_G1, own_G2, own_G3, own_G4, own_G5, own_G6, own_G7, own_G8, own_G9, own_G10, own_G11, own_G12, own_G13, own_G14, own_G15, own_G16, own_G17, own_G18, own_G19, own_G20, own_G21, own_G22, own_G23, own_G24, own_G25, own_G26, own_G27, own_G28, own_G29, own_G30, own_G31, Sh.bt_big, Nat.reduceLT, Nat.reduceAdd, Nat.reduceSub, Nat.reduceLeDiff, decide_true, decide_false, Bool.and_true, Bool.true_and, Bool.and_false, Bool.false_and, Bool.or_false, Bool.false_or, Bool.not_true, Bool.not_false, Nat.zero_add, Nat.sub_zero, Nat.lt_irrefl, Nat.not_lt_zero]
  | 55, _ => simp only [Sh.bt_or, Sh.bt_zero, own_mask, own_mask4, own_shl4, own_shl8, own_shl16, own_shl24, own_shl28, own_shl32, own_shl40, own_shl48, own_shl52, own_shl56, own_ush0, own_ush4, own_ush8, own_ush12, own_ush16, own_ush20, own_ush24, own_ush28, own_ush32, own_ush36, own_ush40, own_ush44, own_ush48, own_G0, own_G1, own_G2, own_G3, own_G4, own_G5, own_G6, own_G7, own_G8, own_G9, own_G10, own_G11, own_G12, own_G13, own_G14, own_G15, own_G16, own_G17, own_G18, own_G19, own_G20, own_G21, own_G22, own_G23, own_G24, own_G25, own_G26, own_G27, own_G28, own_G29, own_G30, own_G31, Sh.bt_big, Nat.reduceLT, Nat.reduceAdd, Nat.reduceSub, Nat.reduceLeDiff, decide_true, decide_false, Bool.and_true, Bool.true_and, Bool.and_false, Bool.false_and, Bool.or_false, Bool.false_or, Bool.not_true, Bool.not_false, Nat.zero_add, Nat.sub_zero, Nat.lt_irrefl, Nat.not_lt_zero]
  | 56, _ => simp only [Sh.bt_or, Sh.bt_zero, own_mask, own_mask4, own_shl4, own_shl8, own_shl16, own_shl24, own_shl28, own_shl32, own_shl40, own_shl48, own_shl52, own_shl56, own_ush0, own_ush4, own_ush8, own_ush12, own_ush16, own_ush20, own_ush24, own_ush28, own_ush32, own_ush36, own_ush40, own_ush44, own_ush48, own_G0, own_G1, own_G2, own_G3, own_G4, own_G5, own_G6, own_G7, own_G8, own_G9, own_G10, own_G11, own_G12, own_G13, own_G14, own_G15, own_G16, own_G17, own_G18, own_G19, own_G20, own_G21, own_G22, own_G23, own_G24, own_G25, own_G26, own_G27, own_G28, own_G29, own_G30, own_G31, Sh.bt_big, Nat.reduceLT, Nat.reduceAdd, Nat.reduceSub, Nat.reduceLeDiff, decide_true, decide_false, Bool.and_true, Bool.true_and, Bool.and_false, Bool.false_and, Bool.or_false, Bool.false_or, Bool.not_true, Bool.not_false, Nat.zero_add, Nat.sub_zero, Nat.lt_irrefl, Nat.not_lt_zero]
  | 57, _ => simp only [Sh.bt_or, Sh.bt_zero, own_mask, own_mask4, own_shl4, own_shl8, own_shl16, own_shl24, own_shl28, own_shl32, own_shl40, own_shl48, own_shl52, own_shl56, own_ush0, own_ush4, own_ush8, own_ush12, own_ush16, own_ush20, own_ush24, own_ush28, own_ush32, own_ush36, own_ush40, own_ush44, own_ush48, own_G0, own_G1, own_G2, own_G3, own_G4, own_G5, own_G6, own_G7, own_G8, own_G9, own_G10, own_G11, own_G12, own_G13, own_G14, own_G15, own_G16, own_G17, own_G18, own_G19, own_G20, own_G21, own_G22, own_G23, own_G24, own_G25, own_G26, own_G27, own_G28, own_G29, own_G30, own_G31, Sh.bt_big, Nat.reduceLT, Nat.reduceAdd, Nat.reduceSub, Nat.reduceLeDiff, decide_true, decide_false, Bool.and_true, Bool.true_and, Bool.and_false, Bool.false_and, Bool.or_false, Bool.false_or, Bool.not_true, Bool.not_false, Nat.zero_add, Nat.sub_zero, Nat.lt_irrefl, Nat.not_lt_zero]
  | 58, _ => simp only [Sh.bt_or, Sh.bt_zero, own_mask, own_mask4, own_shl4, own_shl8, own_shl16, own_shl24, own_shl28, own_shl32, own_shl40, own_shl48, own_shl52, own_shl56, own_ush0, own_ush4, own_ush8, own_ush12, own_ush16, own_ush20, own_ush24, own_ush28, own_ush32, own_ush36, own_ush40, own_ush44, own_ush48, own_G0, own_G1, own_G2, own_G3, own_G4, own_G5, own_G6, own_G7, own_G8, own_G9, own_G10, own_G11, own_G12, own_G13, own_G14, own_G15, own_G16, own_G17, own_G18, own_G19, own_G20, own_G21, own_G22, own_G23, own_G24, own_G25, own_G26, own_G27, own_G28, own_G29, own_G30, own_G31, Sh.bt_big, Nat.reduceLT, Nat.reduceAdd, Nat.reduceSub, Nat.reduceLeDiff, decide_true, decide_false, Bool.and_true, Bool.true_and, Bool.and_false, Bool.false_and, Bool.or_false, Bool.false_or, Bool.not_true, Bool.not_false, Nat.zero_add, Nat.sub_zero, Nat.lt_irrefl, Nat.not_lt_zero]
  | 59, _ => simp only [Sh.bt_or, Sh.bt_zero, own_mask, own_mask4, own_shl4, own_shl8, own_shl16, own_shl24, own_shl28, own_shl32, own_shl40, own_shl48, own_shl52, own_shl56, own_ush0, own_ush4, own_ush8, own_ush12, own_ush16, own_ush20, own_ush24, own_ush28, own_ush32, own_ush36, own_ush40, own_ush44, own_ush48, own_G0, own_G1, own_G2, own_G3, own_G4, own_G5, own_G6, own_G7, own_G8, own_G9, own_G10, own_G11, own_G12, own_G13, own_G14, own_G15, own_G16, own_G17, own_G18, own_G19, own_G20, own_G21, own_G22, own_G23, own_G24, own_G25, own_G26, own_G27, own_G28, own_G29, own_G30, own_G31, Sh.bt_big, Nat.reduceLT, Nat.reduceAdd, Nat.reduceSub, Nat.reduceLeDiff, decide_true, decide_false, Bool.and_true, Bool.true_and, Bool.and_false, Bool.false_and, Bool.or_false, Bool.false_or, Bool.not_true, Bool.not_false, Nat.zero_add, Nat.sub_zero, Nat.lt_irrefl, Nat.not_lt_zero]
  | 60, _ => simp only [Sh.bt_or, Sh.bt_zero, own_mask, own_mask4, own_shl4, own_shl8, own_shl16, own_shl24, own_shl28, own_shl32, own_shl40, own_shl48, own_shl52, own_shl56, own_ush0, own_ush4, own_ush8, own_ush12, own_ush16, own_ush20, own_ush24, own_ush28, own_ush32, own_ush36, own_ush40, own_ush44, own_ush48, own_G0, own_G1, own_G2, own_G3, own_G4, own_G5, own_G6, own_G7, own_G8, own_G9, own_G10, own_G11, own_G12, own_G13, own_G14, own_G15, own_G16, own_G17, own_G18, own_G19, own_G20, own_G21, own_G22, own_G23, own_G24, own_G25, own_G26, own_G27, own_G28, own_G29, own_G30, own_G31, Sh.bt_big, Nat.reduceLT, Nat.reduceAdd, Nat.reduceSub, Nat.reduceLeDiff, decide_true, decide_false, Bool.and_true, Bool.true_and, Bool.and_false, Bool.false_and, Bool.or_false, Bool.false_or, Bool.not_true, Bool.not_false, Nat.zero_add, Nat.sub_zero, Nat.lt_irrefl, Nat.not_lt_zero]
  | 61, _ => simp only [Sh.bt_or, Sh.bt_zero, own_mask, own_mask4, own_shl4, own_shl8, own_shl16, own_shl24, own_shl28, own_shl32, own_shl40, own_shl48, own_shl52, own_shl56, own_ush0, own_ush4, own_ush8, own_ush12, own_ush16, own_ush20, own_ush24, own_ush28, own_ush32, own_ush36, own_ush40, own_ush44, own_ush48, own_G0, own_G1, own_G2, own_G3, own_G4, own_G5, own_G6, own_G7, own_G8, own_G9, own_G10, own_G11, own_G12, own_G13, own_G14, own_G15, own_G16, own_G17, own_G18, own_G19, own_G20, own_G21, own_G22, own_G23, own_G24, own_G25, own_G26, own_G27, own_G28, own_G29, own_G30, own_G31, Sh.bt_big, Nat.reduceLT, Nat.reduceAdd, Nat.reduceSub, Nat.reduceLeDiff, decide_true, decide_false, Bool.and_true, Bool.true_and, Bool.and_false, Bool.false_and, Bool.or_false, Bool.false_or, Bool.not_true, Bool.not_false, Nat.zero_add, Nat.sub_zero, Nat.lt_irrefl, Nat.not_lt_zero]
  | 62, _ => simp only [Sh.bt_or, Sh.bt_zero, own_mask, own_mask4, own_shl4, own_shl8, own_shl16, own_shl24, own_shl28, own_shl32, own_shl40, own_shl48, own_shl52, own_shl56, own_ush0, own_ush4, own_ush8, own_ush12, own_ush16, own_ush20, own_ush24, own_ush28, own_ush32, own_ush36, own_ush40, own_ush44, own_ush48, own_G0, own_G1, own_G2, own_G3, own_G4, own_G5, own_G6, own_G7, own_G8, own_G9, own_G10, own_G11, own_G12, own_G13, own_G14, own_G15, own_G16, own_G17, own_G18, own_G19, own_G20, own_G21, own_G22, own_G23, own_G24, own_G25, own_G26, own_G27, own_G28, own_G29, own_G30, own_G31, Sh.bt_big, Nat.reduceLT, Nat.reduceAdd, Nat.reduceSub, Nat.reduceLeDiff, decide_true, decide_false, Bool.and_true, Bool.true_and, Bool.and_false, Bool.false_and, Bool.or_false, Bool.false_or, Bool.not_true, Bool.not_false, Nat.zero_add, Nat.sub_zero, Nat.lt_irrefl, Nat.not_lt_zero]
  | 63, _ => simp only [Sh.bt_or, Sh.bt_zero, own_mask, own_mask4, own_shl4, own_shl8, own_shl16, own_shl24, own_shl28, own_shl32, own_shl40, own_shl48, own_shl52, own_shl56, own_ush0, own_ush4, own_ush8, own_ush12, own_ush16, own_ush20, own_ush24, own_ush28, own_ush32, own_ush36, own_ush40, own_ush44, own_ush48, own_G0, own_G1, own_G2, own_G3, own_G4, own_G5, own_G6, own_G7, own_G8, own_G9, own_G10, own_G11, own_G12, own_G13, own_G14, own_G15, own_G16, own_G17, own_G18, own_G19, own_G20, own_G21, own_G22, own_G23, own_G24, own_G25, own_G26, own_G27, own_G28, own_G29, own_G30, own_G31, Sh.bt_big, Nat.reduceLT, Nat.reduceAdd, Nat.reduceSub, Nat.reduceLeDiff, decide_true, decide_false, Bool.and_true, Bool.true_and, Bool.and_false, Bool.false_and, Bool.or_false, Bool.false_or, Bool.not_true, Bool.not_false, Nat.zero_add, Nat.sub_zero, Nat.lt_irrefl, Nat.not_lt_zero]
  | n + 64, h => exact absurd h (by omega)
theorem own_e1 (a0 a1 a2 a3 a4 : Int64) : own_word (own_f (a0 &&& 4503599627370495) (a1 &&& 4503599627370495) (a2 &&& 4503599627370495) (a3 &&& 4503599627370495) (a4 &&& 281474976710655) 15) (own_f (a0 &&& 4503599627370495) (a1 &&& 4503599627370495) (a2 &&& 4503599627370495) (a3 &&& 4503599627370495) (a4 &&& 281474976710655) 14) (own_f (a0 &&& 4503599627370495) (a1 &&& 4503599627370495) (a2 &&& 4503599627370495) (a3 &&& 4503599627370495) (a4 &&& 281474976710655) 13) (own_f (a0 &&& 4503599627370495) (a1 &&& 4503599627370495) (a2 &&& 4503599627370495) (a3 &&& 4503599627370495) (a4 &&& 281474976710655) 12) (own_f (a0 &&& 4503599627370495) (a1 &&& 4503599627370495) (a2 &&& 4503599627370495) (a3 &&& 4503599627370495) (a4 &&& 281474976710655) 11) (own_f (a0 &&& 4503599627370495) (a1 &&& 4503599627370495) (a2 &&& 4503599627370495) (a3 &&& 4503599627370495) (a4 &&& 281474976710655) 10) (own_f (a0 &&& 4503599627370495) (a1 &&& 4503599627370495) (a2 &&& 4503599627370495) (a3 &&& 4503599627370495) (a4 &&& 281474976710655) 9) (own_f (a0 &&& 4503599627370495) (a1 &&& 4503599627370495) (a2 &&& 4503599627370495) (a3 &&& 4503599627370495) (a4 &&& 281474976710655) 8) = ((XT.ushrL (a1 &&& 4503599627370495) 12) ||| ((a2 &&& 4503599627370495) <<< ((40 : Int32).toInt64 &&& 63))) := by
  refine Sh.bt_ext fun i hi => ?_
  rw [own_word]
  match i, hi with
  | 0, _ => simp only [Sh.bt_or, Sh.bt_zero, own_mask, own_mask4, own_shl4, own_shl8, own_shl16, own_shl24, own_shl28, own_shl32, own_shl40, own_shl48, own_shl52, own_shl56, own_ush0, own_ush4, own_ush8, own_ush12, own_ush16, own_ush20, own_ush24, own_ush28, own_ush32, own_ush36, own_ush40, own_ush44, own_ush48, own_G0, own_G1, own_G2, own_G3, own_G4, own_G5, own_G6, own_G7, own_G8, own_G9, own_G10, own_G11, own_G12, own_G13, own_G14, own_G15, own_G16, own_G17, own_G18, own_G19, own_G20, own_G21, own_G22, own_G23, own_G24, own_G25, own_G26, own_G27, own_G28, own_G29, own_G30, own_G31, Sh.bt_big, Nat.reduceLT, Nat.reduceAdd, Nat.reduceSub, Nat.reduceLeDiff, decide_true, decide_false, Bool.and_true, Bool.true_and, Bool.and_false, Bool.false_and, Bool.or_false, Bool.false_or, Bool.not_true, Bool.not_false, Nat.zero_add, Nat.sub_zero, Nat.lt_irrefl, Nat.not_lt_zero]
  | 1, _ => simp only [Sh.bt_or, Sh.bt_zero, own_mask, own_mask4, own_shl4, own_shl8, own_shl16, own_shl24, own_shl28, own_shl32, own_shl40, own_shl48, own_shl52, own_shl56, own_ush0, own_ush4, own_ush8, own_ush12, own_ush16, own_ush20, own_ush24, own_ush28, own_ush32, own_ush36, own_ush40, own_ush44, own_ush48, own_G0, own_G1, own_G2, own_G3, own_G4, own_G5, own_G6, own_G7, own_G8, own_G9, own_G10, own_G11, own_G12, own_G13, own_G14, own_G15, own_G16, own_G17, own_G18, own_G19, own_G20, own_G21, own_G22, own_G23, own_G24, own_G25, own_G26, own_G27, own_G28, own_G29, own_G30, own_G31, Sh.bt_big, Nat.reduceLT, Nat.reduceAdd, Nat.reduceSub, Nat.reduceLeDiff, decide_true, decide_false, Bool.and_true, Bool.true_and, Bool.and_false, Bool.false_and, Bool.or_false, Bool.false_or, Bool.not_true, Bool.not_false, Nat.zero_add, Nat.sub_zero, Nat.lt_irrefl, Nat.not_lt_zero]
  | 2, _ => simp only [Sh.bt_or, Sh.bt_zero, own_mask, own_mask4, own_shl4, own_shl8, own_shl16, own_shl24, own_shl28, own_shl32, own_shl40, own_shl48, own_shl52, own_shl56, own_ush0, own_ush4, own_ush8, own_ush12, own_ush16, own_ush20, own_ush24, own_ush28, own_ush32, own_ush36, own_ush40, own_ush44, own_ush48, own_G0, own_G1, own_G2, own_G3, own_G4, own_G5, own_G6, own_G7, own_G8, own_G9, own_G10, own_G11, own_G12, own_G13, own_G14, own_G15, own_G16, own_G17, own_G18, own_G19, own_G20, own_G21, own_G22, own_G23, own_G24, own_G25, own_G26, own_G27, own_G28, own_G29, own_G30, own_G31, Sh.bt_big, Nat.reduceLT, Nat.reduceAdd, Nat.reduceSub, Nat.reduceLeDiff, decide_true, decide_false, Bool.and_true, Bool.true_and, Bool.and_false, Bool.false_and, Bool.or_false, Bool.false_or, Bool.not_true, Bool.not_false, Nat.zero_add, Nat.sub_zero, Nat.lt_irrefl, Nat.not_lt_zero]
  | 3, _ => simp only [Sh.bt_or, Sh.bt_zero, own_mask, own_mask4, own_shl4, own_shl8, own_shl16, own_shl24, own_shl28, own_shl32, own_shl40, own_shl48, own_shl52, own_shl56, own_ush0, own_ush4, own_ush8, own_ush12, own_ush16, own_ush20, own_ush24, own_ush28, own_ush32, own_ush36, own_ush40, own_ush44, own_ush48, own_G0, own_G1, own_G2, own_G3, own_G4, own_G5, own_G6, own_G7, own_G8, own_G9, own_G10, own_G11, own_G12, own_G13, own_G14, own_G15, own_G16, own_G17, own_G18, own_G19, own_G20, own_G21, own_G22, own_G23, own_G24, own_G25, own_G26, own_G27, own_G28, own_G29, own_G30, own_G31, Sh.bt_big, Nat.reduceLT, Nat.reduceAdd, Nat.reduceSub, Nat.reduceLeDiff, decide_true, decide_false, Bool.and_true, Bool.true_and, Bool.and_false, Bool.false_and, Bool.or_false, Bool.false_or, Bool.not_true, Bool.not_false, Nat.zero_add, Nat.sub_zero, Nat.lt_irrefl, Nat.not_lt_zero]
  | 4, _ => simp only [Sh.bt_or, Sh.bt_zero, own_mask, own_mask4, own_shl4, own_shl8, own_shl16, own_shl24, own_shl28, own_shl32, own_shl40, own_shl48, own_shl52, own_shl56, own_ush0, own_ush4, own_ush8, own_ush12, own_ush16, own_ush20, own_ush24, own_ush28, own_ush32, own_ush36, own_ush40, own_ush44, own_ush48, own_G0, own_G1, own_G2, own_G3, own_G4, own_G5, own_G6, own_G7, own_G8, own_G9, own_G10, own_G11, own_G12, own_G13, own_G14, own_G15, own_G16, own_G17, own_G18, own_G19, own_G20, own_G21, own_G22, own_G23, own_G24, own_G25, own_G26, own_G27, own_G28, own_G29, own_G30, own_G31, Sh.bt_big, Nat.reduceLT, Nat.reduceAdd, Nat.reduceSub, Nat.reduceLeDiff, decide_true, decide_false, Bool.and_true, Bool.true_and, Bool.and_false, Bool.false_and, Bool.or_false, Bool.false_or, Bool.not_true, Bool.not_false, Nat.zero_add, Nat.sub_zero, Nat.lt_irrefl, Nat.not_lt_zero]
  | 5, _ => simp only [Sh.bt_or, Sh.bt_zero, own_mask, own_mask4, own_shl4, own_shl8, own_shl16, own_shl24, own_shl28, own_shl32, own_shl40, own_shl48, own_shl52, own_shl56, own_ush0, own_ush4, own_ush8, own_ush12, own_ush16, own_ush20, own_ush24, own_ush28, own_ush32, own_ush36, own_ush40, own_ush44, own_ush48, own_G0, own_G1, own_G2, own_G3, own_G4, own_G5, own_G6, own_G7, own_G8, own_G9, own_G10, own_G11, own_G12, own_G13, own_G14, own_G15, own_G16, own_G17, own_G18, own_G19, own_G20, own_G21, own_G22, own_G23, own_G24, own_G25, own_G26, own_G27, own_G28, own_G29, own_G30, own_G31, Sh.bt_big, Nat.reduceLT, Nat.reduceAdd, Nat.reduceSub, Nat.reduceLeDiff, decide_true, decide_false, Bool.and_true, Bool.true_and, Bool.and_false, Bool.false_and, Bool.or_false, Bool.false_or, Bool.not_true, Bool.not_false, Nat.zero_add, Nat.sub_zero, Nat.lt_irrefl, Nat.not_lt_zero]
  | 6, _ => simp only [Sh.bt_or, Sh.bt_zero, own_mask, own_mask4, own_shl4, own_shl8, own_shl16, own_shl24, own_shl28, own_shl32, own_shl40, own_shl48, own_shl52, own_shl56, own_ush0, own_ush4, own_ush8, own_ush12, own_ush16, own_ush20, own_ush24, own_ush28, own_ush32, own_ush36, own_ush40, own_ush44, own_ush48, own_G0, own_G1, own_G2, own_G3, own_G4, own_G5, own_G6, own_G7, own_G8, own_G9, own_G10, own_G11, own_G12, own_G13, own_G14, own_G15, own_G16, own_G17, own_G18, own_G19, own_G20, own_G21, own_G22, own_G23, own_G24, own_G25, own_G26, own_G27, own_G28, own_G29, own_G30, own_G31, Sh.bt_big, Nat.reduceLT, Nat.reduceAdd, Nat.reduceSub, Nat.reduceLeDiff, decide_true, decide_false, Bool.and_true, Bool.true_and, Bool.and_false, Bool.false_and, Bool.or_false, Bool.false_or, Bool.not_true, Bool.not_false, Nat.zero_add, Nat.sub_zero, Nat.lt_irrefl, Nat.not_lt_zero]
  | 7, _ => simp only [Sh.bt_or, Sh.bt_zero, own_mask, own_mask4, own_shl4, own_shl8, own_shl16, own_shl24, own_shl28, own_shl32, own_shl40, own_shl48, own_shl52, own_shl56, own_ush0, own_ush4, own_ush8, own_ush12, own_ush16, own_ush20, own_ush24, own_ush28, own_ush32, own_ush36, own_ush40, own_ush44, own_ush48, own_G0, own_G1, own_G2, own_G3, own_G4, own_G5, own_G6, own_G7, own_G8, own_G9, own_G10, own_G11, own_G12, own_G13, own_G14, own_G15, own_G16, own_G17, own_G18, own_G19, own_G20, own_G21, own_G22, own_G23, own_G24, own_G25, own_G26, own_G27, own_G28, own_G29, own_G30, own_G31, Sh.bt_big, Nat.reduceLT, Nat.reduceAdd, Nat.reduceSub, Nat.reduceLeDiff, decide_true, decide_false, Bool.and_true, Bool.true_and, Bool.and_false, Bool.false_and, Bool.or_false, Bool.false_or, Bool.not_true, Bool.not_false, Nat.zero_add, Nat.sub_zero, Nat.lt_irrefl, Nat.not_lt_zero]
  | 8, _ => simp only [Sh.bt_or, Sh.bt_zero, own_mask, own_mask4, own_shl4, own_shl8, own_shl16, own_shl24, own_shl28, own_shl32, own_shl40, own_shl48, own_shl52, own_shl56, own_ush0, own_ush4, own_ush8, own_ush12, own_ush16, own_ush20, own_ush24, own_ush28, own_ush32, own_ush36, own_ush40, own_ush44, own_ush48, own_G0, own_G1, own_G2, own_G3, own_G4, own_G5, own_G6, own_G7, own_G8, own_G9, own_G10, own_G11, own_G12, own_G13, own_G14, own_G15, own_G16, own_G17, own_G18, own_G19, own_G20, own_G21, own_G22, own_G23, own_G24, own_G25, own_G26, own_G27, own_G28, own_G29, own_G30, own_G31, Sh.bt_big, Nat.reduceLT, Nat.reduceAdd, Nat.reduceSub, Nat.reduceLeDiff, decide_true, decide_false, Bool.and_true, Bool.true_and, Bool.and_false, Bool.false_and, Bool.or_false, Bool.false_or, Bool.not_true, Bool.not_false, Nat.zero_add, Nat.sub_zero, Nat.lt_irrefl, Nat.not_lt_zero]
  | 9, _ => simp only [Sh.bt_or, Sh.bt_zero, own_mask, own_mask4, own_shl4, own_shl8, own_shl16, own_shl24, own_shl28, own_shl32, own_shl40, own_shl48, own_shl52, own_shl56, own_ush0, own_ush4, own_ush8, own_ush12, own_ush16, own_ush20, own_ush24, own_ush28, own_ush32, own_ush36, own_ush40, own_ush44, own_ush48, own_G0, own_G1, own_G2, own_G3, own_G4, own_G5, own_G6, own_G7, own_G8, own_G9, own_G10, own_G11, own_G12, own_G13, own_G14, own_G15, own_G16, own_G17, own_G18, own_G19, own_G20, own_G21, own_G22, own_G23, own_G24, own_G25, own_G26, own_G27, own_G28, own_G29, own_G30, own_G31, Sh.bt_big, Nat.reduceLT, Nat.reduceAdd, Nat.reduceSub, Nat.reduceLeDiff, decide_true, decide_false, Bool.and_true, Bool.true_and, Bool.and_false, Bool.false_and, Bool.or_false, Bool.false_or, Bool.not_true, Bool.not_false, Nat.zero_add, Nat.sub_zero, Nat.lt_irrefl, Nat.not_lt_zero]
  | 10, _ => simp only [Sh.bt_or, Sh.bt_zero, own_mask, own_mask4, own_shl4, own_shl8, own_shl16, own_shl24, own_shl28, own_shl32, own_shl40, own_shl48, own_shl52, own_shl56, own_ush0, own_ush4, own_ush8, own_ush12, own_ush16, own_ush20, own_ush24, own_ush28, own_ush32, own_ush36, own_ush40, own_ush44, own_ush48, own_G0, own_G1, own_G2, own_G3, own_G4, own_G5, own_G6, own_G7, own_G8, own_G9, own_G10, own_G11, own_G12, own_G13, own_G14, own_G15, own_G16, own_G17, own_G18, own_G19, own_G20, own_G21, own_G22, own_G23, own_G24, own_G25, own_G26, own_G27, own_G28, own_G29, own_G30, own_G31, Sh.bt_big, Nat.reduceLT, Nat.reduceAdd, Nat.reduceSub, Nat.reduceLeDiff, decide_true, decide_false, Bool.and_true, Bool.true_and, Bool.and_false, Bool.false_and, Bool.or_false, Bool.false_or, Bool.not_true, Bool.not_false, Nat.zero_add, Nat.sub_zero, Nat.lt_irrefl, Nat.not_lt_zero]
  | 11, _ => simp only [Sh.bt_or, Sh.bt_zero, own_mask, own_mask4, own_shl4, own_shl8, own_shl16, own_shl24, own_shl28, own_shl32, own_shl40, own_shl48, own_shl52, own_shl56, own_ush0, own_ush4, own_ush8, own_ush12, own_ush16, own_ush20, own_ush24, own_ush28, own_ush32, own_ush36, own_ush40, own_ush44, own_ush48, own_G0, own_G1, own_G2, own_G3, own_G4, own_G5, own_G6, own_G7, own_G8, own_G9, own_G10, own_G11, own_G12, own_G13, own_G14, own_G15, own_G16, own_G17, own_G18, own_G19, own_G20, own_G21, own_G22, own_G23, own_G24, own_G25, own_G26, own_G27, own_G28, own_G29, own_G30, own_G31, Sh.bt_big, Nat.reduceLT, Nat.reduceAdd, Nat.reduceSub, Nat.reduceLeDiff, decide_true, decide_false, Bool.and_true, Bool.true_and, Bool.and_false, Bool.false_and, Bool.or_false, Bool.false_or, Bool.not_true, Bool.not_false, Nat.zero_add, Nat.sub_zero, Nat.lt_irrefl, Nat.not_lt_zero]
  | 12, _ => simp only [Sh.bt_or, Sh.bt_zero, own_mask, own_mask4, own_shl4, own_shl8, own_shl16, own_shl24, own_shl28, own_shl32, own_shl40, own_shl48, own_shl52, own_shl56, own_ush0, own_ush4, own_ush8, own_ush12, own_ush16, own_ush20, own_ush24, own_ush28, own_ush32, own_ush36, own_ush40, own_ush44, own_ush48, own_G0, own_G1, own_G2, own_G3, own_G4, own_G5, own_G6, own_G7, own_G8, own_G9, own_G10, own_G11, own_G12, own_G13, own_G14, own_G15, own_G16, own_G17, own_G18, own_G19, own_G20, own_G21, own_G22, own_G23, own_G24, own_G25, own_G26, own_G27, own_G28, own_G29, own_G30, own_G31, Sh.bt_big, Nat.reduceLT, Nat.reduceAdd, Nat.reduceSub, Nat.reduceLeDiff, decide_true, decide_false, Bool.and_true, Bool.true_and, Bool.and_false, Bool.false_and, Bool.or_false, Bool.false_or, Bool.not_true, Bool.not_false, Nat.zero_add, Nat.sub_zero, Nat.lt_irrefl, Nat.not_lt_zero]
  | 13, _ => simp only [Sh.bt_or, Sh.bt_zero, own_mask, own_mask4, own_shl4, own_shl8, own_shl16, own_shl24, own_shl28, own_shl32, own_shl40, own_shl48, own_shl52, own_shl56, own_ush0, own_ush4, own_ush8, own_ush12, own_ush16, own_ush20, own_ush24, own_ush28, own_ush32, own_ush36, own_ush40, own_ush44, own_ush48, own_G0, own_G1, own_G2, own_G3, own_G4, own_G5, own_G6, own_G7, own_G8, own_G9, own_G10, own_G11, own_G12, own_G13, own_G14, own_G15, own_G16, own_G17, own_G18, own_G19, own_G20, own_G21, own_G22, own_G23, own_G24, own_G25, own_G26, own_G27, own_G28, own_G29, own_G30, own_G31, Sh.bt_big, Nat.reduceLT, Nat.reduceAdd, Nat.reduceSub, Nat.reduceLeDiff, decide_true, decide_false, Bool.and_true, Bool.true_and, Bool.and_false, Bool.false_and, Bool.or_false, Bool.false_or, Bool.not_true, Bool.not_false, Nat.zero_add, Nat.sub_zero, Nat.lt_irrefl, Nat.not_lt_zero]
  | 14, _ => simp only [Sh.bt_or, Sh.bt_zero, own_mask, own_mask4, own_shl4, own_shl8, own_shl16, own_shl24, own_shl28, own_shl32, own_shl40, own_shl48, own_shl52, own_shl56, own_ush0, own_ush4, own_ush8, own_ush12, own_ush16, own_ush20, own_ush24, own_ush28, own_ush32, own_ush36, own_ush40, own_ush44, own_ush48, own_G0, own_G1, own_G2, own_G3, own_G4, own_G5, own_G6, own_G7, own_G8, own_G9, own_G10, own_G11, own_G12, own_G13, own_G14, own_G15, own_G16, own_G17, own_G18, own_G19, own_G20, own_G21, own_G22, own_G23, own_G24, own_G25, own_G26, own_G27, own_G28, own_G29, own_G30, own_G31, Sh.bt_big, Nat.reduceLT, Nat.reduceAdd, Nat.reduceSub, Nat.reduceLeDiff, decide_true, decide_false, Bool.and_true, Bool.true_and, Bool.and_false, Bool.false_and, Bool.or_false, Bool.false_or, Bool.not_true, Bool.not_false, Nat.zero_add, Nat.sub_zero, Nat.lt_irrefl, Nat.not_lt_zero]
  | 15, _ => simp only [Sh.bt_or, Sh.bt_zero, own_mask, own_mask4, own_shl4, own_shl8, own_shl16, own_shl24, own_shl28, own_shl32, own_shl40, own_shl48, own_shl52, own_shl56, own_ush0, own_ush4, own_ush8, own_ush12, own_ush16, own_ush20, own_ush24, own_ush28, own_ush32, own_ush36, own_ush40, own_ush44, own_ush48, own_G0, own_G1, own_G2, own_G3, own_G4, own_G5, own_G6, own_G7, own_G8, own_G9, own_G10, own_G11, own_G12, own_G13, own_G14, own_G15, own_G16, own_G17, own_G18, own_G19, own_G20, own_G21, own_G22, own_G23, own_G24, own_G25, own_G26, own_G27, own_G28, own_G29, own_G30, own_G31, Sh.bt_big, Nat.reduceLT, Nat.reduceAdd, Nat.reduceSub, Nat.reduceLeDiff, decide_true, decide_false, Bool.and_true, Bool.true_and, Bool.and_false, Bool.false_and, Bool.or_false, Bool.false_or, Bool.not_true, Bool.not_false, Nat.zero_add, Nat.sub_zero, Nat.lt_irrefl, Nat.not_lt_zero]
  | 16, _ => simp only [Sh.bt_or, Sh.bt_zero, own_mask, own_mask4, own_shl4, own_shl8, own_shl16, own_shl24, own_shl28, own_shl32, own_shl40, own_shl48, own_shl52, own_shl56, own_ush0, own_ush4, own_ush8, own_ush12, own_ush16, own_ush20, own_ush24, own_ush28, own_ush32, own_ush36, own_ush40, own_ush44, own_ush48, own_G0, own_G1, own_G2, own_G3, own_G4, own_G5, own_G6, own_G7, own_G8, own_G9, own_G10, own_G11, own_G12, own_G13, own_G14, own_G15, own_G16, own_G17, own_G18, own_G19, own_G20, own_G21, own_G22, own_G23, own_G24, own_G25, own_G26, own_G27, own_G28, own_G29, own_G30, own_G31, Sh.bt_big, Nat.reduceLT, Nat.reduceAdd, Nat.reduceSub, Nat.reduceLeDiff, decide_true, decide_false, Bool.and_true, Bool.true_and, Bool.and_false, Bool.false_and, Bool.or_false, Bool.false_or, Bool.not_true, Bool.not_false, Nat.zero_add, Nat.sub_zero, Nat.lt_irrefl, Nat.not_lt_zero]
  | 17, _ => simp only [Sh.bt_or, Sh.bt_zero, own_mask, own_mask4, own_shl4, own_shl8, own_shl16, own_shl24, own_shl28, own_shl32, own_shl40, own_shl48, own_shl52, own_shl56, own_ush0, own_ush4, own_ush8, own_ush12, own_ush16, own_ush20, own_ush24, own_ush28, own_ush32, own_ush36, own_ush40, own_ush44, own_ush48, own_G0, own_G1, own_G2, own_G3, own_G4, own_G5, own_G6, own_G7, own_G8, own_G9, own_G10, own_G11, own_G12, own_G13, own_G14, own_G15, own_G16, own_G17, own_G18, own_G19, own_G20, own_G21, own_G22, own_G23, own_G24, own_G25, own_G26, own_G27, own_G28, own_G29, own_G30, own_G31, Sh.bt_big, Nat.reduceLT, Nat.reduceAdd, Nat.reduceSub, Nat.reduceLeDiff, decide_true, decide_false, Bool.and_true, Bool.true_and, Bool.and_false, Bool.false_and, Bool.or_false, Bool.false_or, Bool.not_true, Bool.not_false, Nat.zero_add, Nat.sub_zero, Nat.lt_irrefl, Nat.not_lt_zero]
  | 18, _ => simp only [Sh.bt_or, Sh.bt_zero, own_mask, own_mask4, own_shl4, own_shl8, own_shl16, own_shl24, own_shl28, own_shl32, own_shl40, own_shl48, own_shl52, own_shl56, own_ush0, own_ush4, own_ush8, own_ush12, own_ush16, own_ush20, own_ush24, own_ush28, own_ush32, own_ush36, own_ush40, own_ush44, own_ush48, own_G0, own_G1, own_G2, own_G3, own_G4, own_G5, own_G6, own_G7, own_G8, own_G9, own_G10, own_G11, own_G12, own_G13, own_G14, own_G15, own_G16, own_G17, own_G18, own_G19, own_G20, own_G21, own_G22, own_G23, own_G24, own_G25, own_G26, own_G27, own_G28, own_G29, own_G30, own_G31, Sh.bt_big, Nat.reduceLT, Nat.reduceAdd, Nat.reduceSub, Nat.reduceLeDiff, decide_true, decide_false, Bool.and_true, Bool.true_and, Bool.and_false, Bool.false_and, Bool.or_false, Bool.false_or, Bool.not_true, Bool.not_false, Nat.zero_add, Nat.sub_zero, Nat.lt_irrefl, Nat.not_lt_zero]
  | 19, _ => simp only [Sh.bt_or, Sh.bt_zero, own_mask, own_mask4, own_shl4, own_shl8, own_shl16, own_shl24, own_shl28, own_shl32, own_shl40, own_shl48, own_shl52, own_shl56, own_ush0, own_ush4, own_ush8, own_ush12, own_ush16, own_ush20, own_ush24, own_ush28, own_ush32, own_ush36, own_ush40, own_ush44, own_ush48, own_G0, own_G1, own_G2, own_G3, own_G4, own_G5, own_G6, own_G7, own_G8, own_G9, own_G10, own_G11, own_G12, own_G13, own_G14, own_G15, own_G16, own_G17, own_G18, own_G19, own_G20, own_G21, own_G22, own_G23, own_G24, own_G25, own_G26, own_G27, own_G28, own_G29, own_G30, own_G31, Sh.bt_big, Nat.reduceLT, Nat.reduceAdd, Nat.reduceSub, Nat.reduceLeDiff, decide_true, decide_false, Bool.and_true, Bool.true_and, Bool.and_false, Bool.false_and, Bool.or_false, Bool.false_or, Bool.not_true, Bool.not_false, Nat.zero_add, Nat.sub_zero, Nat.lt_irrefl, Nat.not_lt_zero]
  | 20, _ => simp only [Sh.bt_or, Sh.bt_zero, own_mask, own_mask4, own_shl4, own_shl8, own_shl16, own_shl24, own_shl28, own_shl32, own_shl40, own_shl48, own_shl52, own_shl56, own_ush0, own_ush4, own_ush8, own_ush12, own_ush16, own_ush20, own_ush24, own_ush28, own_ush32, own_ush36, own_ush40, own_ush44, own_ush48, own_G0, own_G1, own_G2, own_G3, own_G4, own_G5, own_G6, own_G7, own_G8, own_G9, own_G10, own_G11, own_G12, own_G13, own_G14, own_G15, own_G16, own_G17, own_G18, own_G19, own_G20, own_G21, own_G22, own_G23, own_G24, own_G25, own_G26, own_G27, own_G28, own_G29, own_G30, own_G31, Sh.bt_big, Nat.reduceLT, Nat.reduceAdd, Nat.reduceSub, Nat.reduceLeDiff, decide_true, decide_false, Bool.and_true, Bool.true_and, Bool.and_false, Bool.false_and, Bool.or_false, Bool.false_or, Bool.not_true, Bool.not_false, Nat.zero_add, Nat.sub_zero, Nat.lt_irrefl, Nat.not_lt_zero]
  | 21, _ => simp only [Sh.bt_or, Sh.bt_zero, own_mask, own_mask4, own_shl4, own_shl8, own_shl16, own_shl24, own_shl28, own_shl32, own_shl40, own_shl48, own_shl52, own_shl56, own_ush0, own_ush4, own_ush8, own_ush12, own_ush16, own_ush20, own_ush24, own_ush28, own_ush32, own_ush36, own_ush40, own_ush44, own_ush48, own_G0, own_G1, own_G2, own_G3, own_G4, own_G5, own_G6, own_G7, own_G8, own_G9, own_G10, own_G11, own_G12, own_G13, own_G14, own_G15, own_G16, own_G17, own_G18, own_G19, own_G20, own_G21, own_G22, own_G23, own_G24, own_G25, own_G26, own_G27, own_G28, own_G29, own_G30, own_G31, Sh.bt_big, Nat.reduceLT, Nat.reduceAdd, Nat.reduceSub, Nat.reduceLeDiff, decide_true, decide_false, Bool.and_true, Bool.true_and, Bool.and_false, Bool.false_and, Bool.or_false, Bool.false_or, Bool.not_true, Bool.not_false, Nat.zero_add, Nat.sub_zero, Nat.lt_irrefl, Nat.not_lt_zero]
  | 22, _ => simp only [Sh.bt_or, Sh.bt_zero, own_mask, own_mask4, own_shl4, own_shl8, own_shl16, own_shl24, own_shl28, own_shl32, own_shl40, own_shl48, own_shl52, own_shl56, own_ush0, own_ush4, own_ush8, own_ush12, own_ush16, own_ush20, own_ush24, own_ush28, own_ush32, own_ush36, own_ush40, own_ush44, own_ush48, own_G0, own_G1, own_G2, own_G3, own_G4, own_G5, own_G6, own_G7, own_G8, own_G9, own_G10, own_G11, own_G12, own_G13, own_G14, own_G15, own_G16, own_G17, own_G18, own_G19, own_G20, own_G21, own_G22, own_G23, own_G24, own_G25, own_G26, own_G27, own_G28, own_G29, own_G30, own_G31, Sh.bt_big, Nat.reduceLT, Nat.reduceAdd, Nat.reduceSub, Nat.reduceLeDiff, decide_true, decide_false, Bool.and_true, Bool.true_and, Bool.and_false, Bool.false_and, Bool.or_false, Bool.false_or, Bool.not_true, Bool.not_false, Nat.zero_add, Nat.sub_zero, Nat.lt_irrefl, Nat.not_lt_zero]
  | 23, _ => simp only [Sh.bt_or, Sh.bt_zero, own_mask, own_mask4, own_shl4, own_shl8, own_shl16, own_shl24, own_shl28, own_shl32, own_shl40, own_shl48, own_shl52, own_shl56, own_ush0, own_ush4, own_ush8, own_ush12, own_ush16, own_ush20, own_ush24, own_ush28, own_ush32, own_ush36, own_ush40, own_ush44, own_ush48, own_G0, own_G1, own_G2, own_G3, own_G4, own_G5, own_G6, own_G7, own_G8, own_G9, own_G10, own_G11, own_G12, own_G13, own_G14, own_G15, own_G16, own_G17, own_G18, own_G19, own_G20, own_G21, own_G22, own_G23, own_G24, own_G25, own_G26, own_G27, own_G28, own_G29, own_G30, own_G31, Sh.bt_big, Nat.reduceLT, Nat.reduceAdd, Nat.reduceSub, Nat.reduceLeDiff, decide_true, decide_false, Bool.and_true, Bool.true_and, Bool.and_false, Bool.false_and, Bool.or_false, Bool.false_or, Bool.not_true, Bool.not_false, Nat.zero_add, Nat.sub_zero, Nat.lt_irrefl, Nat.not_lt_zero]
  | 24, _ => simp only [Sh.bt_or, Sh.bt_zero, own_mask, own_mask4, own_shl4, own_shl8, own_shl16, own_shl24, own_shl28, own_shl32, own_shl40, own_shl48, own_shl52, own_shl56, own_ush0, own_ush4, own_ush8, own_ush12, own_ush16, own_ush20, own_ush24, own_ush28, own_ush32, own_ush36, own_ush40, own_ush44, own_ush48, own_G0, own_G1, own_G2, own_G3, own_G4, own_G5, own_G6, own_G7, own_G8, own_G9, own_G10, own_G11, own_G12, own_G13, own_G14, own_G15, own_G16, own_G17, own_G18, own_G19, own_G20, own_G21, own_G22, own_G23, own_G24, own_G25, own_G26, own_G27, own_G28, own_G29, own_G30, own_G31, Sh.bt_big, Nat.reduceLT, Nat.reduceAdd, Nat.reduceSub, Nat.reduceLeDiff, decide_true, decide_false, Bool.and_true, Bool.true_and, Bool.and_false, Bool.false_and, Bool.or_false, Bool.false_or, Bool.not_true, Bool.not_false, Nat.zero_add, Nat.sub_zero, Nat.lt_irrefl, Nat.not_lt_zero]
  | 25, _ => simp only [Sh.bt_or, Sh.bt_zero, own_mask, own_mask4, own_shl4, own_shl8, own_shl16, own_shl24, own_shl28, own_shl32, own_shl40, own_shl48, own_shl52, own_shl56, own_ush0, own_ush4, own_ush8, own_ush12, own_ush16, own_ush20, own_ush24, own_ush28, own_ush32, own_ush36, own_ush40, own_ush44, own_ush48, own_G0, own_G1, own_G2, own_G3, own_G4, own_G5, own_G6, own_G7, own_G8, own_G9, own_G10, own_G11, own_G12, own_G13, own_G14, own_G15, own_G16, own_G17, own_G18, own_G19, own_G20, own_G21, own_G22, own_G23, own_G24, own_G25, own_G26, own_G27, own_G28, own_G29, own_G30, own_G31, Sh.bt_big, Nat.reduceLT, Nat.reduceAdd, Nat.reduceSub, Nat.reduceLeDiff, decide_true, decide_false, Bool.and_true, Bool.true_and, Bool.and_false, Bool.false_and, Bool.or_false, Bool.false_or, Bool.not_true, Bool.not_false, Nat.zero_add, Nat.sub_zero, Nat.lt_irrefl, Nat.not_lt_zero]
  | 26, _ => simp only [Sh.bt_or, Sh.bt_zero, own_mask, own_mask4, own_shl4, own_shl8, own_shl16, own_shl24, own_shl28, own_shl32, own_shl40, own_shl48, own_shl52, own_shl56, own_ush0, own_ush4, own_ush8, own_ush12, own_ush16, own_ush20, own_ush24, own_ush28, own_ush32, own_ush36, own_ush40, own_ush44, own_ush48, own_G0, own_G1, own_G2, own_G3, own_G4, own_G5, own_G6, own_G7, own_G8, own_G9, own_G10, own_G11, own_G12, own_G13, own_G14, own_G15, own_G16, own_G17, own_G18, own_G19, own_G20, own_G21, own_G22, own_G23, own_G24, own_G25, own_G26, own_G27, own_G28, own_G29, own_G30, own_G31, Sh.bt_big, Nat.reduceLT, Nat.reduceAdd, Nat.reduceSub, Nat.reduceLeDiff, decide_true, decide_false, Bool.and_true, Bool.true_and, Bool.and_false, Bool.false_and, Bool.or_false, Bool.false_or, Bool.not_true, Bool.not_false, Nat.zero_add, Nat.sub_zero, Nat.lt_irrefl, Nat.not_lt_zero]
  | 27, _ => simp only [Sh.bt_or, Sh.bt_zero, own_mask, own_mask4, own_shl4, own_shl8, own_shl16, own_shl24, own_shl28, own_shl32, own_shl40, own_shl48, own_shl52, own_shl56, own_ush0, own_ush4, own_ush8, own_ush12, own_ush16, own_ush20, own_ush24, own_ush28, own_ush32, own_ush36, own_ush40, own_ush44, own_ush48, own_G0, own_G1, own_G2, own_G3, own_G4, own_G5, own_G6, own_G7, own_G8, own_G9, own_G10, own_G11, own_G12, own_G13, own_G14, own_G15, own_G16, own_G17, own_G18, own_G19, own_G20, own_G21, own_G22, own_G23, own_G24, own_G25, own_G26, own_G27, own_G28, own_G29, own_G30, own_G31, Sh.bt_big, Nat.reduceLT, Nat.reduceAdd, Nat.reduceSub, Nat.reduceLeDiff, decide_true, decide_false, Bool.and_true, Bool.true_and, Bool.and_false, Bool.false_and, Bool.or_false, Bool.false_or, Bool.not_true, Bool.not_false, Nat.zero_add, Nat.sub_zero, Nat.lt_irrefl, Nat.not_lt_zero]
  | 28, _ => simp only [Sh.bt_or, Sh.bt_zero, own_mask, own_mask4, own_shl4, own_shl8, own_shl16, own_shl24, own_shl28, own_shl32, own_shl40, own_shl48, own_shl52, own_shl56, own_ush0, own_ush4, own_ush8, own_ush12, own_ush16, own_ush20, own_ush24, own_ush28, own_ush32, own_ush36, own_ush40, own_ush44, own_ush48, own_G0, own_G1, own_G2, own_G3, own_G4, own_G5, own_G6, own_G7, own_G8, own_G9, own_G10, own_G11, own_G12, own_G13, own_G14, own_G15, own_G16, own_G17, own_G18, own_G19, own_G20, own_G21, own_G22, own_G23, own_G24, own_G25, own_G26, own_G27, own_G28, own_G29, own_G30, own_G31, Sh.bt_big, Nat.reduceLT, Nat.reduceAdd, Nat.reduceSub, Nat.reduceLeDiff, decide_true, decide_false, Bool.and_true, Bool.true_and, Bool.and_false, Bool.false_and, Bool.or_false, Bool.false_or, Bool.not_true, Bool.not_false, Nat.zero_add, Nat.sub_zero, Nat.lt_irrefl, Nat.not_lt_zero]
  | 29, _ => simp only [Sh.bt_or, Sh.bt_zero, own_mask, own_mask4, own_shl4, own_shl8, own_shl16, own_shl24, own_shl28, own_shl32, own_shl40, own_shl48, own_shl52, own_shl56, own_ush0, own_ush4, own_ush8, own_ush12, own_ush16, own_ush20, own_ush24, own_ush28, own_ush32, own_ush36, own_ush40, own_ush44, own_ush48, own_G0, own_G1, own_G2, own_G3, own_G4, own_G5, own_G6, own_G7, own_G8, own_G9, own_G10, own_G11, own_G12, own_G13, own_G14, own_G15, own_G16, own_G17, own_G18, own_G19, own_G20, own_G21, own_G22, own_G23, own_G24, own_G25, own_G26, own_G27, own_G28, own_G29, own_G30, own_G31, Sh.bt_big, Nat.reduceLT, Nat.reduceAdd, Nat.reduceSub, Nat.reduceLeDiff, decide_true, decide_false, Bool.and_true, Bool.true_and, Bool.and_false, Bool.false_and, Bool.or_false, Bool.false_or, Bool.not_true, Bool.not_false, Nat.zero_add, Nat.sub_zero, Nat.lt_irrefl, Nat.not_lt_zero]
  | 30, _ => simp only [Sh.bt_or, Sh.bt_zero, own_mask, own_mask4, own_shl4, own_shl8, own_shl16, own_shl24, own_shl28, own_shl32, own_shl40, own_shl48, own_shl52, own_shl56, own_ush0, own_ush4, own_ush8, own_ush12, own_ush16, own_ush20, own_ush24, own_ush28, own_ush32, own_ush36, own_ush40, own_ush44, own_ush48, own_G0, own_G1, own_G2, own_G3, own_G4, own_G5, own_G6, own_G7, own_G8, own_G9, own_G10, own_G11, own_G12, own_G13, own_G14, own_G15, own_G16, own_G17, own_G18, own_G19, own_G20, own_G21, own_G22, own_G23, own_G24, own_G25, own_G26, own_G27, own_G28, own_G29, own_G30, own_G31, Sh.bt_big, Nat.reduceLT, Nat.reduceAdd, Nat.reduceSub, Nat.reduceLeDiff, decide_true, decide_false, Bool.and_true, Bool.true_and, Bool.and_false, Bool.false_and, Bool.or_false, Bool.false_or, Bool.not_true, Bool.not_false, Nat.zero_add, Nat.sub_zero, Nat.lt_irrefl, Nat.not_lt_zero]
  | 31, _ => simp only [Sh.bt_or, Sh.bt_zero, own_mask, own_mask4, own_shl4, own_shl8, own_shl16, own_shl24, own_shl28, own_shl32, own_shl40, own_shl48, own_shl52, own_shl56, own_ush0, own_ush4, own_ush8, own_ush12, own_ush16, own_ush20, own_ush24, own_ush28, own_ush32, own_ush36, own_ush40, own_ush44, own_ush48, own_G0, own_G1, own_G2, own_G3, own_G4, own_G5, own_G6, own_G7, own_G8, own_G9, own_G10, own_G11, own_G12, own_G13, own_G14, own_G15, own_G16, own_G17, own_G18, own_G19, own_G20, own_G21, own_G22, own_G23, own_G24, own_G25, own_G26, own_G27, own_G28, own_G29, own_G30, own_G31, Sh.bt_big, Nat.reduceLT, Nat.reduceAdd, Nat.reduceSub, Nat.reduceLeDiff, decide_true, decide_false, Bool.and_true, Bool.true_and, Bool.and_false, Bool.false_and, Bool.or_false, Bool.false_or, Bool.not_true, Bool.not_false, Nat.zero_add, Nat.sub_zero, Nat.lt_irrefl, Nat.not_lt_zero]
  | 32, _ => simp only [Sh.bt_or, Sh.bt_zero, own_mask, own_mask4, own_shl4, own_shl8, own_shl16, own_shl24, own_shl28, own_shl32, own_shl40, own_shl48, own_shl52, own_shl56, own_ush0, own_ush4, own_ush8, own_ush12, own_ush16, own_ush20, own_ush24, own_ush28, own_ush32, own_ush36, own_ush40, own_ush44, own_ush48, own_G0, own_G1, own_G2, own_G3, own_G4, own_G5, own_G6, own_G7, own_G8, own_G9, own_G10, own_G11, own_G12, own_G13, own_G14, own_G15, own_G16, own_G17, own_G18, own_G19, own_G20, own_G21, own_G22, own_G23, own_G24, own_G25, own_G26, own_G27, own_G28, own_G29, own_G30, own_G31, Sh.bt_big, Nat.reduceLT, Nat.reduceAdd, Nat.reduceSub, Nat.reduceLeDiff, decide_true, decide_false, Bool.and_true, Bool.true_and, Bool.and_false, Bool.false_and, Bool.or_false, Bool.false_or, Bool.not_true, Bool.not_false, Nat.zero_add, Nat.sub_zero, Nat.lt_irrefl, Nat.not_lt_zero]
  | 33, _ => simp only [Sh.bt_or, Sh.bt_zero, own_mask, own_mask4, own_shl4, own_shl8, own_shl16, own_shl24, own_shl28, own_shl32, own_shl40, own_shl48, own_shl52, own_shl56, own_ush0, own_ush4, own_ush8, own_ush12, own_ush16, own_ush20, own_ush24, own_ush28, own_ush32, own_ush36, own_ush40, own_ush44, own_ush48, own_G0, own_G1, own_G2, own_G3, own_G4, own_G5, own_G6, own_G7, own_G8, own_G9, own_G10, own_G11, own_G12, own_G13, own_G14, own_G15, own_G16, own_G17, own_G18, own_G19, own_G20, own_G21, own_G22, own_G23, own_G24, own_G25, own_G26, own_G27, own_G28, own_G29, own_G30, own_G31, Sh.bt_big, Nat.reduceLT, Nat.reduceAdd, Nat.reduceSub, Nat.reduceLeDiff, decide_true, decide_false, Bool.and_true, Bool.true_and, Bool.and_false, Bool.false_and, Bool.or_false, Bool.false_or, Bool.not_true, Bool.not_false, Nat.zero_add, Nat.sub_zero, Nat.lt_irrefl, Nat.not_lt_zero]
  | 34, _ => simp only [Sh.bt_or, Sh.bt_zero, own_mask, own_mask4, own_shl4, own_shl8, own_shl16, own_shl24, own_shl28, own_shl32, own_shl40, own_shl48, own_shl52, own_shl56, own_ush0, own_ush4, own_ush8, own_ush12, own_ush16, own_ush20, own_ush24, own_ush28, own_ush32, own_ush36, own_ush40, own_ush44, own_ush48, own_G0, own_G1, own_G2, own_G3, own_G4, own_G5, own_G6, own_G7, own_G8, own_G9, own_G10, own_G11, own_G12, own_G13, own_G14, own_G15, own_G16, own_G17, own_G18, own_G19, own_G20, own_G21, own_G22, own_G23, own_G24, own_G25, own_G26, own_G27, own_G28, own_G29, own_G30, own_G31, Sh.bt_big, Nat.reduceLT, Nat.reduceAdd, Nat.reduceSub, Nat.reduceLeDiff, decide_true, decide_false, Bool.and_true, Bool.true_and, Bool.and_false, Bool.false_and, Bool.or_false, Bool.false_or, Bool.not_true, Bool.not_false, Nat.zero_add, Nat.sub_zero, Nat.lt_irrefl, Nat.not_lt_zero]
  | 35, _ => simp only [Sh.bt_or, Sh.bt_zero, own_mask, own_mask4, own_shl4, own_shl8, own_shl16, own_shl24, own_shl28, own_shl32, own_shl40, own_shl48, own_shl52, own_shl56, own_ush0, own_ush4, own_ush8, own_ush12, own_ush16, own_ush20, own_ush24, own_ush28, own_ush32, own_ush36, own_ush40, own_ush44, own_ush48, own_G0, own_G1, own_G2, own_G3, own_G4, own_G5, own_G6, own_G7, own_G8, own_G9, own_G10, own_G11, own_G12, own_G13, own_G14, own_G15, own_G16, own_G17, own_G18, own_G19, own_G20, own_G21, own_G22, own_G23, own_G24, own_G25, own_G26, own_G27, own_G28, own_G29, own_G30, own_G31, Sh.bt_big, Nat.reduceLT, Nat.reduceAdd, Nat.reduceSub, Nat.reduceLeDiff, decide_true, decide_false, Bool.and_true, Bool.true_and, Bool.and_false, Bool.false_and, Bool.or_false, Bool.false_or, Bool.not_true, Bool.not_false, Nat.zero_add, Nat.sub_zero, Nat.lt_irrefl, Nat.not_lt_zero]
  | 36, _ => simp only [Sh.bt_or, Sh.bt_zero, own_mask, own_mask4, own_shl4, own_shl8, own_shl16, own_shl24, own_shl28, own_shl32, own_shl40, own_shl48, own_shl52, own_shl56, own_ush0, own_ush4, own_ush8, own_ush12, own_ush16, own_ush20, own_ush24, own_ush28, own_ush32, own_ush36, own_ush40, own_ush44, own_ush48, own_G0, own_G1, own_G2, own_G3, own_G4, own_G5, own_G6, own_G7, own_G8, own_G9, own_G10, own_G11, own_G12, own_G13, own_G14, own_G15, own_G16, own_G17, own_G18, own_G19, own_G20, own_G21, own_G22, own_G23, own_G24, own_G25, own_G26, own_G27, own_G28, own_G29, own_G30, own_G31, Sh.bt_big, Nat.reduceLT, Nat.reduceAdd, Nat.reduceSub, Nat.reduceLeDiff, decide_true, decide_false, Bool.and_true, Bool.true_and, Bool.and_false, Bool.false_and, Bool.or_false, Bool.false_or, Bool.not_true, Bool.not_false, Nat.zero_add, Nat.sub_zero, Nat.lt_irrefl, Nat.not_lt_zero]
  | 37, _ => simp only [Sh.bt_or, Sh.bt_zero, own_mask, own_mask4, own_shl4, own_shl8, own_shl16, own_shl24, own_shl28, own_shl32, own_shl40, own_shl48, own_shl52, own_shl56, own_ush0, own_ush4, own_ush8, own_ush12, own_ush16, own_ush20, own_ush24, own_ush28, own_ush32, own_ush36, own_ush40, own_ush44, own_ush48, own_G0, own_G1, own_G2, own_G3, own_G4, own_G5, own_G6, own_G7, own_G8, own_G9, own_G10, own_G11, own_G12, own_G13, own_G14, own_G15, own_G16, own_G17, own_G18, own_G19, own_G20, own_G21, own_G22, own_G23, own_G24, own_G25, own_G26, own_G27, own_G28, own_G29, own_G30, own_G31, Sh.bt_big, Nat.reduceLT, Nat.reduceAdd, Nat.reduceSub, Nat.reduceLeDiff, decide_true, decide_false, Bool.and_true, Bool.true_and, Bool.and_false, Bool.false_and, Bool.or_false, Bool.false_or, Bool.not_true, Bool.not_false, Nat.zero_add, Nat.sub_zero, Nat.lt_irrefl, Nat.not_lt_zero]
  | 38, _ => simp only [Sh.bt_or, Sh.bt_zero, own_mask, own_mask4, own_shl4, own_shl8, own_shl16, own_shl24, own_shl28, own_shl32, own_shl40, own_shl48, own_shl52, own_shl56, own_ush0, own_ush4, own_ush8, own_ush12, own_ush16, own_ush20, own_ush24, own_ush28, own_ush32, own_ush36, own_ush40, own_ush44, own_ush48, own_G0, own_G1, own_G2, own_G3, own_G4, own_G5, own_G6, own_G7, own_G8, own_G9, own_G10, own_G11, own_G12, own_G13, own_G14, own_G15, own_G16, own_G17, own_G18, own_G19, own_G20, own_G21, own_G22, own_G23, own_G24, own_G25, own_G26, own_G27, own_G28, own_G29, own_G30, own_G31, Sh.bt_big, Nat.reduceLT, Nat.reduceAdd, Nat.reduceSub, Nat.reduceLeDiff, decide_true, decide_false, Bool.and_true, Bool.true_and, Bool.and_false, Bool.false_and, Bool.or_false, Bool.false_or, Bool.not_true, Bool.not_false, Nat.zero_add, Nat.sub_zero, Nat.lt_irrefl, Nat.not_lt_zero]
  | 39, _ => simp only [Sh.bt_or, Sh.bt_zero, own_mask, own_mask4, own_shl4, own_shl8, own_shl16, own_shl24, own_shl28, own_shl32, own_shl40, own_shl48, own_shl52, own_shl56, own_ush0, own_ush4, own_ush8, own_ush12, own_ush16, own_ush20, own_ush24, own_ush28, own_ush32, own_ush36, own_ush40, own_ush44, own_ush48, own_G0, own_G1, own_G2, own_G3, own_G4, own_G5, own_G6, own_G7, own_G8, own_G9, own_G10, own_G11, own_G12, own_G13, own_G14, own_G15, own_G16, own_G17, own_G18, own_G19, own_G20, own_G21, own_G22, own_G23, own_G24, own_G25, own_G26, own_G27, own_G28, own_G29, own_G30, own_G31, Sh.bt_big, Nat.reduceLT, Nat.reduceAdd, Nat.reduceSub, Nat.reduceLeDiff, decide_true, decide_false, Bool.and_true, Bool.true_and, Bool.and_false, Bool.false_and, Bool.or_false, Bool.false_or, Bool.not_true, Bool.not_false, Nat.zero_add, Nat.sub_zero, Nat.lt_irrefl, Nat.not_lt_zero]
  | 40, _ => simp only [Sh.bt_or, Sh.bt_zero, own_mask, own_mask4, own_shl4, own_shl8, own_shl16, own_shl24, own_shl28, own_shl32, own_shl40, own_shl48, own_shl52, own_shl56, own_ush0, own_ush4, own_ush8, own_ush12, own_ush16, own_ush20, own_ush24, own_ush28, own_ush32, own_ush36, own_ush40, own_ush44, own_ush48, own_G0, own_G1, own_G2, own_G3, own_G4, own_G5, own_G6, own_G7, own_G8, own_G9, own_G10, own_G11, own_G12, own_G13, own_G14, own_G15, own_G16, own_G17, own_G18, own_G19, own_G20, own_G21, own_G22, own_G23, own_G24, own_G25, own_G26, own_G27, own_G28, own_G29, own_G30, own_G31, Sh.bt_big, Nat.reduceLT, Nat.reduceAdd, Nat.reduceSub, Nat.reduceLeDiff, decide_true, decide_false, Bool.and_true, Bool.true_and, Bool.and_false, Bool.false_and, Bool.or_false, Bool.false_or, Bool.not_true, Bool.not_false, Nat.zero_add, Nat.sub_zero, Nat.lt_irrefl, Nat.not_lt_zero]
  | 41, _ => simp only [Sh.bt_or, Sh.bt_zero, own_mask, own_mask4, own_shl4, own_shl8, own_shl16, own_shl24, own_shl28, own_shl32, own_shl40, own_shl48, own_shl52, own_shl56, own_ush0, own_ush4, own_ush8, own_ush12, own_ush16, own_ush20, own_ush24, own_ush28, own_ush32, own_ush36, own_ush40, own_ush44, own_ush48, own_G0, own_G1, own_G2, own_G3, own_G4, own_G5, own_G6, own_G7, own_G8, own_G9, own_G10, own_G11, own_G12, own_G13, own_G14, own_G15, own_G16, own_G17, own_G18, own_G19, own_G20, own_G21, own_G22, own_G23, own_G24, own_G25, own_G26, own_G27, own_G28, own_G29, own_G30, own_G31, Sh.bt_big, Nat.reduceLT, Nat.reduceAdd, Nat.reduceSub, Nat.reduceLeDiff, decide_true, decide_false, Bool.and_true, Bool.true_and, Bool.and_false, Bool.false_and, Bool.or_false, Bool.false_or, Bool.not_true, Bool.not_false, Nat.zero_add, Nat.sub_zero, Nat.lt_irrefl, Nat.not_lt_zero]
  | 42, _ => simp only [Sh.bt_or, Sh.bt_zero, own_mask, own_mask4, own_shl4, own_shl8, own_shl16, own_shl24, own_shl28, own_shl32, own_shl40, own_shl48, own_shl52, own_shl56, own_ush0, own_ush4, own_ush8, own_ush12, own_ush16, own_ush20, own_ush24, own_ush28, own_ush32, own_ush36, own_ush40, own_ush44, own_ush48, own_G0, own_G1, own_G2, own_G3, own_G4, own_G5, own_G6, own_G7, own_G8, own_G9, own_G10, own_G11, own_G12, own_G13, own_G14, own_G15, own_G16, own_G17, own_G18, own_G19, own_G20, own_G21, own_G22, own_G23, own_G24, own_G25, own_G26, own_G27, own_G28, own_G29, own_G30, own_G31, Sh.bt_big, Nat.reduceLT, Nat.reduceAdd, Nat.reduceSub, Nat.reduceLeDiff, decide_true, decide_false, Bool.and_true, Bool.true_and, Bool.and_false, Bool.false_and, Bool.or_false, Bool.false_or, Bool.not_true, Bool.not_false, Nat.zero_add, Nat.sub_zero, Nat.lt_irrefl, Nat.not_lt_zero]
  | 43, _ => simp only [Sh.bt_or, Sh.bt_zero, own_mask, own_mask4, own_shl4, own_shl8, own_shl16, own_shl24, own_shl28, own_shl32, own_shl40, own_shl48, own_shl52, own_shl56, own_ush0, own_ush4, own_ush8, own_ush12, own_ush16, own_ush20, own_ush24, own_ush28, own_ush32, own_ush36, own_ush40, own_ush44, own_ush48, own_G0, own_G1, own_G2, own_G3, own_G4, own_G5, own_G6, own_G7, own_G8, own_G9, own_G10, own_G11, own_G12, own_G13, own_G14, own_G15, own_G16, own_G17, own_G18, own_G19, own_G20, own_G21, own_G22, own_G23, own_G24, own_G25, own_G26, own_G27, own_G28, own_G29, own_G30, own_G31, Sh.bt_big, Nat.reduceLT, Nat.reduceAdd, Nat.reduceSub, Nat.reduceLeDiff, decide_true, decide_false, Bool.and_true, Bool.true_and, Bool.and_false, Bool.false_and, Bool.or_false, Bool.false_or, Bool.not_true, Bool.not_false, Nat.zero_add, Nat.sub_zero, Nat.lt_irrefl, Nat.not_lt_zero]
  | 44, _ => simp only [Sh.bt_or, Sh.bt_zero, own_mask, own_mask4, own_shl4, own_shl8, own_shl16, own_shl24, own_shl28, own_shl32, own_shl40, own_shl48, own_shl52, own_shl56, own_ush0, own_ush4, own_ush8, own_ush12, own_ush16, own_ush20, own_ush24, own_ush28, own_ush32, own_ush36, own_ush40, own_ush44, own_ush48, own_G0, own_G1, own_G2, own_G3, own_G4, own_G5, own_G6, own_G7, own_G8, own_G9, own_G10, own_G11, own_G12, own_G13, own_G14, own_G15, own_G16, own_G17, own_G18, own_G19, own_G20, own_G21, own_G22, own_G23, own_G24, own_G25, own_G26, own_G27, own_G28, own_G29, own_G30, own_G31, Sh.bt_big, Nat.reduceLT, Nat.reduceAdd, Nat.reduceSub, Nat.reduceLeDiff, decide_true, decide_false, Bool.and_true, Bool.true_and, Bool.and_false, Bool.false_and, Bool.or_false, Bool.false_or, Bool.not_true, Bool.not_false, Nat.zero_add, Nat.sub_zero, Nat.lt_irrefl, Nat.not_lt_zero]
  | 45, _ => simp only [Sh.bt_or, Sh.bt_zero, own_mask, own_mask4, own_shl4, own_shl8, own_shl16, own_shl24, own_shl28, own_shl32, own_shl40, own_shl48, own_shl52, own_shl56, own_ush0, own_ush4, own_ush8, own_ush12, own_ush16, own_ush20, own_ush24, own_ush28, own_ush32, own_ush36, own_ush40, own_ush44, own_ush48, own_G0, own_G1, own_G2, own_G3, own_G4, own_G5, own_G6, own_G7, own_G8, own_G9, own_G10, own_G11, own_G12, own_G13, own_G14, own_G15, own_G16, own_G17, own_G18, own_G19, own_G20, own_G21, own_G22, own_G23, own_G24, own_G25, own_G26, own_G27, own_G28, own_G29, own_G30, own_G31, Sh.bt_big, Nat.reduceLT, Nat.reduceAdd, Nat.reduceSub, Nat.reduceLeDiff, decide_true, decide_false, Bool.and_true, Bool.true_and, Bool.and_false, Bool.false_and, Bool.or_false, Bool.false_or, Bool.not_true, Bool.not_false, Nat.zero_add, Nat.sub_zero, Nat.lt_irrefl, Nat.not_lt_zero]
  | 46, _ => simp only [Sh.bt_or, Sh.bt_zero, own_mask, own_mask4, own_shl4, own_shl8, own_shl16, own_shl24, own_shl28, own_shl32, own_shl40, own_shl48, own_shl52, own_shl56, own_ush0, own_ush4, own_ush8, own_ush12, own_ush16, own_ush20, own_ush24, own_ush28, own_ush32, own_ush36, own_ush40, own_ush44, own_ush48, own_G0, own_G1, own_G2, own_G3, own_G4, own_G5, own_G6, own_G7, own_G8, own_G9, own_G10, own_G11, own_G12, own_G13, own_G14, own_G15, own_G16, own_G17, own_G18, own_G19, own_G20, own_G21, own_G22, own_G23, own_G24, own_G25, own_G26, own_G27, own_G28, own_G29, own_G30, own_G31, Sh.bt_big, Nat.reduceLT, Nat.reduceAdd, Nat.reduceSub, Nat.reduceLeDiff, decide_true, decide_false, Bool.and_true, Bool.true_and, Bool.and_false, Bool.false_and, Bool.or_false, Bool.false_or, Bool.not_true, Bool.not_false, Nat.zero_add, Nat.sub_zero, Nat.lt_irrefl, Nat.not_lt_zero]
  | 47, _ => simp only [Sh.bt_or, Sh.bt_zero, own_mask, own_mask4, own_shl4, own_shl8, own_shl16, own_shl24, own_shl28, own_shl32, own_shl40, own_shl48, own_shl52, own_shl56, own_ush0, own_ush4, own_ush8, own_ush12, own_ush16, own_ush20, own_ush24, own_ush28, own_ush32, own_ush36, own_ush40, own_ush44, own_ush48, own_G0, own_G1, own_G2, own_G3, own_G4, own_G5, own_G6, own_G7, own_G8, own_G9, own_G10, own_G11, own_G12, own_G13, own_G14, own_G15, own_G16, own_G17, own_G18, own_G19, own_G20, own_G21, own_G22, own_G23, own_G24, own_G25, own_G26, own_G27, own_G28, own_G29, own_G30, own_G31, Sh.bt_big, Nat.reduceLT, Nat.reduceAdd, Nat.reduceSub, Nat.reduceLeDiff, decide_true, decide_false, Bool.and_true, Bool.true_and, Bool.and_false, Bool.false_and, Bool.or_false, Bool.false_or, Bool.not_true, Bool.not_false, Nat.zero_add, Nat.sub_zero, Nat.lt_irrefl, Nat.not_lt_zero]
  | 48, _ => simp only [Sh.bt_or, Sh.bt_zero, own_mask, own_mask4, own_shl4, own_shl8, own_shl16, own_shl24, own_shl28, own_shl32, own_shl40, own_shl48, own_shl52, own_shl56, own_ush0, own_ush4, own_ush8, own_ush12, own_ush16, own_ush20, own_ush24, own_ush28, own_ush32, own_ush36, own_ush40, own_ush44, own_ush48, own_G0, own_G1, own_G2, own_G3, own_G4, own_G5, own_G6, own_G7, own_G8, own_G9, own_G10, own_G11, own_G12, own_G13, own_G14, own_G15, own_G16, own_G17, own_G18, own_G19, own_G20, own_G21, own_G22, own_G23, own_G24, own_G25, own_G26, own_G27, own_G28, own_G29, own_G30, own_G31, Sh.bt_big, Nat.reduceLT, Nat.reduceAdd, Nat.reduceSub, Nat.reduceLeDiff, decide_true, decide_false, Bool.and_true, Bool.true_and, Bool.and_false, Bool.false_and, Bool.or_false, Bool.false_or, Bool.not_true, Bool.not_false, Nat.zero_add, Nat.sub_zero, Nat.lt_irrefl, Nat.not_lt_zero]
  | 49, _ => simp only [Sh.bt_or, Sh.bt_zero, own_mask, own_mask4, own_shl4, own_shl8, own_shl16, own_shl24, own_shl28, own_shl32, own_shl40, own_shl48, own_shl52, own_shl56, own_ush0, own_ush4, own_ush8, own_ush12, own_ush16, own_ush20, own_ush24, own_ush28, own_ush32, own_ush36, own_ush40, own_ush44, own_ush48, own_G0, own_G1, own_G2, own_G3, own_G4, own_G5, own_G6, own_G7, own_G8, own_G9, own_G10, own_G11, own_G12, own_G13, own_G14, own_G15, own_G16, own_G17, own_G18, own_G19, own_G20, own_G21, own_G22, own_G23, own_G24, own_G25, own_G26, own_G27, own_G28, own_G29, own_G30, own_G31, Sh.bt_big, Nat.reduceLT, Nat.reduceAdd, Nat.reduceSub, Nat.reduceLeDiff, decide_true, decide_false, Bool.and_true, Bool.true_and, Bool.and_false, Bool.false_and, Bool.or_false, Bool.false_or, Bool.not_true, Bool.not_false, Nat.zero_add, Nat.sub_zero, Nat.lt_irrefl, Nat.not_lt_zero]
  | 50, _ => simp only [Sh.bt_or, Sh.bt_zero, own_mask, own_mask4, own_shl4, own_shl8, own_shl16, own_shl24, own_shl28, own_shl32, own_shl40, own_shl48, own_shl52, own_shl56, own_ush0, own_ush4, own_ush8, own_ush12, own_ush16, own_ush20, own_ush24, own_ush28, own_ush32, own_ush36, own_ush40, own_ush44, own_ush48, own_G0, own_G1, own_G2, own_G3, own_G4, own_G5, own_G6, own_G7, own_G8, own_G9, own_G10, own_G11, own_G12, own_G13, own_G14, own_G15, own_G16, own_G17, own_G18, own_G19, own_G20, own_G21, own_G22, own_G23, own_G24, own_G25, own_G26, own_G27, own_G28, own_G29, own_G30, own_G31, Sh.bt_big, Nat.reduceLT, Nat.reduceAdd, Nat.reduceSub, Nat.reduceLeDiff, decide_true, decide_false, Bool.and_true, Bool.true_and, Bool.and_false, Bool.false_and, Bool.or_false, Bool.false_or, Bool.not_true, Bool.not_false, Nat.zero_add, Nat.sub_zero, Nat.lt_irrefl, Nat.not_lt_zero]
  | 51, _ => simp only [Sh.bt_or, Sh.bt_zero, own_mask, own_mask4, own_shl4, own_shl8, own_shl16, own_shl24, own_shl28, own_shl32, own_shl40, own_shl48, own_shl52, own_shl56, own_ush0, own_ush4, own_ush8, own_ush12, own_ush16, own_ush20, own_ush24, own_ush28, own_ush32, own_ush36, own_ush40, own_ush44, own_ush48, own_G0, own_G1, own_G2, own_G3, own_G4, own_G5, own_G6, own_G7, own_G8, own_G9, own_G10, own_G11, own_G12, own_G13, own_G14, own_G15, own_G16, own_G17, own_G18, own_G19, own_G20, own_G21, own_G22, own_G23, own_G24, own_G25, own_G26, own_G27, own_G28, own_G29, own_G30, own_G31, Sh.bt_big, Nat.reduceLT, Nat.reduceAdd, Nat.reduceSub, Nat.reduceLeDiff, decide_true, decide_false, Bool.and_true, Bool.true_and, Bool.and_false, Bool.false_and, Bool.or_false, Bool.false_or, Bool.not_true, Bool.not_false, Nat.zero_add, Nat.sub_zero, Nat.lt_irrefl, Nat.not_lt_zero]
  | 52, _ => simp only [Sh.bt_or, Sh.bt_zero, own_mask, own_mask4, own_shl4, own_shl8, own_shl16, own_shl24, own_shl28, own_shl32, own_shl40, own_shl48, own_shl52, own_shl56, own_ush0, own_ush4, own_ush8, own_ush12, own_ush16, own_ush20, own_ush24, own_ush28, own_ush32, own_ush36, own_ush40, own_ush44, own_ush48, own_G0, own_G1, own_G2, own_G3, own_G4, own_G5, own_G6, own_G7, own_G8, own_G9, own_G10, own_G11, own_G12, own_G13, own_G14, own_G15, own_G16, own_G17, own_G18, own_G19, own_G20, own_G21, own_G22, own_G23, own_G24, own_G25, own_G26, own_G27, own_G28, own_G29, own_G30, own_G31, Sh.bt_big, Nat.reduceLT, Nat.reduceAdd, Nat.reduceSub, Nat.reduceLeDiff, decide_true, decide_false, Bool.and_true, Bool.true_and, Bool.and_false, Bool.false_and, Bool.or_false, Bool.false_or, Bool.not_true, Bool.not_false, Nat.zero_add, Nat.sub_zero, Nat.lt_irrefl, Nat.not_lt_zero]
  | 53, _ => simp only [Sh.bt_or, Sh.bt_zero, own_mask, own_mask4, own_shl4, own_shl8, own_shl16, own_shl24, own_shl28, own_shl32, own_shl40, own_shl48, own_shl52, own_shl56, own_ush0, own_ush4, own_ush8, own_ush12, own_ush16, own_ush20, own_ush24, own_ush28, own_ush32, own_ush36, own_ush40, own_ush44, own_ush48, own_G0, own_G1, own_G2, own_G3, own_G4, own_G5, own_G6, own_G7, own_G8, own_G9, own_G10, own_G11, own_G12, own_G13, own_G14, own_G15, own_G16, own_G17, own_G18, own_G19, own_G20, own_G21, own_G22, own_G23, own_G24, own_G25, own_G26, own_G27, own_G28, own_G29, own_G30, own_G31, Sh.bt_big, Nat.reduceLT, Nat.reduceAdd, Nat.reduceSub, Nat.reduceLeDiff, decide_true, decide_false, Bool.and_true, Bool.true_and, Bool.and_false, Bool.false_and, Bool.or_false, Bool.false_or, Bool.not_true, Bool.not_false, Nat.zero_add, Nat.sub_zero, Nat.lt_irrefl, Nat.not_lt_zero]
  | 54, _ => simp only [Sh.bt_or, Sh.bt_zero, own_mask, own_mask4, own_shl4, own_shl8, own_shl16, own_shl24, own_shl28, own_shl32, own_shl40, own_shl48, own_shl52, own_shl56, own_ush0, own_ush4, own_ush8, own_ush12, own_ush16, own_ush20, own_ush24, own_ush28, own_ush32, own_ush36, own_ush40, own_ush44, own_ush48, own_G0, own_G1, own_G2, own_G3, own_G4, own_G5, own_G6, own_G7, own_G8, own_G9, own_G10, own_G11, own_G12, own_G13, own_G14, own_G15, own_G16, own_G17, own_G18, own_G19, own_G20, own_G21, own_G22, own_G23, own_G24, own_G25, own_G26, own_G27, own_G28, own_G29, own_G30, own_G31, Sh.bt_big, Nat.reduceLT, Nat.reduceAdd, Nat.reduceSub, Nat.reduceLeDiff, decide_true, decide_false, Bool.and_true, Bool.true_and, Bool.and_false, Bool.false_and, Bool.or_false, Bool.false_or, Bool.not_true, Bool.not_false, Nat.zero_add, Nat.sub_zero, Nat.lt_irrefl, Nat.not_lt_zero]
  | 55, _ => simp only [Sh.bt_or, Sh.bt_zero, own_mask, own_mask4, own_shl4, own_shl8, own_shl16, own_shl24, own_shl28, own_shl32, own_shl40, own_shl48, own_shl52, own_shl56, own_ush0, own_ush4, own_ush8, own_ush12, own_ush16, own_ush20, own_ush24, own_ush28, own_ush32, own_ush36, own_ush40, own_ush44, own_ush48, own_G0, own_G1, own_G2, own_G3, own_G4, own_G5, own_G6, own_G7, own_G8, own_G9, own_G10, own_G11, own_G12, own_G13, own_G14, own_G15, own_G16, own_G17, own_G18, own_G19, own_G20, own_G21, own_G22, own_G23, own_G24, own_G25, own_G26, own_G27, own_G28, own_G29, own_G30, own_G31, Sh.bt_big, Nat.reduceLT, Nat.reduceAdd, Nat.reduceSub, Nat.reduceLeDiff, decide_true, decide_false, Bool.and_true, Bool.true_and, Bool.and_false, Bool.false_and, Bool.or_false, Bool.false_or, Bool.not_true, Bool.not_false, Nat.zero_add, Nat.sub_zero, Nat.lt_irrefl, Nat.not_lt_zero]
  | 56, _ => simp only [Sh.bt_or, Sh.bt_zero, own_mask, own_mask4, own_shl4, own_shl8, own_shl16, own_shl24, own_shl28, own_shl32, own_shl40, own_shl48, own_shl52, own_shl56, own_ush0, own_ush4, own_ush8, own_ush12, own_ush16, own_ush20, own_ush24, own_ush28, own_ush32, own_ush36, own_ush40, own_ush44, own_ush48, own_G0, own_G1, own_G2, own_G3, own_G4, own_G5, own_G6, own_G7, own_G8, own_G9, own_G10, own_G11, own_G12, own_G13, own_G14, own_G15, own_G16, own_G17, own_G18, own_G19, own_G20, own_G21, own_G22, own_G23, own_G24, own_G25, own_G26, own_G27, own_G28, own_G29, own_G30, own_G31, Sh.bt_big, Nat.reduceLT, Nat.reduceAdd, Nat.reduceSub, Nat.reduceLeDiff, decide_true, decide_false, Bool.and_true, Bool.true_and, Bool.and_false, Bool.false_and, Bool.or_false, Bool.false_or, Bool.not_true, Bool.not_false, Nat.zero_add, Nat.sub_zero, Nat.lt_irrefl, Nat.not_lt_zero]
  | 57, _ => simp only [Sh.bt_or, Sh.bt_zero, own_mask, own_mask4, own_shl4, own_shl8, own_shl16, own_shl24, own_shl28, own_shl32, own_shl40, own_shl48, own_shl52, own_shl56, own_ush0, own_ush4, own_ush8, own_ush12, own_ush16, own_ush20, own_ush24, own_ush28, own_ush32, own_ush36, own_ush40, own_ush44, own_ush48, own_G0, own_G1, own_G2, own_G3, own_G4, own_G5, own_G6, own_G7, own_G8, own_G9, own_G10, own_G11, own_G12, own_G13, own_G14, own_G15, own_G16, own_G17, own_G18, own_G19, own_G20, own_G21, own_G22, own_G23, own_G24, own_G25, own_G26, own_G27, own_G28, own_G29, own_G30, own_G31, Sh.bt_big, Nat.reduceLT, Nat.reduceAdd, Nat.reduceSub, Nat.reduceLeDiff, decide_true, decide_false, Bool.and_true, Bool.true_and, Bool.and_false, Bool.false_and, Bool.or_false, Bool.false_or, Bool.not_true, Bool.not_false, Nat.zero_add, Nat.sub_zero, Nat.lt_irrefl, Nat.not_lt_zero]
  | 58, _ => simp only [Sh.bt_or, Sh.bt_zero, own_mask, own_mask4, own_shl4, own_shl8, own_shl16, own_shl24, own_shl28, own_shl32, own_shl40, own_shl48, own_shl52, own_shl56, own_ush0, own_ush4, own_ush8, own_ush12, own_ush16, own_ush20, own_ush24, own_ush28, own_ush32, own_ush36, own_ush40, own_ush44, own_ush48, own_G0, own_G1, own_G2, own_G3, own_G4, own_G5, own_G6, own_G7, own_G8, own_G9, own_G10, own_G11, own_G12, own_G13, own_G14, own_G15, own_G16, own_G17, own_G18, own_G19, own_G20, own_G21, own_G22, own_G23, own_G24, own_G25, own_G26, own_G27, own_G28, own_G29, own_G30, own_G31, Sh.bt_big, Nat.reduceLT, Nat.reduceAdd, Nat.reduceSub, Nat.reduceLeDiff, decide_true, decide_false, Bool.and_true, Bool.true_and, Bool.and_false, Bool.false_and, Bool.or_false, Bool.false_or, Bool.not_true, Bool.not_false, Nat.zero_add, Nat.sub_zero, Nat.lt_irrefl, Nat.not_lt_zero]
  | 59, _ => simp only [Sh.bt_or, Sh.bt_zero, own_mask, own_mask4, own_shl4, own_shl8, own_shl16, own_shl24, own_shl28, own_shl32, own_shl40, own_shl48, own_shl52, own_shl56, own_ush0, own_ush4, own_ush8, own_ush12, own_ush16, own_ush20, own_ush24, own_ush28, own_ush32, own_ush36, own_ush40, own_ush44, own_ush48, own_G0, own_G1, own_G2, own_G3, own_G4, own_G5, own_G6, own_G7, own_G8, own_G9, own_G10, own_G11, own_G12, own_G13, own_G14, own_G15, own_G16, own_G17, own_G18, own_G19, own_G20, own_G21, own_G22, own_G23, own_G24, own_G25, own_G26, own_G27, own_G28, own_G29, own_G30, own_G31, Sh.bt_big, Nat.reduceLT, Nat.reduceAdd, Nat.reduceSub, Nat.reduceLeDiff, decide_true, decide_false, Bool.and_true, Bool.true_and, Bool.and_false, Bool.false_and, Bool.or_false, Bool.false_or, Bool.not_true, Bool.not_false, Nat.zero_add, Nat.sub_zero, Nat.lt_irrefl, Nat.not_lt_zero]
  | 60, _ => simp only [Sh.bt_or, Sh.bt_zero, own_mask, own_mask4, own_shl4, own_shl8, own_shl16, own_shl24, own_shl28, own_shl32, own_shl40, own_shl48, own_shl52, own_shl56, own_ush0, own_ush4, own_ush8, own_ush12, own_ush16, own_ush20, own_ush24, own_ush28, own_ush32, own_ush36, own_ush40, own_ush44, own_ush48, own_G0, own_G1, own_G2, own_G3, own_G4, own_G5, own_G6, own_G7, own_G8, own_G9, own_G10, own_G11, own_G12, own_G13, own_G14, own_G15, own_G16, own_G17, own_G18, own_G19, own_G20, own_G21, own_G22, own_G23, own_G24, own_G25, own_G26, own_G27, own_G28, own_G29, own_G30, own_G31, Sh.bt_big, Nat.reduceLT, Nat.reduceAdd, Nat.reduceSub, Nat.reduceLeDiff, decide_true, decide_false, Bool.and_true, Bool.true_and, Bool.and_false, Bool.false_and, Bool.or_false, Bool.false_or, Bool.not_true, Bool.not_false, Nat.zero_add, Nat.sub_zero, Nat.lt_irrefl, Nat.not_lt_zero]
  | 61, _ => simp only [Sh.bt_or, Sh.bt_zero, own_mask, own_mask4, own_shl4, own_shl8, own_shl16, own_shl24, own_shl28, own_shl32, own_shl40, own_shl48, own_shl52, own_shl56, own_ush0, own_ush4, own_ush8, own_ush12, own_ush16, own_ush20, own_ush24, own_ush28, own_ush32, own_ush36, own_ush40, own_ush44, own_ush48, own_G0, own_G1, own_G2, own_G3, own_G4, own_G5, own_G6, own_G7, own_G8, own_G9, own_G10, own_G11, own_G12, own_G13, own_G14, own_G15, own_G16, own_G17, own_G18, own_G19, own_G20, own_G21, own_G22, own_G23, own_G24, own_G25, own_G26, own_G27, own_G28, own_G29, own_G30, own_G31, Sh.bt_big, Nat.reduceLT, Nat.reduceAdd, Nat.reduceSub, Nat.reduceLeDiff, decide_true, decide_false, Bool.and_true, Bool.true_and, Bool.and_false, Bool.false_and, Bool.or_false, Bool.false_or, Bool.not_true, Bool.not_false, Nat.zero_add, Nat.sub_zero, Nat.lt_irrefl, Nat.not_lt_zero]
  | 62, _ => simp only [Sh.bt_or, Sh.bt_zero, own_mask, own_mask4, own_shl4, own_shl8, own_shl16, own_shl24, own_shl28, own_shl32, own_shl40, own_shl48, own_shl52, own_shl56, own_ush0, own_ush4, own_ush8, own_ush12, own_ush16, own_ush20, own_ush24, own_ush28, own_ush32, own_ush36, own_ush40, own_ush44, own_ush48, own_G0, own_G1, own_G2, own_G3, own_G4, own_G5, own_G6, own_G7, own_G8, own_G9, own_G10, own_G11, own_G12, own_G13, own_G14, own_G15, own_G16, own_G17, own_G18, own_G19, own_G20, own_G21, own_G22, own_G23, own_G24, own_G25, own_G26, own_G27, own_G28, own_G29, own_G30, own_G31, Sh.bt_big, Nat.reduceLT, Nat.reduceAdd, Nat.reduceSub, Nat.reduceLeDiff, decide_true, decide_false, Bool.and_true, Bool.true_and, Bool.and_false, Bool.false_and, Bool.or_false, Bool.false_or, Bool.not_true, Bool.not_false, Nat.zero_add, Nat.sub_zero, Nat.lt_irrefl, Nat.not_lt_zero]
  | 63, _ => simp only [Sh.bt_or, Sh.bt_zero, own_mask, own_mask4, own_shl4, own_shl8, own_shl16, own_shl24, own_shl28, own_shl32, own_shl40, own_shl48, own_shl52, own_shl56, own_ush0, own_ush4, own_ush8, own_ush12, own_ush16, own_ush20, own_ush24, own_ush28, own_ush32, own_ush36, own_ush40, own_ush44, own_ush48, own_G0, own_G1, own_G2, own_G3, own_G4, own_G5, own_G6, own_G7, own_G8, own_G9, own_G10, own_G11, own_G12, own_G13, own_G14, own_G15, own_G16, own_G17, own_G18, own_G19, own_G20, own_G21, own_G22, own_G23, own_G24, own_G25, own_G26, own_G27, own_G28, own_G29, own_G30, own_G31, Sh.bt_big, Nat.reduceLT, Nat.reduceAdd, Nat.reduceSub, Nat.reduceLeDiff, decide_true, decide_false, Bool.and_true, Bool.true_and, Bool.and_false, Bool.false_and, Bool.or_false, Bool.false_or, Bool.not_true, Bool.not_false, Nat.zero_add, Nat.sub_zero, Nat.lt_irrefl, Nat.not_lt_zero]
  | n + 64, h => exact absurd h (by omega)
theorem own_e2 (a0 a1 a2 a3 a4 : Int64) : own_word (own_f (a0 &&& 4503599627370495) (a1 &&& 4503599627370495) (a2 &&& 4503599627370495) (a3 &&& 4503599627370495) (a4 &&& 281474976710655) 23) (own_f (a0 &&& 4503599627370495) (a1 &&& 4503599627370495) (a2 &&& 4503599627370495) (a3 &&& 4503599627370495) (a4 &&& 281474976710655) 22) (own_f (a0 &&& 4503599627370495) (a1 &&& 4503599627370495) (a2 &&& 4503599627370495) (a3 &&& 4503599627370495) (a4 &&& 281474976710655) 21) (own_f (a0 &&& 4503599627370495) (a1 &&& 4503599627370495) (a2 &&& 4503599627370495) (a3 &&& 4503599627370495) (a4 &&& 281474976710655) 20) (own_f (a0 &&& 4503599627370495) (a1 &&& 4503599627370495) (a2 &&& 4503599627370495) (a3 &&& 4503599627370495) (a4 &&& 281474976710655) 19) (own_f (a0 &&& 4503599627370495) (a1 &&& 4503599627370495) (a2 &&& 4503599627370495) (a3 &&& 4503599627370495) (a4 &&& 281474976710655) 18) (own_f (a0 &&& 4503599627370495) (a1 &&& 4503599627370495) (a2 &&& 4503599627370495) (a3 &&& 4503599627370495) (a4 &&& 281474976710655) 17) (own_f (a0 &&& 4503599627370495) (a1 &&& 4503599627370495) (a2 &&& 4503599627370495) (a3 &&& 4503599627370495) (a4 &&& 281474976710655) 16) = ((XT.ushrL (a2 &&& 4503599627370495) 24) ||| ((a3 &&& 4503599627370495) <<< ((28 : Int32).toInt64 &&& 63))) := by
  refine Sh.bt_ext fun i hi => ?_
  rw [own_word]
  match i, hi with
  | 0, _ => simp only [Sh.bt_or, Sh.bt_zero, own_mask, own_mask4, own_shl4, own_shl8, own_shl16, own_shl24, own_shl28, own_shl32, own_shl40, own_shl48, own_shl52, own_shl56, own_ush0, own_ush4, own_ush8, own_ush12, own_ush16, own_ush20, own_ush24, own_ush28, own_ush32, own_ush36, own_ush40, own_ush44, own_ush48, own_G0, own_G1, own_G2, own_G3, own_G4, own_G5, own_G6, own_G7, own_G8, own_G9, own_G10, own_G11, own_G12, own_G13, own_G14, own_G15, own_G16, own_G17, own_G18, own_G19, own_G20, own_G21, own_G22, own_G23, own_G24, own_G25, own_G26, own_G27, own_G28, own_G29, own_G30, own_G31, Sh.bt_big, Nat.reduceLT, Nat.reduceAdd, Nat.reduceSub, Nat.reduceLeDiff, decide_true, decide_false, Bool.and_true, Bool.true_and, Bool.and_false, Bool.false_and, Bool.or_false, Bool.false_or, Bool.not_true, Bool.not_false, Nat.zero_add, Nat.sub_zero, Nat.lt_irrefl, Nat.not_lt_zero]
  | 1, _ => simp only [Sh.bt_or, Sh.bt_zero, own_mask, own_mask4, own_shl4, own_shl8, own_shl16, own_shl24, own_shl28, own_shl32, own_shl40, own_shl48, own_shl52, own_shl56, own_ush0, own_ush4, own_ush8, own_ush12, own_ush16, own_ush20, own_ush24, own_ush28, own_ush32, own_ush36, own_ush40, own_ush44, own_ush48, own_G0, own_G1, own_G2, own_G3, own_G4, own_G5, own_G6, own_G7, own_G8, own_G9, own_G10, own_G11, own_G12, own_G13, own_G14, own_G15, own_G16, own_G17, own_G18, own_G19, own_G20, own_G21, own_G22, own_G23, own_G24, own_G25, own_G26, own_G27, own_G28, own_G29, own_G30, own_G31, Sh.bt_big, Nat.reduceLT, Nat.reduceAdd, Nat.reduceSub, Nat.reduceLeDiff, decide_true, decide_false, Bool.and_true, Bool.true_and, Bool.and_false, Bool.false_and, Bool.or_false, Bool.false_or, Bool.not_true, Bool.not_false, Nat.zero_add, Nat.sub_zero, Nat.lt_irrefl, Nat.not_lt_zero]
  | 2, _ => simp only [Sh.bt_or, Sh.bt_zero, own_mask, own_mask4, own_shl4, own_shl8, own_shl16, own_shl24, own_shl28, own_shl32, own_shl40, own_shl48, own_shl52, own_shl56, own_ush0, own_ush4, own_ush8, own_ush12, own_ush16, own_ush20, own_ush24, own_ush28, own_ush32, own_ush36, own_ush40, own_ush44, own_ush48, own_G0, own_G1, own_G2, own_G3, own_G4, own_G5, own_G6, own_G7, own_G8, own_G9, own_G10, own_G11, own_G12, own_G13, own_G14, own_G15, own_G16, own_G17, own_G18, own_G19, own_G20, own_G21, own_G22, own_G23, own_G24, own_G25, own_G26, own_G27, own_G28, own_G29, own_G30, own_G31, Sh.bt_big, Nat.reduceLT, Nat.reduceAdd, Nat.reduceSub, Nat.reduceLeDiff, decide_true, decide_false, Bool.and_true, Bool.true_and, Bool.and_false, Bool.false_and, Bool.or_false, Bool.false_or, Bool.not_true, Bool.not_false, Nat.zero_add, Nat.sub_zero, Nat.lt_irrefl, Nat.not_lt_zero]
  | 3, _ => simp only [Sh.bt_or, Sh.bt_zero, own_mask, own_mask4, own_shl4, own_shl8, own_shl16, own_shl24, own_shl28, own_shl32, own_shl40, own_shl48, own_shl52, own_shl56, own_ush0, own_ush4, own_ush8, own_ush12, own_ush16, own_ush20, own_ush24, own_ush28, own_ush32, own_ush36, own_ush40, own_ush44, own_ush48, own_G0, own_G1, own_G2, own_G3, own_G4, own_G5, own_G6, own_G7, own_G8, own_G9, own_G10, own_G11, own_G12, own_G13, own_G14, own_G15, own_G16, own_G17, own_G18, own_G19, own_G20, own_G21, own_G22, own_G23, own_G24, own_G25, own_G26, own_G27, own_G28, own_G29, own_G30, own_G31, Sh.bt_big, Nat.reduceLT, Nat.reduceAdd, Nat.reduceSub, Nat.reduceLeDiff, decide_true, decide_false, Bool.and_true, Bool.true_and, Bool.and_false, Bool.false_and, Bool.or_false, Bool.false_or, Bool.not_true, Bool.not_false, Nat.zero_add, Nat.sub_zero, Nat.lt_irrefl, Nat.not_lt_zero]
  | 4, _ => simp only [Sh.bt_or, Sh.bt_zero, own_mask, own_mask4, own_shl4, own_shl8, own_shl16, own_shl24, own_shl28, own_shl32, own_shl40, own_shl48, own_shl52, own_shl56, own_ush0, own_ush4, own_ush8, own_ush12, own_ush16, own_ush20, own_ush24, own_ush28, own_ush32, own_ush36, own_ush40, own_ush44, own_ush48, own_G0, own_G1, own_G2, own_G3, own_G4, own_G5, own_G6, own_G7, own_G8, own_G9, own_G10, own_G11, own_G12, own_G13, own_G14, own_G15, own_G16, own_G17, own_G18, own_G19, own_G20, own_G21, own_G22, own_G23, own_G24, own_G25, own_G26, own_G27, own_G28, own_G29, own_G30, own_G31, Sh.bt_big, Nat.reduceLT, Nat.reduceAdd, Nat.reduceSub, Nat.reduceLeDiff, decide_true, decide_false, Bool.and_true, Bool.true_and, Bool.and_false, Bool.false_and, Bool.or_false, Bool.false_or, Bool.not_true, Bool.not_false, Nat.zero_add, Nat.sub_zero, Nat.lt_irrefl, Nat.not_lt_zero]
  | 5, _ => simp only [Sh.bt_or, Sh.bt_zero, own_mask, own_mask4, own_shl4, own_shl8, own_shl16, own_shl24, own_shl28, own_shl32, own_shl40, own_shl48, own_shl52, own_shl56, own_ush0, own_ush4, own_ush8, own_ush12, own_ush16, own_ush20, own_ush24, own_ush28, own_ush32, own_ush36, own_ush40, own_ush44, own_ush48, own_G0, own_G1, own_G2, own_G3, own_G4, own_G5, own_G6, own_G7, own_G8, own_G9, own_G10, own_G11, own_G12, own_G13, own_G14, own_G15, own_G16, own_G17, own_G18, own_G19, own_G20, own_G21, own_G22, own_G23, own_G24, own_G25, own_G26, own_G27, own_G28, own_G29, own_G30, own_G31, Sh.bt_big, Nat.reduceLT, Nat.reduceAdd, Nat.reduceSub, Nat.reduceLeDiff, decide_true, decide_false, Bool.and_true, Bool.true_and, Bool.and_false, Bool.false_and, Bool.or_false, Bool.false_or, Bool.not_true, Bool.not_false, Nat.zero_add, Nat.sub_zero, Nat.lt_irrefl, Nat.not_lt_zero]
  | 6, _ => simp only [Sh.bt_or, Sh.bt_zero, own_mask, own_mask4, own_shl4, own_shl8, own_shl16, own_shl24, own_shl28, own_shl32, own_shl40, own_shl48, own_shl52, own_shl56, own_ush0, own_ush4, own_ush8, own_ush12, own_ush16, own_ush20, own_ush24, own_ush28, own_ush32, own_ush36, own_ush40, own_ush44, own_ush48, own_G0, own_G1, own_G2, own_G3, own_G4, own_G5, own_G6, own_G7, own_G8, own_G9, own_G10, own_G11, own_G12, own_G13, own_G14, own_G15, own_G16, own_G17, own_G18, own_G19, own_G20, own_G21, own_G22, own_G23, own_G24, own_G25, own_G26, own_G27, own_G28, own_G29, own_G30, own_G31, Sh.bt_big, Nat.reduceLT, Nat.reduceAdd, Nat.reduceSub, Nat.reduceLeDiff, decide_true, decide_false, Bool.and_true, Bool.true_and, Bool.and_false, Bool.false_and, Bool.or_false, Bool.false_or, Bool.not_true, Bool.not_false, Nat.zero_add, Nat.sub_zero, Nat.lt_irrefl, Nat.not_lt_zero]
  | 7, _ => simp only [Sh.bt_or, Sh.bt_zero, own_mask, own_mask4, own_shl4, own_shl8, own_shl16, own_shl24, own_shl28, own_shl32, own_shl40, own_shl48, own_shl52, own_shl56, own_ush0, own_ush4, own_ush8, own_ush12, own_ush16, own_ush20, own_ush24, own_ush28, own_ush32, own_ush36, own_ush40, own_ush44, own_ush48, own_G0, own_G1, own_G2, own_G3, own_G4, own_G5, own_G6, own_G7, own_G8, own_G9, own_G10, own_G11, own_G12, own_G13, own_G14, own_G15, own_G16, own_G17, own_G18, own_G19, own_G20, own_G21, own_G22, own_G23, own_G24, own_G25, own_G26, own_G27, own_G28, own_G29, own_G30, own_G31, Sh.bt_big, Nat.reduceLT, Nat.reduceAdd, Nat.reduceSub, Nat.reduceLeDiff, decide_true, decide_false, Bool.and_true, Bool.true_and, Bool.and_false, Bool.false_and, Bool.or_false, Bool.false_or, Bool.not_true, Bool.not_false, Nat.zero_add, Nat.sub_zero, Nat.lt_irrefl, Nat.not_lt_zero]
  | 8, _ => simp only [Sh.bt_or, Sh.bt_zero, own_mask, own_mask4, own_shl4, own_shl8, own_shl16, own_shl24, own_shl28, own_shl32, own_shl40, own_shl48, own_shl52, own_shl56, own_ush0, own_ush4, own_ush8, own_ush12, own_ush16, own_ush20, own_ush24, own_ush28, own_ush32, own_ush36, own_ush40, own_ush44, own_ush48, own_G0, own_G1, own_G2, own_G3, own_G4, own_G5, own_G6, own_G7, own_G8, own_G9, own_G10, own_G11, own_G12, own_G13, own_G14, own_G15, own_G16, own_G17, own_G18, own_G19, own_G20, own_G21, own_G22, own_G23, own_G24, own_G25, own_G26, own_G27, own_G28, own_G29, own_G30, own_G31, Sh.bt_big, Nat.reduceLT, Nat.reduceAdd, Nat.reduceSub, Nat.reduceLeDiff, decide_true, decide_false, Bool.and_true, Bool.true_and, Bool.and_false, Bool.false_and, Bool.or_false, Bool.false_or, Bool.not_true, Bool.not_false, Nat.zero_add, Nat.sub_zero, Nat.lt_irrefl, Nat.not_lt_zero]
  | 9, _ => simp only [Sh.bt_or, Sh.bt_zero, own_mask, own_mask4, own_shl4, own_shl8, own_shl16, own_shl24, own_shl28, own_shl32, own_shl40, own_shl48, own_shl52, own_shl56, own_ush0, own_ush4, own_ush8, own_ush12, own_ush16, own_ush20, own_ush24, own_ush28, own_ush32, own_ush36, own_ush40, own_ush44, own_ush48, own_G0, own_G1, own_G2, own_G3, own_G4, own_G5, own_G6, own_G7, own_G8, own_G9, own_G10, own_G11, own_G12, own_G13, own_G14, own_G15, own_G16, own_G17, own_G18, own_G19, own_G20, own_G21, own_G22, own_G23, own_G24, own_G25, own_G26, own_G27, own_G28, own_G29, own_G30, own_G31, Sh.bt_big, Nat.reduceLT, Nat.reduceAdd, Nat.reduceSub, Nat.reduceLeDiff, decide_true, decide_false, Bool.and_true, Bool.true_and, Bool.and_false, Bool.false_and, Bool.or_false, Bool.false_or, Bool.not_true, Bool.not_false, Nat.zero_add, Nat.sub_zero, Nat.lt_irrefl, Nat.not_lt_zero]
  | 10, _ => simp only [Sh.bt_or, Sh.bt_zero, own_mask, own_mask4, own_shl4, own_shl8, own_shl16, own_shl24, own_shl28, own_shl32, own_shl40, own_shl48, own_shl52, own_shl56, own_ush0, own_ush4, own_ush8, own_ush12, own_ush16, own_ush20, own_ush24, own_ush28, own_ush32, own_ush36, own_ush40, own_ush44, own_ush48, own_G0, own_G1, own_G2, own_G3, own_G4, own_G5, own_G6, own_G7, own_G8, own_G9, own_G10, own_G11, own_G12, own_G13, own_G14, own_G15, own_G16, own_G17, own_G18, own_G19, own_G20, own_G21, own_G22, own_G23, own_G24, own_G25, own_G26, own_G27, own_G28, own_G29, own_G30, own_G31, Sh.bt_big, Nat.reduceLT, Nat.reduceAdd, Nat.reduceSub, Nat.reduceLeDiff, decide_true, decide_false, Bool.and_true, Bool.true_and, Bool.and_false, Bool.false_and, Bool.or_false, Bool.false_or, Bool.not_true, Bool.not_false, Nat.zero_add, Nat.sub_zero, Nat.lt_irrefl, Nat.not_lt_zero]
  | 11, _ => simp only [Sh.bt_or, Sh.bt_zero, own_mask, own_mask4, own_shl4, own_shl8, own_shl16, own_shl24, own_shl28, own_shl32, own_shl40, own_shl48, own_shl52, own_shl56, own_ush0, own_ush4, own_ush8, own_ush12, own_ush16, own_ush20, own_ush24, own_ush28, own_ush32, own_ush36, own_ush40, own_ush44, own_ush48, own_G0, own_G1, own_G2, own_G3, own_G4, own_G5, own_G6, own_G7, own_G8, own_G9, own_G10, own_G11, own_G12, own_G13, own_G14, own_G15, own_G16, own_G17, own_G18, own_G19, own_G20, own_G21, own_G22, own_G23, own_G24, own_G25, own_G26, own_G27, own_G28, own_G29, own_G30, own_G31, Sh.bt_big, Nat.reduceLT, Nat.reduceAdd, Nat.reduceSub, Nat.reduceLeDiff, decide_true, decide_false, Bool.and_true, Bool.true_and, Bool.and_false, Bool.false_and, Bool.or_false, Bool.false_or, Bool.not_true, Bool.not_false, Nat.zero_add, Nat.sub_zero, Nat.lt_irrefl, Nat.not_lt_zero]
  | 12, _ => simp only [Sh.bt_or, Sh.bt_zero, own_mask, own_mask4, own_shl4, own_shl8, own_shl16, own_shl24, own_shl28, own_shl32, own_shl40, own_shl48, own_shl52, own_shl56, own_ush0, own_ush4, own_ush8, own_ush12, own_ush16, own_ush20, own_ush24, own_ush28, own_ush32, own_ush36, own_ush40, own_ush44, own_ush48, own_G0, own_G1, own_G2, own_G3, own_G4, own_G5, own_G6, own_G7, own_G8, own_G9, own_G10, own_G11, own_G12, own_G13, own_G14, own_G15, own_G16, own_G17, own_G18, own_G19, own_G20, own_G21, own_G22, own_G23, own_G24, own_G25, own_G26, own_G27, own_G28, own_G29, own_G30, own_G31, Sh.bt_big, Nat.reduceLT, Nat.reduceAdd, Nat.reduceSub, Nat.reduceLeDiff, decide_true, decide_false, Bool.and_true, Bool.true_and, Bool.and_false, Bool.false_and, Bool.or_false, Bool.false_or, Bool.not_true, Bool.not_false, Nat.zero_add, Nat.sub_zero, Nat.lt_irrefl, Nat.not_lt_zero]
  | 13, _ => simp only [Sh.bt_or, Sh.bt_zero, own_mask, own_mask4, own_shl4, own_shl8, own_shl16, own_shl24, own_shl28, own_shl32, own_shl40, own_shl48, own_shl52, own_shl56, own_ush0, own_ush4, own_ush8, own_ush12, own_ush16, own_ush20, own_ush24, own_ush28, own_ush32, own_ush36, own_ush40, own_ush44, own_ush48, own_G0, own_G1, own_G2, own_G3, own_G4, own_G5, own_G6, own_G7, own_G8, own_G9, own_G10, own_G11, own_G12, own_G13, own_G14, own_G15, own_G16, own_G17, own_G18, own_G19, own_G20, own_G21, own_G22, own_G23, own_G24, own_G25, own_G26, own_G27, own_G28, own_G29, own_G30, own_G31, Sh.bt_big, Nat.reduceLT, Nat.reduceAdd, Nat.reduceSub, Nat.reduceLeDiff, decide_true, decide_false, Bool.and_true, Bool.true_and, Bool.and_false, Bool.false_and, Bool.or_false, Bool.false_or, Bool.not_true, Bool.not_false, Nat.zero_add, Nat.sub_zero, Nat.lt_irrefl, Nat.not_lt_zero]
  | 14, _ => simp only [Sh.bt_or, Sh.bt_zero, own_mask, own_mask4, own_shl4, own_shl8, own_shl16, own_shl24, own_shl28, own_shl32, own_shl40, own_shl48, own_shl52, own_shl56, own_ush0, own_ush4, own_ush8, own_ush12, own_ush16, own_ush20, own_ush24, own_ush28, own_ush32, own_ush36, own_ush40, own_ush44, own_ush48, own_G0, own_G1, own_G2, own_G3, own_G4, own_G5, own_G6, own_G7, own_G8, own_G9, own_G10, own_G11, own_G12, own_G13, own_G14, own_G15, own_G16, own_G17, own_G18, own_G19, own_G20, own_G21, own_G22, own_G23, own_G24, own_G25, own_G26, own_G27, own_G28, own_G29, own_G30, own_G31, Sh.bt_big, Nat.reduceLT, Nat.reduceAdd, Nat.reduceSub, Nat.reduceLeDiff, decide_true, decide_false, Bool.and_true, Bool.true_and, Bool.and_false, Bool.false_and, Bool.or_false, Bool.false_or, Bool.not_true, Bool.not_false, Nat.zero_add, Nat.sub_zero, Nat.lt_irrefl, Nat.not_lt_zero]
  | 15, _ => simp only [Sh.bt_or, Sh.bt_zero, own_mask, own_mask4, own_shl4, own_shl8, own_shl16, own_shl24, own_shl28, own_shl32, own_shl40, own_shl48, own_shl52, own_shl56, own_ush0, own_ush4, own_ush8, own_ush12, own_ush16, own_ush20, own_ush24, own_ush28, own_ush32, own_ush36, own_ush40, own_ush44, own_ush48, own_G0, own_G1, own_G2, own_G3, own_G4, own_G5, own_G6, own_G7, own_G8, own_G9, own_G10, own_G11, own_G12, own_G13, own_G14, own_G15, own_G16, own_G17, own_G18, own_G19, own_G20, own_G21, own_G22, own_G23, own_G24, own_G25, own_G26, own_G27, own_G28, own_G29, own_G30, own_G31, Sh.bt_big, Nat.reduceLT, Nat.reduceAdd, Nat.reduceSub, Nat.reduceLeDiff, decide_true, decide_false, Bool.and_true, Bool.true_and, Bool.and_false, Bool.false_and, Bool.or_false, Bool.false_or, Bool.not_true, Bool.not_false, Nat.zero_add, Nat.sub_zero, Nat.lt_irrefl, Nat.not_lt_zero]
  | 16, _ => simp only [Sh.bt_or, Sh.bt_zero, own_mask, own_mask4, own_shl4, own_shl8, own_shl16, own_shl24, own_shl28, own_shl32, own_shl40, own_shl48, own_shl52, own_shl56, own_ush0, own_ush4, own_ush8, own_ush12, own_ush16, own_ush20, own_ush24, own_ush28, own_ush32, own_ush36, own_ush40, own_ush44, own_ush48, own_G0, own_G1, own_G2, own_G3, own_G4, own_G5, own_G6, own_G7, own_G8, own_G9, own_G10, own_G11, own_G12, own_G13, own_G14, own_G15, own_G16, own_G17, own_G18, own_G19, own_G20, own_G21, own_G22, own_G23, own_G24, own_G25, own_G26, own_G27, own_G28, own_G29, own_G30, own_G31, Sh.bt_big, Nat.reduceLT, Nat.reduceAdd, Nat.reduceSub, Nat.reduceLeDiff, decide_true, decide_false, Bool.and_true, Bool.true_and, Bool.and_false, Bool.false_and, Bool.or_false, Bool.false_or, Bool.not_true, Bool.not_false, Nat.zero_add, Nat.sub_zero, Nat.lt_irrefl, Nat.not_lt_zero]
  | 17, _ => simp only [Sh.bt_or, Sh.bt_zero, own_mask, own_mask4, own_shl4, own_shl8, own_shl16, own_shl24, own_shl28, own_shl32, own_shl40, own_shl48, own_shl52, own_shl56, own_ush0, own_ush4, own_ush8, own_ush12, own_ush16, own_ush20, own_ush24, own_ush28, own_ush32, own_ush36, own_ush40, own_ush44, own_ush48, own_G0, own_G1, own_G2, own_G3, own_G4, own_G5, own_G6, own_G7, own_G8, own_G9, own_G10, own_G11, own_G12, own_G13, own_G14, own_G15, own_G16, own_G17, own_G18, own_G19, own_G20, own_G21, own_G22, own_G23, own_G24, own_G25, own_G26, own_G27, own_G28, own_G29, own_G30, own_G31, Sh.bt_big, Nat.reduceLT, Nat.reduceAdd, Nat.reduceSub, Nat.reduceLeDiff, decide_true, decide_false, Bool.and_true, Bool.true_and, Bool.and_false, Bool.false_and, Bool.or_false, Bool.false_or, Bool.not_true, Bool.not_false, Nat.zero_add, Nat.sub_zero, Nat.lt_irrefl, Nat.not_lt_zero]
  | 18, _ => simp only [Sh.bt_or, Sh.bt_zero, own_mask, own_mask4, own_shl4, own_shl8, own_shl16, own_shl24, own_shl28, own_shl32, own_shl40, own_shl48, own_shl52, own_shl56, own_ush0, own_ush4, own_ush8, own_ush12, own_ush16, own_ush20, own_ush24, own_ush28, own_ush32, own_ush36, own_ush40, own_ush44, own_ush48, own_G0, own_G1, own_G2, own_G3, own_G4, own_G5, own_G6, own_G7, own_G8, own_G9, own_G10, own_G11, own_G12, own_G13, own_G14, own_G15, own_G16, own_G17, own_G18, own_G19, own_G20, own_G21, own_G22, own_G23, own_G24, own_G25, own_G26, own_G27, own_G28, own_G29, own_G30, own_G31, Sh.bt_big, Nat.reduceLT, Nat.reduceAdd, Nat.reduceSub, Nat.reduceLeDiff, decide_true, decide_false, Bool.and_true, Bool.true_and, Bool.and_false, Bool.false_and, Bool.or_false, Bool.false_or, Bool.not_true, Bool.not_false, Nat.zero_add, Nat.sub_zero, Nat.lt_irrefl, Nat.not_lt_zero]
  | 19, _ => simp only [Sh.bt_or, Sh.bt_zero, own_mask, own_mask4, own_shl4, own_shl8, own_shl16, own_shl24, own_shl28, own_shl32, own_shl40, own_shl48, own_shl52, own_shl56, own_ush0, own_ush4, own_ush8, own_ush12, own_ush16, own_ush20, own_ush24, own_ush28, own_ush32, own_ush36, own_ush40, own_ush44, own_ush48, own_G0, own_G1, own_G2, own_G3, own_G4, own_G5, own_G6, own_G7, own_G8, own_G9, own_G10, own_G11, own_G12, own_G13, own_G14, own_G15, own_G16, own_G17, own_G18, own_G19, own_G20, own_G21, own_G22, own_G23, own_G24, own_G25, own_G26, own_G27, own_G28, own_G29, own_G30, own_G31, Sh.bt_big, Nat.reduceLT, Nat.reduceAdd, Nat.reduceSub, Nat.reduceLeDiff, decide_true, decide_false, Bool.and_true, Bool.true_and, Bool.and_false, Bool.false_and, Bool.or_false, Bool.false_or, Bool.not_true, Bool.not_false, Nat.zero_add, Nat.sub_zero, Nat.lt_irrefl, Nat.not_lt_zero]
  | 20, _ => simp only [Sh.bt_or, Sh.bt_zero, own_mask, own_mask4, own_shl4, own_shl8, own_shl16, own_shl24, own_shl28, own_shl32, own_shl40, own_shl48, own_shl52, own_shl56, own_ush0, own_ush4, own_ush8, own_ush12, own_ush16, own_ush20, own_ush24, own_ush28, own_ush32, own_ush36, own_ush40, own_ush44, own_ush48, own_G0, own_G1, own_G2, own_G3, own_G4, own_G5, own_G6, own_G7, own_G8, own_G9, own_G10, own_G11, own_G12, own_G13, own_G14, own_G15, own_G16, own_G17, own_G18, own_G19, own_G20, own_G21, own_G22, own_G23, own_G24, own_G25, own_G26, own_G27, own_G28, own_G29, own_G30, own_G31, Sh.bt_big, Nat.reduceLT, Nat.reduceAdd, Nat.reduceSub, Nat.reduceLeDiff, decide_true, decide_false, Bool.and_true, Bool.true_and, Bool.and_false, Bool.false_and, Bool.or_false, Bool.false_or, Bool.not_true, Bool.not_false, Nat.zero_add, Nat.sub_zero, Nat.lt_irrefl, Nat.not_lt_zero]
  | 21, _ => simp only [Sh.bt_or, Sh.bt_zero, own_mask, own_mask4, own_shl4, own_shl8, own_shl16, own_shl24, own_shl28, own_shl32, own_shl40, own_shl48, own_shl52, own_shl56, own_ush0, own_ush4, own_ush8, own_ush12, own_ush16, own_ush20, own_ush24, own_ush28, own_ush32, own_ush36, own_ush40, own_ush44, own_ush48, own_G0, own_G1, own_G2, own_G3, own_G4, own_G5, own_G6, own_G7, own_G8, own_G9, own_G10, own_G11, own_G12, own_G13, own_G14, own_G15, own_G16, own_G17, own_G18, own_G19, own_G20, own_G21, own_G22, own_G23, own_G24, own_G25, own_G26, own_G27, own_G28, own_G29, own_G30, own_G31, Sh.bt_big, Nat.reduceLT, Nat.reduceAdd, Nat.reduceSub, Nat.reduceLeDiff, decide_true, decide_false, Bool.and_true, Bool.true_and, Bool.and_false, Bool.false_and, Bool.or_false, Bool.false_or, Bool.not_true, Bool.not_false, Nat.zero_add, Nat.sub_zero, Nat.lt_irrefl, Nat.not_lt_zero]
  | 22, _ => simp only [Sh.bt_or, Sh.bt_zero, own_mask, own_mask4, own_shl4, own_shl8, own_shl16, own_shl24, own_shl28, own_shl32, own_shl40, own_shl48, own_shl52, own_shl56, own_ush0, own_ush4, own_ush8, own_ush12, own_ush16, own_ush20, own_ush24, own_ush28, own_ush32, own_ush36, own_ush40, own_ush44, own_ush48, own_G0, own_G1, own_G2, own_G3, own_G4, own_G5, own_G6, own_G7, own_G8, own_G9, own_G10, own_G11, own_G12, own_G13, own_G14, own_G15, own_G16, own_G17, own_G18, own_G19, own_G20, own_G21, own_G22, own_G23, own_G24, own_G25, own_G26, own_G27, own_G28, own_G29, own_G30, own_G31, Sh.bt_big, Nat.reduceLT, Nat.reduceAdd, Nat.reduceSub, Nat.reduceLeDiff, decide_true, decide_false, Bool.and_true, Bool.true_and, Bool.and_false, Bool.false_and, Bool.or_false, Bool.false_or, Bool.not_true, Bool.not_false, Nat.zero_add, Nat.sub_zero, Nat.lt_irrefl, Nat.not_lt_zero]
  | 23, _ => simp only [Sh.bt_or, Sh.bt_zero, own_mask, own_mask4, own_shl4, own_shl8, own_shl16, own_shl24, own_shl28, own_shl32, own_shl40, own_shl48, own_shl52, own_shl56, own_ush0, own_ush4, own_ush8, own_ush12, own_ush16, own_ush20, own_ush24, own_ush28, own_ush32, own_ush36, own_ush40, own_ush44, own_ush48, own_G0, own_G1, own_G2, own_G3, own_G4, own_G5, own_G6, own_G7, own_G8, own_G9, own_G10, own_G11, own_G12, own_G13, own_G14, own_G15, own_G16, own_G17, own_G18, own_G19, own_G20, own_G21, own_G22, own_G23, own_G24, own_G25, own_G26, own_G27, own_G28, own_G29, own_G30, own_G31, Sh.bt_big, Nat.reduceLT, Nat.reduceAdd, Nat.reduceSub, Nat.reduceLeDiff, decide_true, decide_false, Bool.and_true, Bool.true_and, Bool.and_false, Bool.false_and, Bool.or_false, Bool.false_or, Bool.not_true, Bool.not_false, Nat.zero_add, Nat.sub_zero, Nat.lt_irrefl, Nat.not_lt_zero]
  | 24, _ => simp only [Sh.bt_or, Sh.bt_zero, own_mask, own_mask4, own_shl4, own_shl8, own_shl16, own_shl24, own_shl28, own_shl32, own_shl40, own_shl48, own_shl52, own_shl56, own_ush0, own_ush4, own_ush8, own_ush12, own_ush16, own_ush20, own_ush24, own_ush28, own_ush32, own_ush36, own_ush40, own_ush44, own_ush48, own_G0, own_G1, own_G2, own_G3, own_G4, own_G5, own_G6, own_G7, own_G8, own_G9, own_G10, own_G11, own_G12, own_G13, own_G14, own_G15, own_G16, own_G17, own_G18, own_G19, own_G20, own_G21, own_G22, own_G23, own_G24, own_G25, own_G26, own_G27, own_G28, own_G29, own_G30, own_G31, Sh.bt_big, Nat.reduceLT, Nat.reduceAdd, Nat.reduceSub, Nat.reduceLeDiff, decide_true, decide_false, Bool.and_true, Bool.true_and, Bool.and_false, Bool.false_and, Bool.or_false, Bool.false_or, Bool.not_true, Bool.not_false, Nat.zero_add, Nat.sub_zero, Nat.lt_irrefl, Nat.not_lt_zero]
  | 25, _ => simp only [Sh.bt_or, Sh.bt_zero, own_mask, own_mask4, own_shl4, own_shl8, own_shl16, own_shl24, own_shl28, own_shl32, own_shl40, own_shl48, own_shl52, own_shl56, own_ush0, own_ush4, own_ush8, own_ush12, own_ush16, own_ush20, own_ush24, own_ush28, own_ush32, own_ush36, own_ush40, own_ush44, own_ush48, own_G0, own_G1, own_G2, own_G3, own_G4, own_G5, own_G6, own_G7, own_G8, own_G9, own_G10, own_G11, own_G12, own_G13, own_G14, own_G15, own_G16, own_G17, own_G18, own_G19, own_G20, own_G21, own_G22, own_G23, own_G24, own_G25, own_G26, own_G27, own_G28, own_G29, own_G30, own_G31, Sh.bt_big, Nat.reduceLT, Nat.reduceAdd, Nat.reduceSub, Nat.reduceLeDiff, decide_true, decide_false, Bool.and_true, Bool.true_and, Bool.and_false, Bool.false_and, Bool.or_false, Bool.false_or, Bool.not_true, Bool.not_false, Nat.zero_add, Nat.sub_zero, Nat.lt_irrefl, Nat.not_lt_zero]
  | 26, _ => simp only [Sh.bt_or, Sh.bt_zero, own_mask, own_mask4, own_shl4, own_shl8, own_shl16, own_shl24, own_shl28, own_shl32, own_shl40, own_shl48, own_shl52, own_shl56, own_ush0, own_ush4, own_ush8, own_ush12, own_ush16, own_ush20, own_ush24, own_ush28, own_ush32, own_ush36, own_ush40, own_ush44, own_ush48, own_G0, own_G1, own_G2, own_G3, own_G4, own_G5, own_G6, own_G7, own_G8, own_G9, own_G10, own_G11, own_G12, own_G13, own_G14, own_G15, own_G16, own_G17, own_G18, own_G19, own_G20, own_G21, own_G22, own_G23, own_G24, own_G25, own_G26, own_G27, own_G28, own_G29, own_G30, own_G31, Sh.bt_big, Nat.reduceLT, Nat.reduceAdd, Nat.reduceSub, Nat.reduceLeDiff, decide_true, decide_false, Bool.and_true, Bool.true_and, Bool.and_false, Bool.false_and, Bool.or_false, Bool.false_or, Bool.not_true, Bool.not_false, Nat.zero_add, Nat.sub_zero, Nat.lt_irrefl, Nat.not_lt_zero]
  | 27, _ => simp only [Sh.bt_or, Sh.bt_zero, own_mask, own_mask4, own_shl4, own_shl8, own_shl16, own_shl24, own_shl28, own_shl32, own_shl40, own_shl48, own_shl52, own_shl56, own_ush0, own_ush4, own_ush8, own_ush12, own_ush16, own_ush20, own_ush24, own_ush28, own_ush32, own_ush36, own_ush40, own_ush44, own_ush48, own_G0, own_G1, own_G2, own_G3, own_G4, own_G5, own_G6, own_G7, own_G8, own_G9, own_G10, own_G11, own_G12, own_G13, own_G14, own_G15, own_G16, own_G17, own_G18, own_G19, own_G20, own_G21, own_G22, own_G23, own_G24, own_G25, own_G26, own_G27, own_G28, own_G29, own_G30, own_G31, Sh.bt_big, Nat.reduceLT, Nat.reduceAdd, Nat.reduceSub, Nat.reduceLeDiff, decide_true, decide_false, Bool.and_true, Bool.true_and, Bool.and_false, Bool.false_and, Bool.or_false, Bool.false_or, Bool.not_true, Bool.not_false, Nat.zero_add, Nat.sub_zero, Nat.lt_irrefl, Nat.not_lt_zero]
  | 28, _ => simp only [Sh.bt_or, Sh.bt_zero, own_mask, own_mask4, own_shl4, own_shl8, own_shl16, own_shl24, own_shl28, own_shl32, own_shl40, own_shl48, own_shl52, own_shl56, own_ush0, own_ush4, own_ush8, own_ush12, own_ush16, own_ush20, own_ush24, own_ush28, own_ush32, own_ush36, own_ush40, own_ush44, own_ush48, own_G0, own_G1, own_G2, own_G3, own_G4, own_G5, own_G6, own_G7, own_G8, own_G9, own_G10, own_G11, own_G12, own_G13, own_G14, own_G15, own_G16, own_G17, own_G18, own_G19, own_G20, own_G21, own_G22, own_G23, own_G24, own_G25, own_G26, own_G27, own_G28, own_G29, own_G30, own_G31, Sh.bt_big, Nat.reduceLT, Nat.reduceAdd, Nat.reduceSub, Nat.reduceLeDiff, decide_true, decide_false, Bool.and_true, Bool.true_and, Bool.and_false, Bool.false_and, Bool.or_false, Bool.false_or, Bool.not_true, Bool.not_false, Nat.zero_add, Nat.sub_zero, Nat.lt_irrefl, Nat.not_lt_zero]
  | 29, _ => simp only [Sh.bt_or, Sh.bt_zero, own_mask, own_mask4, own_shl4, own_shl8, own_shl16, own_shl24, own_shl28, own_shl32, own_shl40, own_shl48, own_shl52, own_shl56, own_ush0, own_ush4, own_ush8, own_ush12, own_ush16, own_ush20, own_ush24, own_ush28, own_ush32, own_ush36, own_ush40, own_ush44, own_ush48, own_G0, own_G1, own_G2, own_G3, own_G4, own_G5, own_G6, own_G7, own_G8, own_G9, own_G10, own_G11, own_G12, own_G13, own_G14, own_G15, own_G16, own_G17, own_G18, own_G19, own_G20, own_G21, own_G22, own_G23, own_G24, own_G25, own_G26, own_G27, own_G28, own_G29, own_G30, own_G31, Sh.bt_big, Nat.reduceLT, Nat.reduceAdd, Nat.reduceSub, Nat.reduceLeDiff, decide_true, decide_false, Bool.and_true, Bool.true_and, Bool.and_false, Bool.false_and, Bool.or_false, Bool.false_or, Bool.not_true, Bool.not_false, Nat.zero_add, Nat.sub_zero, Nat.lt_irrefl, Nat.not_lt_zero]
  | 30, _ => simp only [Sh.bt_or, Sh.bt_zero, own_mask, own_mask4, own_shl4, own_shl8, own_shl16, own_shl24, own_shl28, own_shl32, own_shl40, own_shl48, own_shl52, own_shl56, own_ush0, own_ush4, own_ush8, own_ush12, own_ush16, own_ush20, own_ush24, own_ush28, own_ush32, own_ush36, own_ush40, own_ush44, own_ush48, own_G0, own_G1, own_G2, own_G3, own_G4, own_G5, own_G6, own_G7, own_G8, own_G9, own_G10, own_G11, own_G12, own_G13, own_G14, own_G15, own_G16, own_G17, own_G18, own_G19, own_G20, own_G21, own_G22, own_G23, own_G24, own_G25, own_G26, own_G27, own_G28, own_G29, own_G30, own_G31, Sh.bt_big, Nat.reduceLT, Nat.reduceAdd, Nat.reduceSub, Nat.reduceLeDiff, decide_true, decide_false, Bool.and_true, Bool.true_and, Bool.and_false, Bool.false_and, Bool.or_false, Bool.false_or, Bool.not_true, Bool.not_false, Nat.zero_add, Nat.sub_zero, Nat.lt_irrefl, Nat.not_lt_zero]
  | 31, _ => simp only [Sh.bt_or, Sh.bt_zero, own_mask, own_mask4, own_shl4, own_shl8, own_shl16, own_shl24, own_shl28, own_shl32, own_shl40, own_shl48, own_shl52, own_shl56, own_ush0, own_ush4, own_ush8, own_ush12, own_ush16, own_ush20, own_ush24, own_ush28, own_ush32, own_ush36, own_ush40, own_ush44, own_ush48, own_G0, own_G1, own_G2, own_G3, own_G4, own_G5, own_G6, own_G7, own_G8, own_G9, own_G10, own_G11, own_G12, own_G13, own_G14, own_G15, own_G16, own_G17, own_G18, own_G19, own_G20, own_G21, own_G22, own_G23, own_G24, own_G25, own_G26, own_G27, own_G28, own_G29, own_G30, own_G31, Sh.bt_big, Nat.reduceLT, Nat.reduceAdd, Nat.reduceSub, Nat.reduceLeDiff, decide_true, decide_false, Bool.and_true, Bool.true_and, Bool.and_false, Bool.false_and, Bool.or_false, Bool.false_or, Bool.not_true, Bool.not_false, Nat.zero_add, Nat.sub_zero, Nat.lt_irrefl, Nat.not_lt_zero]
  | 32, _ => simp only [Sh.bt_or, Sh.bt_zero, own_mask, own_mask4, own_shl4, own_shl8, own_shl16, own_shl24, own_shl28, own_shl32, own_shl40, own_shl48, own_shl52, own_shl56, own_ush0, own_ush4, own_ush8, own_ush12, own_ush16, own_ush20, own_ush24, own_ush28, own_ush32, own_ush36, own_ush40, own_ush44, own_ush48, own_G0, own_G1, own_G2, own_G3, own_G4, own_G5, own_G6, own_G7, own_G8, own_G9, own_G10, own_G11, own_G12, own_G13, own_G14, own_G15, own_G16, own_G17, own_G18, own_G19, own_G20, own_G21, own_G22, own_G23, own_G24, own_G25, own_G26, own_G27, own_G28, own_G29, own_G30, own_G31, Sh.bt_big, Nat.reduceLT, Nat.reduceAdd, Nat.reduceSub, Nat.reduceLeDiff, decide_true, decide_false, Bool.and_true, Bool.true_and, Bool.and_false, Bool.false_and, Bool.or_false, Bool.false_or, Bool.not_true, Bool.not_false, Nat.zero_add, Nat.sub_zero, Nat.lt_irrefl, Nat.not_lt_zero]
  | 33, _ => simp only [Sh.bt_or, Sh.bt_zero, own_mask, own_mask4, own_shl4, own_shl8, own_shl16, own_shl24, own_shl28, own_shl32, own_shl40, own_shl48, own_shl52, own_shl56, own_ush0, own_ush4, own_ush8, own_ush12, own_ush16, own_ush20, own_ush24, own_ush28, own_ush32, own_ush36, own_ush40, own_ush44, own_ush48, own_G0, own_G1, own_G2, own_G3, own_G4, own_G5, own_G6, own_G7, own_G8, own_G9, own_G10, own_G11, own_G12, own_G13, own_G14, own_G15, own_G16, own_G17, own_G18, own_G19, own_G20, own_G21, own_G22, own_G23, own_G24, own_G25, own_G26, own_G27, own_G28, own_G29, own_G30, own_G31, Sh.bt_big, Nat.reduceLT, Nat.reduceAdd, Nat.reduceSub, Nat.reduceLeDiff, decide_true, decide_false, Bool.and_true, Bool.true_and, Bool.and_false, Bool.false_and, Bool.or_false, Bool.false_or, Bool.not_true, Bool.not_false, Nat.zero_add, Nat.sub_zero, Nat.lt_irrefl, Nat.not_lt_zero]
  | 34, _ => simp only [Sh.bt_or, Sh.bt_zero, own_mask, own_mask4, own_shl4, own_shl8, own_shl16, own_shl24, own_shl28, own_shl32, own_shl40, own_shl48, own_shl52, own_shl56, own_ush0, own_ush4, own_ush8, own_ush12, own_ush16, own_ush20, own_ush24, own_ush28, own_ush32, own_ush36, own_ush40, own_ush44, own_ush48, own_G0, own_G1, own_G2, own_G3, own_G4, own_G5, own_G6, own_G7, own_G8, own_G9, own_G10, own_G11, own_G12, own_G13, own_G14, own_G15, own_G16, own_G17, own_G18, own_G19, own_G20, own_G21, own_G22, own_G23, own_G24, own_G25, own_G26, own_G27, own_G28, own_G29, own_G30, own_G31, Sh.bt_big, Nat.reduceLT, Nat.reduceAdd, Nat.reduceSub, Nat.reduceLeDiff, decide_true, decide_false, Bool.and_true, Bool.true_and, Bool.and_false, Bool.false_and, Bool.or_false, Bool.false_or, Bool.not_true, Bool.not_false, Nat.zero_add, Nat.sub_zero, Nat.lt_irrefl, Nat.not_lt_zero]
  | 35, _ => simp only [Sh.bt_or, Sh.bt_zero, own_mask, own_mask4, own_shl4, own_shl8, own_shl16, own_shl24, own_shl28, own_shl32, own_shl40, own_shl48, own_shl52, own_shl56, own_ush0, own_ush4, own_ush8, own_ush12, own_ush16, own_ush20, own_ush24, own_ush28, own_ush32, own_ush36, own_ush40, own_ush44, own_ush48, own_G0, own_G1, own_G2, own_G3, own_G4, own_G5, own_G6, own_G7, own_G8, own_G9, own_G10, own_G11, own_G12, own_G13, own_G14, own_G15, own_G16, own_G17, own_G18, own_G19, own_G20, own_G21, own_G22, own_G23, own_G24, own_G25, own_G26, own_G27, own_G28, own_G29, own_G30, own_G31, Sh.bt_big, Nat.reduceLT, Nat.reduceAdd, Nat.reduceSub, Nat.reduceLeDiff, decide_true, decide_false, Bool.and_true, Bool.true_and, Bool.and_false, Bool.false_and, Bool.or_false, Bool.false_or, Bool.not_true, Bool.not_false, Nat.zero_add, Nat.sub_zero, Nat.lt_irrefl, Nat.not_lt_zero]
  | 36, _ => simp only [Sh.bt_or, Sh.bt_zero, own_mask, own_mask4, own_shl4, own_shl8, own_shl16, own_shl24, own_shl28, own_shl32, own_shl40, own_shl48, own_shl52, own_shl56, own_ush0, own_ush4, own_ush8, own_ush12, own_ush16, own_ush20, own_ush24, own_ush28, own_ush32, own_ush36, own_ush40, own_ush44, own_ush48, own_G0, own_G1, own_G2, own_G3, own_G4, own_G5, own_G6, own_G7, own_G8, own_G9, own_G10, own_G11, own_G12, own_G13, own_G14, own_G15, own_G16, own_G17, own_G18, own_G19, own_G20, own_G21, own_G22, own_G23, own_G24, own_G25, own_G26, own_G27, own_G28, own_G29, own_G30, own_G31, Sh.bt_big, Nat.reduceLT, Nat.reduceAdd, Nat.reduceSub, Nat.reduceLeDiff, decide_true, decide_false, Bool.and_true, Bool.true_and, Bool.and_false, Bool.false_and, Bool.or_false, Bool.false_or, Bool.not_true, Bool.not_false, Nat.zero_add, Nat.sub_zero, Nat.lt_irrefl, Nat.not_lt_zero]
  | 37, _ => simp only [Sh.bt_or, Sh.bt_zero, own_mask, own_mask4, own_shl4, own_shl8, own_shl16, own_shl24, own_shl28, own_shl32, own_shl40, own_shl48, own_shl52, own_shl56, own_ush0, own_ush4, own_ush8, own_ush12, own_ush16, own_ush20, own_ush24, own_ush28, own_ush32, own_ush36, own_ush40, own_ush44, own_ush48, own_G0, own_G1, own_G2, own_G3, own_G4, own_G5, own_G6, own_G7, own_G8, own_G9, own_G10, own_G11, own_G12, own_G13, own_G14, own_G15, own_G16, own_G17, own_G18, own_G19, own_G20, own_G21, own_G22, own_G23, own_G24, own_G25, own_G26, own_G27, own_G28, own_G29, own_G30, own_G31, Sh.bt_big, Nat.reduceLT, Nat.reduceAdd, Nat.reduceSub, Nat.reduceLeDiff, decide_true, decide_false, Bool.and_true, Bool.true_and, Bool.and_false, Bool.false_and, Bool.or_false, Bool.false_or, Bool.not_true, Bool.not_false, Nat.zero_add, Nat.sub_zero, Nat.lt_irrefl, Nat.not_lt_zero]
  | 38, _ => simp only [Sh.bt_or, Sh.bt_zero, own_mask, own_mask4, own_shl4, own_shl8, own_shl16, own_shl24, own_shl28, own_shl32, own_shl40, own_shl48, own_shl52, own_shl56, own_ush0, own_ush4, own_ush8, own_ush12, own_ush16, own_ush20, own_ush24, own_ush28, own_ush32, own_ush36, own_ush40, own_ush44, own_ush48, own_G0, own_G1, own_G2, own_G3, own_G4, own_G5, own_G6, own_G7, own_G8, own_G9, own_G10, own_G11, own_G12, own_G13, own_G14, own_G15, own_G16, own_G17, own_G18, own_G19, own_G20, own_G21, own_G22, own_G23, own_G24, own_G25, own_G26, own_G27, own_G28, own_G29, own_G30, own_G31, Sh.bt_big, Nat.reduceLT, Nat.reduceAdd, Nat.reduceSub, Nat.reduceLeDiff, decide_true, decide_false, Bool.and_true, Bool.true_and, Bool.and_false, Bool.false_and, Bool.or_false, Bool.false_or, Bool.not_true, Bool.not_false, Nat.zero_add, Nat.sub_zero, Nat.lt_irrefl, Nat.not_lt_zero]
  | 39, _ => simp only [Sh.bt_or, Sh.bt_zero, own_mask, own_mask4, own_shl4, own_shl8, own_shl16, own_shl24, own_shl28, own_shl32, own_shl40, own_shl48, own_shl52, own_shl56, own_ush0, own_ush4, own_ush8, own_ush12, own_ush16, own_ush20, own_ush24, own_ush28, own_ush32, own_ush36, own_ush40, own_ush44, own_ush48, own_G0, own_G1, own_G2, own_G3, own_G4, own_G5, own_G6, own_G7, own_G8, own_G9, own_G10, own_G11, own_G12, own_G13, own_G14, own_G15, own_G16, own_G17, own_G18, own_G19, own_G20, own_G21, own_G22, own_G23, own_G24, own_G25, own_G26, own_G27, own_G28, own_G29, own_G30, own_G31, Sh.bt_big, Nat.reduceLT, Nat.reduceAdd, Nat.reduceSub, Nat.reduceLeDiff, decide_true, decide_false, Bool.and_true, Bool.true_and, Bool.and_false, Bool.false_and, Bool.or_false, Bool.false_or, Bool.not_true, Bool.not_false, Nat.zero_add, Nat.sub_zero, Nat.lt_irrefl, Nat.not_lt_zero]
  | 40, _ => simp only [Sh.bt_or, Sh.bt_zero, own_mask, own_mask4, own_shl4, own_shl8, own_shl16, own_shl24, own_shl28, own_shl32, own_shl40, own_shl48, own_shl52, own_shl56, own_ush0, own_ush4, own_ush8, own_ush12, own_ush16, own_ush20, own_ush24, own_ush28, own_ush32, own_ush36, own_ush40, own_ush44, own_ush48, own_G0, own_G1, own_G2, own_G3, own_G4, own_G5, own_G6, own_G7, own_G8, own_G9, own_G10, own_G11, own_G12, own_G13, own_G14, own_G15, own_G16, own_G17, own_G18, own_G19, own_G20, own_G21, own_G22, own_G23, own_G24, own_G25, own_G26, own_G27, own_G28, own_G29, own_G30, own_G31, Sh.bt_big, Nat.reduceLT, Nat.reduceAdd, Nat.reduceSub, Nat.reduceLeDiff, decide_true, decide_false, Bool.and_true, Bool.true_and, Bool.and_false, Bool.false_and, Bool.or_false, Bool.false_or, Bool.not_true, Bool.not_false, Nat.zero_add, Nat.sub_zero, Nat.lt_irrefl, Nat.not_lt_zero]
  | 41, _ => simp only [Sh.bt_or, Sh.bt_zero, own_mask, own_mask4, own_shl4, own_shl8, own_shl16, own_shl24, own_shl28, own_shl32, own_shl40, own_shl48, own_shl52, own_shl56, own_ush0, own_ush4, own_ush8, own_ush12, own_ush16, own_ush20, own_ush24, own_ush28, own_ush32, own_ush36, own_ush40, own_ush44, own_ush48, own_G0, own_G1, own_G2, own_G3, own_G4, own_G5, own_G6, own_G7, own_G8, own_G9, own_G10, own_G11, own_G12, own_G13, own_G14, own_G15, own_G16, own_G17, own_G18, own_G19, own_G20, own_G21, own_G22, own_G23, own_G24, own_G25, own_G26, own_G27, own_G28, own_G29, own_G30, own_G31, Sh.bt_big, Nat.reduceLT, Nat.reduceAdd, Nat.reduceSub, Nat.reduceLeDiff, decide_true, decide_false, Bool.and_true, Bool.true_and, Bool.and_false, Bool.false_and, Bool.or_false, Bool.false_or, Bool.not_true, Bool.not_false, Nat.zero_add, Nat.sub_zero, Nat.lt_irrefl, Nat.not_lt_zero]
  | 42, _ => simp only [Sh.bt_or, Sh.bt_zero, own_mask, own_mask4, own_shl4, own_shl8, own_shl16, own_shl24, own_shl28, own_shl32, own_shl40, own_shl48, own_shl52, own_shl56, own_ush0, own_ush4, own_ush8, own_ush12, own_ush16, own_ush20, own_ush24, own_ush28, own_ush32, own_ush36, own_ush40, own_ush44, own_ush48, own_G0, own_G1, own_G2, own_G3, own_G4, own_G5, own_G6, own_G7, own_G8, own_G9, own_G10, own_G11, own_G12, own_G13, own_G14, own_G15, own_G16, own_G17, own_G18, own_G19, own_G20, own_G21, own_G22, own_G23, own_G24, own_G25, own_G26, own_G27, own_G28, own_G29, own_G30, own_G31, Sh.bt_big, Nat.reduceLT, Nat.reduceAdd, Nat.reduceSub, Nat.reduceLeDiff, decide_true, decide_false, Bool.and_true, Bool.true_and, Bool.and_false, Bool.false_and, Bool.or_false, Bool.false_or, Bool.not_true, Bool.not_false, Nat.zero_add, Nat.sub_zero, Nat.lt_irrefl, Nat.not_lt_zero]
  | 43, _ => simp only [Sh.bt_or, Sh.bt_zero, own_mask, own_mask4, own_shl4, own_shl8, own_shl16, own_shl24, own_shl28, own_shl32, own_shl40, own_shl48, own_shl52, own_shl56, own_ush0, own_ush4, own_ush8, own_ush12, own_ush16, own_ush20, own_ush24, own_ush28, own_ush32, own_ush36, own_ush40, own_ush44, own_ush48, own_G0, own_G1, own_G2, own_G3, own_G4, own_G5, own_G6, own_G7, own_G8, own_G9, own_G10, own_G11, own_G12, own_G13, own_G14, own_G15, own_G16, own_G17, own_G18, own_G19, own_G20, own_G21, own_G22, own_G23, own_G24, own_G25, own_G26, own_G27, own_G28, own_G29, own_G30, own_G31, Sh.bt_big, Nat.reduceLT, Nat.reduceAdd, Nat.reduceSub, Nat.reduceLeDiff, decide_true, decide_false, Bool.and_true, Bool.true_and, Bool.and_false, Bool.false_and, Bool.or_false, Bool.false_or, Bool.not_true, Bool.not_false, Nat.zero_add, Nat.sub_zero, Nat.lt_irrefl, Nat.not_lt_zero]
  | 44, _ => simp only [Sh.bt_or, Sh.bt_zero, own_mask, own_mask4, own_shl4, own_shl8, own_shl16, own_shl24, own_shl28, own_shl32, own_shl40, own_shl48, own_shl52, own_shl56, own_ush0, own_ush4, own_ush8, own_ush12, own_ush16, own_ush20, own_ush24, own_ush28, own_ush32, own_ush36, own_ush40, own_ush44, own_ush48, own_G0, own_G1, own_G2, own_G3, own_G4, own_G5, own_G6, own_G7, own_G8, own_G9, own_G10, own_G11, own_G12, own_G13, own_G14, own_G15, own_G16, own_G17, own_G18, own_G19, own_G20, own_G21, own_G22, own_G23, own_G24, own_G25, own_G26, own_G27, own_G28, own_G29, own_G30, own_G31, Sh.bt_big, Nat.reduceLT, Nat.reduceAdd, Nat.reduceSub, Nat.reduceLeDiff, decide_true, decide_false, Bool.and_true, Bool.true_and, Bool.and_false, Bool.false_and, Bool.or_false, Bool.false_or, Bool.not_true, Bool.not_false, Nat.zero_add, Nat.sub_zero, Nat.lt_irrefl, Nat.not_lt_zero]
  | 45, _ => simp only [Sh.bt_or, Sh.bt_zero, own_mask, own_mask4, own_shl4, own_shl8, own_shl16, own_shl24, own_shl28, own_shl32, own_shl40, own_shl48, own_shl52, own_shl56, own_ush0, own_ush4, own_ush8, own_ush12, own_ush16, own_ush20, own_ush24, own_ush28, own_ush32, own_ush36, own_ush40, own_ush44, own_ush48, own_G0, own_G1, own_G2, own_G3, own_G4, own_G5, own_G6, own_G7, own_G8, own_G9, own_G10, own_G11, own_G12, own_G13, own_G14, own_G15, own_G16, own_G17, own_G18, own_G19, own_G20, own_G21, own_G22, own_G23, own_G24, own_G25, own_G26, own_G27, own_G28, own_G29, own_G30, own_G31, Sh.bt_big, Nat.reduceLT, Nat.reduceAdd, Nat.reduceSub, Nat.reduceLeDiff, decide_true, decide_false, Bool.and_true, Bool.true_and, Bool.and_false, Bool.false_and, Bool.or_false, Bool.false_or, Bool.not_true, Bool.not_false, Nat.zero_add, Nat.sub_zero, Nat.lt_irrefl, Nat.not_lt_zero]
  | 46, _ => simp only [Sh.bt_or, Sh.bt_zero, own_mask, own_mask4, own_shl4, own_shl8, own_shl16, own_shl24, own_shl28, own_shl32, own_shl40, own_shl48, own_shl52, own_shl56, own_ush0, own_ush4, own_ush8, own_ush12, own_ush16, own_ush20, own_ush24, own_ush28, own_ush32, own_ush36, own_ush40, own_ush44, own_ush48, own_G0, own_G1, own_G2, own_G3, own_G4, own_G5, own_G6, own_G7, own_G8, own_G9, own_G10, own_G11, own_G12, own_G13, own_G14, own_G15, own_G16, own_G17, own_G18, own_G19, own_G20, own_G21, own_G22, own_G23, own_G24, own_G25, own_G26, own_G27, own_G28, own_G29, own_G30, own_G31, Sh.bt_big, Nat.reduceLT, Nat.reduceAdd, Nat.reduceSub, Nat.reduceLeDiff, decide_true, decide_false, Bool.and_true, Bool.true_and, Bool.and_false, Bool.false_and, Bool.or_false, Bool.false_or, Bool.not_true, Bool.not_false, Nat.zero_add, Nat.sub_zero, Nat.lt_irrefl, Nat.not_lt_zero]
  | 47, _ => simp only [Sh.bt_or, Sh.bt_zero, own_mask, own_mask4, own_shl4, own_shl8, own_shl16, own_shl24, own_shl28, own_shl32, own_shl40, own_shl48, own_shl52, own_shl56, own_ush0, own_ush4, own_ush8, own_ush12, own_ush16, own_ush20, own_ush24, own_ush28, own_ush32, own_ush36, own_ush40, own_ush44, own_ush48, own_G0, own_G1, own_G2, own_G3, own_G4, own_G5, own_G6, own_G7, own_G8, own_G9, own_G10, own_G11, own_G12, own_G13, own_G14, own_G15, own_G16, own_G17, own_G18, own_G19, own_G20, own_G21, own_G22, own_G23, own_G24, own_G25, own_G26, own_G27, own_G28, own_G29, own_G30, own_G31, Sh.bt_big, Nat.reduceLT, Nat.reduceAdd, Nat.reduceSub, Nat.reduceLeDiff, decide_true, decide_false, Bool.and_true, Bool.true_and, Bool.and_false, Bool.false_and, Bool.or_false, Bool.false_or, Bool.not_true, Bool.not_false, Nat.zero_add, Nat.sub_zero, Nat.lt_irrefl, Nat.not_lt_zero]
  | 48, _ => simp only [Sh.bt_or, Sh.bt_zero, own_mask, own_mask4, own_shl4, own_shl8, own_shl16, own_shl24, own_shl28, own_shl32, own_shl40, own_shl48, own_shl52, own_shl56, own_ush0, own_ush4, own_ush8, own_ush12, own_ush16, own_ush20, own_ush24, own_ush28, own_ush32, own_ush36, own_ush40, own_ush44, own_ush48, own_G0, own_G1, own_G2, own_G3, own_G4, own_G5, own_G6, own_G7, own_G8, own_G9, own_G10, own_G11, own_G12, own_G13, own_G14, own_G15, own_G16, own_G17, own_G18, own_G19, own_G20, own_G21, own_G22, own_G23, own_G24, own_G25, own_G26, own_G27, own_G28, own_G29, own_G30, own_G31, Sh.bt_big, Nat.reduceLT, Nat.reduceAdd, Nat.reduceSub, Nat.reduceLeDiff, decide_true, decide_false, Bool.and_true, Bool.true_and, Bool.and_false, Bool.false_and, Bool.or_false, Bool.false_or, Bool.not_true, Bool.not_false, Nat.zero_add, Nat.sub_zero, Nat.lt_irrefl, Nat.not_lt_zero]
  | 49, _ => simp only [Sh.bt_or, Sh.bt_zero, own_mask, own_mask4, own_shl4, own_shl8, own_shl16, own_shl24, own_shl28, own_shl32, own_shl40, own_shl48, own_shl52, own_shl56, own_ush0, own_ush4, own_ush8, own_ush12, own_ush16, own_ush20, own_ush24, own_ush28, own_ush32, own_ush36, own_ush40, own_ush44, own_ush48, own_G0, own_G1, own_G2, own_G3, own_G4, own_G5, own_G6, own_G7, own_G8, own_G9, own_G10, own_G11, own_G12, own_G13, own_G14, own_G15, own_G16, own_G17, own_G18, own_G19, own_G20, own_G21, own_G22, own_G23, own_G24, own_G25, own_G26, own_G27, own_G28, own_G29, own_G30, own_G31, Sh.bt_big, Nat.reduceLT, Nat.reduceAdd, Nat.reduceSub, Nat.reduceLeDiff, decide_true, decide_false, Bool.and_true, Bool.true_and, Bool.and_false, Bool.false_and, Bool.or_false, Bool.false_or, Bool.not_true, Bool.not_false, Nat.zero_add, Nat.sub_zero, Nat.lt_irrefl, Nat.not_lt_zero]
  | 50, _ => simp only [Sh.bt_or, Sh.bt_zero, own_mask, own_mask4, own_shl4, own_shl8, own_shl16, own_shl24, own_shl28, own_shl32, own_shl40, own_shl48, own_shl52, own_shl56, own_ush0, own_ush4, own_ush8, own_ush12, own_ush16, own_ush20, own_ush24, own_ush28, own_ush32, own_ush36, own_ush40, own_ush44, own_ush48, own_G0, own_G1, own_G2, own_G3, own_G4, own_G5, own_G6, own_G7, own_G8, own_G9, own_G10, own_G11, own_G12, own_G13, own_G14, own_G15, own_G16, own_G17, own_G18, own_G19, own_G20, own_G21, own_G22, own_G23, own_G24, own_G25, own_G26, own_G27, own_G28, own_G29, own_G30, own_G31, Sh.bt_big, Nat.reduceLT, Nat.reduceAdd, Nat.reduceSub, Nat.reduceLeDiff, decide_true, decide_false, Bool.and_true, Bool.true_and, Bool.and_false, Bool.false_and, Bool.or_false, Bool.false_or, Bool.not_true, Bool.not_false, Nat.zero_add, Nat.sub_zero, Nat.lt_irrefl, Nat.not_lt_zero]
  | 51, _ => simp only [Sh.bt_or, Sh.bt_zero, own_mask, own_mask4, own_shl4, own_shl8, own_shl16, own_shl24, own_shl28, own_shl32, own_shl40, own_shl48, own_shl52, own_shl56, own_ush0, own_ush4, own_ush8, own_ush12, own_ush16, own_ush20, own_ush24, own_ush28, own_ush32, own_ush36, own_ush40, own_ush44, own_ush48, own_G0, own_G1, own_G2, own_G3, own_G4, own_G5, own_G6, own_G7, own_G8, own_G9, own_G10, own_G11, own_G12, own_G13, own_G14, own_G15, own_G16, own_G17, own_G18, own_G19, own_G20, own_G21, own_G22, own_G23, own_G24, own_G25, own_G26, own_G27, own_G28, own_G29, own_G30, own_G31, Sh.bt_big, Nat.reduceLT, Nat.reduceAdd, Nat.reduceSub, Nat.reduceLeDiff, decide_true, decide_false, Bool.and_true, Bool.true_and, Bool.and_false, Bool.false_and, Bool.or_false, Bool.false_or, Bool.not_true, Bool.not_false, Nat.zero_add, Nat.sub_zero, Nat.lt_irrefl, Nat.not_lt_zero]
  | 52, _ => simp only [Sh.bt_or, Sh.bt_zero, own_mask, own_mask4, own_shl4, own_shl8, own_shl16, own_shl24, own_shl28, own_shl32, own_shl40, own_shl48, own_shl52, own_shl56, own_ush0, own_ush4, own_ush8, own_ush12, own_ush16, own_ush20, own_ush24, own_ush28, own_ush32, own_ush36, own_ush40, own_ush44, own_ush48, own_G0, own_G1, own_G2, own_G3, own_G4, own_G5, own_G6, own_G7, own_G8, own_G9, own_G10, own_G11, own_G12, own_G13, own_G14, own_G15, own_G16, own_G17, own_G18, own_G19, own_G20, own_G21, own_G22, own_G23, own_G24, own_G25, own_G26, own_G27, own_G28, own_G29, own_G30, own_G31, Sh.bt_big, Nat.reduceLT, Nat.reduceAdd, Nat.reduceSub, Nat.reduceLeDiff, decide_true, decide_false, Bool.and_true, Bool.true_and, Bool.and_false, Bool.false_and, Bool.or_false, Bool.false_or, Bool.not_true, Bool.not_false, Nat.zero_add, Nat.sub_zero, Nat.lt_irrefl, Nat.not_lt_zero]
  | 53, _ => simp only [Sh.bt_or, Sh.bt_zero, own_mask, own_mask4, own_shl4, own_shl8, own_shl16, own_shl24, own_shl28, own_shl32, own_shl40, own_shl48, own_shl52, own_shl56, own_ush0, own_ush4, own_ush8, own_ush12, own_ush16, own_ush20, own_ush24, own_ush28, own_ush32, own_ush36, own_ush40, own_ush44, own_ush48, own_G0, own_G1, own_G2, own_G3, own_G4, own_G5, own_G6, own_G7, own_G8, own_G9, own_G10, own_G11, own_G12, own_G13, own_G14, own_G15, own_G16, own_G17, own_G18, own_G19, own_G20, own_G21, own_G22, own_G23, own_G24, own_G25, own_G26, own_G27, own_G28, own_G29, own_G30, own_G31, Sh.bt_big, Nat.reduceLT, Nat.reduceAdd, Nat.reduceSub, Nat.reduceLeDiff, decide_true, decide_false, Bool.and_true, Bool.true_and, Bool.and_false, Bool.false_and, Bool.or_false, Bool.false_or, Bool.not_true, Bool.not_false, Nat.zero_add, Nat.sub_zero, Nat.lt_irrefl, Nat.not_lt_zero]
  | 54, _ => simp only [Sh.bt_or, Sh.bt_zero, own_mask, own_mask4, own_shl4, own_shl8, own_shl16, own_shl24, own_shl28, own_shl32, own_shl40, own_shl48, own_shl52, own_shl56, own_ush0, own_ush4, own_ush8, own_ush12, own_ush16, own_ush20, own_ush24, own_ush28, own_ush32, own_ush36, own_ush40, own_ush44, own_ush48, own_G0, own_G1, own_G2, own_G3, own_G4, own_G5, own_G6, own_G7, own_G8, own_G9, own_G10, own_G11, own_G12, own_G13, own_G14, own_G15, own_G16, own_G17, own_G18, own_G19, own_G20, own_G21, own_G22, own_G23, own_G24, own_G25, own_G26, own_G27, own_G28, own_G29, own_G30, own_G31, Sh.bt_big, Nat.reduceLT, Nat.reduceAdd, Nat.reduceSub, Nat.reduceLeDiff, decide_true, decide_false, Bool.and_true, Bool.true_and, Bool.and_false, Bool.false_and, Bool.or_false, Bool.false_or, Bool.not_true, Bool.not_false, Nat.zero_add, Nat.sub_zero, Nat.lt_irrefl, Nat.not_lt_zero]
  | 55, _ => simp only [Sh.bt_or, Sh.bt_zero, own_mask, own_mask4, own_shl4, own_shl8, own_shl16, own_shl24, own_shl28, own_shl32, own_shl40, own_shl48, own_shl52, own_shl56, own_ush0, own_ush4, own_ush8, own_ush12, own_ush16, own_ush20, own_ush24, own_ush28, own_ush32, own_ush36, own_ush40, own_ush44, own_ush48, own_G0, own_G1, own_G2, own_G3, own_G4, own_G5, own_G6, own_G7, own_G8, own_G9, own_G10, own_G11, own_G12, own_G13, own_G14, own_G15, own_G16, own_G17, own_G18, own_G19, own_G20, own_G21, own_G22, own_G23, own_G24, own_G25, own_G26, own_G27, own_G28, own_G29, own_G30, own_G31, Sh.bt_big, Nat.reduceLT, Nat.reduceAdd, Nat.reduceSub, Nat.reduceLeDiff, decide_true, decide_false, Bool.and_true, Bool.true_and, Bool.and_false, Bool.false_and, Bool.or_false, Bool.false_or, Bool.not_true, Bool.not_false, Nat.zero_add, Nat.sub_zero, Nat.lt_irrefl, Nat.not_lt_zero]
  | 56, _ => simp only [Sh.bt_or, Sh.bt_zero, own_mask, own_mask4, own_shl4, own_shl8, own_shl16, own_shl24, own_shl28, own_shl32, own_shl40, own_shl48, own_shl52, own_shl56, own_ush0, own_ush4, own_ush8, own_ush12, own_ush16, own_ush20, own_ush24, own_ush28, own_ush32, own_ush36, own_ush40, own_ush44, own_ush48, own_G0, own_G1, own_G2, own_G3, own_G4, own_G5, own_G6, own_G7, own_G8, own_G9, own_G10, own_G11, own_G12, own_G13, own_G14, own_G15, own_G16, own_G17, own_G18, own_G19, own_G20, own_G21, own_G22, own_G23, own_G24, own_G25, own_G26, own_G27, own_G28, own_G29, own_G30, own_G31, Sh.bt_big, Nat.reduceLT, Nat.reduceAdd, Nat.reduceSub, Nat.reduceLeDiff, decide_true, decide_false, Bool.and_true, Bool.true_and, Bool.and_false, Bool.false_and, Bool.or_false, Bool.false_or, Bool.not_true, Bool.not_false, Nat.zero_add, Nat.sub_zero, Nat.lt_irrefl, Nat.not_lt_zero]
  | 57, _ => simp only [Sh.bt_or, Sh.bt_zero, own_mask, own_mask4, own_shl4, own_shl8, own_shl16, own_shl24, own_shl28, own_shl32, own_shl40, own_shl48, own_shl52, own_shl56, own_ush0, own_ush4, own_ush8, own_ush12, own_ush16, own_ush20, own_ush24, own_ush28, own_ush32, own_ush36, own_ush40, own_ush44, own_ush48, own_G0, own_G1, own_G2, own_G3, own_G4, own_G5, own_G6, own_G7, own_G8, own_G9, own_G10, own_G11, own_G12, own_G13, own_G14, own_G15, own_G16, own_G17, own_G18, own_G19, own_G20, own_G21, own_G22, own_G23, own_G24, own_G25, own_G26, own_G27, own_G28, own_G29, own_G30, own_G31, Sh.bt_big, Nat.reduceLT, Nat.reduceAdd, Nat.reduceSub, Nat.reduceLeDiff, decide_true, decide_false, Bool.and_true, Bool.true_and, Bool.and_false, Bool.false_and, Bool.or_false, Bool.false_or, Bool.not_true, Bool.not_false, Nat.zero_add, Nat.sub_zero, Nat.lt_irrefl, Nat.not_lt_zero]
  | 58, _ => simp only [Sh.bt_or, Sh.bt_zero, own_mask, own_mask4, own_shl4, own_shl8, own_shl16, own_shl24, own_shl28, own_shl32, own_shl40, own_shl48, own_shl52, own_shl56, own_ush0, own_ush4, own_ush8, own_ush12, own_ush16, own_ush20, own_ush24, own_ush28, own_ush32, own_ush36, own_ush40, own_ush44, own_ush48, own_G0, own_G1, own_G2, own_G3, own_G4, own_G5, own_G6, own_G7, own_G8, own_G9, own_G10, own_G11, own_G12, own_G13, own_G14, own_G15, own_G16, own_G17, own_G18, own_G19, own_G20, own_G21, own_G22, own_G23, own_G24, own_G25, own_G26, own_G27, own_G28, own_G29, own_G30, own_G31, Sh.bt_big, Nat.reduceLT, Nat.reduceAdd, Nat.reduceSub, Nat.reduceLeDiff, decide_true, decide_false, Bool.and_true, Bool.true_and, Bool.and_false, Bool.false_and, Bool.or_false, Bool.false_or, Bool.not_true, Bool.not_false, Nat.zero_add, Nat.sub_zero, Nat.lt_irrefl, Nat.not_lt_zero]
  | 59, _ => simp only [Sh.bt_or, Sh.bt_zero, own_mask, own_mask4, own_shl4, own_shl8, own_shl16, own_shl24, own_shl28, own_shl32, own_shl40, own_shl48, own_shl52, own_shl56, own_ush0, own_ush4, own_ush8, own_ush12, own_ush16, own_ush20, own_ush24, own_ush28, own_ush32, own_ush36, own_ush40, own_ush44, own_ush48, own_G0, own_G1, own_G2, own_G3, own_G4, own_G5, own_G6, own_G7, own_G8, own_G9, own_G10, own_G11, own_G12, own_G13, own_G14, own_G15, own_G16, own_G17, own_G18, own_G19, own_G20, own_G21, own_G22, own_G23, own_G24, own_G25, own_G26, own_G27, own_G28, own_G29, own_G30, own_G31, Sh.bt_big, Nat.reduceLT, Nat.reduceAdd, Nat.reduceSub, Nat.reduceLeDiff, decide_true, decide_false, Bool.and_true, Bool.true_and, Bool.and_false, Bool.false_and, Bool.or_false, Bool.false_or, Bool.not_true, Bool.not_false, Nat.zero_add, Nat.sub_zero, Nat.lt_irrefl, Nat.not_lt_zero]
  | 60, _ => simp only [Sh.bt_or, Sh.bt_zero, own_mask, own_mask4, own_shl4, own_shl8, own_shl16, own_shl24, own_shl28, own_shl32, own_shl40, own_shl48, own_shl52, own_shl56, own_ush0, own_ush4, own_ush8, own_ush12, own_ush16, own_ush20, own_ush24, own_ush28, own_ush32, own_ush36, own_ush40, own_ush44, own_ush48, own_G0, own_G1, own_G2, own_G3, own_G4, own_G5, own_G6, own_G7, own_G8, own_G9, own_G10, own_G11, own_G12, own_G13, own_G14, own_G15, own_G16, own_G17, own_G18, own_G19, own_G20, own_G21, own_G22, own_G23, own_G24, own_G25, own_G26, own_G27, own_G28, own_G29, own_G30, own_G31, Sh.bt_big, Nat.reduceLT, Nat.reduceAdd, Nat.reduceSub, Nat.reduceLeDiff, decide_true, decide_false, Bool.and_true, Bool.true_and, Bool.and_false, Bool.false_and, Bool.or_false, Bool.false_or, Bool.not_true, Bool.not_false, Nat.zero_add, Nat.sub_zero, Nat.lt_irrefl, Nat.not_lt_zero]
  | 61, _ => simp only [Sh.bt_or, Sh.bt_zero, own_mask, own_mask4, own_shl4, own_shl8, own_shl16, own_shl24, own_shl28, own_shl32, own_shl40, own_shl48, own_shl52, own_shl56, own_ush0, own_ush4, own_ush8, own_ush12, own_ush16, own_ush20, own_ush24, own_ush28, own_ush32, own_ush36, own_ush40, own_ush44, own_ush48, own_G0, own_G1, own_G2, own_G3, own_G4, own_G5, own_G6, own_G7, own_G8, own_G9, own_G10, own_G11, own_G12, own_G13, own_G14, own_G15, own_G16, own_G17, own_G18, own_G19, own_G20, own_G21, own_G22, own_G23, own_G24, own_G25, own_G26, own_G27, own_G28, own_G29, own_G30, own_G31, Sh.bt_big, Nat.reduceLT, Nat.reduceAdd, Nat.reduceSub, Nat.reduceLeDiff, decide_true, decide_false, Bool.and_true, Bool.true_and, Bool.and_false, Bool.false_and, Bool.or_false, Bool.false_or, Bool.not_true, Bool.not_false, Nat.zero_add, Nat.sub_zero, Nat.lt_irrefl, Nat.not_lt_zero]
  | 62, _ => simp only [Sh.bt_or, Sh.bt_zero, own_mask, own_mask4, own_shl4, own_shl8, own_shl16, own_shl24, own_shl28, own_shl32, own_shl40, own_shl48, own_shl52, own_shl56, own_ush0, own_ush4, own_ush8, own_ush12, own_ush16, own_ush20, own_ush24, own_ush28, own_ush32, own_ush36, own_ush40, own_ush44, own_ush48, own_G0, own_G1, own_G2, own_G3, own_G4, own_G5, own_G6, own_G7, own_G8, own_G9, own_G10, own_G11, own_G12, own_G13, own_G14, own_G15, own_G16, own_G17, own_G18, own_G19, own_G20, own_G21, own_G22, own_G23, own_G24, own_G25, own_G26, own_G27, own_G28, own_G29, own_G30, own_G31, Sh.bt_big, Nat.reduceLT, Nat.reduceAdd, Nat.reduceSub, Nat.reduceLeDiff, decide_true, decide_false, Bool.and_true, Bool.true_and, Bool.and_false, Bool.false_and, Bool.or_false, Bool.false_or, Bool.not_true, Bool.not_false, Nat.zero_add, Nat.sub_zero, Nat.lt_irrefl, Nat.not_lt_zero]
  | 63, _ => simp only [Sh.bt_or, Sh.bt_zero, own_mask, own_mask4, own_shl4, own_shl8, own_shl16, own_shl24, own_shl28, own_shl32, own_shl40, own_shl48, own_shl52, own_shl56, own_ush0, own_ush4, own_ush8, own_ush12, own_ush16, own_ush20, own_ush24, own_ush28, own_ush32, own_ush36, own_ush40, own_ush44, own_ush48, own_G0, own_G1, own_G2, own_G3, own_G4, own_G5, own_G6, own_G7, own_G8, own_G9, own_G10, own_G11, own_G12, own_G13, own_G14, own_G15, own_G16, own_G17, own_G18, own_G19, own_G20, own_G21, own_G22, own_G23, own_G24, own_G25, own_G26, own_G27, own_G28, own_G29, own_G30, own_G31, Sh.bt_big, Nat.reduceLT, Nat.reduceAdd, Nat.reduceSub, Nat.reduceLeDiff, decide_true, decide_false, Bool.and_true, Bool.true_and, Bool.and_false, Bool.false_and, Bool.or_false, Bool.false_or, Bool.not_true, Bool.not_false, Nat.zero_add, Nat.sub_zero, Nat.lt_irrefl, Nat.not_lt_zero]
  | n + 64, h => exact absurd h (by omega)
theorem own_e3 (a0 a1 a2 a3 a4 : Int64) : own_word (own_f (a0 &&& 4503599627370495) (a1 &&& 4503599627370495) (a2 &&& 4503599627370495) (a3 &&& 4503599627370495) (a4 &&& 281474976710655) 31) (own_f (a0 &&& 4503599627370495) (a1 &&& 4503599627370495) (a2 &&& 4503599627370495) (a3 &&& 4503599627370495) (a4 &&& 281474976710655) 30) (own_f (a0 &&& 4503599627370495) (a1 &&& 4503599627370495) (a2 &&& 4503599627370495) (a3 &&& 4503599627370495) (a4 &&& 281474976710655) 29) (own_f (a0 &&& 4503599627370495) (a1 &&& 4503599627370495) (a2 &&& 4503599627370495) (a3 &&& 4503599627370495) (a4 &&& 281474976710655) 28) (own_f (a0 &&& 4503599627370495) (a1 &&& 4503599627370495) (a2 &&& 4503599627370495) (a3 &&& 4503599627370495) (a4 &&& 281474976710655) 27) (own_f (a0 &&& 4503599627370495) (a1 &&& 4503599627370495) (a2 &&& 4503599627370495) (a3 &&& 4503599627370495) (a4 &&& 281474976710655) 26) (own_f (a0 &&& 4503599627370495) (a1 &&& 4503599627370495) (a2 &&& 4503599627370495) (a3 &&& 4503599627370495) (a4 &&& 281474976710655) 25) (own_f (a0 &&& 4503599627370495) (a1 &&& 4503599627370495) (a2 &&& 4503599627370495) (a3 &&& 4503599627370495) (a4 &&& 281474976710655) 24) = ((XT.ushrL (a3 &&& 4503599627370495) 36) ||| ((a4 &&& 281474976710655) <<< ((16 : Int32).toInt64 &&& 63))) := by
  refine Sh.bt_ext fun i hi => ?_
  rw [own_word]
  match i, hi with
  | 0, _ => simp only [Sh.bt_or, Sh.bt_zero, own_mask, own_mask4, own_shl4, own_shl8, own_shl16, own_shl24, own_shl28, own_shl32, own_shl40, own_shl48, own_shl52, own_shl56, own_ush0, own_ush4, own_ush8, own_ush12, own_ush16, own_ush20, own_ush24, own_ush28, own_ush32, own_ush36, own_ush40, own_ush44, own_ush48, own_G0, own_G1, own_G2, own_G3, own_G4, own_G5, own_G6, own_G7, own_G8, own_G9, own_G10, own_G11, own_G12, own_G13, own_G14, own_G15, own_G16, own_G17, own_G18, own_G19, own_G20, own_G21, own_G22, own_G23, own_G24, own_G25, own_G26, own_G27, own_G28, own_G29, own_G30, own_G31, Sh.bt_big, Nat.reduceLT, Nat.reduceAdd, Nat.reduceSub, Nat.reduceLeDiff, decide_true, decide_false, Bool.and_true, Bool.true_and, Bool.and_false, Bool.false_and, Bool.or_false, Bool.false_or, Bool.not_true, Bool.not_false, Nat.zero_add, Nat.sub_zero, Nat.lt_irrefl, Nat.not_lt_zero]
  | 1, _ => simp only [Sh.bt_or, Sh.bt_zero, own_mask, own_mask4, own_shl4, own_shl8, own_shl16, own_shl24, own_shl28, own_shl32, own_shl40, own_shl48, own_shl52, own_shl56, own_ush0, own_ush4, own_ush8, own_ush12, own_ush16, own_ush20, own_ush24, own_ush28, own_ush32, own_ush36, own_ush40, own_ush44, own_ush48, own_G0, own_G1, own_G2, own_G3, own_G4, own_G5, own_G6, own_G7, own_G8, own_G9, own_G10, own_G11, own_G12, own_G13, own_G14, own_G15, own_G16, own_G17, own_G18, own_G19, own_G20, own_G21, own_G22, own_G23, own_G24, own_G25, own_G26, own_G27, own_G28, own_G29, own_G30, own_G31, Sh.bt_big, Nat.reduceLT, Nat.reduceAdd, Nat.reduceSub, Nat.reduceLeDiff, decide_true, decide_false, Bool.and_true, Bool.true_and, Bool.and_false, Bool.false_and, Bool.or_false, Bool.false_or, Bool.not_true, Bool.not_false, Nat.zero_add, Nat.sub_zero, Nat.lt_irrefl, Nat.not_lt_zero]
  | 2, _ => simp only [Sh.bt_or, Sh.bt_zero, own_mask, own_mask4, own_shl4, own_shl8, own_shl16, own_shl24, own_shl28, own_shl32, own_shl40, own_shl48, own_shl52, own_shl56, own_ush0, own_ush4, own_ush8, own_ush12, own_ush16, own_ush20, own_ush24, own_ush28, own_ush32, own_ush36, own_ush40, own_ush44, own_ush48, own_G0, own_G1, own_G2, own_G3, own_G4, own_G5, own_G6, own_G7, own_G8, own_G9, own_G10, own_G11, own_G12, own_G13, own_G14, own_G15, own_G16, own_G17, own_G18, own_G19, own_G20, own_G21, own_G22, own_G23, own_G24, own_G25, own_G26, own_G27, own_G28, own_G29, own_G30, own_G31, Sh.bt_big, Nat.reduceLT, Nat.reduceAdd, Nat.reduceSub, Nat.reduceLeDiff, decide_true, decide_false, Bool.and_true, Bool.true_and, Bool.and_false, Bool.false_and, Bool.or_false, Bool.false_or, Bool.not_true, Bool.not_false, Nat.zero_add, Nat.sub_zero, Nat.lt_irrefl, Nat.not_lt_zero]
  | 3, _ => simp only [Sh.bt_or, Sh.bt_zero, own_mask, own_mask4, own_shl4, own_shl8, own_shl16, own_shl24, own_shl28, own_shl32, own_shl40, own_shl48, own_shl52, own_shl56, own_ush0, own_ush4, own_ush8, own_ush12, own_ush16, own_ush20, own_ush24, own_ush28, own_ush32, own_ush36, own_ush40, own_ush44, own_ush48, own_G0, own_G1, own_G2, own_G3, own_G4, own_G5, own_G6, own_G7, own_G8, own_G9, own_G10, own_G11, own_G12, own_G13, own_G14, own_G15, own_G16, own_G17, own_G18, own_G19, own_G20, own_G21, own_G22, own_G23, own_G24, own_G25, own_G26, own_G27, own_G28, own_G29, own_G30, own_G31, Sh.bt_big, Nat.reduceLT, Nat.reduceAdd, Nat.reduceSub, Nat.reduceLeDiff, decide_true, decide_false, Bool.and_true, Bool.true_and, Bool.and_false, Bool.false_and, Bool.or_false, Bool.false_or, Bool.not_true, Bool.not_false, Nat.zero_add, Nat.sub_zero, Nat.lt_irrefl, Nat.not_lt_zero]
  | 4, _ => simp only [Sh.bt_or, Sh.bt_zero, own_mask, own_mask4, own_shl4, own_shl8, own_shl16, own_shl24, own_shl28, own_shl32, own_shl40, own_shl48, own_shl52, own_shl56, own_ush0, own_ush4, own_ush8, own_ush12, own_ush16, own_ush20, own_ush24, own_ush28, own_ush32, own_ush36, own_ush40, own_ush44, own_ush48, own_G0, own_G1, own_G2, own_G3, own_G4, own_G5, own_G6, own_G7, own_G8, own_G9, own_G10, own_G11, own_G12, own_G13, own_G14, own_G15, own_G16, own_G17, own_G18, own_G19, own_G20, own_G21, own_G22, own_G23, own_G24, own_G25, own_G26, own_G27, own_G28, own_G29, own_G30, own_G31, Sh.bt_big, Nat.reduceLT, Nat.reduceAdd, Nat.reduceSub, Nat.reduceLeDiff, decide_true, decide_false, Bool.and_true, Bool.true_and, Bool.and_false, Bool.false_and, Bool.or_false, Bool.false_or, Bool.not_true, Bool.not_false, Nat.zero_add, Nat.sub_zero, Nat.lt_irrefl, Nat.not_lt_zero]
  | 5, _ => simp only [Sh.bt_or, Sh.bt_zero, own_mask, own_mask4, own_shl4, own_shl8, own_shl16, own_shl24, own_shl28, own_shl32, own_shl40, own_shl48, own_shl52, own_shl56, own_ush0, own_ush4, own_ush8, own_ush12, own_ush16, own_ush20, own_ush24, own_ush28, own_ush32, own_ush36, own_ush40, own_ush44, own_ush48, own_G0, own_G1, own_G2, own_G3, own_G4, own_G5, own_G6, own_G7, own_G8, own_G9, own_G10, own_G11, own_G12, own_G13, own_G14, own_G15, own_G16, own_G17, own_G18, own_G19, own_G20, own_G21, own_G22, own_G23, own_G24, own_G25, own_G26, own_G27, own_G28, own_G29, own_G30, own_G31, Sh.bt_big, Nat.reduceLT, Nat.reduceAdd, Nat.reduceSub, Nat.reduceLeDiff, decide_true, decide_false, Bool.and_true, Bool.true_and, Bool.and_false, Bool.false_and, Bool.or_false, Bool.false_or, Bool.not_true, Bool.not_false, Nat.zero_add, Nat.sub_zero, Nat.lt_irrefl, Nat.not_lt_zero]
  | 6, _ => simp only [Sh.bt_or, Sh.bt_zero, own_mask, own_mask4, own_shl4, own_shl8, own_shl16, own_shl24, own_shl28, own_shl32, own_shl40, own_shl48, own_shl52, own_shl56, own_ush0, own_ush4, own_ush8, own_ush12, own_ush16, own_ush20, own_ush24, own_ush28, own_ush32, own_ush36, own_ush40, own_ush44, own_ush48, own_G0, own_G1, own_G2, own_G3, own_G4, own_G5, own_G6, own_G7, own_G8, own_G9, own_G10, own_G11, own_G12, own_G13, own_G14, own_G15, own_G16, own_G17, own_G18, own_G19, own_G20, own_G21, own_G22, own_G23, own_G24, own_G25, own_G26, own_G27, own_G28, own_G29, own_G30, own_G31, Sh.bt_big, Nat.reduceLT, Nat.reduceAdd, Nat.reduceSub, Nat.reduceLeDiff, decide_true, decide_false, Bool.and_true, Bool.true_and, Bool.and_false, Bool.false_and, Bool.or_false, Bool.false_or, Bool.not_true, Bool.not_false, Nat.zero_add, Nat.sub_zero, Nat.lt_irrefl, Nat.not_lt_zero]
  | 7, _ => simp only [Sh.bt_or, Sh.bt_zero, own_mask, own_mask4, own_shl4, own_shl8, own_shl16, own_shl24, own_shl28, own_shl32, own_shl40, own_shl48, own_shl52, own_shl56, own_ush0, own_ush4, own_ush8, own_ush12, own_ush16, own_ush20, own_ush24, own_ush28, own_ush32, own_ush36, own_ush40, own_ush44, own_ush48, own_G0, own_G1, own_G2, own_G3, own_G4, own_G5, own_G6, own_G7, own_G8, own_G9, own_G10, own_G11, own_G12, own_G13, own_G14, own_G15, own_G16, own_G17, own_G18, own_G19, own_G20, own_G21, own_G22, own_G23, own_G24, own_G25, own_G26, own_G27, own_G28, own_G29, own_G30, own_G31, Sh.bt_big, Nat.reduceLT, Nat.reduceAdd, Nat.reduceSub, Nat.reduceLeDiff, decide_true, decide_false, Bool.and_true, Bool.true_and, Bool.and_false, Bool.false_and, Bool.or_false, Bool.false_or, Bool.not_true, Bool.not_false, Nat.zero_add, Nat.sub_zero, Nat.lt_irrefl, Nat.not_lt_zero]
  | 8, _ => simp only [Sh.bt_or, Sh.bt_zero, own_mask, own_mask4, own_shl4, own_shl8, own_shl16, own_shl24, own_shl28, own_shl32, own_shl40, own_shl48, own_shl52, own_shl56, own_ush0, own_ush4, own_ush8, own_ush12, own_ush16, own_ush20, own_ush24, own_ush28, own_ush32, own_ush36, own_ush40, own_ush44, own_ush48, own_G0, own_G1, own_G2, own_G3, own_G4, own_G5, own_G6, own_G7, own_G8, own_G9, own_G10, own_G11, own_G12, own_G13, own_G14, own_G15, own_G16, own_G17, own_G18, own_G19, own_G20, own_G21, own_G22, own_G23, own_G24, own_G25, own_G26, own_G27, own_G28, own_G29, own_G30, own_G31, Sh.bt_big, Nat.reduceLT, Nat.reduceAdd, Nat.reduceSub, Nat.reduceLeDiff, decide_true, decide_false, Bool.and_true, Bool.true_and, Bool.and_false, Bool.false_and, Bool.or_false, Bool.false_or, Bool.not_true, Bool.not_false, Nat.zero_add, Nat.sub_zero, Nat.lt_irrefl, Nat.not_lt_zero]
  | 9, _ => simp only [Sh.bt_or, Sh.bt_zero, own_mask, own_mask4, own_shl4, own_shl8, own_shl16, own_shl24, own_shl28, own_shl32, own_shl40, own_shl48, own_shl52, own_shl56, own_ush0, own_ush4, own_ush8, own_ush12, own_ush16, own_ush20, own_ush24, own_ush28, own_ush32, own_ush36, own_ush40, own_ush44, own_ush48, own_G0, own_G1, own_G2, own_G3, own_G4, own_G5, own_G6, own_G7, own_G8, own_G9, own_G10, own_G11, own_G12, own_G13, own_G14, own_G15, own_G16, own_G17, own_G18, own_G19, own_G20, own_G21, own_G22, own_G23, own_G24, own_G25, own_G26, own_G27, own_G28, own_G29, own_G30, own_G31, Sh.bt_big, Nat.reduceLT, Nat.reduceAdd, Nat.reduceSub, Nat.reduceLeDiff, decide_true, decide_false, Bool.and_true, Bool.true_and, Bool.and_false, Bool.false_and, Bool.or_false, Bool.false_or, Bool.not_true, Bool.not_false, Nat.zero_add, Nat.sub_zero, Nat.lt_irrefl, Nat.not_lt_zero]
  | 10, _ => simp only [Sh.bt_or, Sh.bt_zero, own_mask, own_mask4, own_shl4, own_shl8, own_shl16, own_shl24, own_shl28, own_shl32, own_shl40, own_shl48, own_shl52, own_shl56, own_ush0, own_ush4, own_ush8, own_ush12, own_ush16, own_ush20, own_ush24, own_ush28, own_ush32, own_ush36, own_ush40, own_ush44, own_ush48, own_G0, own_G1, own_G2, own_G3, own_G4, own_G5, own_G6, own_G7, own_G8, own_G9, own_G10, own_G11, own_G12, own_G13, own_G14, own_G15, own_G16, own_G17, own_G18, own_G19, own_G20, own_G21, own_G22, own_G23, own_G24, own_G25, own_G26, own_G27, own_G28, own_G29, own_G30, own_G31, Sh.bt_big, Nat.reduceLT, Nat.reduceAdd, Nat.reduceSub, Nat.reduceLeDiff, decide_true, decide_false, Bool.and_true, Bool.true_and, Bool.and_false, Bool.false_and, Bool.or_false, Bool.false_or, Bool.not_true, Bool.not_false, Nat.zero_add, Nat.sub_zero, Nat.lt_irrefl, Nat.not_lt_zero]
  | 11, _ => simp only [Sh.bt_or, Sh.bt_zero, own_mask, own_mask4, own_shl4, own_shl8, own_shl16, own_shl24, own_shl28, own_shl32, own_shl40, own_shl48, own_shl52, own_shl56, own_ush0, own_ush4, own_ush8, own_ush12, own_ush16, own_ush20, own_ush24, own_ush28, own_ush32, own_ush36, own_ush40, own_ush44, own_ush48, own_G0, own_G1, own_G2, own_G3, own_G4, own_G5, own_G6, own_G7, own_G8, own_G9, own_G10, own_G11, own_G12, own_G13, own_G14, own_G15, own_G16, own_G17, own_G18, own_G19, own_G20, own_G21, own_G22, own_G23, own_G24, own_G25, own_G26, own_G27, own_G28, own_G29, own_G30, own_G31, Sh.bt_big, Nat.reduceLT, Nat.reduceAdd, Nat.reduceSub, Nat.reduceLeDiff, decide_true, decide_false, Bool.and_true, Bool.true_and, Bool.and_false, Bool.false_and, Bool.or_false, Bool.false_or, Bool.not_true, Bool.not_false, Nat.zero_add, Nat.sub_zero, Nat.lt_irrefl, Nat.not_lt_zero]
  | 12, _ => simp only [Sh.bt_or, Sh.bt_zero, own_mask, own_mask4, own_shl4, own_shl8, own_shl16, own_shl24, own_shl28, own_shl32, own_shl40, own_shl48, own_shl52, own_shl56, own_ush0, own_ush4, own_ush8, own_ush12, own_ush16, own_ush20, own_ush24, own_ush28, own_ush32, own_ush36, own_ush40, own_ush44, own_ush48, own_G0, own_G1, own_G2, own_G3, own_G4, own_G5, own_G6, own_G7, own_G8, own_G9, own_G10, own_G11, own_G12, own_G13, own_G14, own_G15, own_G16, own_G17, own_G18, own_G19, own_G20, own_G21, own_G22, own_G23, own_G24, own_G25, own_G26, own_G27, own_G28, own_G29, own_G30, own_G31, Sh.bt_big, Nat.reduceLT, Nat.reduceAdd, Nat.reduceSub, Nat.reduceLeDiff, decide_true, decide_false, Bool.and_true, Bool.true_and, Bool.and_false, Bool.false_and, Bool.or_false, Bool.false_or, Bool.not_true, Bool.not_false, Nat.zero_add, Nat.sub_zero, Nat.lt_irrefl, Nat.not_lt_zero]
  | 13, _ => simp only [Sh.bt_or, Sh.bt_zero, own_mask, own_mask4, own_shl4, own_shl8, own_shl16, own_shl24, own_shl28, own_shl32, own_shl40, own_shl48, own_shl52, own_shl56, own_ush0, own_ush4, own_ush8, own_ush12, own_ush16, own_ush20, own_ush24, own_ush28, own_ush32, own_ush36, own_ush40, own_ush44, own_ush48, own_G0, own_G1, own_G2, own_G3, own_G4, own_G5, own_G6, own_G7, own_G8, own_G9, own_G10, own_G11, own_G12, own_G13, own_G14, own_G15, own_G16, own_G17, own_G18, own_G19, own_G20, own_G21, own_G22, own_G23, own_G24, own_G25, own_G26, own_G27, own_G28, own_G29, own_G30, own_G31, Sh.bt_big, Nat.reduceLT, Nat.reduceAdd, Nat.reduceSub, Nat.reduceLeDiff, decide_true, decide_false, Bool.and_true, Bool.true_and, Bool.and_false, Bool.false_and, Bool.or_false, Bool.false_or, Bool.not_true, Bool.not_false, Nat.zero_add, Nat.sub_zero, Nat.lt_irrefl, Nat.not_lt_zero]
  | 14, _ => simp only [Sh.bt_or, Sh.bt_zero, own_mask, own_mask4, own_shl4, own_shl8, own_shl16, own_shl24, own_shl28, own_shl32, own_shl40, own_shl48, own_shl52, own_shl56, own_ush0, own_ush4, own_ush8, own_ush12, own_ush16, own_ush20, own_ush24, own_ush28, own_ush32, own_ush36, own_ush40, own_ush44, own_ush48, own_G0, own_G1, own_G2, own_G3, own_G4, own_G5, own_G6, own_G7, own_G8, own_G9, own_G10, own_G11, own_G12, own_G13, own_G14, own_G15, own_G16, own_G17, own_G18, own_G19, own_G20, own_G21, own_G22, own_G23, own_G24, own_G25, own_G26, own_G27, own_G28, own_G29, own_G30, own_G31, Sh.bt_big, Nat.reduceLT, Nat.reduceAdd, Nat.reduceSub, Nat.reduceLeDiff, decide_true, decide_false, Bool.and_true, Bool.true_and, Bool.and_false, Bool.false_and, Bool.or_false, Bool.false_or, Bool.not_true, Bool.not_false, Nat.zero_add, Nat.sub_zero, Nat.lt_irrefl, Nat.not_lt_zero]
  | 15, _ => simp only [Sh.bt_or, Sh.bt_zero, own_mask, own_mask4, own_shl4, own_shl8, own_shl16, own_shl24, own_shl28, own_shl32, own_shl40, own_shl48, own_shl52, own_shl56, own_ush0, own_ush4, own_ush8, own_ush12, own_ush16, own_ush20, own_ush24, own_ush28, own_ush32, own_ush36, own_ush40, own_ush44, own_ush48, own_G0, own_G1, own_G2, own_G3, own_G4, own_G5, own_G6, own_G7, own_G8, own_G9, own_G10, own_G11, own_G12, own_G13, own_G14, own_G15, own_G16, own_G17, own_G18, own_G19, own_G20, own_G21, own_G22, own_G23, own_G24, own_G25, own_G26, own_G27, own_G28, own_G29, own_G30, own_G31, Sh.bt_big, Nat.reduceLT, Nat.reduceAdd, Nat.reduceSub, Nat.reduceLeDiff, decide_true, decide_false, Bool.and_true, Bool.true_and, Bool.and_false, Bool.false_and, Bool.or_false, Bool.false_or, Bool.not_true, Bool.not_false, Nat.zero_add, Nat.sub_zero, Nat.lt_irrefl, Nat.not_lt_zero]
  | 16, _ => simp only [Sh.bt_or, Sh.bt_zero, own_mask, own_mask4, own_shl4, own_shl8, own_shl16, own_shl24, own_shl28, own_shl32, own_shl40, own_shl48, own_shl52, own_shl56, own_ush0, own_ush4, own_ush8, own_ush12, own_ush16, own_ush20, own_ush24, own_ush28, own_ush32, own_ush36, own_ush40, own_ush44, own_ush48, own_G0, own_G1, own_G2, own_G3, own_G4, own_G5, own_G6, own_G7, own_G8, own_G9, own_G10, own_G11, own_G12, own_G13, own_G14, own_G15, own_G16, own_G17, own_G18, own_G19, own_G20, own_G21, own_G22, own_G23, own_G24, own_G25, own_G26, own_G27, own_G28, own_G29, own_G30, own_G31, Sh.bt_big, Nat.reduceLT, Nat.reduceAdd, Nat.reduceSub, Nat.reduceLeDiff, decide_true, decide_false, Bool.and_true, Bool.true_and, Bool.and_false, Bool.false_and, Bool.or_false, Bool.false_or, Bool.not_true, Bool.not_false, Nat.zero_add, Nat.sub_zero, Nat.lt_irrefl, Nat.not_lt_zero]
  | 17, _ => simp only [Sh.bt_or, Sh.bt_zero, own_mask, own_mask4, own_shl4, own_shl8, own_shl16, own_shl24, own_shl28, own_shl32, own_shl40, own_shl48, own_shl52, own_shl56, own_ush0, own_ush4, own_ush8, own_ush12, own_ush16, own_ush20, own_ush24, own_ush28, own_ush32, own_ush36, own_ush40, own_ush44, own_ush48, own_G0, own_G1, own_G2, own_G3, own_G4, own_G5, own_G6, own_G7, own_G8, own_G9, own_G10, own_G11, own_G12, own_G13, own_G14, own_G15, own_G16, own_G17, own_G18, own_G19, own_G20, own_G21, own_G22, own_G23, own_G24, own_G25, own_G26, own_G27, own_G28, own_G29, own_G30, own_G31, Sh.bt_big, Nat.reduceLT, Nat.reduceAdd, Nat.reduceSub, Nat.reduceLeDiff, decide_true, decide_false, Bool.and_true, Bool.true_and, Bool.and_false, Bool.false_and, Bool.or_false, Bool.false_or, Bool.not_true, Bool.not_false, Nat.zero_add, Nat.sub_zero, Nat.lt_irrefl, Nat.not_lt_zero]
  | 18, _ => simp only [Sh.bt_or, Sh.bt_zero, own_mask, own_mask4, own_shl4, own_shl8, own_shl16, own_shl24, own_shl28, own_shl32, own_shl40, own_shl48, own_shl52, own_shl56, own_ush0, own_ush4, own_ush8, own_ush12, own_ush16, own_ush20, own_ush24, own_ush28, own_ush32, own_ush36, own_ush40, own_ush44, own_ush48, own_G0, own_G1, own_G2, own_G3, own_G4, own_G5, own_G6, own_G7, own_G8, own_G9, own_G10, own_G11, own_G12, own_G13, own_G14, own_G15, own_G16, own_G17, own_G18, own_G19, own_G20, own_G21, own_G22, own_G23, own_G24, own_G25, own_G26, own_G27, own_G28, own_G29, own_G30, own_G31, Sh.bt_big, Nat.reduceLT, Nat.reduceAdd, Nat.reduceSub, Nat.reduceLeDiff, decide_true, decide_false, Bool.and_true, Bool.true_and, Bool.and_false, Bool.false_and, Bool.or_false, Bool.false_or, Bool.not_true, Bool.not_false, Nat.zero_add, Nat.sub_zero, Nat.lt_irrefl, Nat.not_lt_zero]
  | 19, _ => simp only [Sh.bt_or, Sh.bt_zero, own_mask, own_mask4, own_shl4, own_shl8, own_shl16, own_shl24, own_shl28, own_shl32, own_shl40, own_shl48, own_shl52, own_shl56, own_ush0, own_ush4, own_ush8, own_ush12, own_ush16, own_ush20, own_ush24, own_ush28, own_ush32, own_ush36, own_ush40, own_ush44, own_ush48, own_G0, own_G1, own_G2, own_G3, own_G4, own_G5, own_G6, own_G7, own_G8, own_G9, own_G10, own_G11, own_G12, own_G13, own_G14, own_G15, own_G16, own_G17, own_G18, own_G19, own_G20, own_G21, own_G22, own_G23, own_G24, own_G25, own_G26, own_G27, own_G28, own_G29, own_G30, own_G31, Sh.bt_big, Nat.reduceLT, Nat.reduceAdd, Nat.reduceSub, Nat.reduceLeDiff, decide_true, decide_false, Bool.and_true, Bool.true_and, Bool.and_false, Bool.false_and, Bool.or_false, Bool.false_or, Bool.not_true, Bool.not_false, Nat.zero_add, Nat.sub_zero, Nat.lt_irrefl, Nat.not_lt_zero]
  | 20, _ => simp only [Sh.bt_or, Sh.bt_zero, own_mask, own_mask4, own_shl4, own_shl8, own_shl16, own_shl24, own_shl28, own_shl32, own_shl40, own_shl48, own_shl52, own_shl56, own_ush0, own_ush4, own_ush8, own_ush12, own_ush16, own_ush20, own_ush24, own_ush28, own_ush32, own_ush36, own_ush40, own_ush44, own_ush48, own_G0, own_G1, own_G2, own_G3, own_G4, own_G5, own_G6, own_G7, own_G8, own_G9, own_G10, own_G11, own_G12, own_G13, own_G14, own_G15, own_G16, own_G17, own_G18, own_G19, own_G20, own_G21, own_G22, own_G23, own_G24, own_G25, own_G26, own_G27, own_G28, own_G29, own_G30, own_G31, Sh.bt_big, Nat.reduceLT, Nat.reduceAdd, Nat.reduceSub, Nat.reduceLeDiff, decide_true, decide_false, Bool.and_true, Bool.true_and, Bool.and_false, Bool.false_and, Bool.or_false, Bool.false_or, Bool.not_true, Bool.not_false, Nat.zero_add, Nat.sub_zero, Nat.lt_irrefl, Nat.not_lt_zero]
  | 21, _ => simp only [Sh.bt_or, Sh.bt_zero, own_mask, own_mask4, own_shl4, own_shl8, own_shl16, own_shl24, own_shl28, own_shl32, own_shl40, own_shl48, own_shl52, own_shl56, own_ush0, own_ush4, own_ush8, own_ush12, own_ush16, own_ush20, own_ush24, own_ush28, own_ush32, own_ush36, own_ush40, own_ush44, own_ush48, own_G0, own_G1, own_G2, own_G3, own_G4, own_G5, own_G6, own_G7, own_G8, own_G9, own_G10, own_G11, own_G12, own_G13, own_G14, own_G15, own_G16, own_G17, own_G18, own_G19, own_G20, own_G21, own_G22, own_G23, own_G24, own_G25, own_G26, own_G27, own_G28, own_G29, own_G30, own_G31, Sh.bt_big, Nat.reduceLT, Nat.reduceAdd, Nat.reduceSub, Nat.reduceLeDiff, decide_true, decide_false, Bool.and_true, Bool.true_and, Bool.and_false, Bool.false_and, Bool.or_false, Bool.false_or, Bool.not_true, Bool.not_false, Nat.zero_add, Nat.sub_zero, Nat.lt_irrefl, Nat.not_lt_zero]
  | 22, _ => simp only [Sh.bt_or, Sh.bt_zero, own_mask, own_mask4, own_shl4, own_shl8, own_shl16, own_shl24, own_shl28, own_shl32, own_shl40, own_shl48, own_shl52, own_shl56, own_ush0, own_ush4, own_ush8, own_ush12, own_ush16, own_ush20, own_ush24, own_ush28, own_ush32, own_ush36, own_ush40, own_ush44, own_ush48, own_G0, own_G1, own_G2, own_G3, own_G4, own_G5, own_G6, own_G7, own_G8, own_G9, own_G10, own_G11, own_G12, own_G13, own_G14, own_G15, own_G16, own_G17, own_G18, own_G19, own_G20, own_G21, own_G22, own_G23, own_G24, own_G25, own_G26, own_G27, own_G28, own_G29, own_G30, own_G31, Sh.bt_big, Nat.reduceLT, Nat.reduceAdd, Nat.reduceSub, Nat.reduceLeDiff, decide_true, decide_false, Bool.and_true, Bool.true_and, Bool.and_false, Bool.false_and, Bool.or_false, Bool.false_or, Bool.not_true, Bool.not_false, Nat.zero_add, Nat.sub_zero, Nat.lt_irrefl, Nat.not_lt_zero]
  | 23, _ => simp only [Sh.bt_or, Sh.bt_zero, own_mask, own_mask4, own_shl4, own_shl8, own_shl16, own_shl24, own_shl28, own_shl32, own_shl40, own_shl48, own_shl52, own_shl56, own_ush0, own_ush4, own_ush8, own_ush12, own_ush16, own_ush20, own_ush24, own_ush28, own_ush32, own_ush36, own_ush40, own_ush44, own_ush48, own_G0, own_G1, own_G2, own_G3, own_G4, own_G5, own_G6, own_G7, own_G8, own_G9, own_G10, own_G11, own_G12, own_G13, own_G14, own_G15, own_G16, own_G17, own_G18, own_G19, own_G20, own_G21, own_G22, own_G23, own_G24, own_G25, own_G26, own_G27, own_G28, own_G29, own_G30, own_G31, Sh.bt_big, Nat.reduceLT, Nat.reduceAdd, Nat.reduceSub, Nat.reduceLeDiff, decide_true, decide_false, Bool.and_true, Bool.true_and, Bool.and_false, Bool.false_and, Bool.or_false, Bool.false_or, Bool.not_true, Bool.not_false, Nat.zero_add, Nat.sub_zero, Nat.lt_irrefl, Nat.not_lt_zero]
  | 24, _ => simp only [Sh.bt_or, Sh.bt_zero, own_mask, own_mask4, own_shl4, own_shl8, own_shl16, own_shl24, own_shl28, own_shl32, own_shl40, own_shl48, own_shl52, own_shl56, own_ush0, own_ush4, own_ush8, own_ush12, own_ush16, own_ush20, own_ush24, own_ush28, own_ush32, own_ush36, own_ush40, own_ush44, own_ush48, own_G0, own_G1, own_G2, own_G3, own_G4, own_G5, own_G6, own_G7, own_G8, own_G9, own_G10, own_G11, own_G12, own_G13, own_G14, own_G15, own_G16, own_G17, own_G18, own_G19, own_G20, own_G21, own_G22, own_G23, own_G24, own_G25, own_G26, own_G27, own_G28, own_G29, own_G30, own_G31, Sh.bt_big, Nat.reduceLT, Nat.reduceAdd, Nat.reduceSub, Nat.reduceLeDiff, decide_true, decide_false, Bool.and_true, Bool.true_and, Bool.and_false, Bool.false_and, Bool.or_false, Bool.false_or, Bool.not_true, Bool.not_false, Nat.zero_add, Nat.sub_zero, Nat.lt_irrefl, Nat.not_lt_zero]
  | 25, _ => simp only [Sh.bt_or, Sh.bt_zero, own_mask, own_mask4, own_shl4, own_shl8, own_shl16, own_shl24, own_shl28, own_shl32, own_shl40, own_shl48, own_shl52, own_shl56, own_ush0, own_ush4, own_ush8, own_ush12, own_ush16, own_ush20, own_ush24, own_ush28, own_ush32, own_ush36, own_ush40, own_ush44, own_ush48, own_G0, own_G1, own_G2, own_G3, own_G4, own_G5, own_G6, own_G7, own_G8, own_G9, own_G10, own_G11, own_G12, own_G13, own_G14, own_G15, own_G16, own_G17, own_G18, own_G19, own_G20, own_G21, own_G22, own_G23, own_G24, own_G25, own_G26, own_G27, own_G28, own_G29, own_G30, own_G31, Sh.bt_big, Nat.reduceLT, Nat.reduceAdd, Nat.reduceSub, Nat.reduceLeDiff, decide_true, decide_false, Bool.and_true, Bool.true_and, Bool.and_false, Bool.false_and, Bool.or_false, Bool.false_or, Bool.not_true, Bool.not_false, Nat.zero_add, Nat.sub_zero, Nat.lt_irrefl, Nat.not_lt_zero]
  | 26, _ => simp only [Sh.bt_or, Sh.bt_zero, own_mask, own_mask4, own_shl4, own_shl8, own_shl16, own_shl24, own_shl28, own_shl32, own_shl40, own_shl48, own_shl52, own_shl56, own_ush0, own_ush4, own_ush8, own_ush12, own_ush16, own_ush20, own_ush24, own_ush28, own_ush32, own_ush36, own_ush40, own_ush44, own_ush48, own_G0, own_G1, own_G2, own_G3, own_G4, own_G5, own_G6, own_G7, own_G8, own_G9, own_G10, own_G11, own_G12, own_G13, own_G14, own_G15, own_G16, own_G17, own_G18, own_G19, own_G20, own_G21, own_G22, own_G23, own_G24, own_G25, own_G26, own_G27, own_G28, own_G29, own_G30, own_G31, Sh.bt_big, Nat.reduceLT, Nat.reduceAdd, Nat.reduceSub, Nat.reduceLeDiff, decide_true, decide_false, Bool.and_true, Bool.true_and, Bool.and_false, Bool.false_and, Bool.or_false, Bool.false_or, Bool.not_true, Bool.not_false, Nat.zero_add, Nat.sub_zero, Nat.lt_irrefl, Nat.not_lt_zero]
  | 27, _ => simp only [Sh.bt_or, Sh.bt_zero, own_mask, own_mask4, own_shl4, own_shl8, own_shl16, own_shl24, own_shl28, own_shl32, own_shl40, own_shl48, own_shl52, own_shl56, own_ush0, own_ush4, own_ush8, own_ush12, own_ush16, own_ush20, own_ush24, own_ush28, own_ush32, own_ush36, own_ush40, own_ush44, own_ush48, own_G0, own_G1, own_G2, own_G3, own_G4, own_G5, own_G6, own_G7, own_G8, own_G9, own_G10, own_G11, own_G12, own_G13, own_G14, own_G15, own_G16, own_G17, own_G18, own_G19, own_G20, own_G21, own_G22, own_G23, own_G24, own_G25, own_G26, own_G27, own_G28, own_G29, own_G30, own_G31, Sh.bt_big, Nat.reduceLT, Nat.reduceAdd, Nat.reduceSub, Nat.reduceLeDiff, decide_true, decide_false, Bool.and_true, Bool.true_and, Bool.and_false, Bool.false_and, Bool.or_false, Bool.false_or, Bool.not_true, Bool.not_false, Nat.zero_add, Nat.sub_zero, Nat.lt_irrefl, Nat.not_lt_zero]
  | 28, _ => simp only [Sh.bt_or, Sh.bt_zero, own_mask, own_mask4, own_shl4, own_shl8, own_shl16, own_shl24, own_shl28, own_shl32, own_shl40, own_shl48, own_shl52, own_shl56, own_ush0, own_ush4, own_ush8, own_ush12, own_ush16, own_ush20, own_ush24, own_ush28, own_ush32, own_ush36, own_ush40, own_ush44, own_ush48, own_G0, own_G1, own_G2, own_G3, own_G4, own_G5, own_G6, own_G7, own_G8, own_G9, own_G10, own_G11, own_G12, own_G13, own_G14, own_G15, own_G16, own_G17, own_G18, own_G19, own_G20, own_G21, own_G22, own_G23, own_G24, own_G25, own_G26, own_G27, own_G28, own_G29, own_G30, own_G31, Sh.bt_big, Nat.reduceLT, Nat.reduceAdd, Nat.reduceSub, Nat.reduceLeDiff, decide_true, decide_false, Bool.and_true, Bool.true_and, Bool.and_false, Bool.false_and, Bool.or_false, Bool.false_or, Bool.not_true, Bool.not_false, Nat.zero_add, Nat.sub_zero, Nat.lt_irrefl, Nat.not_lt_zero]
  | 29, _ => simp only [Sh.bt_or, Sh.bt_zero, own_mask, own_mask4, own_shl4, own_shl8, own_shl16, own_shl24, own_shl28, own_shl32, own_shl40, own_shl48, own_shl52, own_shl56, own_ush0, own_ush4, own_ush8, own_ush12, own_ush16, own_ush20, own_ush24, own_ush28, own_ush32, own_ush36, own_ush40, own_ush44, own_ush48, own_G0, own_G1, own_G2, own_G3, own_G4, own_G5, own_G6, own_G7, own_G8, own_G9, own_G10, own_G11, own_G12, own_G13, own_G14, own_G15, own_G16, own_G17, own_G18, own_G19, own_G20, own_G21, own_G22, own_G23, own_G24, own_G25, own_G26, own_G27, own_G28, own_G29, own_G30, own_G31, Sh.bt_big, Nat.reduceLT, Nat.reduceAdd, Nat.reduceSub, Nat.reduceLeDiff, decide_true, decide_false, Bool.and_true, Bool.true_and, Bool.and_false, Bool.false_and, Bool.or_false, Bool.false_or, Bool.not_true, Bool.not_false, Nat.zero_add, Nat.sub_zero, Nat.lt_irrefl, Nat.not_lt_zero]
  | 30, _ => simp only [Sh.bt_or, Sh.bt_zero, own_mask, own_mask4, own_shl4, own_shl8, own_shl16, own_shl24, own_shl28, own_shl32, own_shl40, own_shl48, own_shl52, own_shl56, own_ush0, own_ush4, own_ush8, own_ush12, own_ush16, own_ush20, own_ush24, own_ush28, own_ush32, own_ush36, own_ush40, own_ush44, own_ush48, own_G0, own_G1, own_G2, own_G3, own_G4, own_G5, own_G6, own_G7, own_G8, own_G9, own_G10, own_G11, own_G12, own_G13, own_G14, own_G15, own_G16, own_G17, own_G18, own_G19, own_G20, own_G21, own_G22, own_G23, own_G24, own_G25, own_G26, own_G27, own_G28, own_G29, own_G30, own_G31, Sh.bt_big, Nat.reduceLT, Nat.reduceAdd, Nat.reduceSub, Nat.reduceLeDiff, decide_true, decide_false, Bool.and_true, Bool.true_and, Bool.and_false, Bool.false_and, Bool.or_false, Bool.false_or, Bool.not_true, Bool.not_false, Nat.zero_add, Nat.sub_zero, Nat.lt_irrefl, Nat.not_lt_zero]
  | 31, _ => simp only [Sh.bt_or, Sh.bt_zero, own_mask, own_mask4, own_shl4, own_shl8, own_shl16, own_shl24, own_shl28, own_shl32, own_shl40, own_shl48, own_shl52, own_shl56, own_ush0, own_ush4, own_ush8, own_ush12, own_ush16, own_ush20, own_ush24, own_ush28, own_ush32, own_ush36, own_ush40, own_ush44, own_ush48, own_G0, own_G1, own_G2, own_G3, own_G4, own_G5, own_G6, own_G7, own_G8, own_G9, own_G10, own_G11, own_G12, own_G13, own_G14, own_G15, own_G16, own_G17, own_G18, own_G19, own_G20, own_G21, own_G22, own_G23, own_G24, own_G25, own_G26, own_G27, own_G28, own_G29, own_G30, own_G31, Sh.bt_big, Nat.reduceLT, Nat.reduceAdd, Nat.reduceSub, Nat.reduceLeDiff, decide_true, decide_false, Bool.and_true, Bool.true_and, Bool.and_false, Bool.false_and, Bool.or_false, Bool.false_or, Bool.not_true, Bool.not_false, Nat.zero_add, Nat.sub_zero, Nat.lt_irrefl, Nat.not_lt_zero]
  | 32, _ => simp only [Sh.bt_or, Sh.bt_zero, own_mask, own_mask4, own_shl4, own_shl8, own_shl16, own_shl24, own_shl28, own_shl32, own_shl40, own_shl48, own_shl52, own_shl56, own_ush0, own_ush4, own_ush8, own_ush12, own_ush16, own_ush20, own_ush24, own_ush28, own_ush32, own_ush36, own_ush40, own_ush44, own_ush48, own_G0, own_G1, own_G2, own_G3, own_G4, own_G5, own_G6, own_G7, own_G8, own_G9, own_G10, own_G11, own_G12, own_G13, own_G14, own_G15, own_G16, own_G17, own_G18, own_G19, own_G20, own_G21, own_G22, own_G23, own_G24, own_G25, own_G26, own_G27, own_G28, own_G29, own_G30, own_G31, Sh.bt_big, Nat.reduceLT, Nat.reduceAdd, Nat.reduceSub, Nat.reduceLeDiff, decide_true, decide_false, Bool.and_true, Bool.true_and, Bool.and_false, Bool.false_and, Bool.or_false, Bool.false_or, Bool.not_true, Bool.not_false, Nat.zero_add, Nat.sub_zero, Nat.lt_irrefl, Nat.not_lt_zero]
  | 33, _ => simp only [Sh.bt_or, Sh.bt_zero, own_mask, own_mask4, own_shl4, own_shl8, own_shl16, own_shl24, own_shl28, own_shl32, own_shl40, own_shl48, own_shl52, own_shl56, own_ush0, own_ush4, own_ush8, own_ush12, own_ush16, own_ush20, own_ush24, own_ush28, own_ush32, own_ush36, own_ush40, own_ush44, own_ush48, own_G0, own_G1, own_G2, own_G3, own_G4, own_G5, own_G6, own_G7, own_G8, own_G9, own_G10, own_G11, own_G12, own_G13, own_G14, own_G15, own_G16, own_G17, own_G18, own_G19, own_G20, own_G21, own_G22, own_G23, own_G24, own_G25, own_G26, own_G27, own_G28, own_G29, own_G30, own_G31, Sh.bt_big, Nat.reduceLT, Nat.reduceAdd, Nat.reduceSub, Nat.reduceLeDiff, decide_true, decide_false, Bool.and_true, Bool.true_and, Bool.and_false, Bool.false_and, Bool.or_false, Bool.false_or, Bool.not_true, Bool.not_false, Nat.zero_add, Nat.sub_zero, Nat.lt_irrefl, Nat.not_lt_zero]
  | 34, _ => simp only [Sh.bt_or, Sh.bt_zero, own_mask, own_mask4, own_shl4, own_shl8, own_shl16, own_shl24, own_shl28, own_shl32, own_shl40, own_shl48, own_shl52, own_shl56, own_ush0, own_ush4, own_ush8, own_ush12, own_ush16, own_ush20, own_ush24, own_ush28, own_ush32, own_ush36, own_ush40, own_ush44, own_ush48, own_G0, own_G1, own_G2, own_G3, own_G4, own_G5, own_G6, own_G7, own_G8, own_G9, own_G10, own_G11, own_G12, own_G13, own_G14, own_G15, own_G16, own_G17, own_G18, own_G19, own_G20, own_G21, own_G22, own_G23, own_G24, own_G25, own_G26, own_G27, own_G28, own_G29, own_G30, own_G31, Sh.bt_big, Nat.reduceLT, Nat.reduceAdd, Nat.reduceSub, Nat.reduceLeDiff, decide_true, decide_false, Bool.and_true, Bool.true_and, Bool.and_false, Bool.false_and, Bool.or_false, Bool.false_or, Bool.not_true, Bool.not_false, Nat.zero_add, Nat.sub_zero, Nat.lt_irrefl, Nat.not_lt_zero]
  | 35, _ => simp only [Sh.bt_or, Sh.bt_zero, own_mask, own_mask4, own_shl4, own_shl8, own_shl16, own_shl24, own_shl28, own_shl32, own_shl40, own_shl48, own_shl52, own_shl56, own_ush0, own_ush4, own_ush8, own_ush12, own_ush16, own_ush20, own_ush24, own_ush28, own_ush32, own_ush36, own_ush40, own_ush44, own_ush48, own_G0, own_G1, own_G2, own_G3, own_G4, own_G5, own_G6, own_G7, own_G8, own_G9, own_G10, own_G11, own_G12, own_G13, own_G14, own_G15, own_G16, own_G17, own_G18, own_G19, own_G20, own_G21, own_G22, own_G23, own_G24, own_G25, own_G26, own_G27, own_G28, own_G29, own_G30, own_G31, Sh.bt_big, Nat.reduceLT, Nat.reduceAdd, Nat.reduceSub, Nat.reduceLeDiff, decide_true, decide_false, Bool.and_true, Bool.true_and, Bool.and_false, Bool.false_and, Bool.or_false, Bool.false_or, Bool.not_true, Bool.not_false, Nat.zero_add, Nat.sub_zero, Nat.lt_irrefl, Nat.not_lt_zero]
  | 36, _ => simp only [Sh.bt_or, Sh.bt_zero, own_mask, own_mask4, own_shl4, own_shl8, own_shl16, own_shl24, own_shl28, own_shl32, own_shl40, own_shl48, own_shl52, own_shl56, own_ush0, own_ush4, own_ush8, own_ush12, own_ush16, own_ush20, own_ush24, own_ush28, own_ush32, own_ush36, own_ush40, own_ush44, own_ush48, own_G0, own_G1, own_G2, own_G3, own_G4, own_G5, own_G6, own_G7, own_G8, own_G9, own_G10, own_G11, own_G12, own_G13, own_G14, own_G15, own_G16, own_G17, own_G18, own_G19, own_G20, own_G21, own_G22, own_G23, own_G24, own_G25, own_G26, own_G27, own_G28, own_G29, own_G30, own_G31, Sh.bt_big, Nat.reduceLT, Nat.reduceAdd, Nat.reduceSub, Nat.reduceLeDiff, decide_true, decide_false, Bool.and_true, Bool.true_and, Bool.and_false, Bool.false_and, Bool.or_false, Bool.false_or, Bool.not_true, Bool.not_false, Nat.zero_add, Nat.sub_zero, Nat.lt_irrefl, Nat.not_lt_zero]
  | 37, _ => simp only [Sh.bt_or, Sh.bt_zero, own_mask, own_mask4, own_shl4, own_shl8, own_shl16, own_shl24, own_shl28, own_shl32, own_shl40, own_shl48, own_shl52, own_shl56, own_ush0, own_ush4, own_ush8, own_ush12, own_ush16, own_ush20, own_ush24, own_ush28, own_ush32, own_ush36, own_ush40, own_ush44, own_ush48, own_G0, own_G1, own_G2, own_G3, own_G4, own_G5, own_G6, own_G7, own_G8, own_G9, own_G10, own_G11, own_G12, own_G13, own_G14, own_G15, own_G16, own_G17, own_G18, own_G19, own_G20, own_G21, own_G22, own_G23, own_G24, own_G25, own_G26, own_G27, own_G28, own_G29, own_G30, own_G31, Sh.bt_big, Nat.reduceLT, Nat.reduceAdd, Nat.reduceSub, Nat.reduceLeDiff, decide_true, decide_false, Bool.and_true, Bool.true_and, Bool.and_false, Bool.false_and, Bool.or_false, Bool.false_or, Bool.not_true, Bool.not_false, Nat.zero_add, Nat.sub_zero, Nat.lt_irrefl, Nat.not_lt_zero]
  | 38, _ => simp only [Sh.bt_or, Sh.bt_zero, own_mask, own_mask4, own_shl4, own_shl8, own_shl16, own_shl24, own_shl28, own_shl32, own_shl40, own_shl48, own_shl52, own_shl56, own_ush0, own_ush4, own_ush8, own_ush12, own_ush16, own_ush20, own_ush24, own_ush28, own_ush32, own_ush36, own_ush40, own_ush44, own_ush48, own_G0, own_G1, own_G2, own_G3, own_G4, own_G5, own_G6, own_G7, own_G8, own_G9, own_G10, own_G11, own_G12, own_G13, own_G14, own_G15, own_G16, own_G17, own_G18, own_G19, own_G20, own_G21, own_G22, own_G23, own_G24, own_G25, own_G26, own_G27, own_G28, own_G29, own_G30, own_G31, Sh.bt_big, Nat.reduceLT, Nat.reduceAdd, Nat.reduceSub, Nat.reduceLeDiff, decide_true, decide_false, Bool.and_true, Bool.true_and, Bool.and_false, Bool.false_and, Bool.or_false, Bool.false_or, Bool.not_true, Bool.not_false, Nat.zero_add, Nat.sub_zero, Nat.lt_irrefl, Nat.not_lt_zero]
  | 39, _ => simp only [Sh.bt_or, Sh.bt_zero, own_mask, own_mask4, own_shl4, own_shl8, own_shl16, own_shl24, own_shl28, own_shl32, own_shl40, own_shl48, own_shl52, own_shl56, own_ush0, own_ush4, own_ush8, own_ush12, own_ush16, own_ush20, own_ush24, own_ush28, own_ush32, own_ush36, own_ush40, own_ush44, own_ush48, own_G0, own_G1, own_G2, own_G3, own_G4, own_G5, own_G6, own_G7, own_G8, own_G9, own_G10, own_G11, own_G12, own_G13, own_G14, own_G15, own_G16, own_G17, own_G18, own_G19, own_G20, own_G21, own_G22, own_G23, own_G24, own_G25, own_G26, own_G27, own_G28, own_G29, own_G30, own_G31, Sh.bt_big, Nat.reduceLT, Nat.reduceAdd, Nat.reduceSub, Nat.reduceLeDiff, decide_true, decide_false, Bool.and_true, Bool.true_and, Bool.and_false, Bool.false_and, Bool.or_false, Bool.false_or, Bool.not_true, Bool.not_false, Nat.zero_add, Nat.sub_zero, Nat.lt_irrefl, Nat.not_lt_zero]
  | 40, _ => simp only [Sh.bt_or, Sh.bt_zero, own_mask, own_mask4, own_shl4, own_shl8, own_shl16, own_shl24, own_shl28, own_shl32, own_shl40, own_shl48, own_shl52, own_shl56, own_ush0, own_ush4, own_ush8, own_ush12, own_ush16, own_ush20, own_ush24, own_ush28, own_ush32, own_ush36, own_ush40, own_ush44, own_ush48, own_G0, own_G1, own_G2, own_G3, own_G4, own_G5, own_G6, own_G7, own_G8, own_G9, own_G10, own_G11, own_G12, own_G13, own_G14, own_G15, own_G16, own_G17, own_G18, own_G19, own_G20, own_G21, own_G22, own_G23, own_G24, own_G25, own_G26, own_G27, own_G28, own_G29, own_G30, own_G31, Sh.bt_big, Nat.reduceLT, Nat.reduceAdd, Nat.reduceSub, Nat.reduceLeDiff, decide_true, decide_false, Bool.and_true, Bool.true_and, Bool.and_false, Bool.false_and, Bool.or_false, Bool.false_or, Bool.not_true, Bool.not_false, Nat.zero_add, Nat.sub_zero, Nat.lt_irrefl, Nat.not_lt_zero]
  | 41, _ => simp only [Sh.bt_or, Sh.bt_zero, own_mask, own_mask4, own_shl4, own_shl8, own_shl16, own_shl24, own_shl28, own_shl32, own_shl40, own_shl48, own_shl52, own_shl56, own_ush0, own_ush4, own_ush8, own_ush12, own_ush16, own_ush20, own_ush24, own_ush28, own_ush32, own_ush36, own_ush40, own_ush44, own_ush48, own_G0, own_G1, own_G2, own_G3, own_G4, own_G5, own_G6, own_G7, own_G8, own_G9, own_G10, own_G11, own_G12, own_G13, own_G14, own_G15, own_G16, own_G17, own_G18, own_G19, own_G20, own_G21, own_G22, own_G23, own_G24, own_G25, own_G26, own_G27, own_G28, own_G29, own_G30, own_G31, Sh.bt_big, Nat.reduceLT, Nat.reduceAdd, Nat.reduceSub, Nat.reduceLeDiff, decide_true, decide_false, Bool.and_true, Bool.true_and, Bool.and_false, Bool.false_and, Bool.or_false, Bool.false_or, Bool.not_true, Bool.not_false, Nat.zero_add, Nat.sub_zero, Nat.lt_irrefl, Nat.not_lt_zero]
  | 42, _ => simp only [Sh.bt_or, Sh.bt_zero, own_mask, own_mask4, own_shl4, own_shl8, own_shl16, own_shl24, own_shl28, own_shl32, own_shl40, own_shl48, own_shl52, own_shl56, own_ush0, own_ush4, own_ush8, own_ush12, own_ush16, own_ush20, own_ush24, own_ush28, own_ush32, own_ush36, own_ush40, own_ush44, own_ush48, own_G0, own_G1, own_G2, own_G3, own_G4, own_G5, own_G6, own_G7, own_G8, own_G9, own_G10, own_G11, own_G12, own_G13, own_G14, own_G15, own_G16, own_G17, own_G18, own_G19, own_G20, own_G21, own_G22, own_G23, own_G24, own_G25, own_G26, own_G27, own_G28, own_G29, own_G30, own_G31, Sh.bt_big, Nat.reduceLT, Nat.reduceAdd, Nat.reduceSub, Nat.reduceLeDiff, decide_true, decide_false, Bool.and_true, Bool.true_and, Bool.and_false, Bool.false_and, Bool.or_false, Bool.false_or, Bool.not_true, Bool.not_false, Nat.zero_add, Nat.sub_zero, Nat.lt_irrefl, Nat.not_lt_zero]
  | 43, _ => simp only [Sh.bt_or, Sh.bt_zero, own_mask, own_mask4, own_shl4, own_shl8, own_shl16, own_shl24, own_shl28, own_shl32, own_shl40, own_shl48, own_shl52, own_shl56, own_ush0, own_ush4, own_ush8, own_ush12, own_ush16, own_ush20, own_ush24, own_ush28, own_ush32, own_ush36, own_ush40, own_ush44, own_ush48, own_G0, own_G1, own_G2, own_G3, own_G4, own_G5, own_G6, own_G7, own_G8, own_G9, own_G10, own_G11, own_G12, own_G13, own_G14, own_G15, own_G16, own_G17, own_G18, own_G19, own_G20, own_G21, own_G22, own_G23, own_G24, own_G25, own_G26, own_G27, own_G28, own_G29, own_G30, own_G31, Sh.bt_big, Nat.reduceLT, Nat.reduceAdd, Nat.reduceSub, Nat.reduceLeDiff, decide_true, decide_false, Bool.and_true, Bool.true_and, Bool.and_false, Bool.false_and, Bool.or_false, Bool.false_or, Bool.not_true, Bool.not_false, Nat.zero_add, Nat.sub_zero, Nat.lt_irrefl, Nat.not_lt_zero]
  | 44, _ => simp only [Sh.bt_or, Sh.bt_zero, own_mask, own_mask4, own_shl4, own_shl8, own_shl16, own_shl24, own_shl28, own_shl32, own_shl40, own_shl48, own_shl52, own_shl56, own_ush0, own_ush4, own_ush8, own_ush12, own_ush16, own_ush20, own_ush24, own_ush28, own_ush32, own_ush36, own_ush40, own_ush44, own_ush48, own_G0, own_G1, own_G2, own_G3, own_G4, own_G5, own_G6, own_G7, own_G8, own_G9, own_G10, own_G11, own_G12, own_G13, own_G14, own_G15, own_G16, own_G17, own_G18, own_G19, own_G20, own_G21, own_G22, own_G23, own_G24, own_G25, own_G26, own_G27, own_G28, own_G29, own_G30, own_G31, Sh.bt_big, Nat.reduceLT, Nat.reduceAdd, Nat.reduceSub, Nat.reduceLeDiff, decide_true, decide_false, Bool.and_true, Bool.true_and, Bool.and_false, Bool.false_and, Bool.or_false, Bool.false_or, Bool.not_true, Bool.not_false, Nat.zero_add, Nat.sub_zero, Nat.lt_irrefl, Nat.not_lt_zero]
  | 45, _ => simp only [Sh.bt_or, Sh.bt_zero, own_mask, own_mask4, own_shl4, own_shl8, own_shl16, own_shl24, own_shl28, own_shl32, own_shl40, own_shl48, own_shl52, own_shl56, own_ush0, own_ush4, own_ush8, own_ush12, own_ush16, own_ush20, own_ush24, own_ush28, own_ush32, own_ush36, own_ush40, own_ush44, own_ush48, own_G0, own_G1, own_G2, own_G3, own_G4, own_G5, own_G6, own_G7, own_G8, own_G9, own_G10, own_G11, own_G12, own_G13, own_G14, own_G15, own_G16, own_G17, own_G18, own_G19, own_G20, own_G21, own_G22, own_G23, own_G24, own_G25, own_G26, own_G27, own_G28, own_G29, own_G30, own_G31, Sh.bt_big, Nat.reduceLT, Nat.reduceAdd, Nat.reduceSub, Nat.reduceLeDiff, decide_true, decide_false, Bool.and_true, Bool.true_and, Bool.and_false, Bool.false_and, Bool.or_false, Bool.false_or, Bool.not_true, Bool.not_false, Nat.zero_add, Nat.sub_zero, Nat.lt_irrefl, Nat.not_lt_zero]
  | 46, _ => simp only [Sh.bt_or, Sh.bt_zero, own_mask, own_mask4, own_shl4, own_shl8, own_shl16, own_shl24, own_shl28, own_shl32, own_shl40, own_shl48, own_shl52, own_shl56, own_ush0, own_ush4, own_ush8, own_ush12, own_ush16, own_ush20, own_ush24, own_ush28, own_ush32, own_ush36, own_ush40, own_ush44, own_ush48, own_G0, own_G1, own_G2, own_G3, own_G4, own_G5, own_G6, own_G7, own_G8, own_G9, own_G10, own_G11, own_G12, own_G13, own_G14, own_G15, own_G16, own_G17, own_G18, own_G19, own_G20, own_G21, own_G22, own_G23, own_G24, own_G25, own_G26, own_G27, own_G28, own_G29, own_G30, own_G31, Sh.bt_big, Nat.reduceLT, Nat.reduceAdd, Nat.reduceSub, Nat.reduceLeDiff, decide_true, decide_false, Bool.and_true, Bool.true_and, Bool.and_false, Bool.false_and, Bool.or_false, Bool.false_or, Bool.not_true, Bool.not_false, Nat.zero_add, Nat.sub_zero, Nat.lt_irrefl, Nat.not_lt_zero]
  | 47, _ => simp only [Sh.bt_or, Sh.bt_zero, own_mask, own_mask4, own_shl4, own_shl8, own_shl16, own_shl24, own_shl28, own_shl32, own_shl40, own_shl48, own_shl52, own_shl56, own_ush0, own_ush4, own_ush8, own_ush12, own_ush16, own_ush20, own_ush24, own_ush28, own_ush32, own_ush36, own_ush40, own_ush44, own_ush48, own_G0, own_G1, own_G2, own_G3, own_G4, own_G5, own_G6, own_G7, own_G8, own_G9, own_G10, own_G11, own_G12, own_G13, own_G14, own_G15, own_G16, own_G17, own_G18, own_G19, own_G20, own_G21, own_G22, own_G23, own_G24, own_G25, own_G26, own_G27, own_G28, own_G29, own_G30, own_G31, Sh.bt_big, Nat.reduceLT, Nat.reduceAdd, Nat.reduceSub, Nat.reduceLeDiff, decide_true, decide_false, Bool.and_true, Bool.true_and, Bool.and_false, Bool.false_and, Bool.or_false, Bool.false_or, Bool.not_true, Bool.not_false, Nat.zero_add, Nat.sub_zero, Nat.lt_irrefl, Nat.not_lt_zero]
  | 48, _ => simp only [Sh.bt_or, Sh.bt_zero, own_mask, own_mask4, own_shl4, own_shl8, own_shl16, own_shl24, own_shl28, own_shl32, own_shl40, own_shl48, own_shl52, own_shl56, own_ush0, own_ush4, own_ush8, own_ush12, own_ush16, own_ush20, own_ush24, own_ush28, own_ush32, own_ush36, own_ush40, own_ush44, own_ush48, own_G0, own_G1, own_G2, own_G3, own_G4, own_G5, own_G6, own_G7, own_G8, own_G9, own_G10, own_G11, own_G12, own_G13, own_G14, own_G15, own_G16, own_G17, own_G18, own_G19, own_G20, own_G21, own_G22, own_G23, own_G24, own_G25, own_G26, own_G27, own_G28, own_G29, own_G30, own_G31, Sh.bt_big, Nat.reduceLT, Nat.reduceAdd, Nat.reduceSub, Nat.reduceLeDiff, decide_true, decide_false, Bool.and_true, Bool.true_and, Bool.and_false, Bool.false_and, Bool.or_false, Bool.false_or, Bool.not_true, Bool.not_false, Nat.zero_add, Nat.sub_zero, Nat.lt_irrefl, Nat.not_lt_zero]
  | 49, _ => simp only [Sh.bt_or, Sh.bt_zero, own_mask, own_mask4, own_shl4, own_shl8, own_shl16, own_shl24, own_shl28, own_shl32, own_shl40, own_shl48, own_shl52, own_shl56, own_ush0, own_ush4, own_ush8, own_ush12, own_ush16, own_ush20, own_ush24, own_ush28, own_ush32, own_ush36, own_ush40, own_ush44, own_ush48, own_G0, own_G1, own_G2, own_G3, own_G4, own_G5, own_G6, own_G7, own_G8, own_G9, own_G10, own_G11, own_G12, own_G13, own_G14, own_G15, own_G16, own_G17, own_G18, own_G19, own_G20, own_G21, own_G22, own_G23, own_G24, own_G25, own_G26, own_G27, own_G28, own_G29, own_G30, own_G31, Sh.bt_big, Nat.reduceLT, Nat.reduceAdd, Nat.reduceSub, Nat.reduceLeDiff, decide_true, decide_false, Bool.and_true, Bool.true_and, Bool.and_false, Bool.false_and, Bool.or_false, Bool.false_or, Bool.not_true, Bool.not_false, Nat.zero_add, Nat.sub_zero, Nat.lt_irrefl, Nat.not_lt_zero]
  | 50, _ => simp only [Sh.bt_or, Sh.bt_zero, own_mask, own_mask4, own_shl4, own_shl8, own_shl16, own_shl24, own_shl28, own_shl32, own_shl40, own_shl48, own_shl52, own_shl56, own_ush0, own_ush4, own_ush8, own_ush12, own_ush16, own_ush20, own_ush24, own_ush28, own_ush32, own_ush36, own_ush40, own_ush44, own_ush48, own_G0, own_G1, own_G2, own_G3, own_G4, own_G5, own_G6, own_G7, own_G8, own_G9, own_G10, own_G11, own_G12, own_G13, own_G14, own_G15, own_G16, own_G17, own_G18, own_G19, own_G20, own_G21, own_G22, own_G23, own_G24, own_G25, own_G26, own_G27, own_G28, own_G29, own_G30, own_G31, Sh.bt_big, Nat.reduceLT, Nat.reduceAdd, Nat.reduceSub, Nat.reduceLeDiff, decide_true, decide_false, Bool.and_true, Bool.true_and, Bool.and_false, Bool.false_and, Bool.or_false, Bool.false_or, Bool.not_true, Bool.not_false, Nat.zero_add, Nat.sub_zero, Nat.lt_irrefl, Nat.not_lt_zero]
  | 51, _ => simp only [Sh.bt_or, Sh.bt_zero, own_mask, own_mask4, own_shl4, own_shl8, own_shl16, own_shl24, own_shl28, own_shl32, own_shl40, own_shl48, own_shl52, own_shl56, own_ush0, own_ush4, own_ush8, own_ush12, own_ush16, own_ush20, own_ush24, own_ush28, own_ush32, own_ush36, own_ush40, own_ush44, own_ush48, own_G0, own_G1, own_G2, own_G3, own_G4, own_G5, own_G6, own_G7, own_G8, own_G9, own_G10, own_G11, own_G12, own_G13, own_G14, own_G15, own_G16, own_G17, own_G18, own_G19, own_G20, own_G21, own_G22, own_G23, own_G24, own_G25, own_G26, own_G27, own_G28, own_G29, own_G30, own_G31, Sh.bt_big, Nat.reduceLT, Nat.reduceAdd, Nat.reduceSub, Nat.reduceLeDiff, decide_true, decide_false, Bool.and_true, Bool.true_and, Bool.and_false, Bool.false_and, Bool.or_false, Bool.false_or, Bool.not_true, Bool.not_false, Nat.zero_add, Nat.sub_zero, Nat.lt_irrefl, Nat.not_lt_zero]
  | 52, _ => simp only [Sh.bt_or, Sh.bt_zero, own_mask, own_mask4, own_shl4, own_shl8, own_shl16, own_shl24, own_shl28, own_shl32, own_shl40, own_shl48, own_shl52, own_shl56, own_ush0, own_ush4, own_ush8, own_ush12, own_ush16, own_ush20, own_ush24, own_ush28, own_ush32, own_ush36, own_ush40, own_ush44, own_ush48, own_G0, own_G1, own_G2, own_G3, own_G4, own_G5, own_G6, own_G7, own_G8, own_G9, own_G10, own_G11, own_G12, own_G13, own_G14, own_G15, own_G16, own_G17, own_G18, own_G19, own_G20, own_G21, own_G22, own_G23, own_G24, own_G25, own_G26, own_G27, own_G28, own_G29, own_G30, own_G31, Sh.bt_big, Nat.reduceLT, Nat.reduceAdd, Nat.reduceSub, Nat.reduceLeDiff, decide_true, decide_false, Bool.and_true, Bool.true_and, Bool.and_false, Bool.false_and, Bool.or_false, Bool.false_or, Bool.not_true, Bool.not_false, Nat.zero_add, Nat.sub_zero, Nat.lt_irrefl, Nat.not_lt_zero]
  | 53, _ => simp only [Sh.bt_or, Sh.bt_zero, own_mask, own_mask4, own_shl4, own_shl8, own_shl16, own_shl24, own_shl28, own_shl32, own_shl40, own_shl48, own_shl52, own_shl56, own_ush0, own_ush4, own_ush8, own_ush12, own_ush16, own_ush20, own_ush24, own_ush28, own_ush32, own_ush36, own_ush40, own_ush44, own_ush48, own_G0, own_G1, own_G2, own_G3, own_G4, own_G5, own_G6, own_G7, own_G8, own_G9, own_G10, own_G11, own_G12, own_G13, own_G14, own_G15, own_G16, own_G17, own_G18, own_G19, own_G20, own_G21, own_G22, own_G23, own_G24, own_G25, own_G26, own_G27, own_G28, own_G29, own_G30, own_G31, Sh.bt_big, Nat.reduceLT, Nat.reduceAdd, Nat.reduceSub, Nat.reduceLeDiff, decide_true, decide_false, Bool.and_true, Bool.true_and, Bool.and_false, Bool.false_and, Bool.or_false, Bool.false_or, Bool.not_true, Bool.not_false, Nat.zero_add, Nat.sub_zero, Nat.lt_irrefl, Nat.not_lt_zero]
  | 54, _ => simp only [Sh.bt_or, Sh.bt_zero, own_mask, own_mask4, own_shl4, own_shl8, own_shl16, own_shl24, own_shl28, own_shl32, own_shl40, own_shl48, own_shl52, own_shl56, own_ush0, own_ush4, own_ush8, own_ush12, own_ush16, own_ush20, own_ush24, own_ush28, own_ush32, own_ush36, own_ush40, own_ush44, own_ush48, own_G0, own_G1, own_G2, own_G3, own_G4, own_G5, own_G6, own_G7, own_G8, own_G9, own_G10, own_G11, own_G12, own_G13, own_G14, own_G15, own_G16, own_G17, own_G18, own_G19, own_G20, own_G21, own_G22, own_G23, own_G24, own_G25, own_G26, own_G27, own_G28, own_G29, own_G30, own_G31, Sh.bt_big, Nat.reduceLT, Nat.reduceAdd, Nat.reduceSub, Nat.reduceLeDiff, decide_true, decide_false, Bool.and_true, Bool.true_and, Bool.and_false, Bool.false_and, Bool.or_false, Bool.false_or, Bool.not_true, Bool.not_false, Nat.zero_add, Nat.sub_zero, Nat.lt_irrefl, Nat.not_lt_zero]
  | 55, _ => simp only [Sh.bt_or, Sh.bt_zero, own_mask, own_mask4, own_shl4, own_shl8, own_shl16, own_shl24, own_shl28, own_shl32, own_shl40, own_shl48, own_shl52, own_shl56, own_ush0, own_ush4, own_ush8, own_ush12, own_ush16, own_ush20, own_ush24, own_ush28, own_ush32, own_ush36, own_ush40, own_ush44, own_ush48, own_G0, own_G1, own_G2, own_G3, own_G4, own_G5, own_G6, own_G7, own_G8, own_G9, own_G10, own_G11, own_G12, own_G13, own_G14, own_G15, own_G16, own_G17, own_G18, own_G19, own_G20, own_G21, own_G22, own_G23, own_G24, own_G25, own_G26, own_G27, own_G28, own_G29, own_G30, own_G31, Sh.bt_big, Nat.reduceLT, Nat.reduceAdd, Nat.reduceSub, Nat.reduceLeDiff, decide_true, decide_false, Bool.and_true, Bool.true_and, Bool.and_false, Bool.false_and, Bool.or_false, Bool.false_or, Bool.not_true, Bool.not_false, Nat.zero_add, Nat.sub_zero, Nat.lt_irrefl, Nat.not_lt_zero]
  | 56, _ => simp only [Sh.bt_or, Sh.bt_zero, own_mask, own_mask4, own_shl4, own_shl8, own_shl16, own_shl24, own_shl28, own_shl32, own_shl40, own_shl48, own_shl52, own_shl56, own_ush0, own_ush4, own_ush8, own_ush12, own_ush16, own_ush20, own_ush24, own_ush28, own_ush32, own_ush36, own_ush40, own_ush44, own_ush48, own_G0, own_G1, own_G2, own_G3, own_G4, own_G5, own_G6, own_G7, own_G8, own_G9, own_G10, own_G11, own_G12, own_G13, own_G14, own_G15, own_G16, own_G17, own_G18, own_G19, own_G20, own_G21, own_G22, own_G23, own_G24, own_G25, own_G26, own_G27, own_G28, own_G29, own_G30, own_G31, Sh.bt_big, Nat.reduceLT, Nat.reduceAdd, Nat.reduceSub, Nat.reduceLeDiff, decide_true, decide_false, Bool.and_true, Bool.true_and, Bool.and_false, Bool.false_and, Bool.or_false, Bool.false_or, Bool.not_true, Bool.not_false, Nat.zero_add, Nat.sub_zero, Nat.lt_irrefl, Nat.not_lt_zero]
  | 57, _ => simp only [Sh.bt_or, Sh.bt_zero, own_mask, own_mask4, own_shl4, own_shl8, own_shl16, own_shl24, own_shl28, own_shl32, own_shl40, own_shl48, own_shl52, own_shl56, own_ush0, own_ush4, own_ush8, own_ush12, own_ush16, own_ush20, own_ush24, own_ush28, own_ush32, own_ush36, own_ush40, own_ush44, own_ush48, own_G0, own_G1, own_G2, own_G3, own_G4, own_G5, own_G6, own_G7, own_G8, own_G9, own_G10, own_G11, own_G12, own_G13, own_G14, own_G15, own_G16, own_G17, own_G18, own_G19, own_G20, own_G21, own_G22, own_G23, own_G24, own_G25, own_G26, own_G27, own_G28, own_G29, own_G30, own_G31, Sh.bt_big, Nat.reduceLT, Nat.reduceAdd, Nat.reduceSub, Nat.reduceLeDiff, decide_true, decide_false, Bool.and_true, Bool.true_and, Bool.and_false, Bool.false_and, Bool.or_false, Bool.false_or, Bool.not_true, Bool.not_false, Nat.zero_add, Nat.sub_zero, Nat.lt_irrefl, Nat.not_lt_zero]
  | 58, _ => simp only [Sh.bt_or, Sh.bt_zero, own_mask, own_mask4, own_shl4, own_shl8, own_shl16, own_shl24, own_shl28, own_shl32, own_shl40, own_shl48, own_shl52, own_shl56, own_ush0, own_ush4, own_ush8, own_ush12, own_ush16, own_ush20, own_ush24, own_ush28, own_ush32, own_ush36, own_ush40, own_ush44, own_ush48, own_G0, own_G1, own_G2, own_G3, own_G4, own_G5, own_G6, own_G7, own_G8, own_G9, own_G10, own_G11, own_G12, own_G13, own_G14, own_G15, own_G16, own_G17, own_G18, own_G19, own_G20, own_G21, own_G22, own_G23, own_G24, own_G25, own_G26, own_G27, own_G28, own_G29, own_G30, own_G31, Sh.bt_big, Nat.reduceLT, Nat.reduceAdd, Nat.reduceSub, Nat.reduceLeDiff, decide_true, decide_false, Bool.and_true, Bool.true_and, Bool.and_false, Bool.false_and, Bool.or_false, Bool.false_or, Bool.not_true, Bool.not_false, Nat.zero_add, Nat.sub_zero, Nat.lt_irrefl, Nat.not_lt_zero]
  | 59, _ => simp only [Sh.bt_or, Sh.bt_zero, own_mask, own_mask4, own_shl4, own_shl8, own_shl16, own_shl24, own_shl28, own_shl32, own_shl40, own_shl48, own_shl52, own_shl56, own_ush0, own_ush4, own_ush8, own_ush12, own_ush16, own_ush20, own_ush24, own_ush28, own_ush32, own_ush36, own_ush40, own_ush44, own_ush48, own_G0, own_G1, own_G2, own_G3, own_G4, own_G5, own_G6, own_G7, own_G8, own_G9, own_G10, own_G11, own_G12, own_G13, own_G14, own_G15, own_G16, own_G17, own_G18, own_G19, own_G20, own_G21, own_G22, own_G23, own_G24, own_G25, own_G26, own_G27, own_G28, own_G29, own_G30, own_G31, Sh.bt_big, Nat.reduceLT, Nat.reduceAdd, Nat.reduceSub, Nat.reduceLeDiff, decide_true, decide_false, Bool.and_true, Bool.true_and, Bool.and_false, Bool.false_and, Bool.or_false, Bool.false_or, Bool.not_true, Bool.not_false, Nat.zero_add, Nat.sub_zero, Nat.lt_irrefl, Nat.not_lt_zero]
  | 60, _ => simp only [Sh.bt_or, Sh.bt_zero, own_mask, own_mask4, own_shl4, own_shl8, own_shl16, own_shl24, own_shl28, own_shl32, own_shl40, own_shl48, own_shl52, own_shl56, own_ush0, own_ush4, own_ush8, own_ush12, own_ush16, own_ush20, own_ush24, own_ush28, own_ush32, own_ush36, own_ush40, own_ush44, own_ush48, own_G0, own_G1, own_G2, own_G3, own_G4, own_G5, own_G6, own_G7, own_G8, own_G9, own_G10, own_G11, own_G12, own_G13, own_G14, own_G15, own_G16, own_G17, own_G18, own_G19, own_G20, own_G21, own_G22, own_G23, own_G24, own_G25, own_G26, own_G27, own_G28, own_G29, own_G30, own_G31, Sh.bt_big, Nat.reduceLT, Nat.reduceAdd, Nat.reduceSub, Nat.reduceLeDiff, decide_true, decide_false, Bool.and_true, Bool.true_and, Bool.and_false, Bool.false_and, Bool.or_false, Bool.false_or, Bool.not_true, Bool.not_false, Nat.zero_add, Nat.sub_zero, Nat.lt_irrefl, Nat.not_lt_zero]
  | 61, _ => simp only [Sh.bt_or, Sh.bt_zero, own_mask, own_mask4, own_shl4, own_shl8, own_shl16, own_shl24, own_shl28, own_shl32, own_shl40, own_shl48, own_shl52, own_shl56, own_ush0, own_ush4, own_ush8, own_ush12, own_ush16, own_ush20, own_ush24, own_ush28, own_ush32, own_ush36, own_ush40, own_ush44, own_ush48, own_G0, own_G1, own_G2, own_G3, own_G4, own_G5, own_G6, own_G7, own_G8, own_G9, own_G10, own_G11, own_G12, own_G13, own_G14, own_G15, own_G16, own_G17, own_G18, own_G19, own_G20, own_G21, own_G22, own_G23, own_G24, own_G25, own_G26, own_G27, own_G28, own_G29, own_G30, own_G31, Sh.bt_big, Nat.reduceLT, Nat.reduceAdd, Nat.reduceSub, Nat.reduceLeDiff, decide_true, decide_false, Bool.and_true, Bool.true_and, Bool.and_false, Bool.false_and, Bool.or_false, Bool.false_or, Bool.not_true, Bool.not_false, Nat.zero_add, Nat.sub_zero, Nat.lt_irrefl, Nat.not_lt_zero]
  | 62, _ => simp only [Sh.bt_or, Sh.bt_zero, own_mask, own_mask4, own_shl4, own_shl8, own_shl16, own_shl24, own_shl28, own_shl32, own_shl40, own_shl48, own_shl52, own_shl56, own_ush0, own_ush4, own_ush8, own_ush12, own_ush16, own_ush20, own_ush24, own_ush28, own_ush32, own_ush36, own_ush40, own_ush44, own_ush48, own_G0, own_G1, own_G2, own_G3, own_G4, own_G5, own_G6, own_G7, own_G8, own_G9, own_G10, own_G11, own_G12, own_G13, own_G14, own_G15, own_G16, own_G17, own_G18, own_G19, own_G20, own_G21, own_G22, own_G23, own_G24, own_G25, own_G26, own_G27, own_G28, own_G29, own_G30, own_G31, Sh.bt_big, Nat.reduceLT, Nat.reduceAdd, Nat.reduceSub, Nat.reduceLeDiff, decide_true, decide_false, Bool.and_true, Bool.true_and, Bool.and_false, Bool.false_and, Bool.or_false, Bool.false_or, Bool.not_true, Bool.not_false, Nat.zero_add, Nat.sub_zero, Nat.lt_irrefl, Nat.not_lt_zero]
  | 63, _ => simp only [Sh.bt_or, Sh.bt_zero, own_mask, own_mask4, own_shl4, own_shl8, own_shl16, own_shl24, own_shl28, own_shl32, own_shl40, own_shl48, own_shl52, own_shl56, own_ush0, own_ush4, own_ush8, own_ush12, own_ush16, own_ush20, own_ush24, own_ush28, own_ush32, own_ush36, own_ush40, own_ush44, own_ush48, own_G0, own_G1, own_G2, own_G3, own_G4, own_G5, own_G6, own_G7, own_G8, own_G9, own_G10, own_G11, own_G12, own_G13, own_G14, own_G15, own_G16, own_G17, own_G18, own_G19, own_G20, own_G21, own_G22, own_G23, own_G24, own_G25, own_G26, own_G27, own_G28, own_G29, own_G30, own_G31, Sh.bt_big, Nat.reduceLT, Nat.reduceAdd, Nat.reduceSub, Nat.reduceLeDiff, decide_true, decide_false, Bool.and_true, Bool.true_and, Bool.and_false, Bool.false_and, Bool.or_false, Bool.false_or, Bool.not_true, Bool.not_false, Nat.zero_add, Nat.sub_zero, Nat.lt_irrefl, Nat.not_lt_zero]
  | n + 64, h => exact absurd h (by omega)
def own_ws (vs : List Value) (p : Nat) (f : Nat → Int32) : Nat → List Value
  | 0 => vs
  | c + 1 => (own_ws vs p f c).set (p + 32 - 1 - c) (.int (f c))
theorem own_wlen (vs : List Value) (p : Nat) (f : Nat → Int32) (c : Nat) : (own_ws vs p f c).length = vs.length := by
  induction c with
  | zero => rfl
  | succ c ih => rw [own_ws, List.length_set, ih]
theorem own_wout (vs : List Value) (p : Nat) (f : Nat → Int32) (c j : Nat) (hc : c ≤ 32) (h : j < p ∨ p + 32 ≤ j) : (own_ws vs p f c)[j]? = vs[j]? := by
  induction c with
  | zero => rfl
  | succ c ih => rw [own_ws, List.getElem?_set_ne (by omega), ih (by omega)]
theorem own_win (vs : List Value) (p : Nat) (f : Nat → Int32) (hl : p + 32 ≤ vs.length) (c : Nat) (hc : c ≤ 32) (j : Nat) (hj : j < c) : (own_ws vs p f c)[p + 32 - 1 - j]? = some (.int (f j)) := by
  induction c with
  | zero => omega
  | succ c ih =>
    rw [own_ws]
    by_cases q : j = c
    · subst q
      rw [List.getElem?_set_self (by rw [own_wlen]; omega)]
    · rw [List.getElem?_set_ne (by omega), ih (by omega) (by omega)]
section
variable (l : Launch) (Z : State) (a0 : Array Value) (n0 : Nat)
theorem m1 (hw : HW Z a0) (X1 X2 : Sh.SC) (q : Nat) (l0 l1 l2 l3 l4 : Int64) (vs : List Value) (p : Nat) (hL : ∀ W, ([.inr (.byte, W), X1, X2] : Sh.SH)[q]? = some (.inr (.long, [.long l0, .long l1, .long l2, .long l3, .long l4]))) (hl : p + 32 ≤ vs.length) (hv : vs.length < 100) :
    Sh.Meth l Z a0 n0 b1 R1 [.ref q, .ref 0, .int (Int32.ofNat p)] [.inr (.byte, vs), X1, X2] (fun v H' => v = none ∧ H' = [.inr (.byte, own_ws vs p (own_f l0 l1 l2 l3 l4) 32), X1, X2]) := by
  refine Sh.Meth.of pn1 (L := [.val (.ref q), .val (.ref 0), .val (.int (Int32.ofNat p)), .unset, .unset, .unset, .unset, .unset]) rfl ?_
  refine Sh.iconst d1_0 (x := 0) rfl ?_
  refine Sh.istore_n d1_1 (Sh.s1_3 rfl rfl) ?_
  refine Sh.iload_n d1_2 rfl ?_
  refine Sh.sipush d1_3 (x := 256) rfl ?_
  refine Sh.icmpF d1_6 (by decide) ?_
  refine Sh.iload_n d1_9 rfl ?_
  refine Sh.bipush d1_10 (x := 52) rfl ?_
  refine Sh.idivE (z := 0) d1_12 (by decide) (by decide) ?_
  refine Sh.istore d1_13 (Sh.s1_4 rfl rfl) ?_
  refine Sh.iload_n d1_15 rfl ?_
  refine Sh.bipush d1_16 (x := 52) rfl ?_
  refine Sh.iremE (z := 0) d1_18 (by decide) (by decide) ?_
  refine Sh.istore d1_19 (Sh.s1_5 rfl rfl) ?_
  refine Sh.aload_n d1_21 rfl rfl ?_
  refine Sh.iload d1_22 rfl ?_
  refine Sh.laload (jn := 0) d1_24 (hL _) (by decide) rfl rfl ?_
  refine Sh.iload d1_25 rfl ?_
  refine Sh.lushr d1_27 ?_
  refine Sh.lstore d1_28 (Sh.s2_6 rfl rfl rfl) ?_
  refine Sh.iload d1_30 rfl ?_
  refine Sh.bipush d1_32 (x := 44) rfl ?_
  refine Sh.icmpT d1_34 (pc' := 54) rfl (by decide) (by decide) ?_
  refine Sh.aload_n d1_54 rfl rfl ?_
  refine Sh.iload_n d1_55 rfl ?_
  refine Sh.bipush d1_56 (x := 32) rfl ?_
  refine Sh.iaddE d1_58 (Sh.onAdd _ 32) ?_
  refine Sh.iconst d1_59 (x := 1) rfl ?_
  refine Sh.isubE d1_60 (Sh.onSub (b := 1) (by omega) (by omega)) ?_
  refine Sh.iload_n d1_61 rfl ?_
  refine Sh.bipush d1_62 (x := 8) rfl ?_
  refine Sh.idivE (z := 0) d1_64 (by decide) (by decide) ?_
  refine Sh.isubE d1_65 (Sh.onSub (b := 0) (by omega) (by omega)) ?_
  refine Sh.lload d1_66 rfl ?_
  refine Sh.l2i d1_68 ?_
  refine Sh.i2b d1_69 ?_
  refine Sh.bastore d1_70 rfl (Sh.onNN (by omega)) (Sh.onCl (by omega)) (by first | omega | (rw [own_wlen]; omega)) (Sh.i8_idem _) (vs' := own_ws vs p (own_f l0 l1 l2 l3 l4) 1) rfl (Sh.ls_0) ?_
  refine Sh.iinc d1_71 rfl (ci := 8) (y := 8) rfl (by decide) (Sh.s1_3 rfl rfl) ?_
  refine Sh.goto d1_74 (pc' := 2) rfl (by decide) ?_
  refine Sh.iload_n d1_2 rfl ?_
  refine Sh.sipush d1_3 (x := 256) rfl ?_
  refine Sh.icmpF d1_6 (by decide) ?_
  refine Sh.iload_n d1_9 rfl ?_
  refine Sh.bipush d1_10 (x := 52) rfl ?_
  refine Sh.idivE (z := 0) d1_12 (by decide) (by decide) ?_
  refine Sh.istore d1_13 (Sh.s1_4 rfl rfl) ?_
  refine Sh.iload_n d1_15 rfl ?_
  refine Sh.bipush d1_16 (x := 52) rfl ?_
  refine Sh.iremE (z := 8) d1_18 (by decide) (by decide) ?_
  refine Sh.istore d1_19 (Sh.s1_5 rfl rfl) ?_
  refine Sh.aload_n d1_21 rfl rfl ?_
  refine Sh.iload d1_22 rfl ?_
  refine Sh.laload (jn := 0) d1_24 (hL _) (by decide) rfl rfl ?_
  refine Sh.iload d1_25 rfl ?_
  refine Sh.lushr d1_27 ?_
  refine Sh.lstore d1_28 (Sh.s2_6 rfl rfl rfl) ?_
  refine Sh.iload d1_30 rfl ?_
  refine Sh.bipush d1_32 (x := 44) rfl ?_
  refine Sh.icmpT d1_34 (pc' := 54) rfl (by decide) (by decide) ?_
  refine Sh.aload_n d1_54 rfl rfl ?_
  refine Sh.iload_n d1_55 rfl ?_
  refine Sh.bipush d1_56 (x := 32) rfl ?_
  refine Sh.iaddE d1_58 (Sh.onAdd _ 32) ?_
  refine Sh.iconst d1_59 (x := 1) rfl ?_
  refine Sh.isubE d1_60 (Sh.onSub (b := 1) (by omega) (by omega)) ?_
  refine Sh.iload_n d1_61 rfl ?_
  refine Sh.bipush d1_62 (x := 8) rfl ?_
  refine Sh.idivE (z := 1) d1_64 (by decide) (by decide) ?_
  refine Sh.isubE d1_65 (Sh.onSub (b := 1) (by omega) (by omega)) ?_
  refine Sh.lload d1_66 rfl ?_
  refine Sh.l2i d1_68 ?_
  refine Sh.i2b d1_69 ?_
  refine Sh.bastore d1_70 rfl (Sh.onNN (by omega)) (Sh.onCl (by omega)) (by first | omega | (rw [own_wlen]; omega)) (Sh.i8_idem _) (vs' := own_ws vs p (own_f l0 l1 l2 l3 l4) 2) rfl (Sh.ls_0) ?_
  refine Sh.iinc d1_71 rfl (ci := 8) (y := 16) rfl (by decide) (Sh.s1_3 rfl rfl) ?_
  refine Sh.goto d1_74 (pc' := 2) rfl (by decide) ?_
  refine Sh.iload_n d1_2 rfl ?_
  refine Sh.sipush d1_3 (x := 256) rfl ?_
  refine Sh.icmpF d1_6 (by decide) ?_
  refine Sh.iload_n d1_9 rfl ?_
  refine Sh.bipush d1_10 (x := 52) rfl ?_
  refine Sh.idivE (z := 0) d1_12 (by decide) (by decide) ?_
  refine Sh.istore d1_13 (Sh.s1_4 rfl rfl) ?_
  refine Sh.iload_n d1_15 rfl ?_
  refine Sh.bipush d1_16 (x := 52) rfl ?_
  refine Sh.iremE (z := 16) d1_18 (by decide) (by decide) ?_
  refine Sh.istore d1_19 (Sh.s1_5 rfl rfl) ?_
  refine Sh.aload_n d1_21 rfl rfl ?_
  refine Sh.iload d1_22 rfl ?_
  refine Sh.laload (jn := 0) d1_24 (hL _) (by decide) rfl rfl ?_
  refine Sh.iload d1_25 rfl ?_
  refine Sh.lushr d1_27 ?_
  refine Sh.lstore d1_28 (Sh.s2_6 rfl rfl rfl) ?_
  refine Sh.iload d1_30 rfl ?_
  refine Sh.bipush d1_32 (x := 44) rfl ?_
  refine Sh.icmpT d1_34 (pc' := 54) rfl (by decide) (by decide) ?_
  refine Sh.aload_n d1_54 rfl rfl ?_
  refine Sh.iload_n d1_55 rfl ?_
  refine Sh.bipush d1_56 (x := 32) rfl ?_
  refine Sh.iaddE d1_58 (Sh.onAdd _ 32) ?_
  refine Sh.iconst d1_59 (x := 1) rfl ?_
  refine Sh.isubE d1_60 (Sh.onSub (b := 1) (by omega) (by omega)) ?_
  refine Sh.iload_n d1_61 rfl ?_
  refine Sh.bipush d1_62 (x := 8) rfl ?_
  refine Sh.idivE (z := 2) d1_64 (by decide) (by decide) ?_
  refine Sh.isubE d1_65 (Sh.onSub (b := 2) (by omega) (by omega)) ?_
  refine Sh.lload d1_66 rfl ?_
  refine Sh.l2i d1_68 ?_
  refine Sh.i2b d1_69 ?_
  refine Sh.bastore d1_70 rfl (Sh.onNN (by omega)) (Sh.onCl (by omega)) (by first | omega | (rw [own_wlen]; omega)) (Sh.i8_idem _) (vs' := own_ws vs p (own_f l0 l1 l2 l3 l4) 3) rfl (Sh.ls_0) ?_
  refine Sh.iinc d1_71 rfl (ci := 8) (y := 24) rfl (by decide) (Sh.s1_3 rfl rfl) ?_
  refine Sh.goto d1_74 (pc' := 2) rfl (by decide) ?_
  refine Sh.iload_n d1_2 rfl ?_
  refine Sh.sipush d1_3 (x := 256) rfl ?_
  refine Sh.icmpF d1_6 (by decide) ?_
  refine Sh.iload_n d1_9 rfl ?_
  refine Sh.bipush d1_10 (x := 52) rfl ?_
  refine Sh.idivE (z := 0) d1_12 (by decide) (by decide) ?_
  refine Sh.istore d1_13 (Sh.s1_4 rfl rfl) ?_
  refine Sh.iload_n d1_15 rfl ?_
  refine Sh.bipush d1_16 (x := 52) rfl ?_
  refine Sh.iremE (z := 24) d1_18 (by decide) (by decide) ?_
  refine Sh.istore d1_19 (Sh.s1_5 rfl rfl) ?_
  refine Sh.aload_n d1_21 rfl rfl ?_
  refine Sh.iload d1_22 rfl ?_
  refine Sh.laload (jn := 0) d1_24 (hL _) (by decide) rfl rfl ?_
  refine Sh.iload d1_25 rfl ?_
  refine Sh.lushr d1_27 ?_
  refine Sh.lstore d1_28 (Sh.s2_6 rfl rfl rfl) ?_
  refine Sh.iload d1_30 rfl ?_
  refine Sh.bipush d1_32 (x := 44) rfl ?_
  refine Sh.icmpT d1_34 (pc' := 54) rfl (by decide) (by decide) ?_
  refine Sh.aload_n d1_54 rfl rfl ?_
  refine Sh.iload_n d1_55 rfl ?_
  refine Sh.bipush d1_56 (x := 32) rfl ?_
  refine Sh.iaddE d1_58 (Sh.onAdd _ 32) ?_
  refine Sh.iconst d1_59 (x := 1) rfl ?_
  refine Sh.isubE d1_60 (Sh.onSub (b := 1) (by omega) (by omega)) ?_
  refine Sh.iload_n d1_61 rfl ?_
  refine Sh.bipush d1_62 (x := 8) rfl ?_
  refine Sh.idivE (z := 3) d1_64 (by decide) (by decide) ?_
  refine Sh.isubE d1_65 (Sh.onSub (b := 3) (by omega) (by omega)) ?_
  refine Sh.lload d1_66 rfl ?_
  refine Sh.l2i d1_68 ?_
  refine Sh.i2b d1_69 ?_
  refine Sh.bastore d1_70 rfl (Sh.onNN (by omega)) (Sh.onCl (by omega)) (by first | omega | (rw [own_wlen]; omega)) (Sh.i8_idem _) (vs' := own_ws vs p (own_f l0 l1 l2 l3 l4) 4) rfl (Sh.ls_0) ?_
  refine Sh.iinc d1_71 rfl (ci := 8) (y := 32) rfl (by decide) (Sh.s1_3 rfl rfl) ?_
  refine Sh.goto d1_74 (pc' := 2) rfl (by decide) ?_
  refine Sh.iload_n d1_2 rfl ?_
  refine Sh.sipush d1_3 (x := 256) rfl ?_
  refine Sh.icmpF d1_6 (by decide) ?_
  refine Sh.iload_n d1_9 rfl ?_
  refine Sh.bipush d1_10 (x := 52) rfl ?_
  refine Sh.idivE (z := 0) d1_12 (by decide) (by decide) ?_
  refine Sh.istore d1_13 (Sh.s1_4 rfl rfl) ?_
  refine Sh.iload_n d1_15 rfl ?_
  refine Sh.bipush d1_16 (x := 52) rfl ?_
  refine Sh.iremE (z := 32) d1_18 (by decide) (by decide) ?_
  refine Sh.istore d1_19 (Sh.s1_5 rfl rfl) ?_
  refine Sh.aload_n d1_21 rfl rfl ?_
  refine Sh.iload d1_22 rfl ?_
  refine Sh.laload (jn := 0) d1_24 (hL _) (by decide) rfl rfl ?_
  refine Sh.iload d1_25 rfl ?_
  refine Sh.lushr d1_27 ?_
  refine Sh.lstore d1_28 (Sh.s2_6 rfl rfl rfl) ?_
  refine Sh.iload d1_30 rfl ?_
  refine Sh.bipush d1_32 (x := 44) rfl ?_
  refine Sh.icmpT d1_34 (pc' := 54) rfl (by decide) (by decide) ?_
  refine Sh.aload_n d1_54 rfl rfl ?_
  refine Sh.iload_n d1_55 rfl ?_
  refine Sh.bipush d1_56 (x := 32) rfl ?_
  refine Sh.iaddE d1_58 (Sh.onAdd _ 32) ?_
  refine Sh.iconst d1_59 (x := 1) rfl ?_
  refine Sh.isubE d1_60 (Sh.onSub (b := 1) (by omega) (by omega)) ?_
  refine Sh.iload_n d1_61 rfl ?_
  refine Sh.bipush d1_62 (x := 8) rfl ?_
  refine Sh.idivE (z := 4) d1_64 (by decide) (by decide) ?_
  refine Sh.isubE d1_65 (Sh.onSub (b := 4) (by omega) (by omega)) ?_
  refine Sh.lload d1_66 rfl ?_
  refine Sh.l2i d1_68 ?_
  refine Sh.i2b d1_69 ?_
  refine Sh.bastore d1_70 rfl (Sh.onNN (by omega)) (Sh.onCl (by omega)) (by first | omega | (rw [own_wlen]; omega)) (Sh.i8_idem _) (vs' := own_ws vs p (own_f l0 l1 l2 l3 l4) 5) rfl (Sh.ls_0) ?_
  refine Sh.iinc d1_71 rfl (ci := 8) (y := 40) rfl (by decide) (Sh.s1_3 rfl rfl) ?_
  refine Sh.goto d1_74 (pc' := 2) rfl (by decide) ?_
  refine Sh.iload_n d1_2 rfl ?_
  refine Sh.sipush d1_3 (x := 256) rfl ?_
  refine Sh.icmpF d1_6 (by decide) ?_
  refine Sh.iload_n d1_9 rfl ?_
  refine Sh.bipush d1_10 (x := 52) rfl ?_
  refine Sh.idivE (z := 0) d1_12 (by decide) (by decide) ?_
  refine Sh.istore d1_13 (Sh.s1_4 rfl rfl) ?_
  refine Sh.iload_n d1_15 rfl ?_
  refine Sh.bipush d1_16 (x := 52) rfl ?_
  refine Sh.iremE (z := 40) d1_18 (by decide) (by decide) ?_
  refine Sh.istore d1_19 (Sh.s1_5 rfl rfl) ?_
  refine Sh.aload_n d1_21 rfl rfl ?_
  refine Sh.iload d1_22 rfl ?_
  refine Sh.laload (jn := 0) d1_24 (hL _) (by decide) rfl rfl ?_
  refine Sh.iload d1_25 rfl ?_
  refine Sh.lushr d1_27 ?_
  refine Sh.lstore d1_28 (Sh.s2_6 rfl rfl rfl) ?_
  refine Sh.iload d1_30 rfl ?_
  refine Sh.bipush d1_32 (x := 44) rfl ?_
  refine Sh.icmpT d1_34 (pc' := 54) rfl (by decide) (by decide) ?_
  refine Sh.aload_n d1_54 rfl rfl ?_
  refine Sh.iload_n d1_55 rfl ?_
  refine Sh.bipush d1_56 (x := 32) rfl ?_
  refine Sh.iaddE d1_58 (Sh.onAdd _ 32) ?_
  refine Sh.iconst d1_59 (x := 1) rfl ?_
  refine Sh.isubE d1_60 (Sh.onSub (b := 1) (by omega) (by omega)) ?_
  refine Sh.iload_n d1_61 rfl ?_
  refine Sh.bipush d1_62 (x := 8) rfl ?_
  refine Sh.idivE (z := 5) d1_64 (by decide) (by decide) ?_
  refine Sh.isubE d1_65 (Sh.onSub (b := 5) (by omega) (by omega)) ?_
  refine Sh.lload d1_66 rfl ?_
  refine Sh.l2i d1_68 ?_
  refine Sh.i2b d1_69 ?_
  refine Sh.bastore d1_70 rfl (Sh.onNN (by omega)) (Sh.onCl (by omega)) (by first | omega | (rw [own_wlen]; omega)) (Sh.i8_idem _) (vs' := own_ws vs p (own_f l0 l1 l2 l3 l4) 6) rfl (Sh.ls_0) ?_
  refine Sh.iinc d1_71 rfl (ci := 8) (y := 48) rfl (by decide) (Sh.s1_3 rfl rfl) ?_
  refine Sh.goto d1_74 (pc' := 2) rfl (by decide) ?_
  refine Sh.iload_n d1_2 rfl ?_
  refine Sh.sipush d1_3 (x := 256) rfl ?_
  refine Sh.icmpF d1_6 (by decide) ?_
  refine Sh.iload_n d1_9 rfl ?_
  refine Sh.bipush d1_10 (x := 52) rfl ?_
  refine Sh.idivE (z := 0) d1_12 (by decide) (by decide) ?_
  refine Sh.istore d1_13 (Sh.s1_4 rfl rfl) ?_
  refine Sh.iload_n d1_15 rfl ?_
  refine Sh.bipush d1_16 (x := 52) rfl ?_
  refine Sh.iremE (z := 48) d1_18 (by decide) (by decide) ?_
  refine Sh.istore d1_19 (Sh.s1_5 rfl rfl) ?_
  refine Sh.aload_n d1_21 rfl rfl ?_
  refine Sh.iload d1_22 rfl ?_
  refine Sh.laload (jn := 0) d1_24 (hL _) (by decide) rfl rfl ?_
  refine Sh.iload d1_25 rfl ?_
  refine Sh.lushr d1_27 ?_
  refine Sh.lstore d1_28 (Sh.s2_6 rfl rfl rfl) ?_
  refine Sh.iload d1_30 rfl ?_
  refine Sh.bipush d1_32 (x := 44) rfl ?_
  refine Sh.icmpF d1_34 (by decide) ?_
  refine Sh.lload d1_37 rfl ?_
  refine Sh.aload_n d1_39 rfl rfl ?_
  refine Sh.iload d1_40 rfl ?_
  refine Sh.iconst d1_42 (x := 1) rfl ?_
  refine Sh.iaddE (z := 1) d1_43 (by decide) ?_
  refine Sh.laload (jn := 1) d1_44 (hL _) (by decide) rfl rfl ?_
  refine Sh.bipush d1_45 (x := 52) rfl ?_
  refine Sh.iload d1_47 rfl ?_
  refine Sh.isubE (z := 4) d1_49 (by decide) ?_
  refine Sh.lshl d1_50 ?_
  refine Sh.lor d1_51 ?_
  refine Sh.lstore d1_52 (Sh.s2_6 rfl rfl rfl) ?_
  refine Sh.aload_n d1_54 rfl rfl ?_
  refine Sh.iload_n d1_55 rfl ?_
  refine Sh.bipush d1_56 (x := 32) rfl ?_
  refine Sh.iaddE d1_58 (Sh.onAdd _ 32) ?_
  refine Sh.iconst d1_59 (x := 1) rfl ?_
  refine Sh.isubE d1_60 (Sh.onSub (b := 1) (by omega) (by omega)) ?_
  refine Sh.iload_n d1_61 rfl ?_
  refine Sh.bipush d1_62 (x := 8) rfl ?_
  refine Sh.idivE (z := 6) d1_64 (by decide) (by decide) ?_
  refine Sh.isubE d1_65 (Sh.onSub (b := 6) (by omega) (by omega)) ?_
  refine Sh.lload d1_66 rfl ?_
  refine Sh.l2i d1_68 ?_
  refine Sh.i2b d1_69 ?_
  refine Sh.bastore d1_70 rfl (Sh.onNN (by omega)) (Sh.onCl (by omega)) (by first | omega | (rw [own_wlen]; omega)) (Sh.i8_idem _) (vs' := own_ws vs p (own_f l0 l1 l2 l3 l4) 7) rfl (Sh.ls_0) ?_
  refine Sh.iinc d1_71 rfl (ci := 8) (y := 56) rfl (by decide) (Sh.s1_3 rfl rfl) ?_
  refine Sh.goto d1_74 (pc' := 2) rfl (by decide) ?_
  refine Sh.iload_n d1_2 rfl ?_
  refine Sh.sipush d1_3 (x := 256) rfl ?_
  refine Sh.icmpF d1_6 (by decide) ?_
  refine Sh.iload_n d1_9 rfl ?_
  refine Sh.bipush d1_10 (x := 52) rfl ?_
  refine Sh.idivE (z := 1) d1_12 (by decide) (by decide) ?_
  refine Sh.istore d1_13 (Sh.s1_4 rfl rfl) ?_
  refine Sh.iload_n d1_15 rfl ?_
  refine Sh.bipush d1_16 (x := 52) rfl ?_
  refine Sh.iremE (z := 4) d1_18 (by decide) (by decide) ?_
  refine Sh.istore d1_19 (Sh.s1_5 rfl rfl) ?_
  refine Sh.aload_n d1_21 rfl rfl ?_
  refine Sh.iload d1_22 rfl ?_
  refine Sh.laload (jn := 1) d1_24 (hL _) (by decide) rfl rfl ?_
  refine Sh.iload d1_25 rfl ?_
  refine Sh.lushr d1_27 ?_
  refine Sh.lstore d1_28 (Sh.s2_6 rfl rfl rfl) ?_
  refine Sh.iload d1_30 rfl ?_
  refine Sh.bipush d1_32 (x := 44) rfl ?_
  refine Sh.icmpT d1_34 (pc' := 54) rfl (by decide) (by decide) ?_
  refine Sh.aload_n d1_54 rfl rfl ?_
  refine Sh.iload_n d1_55 rfl ?_
  refine Sh.bipush d1_56 (x := 32) rfl ?_
  refine Sh.iaddE d1_58 (Sh.onAdd _ 32) ?_
  refine Sh.iconst d1_59 (x := 1) rfl ?_
  refine Sh.isubE d1_60 (Sh.onSub (b := 1) (by omega) (by omega)) ?_
  refine Sh.iload_n d1_61 rfl ?_
  refine Sh.bipush d1_62 (x := 8) rfl ?_
  refine Sh.idivE (z := 7) d1_64 (by decide) (by decide) ?_
  refine Sh.isubE d1_65 (Sh.onSub (b := 7) (by omega) (by omega)) ?_
  refine Sh.lload d1_66 rfl ?_
  refine Sh.l2i d1_68 ?_
  refine Sh.i2b d1_69 ?_
  refine Sh.bastore d1_70 rfl (Sh.onNN (by omega)) (Sh.onCl (by omega)) (by first | omega | (rw [own_wlen]; omega)) (Sh.i8_idem _) (vs' := own_ws vs p (own_f l0 l1 l2 l3 l4) 8) rfl (Sh.ls_0) ?_
  refine Sh.iinc d1_71 rfl (ci := 8) (y := 64) rfl (by decide) (Sh.s1_3 rfl rfl) ?_
  refine Sh.goto d1_74 (pc' := 2) rfl (by decide) ?_
  refine Sh.iload_n d1_2 rfl ?_
  refine Sh.sipush d1_3 (x := 256) rfl ?_
  refine Sh.icmpF d1_6 (by decide) ?_
  refine Sh.iload_n d1_9 rfl ?_
  refine Sh.bipush d1_10 (x := 52) rfl ?_
  refine Sh.idivE (z := 1) d1_12 (by decide) (by decide) ?_
  refine Sh.istore d1_13 (Sh.s1_4 rfl rfl) ?_
  refine Sh.iload_n d1_15 rfl ?_
  refine Sh.bipush d1_16 (x := 52) rfl ?_
  refine Sh.iremE (z := 12) d1_18 (by decide) (by decide) ?_
  refine Sh.istore d1_19 (Sh.s1_5 rfl rfl) ?_
  refine Sh.aload_n d1_21 rfl rfl ?_
  refine Sh.iload d1_22 rfl ?_
  refine Sh.laload (jn := 1) d1_24 (hL _) (by decide) rfl rfl ?_
  refine Sh.iload d1_25 rfl ?_
  refine Sh.lushr d1_27 ?_
  refine Sh.lstore d1_28 (Sh.s2_6 rfl rfl rfl) ?_
  refine Sh.iload d1_30 rfl ?_
  refine Sh.bipush d1_32 (x := 44) rfl ?_
  refine Sh.icmpT d1_34 (pc' := 54) rfl (by decide) (by decide) ?_
  refine Sh.aload_n d1_54 rfl rfl ?_
  refine Sh.iload_n d1_55 rfl ?_
  refine Sh.bipush d1_56 (x := 32) rfl ?_
  refine Sh.iaddE d1_58 (Sh.onAdd _ 32) ?_
  refine Sh.iconst d1_59 (x := 1) rfl ?_
  refine Sh.isubE d1_60 (Sh.onSub (b := 1) (by omega) (by omega)) ?_
  refine Sh.iload_n d1_61 rfl ?_
  refine Sh.bipush d1_62 (x := 8) rfl ?_
  refine Sh.idivE (z := 8) d1_64 (by decide) (by decide) ?_
  refine Sh.isubE d1_65 (Sh.onSub (b := 8) (by omega) (by omega)) ?_
  refine Sh.lload d1_66 rfl ?_
  refine Sh.l2i d1_68 ?_
  refine Sh.i2b d1_69 ?_
  refine Sh.bastore d1_70 rfl (Sh.onNN (by omega)) (Sh.onCl (by omega)) (by first | omega | (rw [own_wlen]; omega)) (Sh.i8_idem _) (vs' := own_ws vs p (own_f l0 l1 l2 l3 l4) 9) rfl (Sh.ls_0) ?_
  refine Sh.iinc d1_71 rfl (ci := 8) (y := 72) rfl (by decide) (Sh.s1_3 rfl rfl) ?_
  refine Sh.goto d1_74 (pc' := 2) rfl (by decide) ?_
  refine Sh.iload_n d1_2 rfl ?_
  refine Sh.sipush d1_3 (x := 256) rfl ?_
  refine Sh.icmpF d1_6 (by decide) ?_
  refine Sh.iload_n d1_9 rfl ?_
  refine Sh.bipush d1_10 (x := 52) rfl ?_
  refine Sh.idivE (z := 1) d1_12 (by decide) (by decide) ?_
  refine Sh.istore d1_13 (Sh.s1_4 rfl rfl) ?_
  refine Sh.iload_n d1_15 rfl ?_
  refine Sh.bipush d1_16 (x := 52) rfl ?_
  refine Sh.iremE (z := 20) d1_18 (by decide) (by decide) ?_
  refine Sh.istore d1_19 (Sh.s1_5 rfl rfl) ?_
  refine Sh.aload_n d1_21 rfl rfl ?_
  refine Sh.iload d1_22 rfl ?_
  refine Sh.laload (jn := 1) d1_24 (hL _) (by decide) rfl rfl ?_
  refine Sh.iload d1_25 rfl ?_
  refine Sh.lushr d1_27 ?_
  refine Sh.lstore d1_28 (Sh.s2_6 rfl rfl rfl) ?_
  refine Sh.iload d1_30 rfl ?_
  refine Sh.bipush d1_32 (x := 44) rfl ?_
  refine Sh.icmpT d1_34 (pc' := 54) rfl (by decide) (by decide) ?_
  refine Sh.aload_n d1_54 rfl rfl ?_
  refine Sh.iload_n d1_55 rfl ?_
  refine Sh.bipush d1_56 (x := 32) rfl ?_
  refine Sh.iaddE d1_58 (Sh.onAdd _ 32) ?_
  refine Sh.iconst d1_59 (x := 1) rfl ?_
  refine Sh.isubE d1_60 (Sh.onSub (b := 1) (by omega) (by omega)) ?_
  refine Sh.iload_n d1_61 rfl ?_
  refine Sh.bipush d1_62 (x := 8) rfl ?_
  refine Sh.idivE (z := 9) d1_64 (by decide) (by decide) ?_
  refine Sh.isubE d1_65 (Sh.onSub (b := 9) (by omega) (by omega)) ?_
  refine Sh.lload d1_66 rfl ?_
  refine Sh.l2i d1_68 ?_
  refine Sh.i2b d1_69 ?_
  refine Sh.bastore d1_70 rfl (Sh.onNN (by omega)) (Sh.onCl (by omega)) (by first | omega | (rw [own_wlen]; omega)) (Sh.i8_idem _) (vs' := own_ws vs p (own_f l0 l1 l2 l3 l4) 10) rfl (Sh.ls_0) ?_
  refine Sh.iinc d1_71 rfl (ci := 8) (y := 80) rfl (by decide) (Sh.s1_3 rfl rfl) ?_
  refine Sh.goto d1_74 (pc' := 2) rfl (by decide) ?_
  refine Sh.iload_n d1_2 rfl ?_
  refine Sh.sipush d1_3 (x := 256) rfl ?_
  refine Sh.icmpF d1_6 (by decide) ?_
  refine Sh.iload_n d1_9 rfl ?_
  refine Sh.bipush d1_10 (x := 52) rfl ?_
  refine Sh.idivE (z := 1) d1_12 (by decide) (by decide) ?_
  refine Sh.istore d1_13 (Sh.s1_4 rfl rfl) ?_
  refine Sh.iload_n d1_15 rfl ?_
  refine Sh.bipush d1_16 (x := 52) rfl ?_
  refine Sh.iremE (z := 28) d1_18 (by decide) (by decide) ?_
  refine Sh.istore d1_19 (Sh.s1_5 rfl rfl) ?_
  refine Sh.aload_n d1_21 rfl rfl ?_
  refine Sh.iload d1_22 rfl ?_
  refine Sh.laload (jn := 1) d1_24 (hL _) (by decide) rfl rfl ?_
  refine Sh.iload d1_25 rfl ?_
  refine Sh.lushr d1_27 ?_
  refine Sh.lstore d1_28 (Sh.s2_6 rfl rfl rfl) ?_
  refine Sh.iload d1_30 rfl ?_
  refine Sh.bipush d1_32 (x := 44) rfl ?_
  refine Sh.icmpT d1_34 (pc' := 54) rfl (by decide) (by decide) ?_
  refine Sh.aload_n d1_54 rfl rfl ?_
  refine Sh.iload_n d1_55 rfl ?_
  refine Sh.bipush d1_56 (x := 32) rfl ?_
  refine Sh.iaddE d1_58 (Sh.onAdd _ 32) ?_
  refine Sh.iconst d1_59 (x := 1) rfl ?_
  refine Sh.isubE d1_60 (Sh.onSub (b := 1) (by omega) (by omega)) ?_
  refine Sh.iload_n d1_61 rfl ?_
  refine Sh.bipush d1_62 (x := 8) rfl ?_
  refine Sh.idivE (z := 10) d1_64 (by decide) (by decide) ?_
  refine Sh.isubE d1_65 (Sh.onSub (b := 10) (by omega) (by omega)) ?_
  refine Sh.lload d1_66 rfl ?_
  refine Sh.l2i d1_68 ?_
  refine Sh.i2b d1_69 ?_
  refine Sh.bastore d1_70 rfl (Sh.onNN (by omega)) (Sh.onCl (by omega)) (by first | omega | (rw [own_wlen]; omega)) (Sh.i8_idem _) (vs' := own_ws vs p (own_f l0 l1 l2 l3 l4) 11) rfl (Sh.ls_0) ?_
  refine Sh.iinc d1_71 rfl (ci := 8) (y := 88) rfl (by decide) (Sh.s1_3 rfl rfl) ?_
  refine Sh.goto d1_74 (pc' := 2) rfl (by decide) ?_
  refine Sh.iload_n d1_2 rfl ?_
  refine Sh.sipush d1_3 (x := 256) rfl ?_
  refine Sh.icmpF d1_6 (by decide) ?_
  refine Sh.iload_n d1_9 rfl ?_
  refine Sh.bipush d1_10 (x := 52) rfl ?_
  refine Sh.idivE (z := 1) d1_12 (by decide) (by decide) ?_
  refine Sh.istore d1_13 (Sh.s1_4 rfl rfl) ?_
  refine Sh.iload_n d1_15 rfl ?_
  refine Sh.bipush d1_16 (x := 52) rfl ?_
  refine Sh.iremE (z := 36) d1_18 (by decide) (by decide) ?_
  refine Sh.istore d1_19 (Sh.s1_5 rfl rfl) ?_
  refine Sh.aload_n d1_21 rfl rfl ?_
  refine Sh.iload d1_22 rfl ?_
  refine Sh.laload (jn := 1) d1_24 (hL _) (by decide) rfl rfl ?_
  refine Sh.iload d1_25 rfl ?_
  refine Sh.lushr d1_27 ?_
  refine Sh.lstore d1_28 (Sh.s2_6 rfl rfl rfl) ?_
  refine Sh.iload d1_30 rfl ?_
  refine Sh.bipush d1_32 (x := 44) rfl ?_
  refine Sh.icmpT d1_34 (pc' := 54) rfl (by decide) (by decide) ?_
  refine Sh.aload_n d1_54 rfl rfl ?_
  refine Sh.iload_n d1_55 rfl ?_
  refine Sh.bipush d1_56 (x := 32) rfl ?_
  refine Sh.iaddE d1_58 (Sh.onAdd _ 32) ?_
  refine Sh.iconst d1_59 (x := 1) rfl ?_
  refine Sh.isubE d1_60 (Sh.onSub (b := 1) (by omega) (by omega)) ?_
  refine Sh.iload_n d1_61 rfl ?_
  refine Sh.bipush d1_62 (x := 8) rfl ?_
  refine Sh.idivE (z := 11) d1_64 (by decide) (by decide) ?_
  refine Sh.isubE d1_65 (Sh.onSub (b := 11) (by omega) (by omega)) ?_
  refine Sh.lload d1_66 rfl ?_
  refine Sh.l2i d1_68 ?_
  refine Sh.i2b d1_69 ?_
  refine Sh.bastore d1_70 rfl (Sh.onNN (by omega)) (Sh.onCl (by omega)) (by first | omega | (rw [own_wlen]; omega)) (Sh.i8_idem _) (vs' := own_ws vs p (own_f l0 l1 l2 l3 l4) 12) rfl (Sh.ls_0) ?_
  refine Sh.iinc d1_71 rfl (ci := 8) (y := 96) rfl (by decide) (Sh.s1_3 rfl rfl) ?_
  refine Sh.goto d1_74 (pc' := 2) rfl (by decide) ?_
  refine Sh.iload_n d1_2 rfl ?_
  refine Sh.sipush d1_3 (x := 256) rfl ?_
  refine Sh.icmpF d1_6 (by decide) ?_
  refine Sh.iload_n d1_9 rfl ?_
  refine Sh.bipush d1_10 (x := 52) rfl ?_
  refine Sh.idivE (z := 1) d1_12 (by decide) (by decide) ?_
  refine Sh.istore d1_13 (Sh.s1_4 rfl rfl) ?_
  refine Sh.iload_n d1_15 rfl ?_
  refine Sh.bipush d1_16 (x := 52) rfl ?_
  refine Sh.iremE (z := 44) d1_18 (by decide) (by decide) ?_
  refine Sh.istore d1_19 (Sh.s1_5 rfl rfl) ?_
  refine Sh.aload_n d1_21 rfl rfl ?_
  refine Sh.iload d1_22 rfl ?_
  refine Sh.laload (jn := 1) d1_24 (hL _) (by decide) rfl rfl ?_
  refine Sh.iload d1_25 rfl ?_
  refine Sh.lushr d1_27 ?_
  refine Sh.lstore d1_28 (Sh.s2_6 rfl rfl rfl) ?_
  refine Sh.iload d1_30 rfl ?_
  refine Sh.bipush d1_32 (x := 44) rfl ?_
  refine Sh.icmpT d1_34 (pc' := 54) rfl (by decide) (by decide) ?_
  refine Sh.aload_n d1_54 rfl rfl ?_
  refine Sh.iload_n d1_55 rfl ?_
  refine Sh.bipush d1_56 (x := 32) rfl ?_
  refine Sh.iaddE d1_58 (Sh.onAdd _ 32) ?_
  refine Sh.iconst d1_59 (x := 1) rfl ?_
  refine Sh.isubE d1_60 (Sh.onSub (b := 1) (by omega) (by omega)) ?_
  refine Sh.iload_n d1_61 rfl ?_
  refine Sh.bipush d1_62 (x := 8) rfl ?_
  refine Sh.idivE (z := 12) d1_64 (by decide) (by decide) ?_
  refine Sh.isubE d1_65 (Sh.onSub (b := 12) (by omega) (by omega)) ?_
  refine Sh.lload d1_66 rfl ?_
  refine Sh.l2i d1_68 ?_
  refine Sh.i2b d1_69 ?_
  refine Sh.bastore d1_70 rfl (Sh.onNN (by omega)) (Sh.onCl (by omega)) (by first | omega | (rw [own_wlen]; omega)) (Sh.i8_idem _) (vs' := own_ws vs p (own_f l0 l1 l2 l3 l4) 13) rfl (Sh.ls_0) ?_
  refine Sh.iinc d1_71 rfl (ci := 8) (y := 104) rfl (by decide) (Sh.s1_3 rfl rfl) ?_
  refine Sh.goto d1_74 (pc' := 2) rfl (by decide) ?_
  refine Sh.iload_n d1_2 rfl ?_
  refine Sh.sipush d1_3 (x := 256) rfl ?_
  refine Sh.icmpF d1_6 (by decide) ?_
  refine Sh.iload_n d1_9 rfl ?_
  refine Sh.bipush d1_10 (x := 52) rfl ?_
  refine Sh.idivE (z := 2) d1_12 (by decide) (by decide) ?_
  refine Sh.istore d1_13 (Sh.s1_4 rfl rfl) ?_
  refine Sh.iload_n d1_15 rfl ?_
  refine Sh.bipush d1_16 (x := 52) rfl ?_
  refine Sh.iremE (z := 0) d1_18 (by decide) (by decide) ?_
  refine Sh.istore d1_19 (Sh.s1_5 rfl rfl) ?_
  refine Sh.aload_n d1_21 rfl rfl ?_
  refine Sh.iload d1_22 rfl ?_
  refine Sh.laload (jn := 2) d1_24 (hL _) (by decide) rfl rfl ?_
  refine Sh.iload d1_25 rfl ?_
  refine Sh.lushr d1_27 ?_
  refine Sh.lstore d1_28 (Sh.s2_6 rfl rfl rfl) ?_
  refine Sh.iload d1_30 rfl ?_
  refine Sh.bipush d1_32 (x := 44) rfl ?_
  refine Sh.icmpT d1_34 (pc' := 54) rfl (by decide) (by decide) ?_
  refine Sh.aload_n d1_54 rfl rfl ?_
  refine Sh.iload_n d1_55 rfl ?_
  refine Sh.bipush d1_56 (x := 32) rfl ?_
  refine Sh.iaddE d1_58 (Sh.onAdd _ 32) ?_
  refine Sh.iconst d1_59 (x := 1) rfl ?_
  refine Sh.isubE d1_60 (Sh.onSub (b := 1) (by omega) (by omega)) ?_
  refine Sh.iload_n d1_61 rfl ?_
  refine Sh.bipush d1_62 (x := 8) rfl ?_
  refine Sh.idivE (z := 13) d1_64 (by decide) (by decide) ?_
  refine Sh.isubE d1_65 (Sh.onSub (b := 13) (by omega) (by omega)) ?_
  refine Sh.lload d1_66 rfl ?_
  refine Sh.l2i d1_68 ?_
  refine Sh.i2b d1_69 ?_
  refine Sh.bastore d1_70 rfl (Sh.onNN (by omega)) (Sh.onCl (by omega)) (by first | omega | (rw [own_wlen]; omega)) (Sh.i8_idem _) (vs' := own_ws vs p (own_f l0 l1 l2 l3 l4) 14) rfl (Sh.ls_0) ?_
  refine Sh.iinc d1_71 rfl (ci := 8) (y := 112) rfl (by decide) (Sh.s1_3 rfl rfl) ?_
  refine Sh.goto d1_74 (pc' := 2) rfl (by decide) ?_
  refine Sh.iload_n d1_2 rfl ?_
  refine Sh.sipush d1_3 (x := 256) rfl ?_
  refine Sh.icmpF d1_6 (by decide) ?_
  refine Sh.iload_n d1_9 rfl ?_
  refine Sh.bipush d1_10 (x := 52) rfl ?_
  refine Sh.idivE (z := 2) d1_12 (by decide) (by decide) ?_
  refine Sh.istore d1_13 (Sh.s1_4 rfl rfl) ?_
  refine Sh.iload_n d1_15 rfl ?_
  refine Sh.bipush d1_16 (x := 52) rfl ?_
  refine Sh.iremE (z := 8) d1_18 (by decide) (by decide) ?_
  refine Sh.istore d1_19 (Sh.s1_5 rfl rfl) ?_
  refine Sh.aload_n d1_21 rfl rfl ?_
  refine Sh.iload d1_22 rfl ?_
  refine Sh.laload (jn := 2) d1_24 (hL _) (by decide) rfl rfl ?_
  refine Sh.iload d1_25 rfl ?_
  refine Sh.lushr d1_27 ?_
  refine Sh.lstore d1_28 (Sh.s2_6 rfl rfl rfl) ?_
  refine Sh.iload d1_30 rfl ?_
  refine Sh.bipush d1_32 (x := 44) rfl ?_
  refine Sh.icmpT d1_34 (pc' := 54) rfl (by decide) (by decide) ?_
  refine Sh.aload_n d1_54 rfl rfl ?_
  refine Sh.iload_n d1_55 rfl ?_
  refine Sh.bipush d1_56 (x := 32) rfl ?_
  refine Sh.iaddE d1_58 (Sh.onAdd _ 32) ?_
  refine Sh.iconst d1_59 (x := 1) rfl ?_
  refine Sh.isubE d1_60 (Sh.onSub (b := 1) (by omega) (by omega)) ?_
  refine Sh.iload_n d1_61 rfl ?_
  refine Sh.bipush d1_62 (x := 8) rfl ?_
  refine Sh.idivE (z := 14) d1_64 (by decide) (by decide) ?_
  refine Sh.isubE d1_65 (Sh.onSub (b := 14) (by omega) (by omega)) ?_
  refine Sh.lload d1_66 rfl ?_
  refine Sh.l2i d1_68 ?_
  refine Sh.i2b d1_69 ?_
  refine Sh.bastore d1_70 rfl (Sh.onNN (by omega)) (Sh.onCl (by omega)) (by first | omega | (rw [own_wlen]; omega)) (Sh.i8_idem _) (vs' := own_ws vs p (own_f l0 l1 l2 l3 l4) 15) rfl (Sh.ls_0) ?_
  refine Sh.iinc d1_71 rfl (ci := 8) (y := 120) rfl (by decide) (Sh.s1_3 rfl rfl) ?_
  refine Sh.goto d1_74 (pc' := 2) rfl (by decide) ?_
  refine Sh.iload_n d1_2 rfl ?_
  refine Sh.sipush d1_3 (x := 256) rfl ?_
  refine Sh.icmpF d1_6 (by decide) ?_
  refine Sh.iload_n d1_9 rfl ?_
  refine Sh.bipush d1_10 (x := 52) rfl ?_
  refine Sh.idivE (z := 2) d1_12 (by decide) (by decide) ?_
  refine Sh.istore d1_13 (Sh.s1_4 rfl rfl) ?_
  refine Sh.iload_n d1_15 rfl ?_
  refine Sh.bipush d1_16 (x := 52) rfl ?_
  refine Sh.iremE (z := 16) d1_18 (by decide) (by decide) ?_
  refine Sh.istore d1_19 (Sh.s1_5 rfl rfl) ?_
  refine Sh.aload_n d1_21 rfl rfl ?_
  refine Sh.iload d1_22 rfl ?_
  refine Sh.laload (jn := 2) d1_24 (hL _) (by decide) rfl rfl ?_
  refine Sh.iload d1_25 rfl ?_
  refine Sh.lushr d1_27 ?_
  refine Sh.lstore d1_28 (Sh.s2_6 rfl rfl rfl) ?_
  refine Sh.iload d1_30 rfl ?_
  refine Sh.bipush d1_32 (x := 44) rfl ?_
  refine Sh.icmpT d1_34 (pc' := 54) rfl (by decide) (by decide) ?_
  refine Sh.aload_n d1_54 rfl rfl ?_
  refine Sh.iload_n d1_55 rfl ?_
  refine Sh.bipush d1_56 (x := 32) rfl ?_
  refine Sh.iaddE d1_58 (Sh.onAdd _ 32) ?_
  refine Sh.iconst d1_59 (x := 1) rfl ?_
  refine Sh.isubE d1_60 (Sh.onSub (b := 1) (by omega) (by omega)) ?_
  refine Sh.iload_n d1_61 rfl ?_
  refine Sh.bipush d1_62 (x := 8) rfl ?_
  refine Sh.idivE (z := 15) d1_64 (by decide) (by decide) ?_
  refine Sh.isubE d1_65 (Sh.onSub (b := 15) (by omega) (by omega)) ?_
  refine Sh.lload d1_66 rfl ?_
  refine Sh.l2i d1_68 ?_
  refine Sh.i2b d1_69 ?_
  refine Sh.bastore d1_70 rfl (Sh.onNN (by omega)) (Sh.onCl (by omega)) (by first | omega | (rw [own_wlen]; omega)) (Sh.i8_idem _) (vs' := own_ws vs p (own_f l0 l1 l2 l3 l4) 16) rfl (Sh.ls_0) ?_
  refine Sh.iinc d1_71 rfl (ci := 8) (y := 128) rfl (by decide) (Sh.s1_3 rfl rfl) ?_
  refine Sh.goto d1_74 (pc' := 2) rfl (by decide) ?_
  refine Sh.iload_n d1_2 rfl ?_
  refine Sh.sipush d1_3 (x := 256) rfl ?_
  refine Sh.icmpF d1_6 (by decide) ?_
  refine Sh.iload_n d1_9 rfl ?_
  refine Sh.bipush d1_10 (x := 52) rfl ?_
  refine Sh.idivE (z := 2) d1_12 (by decide) (by decide) ?_
  refine Sh.istore d1_13 (Sh.s1_4 rfl rfl) ?_
  refine Sh.iload_n d1_15 rfl ?_
  refine Sh.bipush d1_16 (x := 52) rfl ?_
  refine Sh.iremE (z := 24) d1_18 (by decide) (by decide) ?_
  refine Sh.istore d1_19 (Sh.s1_5 rfl rfl) ?_
  refine Sh.aload_n d1_21 rfl rfl ?_
  refine Sh.iload d1_22 rfl ?_
  refine Sh.laload (jn := 2) d1_24 (hL _) (by decide) rfl rfl ?_
  refine Sh.iload d1_25 rfl ?_
  refine Sh.lushr d1_27 ?_
  refine Sh.lstore d1_28 (Sh.s2_6 rfl rfl rfl) ?_
  refine Sh.iload d1_30 rfl ?_
  refine Sh.bipush d1_32 (x := 44) rfl ?_
  refine Sh.icmpT d1_34 (pc' := 54) rfl (by decide) (by decide) ?_
  refine Sh.aload_n d1_54 rfl rfl ?_
  refine Sh.iload_n d1_55 rfl ?_
  refine Sh.bipush d1_56 (x := 32) rfl ?_
  refine Sh.iaddE d1_58 (Sh.onAdd _ 32) ?_
  refine Sh.iconst d1_59 (x := 1) rfl ?_
  refine Sh.isubE d1_60 (Sh.onSub (b := 1) (by omega) (by omega)) ?_
  refine Sh.iload_n d1_61 rfl ?_
  refine Sh.bipush d1_62 (x := 8) rfl ?_
  refine Sh.idivE (z := 16) d1_64 (by decide) (by decide) ?_
  refine Sh.isubE d1_65 (Sh.onSub (b := 16) (by omega) (by omega)) ?_
  refine Sh.lload d1_66 rfl ?_
  refine Sh.l2i d1_68 ?_
  refine Sh.i2b d1_69 ?_
  refine Sh.bastore d1_70 rfl (Sh.onNN (by omega)) (Sh.onCl (by omega)) (by first | omega | (rw [own_wlen]; omega)) (Sh.i8_idem _) (vs' := own_ws vs p (own_f l0 l1 l2 l3 l4) 17) rfl (Sh.ls_0) ?_
  refine Sh.iinc d1_71 rfl (ci := 8) (y := 136) rfl (by decide) (Sh.s1_3 rfl rfl) ?_
  refine Sh.goto d1_74 (pc' := 2) rfl (by decide) ?_
  refine Sh.iload_n d1_2 rfl ?_
  refine Sh.sipush d1_3 (x := 256) rfl ?_
  refine Sh.icmpF d1_6 (by decide) ?_
  refine Sh.iload_n d1_9 rfl ?_
  refine Sh.bipush d1_10 (x := 52) rfl ?_
  refine Sh.idivE (z := 2) d1_12 (by decide) (by decide) ?_
  refine Sh.istore d1_13 (Sh.s1_4 rfl rfl) ?_
  refine Sh.iload_n d1_15 rfl ?_
  refine Sh.bipush d1_16 (x := 52) rfl ?_
  refine Sh.iremE (z := 32) d1_18 (by decide) (by decide) ?_
  refine Sh.istore d1_19 (Sh.s1_5 rfl rfl) ?_
  refine Sh.aload_n d1_21 rfl rfl ?_
  refine Sh.iload d1_22 rfl ?_
  refine Sh.laload (jn := 2) d1_24 (hL _) (by decide) rfl rfl ?_
  refine Sh.iload d1_25 rfl ?_
  refine Sh.lushr d1_27 ?_
  refine Sh.lstore d1_28 (Sh.s2_6 rfl rfl rfl) ?_
  refine Sh.iload d1_30 rfl ?_
  refine Sh.bipush d1_32 (x := 44) rfl ?_
  refine Sh.icmpT d1_34 (pc' := 54) rfl (by decide) (by decide) ?_
  refine Sh.aload_n d1_54 rfl rfl ?_
  refine Sh.iload_n d1_55 rfl ?_
  refine Sh.bipush d1_56 (x := 32) rfl ?_
  refine Sh.iaddE d1_58 (Sh.onAdd _ 32) ?_
  refine Sh.iconst d1_59 (x := 1) rfl ?_
  refine Sh.isubE d1_60 (Sh.onSub (b := 1) (by omega) (by omega)) ?_
  refine Sh.iload_n d1_61 rfl ?_
  refine Sh.bipush d1_62 (x := 8) rfl ?_
  refine Sh.idivE (z := 17) d1_64 (by decide) (by decide) ?_
  refine Sh.isubE d1_65 (Sh.onSub (b := 17) (by omega) (by omega)) ?_
  refine Sh.lload d1_66 rfl ?_
  refine Sh.l2i d1_68 ?_
  refine Sh.i2b d1_69 ?_
  refine Sh.bastore d1_70 rfl (Sh.onNN (by omega)) (Sh.onCl (by omega)) (by first | omega | (rw [own_wlen]; omega)) (Sh.i8_idem _) (vs' := own_ws vs p (own_f l0 l1 l2 l3 l4) 18) rfl (Sh.ls_0) ?_
  refine Sh.iinc d1_71 rfl (ci := 8) (y := 144) rfl (by decide) (Sh.s1_3 rfl rfl) ?_
  refine Sh.goto d1_74 (pc' := 2) rfl (by decide) ?_
  refine Sh.iload_n d1_2 rfl ?_
  refine Sh.sipush d1_3 (x := 256) rfl ?_
  refine Sh.icmpF d1_6 (by decide) ?_
  refine Sh.iload_n d1_9 rfl ?_
  refine Sh.bipush d1_10 (x := 52) rfl ?_
  refine Sh.idivE (z := 2) d1_12 (by decide) (by decide) ?_
  refine Sh.istore d1_13 (Sh.s1_4 rfl rfl) ?_
  refine Sh.iload_n d1_15 rfl ?_
  refine Sh.bipush d1_16 (x := 52) rfl ?_
  refine Sh.iremE (z := 40) d1_18 (by decide) (by decide) ?_
  refine Sh.istore d1_19 (Sh.s1_5 rfl rfl) ?_
  refine Sh.aload_n d1_21 rfl rfl ?_
  refine Sh.iload d1_22 rfl ?_
  refine Sh.laload (jn := 2) d1_24 (hL _) (by decide) rfl rfl ?_
  refine Sh.iload d1_25 rfl ?_
  refine Sh.lushr d1_27 ?_
  refine Sh.lstore d1_28 (Sh.s2_6 rfl rfl rfl) ?_
  refine Sh.iload d1_30 rfl ?_
  refine Sh.bipush d1_32 (x := 44) rfl ?_
  refine Sh.icmpT d1_34 (pc' := 54) rfl (by decide) (by decide) ?_
  refine Sh.aload_n d1_54 rfl rfl ?_
  refine Sh.iload_n d1_55 rfl ?_
  refine Sh.bipush d1_56 (x := 32) rfl ?_
  refine Sh.iaddE d1_58 (Sh.onAdd _ 32) ?_
  refine Sh.iconst d1_59 (x := 1) rfl ?_
  refine Sh.isubE d1_60 (Sh.onSub (b := 1) (by omega) (by omega)) ?_
  refine Sh.iload_n d1_61 rfl ?_
  refine Sh.bipush d1_62 (x := 8) rfl ?_
  refine Sh.idivE (z := 18) d1_64 (by decide) (by decide) ?_
  refine Sh.isubE d1_65 (Sh.onSub (b := 18) (by omega) (by omega)) ?_
  refine Sh.lload d1_66 rfl ?_
  refine Sh.l2i d1_68 ?_
  refine Sh.i2b d1_69 ?_
  refine Sh.bastore d1_70 rfl (Sh.onNN (by omega)) (Sh.onCl (by omega)) (by first | omega | (rw [own_wlen]; omega)) (Sh.i8_idem _) (vs' := own_ws vs p (own_f l0 l1 l2 l3 l4) 19) rfl (Sh.ls_0) ?_
  refine Sh.iinc d1_71 rfl (ci := 8) (y := 152) rfl (by decide) (Sh.s1_3 rfl rfl) ?_
  refine Sh.goto d1_74 (pc' := 2) rfl (by decide) ?_
  refine Sh.iload_n d1_2 rfl ?_
  refine Sh.sipush d1_3 (x := 256) rfl ?_
  refine Sh.icmpF d1_6 (by decide) ?_
  refine Sh.iload_n d1_9 rfl ?_
  refine Sh.bipush d1_10 (x := 52) rfl ?_
  refine Sh.idivE (z := 2) d1_12 (by decide) (by decide) ?_
  refine Sh.istore d1_13 (Sh.s1_4 rfl rfl) ?_
  refine Sh.iload_n d1_15 rfl ?_
  refine Sh.bipush d1_16 (x := 52) rfl ?_
  refine Sh.iremE (z := 48) d1_18 (by decide) (by decide) ?_
  refine Sh.istore d1_19 (Sh.s1_5 rfl rfl) ?_
  refine Sh.aload_n d1_21 rfl rfl ?_
  refine Sh.iload d1_22 rfl ?_
  refine Sh.laload (jn := 2) d1_24 (hL _) (by decide) rfl rfl ?_
  refine Sh.iload d1_25 rfl ?_
  refine Sh.lushr d1_27 ?_
  refine Sh.lstore d1_28 (Sh.s2_6 rfl rfl rfl) ?_
  refine Sh.iload d1_30 rfl ?_
  refine Sh.bipush d1_32 (x := 44) rfl ?_
  refine Sh.icmpF d1_34 (by decide) ?_
  refine Sh.lload d1_37 rfl ?_
  refine Sh.aload_n d1_39 rfl rfl ?_
  refine Sh.iload d1_40 rfl ?_
  refine Sh.iconst d1_42 (x := 1) rfl ?_
  refine Sh.iaddE (z := 3) d1_43 (by decide) ?_
  refine Sh.laload (jn := 3) d1_44 (hL _) (by decide) rfl rfl ?_
  refine Sh.bipush d1_45 (x := 52) rfl ?_
  refine Sh.iload d1_47 rfl ?_
  refine Sh.isubE (z := 4) d1_49 (by decide) ?_
  refine Sh.lshl d1_50 ?_
  refine Sh.lor d1_51 ?_
  refine Sh.lstore d1_52 (Sh.s2_6 rfl rfl rfl) ?_
  refine Sh.aload_n d1_54 rfl rfl ?_
  refine Sh.iload_n d1_55 rfl ?_
  refine Sh.bipush d1_56 (x := 32) rfl ?_
  refine Sh.iaddE d1_58 (Sh.onAdd _ 32) ?_
  refine Sh.iconst d1_59 (x := 1) rfl ?_
  refine Sh.isubE d1_60 (Sh.onSub (b := 1) (by omega) (by omega)) ?_
  refine Sh.iload_n d1_61 rfl ?_
  refine Sh.bipush d1_62 (x := 8) rfl ?_
  refine Sh.idivE (z := 19) d1_64 (by decide) (by decide) ?_
  refine Sh.isubE d1_65 (Sh.onSub (b := 19) (by omega) (by omega)) ?_
  refine Sh.lload d1_66 rfl ?_
  refine Sh.l2i d1_68 ?_
  refine Sh.i2b d1_69 ?_
  refine Sh.bastore d1_70 rfl (Sh.onNN (by omega)) (Sh.onCl (by omega)) (by first | omega | (rw [own_wlen]; omega)) (Sh.i8_idem _) (vs' := own_ws vs p (own_f l0 l1 l2 l3 l4) 20) rfl (Sh.ls_0) ?_
  refine Sh.iinc d1_71 rfl (ci := 8) (y := 160) rfl (by decide) (Sh.s1_3 rfl rfl) ?_
  refine Sh.goto d1_74 (pc' := 2) rfl (by decide) ?_
  refine Sh.iload_n d1_2 rfl ?_
  refine Sh.sipush d1_3 (x := 256) rfl ?_
  refine Sh.icmpF d1_6 (by decide) ?_
  refine Sh.iload_n d1_9 rfl ?_
  refine Sh.bipush d1_10 (x := 52) rfl ?_
  refine Sh.idivE (z := 3) d1_12 (by decide) (by decide) ?_
  refine Sh.istore d1_13 (Sh.s1_4 rfl rfl) ?_
  refine Sh.iload_n d1_15 rfl ?_
  refine Sh.bipush d1_16 (x := 52) rfl ?_
  refine Sh.iremE (z := 4) d1_18 (by decide) (by decide) ?_
  refine Sh.istore d1_19 (Sh.s1_5 rfl rfl) ?_
  refine Sh.aload_n d1_21 rfl rfl ?_
  refine Sh.iload d1_22 rfl ?_
  refine Sh.laload (jn := 3) d1_24 (hL _) (by decide) rfl rfl ?_
  refine Sh.iload d1_25 rfl ?_
  refine Sh.lushr d1_27 ?_
  refine Sh.lstore d1_28 (Sh.s2_6 rfl rfl rfl) ?_
  refine Sh.iload d1_30 rfl ?_
  refine Sh.bipush d1_32 (x := 44) rfl ?_
  refine Sh.icmpT d1_34 (pc' := 54) rfl (by decide) (by decide) ?_
  refine Sh.aload_n d1_54 rfl rfl ?_
  refine Sh.iload_n d1_55 rfl ?_
  refine Sh.bipush d1_56 (x := 32) rfl ?_
  refine Sh.iaddE d1_58 (Sh.onAdd _ 32) ?_
  refine Sh.iconst d1_59 (x := 1) rfl ?_
  refine Sh.isubE d1_60 (Sh.onSub (b := 1) (by omega) (by omega)) ?_
  refine Sh.iload_n d1_61 rfl ?_
  refine Sh.bipush d1_62 (x := 8) rfl ?_
  refine Sh.idivE (z := 20) d1_64 (by decide) (by decide) ?_
  refine Sh.isubE d1_65 (Sh.onSub (b := 20) (by omega) (by omega)) ?_
  refine Sh.lload d1_66 rfl ?_
  refine Sh.l2i d1_68 ?_
  refine Sh.i2b d1_69 ?_
  refine Sh.bastore d1_70 rfl (Sh.onNN (by omega)) (Sh.onCl (by omega)) (by first | omega | (rw [own_wlen]; omega)) (Sh.i8_idem _) (vs' := own_ws vs p (own_f l0 l1 l2 l3 l4) 21) rfl (Sh.ls_0) ?_
  refine Sh.iinc d1_71 rfl (ci := 8) (y := 168) rfl (by decide) (Sh.s1_3 rfl rfl) ?_
  refine Sh.goto d1_74 (pc' := 2) rfl (by decide) ?_
  refine Sh.iload_n d1_2 rfl ?_
  refine Sh.sipush d1_3 (x := 256) rfl ?_
  refine Sh.icmpF d1_6 (by decide) ?_
  refine Sh.iload_n d1_9 rfl ?_
  refine Sh.bipush d1_10 (x := 52) rfl ?_
  refine Sh.idivE (z := 3) d1_12 (by decide) (by decide) ?_
  refine Sh.istore d1_13 (Sh.s1_4 rfl rfl) ?_
  refine Sh.iload_n d1_15 rfl ?_
  refine Sh.bipush d1_16 (x := 52) rfl ?_
  refine Sh.iremE (z := 12) d1_18 (by decide) (by decide) ?_
  refine Sh.istore d1_19 (Sh.s1_5 rfl rfl) ?_
  refine Sh.aload_n d1_21 rfl rfl ?_
  refine Sh.iload d1_22 rfl ?_
  refine Sh.laload (jn := 3) d1_24 (hL _) (by decide) rfl rfl ?_
  refine Sh.iload d1_25 rfl ?_
  refine Sh.lushr d1_27 ?_
  refine Sh.lstore d1_28 (Sh.s2_6 rfl rfl rfl) ?_
  refine Sh.iload d1_30 rfl ?_
  refine Sh.bipush d1_32 (x := 44) rfl ?_
  refine Sh.icmpT d1_34 (pc' := 54) rfl (by decide) (by decide) ?_
  refine Sh.aload_n d1_54 rfl rfl ?_
  refine Sh.iload_n d1_55 rfl ?_
  refine Sh.bipush d1_56 (x := 32) rfl ?_
  refine Sh.iaddE d1_58 (Sh.onAdd _ 32) ?_
  refine Sh.iconst d1_59 (x := 1) rfl ?_
  refine Sh.isubE d1_60 (Sh.onSub (b := 1) (by omega) (by omega)) ?_
  refine Sh.iload_n d1_61 rfl ?_
  refine Sh.bipush d1_62 (x := 8) rfl ?_
  refine Sh.idivE (z := 21) d1_64 (by decide) (by decide) ?_
  refine Sh.isubE d1_65 (Sh.onSub (b := 21) (by omega) (by omega)) ?_
  refine Sh.lload d1_66 rfl ?_
  refine Sh.l2i d1_68 ?_
  refine Sh.i2b d1_69 ?_
  refine Sh.bastore d1_70 rfl (Sh.onNN (by omega)) (Sh.onCl (by omega)) (by first | omega | (rw [own_wlen]; omega)) (Sh.i8_idem _) (vs' := own_ws vs p (own_f l0 l1 l2 l3 l4) 22) rfl (Sh.ls_0) ?_
  refine Sh.iinc d1_71 rfl (ci := 8) (y := 176) rfl (by decide) (Sh.s1_3 rfl rfl) ?_
  refine Sh.goto d1_74 (pc' := 2) rfl (by decide) ?_
  refine Sh.iload_n d1_2 rfl ?_
  refine Sh.sipush d1_3 (x := 256) rfl ?_
  refine Sh.icmpF d1_6 (by decide) ?_
  refine Sh.iload_n d1_9 rfl ?_
  refine Sh.bipush d1_10 (x := 52) rfl ?_
  refine Sh.idivE (z := 3) d1_12 (by decide) (by decide) ?_
  refine Sh.istore d1_13 (Sh.s1_4 rfl rfl) ?_
  refine Sh.iload_n d1_15 rfl ?_
  refine Sh.bipush d1_16 (x := 52) rfl ?_
  refine Sh.iremE (z := 20) d1_18 (by decide) (by decide) ?_
  refine Sh.istore d1_19 (Sh.s1_5 rfl rfl) ?_
  refine Sh.aload_n d1_21 rfl rfl ?_
  refine Sh.iload d1_22 rfl ?_
  refine Sh.laload (jn := 3) d1_24 (hL _) (by decide) rfl rfl ?_
  refine Sh.iload d1_25 rfl ?_
  refine Sh.lushr d1_27 ?_
  refine Sh.lstore d1_28 (Sh.s2_6 rfl rfl rfl) ?_
  refine Sh.iload d1_30 rfl ?_
  refine Sh.bipush d1_32 (x := 44) rfl ?_
  refine Sh.icmpT d1_34 (pc' := 54) rfl (by decide) (by decide) ?_
  refine Sh.aload_n d1_54 rfl rfl ?_
  refine Sh.iload_n d1_55 rfl ?_
  refine Sh.bipush d1_56 (x := 32) rfl ?_
  refine Sh.iaddE d1_58 (Sh.onAdd _ 32) ?_
  refine Sh.iconst d1_59 (x := 1) rfl ?_
  refine Sh.isubE d1_60 (Sh.onSub (b := 1) (by omega) (by omega)) ?_
  refine Sh.iload_n d1_61 rfl ?_
  refine Sh.bipush d1_62 (x := 8) rfl ?_
  refine Sh.idivE (z := 22) d1_64 (by decide) (by decide) ?_
  refine Sh.isubE d1_65 (Sh.onSub (b := 22) (by omega) (by omega)) ?_
  refine Sh.lload d1_66 rfl ?_
  refine Sh.l2i d1_68 ?_
  refine Sh.i2b d1_69 ?_
  refine Sh.bastore d1_70 rfl (Sh.onNN (by omega)) (Sh.onCl (by omega)) (by first | omega | (rw [own_wlen]; omega)) (Sh.i8_idem _) (vs' := own_ws vs p (own_f l0 l1 l2 l3 l4) 23) rfl (Sh.ls_0) ?_
  refine Sh.iinc d1_71 rfl (ci := 8) (y := 184) rfl (by decide) (Sh.s1_3 rfl rfl) ?_
  refine Sh.goto d1_74 (pc' := 2) rfl (by decide) ?_
  refine Sh.iload_n d1_2 rfl ?_
  refine Sh.sipush d1_3 (x := 256) rfl ?_
  refine Sh.icmpF d1_6 (by decide) ?_
  refine Sh.iload_n d1_9 rfl ?_
  refine Sh.bipush d1_10 (x := 52) rfl ?_
  refine Sh.idivE (z := 3) d1_12 (by decide) (by decide) ?_
  refine Sh.istore d1_13 (Sh.s1_4 rfl rfl) ?_
  refine Sh.iload_n d1_15 rfl ?_
  refine Sh.bipush d1_16 (x := 52) rfl ?_
  refine Sh.iremE (z := 28) d1_18 (by decide) (by decide) ?_
  refine Sh.istore d1_19 (Sh.s1_5 rfl rfl) ?_
  refine Sh.aload_n d1_21 rfl rfl ?_
  refine Sh.iload d1_22 rfl ?_
  refine Sh.laload (jn := 3) d1_24 (hL _) (by decide) rfl rfl ?_
  refine Sh.iload d1_25 rfl ?_
  refine Sh.lushr d1_27 ?_
  refine Sh.lstore d1_28 (Sh.s2_6 rfl rfl rfl) ?_
  refine Sh.iload d1_30 rfl ?_
  refine Sh.bipush d1_32 (x := 44) rfl ?_
  refine Sh.icmpT d1_34 (pc' := 54) rfl (by decide) (by decide) ?_
  refine Sh.aload_n d1_54 rfl rfl ?_
  refine Sh.iload_n d1_55 rfl ?_
  refine Sh.bipush d1_56 (x := 32) rfl ?_
  refine Sh.iaddE d1_58 (Sh.onAdd _ 32) ?_
  refine Sh.iconst d1_59 (x := 1) rfl ?_
  refine Sh.isubE d1_60 (Sh.onSub (b := 1) (by omega) (by omega)) ?_
  refine Sh.iload_n d1_61 rfl ?_
  refine Sh.bipush d1_62 (x := 8) rfl ?_
  refine Sh.idivE (z := 23) d1_64 (by decide) (by decide) ?_
  refine Sh.isubE d1_65 (Sh.onSub (b := 23) (by omega) (by omega)) ?_
  refine Sh.lload d1_66 rfl ?_
  refine Sh.l2i d1_68 ?_
  refine Sh.i2b d1_69 ?_
  refine Sh.bastore d1_70 rfl (Sh.onNN (by omega)) (Sh.onCl (by omega)) (by first | omega | (rw [own_wlen]; omega)) (Sh.i8_idem _) (vs' := own_ws vs p (own_f l0 l1 l2 l3 l4) 24) rfl (Sh.ls_0) ?_
  refine Sh.iinc d1_71 rfl (ci := 8) (y := 192) rfl (by decide) (Sh.s1_3 rfl rfl) ?_
  refine Sh.goto d1_74 (pc' := 2) rfl (by decide) ?_
  refine Sh.iload_n d1_2 rfl ?_
  refine Sh.sipush d1_3 (x := 256) rfl ?_
  refine Sh.icmpF d1_6 (by decide) ?_
  refine Sh.iload_n d1_9 rfl ?_
  refine Sh.bipush d1_10 (x := 52) rfl ?_
  refine Sh.idivE (z := 3) d1_12 (by decide) (by decide) ?_
  refine Sh.istore d1_13 (Sh.s1_4 rfl rfl) ?_
  refine Sh.iload_n d1_15 rfl ?_
  refine Sh.bipush d1_16 (x := 52) rfl ?_
  refine Sh.iremE (z := 36) d1_18 (by decide) (by decide) ?_
  refine Sh.istore d1_19 (Sh.s1_5 rfl rfl) ?_
  refine Sh.aload_n d1_21 rfl rfl ?_
  refine Sh.iload d1_22 rfl ?_
  refine Sh.laload (jn := 3) d1_24 (hL _) (by decide) rfl rfl ?_
  refine Sh.iload d1_25 rfl ?_
  refine Sh.lushr d1_27 ?_
  refine Sh.lstore d1_28 (Sh.s2_6 rfl rfl rfl) ?_
  refine Sh.iload d1_30 rfl ?_
  refine Sh.bipush d1_32 (x := 44) rfl ?_
  refine Sh.icmpT d1_34 (pc' := 54) rfl (by decide) (by decide) ?_
  refine Sh.aload_n d1_54 rfl rfl ?_
  refine Sh.iload_n d1_55 rfl ?_
  refine Sh.bipush d1_56 (x := 32) rfl ?_
  refine Sh.iaddE d1_58 (Sh.onAdd _ 32) ?_
  refine Sh.iconst d1_59 (x := 1) rfl ?_
  refine Sh.isubE d1_60 (Sh.onSub (b := 1) (by omega) (by omega)) ?_
  refine Sh.iload_n d1_61 rfl ?_
  refine Sh.bipush d1_62 (x := 8) rfl ?_
  refine Sh.idivE (z := 24) d1_64 (by decide) (by decide) ?_
  refine Sh.isubE d1_65 (Sh.onSub (b := 24) (by omega) (by omega)) ?_
  refine Sh.lload d1_66 rfl ?_
  refine Sh.l2i d1_68 ?_
  refine Sh.i2b d1_69 ?_
  refine Sh.bastore d1_70 rfl (Sh.onNN (by omega)) (Sh.onCl (by omega)) (by first | omega | (rw [own_wlen]; omega)) (Sh.i8_idem _) (vs' := own_ws vs p (own_f l0 l1 l2 l3 l4) 25) rfl (Sh.ls_0) ?_
  refine Sh.iinc d1_71 rfl (ci := 8) (y := 200) rfl (by decide) (Sh.s1_3 rfl rfl) ?_
  refine Sh.goto d1_74 (pc' := 2) rfl (by decide) ?_
  refine Sh.iload_n d1_2 rfl ?_
  refine Sh.sipush d1_3 (x := 256) rfl ?_
  refine Sh.icmpF d1_6 (by decide) ?_
  refine Sh.iload_n d1_9 rfl ?_
  refine Sh.bipush d1_10 (x := 52) rfl ?_
  refine Sh.idivE (z := 3) d1_12 (by decide) (by decide) ?_
  refine Sh.istore d1_13 (Sh.s1_4 rfl rfl) ?_
  refine Sh.iload_n d1_15 rfl ?_
  refine Sh.bipush d1_16 (x := 52) rfl ?_
  refine Sh.iremE (z := 44) d1_18 (by decide) (by decide) ?_
  refine Sh.istore d1_19 (Sh.s1_5 rfl rfl) ?_
  refine Sh.aload_n d1_21 rfl rfl ?_
  refine Sh.iload d1_22 rfl ?_
  refine Sh.laload (jn := 3) d1_24 (hL _) (by decide) rfl rfl ?_
  refine Sh.iload d1_25 rfl ?_
  refine Sh.lushr d1_27 ?_
  refine Sh.lstore d1_28 (Sh.s2_6 rfl rfl rfl) ?_
  refine Sh.iload d1_30 rfl ?_
  refine Sh.bipush d1_32 (x := 44) rfl ?_
  refine Sh.icmpT d1_34 (pc' := 54) rfl (by decide) (by decide) ?_
  refine Sh.aload_n d1_54 rfl rfl ?_
  refine Sh.iload_n d1_55 rfl ?_
  refine Sh.bipush d1_56 (x := 32) rfl ?_
  refine Sh.iaddE d1_58 (Sh.onAdd _ 32) ?_
  refine Sh.iconst d1_59 (x := 1) rfl ?_
  refine Sh.isubE d1_60 (Sh.onSub (b := 1) (by omega) (by omega)) ?_
  refine Sh.iload_n d1_61 rfl ?_
  refine Sh.bipush d1_62 (x := 8) rfl ?_
  refine Sh.idivE (z := 25) d1_64 (by decide) (by decide) ?_
  refine Sh.isubE d1_65 (Sh.onSub (b := 25) (by omega) (by omega)) ?_
  refine Sh.lload d1_66 rfl ?_
  refine Sh.l2i d1_68 ?_
  refine Sh.i2b d1_69 ?_
  refine Sh.bastore d1_70 rfl (Sh.onNN (by omega)) (Sh.onCl (by omega)) (by first | omega | (rw [own_wlen]; omega)) (Sh.i8_idem _) (vs' := own_ws vs p (own_f l0 l1 l2 l3 l4) 26) rfl (Sh.ls_0) ?_
  refine Sh.iinc d1_71 rfl (ci := 8) (y := 208) rfl (by decide) (Sh.s1_3 rfl rfl) ?_
  refine Sh.goto d1_74 (pc' := 2) rfl (by decide) ?_
  refine Sh.iload_n d1_2 rfl ?_
  refine Sh.sipush d1_3 (x := 256) rfl ?_
  refine Sh.icmpF d1_6 (by decide) ?_
  refine Sh.iload_n d1_9 rfl ?_
  refine Sh.bipush d1_10 (x := 52) rfl ?_
  refine Sh.idivE (z := 4) d1_12 (by decide) (by decide) ?_
  refine Sh.istore d1_13 (Sh.s1_4 rfl rfl) ?_
  refine Sh.iload_n d1_15 rfl ?_
  refine Sh.bipush d1_16 (x := 52) rfl ?_
  refine Sh.iremE (z := 0) d1_18 (by decide) (by decide) ?_
  refine Sh.istore d1_19 (Sh.s1_5 rfl rfl) ?_
  refine Sh.aload_n d1_21 rfl rfl ?_
  refine Sh.iload d1_22 rfl ?_
  refine Sh.laload (jn := 4) d1_24 (hL _) (by decide) rfl rfl ?_
  refine Sh.iload d1_25 rfl ?_
  refine Sh.lushr d1_27 ?_
  refine Sh.lstore d1_28 (Sh.s2_6 rfl rfl rfl) ?_
  refine Sh.iload d1_30 rfl ?_
  refine Sh.bipush d1_32 (x := 44) rfl ?_
  refine Sh.icmpT d1_34 (pc' := 54) rfl (by decide) (by decide) ?_
  refine Sh.aload_n d1_54 rfl rfl ?_
  refine Sh.iload_n d1_55 rfl ?_
  refine Sh.bipush d1_56 (x := 32) rfl ?_
  refine Sh.iaddE d1_58 (Sh.onAdd _ 32) ?_
  refine Sh.iconst d1_59 (x := 1) rfl ?_
  refine Sh.isubE d1_60 (Sh.onSub (b := 1) (by omega) (by omega)) ?_
  refine Sh.iload_n d1_61 rfl ?_
  refine Sh.bipush d1_62 (x := 8) rfl ?_
  refine Sh.idivE (z := 26) d1_64 (by decide) (by decide) ?_
  refine Sh.isubE d1_65 (Sh.onSub (b := 26) (by omega) (by omega)) ?_
  refine Sh.lload d1_66 rfl ?_
  refine Sh.l2i d1_68 ?_
  refine Sh.i2b d1_69 ?_
  refine Sh.bastore d1_70 rfl (Sh.onNN (by omega)) (Sh.onCl (by omega)) (by first | omega | (rw [own_wlen]; omega)) (Sh.i8_idem _) (vs' := own_ws vs p (own_f l0 l1 l2 l3 l4) 27) rfl (Sh.ls_0) ?_
  refine Sh.iinc d1_71 rfl (ci := 8) (y := 216) rfl (by decide) (Sh.s1_3 rfl rfl) ?_
  refine Sh.goto d1_74 (pc' := 2) rfl (by decide) ?_
  refine Sh.iload_n d1_2 rfl ?_
  refine Sh.sipush d1_3 (x := 256) rfl ?_
  refine Sh.icmpF d1_6 (by decide) ?_
  refine Sh.iload_n d1_9 rfl ?_
  refine Sh.bipush d1_10 (x := 52) rfl ?_
  refine Sh.idivE (z := 4) d1_12 (by decide) (by decide) ?_
  refine Sh.istore d1_13 (Sh.s1_4 rfl rfl) ?_
  refine Sh.iload_n d1_15 rfl ?_
  refine Sh.bipush d1_16 (x := 52) rfl ?_
  refine Sh.iremE (z := 8) d1_18 (by decide) (by decide) ?_
  refine Sh.istore d1_19 (Sh.s1_5 rfl rfl) ?_
  refine Sh.aload_n d1_21 rfl rfl ?_
  refine Sh.iload d1_22 rfl ?_
  refine Sh.laload (jn := 4) d1_24 (hL _) (by decide) rfl rfl ?_
  refine Sh.iload d1_25 rfl ?_
  refine Sh.lushr d1_27 ?_
  refine Sh.lstore d1_28 (Sh.s2_6 rfl rfl rfl) ?_
  refine Sh.iload d1_30 rfl ?_
  refine Sh.bipush d1_32 (x := 44) rfl ?_
  refine Sh.icmpT d1_34 (pc' := 54) rfl (by decide) (by decide) ?_
  refine Sh.aload_n d1_54 rfl rfl ?_
  refine Sh.iload_n d1_55 rfl ?_
  refine Sh.bipush d1_56 (x := 32) rfl ?_
  refine Sh.iaddE d1_58 (Sh.onAdd _ 32) ?_
  refine Sh.iconst d1_59 (x := 1) rfl ?_
  refine Sh.isubE d1_60 (Sh.onSub (b := 1) (by omega) (by omega)) ?_
  refine Sh.iload_n d1_61 rfl ?_
  refine Sh.bipush d1_62 (x := 8) rfl ?_
  refine Sh.idivE (z := 27) d1_64 (by decide) (by decide) ?_
  refine Sh.isubE d1_65 (Sh.onSub (b := 27) (by omega) (by omega)) ?_
  refine Sh.lload d1_66 rfl ?_
  refine Sh.l2i d1_68 ?_
  refine Sh.i2b d1_69 ?_
  refine Sh.bastore d1_70 rfl (Sh.onNN (by omega)) (Sh.onCl (by omega)) (by first | omega | (rw [own_wlen]; omega)) (Sh.i8_idem _) (vs' := own_ws vs p (own_f l0 l1 l2 l3 l4) 28) rfl (Sh.ls_0) ?_
  refine Sh.iinc d1_71 rfl (ci := 8) (y := 224) rfl (by decide) (Sh.s1_3 rfl rfl) ?_
  refine Sh.goto d1_74 (pc' := 2) rfl (by decide) ?_
  refine Sh.iload_n d1_2 rfl ?_
  refine Sh.sipush d1_3 (x := 256) rfl ?_
  refine Sh.icmpF d1_6 (by decide) ?_
  refine Sh.iload_n d1_9 rfl ?_
  refine Sh.bipush d1_10 (x := 52) rfl ?_
  refine Sh.idivE (z := 4) d1_12 (by decide) (by decide) ?_
  refine Sh.istore d1_13 (Sh.s1_4 rfl rfl) ?_
  refine Sh.iload_n d1_15 rfl ?_
  refine Sh.bipush d1_16 (x := 52) rfl ?_
  refine Sh.iremE (z := 16) d1_18 (by decide) (by decide) ?_
  refine Sh.istore d1_19 (Sh.s1_5 rfl rfl) ?_
  refine Sh.aload_n d1_21 rfl rfl ?_
  refine Sh.iload d1_22 rfl ?_
  refine Sh.laload (jn := 4) d1_24 (hL _) (by decide) rfl rfl ?_
  refine Sh.iload d1_25 rfl ?_
  refine Sh.lushr d1_27 ?_
  refine Sh.lstore d1_28 (Sh.s2_6 rfl rfl rfl) ?_
  refine Sh.iload d1_30 rfl ?_
  refine Sh.bipush d1_32 (x := 44) rfl ?_
  refine Sh.icmpT d1_34 (pc' := 54) rfl (by decide) (by decide) ?_
  refine Sh.aload_n d1_54 rfl rfl ?_
  refine Sh.iload_n d1_55 rfl ?_
  refine Sh.bipush d1_56 (x := 32) rfl ?_
  refine Sh.iaddE d1_58 (Sh.onAdd _ 32) ?_
  refine Sh.iconst d1_59 (x := 1) rfl ?_
  refine Sh.isubE d1_60 (Sh.onSub (b := 1) (by omega) (by omega)) ?_
  refine Sh.iload_n d1_61 rfl ?_
  refine Sh.bipush d1_62 (x := 8) rfl ?_
  refine Sh.idivE (z := 28) d1_64 (by decide) (by decide) ?_
  refine Sh.isubE d1_65 (Sh.onSub (b := 28) (by omega) (by omega)) ?_
  refine Sh.lload d1_66 rfl ?_
  refine Sh.l2i d1_68 ?_
  refine Sh.i2b d1_69 ?_
  refine Sh.bastore d1_70 rfl (Sh.onNN (by omega)) (Sh.onCl (by omega)) (by first | omega | (rw [own_wlen]; omega)) (Sh.i8_idem _) (vs' := own_ws vs p (own_f l0 l1 l2 l3 l4) 29) rfl (Sh.ls_0) ?_
  refine Sh.iinc d1_71 rfl (ci := 8) (y := 232) rfl (by decide) (Sh.s1_3 rfl rfl) ?_
  refine Sh.goto d1_74 (pc' := 2) rfl (by decide) ?_
  refine Sh.iload_n d1_2 rfl ?_
  refine Sh.sipush d1_3 (x := 256) rfl ?_
  refine Sh.icmpF d1_6 (by decide) ?_
  refine Sh.iload_n d1_9 rfl ?_
  refine Sh.bipush d1_10 (x := 52) rfl ?_
  refine Sh.idivE (z := 4) d1_12 (by decide) (by decide) ?_
  refine Sh.istore d1_13 (Sh.s1_4 rfl rfl) ?_
  refine Sh.iload_n d1_15 rfl ?_
  refine Sh.bipush d1_16 (x := 52) rfl ?_
  refine Sh.iremE (z := 24) d1_18 (by decide) (by decide) ?_
  refine Sh.istore d1_19 (Sh.s1_5 rfl rfl) ?_
  refine Sh.aload_n d1_21 rfl rfl ?_
  refine Sh.iload d1_22 rfl ?_
  refine Sh.laload (jn := 4) d1_24 (hL _) (by decide) rfl rfl ?_
  refine Sh.iload d1_25 rfl ?_
  refine Sh.lushr d1_27 ?_
  refine Sh.lstore d1_28 (Sh.s2_6 rfl rfl rfl) ?_
  refine Sh.iload d1_30 rfl ?_
  refine Sh.bipush d1_32 (x := 44) rfl ?_
  refine Sh.icmpT d1_34 (pc' := 54) rfl (by decide) (by decide) ?_
  refine Sh.aload_n d1_54 rfl rfl ?_
  refine Sh.iload_n d1_55 rfl ?_
  refine Sh.bipush d1_56 (x := 32) rfl ?_
  refine Sh.iaddE d1_58 (Sh.onAdd _ 32) ?_
  refine Sh.iconst d1_59 (x := 1) rfl ?_
  refine Sh.isubE d1_60 (Sh.onSub (b := 1) (by omega) (by omega)) ?_
  refine Sh.iload_n d1_61 rfl ?_
  refine Sh.bipush d1_62 (x := 8) rfl ?_
  refine Sh.idivE (z := 29) d1_64 (by decide) (by decide) ?_
  refine Sh.isubE d1_65 (Sh.onSub (b := 29) (by omega) (by omega)) ?_
  refine Sh.lload d1_66 rfl ?_
  refine Sh.l2i d1_68 ?_
  refine Sh.i2b d1_69 ?_
  refine Sh.bastore d1_70 rfl (Sh.onNN (by omega)) (Sh.onCl (by omega)) (by first | omega | (rw [own_wlen]; omega)) (Sh.i8_idem _) (vs' := own_ws vs p (own_f l0 l1 l2 l3 l4) 30) rfl (Sh.ls_0) ?_
  refine Sh.iinc d1_71 rfl (ci := 8) (y := 240) rfl (by decide) (Sh.s1_3 rfl rfl) ?_
  refine Sh.goto d1_74 (pc' := 2) rfl (by decide) ?_
  refine Sh.iload_n d1_2 rfl ?_
  refine Sh.sipush d1_3 (x := 256) rfl ?_
  refine Sh.icmpF d1_6 (by decide) ?_
  refine Sh.iload_n d1_9 rfl ?_
  refine Sh.bipush d1_10 (x := 52) rfl ?_
  refine Sh.idivE (z := 4) d1_12 (by decide) (by decide) ?_
  refine Sh.istore d1_13 (Sh.s1_4 rfl rfl) ?_
  refine Sh.iload_n d1_15 rfl ?_
  refine Sh.bipush d1_16 (x := 52) rfl ?_
  refine Sh.iremE (z := 32) d1_18 (by decide) (by decide) ?_
  refine Sh.istore d1_19 (Sh.s1_5 rfl rfl) ?_
  refine Sh.aload_n d1_21 rfl rfl ?_
  refine Sh.iload d1_22 rfl ?_
  refine Sh.laload (jn := 4) d1_24 (hL _) (by decide) rfl rfl ?_
  refine Sh.iload d1_25 rfl ?_
  refine Sh.lushr d1_27 ?_
  refine Sh.lstore d1_28 (Sh.s2_6 rfl rfl rfl) ?_
  refine Sh.iload d1_30 rfl ?_
  refine Sh.bipush d1_32 (x := 44) rfl ?_
  refine Sh.icmpT d1_34 (pc' := 54) rfl (by decide) (by decide) ?_
  refine Sh.aload_n d1_54 rfl rfl ?_
  refine Sh.iload_n d1_55 rfl ?_
  refine Sh.bipush d1_56 (x := 32) rfl ?_
  refine Sh.iaddE d1_58 (Sh.onAdd _ 32) ?_
  refine Sh.iconst d1_59 (x := 1) rfl ?_
  refine Sh.isubE d1_60 (Sh.onSub (b := 1) (by omega) (by omega)) ?_
  refine Sh.iload_n d1_61 rfl ?_
  refine Sh.bipush d1_62 (x := 8) rfl ?_
  refine Sh.idivE (z := 30) d1_64 (by decide) (by decide) ?_
  refine Sh.isubE d1_65 (Sh.onSub (b := 30) (by omega) (by omega)) ?_
  refine Sh.lload d1_66 rfl ?_
  refine Sh.l2i d1_68 ?_
  refine Sh.i2b d1_69 ?_
  refine Sh.bastore d1_70 rfl (Sh.onNN (by omega)) (Sh.onCl (by omega)) (by first | omega | (rw [own_wlen]; omega)) (Sh.i8_idem _) (vs' := own_ws vs p (own_f l0 l1 l2 l3 l4) 31) rfl (Sh.ls_0) ?_
  refine Sh.iinc d1_71 rfl (ci := 8) (y := 248) rfl (by decide) (Sh.s1_3 rfl rfl) ?_
  refine Sh.goto d1_74 (pc' := 2) rfl (by decide) ?_
  refine Sh.iload_n d1_2 rfl ?_
  refine Sh.sipush d1_3 (x := 256) rfl ?_
  refine Sh.icmpF d1_6 (by decide) ?_
  refine Sh.iload_n d1_9 rfl ?_
  refine Sh.bipush d1_10 (x := 52) rfl ?_
  refine Sh.idivE (z := 4) d1_12 (by decide) (by decide) ?_
  refine Sh.istore d1_13 (Sh.s1_4 rfl rfl) ?_
  refine Sh.iload_n d1_15 rfl ?_
  refine Sh.bipush d1_16 (x := 52) rfl ?_
  refine Sh.iremE (z := 40) d1_18 (by decide) (by decide) ?_
  refine Sh.istore d1_19 (Sh.s1_5 rfl rfl) ?_
  refine Sh.aload_n d1_21 rfl rfl ?_
  refine Sh.iload d1_22 rfl ?_
  refine Sh.laload (jn := 4) d1_24 (hL _) (by decide) rfl rfl ?_
  refine Sh.iload d1_25 rfl ?_
  refine Sh.lushr d1_27 ?_
  refine Sh.lstore d1_28 (Sh.s2_6 rfl rfl rfl) ?_
  refine Sh.iload d1_30 rfl ?_
  refine Sh.bipush d1_32 (x := 44) rfl ?_
  refine Sh.icmpT d1_34 (pc' := 54) rfl (by decide) (by decide) ?_
  refine Sh.aload_n d1_54 rfl rfl ?_
  refine Sh.iload_n d1_55 rfl ?_
  refine Sh.bipush d1_56 (x := 32) rfl ?_
  refine Sh.iaddE d1_58 (Sh.onAdd _ 32) ?_
  refine Sh.iconst d1_59 (x := 1) rfl ?_
  refine Sh.isubE d1_60 (Sh.onSub (b := 1) (by omega) (by omega)) ?_
  refine Sh.iload_n d1_61 rfl ?_
  refine Sh.bipush d1_62 (x := 8) rfl ?_
  refine Sh.idivE (z := 31) d1_64 (by decide) (by decide) ?_
  refine Sh.isubE d1_65 (Sh.onSub (b := 31) (by omega) (by omega)) ?_
  refine Sh.lload d1_66 rfl ?_
  refine Sh.l2i d1_68 ?_
  refine Sh.i2b d1_69 ?_
  refine Sh.bastore d1_70 rfl (Sh.onNN (by omega)) (Sh.onCl (by omega)) (by first | omega | (rw [own_wlen]; omega)) (Sh.i8_idem _) (vs' := own_ws vs p (own_f l0 l1 l2 l3 l4) 32) rfl (Sh.ls_0) ?_
  refine Sh.iinc d1_71 rfl (ci := 8) (y := 256) rfl (by decide) (Sh.s1_3 rfl rfl) ?_
  refine Sh.goto d1_74 (pc' := 2) rfl (by decide) ?_
  refine Sh.iload_n d1_2 rfl ?_
  refine Sh.sipush d1_3 (x := 256) rfl ?_
  refine Sh.icmpT d1_6 (pc' := 77) rfl (by decide) (by decide) ?_
  refine Sh.ret0 d1_77 rfl (Sh.le rfl) (Sh.le rfl) ?_
  exact ⟨rfl, rfl⟩
theorem m2 (hw : HW Z a0) (H : Sh.SH) (vs : List Value) (p : Nat) (hp : p < 100) (hH : H[0]? = some (.inr (.byte, vs))) (g0 g1 g2 g3 g4 g5 g6 g7 : Int32) (h0 : vs[p]? = some (.int g0)) (h1 : vs[p + 1]? = some (.int g1)) (h2 : vs[p + 2]? = some (.int g2)) (h3 : vs[p + 3]? = some (.int g3)) (h4 : vs[p + 4]? = some (.int g4)) (h5 : vs[p + 5]? = some (.int g5)) (h6 : vs[p + 6]? = some (.int g6)) (h7 : vs[p + 7]? = some (.int g7)) :
    Sh.Meth l Z a0 n0 b2 R2 [.ref 0, .int (Int32.ofNat p)] H (fun v H' => v = some (.long (own_word g0 g1 g2 g3 g4 g5 g6 g7)) ∧ H' = H) := by
  refine Sh.Meth.of pn2 (L := [.val (.ref 0), .val (.int (Int32.ofNat p))]) rfl ?_
  refine Sh.aload_n d2_0 rfl rfl ?_
  refine Sh.iload_n d2_1 rfl ?_
  refine Sh.baload d2_2 hH (Sh.onNN (by omega)) (Sh.onCl (by omega)) h0 ?_
  refine Sh.i2l d2_3 ?_
  refine Sh.ldc2L hw (i := 13) rfl d2_4 ?_
  refine Sh.land d2_7 ?_
  refine Sh.bipush d2_8 (x := 56) rfl ?_
  refine Sh.lshl d2_10 ?_
  refine Sh.aload_n d2_11 rfl rfl ?_
  refine Sh.iload_n d2_12 rfl ?_
  refine Sh.iconst d2_13 (x := 1) rfl ?_
  refine Sh.iaddE d2_14 (Sh.onAdd _ 1) ?_
  refine Sh.baload d2_15 hH (Sh.onNN (by omega)) (Sh.onCl (by omega)) h1 ?_
  refine Sh.i2l d2_16 ?_
  refine Sh.ldc2L hw (i := 13) rfl d2_17 ?_
  refine Sh.land d2_20 ?_
  refine Sh.bipush d2_21 (x := 48) rfl ?_
  refine Sh.lshl d2_23 ?_
  refine Sh.lor d2_24 ?_
  refine Sh.aload_n d2_25 rfl rfl ?_
  refine Sh.iload_n d2_26 rfl ?_
  refine Sh.iconst d2_27 (x := 2) rfl ?_
  refine Sh.iaddE d2_28 (Sh.onAdd _ 2) ?_
  refine Sh.baload d2_29 hH (Sh.onNN (by omega)) (Sh.onCl (by omega)) h2 ?_
  refine Sh.i2l d2_30 ?_
  refine Sh.ldc2L hw (i := 13) rfl d2_31 ?_
  refine Sh.land d2_34 ?_
  refine Sh.bipush d2_35 (x := 40) rfl ?_
  refine Sh.lshl d2_37 ?_
  refine Sh.lor d2_38 ?_
  refine Sh.aload_n d2_39 rfl rfl ?_
  refine Sh.iload_n d2_40 rfl ?_
  refine Sh.iconst d2_41 (x := 3) rfl ?_
  refine Sh.iaddE d2_42 (Sh.onAdd _ 3) ?_
  refine Sh.baload d2_43 hH (Sh.onNN (by omega)) (Sh.onCl (by omega)) h3 ?_
  refine Sh.i2l d2_44 ?_
  refine Sh.ldc2L hw (i := 13) rfl d2_45 ?_
  refine Sh.land d2_48 ?_
  refine Sh.bipush d2_49 (x := 32) rfl ?_
  refine Sh.lshl d2_51 ?_
  refine Sh.lor d2_52 ?_
  refine Sh.aload_n d2_53 rfl rfl ?_
  refine Sh.iload_n d2_54 rfl ?_
  refine Sh.iconst d2_55 (x := 4) rfl ?_
  refine Sh.iaddE d2_56 (Sh.onAdd _ 4) ?_
  refine Sh.baload d2_57 hH (Sh.onNN (by omega)) (Sh.onCl (by omega)) h4 ?_
  refine Sh.i2l d2_58 ?_
  refine Sh.ldc2L hw (i := 13) rfl d2_59 ?_
  refine Sh.land d2_62 ?_
  refine Sh.bipush d2_63 (x := 24) rfl ?_
  refine Sh.lshl d2_65 ?_
  refine Sh.lor d2_66 ?_
  refine Sh.aload_n d2_67 rfl rfl ?_
  refine Sh.iload_n d2_68 rfl ?_
  refine Sh.iconst d2_69 (x := 5) rfl ?_
  refine Sh.iaddE d2_70 (Sh.onAdd _ 5) ?_
  refine Sh.baload d2_71 hH (Sh.onNN (by omega)) (Sh.onCl (by omega)) h5 ?_
  refine Sh.i2l d2_72 ?_
  refine Sh.ldc2L hw (i := 13) rfl d2_73 ?_
  refine Sh.land d2_76 ?_
  refine Sh.bipush d2_77 (x := 16) rfl ?_
  refine Sh.lshl d2_79 ?_
  refine Sh.lor d2_80 ?_
  refine Sh.aload_n d2_81 rfl rfl ?_
  refine Sh.iload_n d2_82 rfl ?_
  refine Sh.bipush d2_83 (x := 6) rfl ?_
  refine Sh.iaddE d2_85 (Sh.onAdd _ 6) ?_
  refine Sh.baload d2_86 hH (Sh.onNN (by omega)) (Sh.onCl (by omega)) h6 ?_
  refine Sh.i2l d2_87 ?_
  refine Sh.ldc2L hw (i := 13) rfl d2_88 ?_
  refine Sh.land d2_91 ?_
  refine Sh.bipush d2_92 (x := 8) rfl ?_
  refine Sh.lshl d2_94 ?_
  refine Sh.lor d2_95 ?_
  refine Sh.aload_n d2_96 rfl rfl ?_
  refine Sh.iload_n d2_97 rfl ?_
  refine Sh.bipush d2_98 (x := 7) rfl ?_
  refine Sh.iaddE d2_100 (Sh.onAdd _ 7) ?_
  refine Sh.baload d2_101 hH (Sh.onNN (by omega)) (Sh.onCl (by omega)) h7 ?_
  refine Sh.i2l d2_102 ?_
  refine Sh.ldc2L hw (i := 13) rfl d2_103 ?_
  refine Sh.land d2_106 ?_
  refine Sh.lor d2_107 ?_
  refine Sh.retL d2_108 rfl (Sh.le rfl) (Sh.le rfl) ?_
  exact ⟨rfl, rfl⟩
theorem law_ok (hw : HW Z a0) (c0 c1 c2 c3 c4 : Int64) (pp : Int32) : Sh.Meth l Z a0 n0 b0 room_1 [.long c0, .long c1, .long c2, .long c3, .long c4, .int pp] [] (fun v _ => v = some (.int 1)) := by
  refine Sh.Meth.of pn0 (L := [.val (.long c0), .second, .val (.long c1), .second, .val (.long c2), .second, .val (.long c3), .second, .val (.long c4), .second, .val (.int pp), .unset, .unset, .unset, .unset, .unset, .unset, .unset, .unset, .unset, .unset, .unset, .unset, .unset, .unset, .unset, .unset, .unset, .unset, .unset, .unset, .unset, .unset, .unset, .unset, .unset, .unset]) rfl ?_
  obtain ⟨r, hr, er⟩ := Sh.maskNat pp 3 2 (by decide) (by decide)
  have hr4 : r < 4 := hr
  clear hr
  refine Sh.ldc2L hw (i := 0) rfl at_0 ?_
  refine Sh.lstore at_3 (Sh.s2_11 rfl rfl rfl) ?_
  refine Sh.ldc2L hw (i := 1) rfl at_5 ?_
  refine Sh.lstore at_8 (Sh.s2_13 rfl rfl rfl) ?_
  refine Sh.lload_n at_10 rfl ?_
  refine Sh.lload at_11 rfl ?_
  refine Sh.land at_13 ?_
  refine Sh.lstore at_14 (Sh.s2_15 rfl rfl rfl) ?_
  refine Sh.lload_n at_16 rfl ?_
  refine Sh.lload at_17 rfl ?_
  refine Sh.land at_19 ?_
  refine Sh.lstore at_20 (Sh.s2_17 rfl rfl rfl) ?_
  refine Sh.lload at_22 rfl ?_
  refine Sh.lload at_24 rfl ?_
  refine Sh.land at_26 ?_
  refine Sh.lstore at_27 (Sh.s2_19 rfl rfl rfl) ?_
  refine Sh.lload at_29 rfl ?_
  refine Sh.lload at_31 rfl ?_
  refine Sh.land at_33 ?_
  refine Sh.lstore at_34 (Sh.s2_21 rfl rfl rfl) ?_
  refine Sh.lload at_36 rfl ?_
  refine Sh.lload at_38 rfl ?_
  refine Sh.land at_40 ?_
  refine Sh.lstore at_41 (Sh.s2_23 rfl rfl rfl) ?_
  refine Sh.iconst at_43 (x := 1) rfl ?_
  refine Sh.iload at_44 rfl ?_
  refine Sh.iconst at_46 (x := 3) rfl ?_
  refine Sh.iand at_47 ?_
  rw [er]
  refine Sh.iaddE at_48 (Sh.onAdd 1 _) ?_
  refine Sh.istore at_49 (Sh.s1_25 rfl rfl) ?_
  refine Sh.bipush at_51 (x := 37) rfl ?_
  refine Sh.newarr hw (i := 2) (ty := .byte) (dv := .int 0) (N := 37) (cap := 37) (k' := 1) (n' := 37) (a := 0) rfl rfl at_53 rfl (by decide) rfl (Sh.rp_37) (Sh.le rfl) (by decide) (Sh.le rfl) (Sh.le rfl) rfl rfl rfl (Sh.ap_0) ?_
  refine Sh.astore at_55 rfl (Sh.s1_26 rfl rfl) ?_
  obtain ⟨p, hp⟩ : ∃ p, p = 1 + r := ⟨_, rfl⟩
  rw [← hp]
  generalize hvs : [Value.int 0, Value.int 0, Value.int 0, Value.int 0, Value.int 0, Value.int 0, Value.int 0, Value.int 0, Value.int 0, Value.int 0, Value.int 0, Value.int 0, Value.int 0, Value.int 0, Value.int 0, Value.int 0, Value.int 0, Value.int 0, Value.int 0, Value.int 0, Value.int 0, Value.int 0, Value.int 0, Value.int 0, Value.int 0, Value.int 0, Value.int 0, Value.int 0, Value.int 0, Value.int 0, Value.int 0, Value.int 0, Value.int 0, Value.int 0, Value.int 0, Value.int 0, Value.int 0] = vs
  have hl : vs.length = 37 := by rw [← hvs]; rfl
  refine Sh.aload at_57 rfl rfl ?_
  refine Sh.iload at_59 rfl ?_
  refine Sh.iconst at_61 (x := 1) rfl ?_
  refine Sh.isubE at_62 (Sh.onSub (b := 1) (by omega) (by omega)) ?_
  refine Sh.bipush at_63 (x := 90) rfl ?_
  refine Sh.bastore at_65 rfl (Sh.onNN (by omega)) (Sh.onCl (by omega)) (by omega) (y := 90) (by decide) rfl (Sh.ls_0) ?_
  refine Sh.aload at_66 rfl rfl ?_
  refine Sh.iload at_68 rfl ?_
  refine Sh.bipush at_70 (x := 32) rfl ?_
  refine Sh.iaddE at_72 (Sh.onAdd _ 32) ?_
  refine Sh.bipush at_73 (x := (-91)) rfl ?_
  refine Sh.bastore at_75 rfl (Sh.onNN (by omega)) (Sh.onCl (by omega)) (by rw [List.length_set]; omega) (y := -91) (by decide) rfl (Sh.ls_0) ?_
  refine Sh.iconst at_76 (x := 5) rfl ?_
  refine Sh.newarr hw (i := 3) (ty := .long) (dv := .long 0) (N := 5) (cap := 5) (k' := 2) (n' := 42) (a := 1) rfl rfl at_77 rfl (by decide) rfl (Sh.rp_5) (Sh.le rfl) (by decide) (Sh.le rfl) (Sh.le rfl) rfl rfl rfl (Sh.ap_1) ?_
  refine Sh.dup at_79 rfl ?_
  refine Sh.iconst at_80 (x := 0) rfl ?_
  refine Sh.lload at_81 rfl ?_
  refine Sh.ldc2L hw (i := 4) rfl at_83 ?_
  refine Sh.lxor at_86 ?_
  refine Sh.lload at_87 rfl ?_
  refine Sh.land at_89 ?_
  refine Sh.lastore (jn := 0) at_90 rfl (by decide) rfl (Sh.le rfl) (Sh.ls_0) (Sh.ls_1) ?_
  refine Sh.dup at_91 rfl ?_
  refine Sh.iconst at_92 (x := 1) rfl ?_
  refine Sh.lload at_93 rfl ?_
  refine Sh.ldc2L hw (i := 4) rfl at_95 ?_
  refine Sh.lxor at_98 ?_
  refine Sh.lload at_99 rfl ?_
  refine Sh.land at_101 ?_
  refine Sh.lastore (jn := 1) at_102 rfl (by decide) rfl (Sh.le rfl) (Sh.ls_1) (Sh.ls_1) ?_
  refine Sh.dup at_103 rfl ?_
  refine Sh.iconst at_104 (x := 2) rfl ?_
  refine Sh.lload at_105 rfl ?_
  refine Sh.ldc2L hw (i := 4) rfl at_107 ?_
  refine Sh.lxor at_110 ?_
  refine Sh.lload at_111 rfl ?_
  refine Sh.land at_113 ?_
  refine Sh.lastore (jn := 2) at_114 rfl (by decide) rfl (Sh.le rfl) (Sh.ls_2) (Sh.ls_1) ?_
  refine Sh.dup at_115 rfl ?_
  refine Sh.iconst at_116 (x := 3) rfl ?_
  refine Sh.lload at_117 rfl ?_
  refine Sh.ldc2L hw (i := 4) rfl at_119 ?_
  refine Sh.lxor at_122 ?_
  refine Sh.lload at_123 rfl ?_
  refine Sh.land at_125 ?_
  refine Sh.lastore (jn := 3) at_126 rfl (by decide) rfl (Sh.le rfl) (Sh.ls_3) (Sh.ls_1) ?_
  refine Sh.dup at_127 rfl ?_
  refine Sh.iconst at_128 (x := 4) rfl ?_
  refine Sh.lload at_129 rfl ?_
  refine Sh.ldc2L hw (i := 4) rfl at_131 ?_
  refine Sh.lxor at_134 ?_
  refine Sh.lload at_135 rfl ?_
  refine Sh.land at_137 ?_
  refine Sh.lastore (jn := 4) at_138 rfl (by decide) rfl (Sh.le rfl) (Sh.ls_4) (Sh.ls_1) ?_
  refine Sh.astore at_139 rfl (Sh.s1_27 rfl rfl) ?_
  refine Sh.iconst at_141 (x := 5) rfl ?_
  refine Sh.newarr hw (i := 3) (ty := .long) (dv := .long 0) (N := 5) (cap := 5) (k' := 3) (n' := 47) (a := 2) rfl rfl at_142 rfl (by decide) rfl (Sh.rp_5) (Sh.le rfl) (by decide) (Sh.le rfl) (Sh.le rfl) rfl rfl rfl (Sh.ap_2) ?_
  refine Sh.dup at_144 rfl ?_
  refine Sh.iconst at_145 (x := 0) rfl ?_
  refine Sh.lload at_146 rfl ?_
  refine Sh.lastore (jn := 0) at_148 rfl (by decide) rfl (Sh.le rfl) (Sh.ls_0) (Sh.ls_2) ?_
  refine Sh.dup at_149 rfl ?_
  refine Sh.iconst at_150 (x := 1) rfl ?_
  refine Sh.lload at_151 rfl ?_
  refine Sh.lastore (jn := 1) at_153 rfl (by decide) rfl (Sh.le rfl) (Sh.ls_1) (Sh.ls_2) ?_
  refine Sh.dup at_154 rfl ?_
  refine Sh.iconst at_155 (x := 2) rfl ?_
  refine Sh.lload at_156 rfl ?_
  refine Sh.lastore (jn := 2) at_158 rfl (by decide) rfl (Sh.le rfl) (Sh.ls_2) (Sh.ls_2) ?_
  refine Sh.dup at_159 rfl ?_
  refine Sh.iconst at_160 (x := 3) rfl ?_
  refine Sh.lload at_161 rfl ?_
  refine Sh.lastore (jn := 3) at_163 rfl (by decide) rfl (Sh.le rfl) (Sh.ls_3) (Sh.ls_2) ?_
  refine Sh.dup at_164 rfl ?_
  refine Sh.iconst at_165 (x := 4) rfl ?_
  refine Sh.lload at_166 rfl ?_
  refine Sh.lastore (jn := 4) at_168 rfl (by decide) rfl (Sh.le rfl) (Sh.ls_4) (Sh.ls_2) ?_
  refine Sh.astore at_169 rfl (Sh.s1_28 rfl rfl) ?_
  have hl1 : ((vs.set (p - 1) (.int 90)).set (p + 32) (.int (-91))).length = 37 := by rw [List.length_set, List.length_set, hl]
  have g1 : ((vs.set (p - 1) (.int 90)).set (p + 32) (.int (-91)))[p - 1]? = some (.int 90) := by rw [List.getElem?_set_ne (by omega), List.getElem?_set_self (by omega)]
  have g2 : ((vs.set (p - 1) (.int 90)).set (p + 32) (.int (-91)))[p + 32]? = some (.int (-91)) := by rw [List.getElem?_set_self (by rw [List.length_set]; omega)]
  generalize (vs.set (p - 1) (.int 90)).set (p + 32) (.int (-91)) = us at hl1 g1 g2 ⊢
  refine Sh.aload at_171 rfl rfl ?_
  refine Sh.aload at_173 rfl rfl ?_
  refine Sh.iload at_175 rfl ?_
  refine Sh.callS hw (i1 := 5) (i2 := 6) (i3 := 7) (i4 := 8) (k' := 3) (n' := 47) (B' := b1) (R' := R1) rfl rfl rfl rfl (by decide) (m1 l Z a0 n0 hw _ _ 1 _ _ _ _ _ us p (fun _ => rfl) (by omega) (by omega)) at_177 rfl rfl pd1 rfl (Sh.le rfl) (Sh.le rfl) (Sh.le rfl) (Sh.le rfl) rfl rfl ?_
  rintro _ _ ⟨rfl, rfl⟩
  refine Sh.aload at_180 rfl rfl ?_
  refine Sh.aload at_182 rfl rfl ?_
  refine Sh.iload at_184 rfl ?_
  refine Sh.callS hw (i1 := 5) (i2 := 6) (i3 := 7) (i4 := 8) (k' := 3) (n' := 47) (B' := b1) (R' := R1) rfl rfl rfl rfl (by decide) (m1 l Z a0 n0 hw _ _ 2 _ _ _ _ _ _ p (fun _ => rfl) (by rw [own_wlen]; omega) (by rw [own_wlen]; omega)) at_186 rfl rfl pd1 rfl (Sh.le rfl) (Sh.le rfl) (Sh.le rfl) (Sh.le rfl) rfl rfl ?_
  rintro _ _ ⟨rfl, rfl⟩
  refine Sh.lload at_189 rfl ?_
  refine Sh.lload at_191 rfl ?_
  refine Sh.bipush at_193 (x := 52) rfl ?_
  refine Sh.lshl at_195 ?_
  refine Sh.lor at_196 ?_
  refine Sh.lstore at_197 (Sh.s2_29 rfl rfl rfl) ?_
  refine Sh.lload at_199 rfl ?_
  refine Sh.bipush at_201 (x := 12) rfl ?_
  refine Sh.lushr at_203 ?_
  refine Sh.lload at_204 rfl ?_
  refine Sh.bipush at_206 (x := 40) rfl ?_
  refine Sh.lshl at_208 ?_
  refine Sh.lor at_209 ?_
  refine Sh.lstore at_210 (Sh.s2_31 rfl rfl rfl) ?_
  refine Sh.lload at_212 rfl ?_
  refine Sh.bipush at_214 (x := 24) rfl ?_
  refine Sh.lushr at_216 ?_
  refine Sh.lload at_217 rfl ?_
  refine Sh.bipush at_219 (x := 28) rfl ?_
  refine Sh.lshl at_221 ?_
  refine Sh.lor at_222 ?_
  refine Sh.lstore at_223 (Sh.s2_33 rfl rfl rfl) ?_
  refine Sh.lload at_225 rfl ?_
  refine Sh.bipush at_227 (x := 36) rfl ?_
  refine Sh.lushr at_229 ?_
  refine Sh.lload at_230 rfl ?_
  refine Sh.bipush at_232 (x := 16) rfl ?_
  refine Sh.lshl at_234 ?_
  refine Sh.lor at_235 ?_
  refine Sh.lstore at_236 (Sh.s2_35 rfl rfl rfl) ?_
  have k1 := own_wlen us p (own_f (((c0 &&& 4503599627370495) ^^^ -1) &&& 4503599627370495) (((c1 &&& 4503599627370495) ^^^ -1) &&& 4503599627370495) (((c2 &&& 4503599627370495) ^^^ -1) &&& 4503599627370495) (((c3 &&& 4503599627370495) ^^^ -1) &&& 4503599627370495) (((c4 &&& 281474976710655) ^^^ -1) &&& 281474976710655)) 32
  have k2 := fun j hj => own_wout us p (own_f (((c0 &&& 4503599627370495) ^^^ -1) &&& 4503599627370495) (((c1 &&& 4503599627370495) ^^^ -1) &&& 4503599627370495) (((c2 &&& 4503599627370495) ^^^ -1) &&& 4503599627370495) (((c3 &&& 4503599627370495) ^^^ -1) &&& 4503599627370495) (((c4 &&& 281474976710655) ^^^ -1) &&& 281474976710655)) 32 j (by omega) hj
  generalize own_ws us p (own_f (((c0 &&& 4503599627370495) ^^^ -1) &&& 4503599627370495) (((c1 &&& 4503599627370495) ^^^ -1) &&& 4503599627370495) (((c2 &&& 4503599627370495) ^^^ -1) &&& 4503599627370495) (((c3 &&& 4503599627370495) ^^^ -1) &&& 4503599627370495) (((c4 &&& 281474976710655) ^^^ -1) &&& 281474976710655)) 32 = ts at k1 k2 ⊢
  have k3 := fun j hj => own_win ts p (own_f (c0 &&& 4503599627370495) (c1 &&& 4503599627370495) (c2 &&& 4503599627370495) (c3 &&& 4503599627370495) (c4 &&& 281474976710655)) (by omega) 32 (by omega) j hj
  have k4 := fun j hj => own_wout ts p (own_f (c0 &&& 4503599627370495) (c1 &&& 4503599627370495) (c2 &&& 4503599627370495) (c3 &&& 4503599627370495) (c4 &&& 281474976710655)) 32 j (by omega) hj
  generalize own_ws ts p (own_f (c0 &&& 4503599627370495) (c1 &&& 4503599627370495) (c2 &&& 4503599627370495) (c3 &&& 4503599627370495) (c4 &&& 281474976710655)) 32 = rs at k3 k4 ⊢
  have r0_0 : rs[p]? = some (.int (own_f (c0 &&& 4503599627370495) (c1 &&& 4503599627370495) (c2 &&& 4503599627370495) (c3 &&& 4503599627370495) (c4 &&& 281474976710655) 31)) := by rw [← k3 31 (by decide)]; congr 1
  have r0_1 : rs[p + 1]? = some (.int (own_f (c0 &&& 4503599627370495) (c1 &&& 4503599627370495) (c2 &&& 4503599627370495) (c3 &&& 4503599627370495) (c4 &&& 281474976710655) 30)) := by rw [← k3 30 (by decide)]; congr 1
  have r0_2 : rs[p + 2]? = some (.int (own_f (c0 &&& 4503599627370495) (c1 &&& 4503599627370495) (c2 &&& 4503599627370495) (c3 &&& 4503599627370495) (c4 &&& 281474976710655) 29)) := by rw [← k3 29 (by decide)]; congr 1
  have r0_3 : rs[p + 3]? = some (.int (own_f (c0 &&& 4503599627370495) (c1 &&& 4503599627370495) (c2 &&& 4503599627370495) (c3 &&& 4503599627370495) (c4 &&& 281474976710655) 28)) := by rw [← k3 28 (by decide)]; congr 1
  have r0_4 : rs[p + 4]? = some (.int (own_f (c0 &&& 4503599627370495) (c1 &&& 4503599627370495) (c2 &&& 4503599627370495) (c3 &&& 4503599627370495) (c4 &&& 281474976710655) 27)) := by rw [← k3 27 (by decide)]; congr 1
  have r0_5 : rs[p + 5]? = some (.int (own_f (c0 &&& 4503599627370495) (c1 &&& 4503599627370495) (c2 &&& 4503599627370495) (c3 &&& 4503599627370495) (c4 &&& 281474976710655) 26)) := by rw [← k3 26 (by decide)]; congr 1
  have r0_6 : rs[p + 6]? = some (.int (own_f (c0 &&& 4503599627370495) (c1 &&& 4503599627370495) (c2 &&& 4503599627370495) (c3 &&& 4503599627370495) (c4 &&& 281474976710655) 25)) := by rw [← k3 25 (by decide)]; congr 1
  have r0_7 : rs[p + 7]? = some (.int (own_f (c0 &&& 4503599627370495) (c1 &&& 4503599627370495) (c2 &&& 4503599627370495) (c3 &&& 4503599627370495) (c4 &&& 281474976710655) 24)) := by rw [← k3 24 (by decide)]; congr 1
  have r1_0 : rs[p + 8]? = some (.int (own_f (c0 &&& 4503599627370495) (c1 &&& 4503599627370495) (c2 &&& 4503599627370495) (c3 &&& 4503599627370495) (c4 &&& 281474976710655) 23)) := by rw [← k3 23 (by decide)]; congr 1
  have r1_1 : rs[p + 8 + 1]? = some (.int (own_f (c0 &&& 4503599627370495) (c1 &&& 4503599627370495) (c2 &&& 4503599627370495) (c3 &&& 4503599627370495) (c4 &&& 281474976710655) 22)) := by rw [← k3 22 (by decide)]; congr 1
  have r1_2 : rs[p + 8 + 2]? = some (.int (own_f (c0 &&& 4503599627370495) (c1 &&& 4503599627370495) (c2 &&& 4503599627370495) (c3 &&& 4503599627370495) (c4 &&& 281474976710655) 21)) := by rw [← k3 21 (by decide)]; congr 1
  have r1_3 : rs[p + 8 + 3]? = some (.int (own_f (c0 &&& 4503599627370495) (c1 &&& 4503599627370495) (c2 &&& 4503599627370495) (c3 &&& 4503599627370495) (c4 &&& 281474976710655) 20)) := by rw [← k3 20 (by decide)]; congr 1
  have r1_4 : rs[p + 8 + 4]? = some (.int (own_f (c0 &&& 4503599627370495) (c1 &&& 4503599627370495) (c2 &&& 4503599627370495) (c3 &&& 4503599627370495) (c4 &&& 281474976710655) 19)) := by rw [← k3 19 (by decide)]; congr 1
  have r1_5 : rs[p + 8 + 5]? = some (.int (own_f (c0 &&& 4503599627370495) (c1 &&& 4503599627370495) (c2 &&& 4503599627370495) (c3 &&& 4503599627370495) (c4 &&& 281474976710655) 18)) := by rw [← k3 18 (by decide)]; congr 1
  have r1_6 : rs[p + 8 + 6]? = some (.int (own_f (c0 &&& 4503599627370495) (c1 &&& 4503599627370495) (c2 &&& 4503599627370495) (c3 &&& 4503599627370495) (c4 &&& 281474976710655) 17)) := by rw [← k3 17 (by decide)]; congr 1
  have r1_7 : rs[p + 8 + 7]? = some (.int (own_f (c0 &&& 4503599627370495) (c1 &&& 4503599627370495) (c2 &&& 4503599627370495) (c3 &&& 4503599627370495) (c4 &&& 281474976710655) 16)) := by rw [← k3 16 (by decide)]; congr 1
  have r2_0 : rs[p + 16]? = some (.int (own_f (c0 &&& 4503599627370495) (c1 &&& 4503599627370495) (c2 &&& 4503599627370495) (c3 &&& 4503599627370495) (c4 &&& 281474976710655) 15)) := by rw [← k3 15 (by decide)]; congr 1
  have r2_1 : rs[p + 16 + 1]? = some (.int (own_f (c0 &&& 4503599627370495) (c1 &&& 4503599627370495) (c2 &&& 4503599627370495) (c3 &&& 4503599627370495) (c4 &&& 281474976710655) 14)) := by rw [← k3 14 (by decide)]; congr 1
  have r2_2 : rs[p + 16 + 2]? = some (.int (own_f (c0 &&& 4503599627370495) (c1 &&& 4503599627370495) (c2 &&& 4503599627370495) (c3 &&& 4503599627370495) (c4 &&& 281474976710655) 13)) := by rw [← k3 13 (by decide)]; congr 1
  have r2_3 : rs[p + 16 + 3]? = some (.int (own_f (c0 &&& 4503599627370495) (c1 &&& 4503599627370495) (c2 &&& 4503599627370495) (c3 &&& 4503599627370495) (c4 &&& 281474976710655) 12)) := by rw [← k3 12 (by decide)]; congr 1
  have r2_4 : rs[p + 16 + 4]? = some (.int (own_f (c0 &&& 4503599627370495) (c1 &&& 4503599627370495) (c2 &&& 4503599627370495) (c3 &&& 4503599627370495) (c4 &&& 281474976710655) 11)) := by rw [← k3 11 (by decide)]; congr 1
  have r2_5 : rs[p + 16 + 5]? = some (.int (own_f (c0 &&& 4503599627370495) (c1 &&& 4503599627370495) (c2 &&& 4503599627370495) (c3 &&& 4503599627370495) (c4 &&& 281474976710655) 10)) := by rw [← k3 10 (by decide)]; congr 1
  have r2_6 : rs[p + 16 + 6]? = some (.int (own_f (c0 &&& 4503599627370495) (c1 &&& 4503599627370495) (c2 &&& 4503599627370495) (c3 &&& 4503599627370495) (c4 &&& 281474976710655) 9)) := by rw [← k3 9 (by decide)]; congr 1
  have r2_7 : rs[p + 16 + 7]? = some (.int (own_f (c0 &&& 4503599627370495) (c1 &&& 4503599627370495) (c2 &&& 4503599627370495) (c3 &&& 4503599627370495) (c4 &&& 281474976710655) 8)) := by rw [← k3 8 (by decide)]; congr 1
  have r3_0 : rs[p + 24]? = some (.int (own_f (c0 &&& 4503599627370495) (c1 &&& 4503599627370495) (c2 &&& 4503599627370495) (c3 &&& 4503599627370495) (c4 &&& 281474976710655) 7)) := by rw [← k3 7 (by decide)]; congr 1
  have r3_1 : rs[p + 24 + 1]? = some (.int (own_f (c0 &&& 4503599627370495) (c1 &&& 4503599627370495) (c2 &&& 4503599627370495) (c3 &&& 4503599627370495) (c4 &&& 281474976710655) 6)) := by rw [← k3 6 (by decide)]; congr 1
  have r3_2 : rs[p + 24 + 2]? = some (.int (own_f (c0 &&& 4503599627370495) (c1 &&& 4503599627370495) (c2 &&& 4503599627370495) (c3 &&& 4503599627370495) (c4 &&& 281474976710655) 5)) := by rw [← k3 5 (by decide)]; congr 1
  have r3_3 : rs[p + 24 + 3]? = some (.int (own_f (c0 &&& 4503599627370495) (c1 &&& 4503599627370495) (c2 &&& 4503599627370495) (c3 &&& 4503599627370495) (c4 &&& 281474976710655) 4)) := by rw [← k3 4 (by decide)]; congr 1
  have r3_4 : rs[p + 24 + 4]? = some (.int (own_f (c0 &&& 4503599627370495) (c1 &&& 4503599627370495) (c2 &&& 4503599627370495) (c3 &&& 4503599627370495) (c4 &&& 281474976710655) 3)) := by rw [← k3 3 (by decide)]; congr 1
  have r3_5 : rs[p + 24 + 5]? = some (.int (own_f (c0 &&& 4503599627370495) (c1 &&& 4503599627370495) (c2 &&& 4503599627370495) (c3 &&& 4503599627370495) (c4 &&& 281474976710655) 2)) := by rw [← k3 2 (by decide)]; congr 1
  have r3_6 : rs[p + 24 + 6]? = some (.int (own_f (c0 &&& 4503599627370495) (c1 &&& 4503599627370495) (c2 &&& 4503599627370495) (c3 &&& 4503599627370495) (c4 &&& 281474976710655) 1)) := by rw [← k3 1 (by decide)]; congr 1
  have r3_7 : rs[p + 24 + 7]? = some (.int (own_f (c0 &&& 4503599627370495) (c1 &&& 4503599627370495) (c2 &&& 4503599627370495) (c3 &&& 4503599627370495) (c4 &&& 281474976710655) 0)) := by rw [← k3 0 (by decide)]; congr 1
  refine Sh.aload at_238 rfl rfl ?_
  refine Sh.iload at_240 rfl ?_
  refine Sh.callS hw (i1 := 9) (i2 := 10) (i3 := 11) (i4 := 12) (k' := 3) (n' := 47) (B' := b2) (R' := R2) rfl rfl rfl rfl (by decide) (m2 l Z a0 n0 hw _ rs (p) (by omega) rfl _ _ _ _ _ _ _ _ r0_0 r0_1 r0_2 r0_3 r0_4 r0_5 r0_6 r0_7) at_242 rfl rfl pd2 rfl (Sh.le rfl) (Sh.le rfl) (Sh.le rfl) (Sh.le rfl) rfl rfl ?_
  rintro _ _ ⟨rfl, rfl⟩
  refine Sh.lload at_245 rfl ?_
  refine Sh.lcmpF at_247 at_248 (fun z => z (own_e3 c0 c1 c2 c3 c4)) ?_
  refine Sh.aload at_251 rfl rfl ?_
  refine Sh.iload at_253 rfl ?_
  refine Sh.bipush at_255 (x := 8) rfl ?_
  refine Sh.iaddE at_257 (Sh.onAdd _ 8) ?_
  refine Sh.callS hw (i1 := 9) (i2 := 10) (i3 := 11) (i4 := 12) (k' := 3) (n' := 47) (B' := b2) (R' := R2) rfl rfl rfl rfl (by decide) (m2 l Z a0 n0 hw _ rs (p + 8) (by omega) rfl _ _ _ _ _ _ _ _ r1_0 r1_1 r1_2 r1_3 r1_4 r1_5 r1_6 r1_7) at_258 rfl rfl pd2 rfl (Sh.le rfl) (Sh.le rfl) (Sh.le rfl) (Sh.le rfl) rfl rfl ?_
  rintro _ _ ⟨rfl, rfl⟩
  refine Sh.lload at_261 rfl ?_
  refine Sh.lcmpF at_263 at_264 (fun z => z (own_e2 c0 c1 c2 c3 c4)) ?_
  refine Sh.aload at_267 rfl rfl ?_
  refine Sh.iload at_269 rfl ?_
  refine Sh.bipush at_271 (x := 16) rfl ?_
  refine Sh.iaddE at_273 (Sh.onAdd _ 16) ?_
  refine Sh.callS hw (i1 := 9) (i2 := 10) (i3 := 11) (i4 := 12) (k' := 3) (n' := 47) (B' := b2) (R' := R2) rfl rfl rfl rfl (by decide) (m2 l Z a0 n0 hw _ rs (p + 16) (by omega) rfl _ _ _ _ _ _ _ _ r2_0 r2_1 r2_2 r2_3 r2_4 r2_5 r2_6 r2_7) at_274 rfl rfl pd2 rfl (Sh.le rfl) (Sh.le rfl) (Sh.le rfl) (Sh.le rfl) rfl rfl ?_
  rintro _ _ ⟨rfl, rfl⟩
  refine Sh.lload at_277 rfl ?_
  refine Sh.lcmpF at_279 at_280 (fun z => z (own_e1 c0 c1 c2 c3 c4)) ?_
  refine Sh.aload at_283 rfl rfl ?_
  refine Sh.iload at_285 rfl ?_
  refine Sh.bipush at_287 (x := 24) rfl ?_
  refine Sh.iaddE at_289 (Sh.onAdd _ 24) ?_
  refine Sh.callS hw (i1 := 9) (i2 := 10) (i3 := 11) (i4 := 12) (k' := 3) (n' := 47) (B' := b2) (R' := R2) rfl rfl rfl rfl (by decide) (m2 l Z a0 n0 hw _ rs (p + 24) (by omega) rfl _ _ _ _ _ _ _ _ r3_0 r3_1 r3_2 r3_3 r3_4 r3_5 r3_6 r3_7) at_290 rfl rfl pd2 rfl (Sh.le rfl) (Sh.le rfl) (Sh.le rfl) (Sh.le rfl) rfl rfl ?_
  rintro _ _ ⟨rfl, rfl⟩
  refine Sh.lload at_293 rfl ?_
  refine Sh.lcmpF at_295 at_296 (fun z => z (own_e0 c0 c1 c2 c3 c4)) ?_
  refine Sh.aload at_299 rfl rfl ?_
  refine Sh.iload at_301 rfl ?_
  refine Sh.iconst at_303 (x := 1) rfl ?_
  refine Sh.isubE at_304 (Sh.onSub (b := 1) (by omega) (by omega)) ?_
  refine Sh.baload at_305 rfl (Sh.onNN (by omega)) (Sh.onCl (by omega)) (by rw [k4 _ (by omega), k2 _ (by omega)]; exact g1) ?_
  refine Sh.bipush at_306 (x := 90) rfl ?_
  refine Sh.icmpF at_308 (by decide) ?_
  refine Sh.aload at_311 rfl rfl ?_
  refine Sh.iload at_313 rfl ?_
  refine Sh.bipush at_315 (x := 32) rfl ?_
  refine Sh.iaddE at_317 (Sh.onAdd _ 32) ?_
  refine Sh.baload at_318 rfl (Sh.onNN (by omega)) (Sh.onCl (by omega)) (by rw [k4 _ (by omega), k2 _ (by omega)]; exact g2) ?_
  refine Sh.bipush at_319 (x := (-91)) rfl ?_
  refine Sh.icmpF at_321 (by decide) ?_
  refine Sh.iconst at_324 (x := 1) rfl ?_
  refine Sh.goto at_325 (pc' := 329) rfl (by decide) ?_
  refine Sh.retN at_329 rfl (by simp) rfl (Sh.le rfl) (Sh.le rfl) ?_
  rfl
end
set_option maxRecDepth 65536 in
set_option maxHeartbeats 40000000 in
theorem comes_1 {Post : Tables → Env → Array Value → State → Outcome → State → Prop} (hpost : ∀ tb e args s v u, (limb_1_1.after args s (.returned v) u = true ∧ limb_1_2.after args s (.returned v) u = true ∧ True) → FrameEnd s (.returned v) u (Jvm.fieldLocs frame_1_writes args s ++ Jvm.arrayLocs frame_1_arrays args s ++ Jvm.staticLocs frame_1_statics s) 16 192 → Post tb e args s (.returned v) u) :
    ArmFor flags0 classFile x code maxLocals ret World_1 tables_1 room_1 Calls_1 rest_1 Pre_1 Post := by
  intro l hfl _ _ p e ha hc hk s m args below hf hA hF happ hP
  obtain ⟨hcalls, hrest, hpre⟩ := hP
  obtain ⟨-, -, -, -, -, -, -, hat⟩ := (Spec.applies_iff hf).mp happ
  obtain ⟨hg, hn⟩ := and_e (Cond.before_iff.mp (show (Jvm.Cond.and given_1 narrow_1).before args s = true from hpre))
  obtain ⟨h1, h2⟩ := and_e hg
  obtain ⟨w0, w1, w2, w3, w4, w5, rfl⟩ : ∃ w0 w1 w2 w3 w4 w5 : Value, args = #[w0, w1, w2, w3, w4, w5] := by
    have hs : args.size = 6 := by simpa [Cond.value, given_1] using h1
    obtain ⟨L⟩ := args
    match L, hs with
    | [w0, w1, w2, w3, w4, w5], _ => exact ⟨w0, w1, w2, w3, w4, w5, rfl⟩
  have hw := fun d (hd : d ∈ tables_1) => atoms_spec (ws := Jvm.Cond.code x code maxLocals ret :: tables_1) hat d (List.mem_cons_of_mem _ hd)
  obtain ⟨g0, q0⟩ := and_e h2
  obtain ⟨i0, e0⟩ := isL_v g0
  obtain rfl : w0 = (.long i0) := Option.some.inj e0
  obtain ⟨g1, q1⟩ := and_e q0
  obtain ⟨i1, e1⟩ := isL_v g1
  obtain rfl : w1 = (.long i1) := Option.some.inj e1
  obtain ⟨g2, q2⟩ := and_e q1
  obtain ⟨i2, e2⟩ := isL_v g2
  obtain rfl : w2 = (.long i2) := Option.some.inj e2
  obtain ⟨g3, q3⟩ := and_e q2
  obtain ⟨i3, e3⟩ := isL_v g3
  obtain rfl : w3 = (.long i3) := Option.some.inj e3
  obtain ⟨g4, q4⟩ := and_e q3
  obtain ⟨i4, e4⟩ := isL_v g4
  obtain rfl : w4 = (.long i4) := Option.some.inj e4
  obtain ⟨i5, e5⟩ := is_v q4
  obtain rfl : w5 = (.int i5) := Option.some.inj e5
  have hM := law_ok l s _ s.heap.size hw i0 i1 i2 i3 i4 i5 s.heap tables_1 ⟨by simp, fun i c h => by simp at h⟩ p e ha hc hk s m _ below hf ((Spec.applies_iff_loose hf).mp happ).1 ⟨by simp [Sh.lf], State.Warmed39.refl s, rfl⟩ trivial
  obtain ⟨n, o, h1, h2, h3, _, L, rfl, ⟨v, H, rfl, rfl, hR, N⟩, hq⟩ := hM
  refine ⟨n, _, h1, h2, h3, hpost _ _ _ _ _ _ ⟨Cond.after_iff.mpr rfl, Cond.after_iff.mpr (eq_i res_at (Term.int_eval (1)) rfl), trivial⟩ ⟨hq.1, hq.2.1, (hq.2.2.sift fun y hy => Or.inr (N y hy)).mono (by decide) (by decide)⟩⟩
theorem main_1_1 : Claimed_1_1 := comes_1 fun _ _ _ _ _ _ h hF => ⟨h.1, hF⟩
theorem main_1_2 : Claimed_1_2 := comes_1 fun _ _ _ _ _ _ h hF => ⟨h.2.1, hF⟩
end Jvm.Pilot.@@N@@
namespace Jvm.Pilot.@@N@@
open Jvm Jvm.ClassFile Sem Op Lib Jvm.Free Jvm.Stand Jvm.Pilot.@@N@@.Jvm.D
/-! MADE BY PROGRAM (witnessworld.py) out of the Statement's table words and the real class files: 11 classes; the members and pool entries that the words name. The judged class is class 1, her method 2. -/
namespace start1
open Jvm.ClassFile
def u (s : String) : CpInfo := .utf8 (stringToUtf16 s)
/-- a pool by its gaps: so many unusable entries, then the entry; so many at the end -/
def gap : Nat → List CpInfo → List CpInfo
  | 0, r => r
  | n + 1, r => .unusable :: gap n r
def poolList (es : List (Nat × CpInfo)) (last : Nat) : List CpInfo := es.foldr (fun e r => gap e.1 (e.2 :: r)) (gap last [])
def pool (es : List (Nat × CpInfo)) (last : Nat) : Array CpInfo := ⟨poolList es last⟩
def fileOf (pool : Array CpInfo) (this : Nat) (attrs : Array Attribute := #[]) (ms : Array MethodInfo := #[]) (fl : Nat := 33) (sup : Nat := 0) (ifs : Array Nat := #[]) (fds : Array FieldInfo := #[]) : ClassFile where
  minorVersion := 0
  majorVersion := 65
  constantPool := pool
  accessFlags := fl
  thisClass := this
  superClass := sup
  interfaces := ifs
  fields := fds
  methods := ms
  attributes := attrs
def plain (name : String) (sup : Option ClassId) : Class where
  name := name
  kind := .ordinary
  loader := none
  accessFlags := 33
  super := sup
  interfaces := #[]
  cf := none
  fields := #[]
  methods := #[]
  instanceTypes := #[]
  staticTypes := #[]
  resolved := #[]
  callSites := []
  init := .initialized
  statics := none
  mirror := none

def pool0 : Array CpInfo := pool [(5, u "<init>"), (0, u "()V"), (1, .class_ 10), (1, u "java/lang/Object")] 113

def k0m0 : Method := { name := "<init>", desc := "()V", sig := { parameters := [], returnType := none }, accessFlags := 1, code := none }
/-- java/lang/Object -/
def k0 : Class := { plain "java/lang/Object" none with
  accessFlags := 33
  interfaces := #[]
  cf := some (fileOf pool0 8 #[] #[{ accessFlags := 1, nameIndex := 5, descriptorIndex := 6, attributes := #[] }] 33 0 #[] #[])
  fields := #[]
  methods := #[k0m0]
  instanceTypes := #[]
  staticTypes := #[]
  resolved := Array.replicate 124 none
  statics := none }

def pool1 : Array CpInfo := pool [(2, .class_ 4), (1, u "java/lang/Object"), (0, u "<init>"), (0, u "()V"), (0, .long 255), (1, .long 4503599627370495), (1, .long 281474976710655), (1, .long 18446744073709551615), (1, .methodref 16 17), (0, .class_ 18), (0, .nameAndType 19 20), (0, u "com/example/aktenwerk/aktenwerk/crypto/Montgomery"), (0, u "write"), (0, u "([J[BI)V"), (0, .methodref 22 23), (0, .class_ 24), (0, .nameAndType 25 26), (0, u "com/example/aktenwerk/aktenwerk/crypto/MontgomeryWritePinLaw"), (0, u "word"), (0, u "([BI)J"), (2, u "law"), (0, u "(JJJJJI)Z")] 7

def k1m0 : Method := { name := "<init>", desc := "()V", sig := { parameters := [], returnType := none }, accessFlags := 1, code := none }
def k1c1 : Code := { maxStack := 6, maxLocals := 2, code := method_2_code, exceptionTable := #[], attributes := #[] }
def k1m1 : Method := { name := "word", desc := "([BI)J", sig := { parameters := [(.array .byte), .int], returnType := some .long }, accessFlags := 10, code := some k1c1 }
def k1c2 : Code := { maxStack := 7, maxLocals := 37, code := code, exceptionTable := #[], attributes := #[] }
def k1m2 : Method := { name := "law", desc := "(JJJJJI)Z", sig := { parameters := [.long, .long, .long, .long, .long, .int], returnType := some .boolean }, accessFlags := 9, code := some k1c2 }
/-- com/example/aktenwerk/aktenwerk/crypto/MontgomeryWritePinLaw -/
def k1 : Class := { plain "com/example/aktenwerk/aktenwerk/crypto/MontgomeryWritePinLaw" (some 0) with
  accessFlags := 49
  interfaces := #[]
  cf := some (fileOf pool1 22 #[] #[{ accessFlags := 1, nameIndex := 5, descriptorIndex := 6, attributes := #[] }, { accessFlags := 10, nameIndex := 25, descriptorIndex := 26, attributes := #[] }, { accessFlags := 9, nameIndex := 29, descriptorIndex := 30, attributes := #[] }] 49 2 #[] #[])
  fields := #[]
  methods := #[k1m0, k1m1, k1m2]
  instanceTypes := #[]
  staticTypes := #[]
  resolved := Array.replicate 38 none
  statics := none }

def pool2 : Array CpInfo := pool [(1, .class_ 2), (0, u "com/example/aktenwerk/aktenwerk/crypto/Montgomery"), (1, .class_ 6), (1, u "java/lang/Object"), (34, u "m0"), (0, u "J"), (2, u "m1"), (2, u "m2"), (2, u "m3"), (2, u "m4"), (21, u "negatedInverse"), (8, u "rSquared"), (0, u "[J"), (2, u "one"), (5, u "inverseExponent"), (12, u "write"), (0, u "([J[BI)V"), (40, u "LIMBS"), (0, u "I"), (2, u "BYTES"), (1, u "LIMB_BITS"), (1, u "LIMB_MASK")] 37

def k2c0 : Code := { maxStack := 6, maxLocals := 8, code := prog_16_method_4_code, exceptionTable := #[], attributes := #[] }
def k2m0 : Method := { name := "write", desc := "([J[BI)V", sig := { parameters := [(.array .long), (.array .byte), .int], returnType := none }, accessFlags := 8, code := some k2c0 }
/-- com/example/aktenwerk/aktenwerk/crypto/Montgomery -/
def k2 : Class := { plain "com/example/aktenwerk/aktenwerk/crypto/Montgomery" (some 0) with
  accessFlags := 49
  interfaces := #[]
  cf := some (fileOf pool2 1 #[] #[{ accessFlags := 8, nameIndex := 108, descriptorIndex := 109, attributes := #[] }] 49 4 #[] #[{ accessFlags := 24, nameIndex := 150, descriptorIndex := 151, attributes := #[] }, { accessFlags := 24, nameIndex := 154, descriptorIndex := 151, attributes := #[] }, { accessFlags := 24, nameIndex := 156, descriptorIndex := 151, attributes := #[] }, { accessFlags := 26, nameIndex := 158, descriptorIndex := 42, attributes := #[] }, { accessFlags := 18, nameIndex := 41, descriptorIndex := 42, attributes := #[] }, { accessFlags := 18, nameIndex := 45, descriptorIndex := 42, attributes := #[] }, { accessFlags := 18, nameIndex := 48, descriptorIndex := 42, attributes := #[] }, { accessFlags := 18, nameIndex := 51, descriptorIndex := 42, attributes := #[] }, { accessFlags := 18, nameIndex := 54, descriptorIndex := 42, attributes := #[] }, { accessFlags := 18, nameIndex := 76, descriptorIndex := 42, attributes := #[] }, { accessFlags := 18, nameIndex := 85, descriptorIndex := 86, attributes := #[] }, { accessFlags := 18, nameIndex := 89, descriptorIndex := 86, attributes := #[] }, { accessFlags := 18, nameIndex := 95, descriptorIndex := 86, attributes := #[] }])
  fields := #[{ name := "LIMBS", type := .int, accessFlags := 24, slot := 0, constantValue := 0 }, { name := "BYTES", type := .int, accessFlags := 24, slot := 1, constantValue := 0 }, { name := "LIMB_BITS", type := .int, accessFlags := 24, slot := 2, constantValue := 0 }, { name := "LIMB_MASK", type := .long, accessFlags := 26, slot := 3, constantValue := 0 }, { name := "m0", type := .long, accessFlags := 18, slot := 0, constantValue := 0 }, { name := "m1", type := .long, accessFlags := 18, slot := 1, constantValue := 0 }, { name := "m2", type := .long, accessFlags := 18, slot := 2, constantValue := 0 }, { name := "m3", type := .long, accessFlags := 18, slot := 3, constantValue := 0 }, { name := "m4", type := .long, accessFlags := 18, slot := 4, constantValue := 0 }, { name := "negatedInverse", type := .long, accessFlags := 18, slot := 5, constantValue := 0 }, { name := "rSquared", type := (.array .long), accessFlags := 18, slot := 6, constantValue := 0 }, { name := "one", type := (.array .long), accessFlags := 18, slot := 7, constantValue := 0 }, { name := "inverseExponent", type := (.array .long), accessFlags := 18, slot := 8, constantValue := 0 }]
  methods := #[k2m0]
  instanceTypes := #[.long, .long, .long, .long, .long, .long, (.array .long), (.array .long), (.array .long)]
  staticTypes := #[.int, .int, .int, .long]
  resolved := Array.replicate 196 none
  statics := none }

def pool3 : Array CpInfo := pool [(1, u "java/lang/Cloneable"), (0, .class_ 1), (0, u "java/lang/Object"), (0, .class_ 3)] 3

/-- java/lang/Cloneable -/
def k3 : Class := { plain "java/lang/Cloneable" (some 0) with
  accessFlags := 1537
  interfaces := #[]
  cf := some (fileOf pool3 2 #[] #[] 1537 4 #[] #[])
  fields := #[]
  methods := #[]
  instanceTypes := #[]
  staticTypes := #[]
  resolved := Array.replicate 8 none
  statics := none }

def pool4 : Array CpInfo := pool [(1, u "java/io/Serializable"), (0, .class_ 1), (0, u "java/lang/Object"), (0, .class_ 3)] 3

/-- java/io/Serializable -/
def k4 : Class := { plain "java/io/Serializable" (some 0) with
  accessFlags := 1537
  interfaces := #[]
  cf := some (fileOf pool4 2 #[] #[] 1537 4 #[] #[])
  fields := #[]
  methods := #[]
  instanceTypes := #[]
  staticTypes := #[]
  resolved := Array.replicate 8 none
  statics := none }

/-- the primitive byte -/
def k5 : Class := { plain "byte" none with kind := .primitive 'B', accessFlags := 0x411 }
/-- [B -/
def k6 : Class := { plain "[B" (some 0) with kind := .array 5 .byte, interfaces := #[3, 4], accessFlags := 1041 }

/-- the primitive int -/
def k7 : Class := { plain "int" none with kind := .primitive 'I', accessFlags := 0x411 }
/-- [I -/
def k8 : Class := { plain "[I" (some 0) with kind := .array 7 .int, interfaces := #[3, 4], accessFlags := 1041 }

/-- the primitive long -/
def k9 : Class := { plain "long" none with kind := .primitive 'J', accessFlags := 0x411 }
/-- [J -/
def k10 : Class := { plain "[J" (some 0) with kind := .array 9 .long, interfaces := #[3, 4], accessFlags := 1041 }

def heap : Heap := #[]
def classes : Array Class := #[k0, k1, k2, k3, k4, k5, k6, k7, k8, k9, k10]
def interned : List (Array UInt16 × Addr) := []
def slotsUsed : Nat := 0
def theMethod : MethodId := ⟨1, 2⟩
def args0 : Array Value := #[.long 5, .long 5, .long 5, .long 5, .long 5, .int 5]
def aboutOver (below : List Frame) : State where
  vm := { classes := classes, interned := interned.toArray }
  heap := heap
  slotsUsed := slotsUsed
  threads := #[{ frames := .invoking theMethod args0 :: below }]
def below0 : List Frame := [.native { method := ⟨0, 0⟩, args := #[] }]
def about1 : State := aboutOver below0
def p0 : Program := .bare "" "" ""
def e0 : Env := launch0.env 0 0 0
theorem w_frames : about1.frames = Frame.invoking theMethod args0 :: below0 := rfl
set_option maxRecDepth 65536 in
theorem w_args : argsFit about1.vm theMethod args0 = true := by decide +kernel
set_option maxRecDepth 65536 in
theorem w_heap : heapFits about1 = true := by decide +kernel
set_option maxRecDepth 65536 in
theorem w_runnable : about1.curStatus? = some .runnable := by decide +kernel
set_option maxRecDepth 65536 in
theorem w_alone : about1.alone = true := by decide +kernel
set_option maxRecDepth 65536 in
theorem w_named : about1.methodNamed? x = some theMethod := by decide +kernel
set_option maxRecDepth 65536 in
theorem w_hears : about1.hears theMethod below0 = true := by decide +kernel
set_option maxRecDepth 65536 in
theorem w_ripe : about1.ripe theMethod args0 below0 = true := by decide +kernel
theorem w_running : about1.status = .running := rfl
set_option maxRecDepth 65536 in
theorem w_room : about1.hasRoom e0.platform room_1 = true :=
  launch0.hasRoom_least _ room_1 (by decide +kernel) (by decide +kernel) (by decide +kernel) (by decide +kernel) (by decide +kernel) (by decide +kernel)
theorem allAtoms_all (ts : List Jvm.Cond) (a : Array Jvm.Value) (st : Jvm.State) : (allAtoms ts).before a st = ts.all (fun c => c.before a st) := by
  induction ts with
  | nil => rfl
  | cons c t ih =>
    show (Jvm.Cond.and c (allAtoms t)).before a st = _
    rw [Jvm.Cond.before_and, ih, List.all_cons]
def words1 : List Jvm.Cond := Jvm.Cond.code x code maxLocals ret :: tables_1
/-- a 'code' word, met by the world's own term for the bytes: nothing is compared byte by byte -/
theorem code_word {y : MethodName} {bytes : ByteArray} {mx : Nat} {rt : Option FieldType} {a : Array Value} {s : State} {m : MethodId} {meth : Method} {c : Code} (h1 : s.methodNamed? y = some m) (h2 : s.vm.method? m = some meth) (h3 : meth.code = some c) (h4 : c.code = bytes)
    (h5 : (c.maxLocals == mx && c.exceptionTable.isEmpty && decide (c.maxStack ≤ mostOperands) && decide (meth.sig.returnType = rt) && !meth.locks && decide (parseMethodDescriptor y.desc = some meth.sig)) = true) : (Jvm.Cond.code y bytes mx rt).before a s = true := by
  simp only [Bool.and_eq_true, beq_iff_eq, Bool.not_eq_true', decide_eq_true_eq] at h5
  obtain ⟨⟨⟨⟨⟨g1, g2⟩, g3⟩, g4⟩, g5⟩, g6⟩ := h5
  simp [Cond.before, Cond.holds, Cond.value, h1, h2, h3, h4, g1, g2, g3, g4, g5, g6]
def isCode : Jvm.Cond → Bool
  | .code _ _ _ _ => true
  | _ => false
theorem all_split {L : List Jvm.Cond} {P : Jvm.Cond → Bool} (h1 : L.all (fun c => isCode c || P c) = true) (h2 : ∀ c ∈ L.filter isCode, P c = true) : L.all P = true := by
  refine List.all_eq_true.mpr fun c hc => ?_
  have h := List.all_eq_true.mp h1 c hc
  rcases Bool.eq_false_or_eq_true (isCode c) with hi | hi
  · exact h2 c (List.mem_filter.mpr ⟨hc, hi⟩)
  · simpa [hi] using h
set_option maxRecDepth 65536 in
theorem w_c0 : (Jvm.Cond.code x code maxLocals ret).before args0 about1 = true := code_word (m := ⟨1, 2⟩) (meth := k1m2) (c := k1c2) (by decide +kernel) rfl rfl rfl (by decide +kernel)
set_option maxRecDepth 65536 in
theorem w_c1 : (Jvm.Cond.code ({ cls := "com/example/aktenwerk/aktenwerk/crypto/Montgomery", name := "write", desc := "([J[BI)V" } : Jvm.MethodName) prog_16_method_4_code (8 : Nat) (Option.none : Option Jvm.ClassFile.FieldType)).before args0 about1 = true := code_word (m := ⟨2, 0⟩) (meth := k2m0) (c := k2c0) (by decide +kernel) rfl rfl rfl (by decide +kernel)
set_option maxRecDepth 65536 in
theorem w_c2 : (Jvm.Cond.code ({ cls := "com/example/aktenwerk/aktenwerk/crypto/MontgomeryWritePinLaw", name := "word", desc := "([BI)J" } : Jvm.MethodName) method_2_code (2 : Nat) (Option.some Jvm.ClassFile.FieldType.long)).before args0 about1 = true := code_word (m := ⟨1, 1⟩) (meth := k1m1) (c := k1c1) (by decide +kernel) rfl rfl rfl (by decide +kernel)
def codes1 : List Jvm.Cond := [Jvm.Cond.code x code maxLocals ret, Jvm.Cond.code ({ cls := "com/example/aktenwerk/aktenwerk/crypto/Montgomery", name := "write", desc := "([J[BI)V" } : Jvm.MethodName) prog_16_method_4_code (8 : Nat) (Option.none : Option Jvm.ClassFile.FieldType), Jvm.Cond.code ({ cls := "com/example/aktenwerk/aktenwerk/crypto/MontgomeryWritePinLaw", name := "word", desc := "([BI)J" } : Jvm.MethodName) method_2_code (2 : Nat) (Option.some Jvm.ClassFile.FieldType.long)]
set_option maxRecDepth 65536 in
theorem codes_eq : words1.filter isCode = codes1 := rfl
theorem w_codes : ∀ c ∈ words1.filter isCode, c.before args0 about1 = true := by
  rw [codes_eq]
  intro c hc
  simp only [codes1, List.mem_cons, List.not_mem_nil, or_false] at hc
  rcases hc with rfl | rfl | rfl
  · exact w_c0
  · exact w_c1
  · exact w_c2
set_option maxRecDepth 65536 in
theorem w_t1 : words1.all (fun c => isCode c || c.before args0 about1) = true := by decide +kernel
theorem w_tables : (allAtoms (Jvm.Cond.code x code maxLocals ret :: tables_1)).before args0 about1 = true := by
  rw [allAtoms_all]
  show words1.all (fun c => c.before args0 about1) = true
  refine all_split ?_ w_codes
  rw [w_t1]
set_option maxRecDepth 65536 in
theorem w_case : (Jvm.Cond.and given_1 narrow_1).before args0 about1 = true := by decide +kernel
theorem w_applies : (headSpec (Jvm.Cond.code x code maxLocals ret :: tables_1) room_1).applies x e0.platform about1 = true :=
  (Spec.applies_iff w_frames).mpr ⟨w_running, w_runnable, w_alone, w_named, w_hears, w_ripe, w_room, w_tables⟩
theorem atStart : AtStart classFile x code maxLocals ret World_1 tables_1 room_1 Calls_1 rest_1 Pre_1 launch0 p0 e0 about1 theMethod args0 below0 :=
  ⟨lists_1, trivial, launch0.admits_env _ _ _, launch0.least_env, fairChoices_fair.cas, fairChoices_fair.clock, w_frames, w_args, w_heap, w_applies, trivial, trivial, w_case⟩
end start1
theorem witness_1 : WitnessClaimed_1 := ⟨start1.p0, start1.e0, start1.about1, start1.theMethod, start1.args0, start1.below0, start1.atStart⟩
end Jvm.Pilot.@@N@@
