import JvmDerived
import JvmDerived.Pilot.@@N@@Statement
import JvmDerived.Pilot.@@N@@Code
set_option linter.unusedVariables false
set_option linter.unusedSimpArgs false
namespace Jvm.Sh
open Jvm Jvm.ClassFile Sem Op Lib Jvm.Free Jvm.Stand Jvm.LawKit Jvm.RoadKit Bundle
/-! A shadow of what a law makes. A shadow heap H is the list of the cells made since the start: an object (its class, its fields' names, kinds and values) or an array (its component's kind, its values). A shadow reference i stands for the address n0 + i. -/
abbrev SC := (String × List (String × String × Value)) ⊕ (FieldType × List Value)
abbrev SH := List SC
def lf (n0 : Nat) : Value → Value
  | .ref i => .ref (n0 + i)
  | v => v
def lz (n0 : Nat) : Slot → Slot
  | .val v => .val (lf n0 v)
  | x => x
abbrev LL (n0 : Nat) (L : List Slot) : Array Slot := (L.map (lz n0)).toArray
theorem lf_cat (n0 : Nat) (v : Value) : (lf n0 v).category = v.category := by cases v <;> rfl
theorem lf_isRef (n0 : Nat) (v : Value) : (lf n0 v).isRef = v.isRef := by cases v <;> rfl
theorem LL_get {n0 k : Nat} {L : List Slot} {v : Value} (h : L[k]? = some (.val v)) : (LL n0 L)[k]? = some (.val (lf n0 v)) := by simp [h, lz]
/-- an object's or an array's cell, as the shadow says -/
def CellOk (Z : State) (a0 : Array Value) (n0 : Nat) (h : Heap) (a : Addr) : SC → Prop
  | .inl (C, fs) => Exa Z h a C ∧ (∃ k, (Cond.instantiable C k).before a0 Z = true) ∧ (fs.map (·.1)).Nodup ∧
      ∀ f ∈ fs, Laid Z a0 C C f.1 f.2.1 ∧ (∃ ty, parseFieldDescriptor f.2.1 = some ty) ∧ Fld Z h a C f.1 f.2.1 (lf n0 f.2.2)
  | .inr (ty, vs) => ∃ c : Cell, Arr Z h a c ty ∧ c.slots = (vs.map (lf n0)).toArray ∧ vs.length < 2 ^ 31
def Rep (Z : State) (a0 : Array Value) (n0 : Nat) (h : Heap) (H : SH) : Prop :=
  h.size = n0 + H.length ∧ ∀ i c, H[i]? = some c → CellOk Z a0 n0 h (n0 + i) c
theorem CellOk.ext {Z : State} {a0 : Array Value} {n0 : Nat} {h h' : Heap} {a : Addr} {c : SC} (E : Ext h h') (K : CellOk Z a0 n0 h a c) : CellOk Z a0 n0 h' a c := by
  rcases c with ⟨C, fs⟩ | ⟨ty, vs⟩
  · exact ⟨K.1.ext E, K.2.1, K.2.2.1, fun f hf => ⟨(K.2.2.2 f hf).1, (K.2.2.2 f hf).2.1, (K.2.2.2 f hf).2.2.ext E⟩⟩
  · obtain ⟨c, A, r⟩ := K
    exact ⟨c, A.ext E, r⟩
theorem CellOk.other {Z : State} {a0 : Array Value} {n0 : Nat} {h h' : Heap} {a b : Addr} {sl : Nat} {v : Value} {c : SC} (W : Wr h h' a sl v) (K : CellOk Z a0 n0 h b c) (hne : b ≠ a) : CellOk Z a0 n0 h' b c := by
  rcases c with ⟨C, fs⟩ | ⟨ty, vs⟩
  · exact ⟨K.1.wr W, K.2.1, K.2.2.1, fun f hf => ⟨(K.2.2.2 f hf).1, (K.2.2.2 f hf).2.1, (K.2.2.2 f hf).2.2.other W (Or.inl hne)⟩⟩
  · obtain ⟨c, A, r⟩ := K
    exact ⟨c, A.other W hne, r⟩
theorem Rep.set {Z : State} {a0 : Array Value} {n0 i : Nat} {h h' : Heap} {H : SH} {sl : Nat} {v : Value} {c : SC} (K : Rep Z a0 n0 h H) (W : Wr h h' (n0 + i) sl v) (hi : i < H.length) (hc : CellOk Z a0 n0 h' (n0 + i) c) : Rep Z a0 n0 h' (H.set i c) := by
  refine ⟨by rw [W.size, List.length_set]; exact K.1, fun j d hd => ?_⟩
  by_cases e : j = i
  · subst e
    rw [List.getElem?_set_self hi] at hd
    cases hd
    exact hc
  · rw [List.getElem?_set_ne (Ne.symm e)] at hd
    exact (K.2 j d hd).other W (fun q => e (Nat.add_left_cancel q))
theorem Rep.push {Z : State} {a0 : Array Value} {n0 : Nat} {h h' : Heap} {H : SH} {c : SC} (K : Rep Z a0 n0 h H) (E : Ext h h') (hs : h'.size = h.size + 1) (hc : CellOk Z a0 n0 h' h.size c) : Rep Z a0 n0 h' (H ++ [c]) := by
  refine ⟨by rw [hs, K.1, List.length_append]; simp; omega, fun j d hd => ?_⟩
  rcases Nat.lt_trichotomy j H.length with q | q | q
  · rw [List.getElem?_append_left q] at hd
    exact (K.2 j d hd).ext E
  · subst q
    simp at hd
    subst hd
    rw [← K.1]; exact hc
  · rw [List.getElem?_eq_none (by simp; omega)] at hd
    cases hd
abbrev Bdy := MethodName × ByteArray × Nat × Option FieldType
/-- From this place (pc, locals, stack, shadow heap; k cells and n slots made by this call so far) the method comes to its end and returns v over H' such that Q v H'. -/
def WP (l : Launch) (Z : State) (a0 : Array Value) (n0 : Nat) (B : Bdy) (R : Room) (k n pc : Nat) (L : List Slot) (S : List Value) (H : SH) (Q : Option Value → SH → Prop) : Prop :=
  ∀ (p : Program) (e : Env) (s : State) (m : MethodId) (args : Array Value) (below : List Frame) (meth : Method) (c : Code) (T : State) (locs : List Loc),
    Stand p l e R s m args below meth c T locs k n → p.tables.exec = Jvm.exec → c.code = B.2.1 → c.maxLocals = B.2.2.1 → meth.sig.returnType = B.2.2.2 → meth.locks = false → Z.Warmed39 s.vm →
    s.vm.findClass B.1.cls = some m.cls → meth.name = B.1.name → Fr n0 locs → Rep Z a0 n0 T.heap H →
    ∃ t o, Steps p.tables e below (T.setTop (mkF m pc (LL n0 L) (S.map (lf n0)))) t ∧ t.status = .running ∧ Ended t below o ∧
      ∃ v L', o = .returned (v.map (lf n0)) ∧ (∃ H', Q v H' ∧ Rep Z a0 n0 t.heap H') ∧ Fr n0 L' ∧ FrameEnd s o t L' R.cells R.slots
/-- The method, called with these (shadow) values over this shadow heap, returns v over H' such that Q v H'. -/
def Meth (l : Launch) (Z : State) (a0 : Array Value) (n0 : Nat) (B : Bdy) (R : Room) (as : List Value) (H : SH) (Q : Option Value → SH → Prop) : Prop :=
  ∀ (h0 : Heap) (ws : List Jvm.Cond), Rep Z a0 n0 h0 H →
    MetFree l B.1 (head1 (Jvm.Cond.code B.1 B.2.1 B.2.2.1 B.2.2.2 :: ws) R) (fun a U => a = (as.map (lf n0)).toArray ∧ Z.Warmed39 U.vm ∧ U.heap = h0) (fun _ _ _ _ _ => True)
      (fun _ U o U' => ∃ v L, o = .returned v ∧ (∃ v' H', v = v'.map (lf n0) ∧ Q v' H' ∧ Rep Z a0 n0 U'.heap H' ∧ Fr n0 L) ∧ FrameEnd U o U' L R.cells R.slots)
def entryL (as : List Value) (ml : Nat) : List Slot :=
  as.foldr (fun v r => if v.category = 2 then .val v :: .second :: r else .val v :: r) [] ++ List.replicate (ml - (as.foldr (fun v r => v.category + r) 0)) .unset
section
variable {l : Launch} {Z : State} {a0 : Array Value} {n0 : Nat} {B : Bdy} {R : Room} {k n pc : Nat} {L : List Slot} {S : List Value} {H : SH} {Q : Option Value → SH → Prop}
theorem cat_pos (v : Value) : v.category = 1 ∨ v.category = 2 := by cases v <;> simp [Value.category]
theorem entry_acc (n0 : Nat) (as : List Value) (acc : Array Slot) : (as.map (lf n0)).foldl (fun acc v => if v.category = 2 then (acc.push (Slot.val v)).push Slot.second else acc.push (.val v)) acc =
    acc ++ ((as.foldr (fun v r => if v.category = 2 then Slot.val v :: Slot.second :: r else .val v :: r) []).map (lz n0)).toArray := by
  induction as generalizing acc with
  | nil => simp
  | cons v as ih =>
    simp only [List.map_cons, List.foldl_cons, List.foldr_cons, lf_cat]
    rw [ih]
    by_cases q : v.category = 2
    · simp [q, lz]
    · simp [q, lz]
theorem entry_len (as : List Value) : (as.foldr (fun v r => if v.category = 2 then Slot.val v :: Slot.second :: r else .val v :: r) []).length = as.foldr (fun v r => v.category + r) 0 := by
  induction as with
  | nil => rfl
  | cons v as ih =>
    rcases cat_pos v with q | q <;> simp [q] at ih ⊢ <;> omega
theorem entry_eq (n0 : Nat) (m : MethodId) (as : List Value) (ml : Nat) : entryFrame m (as.map (lf n0)).toArray ml = mkF m 0 (LL n0 (entryL as ml)) [] := by
  have e : argsToLocals (as.map (lf n0)).toArray ml = LL n0 (entryL as ml) := by
    simp only [argsToLocals, LL, entryL, List.foldl_toArray']
    rw [entry_acc]
    apply Array.toList_inj.mp
    simp [entry_len, lz]
  simp [entryFrame, e, mkF]
theorem Meth.of {as : List Value} (hp : plainFor B.1 = true) (hL : entryL as B.2.2.1 = L) (hW : WP l Z a0 n0 B R 0 0 0 L [] H Q) : Meth l Z a0 n0 B R as H Q := by
  intro h0 ws hR
  refine MetFree.of_bodySF hp hisR ?_
  intro p e s m args below meth c s₁ Bd hml0 hP hK
  obtain ⟨rfl, hZ, hh⟩ := hP
  have e0 : s₁.heap = h0 := by rw [← hh, Bd.state]; rfl
  subst hL
  obtain ⟨t, o, h1, h2, h3, v, L', h4, ⟨H', h5, h6⟩, h7, h8⟩ := hW p e s m _ below meth c s₁ [] (Stand.of_body Bd) Bd.exec Bd.bytes hml0 Bd.returns Bd.notSynchronized hZ (findClass_of_methodNamed Bd.named) (name_of_methodNamed Bd.named Bd.method).1 (Fr.nil n0) (by rw [e0]; exact hR)
  exact ⟨t, o, castTop (entry_eq n0 m as _) h1, h2, h3, _, L', h4, ⟨v, H', rfl, h5, h6, h7⟩, h8⟩
theorem WP.mono {Q' : Option Value → SH → Prop} (hW : WP l Z a0 n0 B R k n pc L S H Q) (hq : ∀ v H', Q v H' → Q' v H') : WP l Z a0 n0 B R k n pc L S H Q' := by
  intro p e s m args below meth c T locs X hx hc hml hret hlk hZ hown hnm hF hR
  obtain ⟨t, o, h1, h2, h3, v, L', h4, ⟨H', h5, h6⟩, h7⟩ := hW p e s m args below meth c T locs X hx hc hml hret hlk hZ hown hnm hF hR
  exact ⟨t, o, h1, h2, h3, v, L', h4, ⟨H', hq _ _ h5, h6⟩, h7⟩
theorem Meth.mono {as : List Value} {Q' : Option Value → SH → Prop} (hM : Meth l Z a0 n0 B R as H Q) (hq : ∀ v H', Q v H' → Q' v H') : Meth l Z a0 n0 B R as H Q' := by
  intro h0 ws hR p e ha hc hk s m args below hf happ hP hK
  obtain ⟨n, o, h1, h2, h3, v, L, h4, ⟨v', H', h5, h6, h7⟩, h8⟩ := hM h0 ws hR p e ha hc hk s m args below hf happ hP hK
  exact ⟨n, o, h1, h2, h3, v, L, h4, ⟨v', H', h5, hq _ _ h6, h7⟩, h8⟩
/-- a step that moves nothing but the frame -/
theorem pure {pc' : Nat} {L' : List Slot} {S' : List Value} (hr : WP l Z a0 n0 B R k n pc' L' S' H Q)
    (f : ∀ {p : Program} {e : Env} {below : List Frame} {T target : State} {m : MethodId} {c : Code}, At T m c below → p.tables.exec = Jvm.exec → c.code = B.2.1 →
      Steps p.tables e below (T.setTop (mkF m pc' (LL n0 L') (S'.map (lf n0)))) target → Steps p.tables e below (T.setTop (mkF m pc (LL n0 L) (S.map (lf n0)))) target) : WP l Z a0 n0 B R k n pc L S H Q := by
  intro p e s m args below meth c T locs X hx hc hml hret hlk hZ hown hnm hF hR
  obtain ⟨t, o, h1, h2⟩ := hr p e s m args below meth c T locs X hx hc hml hret hlk hZ hown hnm hF hR
  exact ⟨t, o, f X.here hx hc h1, h2⟩
/-! ### loads, constants -/
theorem aload_n {j : Fin 4} {v : Value} (d : decode B.2.1 pc = .ok (.aload_n j, 1)) (hl : L[j.val]? = some (.val v)) (hv : v.isRef = true) (hr : WP l Z a0 n0 B R k n (pc + 1) L (v :: S) H Q) : WP l Z a0 n0 B R k n pc L S H Q :=
  pure hr fun h hx hc st => XS.aloadN h hx rfl (hb hc d) (LL_get hl) (by rw [lf_isRef]; exact hv) st
theorem aload {j : Nat} {v : Value} (d : decode B.2.1 pc = .ok (.aload j, 2)) (hl : L[j]? = some (.val v)) (hv : v.isRef = true) (hr : WP l Z a0 n0 B R k n (pc + 2) L (v :: S) H Q) : WP l Z a0 n0 B R k n pc L S H Q :=
  pure hr fun h hx hc st => XS.aload h hx rfl (hb hc d) (LL_get hl) (by rw [lf_isRef]; exact hv) st
theorem iload_n {j : Fin 4} {x : Int32} (d : decode B.2.1 pc = .ok (.iload_n j, 1)) (hl : L[j.val]? = some (.val (.int x))) (hr : WP l Z a0 n0 B R k n (pc + 1) L (.int x :: S) H Q) : WP l Z a0 n0 B R k n pc L S H Q :=
  pure hr fun h hx hc st => XS.iloadN h hx rfl (hb hc d) (LL_get (n0 := n0) hl) st
theorem iload {j : Nat} {x : Int32} (d : decode B.2.1 pc = .ok (.iload j, 2)) (hl : L[j]? = some (.val (.int x))) (hr : WP l Z a0 n0 B R k n (pc + 2) L (.int x :: S) H Q) : WP l Z a0 n0 B R k n pc L S H Q :=
  pure hr fun h hx hc st => XS.iload h hx rfl (hb hc d) (LL_get (n0 := n0) hl) st
theorem lload_n {j : Fin 4} {x : Int64} (d : decode B.2.1 pc = .ok (.lload_n j, 1)) (hl : L[j.val]? = some (.val (.long x))) (hr : WP l Z a0 n0 B R k n (pc + 1) L (.long x :: S) H Q) : WP l Z a0 n0 B R k n pc L S H Q :=
  pure hr fun h hx hc st => XT.lloadN h hx rfl (hb hc d) (LL_get (n0 := n0) hl) st
theorem lload {j : Nat} {x : Int64} (d : decode B.2.1 pc = .ok (.lload j, 2)) (hl : L[j]? = some (.val (.long x))) (hr : WP l Z a0 n0 B R k n (pc + 2) L (.long x :: S) H Q) : WP l Z a0 n0 B R k n pc L S H Q :=
  pure hr fun h hx hc st => XT.lload h hx rfl (hb hc d) (LL_get (n0 := n0) hl) st
theorem iconst {i : Int} {x : Int32} (d : decode B.2.1 pc = .ok (.iconst i, 1)) (hx' : Int32.ofInt i = x) (hr : WP l Z a0 n0 B R k n (pc + 1) L (.int x :: S) H Q) : WP l Z a0 n0 B R k n pc L S H Q :=
  pure (hx' ▸ hr) fun h hx hc st => XS.iconst h hx rfl (hb hc d) st
theorem bipush {i : Int} {x : Int32} (d : decode B.2.1 pc = .ok (.bipush i, 2)) (hx' : (Int8.ofInt i).toInt32 = x) (hr : WP l Z a0 n0 B R k n (pc + 2) L (.int x :: S) H Q) : WP l Z a0 n0 B R k n pc L S H Q :=
  pure (hx' ▸ hr) fun h hx hc st => XS.bipush h hx rfl (hb hc d) st
theorem sipush {i : Int} {x : Int32} (d : decode B.2.1 pc = .ok (.sipush i, 3)) (hx' : (Int16.ofInt i).toInt32 = x) (hr : WP l Z a0 n0 B R k n (pc + 3) L (.int x :: S) H Q) : WP l Z a0 n0 B R k n pc L S H Q :=
  pure (hx' ▸ hr) fun h hx hc st => XS.sipush h hx rfl (hb hc d) st
theorem lconst {i : Fin 2} {x : Int64} (d : decode B.2.1 pc = .ok (.lconst i, 1)) (hx' : Int64.ofNat i = x) (hr : WP l Z a0 n0 B R k n (pc + 1) L (.long x :: S) H Q) : WP l Z a0 n0 B R k n pc L S H Q :=
  pure (hx' ▸ hr) fun h hx hc st => XT.lconst h hx rfl (hb hc d) st
theorem aconst_null (d : decode B.2.1 pc = .ok (.aconst_null, 1)) (hr : WP l Z a0 n0 B R k n (pc + 1) L (.null :: S) H Q) : WP l Z a0 n0 B R k n pc L S H Q :=
  pure hr fun h hx hc st => XS.aconstNull h hx rfl (hb hc d) st
theorem ldcI {W : List Jvm.Cond} (hw : ∀ d ∈ W, d.before a0 Z = true) {i idx : Nat} {x : Int32} (w : W[i]? = some (.constant B.1.cls idx x)) (d : decode B.2.1 pc = .ok (.ldc idx, 2)) (hr : WP l Z a0 n0 B R k n (pc + 2) L (.int x :: S) H Q) : WP l Z a0 n0 B R k n pc L S H Q := by
  intro p e s m args below meth c T locs X hx hc hml hret hlk hZ hown hnm hF hR
  obtain ⟨t, o, h1, h2⟩ := hr p e s m args below meth c T locs X hx hc hml hret hlk hZ hown hnm hF hR
  have v1 := hw _ (List.mem_of_getElem? w)
  exact ⟨t, o, X.ldcInt hx hown (mv hZ v1) (g := mkF m pc (LL n0 L) (S.map (lf n0))) rfl (hb hc d) _ h1, h2⟩
theorem ldc2L {W : List Jvm.Cond} (hw : ∀ d ∈ W, d.before a0 Z = true) {i idx : Nat} {x : Int64} (w : W[i]? = some (.constantLong B.1.cls idx x)) (d : decode B.2.1 pc = .ok (.ldc2_w idx, 3)) (hr : WP l Z a0 n0 B R k n (pc + 3) L (.long x :: S) H Q) : WP l Z a0 n0 B R k n pc L S H Q := by
  intro p e s m args below meth c T locs X hx hc hml hret hlk hZ hown hnm hF hR
  obtain ⟨t, o, h1, h2⟩ := hr p e s m args below meth c T locs X hx hc hml hret hlk hZ hown hnm hF hR
  have v1 := hw _ (List.mem_of_getElem? w)
  exact ⟨t, o, X.ldc2Long hx hown (mv hZ v1) (g := mkF m pc (LL n0 L) (S.map (lf n0))) rfl (hb hc d) _ h1, h2⟩

/-! ### stores -/
def okS : Slot → Bool
  | .unset => true
  | .val w => w.category == 1
  | .second => false
def nS : Slot → Bool
  | .second => false
  | _ => true
def n2 : Slot → Bool
  | .val w => w.category == 1
  | _ => true
def stOK (L : List Slot) (k : Nat) (v : Value) (L' : List Slot) : Prop := ∀ n0, storeLocals (LL n0 L) k (lf n0 v) = some (LL n0 L')
theorem LL_at {n0 j : Nat} {o : Slot} (h : L[j]? = some o) : (LL n0 L)[j]? = some (lz n0 o) := by simp [h]
theorem LL_set {n0 j : Nat} {o : Slot} : (LL n0 L).setIfInBounds j (lz n0 o) = LL n0 (L.set j o) := by
  apply Array.toList_inj.mp; simp [List.map_set]
theorem st1 {L' : List Slot} {j : Nat} {o : Slot} {v : Value} (h : L[j]? = some o) (ho : okS o = true) (hv : v.category = 1) (e : L.set j (.val v) = L') : stOK L j v L' := by
  intro n0
  rw [XS.store1 (LL_at h) (by cases o <;> simp_all [okS, lz, lf_cat]) (by rw [lf_cat]; exact hv), ← e, ← LL_set]
  rfl
theorem LL_size {n0 : Nat} : (LL n0 L).size = L.length := by simp
theorem lt_of_at {α : Type} {l : List α} {j : Nat} {o : α} (h : l[j]? = some o) : j < l.length := (List.getElem?_eq_some_iff.mp h).1
theorem setAt_LL {n0 j : Nat} {o : Slot} (h : j < L.length) : setAt (LL n0 L) j (lz n0 o) = some (LL n0 (L.set j o)) := by
  simp only [setAt, LL_size, h, if_true, LL_set]
theorem self1 {n0 j : Nat} {v : Value} (h : j < L.length) (hv : v.category = 1) : storeSelf (LL n0 L) j (lf n0 v) = some (LL n0 (L.set j (.val v))) := by
  have e := setAt_LL (n0 := n0) (o := .val v) h
  simp only [lz] at e
  simp [storeSelf, e, lf_cat, hv]
theorem self2 {n0 j : Nat} {v : Value} {o : Slot} (h : L[j + 1]? = some o) (ho : n2 o = true) (hv : v.category = 2) : storeSelf (LL n0 L) j (lf n0 v) = some (LL n0 ((L.set j (.val v)).set (j + 1) .second)) := by
  have h1 := lt_of_at h
  have e := setAt_LL (n0 := n0) (o := .val v) (show j < L.length by omega)
  simp only [lz] at e
  have e2 := setAt_LL (n0 := n0) (L := L.set j (.val v)) (o := .second) (j := j + 1) (by simpa using h1)
  simp only [lz] at e2
  have e3 : (LL n0 (L.set j (.val v)))[j + 1]? = some (lz n0 o) := LL_at (by rw [List.getElem?_set_ne (by omega)]; exact h)
  simp only [storeSelf, e, lf_cat, hv, Option.bind_eq_bind, Option.bind_some, if_true, e3]
  cases o with
  | unset => simpa [lz] using e2
  | second => simpa [lz] using e2
  | val w =>
    have hw : w.category = 1 := by simpa [n2] using ho
    simpa [lz, lf_cat, hw] using e2
theorem st1s {L' : List Slot} {j : Nat} {v : Value} (h : L[j + 1]? = some .second) (hv : v.category = 1) (e : (L.set j .unset).set (j + 1) (.val v) = L') : stOK L (j + 1) v L' := by
  intro n0
  subst e
  have h1 := lt_of_at h
  have e1 := LL_at (n0 := n0) h
  have e2 := setAt_LL (n0 := n0) (o := .unset) (show j < L.length by omega)
  simp only [lz] at e1 e2
  have e3 := self1 (n0 := n0) (L := L.set j .unset) (j := j + 1) (by simpa using h1) hv
  simp only [storeLocals, e1, Option.bind_eq_bind, Option.bind_some, Nat.add_sub_cancel, e2, e3]
theorem st1w {L' : List Slot} {j : Nat} {w v : Value} (h : L[j]? = some (.val w)) (hw : w.category = 2) (hl : j + 1 < L.length) (hv : v.category = 1) (e : (L.set (j + 1) .unset).set j (.val v) = L') : stOK L j v L' := by
  intro n0
  subst e
  have h1 := lt_of_at h
  have e1 := LL_at (n0 := n0) h
  have e2 := setAt_LL (n0 := n0) (o := .unset) hl
  simp only [lz] at e1 e2
  have e3 := self1 (n0 := n0) (L := L.set (j + 1) .unset) (j := j) (by simpa using h1) hv
  simp only [storeLocals, e1, lf_cat, hw, if_true, Option.bind_eq_bind, Option.bind_some, e2, e3]
theorem st2 {L' : List Slot} {j : Nat} {o o2 : Slot} {v : Value} (h : L[j]? = some o) (ho : nS o = true) (h2 : L[j + 1]? = some o2) (ho2 : n2 o2 = true) (hv : v.category = 2) (e : (L.set j (.val v)).set (j + 1) .second = L') : stOK L j v L' := by
  intro n0
  subst e
  have e1 := LL_at (n0 := n0) h
  have h3 := lt_of_at h2
  cases o with
  | second => simp [nS] at ho
  | unset =>
    simp only [lz] at e1
    simp only [storeLocals, e1, Option.bind_eq_bind, Option.bind_some, self2 h2 ho2 hv]
  | val w =>
    simp only [lz] at e1
    rcases cat_pos w with q | q
    · simp [storeLocals, e1, lf_cat, q, self2 h2 ho2 hv]
    · have e2 := setAt_LL (n0 := n0) (o := .unset) h3
      simp only [lz] at e2
      have e3 := self2 (n0 := n0) (L := L.set (j + 1) .unset) (j := j) (o := .unset) (v := v) (by rw [List.getElem?_set_self h3]) rfl hv
      have e4 : ((L.set (j + 1) .unset).set j (.val v)).set (j + 1) .second = (L.set j (.val v)).set (j + 1) .second := by
        rw [List.set_comm _ _ (show j + 1 ≠ j by omega), List.set_set]
      rw [e4] at e3
      simp only [storeLocals, e1, lf_cat, q, if_true, Option.bind_eq_bind, Option.bind_some, e2, e3]
theorem istore_n {j : Fin 4} {x : Int32} {L' : List Slot} (d : decode B.2.1 pc = .ok (.istore_n j, 1)) (hs : stOK L j.val (.int x) L') (hr : WP l Z a0 n0 B R k n (pc + 1) L' S H Q) : WP l Z a0 n0 B R k n pc L (.int x :: S) H Q :=
  pure hr fun h hx hc st => XS.istoreN h hx rfl (hb hc d) rfl (hs n0) st
theorem istore {j : Nat} {x : Int32} {L' : List Slot} (d : decode B.2.1 pc = .ok (.istore j, 2)) (hs : stOK L j (.int x) L') (hr : WP l Z a0 n0 B R k n (pc + 2) L' S H Q) : WP l Z a0 n0 B R k n pc L (.int x :: S) H Q :=
  pure hr fun h hx hc st => XS.istore h hx rfl (hb hc d) rfl (hs n0) st
theorem lstore_n {j : Fin 4} {x : Int64} {L' : List Slot} (d : decode B.2.1 pc = .ok (.lstore_n j, 1)) (hs : stOK L j.val (.long x) L') (hr : WP l Z a0 n0 B R k n (pc + 1) L' S H Q) : WP l Z a0 n0 B R k n pc L (.long x :: S) H Q :=
  pure hr fun h hx hc st => XT.lstoreN h hx rfl (hb hc d) rfl (hs n0) st
theorem lstore {j : Nat} {x : Int64} {L' : List Slot} (d : decode B.2.1 pc = .ok (.lstore j, 2)) (hs : stOK L j (.long x) L') (hr : WP l Z a0 n0 B R k n (pc + 2) L' S H Q) : WP l Z a0 n0 B R k n pc L (.long x :: S) H Q :=
  pure hr fun h hx hc st => XT.lstore h hx rfl (hb hc d) rfl (hs n0) st
theorem astore_n {j : Fin 4} {v : Value} {L' : List Slot} (d : decode B.2.1 pc = .ok (.astore_n j, 1)) (hv : v.isRef = true) (hs : stOK L j.val v L') (hr : WP l Z a0 n0 B R k n (pc + 1) L' S H Q) : WP l Z a0 n0 B R k n pc L (v :: S) H Q :=
  pure hr fun h hx hc st => XS.astoreN h hx rfl (hb hc d) rfl (by rw [lf_isRef]; exact hv) (hs n0) st
theorem astore {j : Nat} {v : Value} {L' : List Slot} (d : decode B.2.1 pc = .ok (.astore j, 2)) (hv : v.isRef = true) (hs : stOK L j v L') (hr : WP l Z a0 n0 B R k n (pc + 2) L' S H Q) : WP l Z a0 n0 B R k n pc L (v :: S) H Q :=
  pure hr fun h hx hc st => XS.astore h hx rfl (hb hc d) rfl (by rw [lf_isRef]; exact hv) (hs n0) st
theorem iinc {j : Nat} {cst : Int} {x ci y : Int32} {L' : List Slot} (d : decode B.2.1 pc = .ok (.iinc j cst, 3)) (hl : L[j]? = some (.val (.int x))) (hci : Int32.ofInt cst = ci) (hy : x + ci = y) (hs : stOK L j (.int y) L') (hr : WP l Z a0 n0 B R k n (pc + 3) L' S H Q) : WP l Z a0 n0 B R k n pc L S H Q :=
  pure hr fun h hx hc st => XS.iinc h hx rfl (hb hc d) (LL_get (n0 := n0) hl) (by rw [hci, hy]; exact hs n0) st
/-! ### the stack, arithmetic -/
theorem dup {v : Value} (d : decode B.2.1 pc = .ok (.dup, 1)) (hv : v.category = 1) (hr : WP l Z a0 n0 B R k n (pc + 1) L (v :: v :: S) H Q) : WP l Z a0 n0 B R k n pc L (v :: S) H Q :=
  pure hr fun h hx hc st => XS.dup h hx rfl (hb hc d) rfl (by rw [lf_cat]; exact hv) st
theorem pop {v : Value} (d : decode B.2.1 pc = .ok (.pop, 1)) (hv : v.category = 1) (hr : WP l Z a0 n0 B R k n (pc + 1) L S H Q) : WP l Z a0 n0 B R k n pc L (v :: S) H Q :=
  pure hr fun h hx hc st => XT.pop h hx rfl (hb hc d) rfl (by rw [lf_cat]; exact hv) st
theorem dup_x1 {v w : Value} (d : decode B.2.1 pc = .ok (.dup_x1, 1)) (hv : v.category = 1) (hv' : w.category = 1) (hr : WP l Z a0 n0 B R k n (pc + 1) L (v :: w :: v :: S) H Q) : WP l Z a0 n0 B R k n pc L (v :: w :: S) H Q :=
  pure hr fun h hx hc st => XT.dupX1 h hx rfl (hb hc d) rfl (by rw [lf_cat]; exact hv) (by rw [lf_cat]; exact hv') st
theorem dup2 {v w : Value} (d : decode B.2.1 pc = .ok (.dup2, 1)) (hv : v.category = 1) (hv' : w.category = 1) (hr : WP l Z a0 n0 B R k n (pc + 1) L (v :: w :: v :: w :: S) H Q) : WP l Z a0 n0 B R k n pc L (v :: w :: S) H Q :=
  pure hr fun h hx hc st => XT.dup2 h hx rfl (hb hc d) rfl (by rw [lf_cat]; exact hv) (by rw [lf_cat]; exact hv') st
theorem dup2L {x : Int64} (d : decode B.2.1 pc = .ok (.dup2, 1)) (hr : WP l Z a0 n0 B R k n (pc + 1) L (.long x :: .long x :: S) H Q) : WP l Z a0 n0 B R k n pc L (.long x :: S) H Q :=
  pure hr fun h hx hc st => XT.dup2L h hx rfl (hb hc d) rfl st
theorem iadd {x : Int32} {y : Int32} (d : decode B.2.1 pc = .ok (.iadd, 1)) (hr : WP l Z a0 n0 B R k n (pc + 1) L (.int (x + y) :: S) H Q) : WP l Z a0 n0 B R k n pc L (.int y :: .int x :: S) H Q :=
  pure hr fun h hx hc st => XS.iadd h hx rfl (hb hc d) rfl st
theorem isub {x : Int32} {y : Int32} (d : decode B.2.1 pc = .ok (.isub, 1)) (hr : WP l Z a0 n0 B R k n (pc + 1) L (.int (x - y) :: S) H Q) : WP l Z a0 n0 B R k n pc L (.int y :: .int x :: S) H Q :=
  pure hr fun h hx hc st => XS.isub h hx rfl (hb hc d) rfl st
theorem iand {x : Int32} {y : Int32} (d : decode B.2.1 pc = .ok (.iand, 1)) (hr : WP l Z a0 n0 B R k n (pc + 1) L (.int (x &&& y) :: S) H Q) : WP l Z a0 n0 B R k n pc L (.int y :: .int x :: S) H Q :=
  pure hr fun h hx hc st => XS.iand h hx rfl (hb hc d) rfl st
theorem imul {x : Int32} {y : Int32} (d : decode B.2.1 pc = .ok (.imul, 1)) (hr : WP l Z a0 n0 B R k n (pc + 1) L (.int (x * y) :: S) H Q) : WP l Z a0 n0 B R k n pc L (.int y :: .int x :: S) H Q :=
  pure hr fun h hx hc st => XS.imul h hx rfl (hb hc d) rfl st
theorem ixor {x : Int32} {y : Int32} (d : decode B.2.1 pc = .ok (.ixor, 1)) (hr : WP l Z a0 n0 B R k n (pc + 1) L (.int (x ^^^ y) :: S) H Q) : WP l Z a0 n0 B R k n pc L (.int y :: .int x :: S) H Q :=
  pure hr fun h hx hc st => XT.ixor h hx rfl (hb hc d) rfl st
theorem ior {x : Int32} {y : Int32} (d : decode B.2.1 pc = .ok (.ior, 1)) (hr : WP l Z a0 n0 B R k n (pc + 1) L (.int (x ||| y) :: S) H Q) : WP l Z a0 n0 B R k n pc L (.int y :: .int x :: S) H Q :=
  pure hr fun h hx hc st => XT.ior h hx rfl (hb hc d) rfl st
theorem ishl {x : Int32} {y : Int32} (d : decode B.2.1 pc = .ok (.ishl, 1)) (hr : WP l Z a0 n0 B R k n (pc + 1) L (.int (x <<< (y &&& 31)) :: S) H Q) : WP l Z a0 n0 B R k n pc L (.int y :: .int x :: S) H Q :=
  pure hr fun h hx hc st => XT.ishl h hx rfl (hb hc d) rfl st
theorem ishr {x : Int32} {y : Int32} (d : decode B.2.1 pc = .ok (.ishr, 1)) (hr : WP l Z a0 n0 B R k n (pc + 1) L (.int (x >>> (y &&& 31)) :: S) H Q) : WP l Z a0 n0 B R k n pc L (.int y :: .int x :: S) H Q :=
  pure hr fun h hx hc st => XT.ishr h hx rfl (hb hc d) rfl st
theorem iushr {x : Int32} {y : Int32} (d : decode B.2.1 pc = .ok (.iushr, 1)) (hr : WP l Z a0 n0 B R k n (pc + 1) L (.int (XT.ushr x y) :: S) H Q) : WP l Z a0 n0 B R k n pc L (.int y :: .int x :: S) H Q :=
  pure hr fun h hx hc st => XT.iushr h hx rfl (hb hc d) rfl st
theorem ladd {x : Int64} {y : Int64} (d : decode B.2.1 pc = .ok (.ladd, 1)) (hr : WP l Z a0 n0 B R k n (pc + 1) L (.long (x + y) :: S) H Q) : WP l Z a0 n0 B R k n pc L (.long y :: .long x :: S) H Q :=
  pure hr fun h hx hc st => XT.ladd h hx rfl (hb hc d) rfl st
theorem lsub {x : Int64} {y : Int64} (d : decode B.2.1 pc = .ok (.lsub, 1)) (hr : WP l Z a0 n0 B R k n (pc + 1) L (.long (x - y) :: S) H Q) : WP l Z a0 n0 B R k n pc L (.long y :: .long x :: S) H Q :=
  pure hr fun h hx hc st => XT.lsub h hx rfl (hb hc d) rfl st
theorem lmul {x : Int64} {y : Int64} (d : decode B.2.1 pc = .ok (.lmul, 1)) (hr : WP l Z a0 n0 B R k n (pc + 1) L (.long (x * y) :: S) H Q) : WP l Z a0 n0 B R k n pc L (.long y :: .long x :: S) H Q :=
  pure hr fun h hx hc st => XT.lmul h hx rfl (hb hc d) rfl st
theorem land {x : Int64} {y : Int64} (d : decode B.2.1 pc = .ok (.land, 1)) (hr : WP l Z a0 n0 B R k n (pc + 1) L (.long (x &&& y) :: S) H Q) : WP l Z a0 n0 B R k n pc L (.long y :: .long x :: S) H Q :=
  pure hr fun h hx hc st => XT.land h hx rfl (hb hc d) rfl st
theorem lor {x : Int64} {y : Int64} (d : decode B.2.1 pc = .ok (.lor, 1)) (hr : WP l Z a0 n0 B R k n (pc + 1) L (.long (x ||| y) :: S) H Q) : WP l Z a0 n0 B R k n pc L (.long y :: .long x :: S) H Q :=
  pure hr fun h hx hc st => XT.lor h hx rfl (hb hc d) rfl st
theorem lxor {x : Int64} {y : Int64} (d : decode B.2.1 pc = .ok (.lxor, 1)) (hr : WP l Z a0 n0 B R k n (pc + 1) L (.long (x ^^^ y) :: S) H Q) : WP l Z a0 n0 B R k n pc L (.long y :: .long x :: S) H Q :=
  pure hr fun h hx hc st => XT.lxor h hx rfl (hb hc d) rfl st
theorem lshl {x : Int64} {y : Int32} (d : decode B.2.1 pc = .ok (.lshl, 1)) (hr : WP l Z a0 n0 B R k n (pc + 1) L (.long (x <<< (y.toInt64 &&& 63)) :: S) H Q) : WP l Z a0 n0 B R k n pc L (.int y :: .long x :: S) H Q :=
  pure hr fun h hx hc st => XT.lshl h hx rfl (hb hc d) rfl st
theorem lshr {x : Int64} {y : Int32} (d : decode B.2.1 pc = .ok (.lshr, 1)) (hr : WP l Z a0 n0 B R k n (pc + 1) L (.long (x >>> (y.toInt64 &&& 63)) :: S) H Q) : WP l Z a0 n0 B R k n pc L (.int y :: .long x :: S) H Q :=
  pure hr fun h hx hc st => XT.lshr h hx rfl (hb hc d) rfl st
theorem lushr {x : Int64} {y : Int32} (d : decode B.2.1 pc = .ok (.lushr, 1)) (hr : WP l Z a0 n0 B R k n (pc + 1) L (.long (XT.ushrL x y) :: S) H Q) : WP l Z a0 n0 B R k n pc L (.int y :: .long x :: S) H Q :=
  pure hr fun h hx hc st => XT.lushr h hx rfl (hb hc d) rfl st
theorem ineg {x : Int32} (d : decode B.2.1 pc = .ok (.ineg, 1)) (hr : WP l Z a0 n0 B R k n (pc + 1) L (.int (-x) :: S) H Q) : WP l Z a0 n0 B R k n pc L (.int x :: S) H Q :=
  pure hr fun h hx hc st => XS.ineg h hx rfl (hb hc d) rfl st
theorem lneg {x : Int64} (d : decode B.2.1 pc = .ok (.lneg, 1)) (hr : WP l Z a0 n0 B R k n (pc + 1) L (.long (-x) :: S) H Q) : WP l Z a0 n0 B R k n pc L (.long x :: S) H Q :=
  pure hr fun h hx hc st => XT.lneg h hx rfl (hb hc d) rfl st
theorem i2l {x : Int32} (d : decode B.2.1 pc = .ok (.i2l, 1)) (hr : WP l Z a0 n0 B R k n (pc + 1) L (.long (x.toInt64) :: S) H Q) : WP l Z a0 n0 B R k n pc L (.int x :: S) H Q :=
  pure hr fun h hx hc st => XT.i2l h hx rfl (hb hc d) rfl st
theorem l2i {x : Int64} (d : decode B.2.1 pc = .ok (.l2i, 1)) (hr : WP l Z a0 n0 B R k n (pc + 1) L (.int (x.toInt32) :: S) H Q) : WP l Z a0 n0 B R k n pc L (.long x :: S) H Q :=
  pure hr fun h hx hc st => XT.l2i h hx rfl (hb hc d) rfl st
theorem i2b {x : Int32} (d : decode B.2.1 pc = .ok (.i2b, 1)) (hr : WP l Z a0 n0 B R k n (pc + 1) L (.int (x.toInt8.toInt32) :: S) H Q) : WP l Z a0 n0 B R k n pc L (.int x :: S) H Q :=
  pure hr fun h hx hc st => XT.i2b h hx rfl (hb hc d) rfl st
theorem i2s {x : Int32} (d : decode B.2.1 pc = .ok (.i2s, 1)) (hr : WP l Z a0 n0 B R k n (pc + 1) L (.int (x.toInt16.toInt32) :: S) H Q) : WP l Z a0 n0 B R k n pc L (.int x :: S) H Q :=
  pure hr fun h hx hc st => XT.i2s h hx rfl (hb hc d) rfl st
theorem i2c {x : Int32} (d : decode B.2.1 pc = .ok (.i2c, 1)) (hr : WP l Z a0 n0 B R k n (pc + 1) L (.int (x.toUInt32.toUInt16.toUInt32.toInt32) :: S) H Q) : WP l Z a0 n0 B R k n pc L (.int x :: S) H Q :=
  pure hr fun h hx hc st => XT.i2c h hx rfl (hb hc d) rfl st
theorem iaddE {x y z : Int32} (d : decode B.2.1 pc = .ok (.iadd, 1)) (hz : x + y = z) (hr : WP l Z a0 n0 B R k n (pc + 1) L (.int z :: S) H Q) : WP l Z a0 n0 B R k n pc L (.int y :: .int x :: S) H Q := iadd d (hz ▸ hr)
theorem isubE {x y z : Int32} (d : decode B.2.1 pc = .ok (.isub, 1)) (hz : x - y = z) (hr : WP l Z a0 n0 B R k n (pc + 1) L (.int z :: S) H Q) : WP l Z a0 n0 B R k n pc L (.int y :: .int x :: S) H Q := isub d (hz ▸ hr)
theorem imulE {x y z : Int32} (d : decode B.2.1 pc = .ok (.imul, 1)) (hz : x * y = z) (hr : WP l Z a0 n0 B R k n (pc + 1) L (.int z :: S) H Q) : WP l Z a0 n0 B R k n pc L (.int y :: .int x :: S) H Q := imul d (hz ▸ hr)
theorem idiv {x y : Int32} (d : decode B.2.1 pc = .ok (.idiv, 1)) (hy : y ≠ 0) (hr : WP l Z a0 n0 B R k n (pc + 1) L (.int (x / y) :: S) H Q) : WP l Z a0 n0 B R k n pc L (.int y :: .int x :: S) H Q :=
  pure hr fun h hx hc st => XS.idiv h hx rfl (hb hc d) rfl hy st
theorem irem {x y : Int32} (d : decode B.2.1 pc = .ok (.irem, 1)) (hy : y ≠ 0) (hr : WP l Z a0 n0 B R k n (pc + 1) L (.int (x % y) :: S) H Q) : WP l Z a0 n0 B R k n pc L (.int y :: .int x :: S) H Q :=
  pure hr fun h hx hc st => XS.irem h hx rfl (hb hc d) rfl hy (by rw [irem_eq_mod]; exact st)
theorem iushrE {x y z : Int32} (d : decode B.2.1 pc = .ok (.iushr, 1)) (hz : XT.ushr x y = z) (hr : WP l Z a0 n0 B R k n (pc + 1) L (.int z :: S) H Q) : WP l Z a0 n0 B R k n pc L (.int y :: .int x :: S) H Q := iushr d (hz ▸ hr)
theorem iandE {x y z : Int32} (d : decode B.2.1 pc = .ok (.iand, 1)) (hz : x &&& y = z) (hr : WP l Z a0 n0 B R k n (pc + 1) L (.int z :: S) H Q) : WP l Z a0 n0 B R k n pc L (.int y :: .int x :: S) H Q := iand d (hz ▸ hr)
theorem idivE {x y z : Int32} (d : decode B.2.1 pc = .ok (.idiv, 1)) (hy : y ≠ 0) (hz : x / y = z) (hr : WP l Z a0 n0 B R k n (pc + 1) L (.int z :: S) H Q) : WP l Z a0 n0 B R k n pc L (.int y :: .int x :: S) H Q := idiv d hy (hz ▸ hr)
theorem iremE {x y z : Int32} (d : decode B.2.1 pc = .ok (.irem, 1)) (hy : y ≠ 0) (hz : x % y = z) (hr : WP l Z a0 n0 B R k n (pc + 1) L (.int z :: S) H Q) : WP l Z a0 n0 B R k n pc L (.int y :: .int x :: S) H Q := irem d hy (hz ▸ hr)
/-! ### branches -/
theorem goto {o : Int} {pc' : Nat} (d : decode B.2.1 pc = .ok (.goto o, 3)) (hp : ((pc : Int) + o).toNat = pc') (ho : 0 ≤ (pc : Int) + o) (hr : WP l Z a0 n0 B R k n pc' L S H Q) : WP l Z a0 n0 B R k n pc L S H Q :=
  pure hr fun h hx hc st => XS.goto h hx rfl (pc0 := pc) rfl (hb hc d) ho hp st
def cP : ClassFile.Cond → Int32 → Int32 → Prop
  | .eq, x, y => x = y
  | .ne, x, y => ¬ x = y
  | .lt, x, y => x < y
  | .ge, x, y => ¬ x < y
  | .gt, x, y => y < x
  | .le, x, y => ¬ y < x
def cPL : ClassFile.Cond → Int64 → Int64 → Prop
  | .eq, x, y => x = y
  | .ne, x, y => ¬ x = y
  | .lt, x, y => x < y
  | .ge, x, y => ¬ x < y
  | .gt, x, y => y < x
  | .le, x, y => ¬ y < x
instance (cd : ClassFile.Cond) (x y : Int32) : Decidable (cP cd x y) := by cases cd <;> simp only [cP] <;> infer_instance
instance (cd : ClassFile.Cond) (x y : Int64) : Decidable (cPL cd x y) := by cases cd <;> simp only [cPL] <;> infer_instance
theorem cP_iff (cd : ClassFile.Cond) (x y : Int32) : if_icmp.holds cd x y = true ↔ cP cd x y := by
  cases cd
  · by_cases h : x = y
    · exact ⟨fun _ => h, fun _ => (teq h).1⟩
    · simp [(feq h).1, cP, h]
  · by_cases h : x = y
    · exact ⟨fun q => (by rw [(teq h).2] at q; cases q), fun q => absurd h q⟩
    · simp [(feq h).2, cP, h]
  · by_cases h : x < y
    · simp [(tlt h).1, cP, h]
    · simp [(flt h).1, cP, h]
  · by_cases h : x < y
    · simp [(tlt h).2.1, cP, h]
    · simp [(flt h).2.1, cP, h]
  · by_cases h : y < x
    · simp [(tlt h).2.2.1, cP, h]
    · simp [(flt h).2.2.1, cP, h]
  · by_cases h : y < x
    · simp [(tlt h).2.2.2, cP, h]
    · simp [(flt h).2.2.2, cP, h]
theorem cPL_iff (cd : ClassFile.Cond) (x y : Int64) : ifCond.holds cd (XT.cmpL x y) = true ↔ cPL cd x y := by
  rw [if0, cP_iff]
  by_cases h : y < x
  · have h1 : ¬ x < y := Int64.not_lt.mpr (Int64.le_of_lt h)
    have h2 : ¬ x = y := fun e => by subst e; exact absurd h Int64.lt_irrefl
    cases cd <;> simp [cP, cPL, XT.cmpL, h, h1, h2]
  · by_cases h2 : x = y
    · subst h2
      cases cd <;> simp [cP, cPL, XT.cmpL, Int64.lt_irrefl]
    · have h1 : x < y := Int64.lt_of_le_of_ne (Int64.not_lt.mp h) h2
      cases cd <;> simp [cP, cPL, XT.cmpL, h, h1, h2]
theorem icmpT {cd : ClassFile.Cond} {x y : Int32} {o : Int} {pc' : Nat} (d : decode B.2.1 pc = .ok (.if_icmp cd o, 3)) (hp : ((pc : Int) + o).toNat = pc') (ho : 0 ≤ (pc : Int) + o) (hc : cP cd x y) (hr : WP l Z a0 n0 B R k n pc' L S H Q) : WP l Z a0 n0 B R k n pc L (.int y :: .int x :: S) H Q :=
  pure hr fun h hx hc' st => XS.icmpYes h hx rfl (pc0 := pc) rfl (hb hc' d) rfl ((cP_iff _ _ _).mpr hc) ho hp st
theorem icmpF {cd : ClassFile.Cond} {x y : Int32} {o : Int} (d : decode B.2.1 pc = .ok (.if_icmp cd o, 3)) (hc : ¬ cP cd x y) (hr : WP l Z a0 n0 B R k n (pc + 3) L S H Q) : WP l Z a0 n0 B R k n pc L (.int y :: .int x :: S) H Q :=
  pure hr fun h hx hc' st => XS.icmpNo h hx rfl (hb hc' d) rfl (Bool.eq_false_iff.mpr fun q => hc ((cP_iff _ _ _).mp q)) st
theorem ifT {cd : ClassFile.Cond} {x : Int32} {o : Int} {pc' : Nat} (d : decode B.2.1 pc = .ok (.ifCond cd o, 3)) (hp : ((pc : Int) + o).toNat = pc') (ho : 0 ≤ (pc : Int) + o) (hc : cP cd x 0) (hr : WP l Z a0 n0 B R k n pc' L S H Q) : WP l Z a0 n0 B R k n pc L (.int x :: S) H Q :=
  pure hr fun h hx hc' st => XS.ifYes h hx rfl (pc0 := pc) rfl (hb hc' d) rfl ((if0 _ _).trans ((cP_iff _ _ _).mpr hc)) ho hp st
theorem ifF {cd : ClassFile.Cond} {x : Int32} {o : Int} (d : decode B.2.1 pc = .ok (.ifCond cd o, 3)) (hc : ¬ cP cd x 0) (hr : WP l Z a0 n0 B R k n (pc + 3) L S H Q) : WP l Z a0 n0 B R k n pc L (.int x :: S) H Q :=
  pure hr fun h hx hc' st => XS.ifNo h hx rfl (hb hc' d) rfl ((if0 _ _).trans (Bool.eq_false_iff.mpr fun q => hc ((cP_iff _ _ _).mp q))) st
theorem lcmp {x y : Int64} (d : decode B.2.1 pc = .ok (.lcmp, 1)) (hr : WP l Z a0 n0 B R k n (pc + 1) L (.int (XT.cmpL x y) :: S) H Q) : WP l Z a0 n0 B R k n pc L (.long y :: .long x :: S) H Q :=
  pure hr fun h hx hc st => XT.lcmp h hx rfl (hb hc d) rfl st
theorem lcmpT {cd : ClassFile.Cond} {x y : Int64} {o : Int} {pc' : Nat} (d1 : decode B.2.1 pc = .ok (.lcmp, 1)) (d : decode B.2.1 (pc + 1) = .ok (.ifCond cd o, 3)) (hp : (((pc + 1 : Nat) : Int) + o).toNat = pc') (ho : 0 ≤ ((pc + 1 : Nat) : Int) + o) (hc : cPL cd x y) (hr : WP l Z a0 n0 B R k n pc' L S H Q) : WP l Z a0 n0 B R k n pc L (.long y :: .long x :: S) H Q :=
  lcmp d1 (pure hr fun h hx hc' st => XS.ifYes h hx rfl (pc0 := pc + 1) rfl (hb hc' d) rfl ((cPL_iff _ _ _).mpr hc) ho hp st)
theorem lcmpF {cd : ClassFile.Cond} {x y : Int64} {o : Int} (d1 : decode B.2.1 pc = .ok (.lcmp, 1)) (d : decode B.2.1 (pc + 1) = .ok (.ifCond cd o, 3)) (hc : ¬ cPL cd x y) (hr : WP l Z a0 n0 B R k n (pc + 4) L S H Q) : WP l Z a0 n0 B R k n pc L (.long y :: .long x :: S) H Q :=
  lcmp d1 (pure hr fun h hx hc' st => XS.ifNo h hx rfl (hb hc' d) rfl (Bool.eq_false_iff.mpr fun q => hc ((cPL_iff _ _ _).mp q)) st)
theorem ifnullF {o : Int} {i : Nat} (d : decode B.2.1 pc = .ok (.ifnull o, 3)) (hr : WP l Z a0 n0 B R k n (pc + 3) L S H Q) : WP l Z a0 n0 B R k n pc L (.ref i :: S) H Q :=
  pure hr fun h hx hc st => XS.ifnullNo h hx rfl (hb hc d) rfl st
theorem ifnonnullT {o : Int} {i pc' : Nat} (d : decode B.2.1 pc = .ok (.ifnonnull o, 3)) (hp : ((pc : Int) + o).toNat = pc') (ho : 0 ≤ (pc : Int) + o) (hr : WP l Z a0 n0 B R k n pc' L S H Q) : WP l Z a0 n0 B R k n pc L (.ref i :: S) H Q :=
  pure hr fun h hx hc st => XT.ifnonnullYes h hx rfl (pc0 := pc) rfl (hb hc d) rfl ho hp st
theorem acmpneT {o : Int} {i j pc' : Nat} (d : decode B.2.1 pc = .ok (.if_acmp .ne o, 3)) (hp : ((pc : Int) + o).toNat = pc') (ho : 0 ≤ (pc : Int) + o) (hij : ¬ i = j) (hr : WP l Z a0 n0 B R k n pc' L S H Q) : WP l Z a0 n0 B R k n pc L (.ref j :: .ref i :: S) H Q :=
  pure hr fun h hx hc st => XT.acmpYes h hx rfl (pc0 := pc) rfl (hb hc d) rfl rfl rfl (by simp [XT.acmp, lf, hij]) ho hp st
theorem icmp_eq {x y : Int32} {o : Int} {pc' : Nat} (d : decode B.2.1 pc = .ok (.if_icmp .eq o, 3)) (hp : ((pc : Int) + o).toNat = pc') (ho : 0 ≤ (pc : Int) + o) (h1 : x = y → WP l Z a0 n0 B R k n pc' L S H Q) (h2 : ¬ x = y → WP l Z a0 n0 B R k n (pc + 3) L S H Q) : WP l Z a0 n0 B R k n pc L (.int y :: .int x :: S) H Q :=
  if q : cP .eq x y then icmpT d hp ho q (h1 q) else icmpF d q (h2 q)
theorem if_eq {x : Int32} {o : Int} {pc' : Nat} (d : decode B.2.1 pc = .ok (.ifCond .eq o, 3)) (hp : ((pc : Int) + o).toNat = pc') (ho : 0 ≤ (pc : Int) + o) (h1 : x = 0 → WP l Z a0 n0 B R k n pc' L S H Q) (h2 : ¬ x = 0 → WP l Z a0 n0 B R k n (pc + 3) L S H Q) : WP l Z a0 n0 B R k n pc L (.int x :: S) H Q :=
  if q : cP .eq x 0 then ifT d hp ho q (h1 q) else ifF d q (h2 q)
theorem lcmp_eq {x y : Int64} {o : Int} {pc' : Nat} (d1 : decode B.2.1 pc = .ok (.lcmp, 1)) (d : decode B.2.1 (pc + 1) = .ok (.ifCond .eq o, 3)) (hp : (((pc + 1 : Nat) : Int) + o).toNat = pc') (ho : 0 ≤ ((pc + 1 : Nat) : Int) + o) (h1 : x = y → WP l Z a0 n0 B R k n pc' L S H Q) (h2 : ¬ x = y → WP l Z a0 n0 B R k n (pc + 4) L S H Q) : WP l Z a0 n0 B R k n pc L (.long y :: .long x :: S) H Q :=
  if q : cPL .eq x y then lcmpT d1 d hp ho q (h1 q) else lcmpF d1 d q (h2 q)
theorem icmp_ne {x y : Int32} {o : Int} {pc' : Nat} (d : decode B.2.1 pc = .ok (.if_icmp .ne o, 3)) (hp : ((pc : Int) + o).toNat = pc') (ho : 0 ≤ (pc : Int) + o) (h1 : ¬ x = y → WP l Z a0 n0 B R k n pc' L S H Q) (h2 : x = y → WP l Z a0 n0 B R k n (pc + 3) L S H Q) : WP l Z a0 n0 B R k n pc L (.int y :: .int x :: S) H Q :=
  if q : cP .ne x y then icmpT d hp ho q (h1 q) else icmpF d q (h2 (Decidable.not_not.mp q))
theorem if_ne {x : Int32} {o : Int} {pc' : Nat} (d : decode B.2.1 pc = .ok (.ifCond .ne o, 3)) (hp : ((pc : Int) + o).toNat = pc') (ho : 0 ≤ (pc : Int) + o) (h1 : ¬ x = 0 → WP l Z a0 n0 B R k n pc' L S H Q) (h2 : x = 0 → WP l Z a0 n0 B R k n (pc + 3) L S H Q) : WP l Z a0 n0 B R k n pc L (.int x :: S) H Q :=
  if q : cP .ne x 0 then ifT d hp ho q (h1 q) else ifF d q (h2 (Decidable.not_not.mp q))
theorem lcmp_ne {x y : Int64} {o : Int} {pc' : Nat} (d1 : decode B.2.1 pc = .ok (.lcmp, 1)) (d : decode B.2.1 (pc + 1) = .ok (.ifCond .ne o, 3)) (hp : (((pc + 1 : Nat) : Int) + o).toNat = pc') (ho : 0 ≤ ((pc + 1 : Nat) : Int) + o) (h1 : ¬ x = y → WP l Z a0 n0 B R k n pc' L S H Q) (h2 : x = y → WP l Z a0 n0 B R k n (pc + 4) L S H Q) : WP l Z a0 n0 B R k n pc L (.long y :: .long x :: S) H Q :=
  if q : cPL .ne x y then lcmpT d1 d hp ho q (h1 q) else lcmpF d1 d q (h2 (Decidable.not_not.mp q))
theorem icmp_lt {x y : Int32} {o : Int} {pc' : Nat} (d : decode B.2.1 pc = .ok (.if_icmp .lt o, 3)) (hp : ((pc : Int) + o).toNat = pc') (ho : 0 ≤ (pc : Int) + o) (h1 : x < y → WP l Z a0 n0 B R k n pc' L S H Q) (h2 : ¬ x < y → WP l Z a0 n0 B R k n (pc + 3) L S H Q) : WP l Z a0 n0 B R k n pc L (.int y :: .int x :: S) H Q :=
  if q : cP .lt x y then icmpT d hp ho q (h1 q) else icmpF d q (h2 q)
theorem if_lt {x : Int32} {o : Int} {pc' : Nat} (d : decode B.2.1 pc = .ok (.ifCond .lt o, 3)) (hp : ((pc : Int) + o).toNat = pc') (ho : 0 ≤ (pc : Int) + o) (h1 : x < 0 → WP l Z a0 n0 B R k n pc' L S H Q) (h2 : ¬ x < 0 → WP l Z a0 n0 B R k n (pc + 3) L S H Q) : WP l Z a0 n0 B R k n pc L (.int x :: S) H Q :=
  if q : cP .lt x 0 then ifT d hp ho q (h1 q) else ifF d q (h2 q)
theorem lcmp_lt {x y : Int64} {o : Int} {pc' : Nat} (d1 : decode B.2.1 pc = .ok (.lcmp, 1)) (d : decode B.2.1 (pc + 1) = .ok (.ifCond .lt o, 3)) (hp : (((pc + 1 : Nat) : Int) + o).toNat = pc') (ho : 0 ≤ ((pc + 1 : Nat) : Int) + o) (h1 : x < y → WP l Z a0 n0 B R k n pc' L S H Q) (h2 : ¬ x < y → WP l Z a0 n0 B R k n (pc + 4) L S H Q) : WP l Z a0 n0 B R k n pc L (.long y :: .long x :: S) H Q :=
  if q : cPL .lt x y then lcmpT d1 d hp ho q (h1 q) else lcmpF d1 d q (h2 q)
theorem icmp_ge {x y : Int32} {o : Int} {pc' : Nat} (d : decode B.2.1 pc = .ok (.if_icmp .ge o, 3)) (hp : ((pc : Int) + o).toNat = pc') (ho : 0 ≤ (pc : Int) + o) (h1 : ¬ x < y → WP l Z a0 n0 B R k n pc' L S H Q) (h2 : x < y → WP l Z a0 n0 B R k n (pc + 3) L S H Q) : WP l Z a0 n0 B R k n pc L (.int y :: .int x :: S) H Q :=
  if q : cP .ge x y then icmpT d hp ho q (h1 q) else icmpF d q (h2 (Decidable.not_not.mp q))
theorem if_ge {x : Int32} {o : Int} {pc' : Nat} (d : decode B.2.1 pc = .ok (.ifCond .ge o, 3)) (hp : ((pc : Int) + o).toNat = pc') (ho : 0 ≤ (pc : Int) + o) (h1 : ¬ x < 0 → WP l Z a0 n0 B R k n pc' L S H Q) (h2 : x < 0 → WP l Z a0 n0 B R k n (pc + 3) L S H Q) : WP l Z a0 n0 B R k n pc L (.int x :: S) H Q :=
  if q : cP .ge x 0 then ifT d hp ho q (h1 q) else ifF d q (h2 (Decidable.not_not.mp q))
theorem lcmp_ge {x y : Int64} {o : Int} {pc' : Nat} (d1 : decode B.2.1 pc = .ok (.lcmp, 1)) (d : decode B.2.1 (pc + 1) = .ok (.ifCond .ge o, 3)) (hp : (((pc + 1 : Nat) : Int) + o).toNat = pc') (ho : 0 ≤ ((pc + 1 : Nat) : Int) + o) (h1 : ¬ x < y → WP l Z a0 n0 B R k n pc' L S H Q) (h2 : x < y → WP l Z a0 n0 B R k n (pc + 4) L S H Q) : WP l Z a0 n0 B R k n pc L (.long y :: .long x :: S) H Q :=
  if q : cPL .ge x y then lcmpT d1 d hp ho q (h1 q) else lcmpF d1 d q (h2 (Decidable.not_not.mp q))
theorem icmp_gt {x y : Int32} {o : Int} {pc' : Nat} (d : decode B.2.1 pc = .ok (.if_icmp .gt o, 3)) (hp : ((pc : Int) + o).toNat = pc') (ho : 0 ≤ (pc : Int) + o) (h1 : y < x → WP l Z a0 n0 B R k n pc' L S H Q) (h2 : ¬ y < x → WP l Z a0 n0 B R k n (pc + 3) L S H Q) : WP l Z a0 n0 B R k n pc L (.int y :: .int x :: S) H Q :=
  if q : cP .gt x y then icmpT d hp ho q (h1 q) else icmpF d q (h2 q)
theorem if_gt {x : Int32} {o : Int} {pc' : Nat} (d : decode B.2.1 pc = .ok (.ifCond .gt o, 3)) (hp : ((pc : Int) + o).toNat = pc') (ho : 0 ≤ (pc : Int) + o) (h1 : 0 < x → WP l Z a0 n0 B R k n pc' L S H Q) (h2 : ¬ 0 < x → WP l Z a0 n0 B R k n (pc + 3) L S H Q) : WP l Z a0 n0 B R k n pc L (.int x :: S) H Q :=
  if q : cP .gt x 0 then ifT d hp ho q (h1 q) else ifF d q (h2 q)
theorem lcmp_gt {x y : Int64} {o : Int} {pc' : Nat} (d1 : decode B.2.1 pc = .ok (.lcmp, 1)) (d : decode B.2.1 (pc + 1) = .ok (.ifCond .gt o, 3)) (hp : (((pc + 1 : Nat) : Int) + o).toNat = pc') (ho : 0 ≤ ((pc + 1 : Nat) : Int) + o) (h1 : y < x → WP l Z a0 n0 B R k n pc' L S H Q) (h2 : ¬ y < x → WP l Z a0 n0 B R k n (pc + 4) L S H Q) : WP l Z a0 n0 B R k n pc L (.long y :: .long x :: S) H Q :=
  if q : cPL .gt x y then lcmpT d1 d hp ho q (h1 q) else lcmpF d1 d q (h2 q)
theorem icmp_le {x y : Int32} {o : Int} {pc' : Nat} (d : decode B.2.1 pc = .ok (.if_icmp .le o, 3)) (hp : ((pc : Int) + o).toNat = pc') (ho : 0 ≤ (pc : Int) + o) (h1 : ¬ y < x → WP l Z a0 n0 B R k n pc' L S H Q) (h2 : y < x → WP l Z a0 n0 B R k n (pc + 3) L S H Q) : WP l Z a0 n0 B R k n pc L (.int y :: .int x :: S) H Q :=
  if q : cP .le x y then icmpT d hp ho q (h1 q) else icmpF d q (h2 (Decidable.not_not.mp q))
theorem if_le {x : Int32} {o : Int} {pc' : Nat} (d : decode B.2.1 pc = .ok (.ifCond .le o, 3)) (hp : ((pc : Int) + o).toNat = pc') (ho : 0 ≤ (pc : Int) + o) (h1 : ¬ 0 < x → WP l Z a0 n0 B R k n pc' L S H Q) (h2 : 0 < x → WP l Z a0 n0 B R k n (pc + 3) L S H Q) : WP l Z a0 n0 B R k n pc L (.int x :: S) H Q :=
  if q : cP .le x 0 then ifT d hp ho q (h1 q) else ifF d q (h2 (Decidable.not_not.mp q))
theorem lcmp_le {x y : Int64} {o : Int} {pc' : Nat} (d1 : decode B.2.1 pc = .ok (.lcmp, 1)) (d : decode B.2.1 (pc + 1) = .ok (.ifCond .le o, 3)) (hp : (((pc + 1 : Nat) : Int) + o).toNat = pc') (ho : 0 ≤ ((pc + 1 : Nat) : Int) + o) (h1 : ¬ y < x → WP l Z a0 n0 B R k n pc' L S H Q) (h2 : y < x → WP l Z a0 n0 B R k n (pc + 4) L S H Q) : WP l Z a0 n0 B R k n pc L (.long y :: .long x :: S) H Q :=
  if q : cPL .le x y then lcmpT d1 d hp ho q (h1 q) else lcmpF d1 d q (h2 (Decidable.not_not.mp q))
end
end Jvm.Sh
namespace Jvm.Sh
open Jvm Jvm.ClassFile Sem Op Lib Jvm.Free Jvm.Stand Jvm.LawKit Jvm.RoadKit Bundle
section
variable {l : Launch} {Z : State} {a0 : Array Value} {n0 : Nat} {B : Bdy} {R : Room} {k n pc : Nat} {L : List Slot} {S : List Value} {H : SH} {Q : Option Value → SH → Prop} {W : List Jvm.Cond}
/-! ### the heap -/
theorem lf_default (n0 : Nat) (ty : FieldType) : lf n0 (defaultValue ty) = defaultValue ty := by cases ty <;> rfl
theorem lf_narrow {n0 : Nat} {ty : FieldType} {v : Value} (h : narrow ty v = v) : narrow ty (lf n0 v) = lf n0 v := by
  cases v <;> first | exact h | (cases ty <;> rfl)
theorem lf_fits {n0 : Nat} {ty : FieldType} {v : Value} (h : fits ty v = true) : fits ty (lf n0 v) = true := by
  cases v <;> first | exact h | (cases ty <;> simp [fits, lf] at h ⊢)
theorem ext_push (h : Heap) (c : Cell) : Ext h (h.push c) :=
  ⟨by simp, fun a d e => by rw [Array.getElem?_push_lt (Array.getElem?_eq_some_iff.mp e).1]; exact (Array.getElem?_eq_getElem _).symm.trans e⟩
theorem getfield (hw : ∀ d ∈ W, d.before a0 Z = true) {i idx a j : Nat} {C nm ds : String} {fs : List (String × String × Value)} {v : Value} (w : W[i]? = some (.fieldLink B.1.cls idx C nm ds)) (d : decode B.2.1 pc = .ok (.getfield idx, 3))
    (hH : H[a]? = some (.inl (C, fs))) (hf : fs[j]? = some (nm, ds, v)) (hr : WP l Z a0 n0 B R k n (pc + 3) L (v :: S) H Q) : WP l Z a0 n0 B R k n pc L (.ref a :: S) H Q := by
  intro p e s m args below meth c T locs X hx hc hml hret hlk hZ hown hnm hF hR
  have K := (hR.2 a _ hH).2.2.2 _ (List.mem_of_getElem? hf)
  obtain ⟨T', X', e', st⟩ := getF X hx hZ hown (host := "") (Or.inl (hw _ (List.mem_of_getElem? w))) Via.refl rfl K.2.2 (g := mkF m pc (LL n0 L) ((Value.ref a :: S).map (lf n0))) rfl rfl (hb hc d)
  obtain ⟨t, o, h1, h2⟩ := hr p e s m args below meth c T' locs X' hx hc hml hret hlk hZ hown hnm hF (by rw [e']; exact hR)
  exact ⟨t, o, st _ h1, h2⟩
theorem put_ok {h h' : Heap} {a : Addr} {C nm ds : String} {fs : List (String × String × Value)} {j : Nat} {old v : Value} (K : CellOk Z a0 n0 h a (.inl (C, fs))) (hf : fs[j]? = some (nm, ds, old)) (W' : Wr h h' a (RoadKit.slotOf Z C nm ds) (lf n0 v)) :
    CellOk Z a0 n0 h' a (.inl (C, fs.set j (nm, ds, v))) := by
  obtain ⟨E, I, N, F⟩ := K
  have hj := lt_of_at hf
  have hfm := List.mem_of_getElem? hf
  refine ⟨E.wr W', I, ?_, fun f hfm' => ?_⟩
  · have : (fs.set j (nm, ds, v)).map (·.1) = fs.map (·.1) := by
      rw [List.map_set]
      apply List.ext_getElem? 
      intro i
      by_cases q : i = j
      · subst q
        rw [List.getElem?_set_self (by simpa using hj)]
        simp [hf]
      · rw [List.getElem?_set_ne (Ne.symm q)]
    rw [this]; exact N
  · obtain ⟨i, hi⟩ := List.getElem?_of_mem hfm'
    by_cases q : i = j
    · subst q
      rw [List.getElem?_set_self hj] at hi
      cases hi
      exact ⟨(F _ hfm).1, (F _ hfm).2.1, (F _ hfm).2.2.same W'⟩
    · rw [List.getElem?_set_ne (Ne.symm q)] at hi
      have hm := List.mem_of_getElem? hi
      obtain ⟨t1, ht1⟩ := (F _ hm).2.1
      obtain ⟨t2, ht2⟩ := (F _ hfm).2.1
      refine ⟨(F _ hm).1, (F _ hm).2.1, (F _ hm).2.2.other W' (Or.inr (slot_ne (F _ hm).1 (F _ hfm).1 (fun e => q ?_) ht1 ht2))⟩
      have n1 : (fs.map (·.1))[i]? = some f.1 := by simp [hi]
      have n2 : (fs.map (·.1))[j]? = some nm := by simp [hf]
      have li := lt_of_at n1
      have lj := lt_of_at n2
      refine (List.getElem_inj (h₀ := li) (h₁ := lj) N).mp ?_
      have e1 := (List.getElem?_eq_some_iff.mp n1).2
      have e2 := (List.getElem?_eq_some_iff.mp n2).2
      rw [e1, e2]; exact e
theorem putfield' (hw : ∀ d ∈ W, d.before a0 Z = true) {i i2 idx a j : Nat} {C nm ds : String} {fs fs' : List (String × String × Value)} {old v : Value} {ty : FieldType} {H' : SH} (w : W[i]? = some (.fieldLink B.1.cls idx C nm ds))
    (w2 : W[i2]? = some (.lays C C nm ds) ∨ (W[i2]? = some (.laysFinal C C nm ds) ∧ B.1.cls = C ∧ B.1.name = "<init>")) (d : decode B.2.1 pc = .ok (.putfield idx, 3))
    (hH : H[a]? = some (.inl (C, fs))) (hf : fs[j]? = some (nm, ds, old)) (hty : parseFieldDescriptor ds = some ty) (hn : narrow ty v = v) (hfit : fits ty v = true) (hset1 : fs.set j (nm, ds, v) = fs') (hset : H.set a (.inl (C, fs')) = H')
    (hr : WP l Z a0 n0 B R k n (pc + 3) L S H' Q) : WP l Z a0 n0 B R k n pc L (v :: .ref a :: S) H Q := by
  intro p e s m args below meth c T locs X hx hc hml hret hlk hZ hown hnm hF hR
  have K0 := hR.2 a _ hH
  have K := K0.2.2.2 _ (List.mem_of_getElem? hf)
  obtain ⟨kk, hk⟩ := K0.2.1
  obtain ⟨T', h', X', e', W', st⟩ := putF X hx hZ hown (host := "") (Or.inl (hw _ (List.mem_of_getElem? w))) Via.refl rfl K.2.2 K0.1 (w2.imp (fun q => hw _ (List.mem_of_getElem? q)) (fun q => ⟨hw _ (List.mem_of_getElem? q.1), q.2.1, hnm.trans q.2.2⟩)) hk hty (lf_narrow hn) (lf_fits hfit) (g := mkF m pc (LL n0 L) ((v :: Value.ref a :: S).map (lf n0))) rfl rfl (hb hc d)
  have hR' : Rep Z a0 n0 T'.heap H' := by
    rw [e', ← hset, ← hset1]
    exact hR.set W' (lt_of_at hH) (put_ok K0 hf W')
  obtain ⟨t, o, h1, h2⟩ := hr p e s m args below meth c T' _ X' hx hc hml hret hlk hZ hown hnm (Fr.snoc X' hF (Nat.le_add_right _ _)) hR'
  exact ⟨t, o, st _ h1, h2⟩
theorem putfield (hw : ∀ d ∈ W, d.before a0 Z = true) {i i2 idx a j : Nat} {C nm ds : String} {fs fs' : List (String × String × Value)} {old v : Value} {ty : FieldType} {H' : SH} (w : W[i]? = some (.fieldLink B.1.cls idx C nm ds))
    (w2 : W[i2]? = some (.lays C C nm ds)) (d : decode B.2.1 pc = .ok (.putfield idx, 3))
    (hH : H[a]? = some (.inl (C, fs))) (hf : fs[j]? = some (nm, ds, old)) (hty : parseFieldDescriptor ds = some ty) (hn : narrow ty v = v) (hfit : fits ty v = true) (hset1 : fs.set j (nm, ds, v) = fs') (hset : H.set a (.inl (C, fs')) = H')
    (hr : WP l Z a0 n0 B R k n (pc + 3) L S H' Q) : WP l Z a0 n0 B R k n pc L (v :: .ref a :: S) H Q := putfield' hw w (Or.inl w2) d hH hf hty hn hfit hset1 hset hr
theorem putfieldF (hw : ∀ d ∈ W, d.before a0 Z = true) {i i2 idx a j : Nat} {C nm ds : String} {fs fs' : List (String × String × Value)} {old v : Value} {ty : FieldType} {H' : SH} (w : W[i]? = some (.fieldLink B.1.cls idx C nm ds))
    (w2 : W[i2]? = some (.laysFinal C C nm ds)) (hC : B.1.cls = C) (hI : B.1.name = "<init>") (d : decode B.2.1 pc = .ok (.putfield idx, 3))
    (hH : H[a]? = some (.inl (C, fs))) (hf : fs[j]? = some (nm, ds, old)) (hty : parseFieldDescriptor ds = some ty) (hn : narrow ty v = v) (hfit : fits ty v = true) (hset1 : fs.set j (nm, ds, v) = fs') (hset : H.set a (.inl (C, fs')) = H')
    (hr : WP l Z a0 n0 B R k n (pc + 3) L S H' Q) : WP l Z a0 n0 B R k n pc L (v :: .ref a :: S) H Q := putfield' hw w (Or.inr ⟨w2, hC, hI⟩) d hH hf hty hn hfit hset1 hset hr
theorem newobj (hw : ∀ d ∈ W, d.before a0 Z = true) {i1 i2 i3 idx cnt a k' n' : Nat} {C : String} {fs : List (String × String × Value)} {H' : SH} (w1 : W[i1]? = some (.classLink B.1.cls idx C)) (w2 : W[i2]? = some (.instantiable C cnt)) (w3 : W[i3]? = some (.initialized C)) (d : decode B.2.1 pc = .ok (.new idx, 3))
    (hfs : ∀ f ∈ fs, (.lays C C f.1 f.2.1 ∈ W ∨ .laysFinal C C f.1 f.2.1 ∈ W) ∧ ∃ ty, parseFieldDescriptor f.2.1 = some ty ∧ defaultValue ty = f.2.2) (hnd : (fs.map (·.1)).Nodup) (hc : k + 1 ≤ R.cells) (hl : n + cnt ≤ R.slots) (hk : k + 1 = k') (hn : n + cnt = n') (hlen : H.length = a) (happ : H ++ [.inl (C, fs)] = H')
    (hr : WP l Z a0 n0 B R k' n' (pc + 3) L (.ref a :: S) H' Q) : WP l Z a0 n0 B R k n pc L S H Q := by
  intro p e s m args below meth c T locs X hx hc' hml hret hlk hZ hown hnm hF hR
  subst hk hn hlen happ
  have v1 := hw _ (List.mem_of_getElem? w1)
  have v2 := hw _ (List.mem_of_getElem? w2)
  have v3 := hw _ (List.mem_of_getElem? w3)
  obtain ⟨vm', cC, kC, h1, h2, h3, h4, X', st⟩ := X.newCold hx hown (mv hZ v1) (mv hZ v2) (mv hZ v3) (g := mkF m pc (LL n0 L) (S.map (lf n0))) rfl (hb hc' d) hc hl
  rw [hZ.alike.findClass] at h1
  obtain ⟨kZ, z1, -⟩ := Vm.findClass_spec h1
  obtain ⟨kx, z2, z3⟩ := hZ.alike.2.2 _ _ z1
  cases h2.symm.trans z2
  have ei : kC.instanceTypes = kZ.instanceTypes := by rw [z3]
  have hN : (T.heap.push { cls := cC, slots := kC.instanceTypes.map defaultValue, vm := .none })[T.heap.size]? = some { cls := cC, slots := kC.instanceTypes.map defaultValue, vm := .none } := by simp
  have E : Exa Z (T.heap.push { cls := cC, slots := kC.instanceTypes.map defaultValue, vm := .none }) T.heap.size C := ⟨_, kZ, hN, h1, z1, rfl, fun _ => by simp [ei]⟩
  have hR' : Rep Z a0 n0 (T.heap.push { cls := cC, slots := kC.instanceTypes.map defaultValue, vm := .none }) (H ++ [.inl (C, fs)]) := by
    refine hR.push (ext_push _ _) (by simp) ⟨E, ⟨_, v2⟩, hnd, fun f hf => ?_⟩
    obtain ⟨hL, ty, ht, hdv⟩ := hfs f hf
    have LD : Laid Z a0 C C f.1 f.2.1 := hL.imp (fun q => hw _ q) (fun q => hw _ q)
    refine ⟨LD, ⟨ty, ht⟩, ?_⟩
    obtain ⟨c1, k1, cf, kf, i, fd, b1, b2, b3, b4, b5, b6, -⟩ := LD.spec
    cases h1.symm.trans b1
    cases z1.symm.trans b2
    rw [← hdv, lf_default]
    exact ⟨_, cf, kf, i, fd, hN, b3, b4, by simp, rfl, b5, by simp [ei, b6, (State.fieldFound?_type b3 ht).2]⟩
  obtain ⟨t, o, g1, g2⟩ := hr p e s m args below meth c _ locs X' hx hc' hml hret hlk hZ hown hnm hF hR'
  refine ⟨t, o, st _ ?_, g2⟩
  rw [hR.1]
  exact g1
theorem newarr (hw : ∀ d ∈ W, d.before a0 Z = true) {i N cap a k' n' : Nat} {aty : ArrayType} {ty : FieldType} {dv : Value} {vs : List Value} {x : Int32} {H' : SH} (w : W[i]? = some (.arrayClass ty)) (hty : newarray.typeOf aty = ty) (d : decode B.2.1 pc = .ok (.newarray aty, 2))
    (hdv : defaultValue ty = dv) (hx0 : ¬ x < 0) (hN : x.toNatClampNeg = N) (hvs : List.replicate N dv = vs) (hcap : N ≤ cap) (hb' : cap * 8 ≤ 536870912) (hc : k + 1 ≤ R.cells) (hl : n + cap ≤ R.slots) (hk : k + 1 = k') (hn : n + cap = n') (hlen : H.length = a) (happ : H ++ [.inr (ty, vs)] = H')
    (hr : WP l Z a0 n0 B R k' n' (pc + 2) L (.ref a :: S) H' Q) : WP l Z a0 n0 B R k n pc L (.int x :: S) H Q := by
  intro p e s m args below meth c T locs X hx hc' hml hret hlk hZ hown hnm hF hR
  subst hk hn hlen happ hty hN hdv hvs
  have v1 := hw _ (List.mem_of_getElem? w)
  have hcb : componentBytes (newarray.typeOf aty) ≤ 8 := by cases aty <;> decide
  obtain ⟨cA, kA, comp, h1, h2, h3, X', st⟩ := X.newarrayPrim hx (mvA hZ v1) (g := mkF m pc (LL n0 L) ((Value.int x :: S).map (lf n0))) rfl (hb hc' d) rfl hx0 (Nat.le_trans (Nat.mul_le_mul hcap hcb) hb') hc (by omega)
  rw [hZ.alike.findClass] at h1
  obtain ⟨kZ, z1, -⟩ := Vm.findClass_spec h1
  obtain ⟨kx, z2, z3⟩ := hZ.alike.2.2 _ _ z1
  cases h2.symm.trans z2
  have hR' : Rep Z a0 n0 (T.heap.push { cls := cA, slots := Array.replicate x.toNatClampNeg (defaultValue (newarray.typeOf aty)), vm := .none }) (H ++ [.inr (newarray.typeOf aty, List.replicate x.toNatClampNeg (defaultValue (newarray.typeOf aty)))]) := by
    refine hR.push (ext_push _ _) (by simp) ⟨_, ⟨by simp; rfl, ⟨by simp, kZ, z1, comp, by rw [← h3, z3]⟩, by simp⟩, ?_, ?_⟩
    · apply Array.toList_inj.mp
      simp [lf_default]
    · have := (back32 hx0).2
      simpa using this
  obtain ⟨t, o, g1, g2⟩ := hr p e s m args below meth c _ locs (X'.more (Nat.le_refl _) (by omega)) hx hc' hml hret hlk hZ hown hnm hF hR'
  refine ⟨t, o, st _ ?_, g2⟩
  rw [hR.1]
  exact g1
theorem arr_at {h : Heap} {a : Nat} {ty : FieldType} {vs : List Value} {j : Int32} {jn : Nat} (hR : Rep Z a0 n0 h H) (hH : H[a]? = some (.inr (ty, vs))) (hj0 : ¬ j < 0) (hj : j.toNatClampNeg = jn) (hlt : jn < vs.length) :
    ∃ c : Cell, Arr Z h (n0 + a) c ty ∧ c.slots = (vs.map (lf n0)).toArray ∧ vs.length < 2 ^ 31 ∧ ¬ (j < 0 ∨ c.slots.size ≤ j.toNatClampNeg) := by
  obtain ⟨c, A, e, hl⟩ := hR.2 a _ hH
  refine ⟨c, A, e, hl, fun q => q.elim hj0 fun q => ?_⟩
  rw [e, hj] at q
  simp at q
  omega
theorem load_at {c : Cell} {vs : List Value} {j : Int32} {jn : Nat} {v : Value} (e : c.slots = (vs.map (lf n0)).toArray) (hj : j.toNatClampNeg = jn) (hv : vs[jn]? = some v) : c.slots[j.toNatClampNeg]? = some (lf n0 v) := by
  rw [e, hj]; simp [hv]
theorem iaload {a jn : Nat} {vs : List Value} {j : Int32} {v : Value} (d : decode B.2.1 pc = .ok (.iaload, 1)) (hH : H[a]? = some (.inr (.int, vs))) (hj0 : ¬ j < 0) (hj : j.toNatClampNeg = jn) (hv : vs[jn]? = some v)
    (hr : WP l Z a0 n0 B R k n (pc + 1) L (v :: S) H Q) : WP l Z a0 n0 B R k n pc L (.int j :: .ref a :: S) H Q := by
  intro p e s m args below meth c T locs X hx hc hml hret hlk hZ hown hnm hF hR
  obtain ⟨cl, A, es, -, hin⟩ := arr_at hR hH hj0 hj (lt_of_at hv)
  obtain ⟨t, o, h1, h2⟩ := hr p e s m args below meth c T locs X hx hc hml hret hlk hZ hown hnm hF hR
  exact ⟨t, o, X.iaload hx A.1 (State.isArrayOf_alike hZ.alike A.2.1) A.2.2 hin (load_at es hj hv) (g := mkF m pc (LL n0 L) ((Value.int j :: Value.ref a :: S).map (lf n0))) rfl rfl (hb hc d) _ h1, h2⟩
theorem laload {a jn : Nat} {vs : List Value} {j : Int32} {v : Value} (d : decode B.2.1 pc = .ok (.laload, 1)) (hH : H[a]? = some (.inr (.long, vs))) (hj0 : ¬ j < 0) (hj : j.toNatClampNeg = jn) (hv : vs[jn]? = some v)
    (hr : WP l Z a0 n0 B R k n (pc + 1) L (v :: S) H Q) : WP l Z a0 n0 B R k n pc L (.int j :: .ref a :: S) H Q := by
  intro p e s m args below meth c T locs X hx hc hml hret hlk hZ hown hnm hF hR
  obtain ⟨cl, A, es, -, hin⟩ := arr_at hR hH hj0 hj (lt_of_at hv)
  obtain ⟨t, o, h1, h2⟩ := hr p e s m args below meth c T locs X hx hc hml hret hlk hZ hown hnm hF hR
  exact ⟨t, o, X.laload hx A.1 (State.isArrayOf_alike hZ.alike A.2.1) A.2.2 hin (load_at es hj hv) (g := mkF m pc (LL n0 L) ((Value.int j :: Value.ref a :: S).map (lf n0))) rfl rfl (hb hc d) _ h1, h2⟩
theorem baload {a jn : Nat} {vs : List Value} {j : Int32} {v : Value} (d : decode B.2.1 pc = .ok (.baload, 1)) (hH : H[a]? = some (.inr (.byte, vs))) (hj0 : ¬ j < 0) (hj : j.toNatClampNeg = jn) (hv : vs[jn]? = some v)
    (hr : WP l Z a0 n0 B R k n (pc + 1) L (v :: S) H Q) : WP l Z a0 n0 B R k n pc L (.int j :: .ref a :: S) H Q := by
  intro p e s m args below meth c T locs X hx hc hml hret hlk hZ hown hnm hF hR
  obtain ⟨cl, A, es, -, hin⟩ := arr_at hR hH hj0 hj (lt_of_at hv)
  obtain ⟨t, o, h1, h2⟩ := hr p e s m args below meth c T locs X hx hc hml hret hlk hZ hown hnm hF hR
  exact ⟨t, o, X.baloadBytes hx A.1 (State.isArrayOf_alike hZ.alike A.2.1) A.2.2 hin (load_at es hj hv) (g := mkF m pc (LL n0 L) ((Value.int j :: Value.ref a :: S).map (lf n0))) rfl rfl (hb hc d) _ h1, h2⟩
theorem set_rep {h h' : Heap} {a jn : Nat} {ty : FieldType} {vs vs' : List Value} {c : Cell} {v : Value} {H' : SH} (hR : Rep Z a0 n0 h H) (hH : H[a]? = some (.inr (ty, vs))) (A : Arr Z h (n0 + a) c ty) (es : c.slots = (vs.map (lf n0)).toArray) (hlen : vs.length < 2 ^ 31) (W' : Wr h h' (n0 + a) jn (lf n0 v))
    (hset : vs.set jn v = vs') (hset2 : H.set a (.inr (ty, vs')) = H') : Rep Z a0 n0 h' H' := by
  subst hset hset2
  refine hR.set W' (lt_of_at hH) ⟨_, A.same W', ?_, by simpa using hlen⟩
  simp only [Cell.setSlot, es]
  apply Array.toList_inj.mp
  simp [List.map_set]
theorem iastore {a jn : Nat} {vs vs' : List Value} {j x : Int32} {H' : SH} (d : decode B.2.1 pc = .ok (.iastore, 1)) (hH : H[a]? = some (.inr (.int, vs))) (hj0 : ¬ j < 0) (hj : j.toNatClampNeg = jn) (hlt : jn < vs.length) (hset : vs.set jn (.int x) = vs') (hset2 : H.set a (.inr (.int, vs')) = H')
    (hr : WP l Z a0 n0 B R k n (pc + 1) L S H' Q) : WP l Z a0 n0 B R k n pc L (.int x :: .int j :: .ref a :: S) H Q := by
  intro p e s m args below meth c T locs X hx hc hml hret hlk hZ hown hnm hF hR
  obtain ⟨cl, A, es, hlen, hin⟩ := arr_at hR hH hj0 hj hlt
  obtain ⟨T', h', X', e', W', st⟩ := stI X hx hZ rfl A hin (g := mkF m pc (LL n0 L) ((Value.int x :: Value.int j :: Value.ref a :: S).map (lf n0))) rfl rfl (hb hc d)
  obtain ⟨t, o, h1, h2⟩ := hr p e s m args below meth c T' _ X' hx hc hml hret hlk hZ hown hnm (Fr.snoc X' hF (Nat.le_add_right _ _)) (by rw [e']; exact set_rep hR hH A es hlen (hj ▸ W') hset hset2)
  exact ⟨t, o, st _ h1, h2⟩
theorem lastore {a jn : Nat} {vs vs' : List Value} {j : Int32} {x : Int64} {H' : SH} (d : decode B.2.1 pc = .ok (.lastore, 1)) (hH : H[a]? = some (.inr (.long, vs))) (hj0 : ¬ j < 0) (hj : j.toNatClampNeg = jn) (hlt : jn < vs.length) (hset : vs.set jn (.long x) = vs') (hset2 : H.set a (.inr (.long, vs')) = H')
    (hr : WP l Z a0 n0 B R k n (pc + 1) L S H' Q) : WP l Z a0 n0 B R k n pc L (.long x :: .int j :: .ref a :: S) H Q := by
  intro p e s m args below meth c T locs X hx hc hml hret hlk hZ hown hnm hF hR
  obtain ⟨cl, A, es, hlen, hin⟩ := arr_at hR hH hj0 hj hlt
  obtain ⟨T', h', X', e', W', st⟩ := stJ X hx hZ rfl A hin (g := mkF m pc (LL n0 L) ((Value.long x :: Value.int j :: Value.ref a :: S).map (lf n0))) rfl rfl (hb hc d)
  obtain ⟨t, o, h1, h2⟩ := hr p e s m args below meth c T' _ X' hx hc hml hret hlk hZ hown hnm (Fr.snoc X' hF (Nat.le_add_right _ _)) (by rw [e']; exact set_rep hR hH A es hlen (hj ▸ W') hset hset2)
  exact ⟨t, o, st _ h1, h2⟩
theorem bastore {a jn : Nat} {vs vs' : List Value} {j x y : Int32} {H' : SH} (d : decode B.2.1 pc = .ok (.bastore, 1)) (hH : H[a]? = some (.inr (.byte, vs))) (hj0 : ¬ j < 0) (hj : j.toNatClampNeg = jn) (hlt : jn < vs.length) (hy : x.toInt8.toInt32 = y) (hset : vs.set jn (.int y) = vs') (hset2 : H.set a (.inr (.byte, vs')) = H')
    (hr : WP l Z a0 n0 B R k n (pc + 1) L S H' Q) : WP l Z a0 n0 B R k n pc L (.int x :: .int j :: .ref a :: S) H Q := by
  intro p e s m args below meth c T locs X hx hc hml hret hlk hZ hown hnm hF hR
  obtain ⟨cl, A, es, hlen, hin⟩ := arr_at hR hH hj0 hj hlt
  obtain ⟨T', h', X', e', W', st⟩ := stB X hx hZ rfl A hin (g := mkF m pc (LL n0 L) ((Value.int x :: Value.int j :: Value.ref a :: S).map (lf n0))) rfl rfl (hb hc d)
  subst hy
  obtain ⟨t, o, h1, h2⟩ := hr p e s m args below meth c T' _ X' hx hc hml hret hlk hZ hown hnm (Fr.snoc X' hF (Nat.le_add_right _ _)) (by rw [e']; exact set_rep (v := .int x.toInt8.toInt32) hR hH A es hlen (hj ▸ W') hset hset2)
  exact ⟨t, o, st _ h1, h2⟩
theorem arraylength {a : Nat} {ty : FieldType} {vs : List Value} {N : Int32} (d : decode B.2.1 pc = .ok (.arraylength, 1)) (hH : H[a]? = some (.inr (ty, vs))) (hN : vs.length.toInt32 = N) (hr : WP l Z a0 n0 B R k n (pc + 1) L (.int N :: S) H Q) : WP l Z a0 n0 B R k n pc L (.ref a :: S) H Q := by
  intro p e s m args below meth c T locs X hx hc hml hret hlk hZ hown hnm hF hR
  obtain ⟨cl, A, es, -⟩ := hR.2 a _ hH
  obtain ⟨t, o, h1, h2⟩ := hr p e s m args below meth c T locs X hx hc hml hret hlk hZ hown hnm hF hR
  refine ⟨t, o, X.arraylength hx A.1 (State.isArrayOf_alike hZ.alike A.2.1) (g := mkF m pc (LL n0 L) ((Value.ref a :: S).map (lf n0))) rfl rfl (hb hc d) _ ?_, h2⟩
  have e1 : cl.slots.size.toInt32 = N := by rw [es, ← hN]; simp
  rw [e1]
  exact h1
/-! ### returns -/
theorem leave' {p : Program} {e : Env} {s : State} {m : MethodId} {args : Array Value} {below : List Frame} {meth : Method} {c : Code} {T : State} {locs : List Loc} (X : Stand p l e R s m args below meth c T locs k n) (hlk : meth.locks = false) {v : Option Value} (hv : meth.sig.returnType = none → v = none) (hF : Fr n0 locs) (hR : Rep Z a0 n0 T.heap H) (hQ : Q v H) (hk : k ≤ R.cells) (hn : n ≤ R.slots) {g : JFrame}
    (st : ∀ fs, (∀ (f : JFrame) (acts : List Action), f.method = m → f.locked = none → f.entered = [] → (doReturn e (T.setTop f) acts (v.map (lf n0))).1 = T.setFrames fs) → Steps p.tables e below (T.setTop g) (T.setFrames fs)) :
    ∃ t o, Steps p.tables e below (T.setTop g) t ∧ t.status = .running ∧ Ended t below o ∧
      ∃ v L', o = .returned (v.map (lf n0)) ∧ (∃ H', Q v H' ∧ Rep Z a0 n0 t.heap H') ∧ Fr n0 L' ∧ FrameEnd s o t L' R.cells R.slots := by
  obtain ⟨fs, hr, hrun, hended, hW, hsame⟩ := X.leave (v := v.map (lf n0)) (fun q => by rw [hv q]; rfl) hlk
  exact ⟨_, _, st fs hr, hrun, hended, v, locs, rfl, ⟨H, hQ, hR⟩, hF, ⟨_, rfl⟩, hW, hsame.mono hk hn⟩
theorem retI {x : Int32} (d : decode B.2.1 pc = .ok (.ireturn, 1)) (hrt : B.2.2.2 = some .int) (hk : k ≤ R.cells) (hn : n ≤ R.slots) (hQ : Q (some (.int x)) H) : WP l Z a0 n0 B R k n pc L (.int x :: S) H Q := by
  intro p e s m args below meth c T locs X hx hc hml hret hlk hZ hown hnm hF hR
  refine leave' X hlk (v := some (.int x)) (fun q => by rw [hret, hrt] at q; cases q) hF hR hQ hk hn fun fs hr => ?_
  exact retOut X hx (hret.trans hrt) rfl (Or.inl ⟨rfl, Or.inl rfl, x, rfl⟩) (hb hc d) hr
theorem retN {x y : Int32} {ty : FieldType} (d : decode B.2.1 pc = .ok (.ireturn, 1)) (hrt : B.2.2.2 = some ty) (ht : ty = .boolean ∨ ty = .byte ∨ ty = .char ∨ ty = .short) (hy : nar ty x = y) (hk : k ≤ R.cells) (hn : n ≤ R.slots) (hQ : Q (some (.int y)) H) : WP l Z a0 n0 B R k n pc L (.int x :: S) H Q := by
  intro p e s m args below meth c T locs X hx hc hml hret hlk hZ hown hnm hF hR
  subst hy
  refine leave' X hlk (v := some (.int (nar ty x))) (fun q => by rw [hret, hrt] at q; cases q) hF hR hQ hk hn fun fs hr => ?_
  exact RoadKit.retN X hx (hret.trans hrt) ht (hb hc d) hr
theorem retL {x : Int64} (d : decode B.2.1 pc = .ok (.lreturn, 1)) (hrt : B.2.2.2 = some .long) (hk : k ≤ R.cells) (hn : n ≤ R.slots) (hQ : Q (some (.long x)) H) : WP l Z a0 n0 B R k n pc L (.long x :: S) H Q := by
  intro p e s m args below meth c T locs X hx hc hml hret hlk hZ hown hnm hF hR
  refine leave' X hlk (v := some (.long x)) (fun q => by rw [hret, hrt] at q; cases q) hF hR hQ hk hn fun fs hr => ?_
  exact retOut X hx (hret.trans hrt) rfl (Or.inr (Or.inl ⟨rfl, rfl, x, rfl⟩)) (hb hc d) hr
theorem retA {v : Value} {ty : FieldType} (d : decode B.2.1 pc = .ok (.areturn, 1)) (hrt : B.2.2.2 = some ty) (ht : ty.isReference = true) (hv : v.isRef = true) (hk : k ≤ R.cells) (hn : n ≤ R.slots) (hQ : Q (some v) H) : WP l Z a0 n0 B R k n pc L (v :: S) H Q := by
  intro p e s m args below meth c T locs X hx hc hml hret hlk hZ hown hnm hF hR
  refine leave' X hlk (v := some v) (fun q => by rw [hret, hrt] at q; cases q) hF hR hQ hk hn fun fs hr => ?_
  refine retOut X hx (hret.trans hrt) ?_ (Or.inr (Or.inr (Or.inr (Or.inr ⟨rfl, ht, by rw [lf_isRef]; exact hv⟩)))) (hb hc d) hr
  cases ty <;> first | (cases ht; done) | rfl
theorem ret0 (d : decode B.2.1 pc = .ok (.return_, 1)) (hrt : B.2.2.2 = none) (hk : k ≤ R.cells) (hn : n ≤ R.slots) (hQ : Q none H) : WP l Z a0 n0 B R k n pc L [] H Q := by
  intro p e s m args below meth c T locs X hx hc hml hret hlk hZ hown hnm hF hR
  refine leave' X hlk (v := none) (fun _ => rfl) hF hR hQ hk hn fun fs hr => ?_
  exact X.returnOut hx (hret.trans hrt) (hb hc d) hr
/-! ### calls -/
theorem cat_sum (n0 : Nat) (S : List Value) : ((S.map (lf n0)).map fun v => v.category).sum = (S.map fun v => v.category).sum := by
  simp [List.map_map, Function.comp_def, lf_cat]
theorem lf_out (n0 : Nat) (v : Option Value) (S : List Value) : (v.map (lf n0)).toList ++ S.map (lf n0) = (v.toList ++ S).map (lf n0) := by cases v <;> simp
theorem rep_plain {h : Heap} {a : Nat} {c : SC} (hR : Rep Z a0 n0 h H) (hH : H[a]? = some c) : ∃ cell : Cell, h[n0 + a]? = some cell ∧ ∀ q, cell.vm ≠ .statics q := by
  have K := hR.2 a _ hH
  rcases c with ⟨C, fs⟩ | ⟨ty, vs⟩
  · exact K.1.cell
  · obtain ⟨c, A, -⟩ := K
    exact ⟨c, A.1, A.2.1.1⟩
variable {B' : Bdy} {R' : Room} {as S' : List Value} {Q' : Option Value → SH → Prop} {ps : List FieldType} {r : Option FieldType} {i1 i2 i3 i4 i5 idx k' n' : Nat}
theorem callS (hw : ∀ d ∈ W, d.before a0 Z = true) (w1 : W[i1]? = some (.methodLink B.1.cls idx B'.1)) (w2 : W[i2]? = some (.static B'.1)) (w3 : W[i3]? = some (.initialized B'.1.cls)) (w4 : W[i4]? = some (.code B'.1 B'.2.1 B'.2.2.1 B'.2.2.2))
    (hy : B'.1.cls ≠ "java/lang/invoke/MethodHandle" ∧ B'.1.cls ≠ "java/lang/invoke/VarHandle") (hM : Meth l Z a0 n0 B' R' as H Q') (d : decode B.2.1 pc = .ok (.invokestatic idx, 3)) (hS : S = as.reverse ++ S') (hL : L.length = B.2.2.1) (hd : parseMethodDescriptor B'.1.desc = some ⟨ps, r⟩) (hps : as.length = ps.length)
    (hf : R'.frames + 1 ≤ R.frames) (hl : (S'.map fun v => v.category).sum + (B'.2.2.1 + 11) + R'.locals ≤ R.locals) (hc : k + R'.cells ≤ R.cells) (hs : n + R'.slots ≤ R.slots) (hk : k + R'.cells = k') (hn : n + R'.slots = n')
    (hr : ∀ v H', Q' v H' → WP l Z a0 n0 B R k' n' (pc + 3) L (v.toList ++ S') H' Q) : WP l Z a0 n0 B R k n pc L S H Q := by
  intro p e s m args below meth c T locs X hx hc' hml hret hlk hZ hown hnm hF hR
  subst hk hn hS
  have v4 := hw _ (List.mem_of_getElem? w4)
  have v3 := hw _ (List.mem_of_getElem? w3)
  obtain ⟨_, _, ⟨T', L1, k1, n1⟩, -, X', ⟨L2, ⟨v, H', rfl, hq, hR', hF'⟩, e1, e2, e3⟩, st⟩ := Jvm.LawKit.callS X hx hown (mvT hZ (hw _ (List.mem_of_getElem? w1))) (mvT hZ (hw _ (List.mem_of_getElem? w2))) (mvT hZ v3) (mvT hZ v4) hy (W := (S'.map fun v => v.category).sum)
    (backOf (h := T.heap) (Q := fun v h L => ∃ v' H', v = v'.map (lf n0) ∧ Q' v' H' ∧ Rep Z a0 n0 h H' ∧ Fr n0 L) (hM T.heap [] hR) hZ v4 v3 hf hl) (g := mkF m pc (LL n0 L) ((as.reverse ++ S').map (lf n0))) rfl (by rw [hml, ← hL]; simp) (argsL := as.map (lf n0)) (rest := S'.map (lf n0)) (lenOf hd (by simpa using hps)) (by simp) (by show 2 * 0 + _ ≤ _; rw [cat_sum]; omega) (hb hc' d) (fun _ _ => ⟨rfl, rfl, hc, hs⟩)
  dsimp only [Pt.U, Pt.locs, Pt.cells, Pt.slots] at X' e1 e2 e3 hR' st
  subst e1 e2 e3
  obtain ⟨t, o, h1, h2⟩ := hr v H' hq p e s m args below meth c T' _ X' hx hc' hml hret hlk hZ hown hnm (Fr.app hF hF') hR'
  refine ⟨t, o, st _ ?_, h2⟩
  rw [lf_out]
  exact h1
theorem callI {a : Nat} (hw : ∀ d ∈ W, d.before a0 Z = true) (hi : B'.1.name = "<init>") (hret' : B'.2.2.2 = none) (w1 : W[i1]? = some (.methodLink B.1.cls idx B'.1)) (w2 : W[i2]? = some (.instanceMethod B'.1)) (w3 : W[i3]? = some (.initialized B'.1.cls)) (w4 : W[i4]? = some (.code B'.1 B'.2.1 B'.2.2.1 B'.2.2.2))
    (hy : B'.1.cls ≠ "java/lang/invoke/MethodHandle" ∧ B'.1.cls ≠ "java/lang/invoke/VarHandle") (hM : Meth l Z a0 n0 B' R' (.ref a :: as) H Q') (d : decode B.2.1 pc = .ok (.invokespecial idx, 3)) (hS : S = as.reverse ++ .ref a :: S') (hL : L.length = B.2.2.1) (hd : parseMethodDescriptor B'.1.desc = some ⟨ps, r⟩) (hps : as.length = ps.length)
    (hf : R'.frames + 1 ≤ R.frames) (hl : (S'.map fun v => v.category).sum + (B'.2.2.1 + 11) + R'.locals ≤ R.locals) (hc : k + R'.cells ≤ R.cells) (hs : n + R'.slots ≤ R.slots) (hk : k + R'.cells = k') (hn : n + R'.slots = n')
    (hr : ∀ v H', Q' v H' → WP l Z a0 n0 B R k' n' (pc + 3) L (v.toList ++ S') H' Q) : WP l Z a0 n0 B R k n pc L S H Q := by
  intro p e s m args below meth c T locs X hx hc' hml hret hlk hZ hown hnm hF hR
  subst hk hn hS
  have v4 := hw _ (List.mem_of_getElem? w4)
  have v3 := hw _ (List.mem_of_getElem? w3)
  obtain ⟨_, _, ⟨T', L1, k1, n1⟩, -, X', ⟨L2, ⟨v, H', rfl, hq, hR', hF'⟩, e1, e2, e3⟩, st⟩ := X.specialBack hx hi hown (mvT hZ (hw _ (List.mem_of_getElem? w1))) (mvT hZ (hw _ (List.mem_of_getElem? w2))) (bytes := B'.2.1) (maxL := B'.2.2.1) (by rw [← hret']; exact mvT hZ v4) hy (W := (S'.map fun v => v.category).sum)
    (backOf (h := T.heap) (Q := fun v h L => ∃ v' H', v = v'.map (lf n0) ∧ Q' v' H' ∧ Rep Z a0 n0 h H' ∧ Fr n0 L) (hM T.heap [] hR) hZ v4 v3 hf hl) (g := mkF m pc (LL n0 L) ((as.reverse ++ Value.ref a :: S').map (lf n0))) rfl (by rw [hml, ← hL]; simp) (Steps.refl _) (a := n0 + a) (argsL := as.map (lf n0)) (rest := S'.map (lf n0)) (lenOf hd (by simpa using hps)) (by simp [lf]) (by show 2 * 0 + _ ≤ _; rw [cat_sum]; omega) (hb hc' d) (fun _ _ => ⟨rfl, rfl, hc, hs⟩)
  dsimp only [Pt.U, Pt.locs, Pt.cells, Pt.slots] at X' e1 e2 e3 hR' st
  subst e1 e2 e3
  obtain ⟨t, o, h1, h2⟩ := hr v H' hq p e s m args below meth c T' _ X' hx hc' hml hret hlk hZ hown hnm (Fr.app hF hF') hR'
  refine ⟨t, o, st.trans ?_, h2⟩
  rw [lf_out]
  exact h1
theorem callV {a : Nat} {fs : List (String × String × Value)} (hw : ∀ d ∈ W, d.before a0 Z = true) (w1 : W[i1]? = some (.methodLink B.1.cls idx B'.1)) (w5 : W[i5]? = some (.declares B'.1)) (w2 : W[i2]? = some (.instanceMethod B'.1)) {i6 : Nat} (w6 : W[i6]? = some (.selects B'.1.cls B'.1 B'.1)) (w3 : W[i3]? = some (.initialized B'.1.cls)) (w4 : W[i4]? = some (.code B'.1 B'.2.1 B'.2.2.1 B'.2.2.2))
    (hy : B'.1.cls ≠ "java/lang/invoke/MethodHandle" ∧ B'.1.cls ≠ "java/lang/invoke/VarHandle") (hH : H[a]? = some (.inl (B'.1.cls, fs))) (hM : Meth l Z a0 n0 B' R' (.ref a :: as) H Q') (d : decode B.2.1 pc = .ok (.invokevirtual idx, 3)) (hS : S = as.reverse ++ .ref a :: S') (hL : L.length = B.2.2.1) (hd : parseMethodDescriptor B'.1.desc = some ⟨ps, r⟩) (hps : as.length = ps.length)
    (hf : R'.frames + 1 ≤ R.frames) (hl : (S'.map fun v => v.category).sum + (B'.2.2.1 + 11) + R'.locals ≤ R.locals) (hc : k + R'.cells ≤ R.cells) (hs : n + R'.slots ≤ R.slots) (hk : k + R'.cells = k') (hn : n + R'.slots = n')
    (hr : ∀ v H', Q' v H' → WP l Z a0 n0 B R k' n' (pc + 3) L (v.toList ++ S') H' Q) : WP l Z a0 n0 B R k n pc L S H Q := by
  intro p e s m args below meth c T locs X hx hc' hml hret hlk hZ hown hnm hF hR
  subst hk hn hS
  have v4 := hw _ (List.mem_of_getElem? w4)
  have v3 := hw _ (List.mem_of_getElem? w3)
  have v6 := hw _ (List.mem_of_getElem? w6)
  obtain ⟨cB, kB, f1, f2, f3⟩ := isOf hZ rfl (hR.2 a _ hH).1
  obtain ⟨_, _, ⟨T', L1, k1, n1⟩, -, X', ⟨L2, ⟨v, H', rfl, hq, hR', hF'⟩, e1, e2, e3⟩, st⟩ := X.virtualBack hx hown (mvT hZ (hw _ (List.mem_of_getElem? w1))) (mvT hZ (hw _ (List.mem_of_getElem? w5))) (notFace_of_selects (args := #[]) (mvT hZ v6)) (mvT hZ v6) (mvT hZ (hw _ (List.mem_of_getElem? w2))) hy (W := (S'.map fun v => v.category).sum)
    (backOf (h := T.heap) (Q := fun v h L => ∃ v' H', v = v'.map (lf n0) ∧ Q' v' H' ∧ Rep Z a0 n0 h H' ∧ Fr n0 L) (hM T.heap [] hR) hZ v4 v3 hf hl) f1 f3 (g := mkF m pc (LL n0 L) ((as.reverse ++ Value.ref a :: S').map (lf n0))) rfl (by rw [hml, ← hL]; simp) (Steps.refl _) (argsL := as.map (lf n0)) (rest := S'.map (lf n0)) (lenOf hd (by simpa using hps)) (by simp [lf]) (by show 2 * 0 + _ ≤ _; rw [cat_sum]; omega) (hb hc' d) (fun _ _ => ⟨rfl, rfl, hc, hs⟩)
  dsimp only [Pt.U, Pt.locs, Pt.cells, Pt.slots] at X' e1 e2 e3 hR' st
  subst e1 e2 e3
  obtain ⟨t, o, h1, h2⟩ := hr v H' hq p e s m args below meth c T' _ X' hx hc' hml hret hlk hZ hown hnm (Fr.app hF hF') hR'
  refine ⟨t, o, st.trans ?_, h2⟩
  rw [lf_out]
  exact h1
/-- a private instance method: its class is no interface, as some 'instantiable' word of it says -/
theorem callP {a : Nat} {fs : List (String × String × Value)} (hw : ∀ d ∈ W, d.before a0 Z = true) (w1 : W[i1]? = some (.methodLink B.1.cls idx B'.1)) (w2 : W[i2]? = some (.instanceMethod B'.1)) (w5 : W[i5]? = some (.privateMethod B'.1)) {i6 cnt : Nat} (w6 : W[i6]? = some (.instantiable B'.1.cls cnt)) (w3 : W[i3]? = some (.initialized B'.1.cls)) (w4 : W[i4]? = some (.code B'.1 B'.2.1 B'.2.2.1 B'.2.2.2))
    (hy : B'.1.cls ≠ "java/lang/invoke/MethodHandle" ∧ B'.1.cls ≠ "java/lang/invoke/VarHandle") (hH : H[a]? = some (.inl (B'.1.cls, fs))) (hM : Meth l Z a0 n0 B' R' (.ref a :: as) H Q') (d : decode B.2.1 pc = .ok (.invokevirtual idx, 3)) (hS : S = as.reverse ++ .ref a :: S') (hL : L.length = B.2.2.1) (hd : parseMethodDescriptor B'.1.desc = some ⟨ps, r⟩) (hps : as.length = ps.length)
    (hf : R'.frames + 1 ≤ R.frames) (hl : (S'.map fun v => v.category).sum + (B'.2.2.1 + 11) + R'.locals ≤ R.locals) (hc : k + R'.cells ≤ R.cells) (hs : n + R'.slots ≤ R.slots) (hk : k + R'.cells = k') (hn : n + R'.slots = n')
    (hr : ∀ v H', Q' v H' → WP l Z a0 n0 B R k' n' (pc + 3) L (v.toList ++ S') H' Q) : WP l Z a0 n0 B R k n pc L S H Q := by
  intro p e s m args below meth c T locs X hx hc' hml hret hlk hZ hown hnm hF hR
  subst hk hn hS
  have v4 := hw _ (List.mem_of_getElem? w4)
  have v3 := hw _ (List.mem_of_getElem? w3)
  have v2 : (Jvm.Cond.instanceMethod B'.1).before args s = true := mvT hZ (hw _ (List.mem_of_getElem? w2))
  have vp := Cond.privateMethod_at (mvP hZ (hw _ (List.mem_of_getElem? w5)) (args := #[]))
  have v6 : (Jvm.Cond.instantiable B'.1.cls cnt).before args s = true := mv hZ (hw _ (List.mem_of_getElem? w6))
  obtain ⟨cI, kI, j1, j2, j3, j4⟩ := Cond.instantiable_spec v6
  have jI : kI.isInterface = false := (Bool.or_eq_false_iff.mp j4.1).1
  obtain ⟨cell, q1, q2⟩ := rep_plain hR hH
  obtain ⟨_, _, ⟨T', L1, k1, n1⟩, -, X', ⟨L2, ⟨v, H', rfl, hq, hR', hF'⟩, e1, e2, e3⟩, st⟩ := X.privateBack hx hown (mvT hZ (hw _ (List.mem_of_getElem? w1))) v2 (selects_self_of_private j1 j2 jI vp v2 hy) vp (mvT hZ v4) hy (W := (S'.map fun v => v.category).sum)
    (backOf (h := T.heap) (Q := fun v h L => ∃ v' H', v = v'.map (lf n0) ∧ Q' v' H' ∧ Rep Z a0 n0 h H' ∧ Fr n0 L) (hM T.heap [] hR) hZ v4 v3 hf hl) (g := mkF m pc (LL n0 L) ((as.reverse ++ Value.ref a :: S').map (lf n0))) rfl (by rw [hml, ← hL]; simp) (Steps.refl _) (a := n0 + a) q1 q2 (argsL := as.map (lf n0)) (rest := S'.map (lf n0)) (lenOf hd (by simpa using hps)) (by simp [lf]) (by show 2 * 0 + _ ≤ _; rw [cat_sum]; omega) (hb hc' d) (fun _ _ => ⟨rfl, rfl, hc, hs⟩)
  dsimp only [Pt.U, Pt.locs, Pt.cells, Pt.slots] at X' e1 e2 e3 hR' st
  subst e1 e2 e3
  obtain ⟨t, o, h1, h2⟩ := hr v H' hq p e s m args below meth c T' _ X' hx hc' hml hret hlk hZ hown hnm (Fr.app hF hF') hR'
  refine ⟨t, o, st.trans ?_, h2⟩
  rw [lf_out]
  exact h1
theorem initObj {a : Nat} (hw : ∀ d ∈ W, d.before a0 Z = true) (w1 : W[i1]? = some (.methodLink B.1.cls idx Lib.objectInit)) (w2 : W[i2]? = some (.instanceMethod Lib.objectInit)) (w3 : W[i3]? = some (.code Lib.objectInit ⟨#[0xb1]⟩ 1 none)) (d : decode B.2.1 pc = .ok (.invokespecial idx, 3)) (hL : L.length = B.2.2.1)
    (hf : 1 ≤ R.frames) (hl : (S.map fun v => v.category).sum + 12 ≤ R.locals) (hr : WP l Z a0 n0 B R k n (pc + 3) L S H Q) : WP l Z a0 n0 B R k n pc L (.ref a :: S) H Q := by
  intro p e s m args below meth c T locs X hx hc hml hret hlk hZ hown hnm hF hR
  obtain ⟨T', X', e', st⟩ := initO X hx hZ hown (hw _ (List.mem_of_getElem? w1)) (hw _ (List.mem_of_getElem? w2)) (hw _ (List.mem_of_getElem? w3)) rfl (g := mkF m pc (LL n0 L) ((Value.ref a :: S).map (lf n0))) rfl (by rw [hml, ← hL]; simp) (a := n0 + a) (rest := S.map (lf n0)) rfl (hb hc d) hf (W := (S.map fun v => v.category).sum) (by show 2 * 0 + _ ≤ _; rw [cat_sum]; omega) hl
  obtain ⟨t, o, h1, h2⟩ := hr p e s m args below meth c T' locs X' hx hc hml hret hlk hZ hown hnm hF (by rw [e']; exact hR)
  exact ⟨t, o, st _ h1, h2⟩
end
end Jvm.Sh
namespace Jvm.Sh
open Jvm Jvm.ClassFile Sem Op Lib
theorem le {a b : Nat} (h : Nat.ble a b = true) : a ≤ b := Nat.le_of_ble_eq_true h
theorem s1_3 {a0 a1 a2 o : Slot} {L : List Slot} {v : Value} (ho : okS o = true) (hv : v.category = 1) : stOK (a0 :: a1 :: a2 :: o :: L) 3 v (a0 :: a1 :: a2 :: .val v :: L) := st1 (o := o) rfl ho hv rfl
theorem s1_4 {a0 a1 a2 a3 o : Slot} {L : List Slot} {v : Value} (ho : okS o = true) (hv : v.category = 1) : stOK (a0 :: a1 :: a2 :: a3 :: o :: L) 4 v (a0 :: a1 :: a2 :: a3 :: .val v :: L) := st1 (o := o) rfl ho hv rfl
theorem s1_5 {a0 a1 a2 a3 a4 o : Slot} {L : List Slot} {v : Value} (ho : okS o = true) (hv : v.category = 1) : stOK (a0 :: a1 :: a2 :: a3 :: a4 :: o :: L) 5 v (a0 :: a1 :: a2 :: a3 :: a4 :: .val v :: L) := st1 (o := o) rfl ho hv rfl
theorem s1_11 {a0 a1 a2 a3 a4 a5 a6 a7 a8 a9 a10 o : Slot} {L : List Slot} {v : Value} (ho : okS o = true) (hv : v.category = 1) : stOK (a0 :: a1 :: a2 :: a3 :: a4 :: a5 :: a6 :: a7 :: a8 :: a9 :: a10 :: o :: L) 11 v (a0 :: a1 :: a2 :: a3 :: a4 :: a5 :: a6 :: a7 :: a8 :: a9 :: a10 :: .val v :: L) := st1 (o := o) rfl ho hv rfl
theorem s2_12 {a0 a1 a2 a3 a4 a5 a6 a7 a8 a9 a10 a11 o o2 : Slot} {L : List Slot} {v : Value} (ho : nS o = true) (h2 : n2 o2 = true) (hv : v.category = 2) : stOK (a0 :: a1 :: a2 :: a3 :: a4 :: a5 :: a6 :: a7 :: a8 :: a9 :: a10 :: a11 :: o :: o2 :: L) 12 v (a0 :: a1 :: a2 :: a3 :: a4 :: a5 :: a6 :: a7 :: a8 :: a9 :: a10 :: a11 :: .val v :: .second :: L) := st2 (o := o) (o2 := o2) rfl ho rfl h2 hv rfl
theorem s2_14 {a0 a1 a2 a3 a4 a5 a6 a7 a8 a9 a10 a11 a12 a13 o o2 : Slot} {L : List Slot} {v : Value} (ho : nS o = true) (h2 : n2 o2 = true) (hv : v.category = 2) : stOK (a0 :: a1 :: a2 :: a3 :: a4 :: a5 :: a6 :: a7 :: a8 :: a9 :: a10 :: a11 :: a12 :: a13 :: o :: o2 :: L) 14 v (a0 :: a1 :: a2 :: a3 :: a4 :: a5 :: a6 :: a7 :: a8 :: a9 :: a10 :: a11 :: a12 :: a13 :: .val v :: .second :: L) := st2 (o := o) (o2 := o2) rfl ho rfl h2 hv rfl
theorem s2_16 {a0 a1 a2 a3 a4 a5 a6 a7 a8 a9 a10 a11 a12 a13 a14 a15 o o2 : Slot} {L : List Slot} {v : Value} (ho : nS o = true) (h2 : n2 o2 = true) (hv : v.category = 2) : stOK (a0 :: a1 :: a2 :: a3 :: a4 :: a5 :: a6 :: a7 :: a8 :: a9 :: a10 :: a11 :: a12 :: a13 :: a14 :: a15 :: o :: o2 :: L) 16 v (a0 :: a1 :: a2 :: a3 :: a4 :: a5 :: a6 :: a7 :: a8 :: a9 :: a10 :: a11 :: a12 :: a13 :: a14 :: a15 :: .val v :: .second :: L) := st2 (o := o) (o2 := o2) rfl ho rfl h2 hv rfl
theorem s2_18 {a0 a1 a2 a3 a4 a5 a6 a7 a8 a9 a10 a11 a12 a13 a14 a15 a16 a17 o o2 : Slot} {L : List Slot} {v : Value} (ho : nS o = true) (h2 : n2 o2 = true) (hv : v.category = 2) : stOK (a0 :: a1 :: a2 :: a3 :: a4 :: a5 :: a6 :: a7 :: a8 :: a9 :: a10 :: a11 :: a12 :: a13 :: a14 :: a15 :: a16 :: a17 :: o :: o2 :: L) 18 v (a0 :: a1 :: a2 :: a3 :: a4 :: a5 :: a6 :: a7 :: a8 :: a9 :: a10 :: a11 :: a12 :: a13 :: a14 :: a15 :: a16 :: a17 :: .val v :: .second :: L) := st2 (o := o) (o2 := o2) rfl ho rfl h2 hv rfl
theorem s1_20 {a0 a1 a2 a3 a4 a5 a6 a7 a8 a9 a10 a11 a12 a13 a14 a15 a16 a17 a18 a19 o : Slot} {L : List Slot} {v : Value} (ho : okS o = true) (hv : v.category = 1) : stOK (a0 :: a1 :: a2 :: a3 :: a4 :: a5 :: a6 :: a7 :: a8 :: a9 :: a10 :: a11 :: a12 :: a13 :: a14 :: a15 :: a16 :: a17 :: a18 :: a19 :: o :: L) 20 v (a0 :: a1 :: a2 :: a3 :: a4 :: a5 :: a6 :: a7 :: a8 :: a9 :: a10 :: a11 :: a12 :: a13 :: a14 :: a15 :: a16 :: a17 :: a18 :: a19 :: .val v :: L) := st1 (o := o) rfl ho hv rfl
theorem s2_21 {a0 a1 a2 a3 a4 a5 a6 a7 a8 a9 a10 a11 a12 a13 a14 a15 a16 a17 a18 a19 a20 o o2 : Slot} {L : List Slot} {v : Value} (ho : nS o = true) (h2 : n2 o2 = true) (hv : v.category = 2) : stOK (a0 :: a1 :: a2 :: a3 :: a4 :: a5 :: a6 :: a7 :: a8 :: a9 :: a10 :: a11 :: a12 :: a13 :: a14 :: a15 :: a16 :: a17 :: a18 :: a19 :: a20 :: o :: o2 :: L) 21 v (a0 :: a1 :: a2 :: a3 :: a4 :: a5 :: a6 :: a7 :: a8 :: a9 :: a10 :: a11 :: a12 :: a13 :: a14 :: a15 :: a16 :: a17 :: a18 :: a19 :: a20 :: .val v :: .second :: L) := st2 (o := o) (o2 := o2) rfl ho rfl h2 hv rfl
theorem s1_23 {a0 a1 a2 a3 a4 a5 a6 a7 a8 a9 a10 a11 a12 a13 a14 a15 a16 a17 a18 a19 a20 a21 a22 o : Slot} {L : List Slot} {v : Value} (ho : okS o = true) (hv : v.category = 1) : stOK (a0 :: a1 :: a2 :: a3 :: a4 :: a5 :: a6 :: a7 :: a8 :: a9 :: a10 :: a11 :: a12 :: a13 :: a14 :: a15 :: a16 :: a17 :: a18 :: a19 :: a20 :: a21 :: a22 :: o :: L) 23 v (a0 :: a1 :: a2 :: a3 :: a4 :: a5 :: a6 :: a7 :: a8 :: a9 :: a10 :: a11 :: a12 :: a13 :: a14 :: a15 :: a16 :: a17 :: a18 :: a19 :: a20 :: a21 :: a22 :: .val v :: L) := st1 (o := o) rfl ho hv rfl
theorem s1_24 {a0 a1 a2 a3 a4 a5 a6 a7 a8 a9 a10 a11 a12 a13 a14 a15 a16 a17 a18 a19 a20 a21 a22 a23 o : Slot} {L : List Slot} {v : Value} (ho : okS o = true) (hv : v.category = 1) : stOK (a0 :: a1 :: a2 :: a3 :: a4 :: a5 :: a6 :: a7 :: a8 :: a9 :: a10 :: a11 :: a12 :: a13 :: a14 :: a15 :: a16 :: a17 :: a18 :: a19 :: a20 :: a21 :: a22 :: a23 :: o :: L) 24 v (a0 :: a1 :: a2 :: a3 :: a4 :: a5 :: a6 :: a7 :: a8 :: a9 :: a10 :: a11 :: a12 :: a13 :: a14 :: a15 :: a16 :: a17 :: a18 :: a19 :: a20 :: a21 :: a22 :: a23 :: .val v :: L) := st1 (o := o) rfl ho hv rfl
theorem s2_24 {a0 a1 a2 a3 a4 a5 a6 a7 a8 a9 a10 a11 a12 a13 a14 a15 a16 a17 a18 a19 a20 a21 a22 a23 o o2 : Slot} {L : List Slot} {v : Value} (ho : nS o = true) (h2 : n2 o2 = true) (hv : v.category = 2) : stOK (a0 :: a1 :: a2 :: a3 :: a4 :: a5 :: a6 :: a7 :: a8 :: a9 :: a10 :: a11 :: a12 :: a13 :: a14 :: a15 :: a16 :: a17 :: a18 :: a19 :: a20 :: a21 :: a22 :: a23 :: o :: o2 :: L) 24 v (a0 :: a1 :: a2 :: a3 :: a4 :: a5 :: a6 :: a7 :: a8 :: a9 :: a10 :: a11 :: a12 :: a13 :: a14 :: a15 :: a16 :: a17 :: a18 :: a19 :: a20 :: a21 :: a22 :: a23 :: .val v :: .second :: L) := st2 (o := o) (o2 := o2) rfl ho rfl h2 hv rfl
theorem sw_24 {a0 a1 a2 a3 a4 a5 a6 a7 a8 a9 a10 a11 a12 a13 a14 a15 a16 a17 a18 a19 a20 a21 a22 a23 o2 : Slot} {L : List Slot} {w v : Value} (hw : w.category = 2) (hv : v.category = 1) : stOK (a0 :: a1 :: a2 :: a3 :: a4 :: a5 :: a6 :: a7 :: a8 :: a9 :: a10 :: a11 :: a12 :: a13 :: a14 :: a15 :: a16 :: a17 :: a18 :: a19 :: a20 :: a21 :: a22 :: a23 :: .val w :: o2 :: L) 24 v (a0 :: a1 :: a2 :: a3 :: a4 :: a5 :: a6 :: a7 :: a8 :: a9 :: a10 :: a11 :: a12 :: a13 :: a14 :: a15 :: a16 :: a17 :: a18 :: a19 :: a20 :: a21 :: a22 :: a23 :: .val v :: .unset :: L) := st1w rfl hw (le (by simp [Nat.ble_eq])) hv rfl
section
variable {α : Type}
theorem ls_0 { o v : α} {L : List α} : (o :: L).set 0 v = v :: L := rfl
theorem ls_1 {a0 o v : α} {L : List α} : (a0 :: o :: L).set 1 v = a0 :: v :: L := rfl
theorem ls_2 {a0 a1 o v : α} {L : List α} : (a0 :: a1 :: o :: L).set 2 v = a0 :: a1 :: v :: L := rfl
theorem ls_3 {a0 a1 a2 o v : α} {L : List α} : (a0 :: a1 :: a2 :: o :: L).set 3 v = a0 :: a1 :: a2 :: v :: L := rfl
theorem ls_4 {a0 a1 a2 a3 o v : α} {L : List α} : (a0 :: a1 :: a2 :: a3 :: o :: L).set 4 v = a0 :: a1 :: a2 :: a3 :: v :: L := rfl
theorem ls_5 {a0 a1 a2 a3 a4 o v : α} {L : List α} : (a0 :: a1 :: a2 :: a3 :: a4 :: o :: L).set 5 v = a0 :: a1 :: a2 :: a3 :: a4 :: v :: L := rfl
theorem ls_6 {a0 a1 a2 a3 a4 a5 o v : α} {L : List α} : (a0 :: a1 :: a2 :: a3 :: a4 :: a5 :: o :: L).set 6 v = a0 :: a1 :: a2 :: a3 :: a4 :: a5 :: v :: L := rfl
theorem ap_0 { v : α} : [] ++ [v] = [v] := rfl
theorem ap_1 {a0 v : α} : [a0] ++ [v] = [a0, v] := rfl
theorem ap_2 {a0 a1 v : α} : [a0, a1] ++ [v] = [a0, a1, v] := rfl
theorem ap_3 {a0 a1 a2 v : α} : [a0, a1, a2] ++ [v] = [a0, a1, a2, v] := rfl
theorem rp_4 {v : α} : List.replicate 4 v = [v, v, v, v] := rfl
end
end Jvm.Sh
namespace Jvm.Sh
open Jvm Jvm.ClassFile Jvm.RoadKit
/-! small naturals as ints -/
theorem onToInt {a : Nat} (h : a < 2147483648) : (Int32.ofNat a).toInt = a := Int32.toInt_ofNat_of_lt h
theorem onLt {a b : Nat} (ha : a < 2147483648) (hb : b < 2147483648) : Int32.ofNat a < Int32.ofNat b ↔ a < b := by
  rw [Int32.lt_iff_toInt_lt, onToInt ha, onToInt hb]; omega
theorem onInj {a b : Nat} (ha : a < 2147483648) (hb : b < 2147483648) : Int32.ofNat a = Int32.ofNat b ↔ a = b := by
  rw [← Int32.toInt_inj, onToInt ha, onToInt hb]; omega
theorem onNN {a : Nat} (ha : a < 2147483648) : ¬ Int32.ofNat a < 0 := by
  rw [Int32.lt_iff_toInt_lt, onToInt ha, show (0 : Int32).toInt = 0 from by decide]; omega
theorem onCl {a : Nat} (ha : a < 2147483648) : (Int32.ofNat a).toNatClampNeg = a := by
  rw [Int32.toNatClampNeg, onToInt ha]; omega
theorem onAdd (a b : Nat) : Int32.ofNat a + Int32.ofNat b = Int32.ofNat (a + b) := (Int32.ofNat_add a b).symm
theorem onSucc (a : Nat) : Int32.ofNat a + 1 = Int32.ofNat (a + 1) := onAdd a 1
theorem onSub {a b : Nat} (h : b ≤ a) (ha : a < 2147483648) : Int32.ofNat a - Int32.ofNat b = Int32.ofNat (a - b) := by
  apply Int32.toInt_inj.mp
  have q := c_isub (Int32.ofNat a) (Int32.ofNat b)
  have r := rng32 (Int32.ofNat a - Int32.ofNat b)
  rw [onToInt ha, onToInt (show b < 2147483648 by omega)] at q
  rw [onToInt (show a - b < 2147483648 by omega)]
  omega
theorem onMul {a b : Nat} : Int32.ofNat a * Int32.ofNat b = Int32.ofNat (a * b) := (Int32.ofNat_mul a b).symm
theorem isNat (x : Int32) (h0 : 0 ≤ x.toInt) : ∃ r : Nat, (r : Int) = x.toInt ∧ r < 2147483648 ∧ x = Int32.ofNat r := by
  have := rng32 x
  refine ⟨x.toInt.toNat, by omega, by omega, Int32.toInt_inj.mp ?_⟩
  rw [onToInt (by omega)]
  omega
/-- (x & 0x7fffffff) % m is a natural below m -/
theorem remNat (x m : Int32) (M : Nat) (hm : m.toInt = M) (hM : 0 < M) : ∃ r, r < M ∧ (x &&& 2147483647) % m = Int32.ofNat r := by
  have h := (c_iremV (x &&& 2147483647) m).1 (c_and x 2147483647 (by decide)).1 (by omega)
  obtain ⟨r, h1, h2, h3⟩ := isNat _ h.1
  exact ⟨r, by omega, h3⟩
theorem remNat' (x m : Int32) (M : Nat) (hx : 0 ≤ x.toInt) (hm : m.toInt = M) (hM : 0 < M) : ∃ r, r < M ∧ x % m = Int32.ofNat r := by
  have h := (c_iremV x m).1 hx (by omega)
  obtain ⟨r, h1, h2, h3⟩ := isNat _ h.1
  exact ⟨r, by omega, h3⟩
theorem maskNat (x m : Int32) (k : Nat) (hk : k ≤ 31) (hm : m.toBitVec.toNat = 2 ^ k - 1) : ∃ r, r < 2 ^ k ∧ x &&& m = Int32.ofNat r := by
  have h := c_mask x m k hk hm
  have hp : (0 : Int) < (2 ^ k : Nat) := by have := Nat.two_pow_pos k; omega
  have h1 := Int.emod_nonneg x.toInt (Int.ne_of_gt hp)
  have h2 := Int.emod_lt_of_pos x.toInt hp
  obtain ⟨r, g1, g2, g3⟩ := isNat (x &&& m) (by omega)
  exact ⟨r, by omega, g3⟩
theorem ushrNN (x k : Int32) (n : Nat) (hk : k.toBitVec.toNat % 32 = n) (h0 : 0 < n) : 0 ≤ (Jvm.Free.XT.ushr x k).toInt := by
  have e : (Jvm.Free.XT.ushr x k).toInt = (x.toInt % 4294967296) / (2 ^ n : Nat) := c_iushr x k n hk h0
  rw [e]
  exact Int.ediv_nonneg (Int.emod_nonneg _ (by decide)) (Int.natCast_nonneg _)
theorem i8_idem (x : Int32) : x.toInt8.toInt32.toInt8.toInt32 = x.toInt8.toInt32 := by simp
end Jvm.Sh
namespace Jvm.Pilot.@@N@@
open Jvm Jvm.ClassFile Sem Op Lib Jvm.Free Jvm.Stand Jvm.LawKit Jvm.RoadKit Bundle Jvm.Pilot.@@N@@.Jvm.D
abbrev HW (Z : State) (a0 : Array Value) : Prop := ∀ d ∈ tables_1, d.before a0 Z = true
abbrev f_FrameIndex (v0 v1 v2 v3 v4 v5 v6 : Value) : List (String × String × Value) := [("firstOffsets", "[J", v0), ("positions", "[J", v1), ("times", "[J", v2), ("entries", "I", v3), ("end", "J", v4), ("length", "J", v5), ("spanEnd", "J", v6)]
abbrev o_FrameIndex (v0 v1 v2 v3 v4 v5 v6 : Value) : Sh.SC := .inl ("com/example/shardline/shardline/FrameIndex", f_FrameIndex v0 v1 v2 v3 v4 v5 v6)
theorem fs_FrameIndex : ∀ f ∈ f_FrameIndex (.null) (.null) (.null) (.int 0) (.long 0) (.long 0) (.long 0), (Jvm.Cond.lays "com/example/shardline/shardline/FrameIndex" "com/example/shardline/shardline/FrameIndex" f.1 f.2.1 ∈ tables_1 ∨ Jvm.Cond.laysFinal "com/example/shardline/shardline/FrameIndex" "com/example/shardline/shardline/FrameIndex" f.1 f.2.1 ∈ tables_1) ∧ ∃ ty, parseFieldDescriptor f.2.1 = some ty ∧ defaultValue ty = f.2.2 := by
  intro f hf
  simp only [List.mem_cons, List.not_mem_nil, or_false] at hf
  rcases hf with rfl | rfl | rfl | rfl | rfl | rfl | rfl
  · exact ⟨Or.inr (List.mem_of_getElem? (i := 22) rfl), (.array .long), by decide +kernel, rfl⟩
  · exact ⟨Or.inr (List.mem_of_getElem? (i := 24) rfl), (.array .long), by decide +kernel, rfl⟩
  · exact ⟨Or.inr (List.mem_of_getElem? (i := 26) rfl), (.array .long), by decide +kernel, rfl⟩
  · exact ⟨Or.inr (List.mem_of_getElem? (i := 28) rfl), .int, by decide +kernel, rfl⟩
  · exact ⟨Or.inr (List.mem_of_getElem? (i := 30) rfl), .long, by decide +kernel, rfl⟩
  · exact ⟨Or.inr (List.mem_of_getElem? (i := 32) rfl), .long, by decide +kernel, rfl⟩
  · exact ⟨Or.inr (List.mem_of_getElem? (i := 34) rfl), .long, by decide +kernel, rfl⟩
theorem nd_FrameIndex : ((f_FrameIndex (.null) (.null) (.null) (.int 0) (.long 0) (.long 0) (.long 0)).map (·.1)).Nodup := by decide
theorem d1_0 : decode jdk_29_method_66_code 0 = .ok (.lload_n 0, 1) := by decide +kernel
theorem d1_1 : decode jdk_29_method_66_code 1 = .ok (.lload_n 2, 1) := by decide +kernel
theorem d1_2 : decode jdk_29_method_66_code 2 = .ok (.lcmp, 1) := by decide +kernel
theorem d1_3 : decode jdk_29_method_66_code 3 = .ok (.ifCond .lt 7, 3) := by decide +kernel
theorem d1_6 : decode jdk_29_method_66_code 6 = .ok (.lload_n 0, 1) := by decide +kernel
theorem d1_7 : decode jdk_29_method_66_code 7 = .ok (.goto 4, 3) := by decide +kernel
theorem d1_10 : decode jdk_29_method_66_code 10 = .ok (.lload_n 2, 1) := by decide +kernel
theorem d1_11 : decode jdk_29_method_66_code 11 = .ok (.lreturn, 1) := by decide +kernel
theorem pn1 : plainFor (⟨"java/lang/Math", "max", "(JJ)J"⟩ : MethodName) = true := by decide +kernel
theorem pd1 : parseMethodDescriptor "(JJ)J" = some ⟨[.long, .long], some .long⟩ := by decide +kernel
def b1 : Sh.Bdy := (⟨"java/lang/Math", "max", "(JJ)J"⟩, jdk_29_method_66_code, 4, some .long)
def R1 : Room := { frames := 0, cells := 0, slots := 0, locals := 0 }
theorem d3_0 : decode jdk_30_method_1_code 0 = .ok (.aload_n 0, 1) := by decide +kernel
theorem d3_1 : decode jdk_30_method_1_code 1 = .ok (.invokespecial 1, 3) := by decide +kernel
theorem d3_4 : decode jdk_30_method_1_code 4 = .ok (.return_, 1) := by decide +kernel
theorem pn3 : plainFor (⟨"java/lang/Record", "<init>", "()V"⟩ : MethodName) = true := by decide +kernel
theorem pd3 : parseMethodDescriptor "()V" = some ⟨[], none⟩ := by decide +kernel
def b3 : Sh.Bdy := (⟨"java/lang/Record", "<init>", "()V"⟩, jdk_30_method_1_code, 1, none)
def R3 : Room := { frames := 1, cells := 0, slots := 0, locals := 12 }
theorem d2_0 : decode prog_13_method_1_code 0 = .ok (.aload_n 0, 1) := by decide +kernel
theorem d2_1 : decode prog_13_method_1_code 1 = .ok (.invokespecial 1, 3) := by decide +kernel
theorem d2_4 : decode prog_13_method_1_code 4 = .ok (.aload_n 0, 1) := by decide +kernel
theorem d2_5 : decode prog_13_method_1_code 5 = .ok (.aload_n 1, 1) := by decide +kernel
theorem d2_6 : decode prog_13_method_1_code 6 = .ok (.putfield 7, 3) := by decide +kernel
theorem d2_9 : decode prog_13_method_1_code 9 = .ok (.aload_n 0, 1) := by decide +kernel
theorem d2_10 : decode prog_13_method_1_code 10 = .ok (.aload_n 2, 1) := by decide +kernel
theorem d2_11 : decode prog_13_method_1_code 11 = .ok (.putfield 13, 3) := by decide +kernel
theorem d2_14 : decode prog_13_method_1_code 14 = .ok (.aload_n 0, 1) := by decide +kernel
theorem d2_15 : decode prog_13_method_1_code 15 = .ok (.aload_n 3, 1) := by decide +kernel
theorem d2_16 : decode prog_13_method_1_code 16 = .ok (.putfield 16, 3) := by decide +kernel
theorem d2_19 : decode prog_13_method_1_code 19 = .ok (.aload_n 0, 1) := by decide +kernel
theorem d2_20 : decode prog_13_method_1_code 20 = .ok (.iload 4, 2) := by decide +kernel
theorem d2_22 : decode prog_13_method_1_code 22 = .ok (.putfield 19, 3) := by decide +kernel
theorem d2_25 : decode prog_13_method_1_code 25 = .ok (.aload_n 0, 1) := by decide +kernel
theorem d2_26 : decode prog_13_method_1_code 26 = .ok (.lload 5, 2) := by decide +kernel
theorem d2_28 : decode prog_13_method_1_code 28 = .ok (.putfield 23, 3) := by decide +kernel
theorem d2_31 : decode prog_13_method_1_code 31 = .ok (.aload_n 0, 1) := by decide +kernel
theorem d2_32 : decode prog_13_method_1_code 32 = .ok (.lload 7, 2) := by decide +kernel
theorem d2_34 : decode prog_13_method_1_code 34 = .ok (.putfield 27, 3) := by decide +kernel
theorem d2_37 : decode prog_13_method_1_code 37 = .ok (.aload_n 0, 1) := by decide +kernel
theorem d2_38 : decode prog_13_method_1_code 38 = .ok (.lload 9, 2) := by decide +kernel
theorem d2_40 : decode prog_13_method_1_code 40 = .ok (.putfield 30, 3) := by decide +kernel
theorem d2_43 : decode prog_13_method_1_code 43 = .ok (.return_, 1) := by decide +kernel
theorem pn2 : plainFor (⟨"com/example/shardline/shardline/FrameIndex", "<init>", "([J[J[JIJJJ)V"⟩ : MethodName) = true := plainFor_of_name (by first | (simp [plainName, overriddenIn]; done) | decide +kernel)
theorem pd2 : parseMethodDescriptor "([J[J[JIJJJ)V" = some ⟨[(.array .long), (.array .long), (.array .long), .int, .long, .long, .long], none⟩ := by decide +kernel
def b2 : Sh.Bdy := (⟨"com/example/shardline/shardline/FrameIndex", "<init>", "([J[J[JIJJJ)V"⟩, prog_13_method_1_code, 11, none)
def R2 : Room := { frames := 2, cells := 0, slots := 0, locals := 24 }
theorem d5_0 : decode prog_13_method_12_code 0 = .ok (.iconst 0, 1) := by decide +kernel
theorem d5_1 : decode prog_13_method_12_code 1 = .ok (.istore_n 3, 1) := by decide +kernel
theorem d5_2 : decode prog_13_method_12_code 2 = .ok (.aload_n 0, 1) := by decide +kernel
theorem d5_3 : decode prog_13_method_12_code 3 = .ok (.getfield 19, 3) := by decide +kernel
theorem d5_6 : decode prog_13_method_12_code 6 = .ok (.istore 4, 2) := by decide +kernel
theorem d5_8 : decode prog_13_method_12_code 8 = .ok (.iload_n 3, 1) := by decide +kernel
theorem d5_9 : decode prog_13_method_12_code 9 = .ok (.iload 4, 2) := by decide +kernel
theorem d5_11 : decode prog_13_method_12_code 11 = .ok (.if_icmp .ge 38, 3) := by decide +kernel
theorem d5_14 : decode prog_13_method_12_code 14 = .ok (.iload_n 3, 1) := by decide +kernel
theorem d5_15 : decode prog_13_method_12_code 15 = .ok (.iload 4, 2) := by decide +kernel
theorem d5_17 : decode prog_13_method_12_code 17 = .ok (.iadd, 1) := by decide +kernel
theorem d5_18 : decode prog_13_method_12_code 18 = .ok (.iconst 1, 1) := by decide +kernel
theorem d5_19 : decode prog_13_method_12_code 19 = .ok (.iushr, 1) := by decide +kernel
theorem d5_20 : decode prog_13_method_12_code 20 = .ok (.istore 5, 2) := by decide +kernel
theorem d5_22 : decode prog_13_method_12_code 22 = .ok (.aload_n 0, 1) := by decide +kernel
theorem d5_23 : decode prog_13_method_12_code 23 = .ok (.getfield 16, 3) := by decide +kernel
theorem d5_26 : decode prog_13_method_12_code 26 = .ok (.iload 5, 2) := by decide +kernel
theorem d5_28 : decode prog_13_method_12_code 28 = .ok (.laload, 1) := by decide +kernel
theorem d5_29 : decode prog_13_method_12_code 29 = .ok (.lload_n 1, 1) := by decide +kernel
theorem d5_30 : decode prog_13_method_12_code 30 = .ok (.lcmp, 1) := by decide +kernel
theorem d5_31 : decode prog_13_method_12_code 31 = .ok (.ifCond .ge 11, 3) := by decide +kernel
theorem d5_34 : decode prog_13_method_12_code 34 = .ok (.iload 5, 2) := by decide +kernel
theorem d5_36 : decode prog_13_method_12_code 36 = .ok (.iconst 1, 1) := by decide +kernel
theorem d5_37 : decode prog_13_method_12_code 37 = .ok (.iadd, 1) := by decide +kernel
theorem d5_38 : decode prog_13_method_12_code 38 = .ok (.istore_n 3, 1) := by decide +kernel
theorem d5_39 : decode prog_13_method_12_code 39 = .ok (.goto 7, 3) := by decide +kernel
theorem d5_42 : decode prog_13_method_12_code 42 = .ok (.iload 5, 2) := by decide +kernel
theorem d5_44 : decode prog_13_method_12_code 44 = .ok (.istore 4, 2) := by decide +kernel
theorem d5_46 : decode prog_13_method_12_code 46 = .ok (.goto (-38), 3) := by decide +kernel
theorem d5_49 : decode prog_13_method_12_code 49 = .ok (.iload_n 3, 1) := by decide +kernel
theorem d5_50 : decode prog_13_method_12_code 50 = .ok (.ireturn, 1) := by decide +kernel
theorem pn5 : plainFor (⟨"com/example/shardline/shardline/FrameIndex", "firstEntryAt", "(J)I"⟩ : MethodName) = true := plainFor_of_name (by first | (simp [plainName, overriddenIn]; done) | decide +kernel)
theorem pd5 : parseMethodDescriptor "(J)I" = some ⟨[.long], some .int⟩ := by decide +kernel
def b5 : Sh.Bdy := (⟨"com/example/shardline/shardline/FrameIndex", "firstEntryAt", "(J)I"⟩, prog_13_method_12_code, 6, some .int)
def R5 : Room := { frames := 0, cells := 0, slots := 0, locals := 0 }
theorem pn0 : plainFor (⟨"com/example/shardline/shardline/FrameIndexFirstEntryAtPinLaw", "law", "(IJJJJJ)Z"⟩ : MethodName) = true := plainFor_of_name (by first | (simp [plainName, overriddenIn]; done) | decide +kernel)
theorem pd0 : parseMethodDescriptor "(IJJJJJ)Z" = some ⟨[.int, .long, .long, .long, .long, .long], some .boolean⟩ := by decide +kernel
def b0 : Sh.Bdy := (x, code, maxLocals, ret)
theorem own_up {x y q : Int64} (h : ¬ x < q) (hl : x ≤ y) : ¬ y < q := by
  rw [Int64.lt_iff_toInt_lt] at h ⊢
  rw [Int64.le_iff_toInt_le] at hl
  omega
abbrev own_H (v0 v1 v2 v3 : Int64) (c : Int32) : Sh.SH := [.inr (.long, [.long v0, .long v1, .long v2, .long v3]), o_FrameIndex (.ref 2) (.ref 3) (.ref 0) (.int c) (.long 0) (.long 0) (.long 0), .inr (.long, [.long 0, .long 0, .long 0, .long 0]), .inr (.long, [.long 0, .long 0, .long 0, .long 0])]
section
variable (l : Launch) (Z : State) (a0 : Array Value) (n0 : Nat)
theorem m1 (hw : HW Z a0) (x y : Int64) (H : Sh.SH) : Sh.Meth l Z a0 n0 b1 R1 [.long x, .long y] H (fun v H' => (∃ m : Int64, v = some (.long m) ∧ x ≤ m) ∧ H' = H) := by
  refine Sh.Meth.of pn1 (L := [.val (.long x), .second, .val (.long y), .second]) rfl ?_
  refine Sh.lload_n d1_0 rfl ?_
  refine Sh.lload_n d1_1 rfl ?_
  refine Sh.lcmp_lt d1_2 d1_3 (pc' := 10) rfl (by decide) (fun h3 => ?_) (fun h3 => ?_)
  · refine Sh.lload_n d1_10 rfl ?_
    refine Sh.retL d1_11 rfl (Sh.le rfl) (Sh.le rfl) ?_
    exact ⟨⟨y, rfl, Int64.le_of_lt h3⟩, rfl⟩
  · refine Sh.lload_n d1_6 rfl ?_
    refine Sh.goto d1_7 (pc' := 11) rfl (by decide) ?_
    refine Sh.retL d1_11 rfl (Sh.le rfl) (Sh.le rfl) ?_
    exact ⟨⟨x, rfl, Int64.le_refl _⟩, rfl⟩
theorem m3 (hw : HW Z a0) (i : Nat) (H : Sh.SH) : Sh.Meth l Z a0 n0 b3 R3 [.ref i] H (fun v H' => v = none ∧ H' = H) := by
  refine Sh.Meth.of pn3 (L := [.val (.ref i)]) rfl ?_
  refine Sh.aload_n d3_0 rfl rfl ?_
  refine Sh.initObj hw (i1 := 18) (i2 := 19) (i3 := 20) rfl rfl rfl d3_1 rfl (Sh.le rfl) (Sh.le rfl) ?_
  refine Sh.ret0 d3_4 rfl (Sh.le rfl) (Sh.le rfl) ?_
  exact ⟨rfl, rfl⟩
theorem m2 (hw : HW Z a0) (a b c d e f g : Value) (s0 s2 s3 : Sh.SC) (e1 : Int32) (q1 q2 q3 : Int64) :
    Sh.Meth l Z a0 n0 b2 R2 [.ref 1, .ref 2, .ref 3, .ref 0, .int e1, .long q1, .long q2, .long q3] [s0, o_FrameIndex a b c d e f g, s2, s3]
      (fun v H' => v = none ∧ H' = [s0, o_FrameIndex (.ref 2) (.ref 3) (.ref 0) (.int e1) (.long q1) (.long q2) (.long q3), s2, s3]) := by
  refine Sh.Meth.of pn2 (L := [.val (.ref 1), .val (.ref 2), .val (.ref 3), .val (.ref 0), .val (.int e1), .val (.long q1), .second, .val (.long q2), .second, .val (.long q3), .second]) rfl ?_
  refine Sh.aload_n d2_0 rfl rfl ?_
  refine Sh.callI hw (i1 := 13) (i2 := 14) (i3 := 16) (i4 := 17) (k' := 0) (n' := 0) (B' := b3) (R' := R3) rfl rfl rfl rfl rfl rfl (by decide) (m3 l Z a0 n0 hw 1 _) d2_1 rfl rfl pd3 rfl (Sh.le rfl) (Sh.le rfl) (Sh.le rfl) (Sh.le rfl) rfl rfl ?_
  rintro _ _ ⟨rfl, rfl⟩
  refine Sh.aload_n d2_4 rfl rfl ?_
  refine Sh.aload_n d2_5 rfl rfl ?_
  refine Sh.putfieldF hw (i := 21) (i2 := 22) (j := 0) (ty := (.array .long)) rfl rfl rfl rfl d2_6 rfl rfl (by decide +kernel) rfl rfl (Sh.ls_0) (Sh.ls_1) ?_
  refine Sh.aload_n d2_9 rfl rfl ?_
  refine Sh.aload_n d2_10 rfl rfl ?_
  refine Sh.putfieldF hw (i := 23) (i2 := 24) (j := 1) (ty := (.array .long)) rfl rfl rfl rfl d2_11 rfl rfl (by decide +kernel) rfl rfl (Sh.ls_1) (Sh.ls_1) ?_
  refine Sh.aload_n d2_14 rfl rfl ?_
  refine Sh.aload_n d2_15 rfl rfl ?_
  refine Sh.putfieldF hw (i := 25) (i2 := 26) (j := 2) (ty := (.array .long)) rfl rfl rfl rfl d2_16 rfl rfl (by decide +kernel) rfl rfl (Sh.ls_2) (Sh.ls_1) ?_
  refine Sh.aload_n d2_19 rfl rfl ?_
  refine Sh.iload d2_20 rfl ?_
  refine Sh.putfieldF hw (i := 27) (i2 := 28) (j := 3) (ty := .int) rfl rfl rfl rfl d2_22 rfl rfl (by decide +kernel) rfl rfl (Sh.ls_3) (Sh.ls_1) ?_
  refine Sh.aload_n d2_25 rfl rfl ?_
  refine Sh.lload d2_26 rfl ?_
  refine Sh.putfieldF hw (i := 29) (i2 := 30) (j := 4) (ty := .long) rfl rfl rfl rfl d2_28 rfl rfl (by decide +kernel) rfl rfl (Sh.ls_4) (Sh.ls_1) ?_
  refine Sh.aload_n d2_31 rfl rfl ?_
  refine Sh.lload d2_32 rfl ?_
  refine Sh.putfieldF hw (i := 31) (i2 := 32) (j := 5) (ty := .long) rfl rfl rfl rfl d2_34 rfl rfl (by decide +kernel) rfl rfl (Sh.ls_5) (Sh.ls_1) ?_
  refine Sh.aload_n d2_37 rfl rfl ?_
  refine Sh.lload d2_38 rfl ?_
  refine Sh.putfieldF hw (i := 33) (i2 := 34) (j := 6) (ty := .long) rfl rfl rfl rfl d2_40 rfl rfl (by decide +kernel) rfl rfl (Sh.ls_6) (Sh.ls_1) ?_
  refine Sh.ret0 d2_43 rfl (Sh.le rfl) (Sh.le rfl) ?_
  exact ⟨rfl, rfl⟩
theorem m5_0_0 (hw : HW Z a0) (t0 t1 t2 t3 qu : Int64)  : Sh.Meth l Z a0 n0 b5 R5 [.ref 1, .long qu] (own_H (-9223372036854775808) (-9223372036854775808) (-9223372036854775808) (-9223372036854775808) 0) (fun v H' => v = some (.int 0) ∧ H' = (own_H (-9223372036854775808) (-9223372036854775808) (-9223372036854775808) (-9223372036854775808) 0)) := by
  refine Sh.Meth.of pn5 (L := [.val (.ref 1), .val (.long qu), .second, .unset, .unset, .unset]) rfl ?_
  refine Sh.iconst d5_0 (x := 0) rfl ?_
  refine Sh.istore_n d5_1 (Sh.s1_3 rfl rfl) ?_
  refine Sh.aload_n d5_2 rfl rfl ?_
  refine Sh.getfield hw (i := 27) (j := 3) rfl d5_3 rfl rfl ?_
  refine Sh.istore d5_6 (Sh.s1_4 rfl rfl) ?_
  refine Sh.iload_n d5_8 rfl ?_
  refine Sh.iload d5_9 rfl ?_
  refine Sh.icmpT d5_11 (pc' := 49) rfl (by decide) (by decide) ?_
  refine Sh.iload_n d5_49 rfl ?_
  refine Sh.retI d5_50 rfl (Sh.le rfl) (Sh.le rfl) ?_
  exact ⟨rfl, rfl⟩
theorem fin0 (hw : HW Z a0) (n : Int32) (a b c d q t0 t1 t2 t3 qu : Int64) (h01 : t0 ≤ t1) (h12 : t1 ≤ t2) (h23 : t2 ≤ t3) :
    Sh.WP l Z a0 n0 b0 room_1 4 19 208 [.val (.int n), .val (.long a), .second, .val (.long b), .second, .val (.long c), .second, .val (.long d), .second, .val (.long q), .second, .val (.int 0), .val (.long t0), .second, .val (.long t1), .second, .val (.long t2), .second, .val (.long t3), .second, .val (.ref 0), .val (.long qu), .second, .val (.ref 1), .val (.int 0), .unset] [] (own_H (-9223372036854775808) (-9223372036854775808) (-9223372036854775808) (-9223372036854775808) 0) (fun v _ => v = some (.int 1)) := by
  refine Sh.iload at_208 rfl ?_
  refine Sh.ifT at_210 (pc' := 227) rfl (by decide) (by decide) ?_
  refine Sh.iload at_227 rfl ?_
  refine Sh.iconst at_229 (x := 1) rfl ?_
  refine Sh.icmpT at_230 (pc' := 247) rfl (by decide) (by decide) ?_
  refine Sh.iload at_247 rfl ?_
  refine Sh.iconst at_249 (x := 2) rfl ?_
  refine Sh.icmpT at_250 (pc' := 267) rfl (by decide) (by decide) ?_
  refine Sh.iload at_267 rfl ?_
  refine Sh.iconst at_269 (x := 3) rfl ?_
  refine Sh.icmpT at_270 (pc' := 287) rfl (by decide) (by decide) ?_
  refine Sh.aload at_287 rfl rfl ?_
  refine Sh.lload at_289 rfl ?_
  refine Sh.callV hw (i1 := 35) (i2 := 37) (i3 := 9) (i4 := 39) (i5 := 36) (i6 := 38) (k' := 4) (n' := 19) (B' := b5) (R' := R5) rfl rfl rfl rfl rfl rfl (by decide) rfl (m5_0_0 l Z a0 n0 hw t0 t1 t2 t3 qu ) at_291 rfl rfl pd5 rfl (Sh.le rfl) (Sh.le rfl) (Sh.le rfl) (Sh.le rfl) rfl rfl ?_
  rintro _ _ ⟨rfl, rfl⟩
  refine Sh.iload at_294 rfl ?_
  refine Sh.icmpF at_296 (by decide) ?_
  refine Sh.iconst at_299 (x := 1) rfl ?_
  refine Sh.goto at_300 (pc' := 304) rfl (by decide) ?_
  refine Sh.retN at_304 rfl (by simp) rfl (Sh.le rfl) (Sh.le rfl) ?_
  rfl
theorem go0u (hw : HW Z a0) (n : Int32) (a b c d q t0 t1 t2 t3 qu : Int64) (h01 : t0 ≤ t1) (h12 : t1 ≤ t2) (h23 : t2 ≤ t3) :
    Sh.WP l Z a0 n0 b0 room_1 1 4 183 [.val (.int n), .val (.long a), .second, .val (.long b), .second, .val (.long c), .second, .val (.long d), .second, .val (.long q), .second, .val (.int 0), .val (.long t0), .second, .val (.long t1), .second, .val (.long t2), .second, .val (.long t3), .second, .val (.ref 0), .val (.long qu), .second, .unset, .unset, .unset] [] [.inr (.long, [.long (-9223372036854775808), .long (-9223372036854775808), .long (-9223372036854775808), .long (-9223372036854775808)])] (fun v _ => v = some (.int 1)) := by
  refine Sh.newobj hw (i1 := 7) (i2 := 8) (i3 := 9) (k' := 2) (n' := 11) (a := 1) rfl rfl rfl at_183 fs_FrameIndex nd_FrameIndex (Sh.le rfl) (Sh.le rfl) rfl rfl rfl (Sh.ap_1) ?_
  refine Sh.dup at_186 rfl ?_
  refine Sh.iconst at_187 (x := 4) rfl ?_
  refine Sh.newarr hw (i := 5) (ty := .long) (dv := .long 0) (N := 4) (cap := 4) (k' := 3) (n' := 15) (a := 2) rfl rfl at_188 rfl (by decide) rfl (Sh.rp_4) (Sh.le rfl) (by decide) (Sh.le rfl) (Sh.le rfl) rfl rfl rfl (Sh.ap_2) ?_
  refine Sh.iconst at_190 (x := 4) rfl ?_
  refine Sh.newarr hw (i := 5) (ty := .long) (dv := .long 0) (N := 4) (cap := 4) (k' := 4) (n' := 19) (a := 3) rfl rfl at_191 rfl (by decide) rfl (Sh.rp_4) (Sh.le rfl) (by decide) (Sh.le rfl) (Sh.le rfl) rfl rfl rfl (Sh.ap_3) ?_
  refine Sh.aload at_193 rfl rfl ?_
  refine Sh.iload at_195 rfl ?_
  refine Sh.lconst at_197 (x := 0) rfl ?_
  refine Sh.lconst at_198 (x := 0) rfl ?_
  refine Sh.lconst at_199 (x := 0) rfl ?_
  refine Sh.callI hw (i1 := 10) (i2 := 11) (i3 := 9) (i4 := 12) (k' := 4) (n' := 19) (B' := b2) (R' := R2) rfl rfl rfl rfl rfl rfl (by decide) (m2 l Z a0 n0 hw _ _ _ _ _ _ _ _ _ _ 0 0 0 0) at_200 rfl rfl pd2 rfl (Sh.le rfl) (Sh.le rfl) (Sh.le rfl) (Sh.le rfl) rfl rfl ?_
  rintro _ _ ⟨rfl, rfl⟩
  refine Sh.astore at_203 rfl (Sh.s1_23 rfl rfl) ?_
  refine Sh.iconst at_205 (x := 0) rfl ?_
  refine Sh.istore at_206 (Sh.s1_24 rfl rfl) ?_
  exact fin0 l Z a0 n0 hw n a b c d q t0 t1 t2 t3 qu h01 h12 h23
theorem go0k (hw : HW Z a0) (n : Int32) (a b c d q t0 t1 t2 t3 qu : Int64) (h01 : t0 ≤ t1) (h12 : t1 ≤ t2) (h23 : t2 ≤ t3) (kk : Int32) (bs : Int64) :
    Sh.WP l Z a0 n0 b0 room_1 1 4 183 [.val (.int n), .val (.long a), .second, .val (.long b), .second, .val (.long c), .second, .val (.long d), .second, .val (.long q), .second, .val (.int 0), .val (.long t0), .second, .val (.long t1), .second, .val (.long t2), .second, .val (.long t3), .second, .val (.ref 0), .val (.long qu), .second, .val (.int kk), .val (.long bs), .second] [] [.inr (.long, [.long (-9223372036854775808), .long (-9223372036854775808), .long (-9223372036854775808), .long (-9223372036854775808)])] (fun v _ => v = some (.int 1)) := by
  refine Sh.newobj hw (i1 := 7) (i2 := 8) (i3 := 9) (k' := 2) (n' := 11) (a := 1) rfl rfl rfl at_183 fs_FrameIndex nd_FrameIndex (Sh.le rfl) (Sh.le rfl) rfl rfl rfl (Sh.ap_1) ?_
  refine Sh.dup at_186 rfl ?_
  refine Sh.iconst at_187 (x := 4) rfl ?_
  refine Sh.newarr hw (i := 5) (ty := .long) (dv := .long 0) (N := 4) (cap := 4) (k' := 3) (n' := 15) (a := 2) rfl rfl at_188 rfl (by decide) rfl (Sh.rp_4) (Sh.le rfl) (by decide) (Sh.le rfl) (Sh.le rfl) rfl rfl rfl (Sh.ap_2) ?_
  refine Sh.iconst at_190 (x := 4) rfl ?_
  refine Sh.newarr hw (i := 5) (ty := .long) (dv := .long 0) (N := 4) (cap := 4) (k' := 4) (n' := 19) (a := 3) rfl rfl at_191 rfl (by decide) rfl (Sh.rp_4) (Sh.le rfl) (by decide) (Sh.le rfl) (Sh.le rfl) rfl rfl rfl (Sh.ap_3) ?_
  refine Sh.aload at_193 rfl rfl ?_
  refine Sh.iload at_195 rfl ?_
  refine Sh.lconst at_197 (x := 0) rfl ?_
  refine Sh.lconst at_198 (x := 0) rfl ?_
  refine Sh.lconst at_199 (x := 0) rfl ?_
  refine Sh.callI hw (i1 := 10) (i2 := 11) (i3 := 9) (i4 := 12) (k' := 4) (n' := 19) (B' := b2) (R' := R2) rfl rfl rfl rfl rfl rfl (by decide) (m2 l Z a0 n0 hw _ _ _ _ _ _ _ _ _ _ 0 0 0 0) at_200 rfl rfl pd2 rfl (Sh.le rfl) (Sh.le rfl) (Sh.le rfl) (Sh.le rfl) rfl rfl ?_
  rintro _ _ ⟨rfl, rfl⟩
  refine Sh.astore at_203 rfl (Sh.s1_23 rfl rfl) ?_
  refine Sh.iconst at_205 (x := 0) rfl ?_
  refine Sh.istore at_206 (Sh.sw_24 rfl rfl) ?_
  exact fin0 l Z a0 n0 hw n a b c d q t0 t1 t2 t3 qu h01 h12 h23
theorem m5_1_0 (hw : HW Z a0) (t0 t1 t2 t3 qu : Int64) (d0 : ¬ t0 < qu) : Sh.Meth l Z a0 n0 b5 R5 [.ref 1, .long qu] (own_H t0 (-9223372036854775808) (-9223372036854775808) (-9223372036854775808) 1) (fun v H' => v = some (.int 0) ∧ H' = (own_H t0 (-9223372036854775808) (-9223372036854775808) (-9223372036854775808) 1)) := by
  refine Sh.Meth.of pn5 (L := [.val (.ref 1), .val (.long qu), .second, .unset, .unset, .unset]) rfl ?_
  refine Sh.iconst d5_0 (x := 0) rfl ?_
  refine Sh.istore_n d5_1 (Sh.s1_3 rfl rfl) ?_
  refine Sh.aload_n d5_2 rfl rfl ?_
  refine Sh.getfield hw (i := 27) (j := 3) rfl d5_3 rfl rfl ?_
  refine Sh.istore d5_6 (Sh.s1_4 rfl rfl) ?_
  refine Sh.iload_n d5_8 rfl ?_
  refine Sh.iload d5_9 rfl ?_
  refine Sh.icmpF d5_11 (by decide) ?_
  refine Sh.iload_n d5_14 rfl ?_
  refine Sh.iload d5_15 rfl ?_
  refine Sh.iaddE (z := 1) d5_17 (by decide) ?_
  refine Sh.iconst d5_18 (x := 1) rfl ?_
  refine Sh.iushrE (z := 0) d5_19 (by decide) ?_
  refine Sh.istore d5_20 (Sh.s1_5 rfl rfl) ?_
  refine Sh.aload_n d5_22 rfl rfl ?_
  refine Sh.getfield hw (i := 25) (j := 2) rfl d5_23 rfl rfl ?_
  refine Sh.iload d5_26 rfl ?_
  refine Sh.laload (jn := 0) d5_28 rfl (by decide) rfl rfl ?_
  refine Sh.lload_n d5_29 rfl ?_
  refine Sh.lcmpT d5_30 d5_31 (pc' := 42) rfl (by decide) d0 ?_
  refine Sh.iload d5_42 rfl ?_
  refine Sh.istore d5_44 (Sh.s1_4 rfl rfl) ?_
  refine Sh.goto d5_46 (pc' := 8) rfl (by decide) ?_
  refine Sh.iload_n d5_8 rfl ?_
  refine Sh.iload d5_9 rfl ?_
  refine Sh.icmpT d5_11 (pc' := 49) rfl (by decide) (by decide) ?_
  refine Sh.iload_n d5_49 rfl ?_
  refine Sh.retI d5_50 rfl (Sh.le rfl) (Sh.le rfl) ?_
  exact ⟨rfl, rfl⟩
theorem m5_1_1 (hw : HW Z a0) (t0 t1 t2 t3 qu : Int64) (d0 : t0 < qu) : Sh.Meth l Z a0 n0 b5 R5 [.ref 1, .long qu] (own_H t0 (-9223372036854775808) (-9223372036854775808) (-9223372036854775808) 1) (fun v H' => v = some (.int 1) ∧ H' = (own_H t0 (-9223372036854775808) (-9223372036854775808) (-9223372036854775808) 1)) := by
  refine Sh.Meth.of pn5 (L := [.val (.ref 1), .val (.long qu), .second, .unset, .unset, .unset]) rfl ?_
  refine Sh.iconst d5_0 (x := 0) rfl ?_
  refine Sh.istore_n d5_1 (Sh.s1_3 rfl rfl) ?_
  refine Sh.aload_n d5_2 rfl rfl ?_
  refine Sh.getfield hw (i := 27) (j := 3) rfl d5_3 rfl rfl ?_
  refine Sh.istore d5_6 (Sh.s1_4 rfl rfl) ?_
  refine Sh.iload_n d5_8 rfl ?_
  refine Sh.iload d5_9 rfl ?_
  refine Sh.icmpF d5_11 (by decide) ?_
  refine Sh.iload_n d5_14 rfl ?_
  refine Sh.iload d5_15 rfl ?_
  refine Sh.iaddE (z := 1) d5_17 (by decide) ?_
  refine Sh.iconst d5_18 (x := 1) rfl ?_
  refine Sh.iushrE (z := 0) d5_19 (by decide) ?_
  refine Sh.istore d5_20 (Sh.s1_5 rfl rfl) ?_
  refine Sh.aload_n d5_22 rfl rfl ?_
  refine Sh.getfield hw (i := 25) (j := 2) rfl d5_23 rfl rfl ?_
  refine Sh.iload d5_26 rfl ?_
  refine Sh.laload (jn := 0) d5_28 rfl (by decide) rfl rfl ?_
  refine Sh.lload_n d5_29 rfl ?_
  refine Sh.lcmpF d5_30 d5_31 (fun z => z d0) ?_
  refine Sh.iload d5_34 rfl ?_
  refine Sh.iconst d5_36 (x := 1) rfl ?_
  refine Sh.iaddE (z := 1) d5_37 (by decide) ?_
  refine Sh.istore_n d5_38 (Sh.s1_3 rfl rfl) ?_
  refine Sh.goto d5_39 (pc' := 46) rfl (by decide) ?_
  refine Sh.goto d5_46 (pc' := 8) rfl (by decide) ?_
  refine Sh.iload_n d5_8 rfl ?_
  refine Sh.iload d5_9 rfl ?_
  refine Sh.icmpT d5_11 (pc' := 49) rfl (by decide) (by decide) ?_
  refine Sh.iload_n d5_49 rfl ?_
  refine Sh.retI d5_50 rfl (Sh.le rfl) (Sh.le rfl) ?_
  exact ⟨rfl, rfl⟩
theorem fin1 (hw : HW Z a0) (n : Int32) (a b c d q t0 t1 t2 t3 qu : Int64) (h01 : t0 ≤ t1) (h12 : t1 ≤ t2) (h23 : t2 ≤ t3) :
    Sh.WP l Z a0 n0 b0 room_1 4 19 208 [.val (.int n), .val (.long a), .second, .val (.long b), .second, .val (.long c), .second, .val (.long d), .second, .val (.long q), .second, .val (.int 1), .val (.long t0), .second, .val (.long t1), .second, .val (.long t2), .second, .val (.long t3), .second, .val (.ref 0), .val (.long qu), .second, .val (.ref 1), .val (.int 0), .unset] [] (own_H t0 (-9223372036854775808) (-9223372036854775808) (-9223372036854775808) 1) (fun v _ => v = some (.int 1)) := by
  by_cases d0 : t0 < qu
  · skip
    refine Sh.iload at_208 rfl ?_
    refine Sh.ifF at_210 (by decide) ?_
    refine Sh.lload at_213 rfl ?_
    refine Sh.lload at_215 rfl ?_
    refine Sh.lcmpF at_217 at_218 (fun z => z d0) ?_
    refine Sh.iload at_221 rfl ?_
    refine Sh.iconst at_223 (x := 1) rfl ?_
    refine Sh.iaddE (z := 1) at_224 (by decide) ?_
    refine Sh.istore at_225 (Sh.s1_24 rfl rfl) ?_
    refine Sh.iload at_227 rfl ?_
    refine Sh.iconst at_229 (x := 1) rfl ?_
    refine Sh.icmpT at_230 (pc' := 247) rfl (by decide) (by decide) ?_
    refine Sh.iload at_247 rfl ?_
    refine Sh.iconst at_249 (x := 2) rfl ?_
    refine Sh.icmpT at_250 (pc' := 267) rfl (by decide) (by decide) ?_
    refine Sh.iload at_267 rfl ?_
    refine Sh.iconst at_269 (x := 3) rfl ?_
    refine Sh.icmpT at_270 (pc' := 287) rfl (by decide) (by decide) ?_
    refine Sh.aload at_287 rfl rfl ?_
    refine Sh.lload at_289 rfl ?_
    refine Sh.callV hw (i1 := 35) (i2 := 37) (i3 := 9) (i4 := 39) (i5 := 36) (i6 := 38) (k' := 4) (n' := 19) (B' := b5) (R' := R5) rfl rfl rfl rfl rfl rfl (by decide) rfl (m5_1_1 l Z a0 n0 hw t0 t1 t2 t3 qu d0) at_291 rfl rfl pd5 rfl (Sh.le rfl) (Sh.le rfl) (Sh.le rfl) (Sh.le rfl) rfl rfl ?_
    rintro _ _ ⟨rfl, rfl⟩
    refine Sh.iload at_294 rfl ?_
    refine Sh.icmpF at_296 (by decide) ?_
    refine Sh.iconst at_299 (x := 1) rfl ?_
    refine Sh.goto at_300 (pc' := 304) rfl (by decide) ?_
    refine Sh.retN at_304 rfl (by simp) rfl (Sh.le rfl) (Sh.le rfl) ?_
    rfl
  · skip
    refine Sh.iload at_208 rfl ?_
    refine Sh.ifF at_210 (by decide) ?_
    refine Sh.lload at_213 rfl ?_
    refine Sh.lload at_215 rfl ?_
    refine Sh.lcmpT at_217 at_218 (pc' := 227) rfl (by decide) d0 ?_
    refine Sh.iload at_227 rfl ?_
    refine Sh.iconst at_229 (x := 1) rfl ?_
    refine Sh.icmpT at_230 (pc' := 247) rfl (by decide) (by decide) ?_
    refine Sh.iload at_247 rfl ?_
    refine Sh.iconst at_249 (x := 2) rfl ?_
    refine Sh.icmpT at_250 (pc' := 267) rfl (by decide) (by decide) ?_
    refine Sh.iload at_267 rfl ?_
    refine Sh.iconst at_269 (x := 3) rfl ?_
    refine Sh.icmpT at_270 (pc' := 287) rfl (by decide) (by decide) ?_
    refine Sh.aload at_287 rfl rfl ?_
    refine Sh.lload at_289 rfl ?_
    refine Sh.callV hw (i1 := 35) (i2 := 37) (i3 := 9) (i4 := 39) (i5 := 36) (i6 := 38) (k' := 4) (n' := 19) (B' := b5) (R' := R5) rfl rfl rfl rfl rfl rfl (by decide) rfl (m5_1_0 l Z a0 n0 hw t0 t1 t2 t3 qu d0) at_291 rfl rfl pd5 rfl (Sh.le rfl) (Sh.le rfl) (Sh.le rfl) (Sh.le rfl) rfl rfl ?_
    rintro _ _ ⟨rfl, rfl⟩
    refine Sh.iload at_294 rfl ?_
    refine Sh.icmpF at_296 (by decide) ?_
    refine Sh.iconst at_299 (x := 1) rfl ?_
    refine Sh.goto at_300 (pc' := 304) rfl (by decide) ?_
    refine Sh.retN at_304 rfl (by simp) rfl (Sh.le rfl) (Sh.le rfl) ?_
    rfl
theorem go1u (hw : HW Z a0) (n : Int32) (a b c d q t0 t1 t2 t3 qu : Int64) (h01 : t0 ≤ t1) (h12 : t1 ≤ t2) (h23 : t2 ≤ t3) :
    Sh.WP l Z a0 n0 b0 room_1 1 4 183 [.val (.int n), .val (.long a), .second, .val (.long b), .second, .val (.long c), .second, .val (.long d), .second, .val (.long q), .second, .val (.int 1), .val (.long t0), .second, .val (.long t1), .second, .val (.long t2), .second, .val (.long t3), .second, .val (.ref 0), .val (.long qu), .second, .unset, .unset, .unset] [] [.inr (.long, [.long t0, .long (-9223372036854775808), .long (-9223372036854775808), .long (-9223372036854775808)])] (fun v _ => v = some (.int 1)) := by
  refine Sh.newobj hw (i1 := 7) (i2 := 8) (i3 := 9) (k' := 2) (n' := 11) (a := 1) rfl rfl rfl at_183 fs_FrameIndex nd_FrameIndex (Sh.le rfl) (Sh.le rfl) rfl rfl rfl (Sh.ap_1) ?_
  refine Sh.dup at_186 rfl ?_
  refine Sh.iconst at_187 (x := 4) rfl ?_
  refine Sh.newarr hw (i := 5) (ty := .long) (dv := .long 0) (N := 4) (cap := 4) (k' := 3) (n' := 15) (a := 2) rfl rfl at_188 rfl (by decide) rfl (Sh.rp_4) (Sh.le rfl) (by decide) (Sh.le rfl) (Sh.le rfl) rfl rfl rfl (Sh.ap_2) ?_
  refine Sh.iconst at_190 (x := 4) rfl ?_
  refine Sh.newarr hw (i := 5) (ty := .long) (dv := .long 0) (N := 4) (cap := 4) (k' := 4) (n' := 19) (a := 3) rfl rfl at_191 rfl (by decide) rfl (Sh.rp_4) (Sh.le rfl) (by decide) (Sh.le rfl) (Sh.le rfl) rfl rfl rfl (Sh.ap_3) ?_
  refine Sh.aload at_193 rfl rfl ?_
  refine Sh.iload at_195 rfl ?_
  refine Sh.lconst at_197 (x := 0) rfl ?_
  refine Sh.lconst at_198 (x := 0) rfl ?_
  refine Sh.lconst at_199 (x := 0) rfl ?_
  refine Sh.callI hw (i1 := 10) (i2 := 11) (i3 := 9) (i4 := 12) (k' := 4) (n' := 19) (B' := b2) (R' := R2) rfl rfl rfl rfl rfl rfl (by decide) (m2 l Z a0 n0 hw _ _ _ _ _ _ _ _ _ _ 1 0 0 0) at_200 rfl rfl pd2 rfl (Sh.le rfl) (Sh.le rfl) (Sh.le rfl) (Sh.le rfl) rfl rfl ?_
  rintro _ _ ⟨rfl, rfl⟩
  refine Sh.astore at_203 rfl (Sh.s1_23 rfl rfl) ?_
  refine Sh.iconst at_205 (x := 0) rfl ?_
  refine Sh.istore at_206 (Sh.s1_24 rfl rfl) ?_
  exact fin1 l Z a0 n0 hw n a b c d q t0 t1 t2 t3 qu h01 h12 h23
theorem go1k (hw : HW Z a0) (n : Int32) (a b c d q t0 t1 t2 t3 qu : Int64) (h01 : t0 ≤ t1) (h12 : t1 ≤ t2) (h23 : t2 ≤ t3) (kk : Int32) (bs : Int64) :
    Sh.WP l Z a0 n0 b0 room_1 1 4 183 [.val (.int n), .val (.long a), .second, .val (.long b), .second, .val (.long c), .second, .val (.long d), .second, .val (.long q), .second, .val (.int 1), .val (.long t0), .second, .val (.long t1), .second, .val (.long t2), .second, .val (.long t3), .second, .val (.ref 0), .val (.long qu), .second, .val (.int kk), .val (.long bs), .second] [] [.inr (.long, [.long t0, .long (-9223372036854775808), .long (-9223372036854775808), .long (-9223372036854775808)])] (fun v _ => v = some (.int 1)) := by
  refine Sh.newobj hw (i1 := 7) (i2 := 8) (i3 := 9) (k' := 2) (n' := 11) (a := 1) rfl rfl rfl at_183 fs_FrameIndex nd_FrameIndex (Sh.le rfl) (Sh.le rfl) rfl rfl rfl (Sh.ap_1) ?_
  refine Sh.dup at_186 rfl ?_
  refine Sh.iconst at_187 (x := 4) rfl ?_
  refine Sh.newarr hw (i := 5) (ty := .long) (dv := .long 0) (N := 4) (cap := 4) (k' := 3) (n' := 15) (a := 2) rfl rfl at_188 rfl (by decide) rfl (Sh.rp_4) (Sh.le rfl) (by decide) (Sh.le rfl) (Sh.le rfl) rfl rfl rfl (Sh.ap_2) ?_
  refine Sh.iconst at_190 (x := 4) rfl ?_
  refine Sh.newarr hw (i := 5) (ty := .long) (dv := .long 0) (N := 4) (cap := 4) (k' := 4) (n' := 19) (a := 3) rfl rfl at_191 rfl (by decide) rfl (Sh.rp_4) (Sh.le rfl) (by decide) (Sh.le rfl) (Sh.le rfl) rfl rfl rfl (Sh.ap_3) ?_
  refine Sh.aload at_193 rfl rfl ?_
  refine Sh.iload at_195 rfl ?_
  refine Sh.lconst at_197 (x := 0) rfl ?_
  refine Sh.lconst at_198 (x := 0) rfl ?_
  refine Sh.lconst at_199 (x := 0) rfl ?_
  refine Sh.callI hw (i1 := 10) (i2 := 11) (i3 := 9) (i4 := 12) (k' := 4) (n' := 19) (B' := b2) (R' := R2) rfl rfl rfl rfl rfl rfl (by decide) (m2 l Z a0 n0 hw _ _ _ _ _ _ _ _ _ _ 1 0 0 0) at_200 rfl rfl pd2 rfl (Sh.le rfl) (Sh.le rfl) (Sh.le rfl) (Sh.le rfl) rfl rfl ?_
  rintro _ _ ⟨rfl, rfl⟩
  refine Sh.astore at_203 rfl (Sh.s1_23 rfl rfl) ?_
  refine Sh.iconst at_205 (x := 0) rfl ?_
  refine Sh.istore at_206 (Sh.sw_24 rfl rfl) ?_
  exact fin1 l Z a0 n0 hw n a b c d q t0 t1 t2 t3 qu h01 h12 h23
theorem m5_2_0 (hw : HW Z a0) (t0 t1 t2 t3 qu : Int64) (d0 : ¬ t0 < qu) (d1 : ¬ t1 < qu) : Sh.Meth l Z a0 n0 b5 R5 [.ref 1, .long qu] (own_H t0 t1 (-9223372036854775808) (-9223372036854775808) 2) (fun v H' => v = some (.int 0) ∧ H' = (own_H t0 t1 (-9223372036854775808) (-9223372036854775808) 2)) := by
  refine Sh.Meth.of pn5 (L := [.val (.ref 1), .val (.long qu), .second, .unset, .unset, .unset]) rfl ?_
  refine Sh.iconst d5_0 (x := 0) rfl ?_
  refine Sh.istore_n d5_1 (Sh.s1_3 rfl rfl) ?_
  refine Sh.aload_n d5_2 rfl rfl ?_
  refine Sh.getfield hw (i := 27) (j := 3) rfl d5_3 rfl rfl ?_
  refine Sh.istore d5_6 (Sh.s1_4 rfl rfl) ?_
  refine Sh.iload_n d5_8 rfl ?_
  refine Sh.iload d5_9 rfl ?_
  refine Sh.icmpF d5_11 (by decide) ?_
  refine Sh.iload_n d5_14 rfl ?_
  refine Sh.iload d5_15 rfl ?_
  refine Sh.iaddE (z := 2) d5_17 (by decide) ?_
  refine Sh.iconst d5_18 (x := 1) rfl ?_
  refine Sh.iushrE (z := 1) d5_19 (by decide) ?_
  refine Sh.istore d5_20 (Sh.s1_5 rfl rfl) ?_
  refine Sh.aload_n d5_22 rfl rfl ?_
  refine Sh.getfield hw (i := 25) (j := 2) rfl d5_23 rfl rfl ?_
  refine Sh.iload d5_26 rfl ?_
  refine Sh.laload (jn := 1) d5_28 rfl (by decide) rfl rfl ?_
  refine Sh.lload_n d5_29 rfl ?_
  refine Sh.lcmpT d5_30 d5_31 (pc' := 42) rfl (by decide) d1 ?_
  refine Sh.iload d5_42 rfl ?_
  refine Sh.istore d5_44 (Sh.s1_4 rfl rfl) ?_
  refine Sh.goto d5_46 (pc' := 8) rfl (by decide) ?_
  refine Sh.iload_n d5_8 rfl ?_
  refine Sh.iload d5_9 rfl ?_
  refine Sh.icmpF d5_11 (by decide) ?_
  refine Sh.iload_n d5_14 rfl ?_
  refine Sh.iload d5_15 rfl ?_
  refine Sh.iaddE (z := 1) d5_17 (by decide) ?_
  refine Sh.iconst d5_18 (x := 1) rfl ?_
  refine Sh.iushrE (z := 0) d5_19 (by decide) ?_
  refine Sh.istore d5_20 (Sh.s1_5 rfl rfl) ?_
  refine Sh.aload_n d5_22 rfl rfl ?_
  refine Sh.getfield hw (i := 25) (j := 2) rfl d5_23 rfl rfl ?_
  refine Sh.iload d5_26 rfl ?_
  refine Sh.laload (jn := 0) d5_28 rfl (by decide) rfl rfl ?_
  refine Sh.lload_n d5_29 rfl ?_
  refine Sh.lcmpT d5_30 d5_31 (pc' := 42) rfl (by decide) d0 ?_
  refine Sh.iload d5_42 rfl ?_
  refine Sh.istore d5_44 (Sh.s1_4 rfl rfl) ?_
  refine Sh.goto d5_46 (pc' := 8) rfl (by decide) ?_
  refine Sh.iload_n d5_8 rfl ?_
  refine Sh.iload d5_9 rfl ?_
  refine Sh.icmpT d5_11 (pc' := 49) rfl (by decide) (by decide) ?_
  refine Sh.iload_n d5_49 rfl ?_
  refine Sh.retI d5_50 rfl (Sh.le rfl) (Sh.le rfl) ?_
  exact ⟨rfl, rfl⟩
theorem m5_2_1 (hw : HW Z a0) (t0 t1 t2 t3 qu : Int64) (d0 : t0 < qu) (d1 : ¬ t1 < qu) : Sh.Meth l Z a0 n0 b5 R5 [.ref 1, .long qu] (own_H t0 t1 (-9223372036854775808) (-9223372036854775808) 2) (fun v H' => v = some (.int 1) ∧ H' = (own_H t0 t1 (-9223372036854775808) (-9223372036854775808) 2)) := by
  refine Sh.Meth.of pn5 (L := [.val (.ref 1), .val (.long qu), .second, .unset, .unset, .unset]) rfl ?_
  refine Sh.iconst d5_0 (x := 0) rfl ?_
  refine Sh.istore_n d5_1 (Sh.s1_3 rfl rfl) ?_
  refine Sh.aload_n d5_2 rfl rfl ?_
  refine Sh.getfield hw (i := 27) (j := 3) rfl d5_3 rfl rfl ?_
  refine Sh.istore d5_6 (Sh.s1_4 rfl rfl) ?_
  refine Sh.iload_n d5_8 rfl ?_
  refine Sh.iload d5_9 rfl ?_
  refine Sh.icmpF d5_11 (by decide) ?_
  refine Sh.iload_n d5_14 rfl ?_
  refine Sh.iload d5_15 rfl ?_
  refine Sh.iaddE (z := 2) d5_17 (by decide) ?_
  refine Sh.iconst d5_18 (x := 1) rfl ?_
  refine Sh.iushrE (z := 1) d5_19 (by decide) ?_
  refine Sh.istore d5_20 (Sh.s1_5 rfl rfl) ?_
  refine Sh.aload_n d5_22 rfl rfl ?_
  refine Sh.getfield hw (i := 25) (j := 2) rfl d5_23 rfl rfl ?_
  refine Sh.iload d5_26 rfl ?_
  refine Sh.laload (jn := 1) d5_28 rfl (by decide) rfl rfl ?_
  refine Sh.lload_n d5_29 rfl ?_
  refine Sh.lcmpT d5_30 d5_31 (pc' := 42) rfl (by decide) d1 ?_
  refine Sh.iload d5_42 rfl ?_
  refine Sh.istore d5_44 (Sh.s1_4 rfl rfl) ?_
  refine Sh.goto d5_46 (pc' := 8) rfl (by decide) ?_
  refine Sh.iload_n d5_8 rfl ?_
  refine Sh.iload d5_9 rfl ?_
  refine Sh.icmpF d5_11 (by decide) ?_
  refine Sh.iload_n d5_14 rfl ?_
  refine Sh.iload d5_15 rfl ?_
  refine Sh.iaddE (z := 1) d5_17 (by decide) ?_
  refine Sh.iconst d5_18 (x := 1) rfl ?_
  refine Sh.iushrE (z := 0) d5_19 (by decide) ?_
  refine Sh.istore d5_20 (Sh.s1_5 rfl rfl) ?_
  refine Sh.aload_n d5_22 rfl rfl ?_
  refine Sh.getfield hw (i := 25) (j := 2) rfl d5_23 rfl rfl ?_
  refine Sh.iload d5_26 rfl ?_
  refine Sh.laload (jn := 0) d5_28 rfl (by decide) rfl rfl ?_
  refine Sh.lload_n d5_29 rfl ?_
  refine Sh.lcmpF d5_30 d5_31 (fun z => z d0) ?_
  refine Sh.iload d5_34 rfl ?_
  refine Sh.iconst d5_36 (x := 1) rfl ?_
  refine Sh.iaddE (z := 1) d5_37 (by decide) ?_
  refine Sh.istore_n d5_38 (Sh.s1_3 rfl rfl) ?_
  refine Sh.goto d5_39 (pc' := 46) rfl (by decide) ?_
  refine Sh.goto d5_46 (pc' := 8) rfl (by decide) ?_
  refine Sh.iload_n d5_8 rfl ?_
  refine Sh.iload d5_9 rfl ?_
  refine Sh.icmpT d5_11 (pc' := 49) rfl (by decide) (by decide) ?_
  refine Sh.iload_n d5_49 rfl ?_
  refine Sh.retI d5_50 rfl (Sh.le rfl) (Sh.le rfl) ?_
  exact ⟨rfl, rfl⟩
theorem m5_2_2 (hw : HW Z a0) (t0 t1 t2 t3 qu : Int64) (d0 : t0 < qu) (d1 : t1 < qu) : Sh.Meth l Z a0 n0 b5 R5 [.ref 1, .long qu] (own_H t0 t1 (-9223372036854775808) (-9223372036854775808) 2) (fun v H' => v = some (.int 2) ∧ H' = (own_H t0 t1 (-9223372036854775808) (-9223372036854775808) 2)) := by
  refine Sh.Meth.of pn5 (L := [.val (.ref 1), .val (.long qu), .second, .unset, .unset, .unset]) rfl ?_
  refine Sh.iconst d5_0 (x := 0) rfl ?_
  refine Sh.istore_n d5_1 (Sh.s1_3 rfl rfl) ?_
  refine Sh.aload_n d5_2 rfl rfl ?_
  refine Sh.getfield hw (i := 27) (j := 3) rfl d5_3 rfl rfl ?_
  refine Sh.istore d5_6 (Sh.s1_4 rfl rfl) ?_
  refine Sh.iload_n d5_8 rfl ?_
  refine Sh.iload d5_9 rfl ?_
  refine Sh.icmpF d5_11 (by decide) ?_
  refine Sh.iload_n d5_14 rfl ?_
  refine Sh.iload d5_15 rfl ?_
  refine Sh.iaddE (z := 2) d5_17 (by decide) ?_
  refine Sh.iconst d5_18 (x := 1) rfl ?_
  refine Sh.iushrE (z := 1) d5_19 (by decide) ?_
  refine Sh.istore d5_20 (Sh.s1_5 rfl rfl) ?_
  refine Sh.aload_n d5_22 rfl rfl ?_
  refine Sh.getfield hw (i := 25) (j := 2) rfl d5_23 rfl rfl ?_
  refine Sh.iload d5_26 rfl ?_
  refine Sh.laload (jn := 1) d5_28 rfl (by decide) rfl rfl ?_
  refine Sh.lload_n d5_29 rfl ?_
  refine Sh.lcmpF d5_30 d5_31 (fun z => z d1) ?_
  refine Sh.iload d5_34 rfl ?_
  refine Sh.iconst d5_36 (x := 1) rfl ?_
  refine Sh.iaddE (z := 2) d5_37 (by decide) ?_
  refine Sh.istore_n d5_38 (Sh.s1_3 rfl rfl) ?_
  refine Sh.goto d5_39 (pc' := 46) rfl (by decide) ?_
  refine Sh.goto d5_46 (pc' := 8) rfl (by decide) ?_
  refine Sh.iload_n d5_8 rfl ?_
  refine Sh.iload d5_9 rfl ?_
  refine Sh.icmpT d5_11 (pc' := 49) rfl (by decide) (by decide) ?_
  refine Sh.iload_n d5_49 rfl ?_
  refine Sh.retI d5_50 rfl (Sh.le rfl) (Sh.le rfl) ?_
  exact ⟨rfl, rfl⟩
theorem fin2 (hw : HW Z a0) (n : Int32) (a b c d q t0 t1 t2 t3 qu : Int64) (h01 : t0 ≤ t1) (h12 : t1 ≤ t2) (h23 : t2 ≤ t3) :
    Sh.WP l Z a0 n0 b0 room_1 4 19 208 [.val (.int n), .val (.long a), .second, .val (.long b), .second, .val (.long c), .second, .val (.long d), .second, .val (.long q), .second, .val (.int 2), .val (.long t0), .second, .val (.long t1), .second, .val (.long t2), .second, .val (.long t3), .second, .val (.ref 0), .val (.long qu), .second, .val (.ref 1), .val (.int 0), .unset] [] (own_H t0 t1 (-9223372036854775808) (-9223372036854775808) 2) (fun v _ => v = some (.int 1)) := by
  by_cases d0 : t0 < qu
  · skip
    by_cases d1 : t1 < qu
    · skip
      refine Sh.iload at_208 rfl ?_
      refine Sh.ifF at_210 (by decide) ?_
      refine Sh.lload at_213 rfl ?_
      refine Sh.lload at_215 rfl ?_
      refine Sh.lcmpF at_217 at_218 (fun z => z d0) ?_
      refine Sh.iload at_221 rfl ?_
      refine Sh.iconst at_223 (x := 1) rfl ?_
      refine Sh.iaddE (z := 1) at_224 (by decide) ?_
      refine Sh.istore at_225 (Sh.s1_24 rfl rfl) ?_
      refine Sh.iload at_227 rfl ?_
      refine Sh.iconst at_229 (x := 1) rfl ?_
      refine Sh.icmpF at_230 (by decide) ?_
      refine Sh.lload at_233 rfl ?_
      refine Sh.lload at_235 rfl ?_
      refine Sh.lcmpF at_237 at_238 (fun z => z d1) ?_
      refine Sh.iload at_241 rfl ?_
      refine Sh.iconst at_243 (x := 1) rfl ?_
      refine Sh.iaddE (z := 2) at_244 (by decide) ?_
      refine Sh.istore at_245 (Sh.s1_24 rfl rfl) ?_
      refine Sh.iload at_247 rfl ?_
      refine Sh.iconst at_249 (x := 2) rfl ?_
      refine Sh.icmpT at_250 (pc' := 267) rfl (by decide) (by decide) ?_
      refine Sh.iload at_267 rfl ?_
      refine Sh.iconst at_269 (x := 3) rfl ?_
      refine Sh.icmpT at_270 (pc' := 287) rfl (by decide) (by decide) ?_
      refine Sh.aload at_287 rfl rfl ?_
      refine Sh.lload at_289 rfl ?_
      refine Sh.callV hw (i1 := 35) (i2 := 37) (i3 := 9) (i4 := 39) (i5 := 36) (i6 := 38) (k' := 4) (n' := 19) (B' := b5) (R' := R5) rfl rfl rfl rfl rfl rfl (by decide) rfl (m5_2_2 l Z a0 n0 hw t0 t1 t2 t3 qu d0 d1) at_291 rfl rfl pd5 rfl (Sh.le rfl) (Sh.le rfl) (Sh.le rfl) (Sh.le rfl) rfl rfl ?_
      rintro _ _ ⟨rfl, rfl⟩
      refine Sh.iload at_294 rfl ?_
      refine Sh.icmpF at_296 (by decide) ?_
      refine Sh.iconst at_299 (x := 1) rfl ?_
      refine Sh.goto at_300 (pc' := 304) rfl (by decide) ?_
      refine Sh.retN at_304 rfl (by simp) rfl (Sh.le rfl) (Sh.le rfl) ?_
      rfl
    · skip
      refine Sh.iload at_208 rfl ?_
      refine Sh.ifF at_210 (by decide) ?_
      refine Sh.lload at_213 rfl ?_
      refine Sh.lload at_215 rfl ?_
      refine Sh.lcmpF at_217 at_218 (fun z => z d0) ?_
      refine Sh.iload at_221 rfl ?_
      refine Sh.iconst at_223 (x := 1) rfl ?_
      refine Sh.iaddE (z := 1) at_224 (by decide) ?_
      refine Sh.istore at_225 (Sh.s1_24 rfl rfl) ?_
      refine Sh.iload at_227 rfl ?_
      refine Sh.iconst at_229 (x := 1) rfl ?_
      refine Sh.icmpF at_230 (by decide) ?_
      refine Sh.lload at_233 rfl ?_
      refine Sh.lload at_235 rfl ?_
      refine Sh.lcmpT at_237 at_238 (pc' := 247) rfl (by decide) d1 ?_
      refine Sh.iload at_247 rfl ?_
      refine Sh.iconst at_249 (x := 2) rfl ?_
      refine Sh.icmpT at_250 (pc' := 267) rfl (by decide) (by decide) ?_
      refine Sh.iload at_267 rfl ?_
      refine Sh.iconst at_269 (x := 3) rfl ?_
      refine Sh.icmpT at_270 (pc' := 287) rfl (by decide) (by decide) ?_
      refine Sh.aload at_287 rfl rfl ?_
      refine Sh.lload at_289 rfl ?_
      refine Sh.callV hw (i1 := 35) (i2 := 37) (i3 := 9) (i4 := 39) (i5 := 36) (i6 := 38) (k' := 4) (n' := 19) (B' := b5) (R' := R5) rfl rfl rfl rfl rfl rfl (by decide) rfl (m5_2_1 l Z a0 n0 hw t0 t1 t2 t3 qu d0 d1) at_291 rfl rfl pd5 rfl (Sh.le rfl) (Sh.le rfl) (Sh.le rfl) (Sh.le rfl) rfl rfl ?_
      rintro _ _ ⟨rfl, rfl⟩
      refine Sh.iload at_294 rfl ?_
      refine Sh.icmpF at_296 (by decide) ?_
      refine Sh.iconst at_299 (x := 1) rfl ?_
      refine Sh.goto at_300 (pc' := 304) rfl (by decide) ?_
      refine Sh.retN at_304 rfl (by simp) rfl (Sh.le rfl) (Sh.le rfl) ?_
      rfl
  · skip
    have d1 := own_up d0 h01
    refine Sh.iload at_208 rfl ?_
    refine Sh.ifF at_210 (by decide) ?_
    refine Sh.lload at_213 rfl ?_
    refine Sh.lload at_215 rfl ?_
    refine Sh.lcmpT at_217 at_218 (pc' := 227) rfl (by decide) d0 ?_
    refine Sh.iload at_227 rfl ?_
    refine Sh.iconst at_229 (x := 1) rfl ?_
    refine Sh.icmpF at_230 (by decide) ?_
    refine Sh.lload at_233 rfl ?_
    refine Sh.lload at_235 rfl ?_
    refine Sh.lcmpT at_237 at_238 (pc' := 247) rfl (by decide) d1 ?_
    refine Sh.iload at_247 rfl ?_
    refine Sh.iconst at_249 (x := 2) rfl ?_
    refine Sh.icmpT at_250 (pc' := 267) rfl (by decide) (by decide) ?_
    refine Sh.iload at_267 rfl ?_
    refine Sh.iconst at_269 (x := 3) rfl ?_
    refine Sh.icmpT at_270 (pc' := 287) rfl (by decide) (by decide) ?_
    refine Sh.aload at_287 rfl rfl ?_
    refine Sh.lload at_289 rfl ?_
    refine Sh.callV hw (i1 := 35) (i2 := 37) (i3 := 9) (i4 := 39) (i5 := 36) (i6 := 38) (k' := 4) (n' := 19) (B' := b5) (R' := R5) rfl rfl rfl rfl rfl rfl (by decide) rfl (m5_2_0 l Z a0 n0 hw t0 t1 t2 t3 qu d0 d1) at_291 rfl rfl pd5 rfl (Sh.le rfl) (Sh.le rfl) (Sh.le rfl) (Sh.le rfl) rfl rfl ?_
    rintro _ _ ⟨rfl, rfl⟩
    refine Sh.iload at_294 rfl ?_
    refine Sh.icmpF at_296 (by decide) ?_
    refine Sh.iconst at_299 (x := 1) rfl ?_
    refine Sh.goto at_300 (pc' := 304) rfl (by decide) ?_
    refine Sh.retN at_304 rfl (by simp) rfl (Sh.le rfl) (Sh.le rfl) ?_
    rfl
theorem go2u (hw : HW Z a0) (n : Int32) (a b c d q t0 t1 t2 t3 qu : Int64) (h01 : t0 ≤ t1) (h12 : t1 ≤ t2) (h23 : t2 ≤ t3) :
    Sh.WP l Z a0 n0 b0 room_1 1 4 183 [.val (.int n), .val (.long a), .second, .val (.long b), .second, .val (.long c), .second, .val (.long d), .second, .val (.long q), .second, .val (.int 2), .val (.long t0), .second, .val (.long t1), .second, .val (.long t2), .second, .val (.long t3), .second, .val (.ref 0), .val (.long qu), .second, .unset, .unset, .unset] [] [.inr (.long, [.long t0, .long t1, .long (-9223372036854775808), .long (-9223372036854775808)])] (fun v _ => v = some (.int 1)) := by
  refine Sh.newobj hw (i1 := 7) (i2 := 8) (i3 := 9) (k' := 2) (n' := 11) (a := 1) rfl rfl rfl at_183 fs_FrameIndex nd_FrameIndex (Sh.le rfl) (Sh.le rfl) rfl rfl rfl (Sh.ap_1) ?_
  refine Sh.dup at_186 rfl ?_
  refine Sh.iconst at_187 (x := 4) rfl ?_
  refine Sh.newarr hw (i := 5) (ty := .long) (dv := .long 0) (N := 4) (cap := 4) (k' := 3) (n' := 15) (a := 2) rfl rfl at_188 rfl (by decide) rfl (Sh.rp_4) (Sh.le rfl) (by decide) (Sh.le rfl) (Sh.le rfl) rfl rfl rfl (Sh.ap_2) ?_
  refine Sh.iconst at_190 (x := 4) rfl ?_
  refine Sh.newarr hw (i := 5) (ty := .long) (dv := .long 0) (N := 4) (cap := 4) (k' := 4) (n' := 19) (a := 3) rfl rfl at_191 rfl (by decide) rfl (Sh.rp_4) (Sh.le rfl) (by decide) (Sh.le rfl) (Sh.le rfl) rfl rfl rfl (Sh.ap_3) ?_
  refine Sh.aload at_193 rfl rfl ?_
  refine Sh.iload at_195 rfl ?_
  refine Sh.lconst at_197 (x := 0) rfl ?_
  refine Sh.lconst at_198 (x := 0) rfl ?_
  refine Sh.lconst at_199 (x := 0) rfl ?_
  refine Sh.callI hw (i1 := 10) (i2 := 11) (i3 := 9) (i4 := 12) (k' := 4) (n' := 19) (B' := b2) (R' := R2) rfl rfl rfl rfl rfl rfl (by decide) (m2 l Z a0 n0 hw _ _ _ _ _ _ _ _ _ _ 2 0 0 0) at_200 rfl rfl pd2 rfl (Sh.le rfl) (Sh.le rfl) (Sh.le rfl) (Sh.le rfl) rfl rfl ?_
  rintro _ _ ⟨rfl, rfl⟩
  refine Sh.astore at_203 rfl (Sh.s1_23 rfl rfl) ?_
  refine Sh.iconst at_205 (x := 0) rfl ?_
  refine Sh.istore at_206 (Sh.s1_24 rfl rfl) ?_
  exact fin2 l Z a0 n0 hw n a b c d q t0 t1 t2 t3 qu h01 h12 h23
theorem go2k (hw : HW Z a0) (n : Int32) (a b c d q t0 t1 t2 t3 qu : Int64) (h01 : t0 ≤ t1) (h12 : t1 ≤ t2) (h23 : t2 ≤ t3) (kk : Int32) (bs : Int64) :
    Sh.WP l Z a0 n0 b0 room_1 1 4 183 [.val (.int n), .val (.long a), .second, .val (.long b), .second, .val (.long c), .second, .val (.long d), .second, .val (.long q), .second, .val (.int 2), .val (.long t0), .second, .val (.long t1), .second, .val (.long t2), .second, .val (.long t3), .second, .val (.ref 0), .val (.long qu), .second, .val (.int kk), .val (.long bs), .second] [] [.inr (.long, [.long t0, .long t1, .long (-9223372036854775808), .long (-9223372036854775808)])] (fun v _ => v = some (.int 1)) := by
  refine Sh.newobj hw (i1 := 7) (i2 := 8) (i3 := 9) (k' := 2) (n' := 11) (a := 1) rfl rfl rfl at_183 fs_FrameIndex nd_FrameIndex (Sh.le rfl) (Sh.le rfl) rfl rfl rfl (Sh.ap_1) ?_
  refine Sh.dup at_186 rfl ?_
  refine Sh.iconst at_187 (x := 4) rfl ?_
  refine Sh.newarr hw (i := 5) (ty := .long) (dv := .long 0) (N := 4) (cap := 4) (k' := 3) (n' := 15) (a := 2) rfl rfl at_188 rfl (by decide) rfl (Sh.rp_4) (Sh.le rfl) (by decide) (Sh.le rfl) (Sh.le rfl) rfl rfl rfl (Sh.ap_2) ?_
  refine Sh.iconst at_190 (x := 4) rfl ?_
  refine Sh.newarr hw (i := 5) (ty := .long) (dv := .long 0) (N := 4) (cap := 4) (k' := 4) (n' := 19) (a := 3) rfl rfl at_191 rfl (by decide) rfl (Sh.rp_4) (Sh.le rfl) (by decide) (Sh.le rfl) (Sh.le rfl) rfl rfl rfl (Sh.ap_3) ?_
  refine Sh.aload at_193 rfl rfl ?_
  refine Sh.iload at_195 rfl ?_
  refine Sh.lconst at_197 (x := 0) rfl ?_
  refine Sh.lconst at_198 (x := 0) rfl ?_
  refine Sh.lconst at_199 (x := 0) rfl ?_
  refine Sh.callI hw (i1 := 10) (i2 := 11) (i3 := 9) (i4 := 12) (k' := 4) (n' := 19) (B' := b2) (R' := R2) rfl rfl rfl rfl rfl rfl (by decide) (m2 l Z a0 n0 hw _ _ _ _ _ _ _ _ _ _ 2 0 0 0) at_200 rfl rfl pd2 rfl (Sh.le rfl) (Sh.le rfl) (Sh.le rfl) (Sh.le rfl) rfl rfl ?_
  rintro _ _ ⟨rfl, rfl⟩
  refine Sh.astore at_203 rfl (Sh.s1_23 rfl rfl) ?_
  refine Sh.iconst at_205 (x := 0) rfl ?_
  refine Sh.istore at_206 (Sh.sw_24 rfl rfl) ?_
  exact fin2 l Z a0 n0 hw n a b c d q t0 t1 t2 t3 qu h01 h12 h23
theorem m5_3_0 (hw : HW Z a0) (t0 t1 t2 t3 qu : Int64) (d0 : ¬ t0 < qu) (d1 : ¬ t1 < qu) (d2 : ¬ t2 < qu) : Sh.Meth l Z a0 n0 b5 R5 [.ref 1, .long qu] (own_H t0 t1 t2 (-9223372036854775808) 3) (fun v H' => v = some (.int 0) ∧ H' = (own_H t0 t1 t2 (-9223372036854775808) 3)) := by
  refine Sh.Meth.of pn5 (L := [.val (.ref 1), .val (.long qu), .second, .unset, .unset, .unset]) rfl ?_
  refine Sh.iconst d5_0 (x := 0) rfl ?_
  refine Sh.istore_n d5_1 (Sh.s1_3 rfl rfl) ?_
  refine Sh.aload_n d5_2 rfl rfl ?_
  refine Sh.getfield hw (i := 27) (j := 3) rfl d5_3 rfl rfl ?_
  refine Sh.istore d5_6 (Sh.s1_4 rfl rfl) ?_
  refine Sh.iload_n d5_8 rfl ?_
  refine Sh.iload d5_9 rfl ?_
  refine Sh.icmpF d5_11 (by decide) ?_
  refine Sh.iload_n d5_14 rfl ?_
  refine Sh.iload d5_15 rfl ?_
  refine Sh.iaddE (z := 3) d5_17 (by decide) ?_
  refine Sh.iconst d5_18 (x := 1) rfl ?_
  refine Sh.iushrE (z := 1) d5_19 (by decide) ?_
  refine Sh.istore d5_20 (Sh.s1_5 rfl rfl) ?_
  refine Sh.aload_n d5_22 rfl rfl ?_
  refine Sh.getfield hw (i := 25) (j := 2) rfl d5_23 rfl rfl ?_
  refine Sh.iload d5_26 rfl ?_
  refine Sh.laload (jn := 1) d5_28 rfl (by decide) rfl rfl ?_
  refine Sh.lload_n d5_29 rfl ?_
  refine Sh.lcmpT d5_30 d5_31 (pc' := 42) rfl (by decide) d1 ?_
  refine Sh.iload d5_42 rfl ?_
  refine Sh.istore d5_44 (Sh.s1_4 rfl rfl) ?_
  refine Sh.goto d5_46 (pc' := 8) rfl (by decide) ?_
  refine Sh.iload_n d5_8 rfl ?_
  refine Sh.iload d5_9 rfl ?_
  refine Sh.icmpF d5_11 (by decide) ?_
  refine Sh.iload_n d5_14 rfl ?_
  refine Sh.iload d5_15 rfl ?_
  refine Sh.iaddE (z := 1) d5_17 (by decide) ?_
  refine Sh.iconst d5_18 (x := 1) rfl ?_
  refine Sh.iushrE (z := 0) d5_19 (by decide) ?_
  refine Sh.istore d5_20 (Sh.s1_5 rfl rfl) ?_
  refine Sh.aload_n d5_22 rfl rfl ?_
  refine Sh.getfield hw (i := 25) (j := 2) rfl d5_23 rfl rfl ?_
  refine Sh.iload d5_26 rfl ?_
  refine Sh.laload (jn := 0) d5_28 rfl (by decide) rfl rfl ?_
  refine Sh.lload_n d5_29 rfl ?_
  refine Sh.lcmpT d5_30 d5_31 (pc' := 42) rfl (by decide) d0 ?_
  refine Sh.iload d5_42 rfl ?_
  refine Sh.istore d5_44 (Sh.s1_4 rfl rfl) ?_
  refine Sh.goto d5_46 (pc' := 8) rfl (by decide) ?_
  refine Sh.iload_n d5_8 rfl ?_
  refine Sh.iload d5_9 rfl ?_
  refine Sh.icmpT d5_11 (pc' := 49) rfl (by decide) (by decide) ?_
  refine Sh.iload_n d5_49 rfl ?_
  refine Sh.retI d5_50 rfl (Sh.le rfl) (Sh.le rfl) ?_
  exact ⟨rfl, rfl⟩
theorem m5_3_1 (hw : HW Z a0) (t0 t1 t2 t3 qu : Int64) (d0 : t0 < qu) (d1 : ¬ t1 < qu) (d2 : ¬ t2 < qu) : Sh.Meth l Z a0 n0 b5 R5 [.ref 1, .long qu] (own_H t0 t1 t2 (-9223372036854775808) 3) (fun v H' => v = some (.int 1) ∧ H' = (own_H t0 t1 t2 (-9223372036854775808) 3)) := by
  refine Sh.Meth.of pn5 (L := [.val (.ref 1), .val (.long qu), .second, .unset, .unset, .unset]) rfl ?_
  refine Sh.iconst d5_0 (x := 0) rfl ?_
  refine Sh.istore_n d5_1 (Sh.s1_3 rfl rfl) ?_
  refine Sh.aload_n d5_2 rfl rfl ?_
  refine Sh.getfield hw (i := 27) (j := 3) rfl d5_3 rfl rfl ?_
  refine Sh.istore d5_6 (Sh.s1_4 rfl rfl) ?_
  refine Sh.iload_n d5_8 rfl ?_
  refine Sh.iload d5_9 rfl ?_
  refine Sh.icmpF d5_11 (by decide) ?_
  refine Sh.iload_n d5_14 rfl ?_
  refine Sh.iload d5_15 rfl ?_
  refine Sh.iaddE (z := 3) d5_17 (by decide) ?_
  refine Sh.iconst d5_18 (x := 1) rfl ?_
  refine Sh.iushrE (z := 1) d5_19 (by decide) ?_
  refine Sh.istore d5_20 (Sh.s1_5 rfl rfl) ?_
  refine Sh.aload_n d5_22 rfl rfl ?_
  refine Sh.getfield hw (i := 25) (j := 2) rfl d5_23 rfl rfl ?_
  refine Sh.iload d5_26 rfl ?_
  refine Sh.laload (jn := 1) d5_28 rfl (by decide) rfl rfl ?_
  refine Sh.lload_n d5_29 rfl ?_
  refine Sh.lcmpT d5_30 d5_31 (pc' := 42) rfl (by decide) d1 ?_
  refine Sh.iload d5_42 rfl ?_
  refine Sh.istore d5_44 (Sh.s1_4 rfl rfl) ?_
  refine Sh.goto d5_46 (pc' := 8) rfl (by decide) ?_
  refine Sh.iload_n d5_8 rfl ?_
  refine Sh.iload d5_9 rfl ?_
  refine Sh.icmpF d5_11 (by decide) ?_
  refine Sh.iload_n d5_14 rfl ?_
  refine Sh.iload d5_15 rfl ?_
  refine Sh.iaddE (z := 1) d5_17 (by decide) ?_
  refine Sh.iconst d5_18 (x := 1) rfl ?_
  refine Sh.iushrE (z := 0) d5_19 (by decide) ?_
  refine Sh.istore d5_20 (Sh.s1_5 rfl rfl) ?_
  refine Sh.aload_n d5_22 rfl rfl ?_
  refine Sh.getfield hw (i := 25) (j := 2) rfl d5_23 rfl rfl ?_
  refine Sh.iload d5_26 rfl ?_
  refine Sh.laload (jn := 0) d5_28 rfl (by decide) rfl rfl ?_
  refine Sh.lload_n d5_29 rfl ?_
  refine Sh.lcmpF d5_30 d5_31 (fun z => z d0) ?_
  refine Sh.iload d5_34 rfl ?_
  refine Sh.iconst d5_36 (x := 1) rfl ?_
  refine Sh.iaddE (z := 1) d5_37 (by decide) ?_
  refine Sh.istore_n d5_38 (Sh.s1_3 rfl rfl) ?_
  refine Sh.goto d5_39 (pc' := 46) rfl (by decide) ?_
  refine Sh.goto d5_46 (pc' := 8) rfl (by decide) ?_
  refine Sh.iload_n d5_8 rfl ?_
  refine Sh.iload d5_9 rfl ?_
  refine Sh.icmpT d5_11 (pc' := 49) rfl (by decide) (by decide) ?_
  refine Sh.iload_n d5_49 rfl ?_
  refine Sh.retI d5_50 rfl (Sh.le rfl) (Sh.le rfl) ?_
  exact ⟨rfl, rfl⟩
theorem m5_3_2 (hw : HW Z a0) (t0 t1 t2 t3 qu : Int64) (d0 : t0 < qu) (d1 : t1 < qu) (d2 : ¬ t2 < qu) : Sh.Meth l Z a0 n0 b5 R5 [.ref 1, .long qu] (own_H t0 t1 t2 (-9223372036854775808) 3) (fun v H' => v = some (.int 2) ∧ H' = (own_H t0 t1 t2 (-9223372036854775808) 3)) := by
  refine Sh.Meth.of pn5 (L := [.val (.ref 1), .val (.long qu), .second, .unset, .unset, .unset]) rfl ?_
  refine Sh.iconst d5_0 (x := 0) rfl ?_
  refine Sh.istore_n d5_1 (Sh.s1_3 rfl rfl) ?_
  refine Sh.aload_n d5_2 rfl rfl ?_
  refine Sh.getfield hw (i := 27) (j := 3) rfl d5_3 rfl rfl ?_
  refine Sh.istore d5_6 (Sh.s1_4 rfl rfl) ?_
  refine Sh.iload_n d5_8 rfl ?_
  refine Sh.iload d5_9 rfl ?_
  refine Sh.icmpF d5_11 (by decide) ?_
  refine Sh.iload_n d5_14 rfl ?_
  refine Sh.iload d5_15 rfl ?_
  refine Sh.iaddE (z := 3) d5_17 (by decide) ?_
  refine Sh.iconst d5_18 (x := 1) rfl ?_
  refine Sh.iushrE (z := 1) d5_19 (by decide) ?_
  refine Sh.istore d5_20 (Sh.s1_5 rfl rfl) ?_
  refine Sh.aload_n d5_22 rfl rfl ?_
  refine Sh.getfield hw (i := 25) (j := 2) rfl d5_23 rfl rfl ?_
  refine Sh.iload d5_26 rfl ?_
  refine Sh.laload (jn := 1) d5_28 rfl (by decide) rfl rfl ?_
  refine Sh.lload_n d5_29 rfl ?_
  refine Sh.lcmpF d5_30 d5_31 (fun z => z d1) ?_
  refine Sh.iload d5_34 rfl ?_
  refine Sh.iconst d5_36 (x := 1) rfl ?_
  refine Sh.iaddE (z := 2) d5_37 (by decide) ?_
  refine Sh.istore_n d5_38 (Sh.s1_3 rfl rfl) ?_
  refine Sh.goto d5_39 (pc' := 46) rfl (by decide) ?_
  refine Sh.goto d5_46 (pc' := 8) rfl (by decide) ?_
  refine Sh.iload_n d5_8 rfl ?_
  refine Sh.iload d5_9 rfl ?_
  refine Sh.icmpF d5_11 (by decide) ?_
  refine Sh.iload_n d5_14 rfl ?_
  refine Sh.iload d5_15 rfl ?_
  refine Sh.iaddE (z := 5) d5_17 (by decide) ?_
  refine Sh.iconst d5_18 (x := 1) rfl ?_
  refine Sh.iushrE (z := 2) d5_19 (by decide) ?_
  refine Sh.istore d5_20 (Sh.s1_5 rfl rfl) ?_
  refine Sh.aload_n d5_22 rfl rfl ?_
  refine Sh.getfield hw (i := 25) (j := 2) rfl d5_23 rfl rfl ?_
  refine Sh.iload d5_26 rfl ?_
  refine Sh.laload (jn := 2) d5_28 rfl (by decide) rfl rfl ?_
  refine Sh.lload_n d5_29 rfl ?_
  refine Sh.lcmpT d5_30 d5_31 (pc' := 42) rfl (by decide) d2 ?_
  refine Sh.iload d5_42 rfl ?_
  refine Sh.istore d5_44 (Sh.s1_4 rfl rfl) ?_
  refine Sh.goto d5_46 (pc' := 8) rfl (by decide) ?_
  refine Sh.iload_n d5_8 rfl ?_
  refine Sh.iload d5_9 rfl ?_
  refine Sh.icmpT d5_11 (pc' := 49) rfl (by decide) (by decide) ?_
  refine Sh.iload_n d5_49 rfl ?_
  refine Sh.retI d5_50 rfl (Sh.le rfl) (Sh.le rfl) ?_
  exact ⟨rfl, rfl⟩
theorem m5_3_3 (hw : HW Z a0) (t0 t1 t2 t3 qu : Int64) (d0 : t0 < qu) (d1 : t1 < qu) (d2 : t2 < qu) : Sh.Meth l Z a0 n0 b5 R5 [.ref 1, .long qu] (own_H t0 t1 t2 (-9223372036854775808) 3) (fun v H' => v = some (.int 3) ∧ H' = (own_H t0 t1 t2 (-9223372036854775808) 3)) := by
  refine Sh.Meth.of pn5 (L := [.val (.ref 1), .val (.long qu), .second, .unset, .unset, .unset]) rfl ?_
  refine Sh.iconst d5_0 (x := 0) rfl ?_
  refine Sh.istore_n d5_1 (Sh.s1_3 rfl rfl) ?_
  refine Sh.aload_n d5_2 rfl rfl ?_
  refine Sh.getfield hw (i := 27) (j := 3) rfl d5_3 rfl rfl ?_
  refine Sh.istore d5_6 (Sh.s1_4 rfl rfl) ?_
  refine Sh.iload_n d5_8 rfl ?_
  refine Sh.iload d5_9 rfl ?_
  refine Sh.icmpF d5_11 (by decide) ?_
  refine Sh.iload_n d5_14 rfl ?_
  refine Sh.iload d5_15 rfl ?_
  refine Sh.iaddE (z := 3) d5_17 (by decide) ?_
  refine Sh.iconst d5_18 (x := 1) rfl ?_
  refine Sh.iushrE (z := 1) d5_19 (by decide) ?_
  refine Sh.istore d5_20 (Sh.s1_5 rfl rfl) ?_
  refine Sh.aload_n d5_22 rfl rfl ?_
  refine Sh.getfield hw (i := 25) (j := 2) rfl d5_23 rfl rfl ?_
  refine Sh.iload d5_26 rfl ?_
  refine Sh.laload (jn := 1) d5_28 rfl (by decide) rfl rfl ?_
  refine Sh.lload_n d5_29 rfl ?_
  refine Sh.lcmpF d5_30 d5_31 (fun z => z d1) ?_
  refine Sh.iload d5_34 rfl ?_
  refine Sh.iconst d5_36 (x := 1) rfl ?_
  refine Sh.iaddE (z := 2) d5_37 (by decide) ?_
  refine Sh.istore_n d5_38 (Sh.s1_3 rfl rfl) ?_
  refine Sh.goto d5_39 (pc' := 46) rfl (by decide) ?_
  refine Sh.goto d5_46 (pc' := 8) rfl (by decide) ?_
  refine Sh.iload_n d5_8 rfl ?_
  refine Sh.iload d5_9 rfl ?_
  refine Sh.icmpF d5_11 (by decide) ?_
  refine Sh.iload_n d5_14 rfl ?_
  refine Sh.iload d5_15 rfl ?_
  refine Sh.iaddE (z := 5) d5_17 (by decide) ?_
  refine Sh.iconst d5_18 (x := 1) rfl ?_
  refine Sh.iushrE (z := 2) d5_19 (by decide) ?_
  refine Sh.istore d5_20 (Sh.s1_5 rfl rfl) ?_
  refine Sh.aload_n d5_22 rfl rfl ?_
  refine Sh.getfield hw (i := 25) (j := 2) rfl d5_23 rfl rfl ?_
  refine Sh.iload d5_26 rfl ?_
  refine Sh.laload (jn := 2) d5_28 rfl (by decide) rfl rfl ?_
  refine Sh.lload_n d5_29 rfl ?_
  refine Sh.lcmpF d5_30 d5_31 (fun z => z d2) ?_
  refine Sh.iload d5_34 rfl ?_
  refine Sh.iconst d5_36 (x := 1) rfl ?_
  refine Sh.iaddE (z := 3) d5_37 (by decide) ?_
  refine Sh.istore_n d5_38 (Sh.s1_3 rfl rfl) ?_
  refine Sh.goto d5_39 (pc' := 46) rfl (by decide) ?_
  refine Sh.goto d5_46 (pc' := 8) rfl (by decide) ?_
  refine Sh.iload_n d5_8 rfl ?_
  refine Sh.iload d5_9 rfl ?_
  refine Sh.icmpT d5_11 (pc' := 49) rfl (by decide) (by decide) ?_
  refine Sh.iload_n d5_49 rfl ?_
  refine Sh.retI d5_50 rfl (Sh.le rfl) (Sh.le rfl) ?_
  exact ⟨rfl, rfl⟩
theorem fin3 (hw : HW Z a0) (n : Int32) (a b c d q t0 t1 t2 t3 qu : Int64) (h01 : t0 ≤ t1) (h12 : t1 ≤ t2) (h23 : t2 ≤ t3) :
    Sh.WP l Z a0 n0 b0 room_1 4 19 208 [.val (.int n), .val (.long a), .second, .val (.long b), .second, .val (.long c), .second, .val (.long d), .second, .val (.long q), .second, .val (.int 3), .val (.long t0), .second, .val (.long t1), .second, .val (.long t2), .second, .val (.long t3), .second, .val (.ref 0), .val (.long qu), .second, .val (.ref 1), .val (.int 0), .unset] [] (own_H t0 t1 t2 (-9223372036854775808) 3) (fun v _ => v = some (.int 1)) := by
  by_cases d0 : t0 < qu
  · skip
    by_cases d1 : t1 < qu
    · skip
      by_cases d2 : t2 < qu
      · skip
        refine Sh.iload at_208 rfl ?_
        refine Sh.ifF at_210 (by decide) ?_
        refine Sh.lload at_213 rfl ?_
        refine Sh.lload at_215 rfl ?_
        refine Sh.lcmpF at_217 at_218 (fun z => z d0) ?_
        refine Sh.iload at_221 rfl ?_
        refine Sh.iconst at_223 (x := 1) rfl ?_
        refine Sh.iaddE (z := 1) at_224 (by decide) ?_
        refine Sh.istore at_225 (Sh.s1_24 rfl rfl) ?_
        refine Sh.iload at_227 rfl ?_
        refine Sh.iconst at_229 (x := 1) rfl ?_
        refine Sh.icmpF at_230 (by decide) ?_
        refine Sh.lload at_233 rfl ?_
        refine Sh.lload at_235 rfl ?_
        refine Sh.lcmpF at_237 at_238 (fun z => z d1) ?_
        refine Sh.iload at_241 rfl ?_
        refine Sh.iconst at_243 (x := 1) rfl ?_
        refine Sh.iaddE (z := 2) at_244 (by decide) ?_
        refine Sh.istore at_245 (Sh.s1_24 rfl rfl) ?_
        refine Sh.iload at_247 rfl ?_
        refine Sh.iconst at_249 (x := 2) rfl ?_
        refine Sh.icmpF at_250 (by decide) ?_
        refine Sh.lload at_253 rfl ?_
        refine Sh.lload at_255 rfl ?_
        refine Sh.lcmpF at_257 at_258 (fun z => z d2) ?_
        refine Sh.iload at_261 rfl ?_
        refine Sh.iconst at_263 (x := 1) rfl ?_
        refine Sh.iaddE (z := 3) at_264 (by decide) ?_
        refine Sh.istore at_265 (Sh.s1_24 rfl rfl) ?_
        refine Sh.iload at_267 rfl ?_
        refine Sh.iconst at_269 (x := 3) rfl ?_
        refine Sh.icmpT at_270 (pc' := 287) rfl (by decide) (by decide) ?_
        refine Sh.aload at_287 rfl rfl ?_
        refine Sh.lload at_289 rfl ?_
        refine Sh.callV hw (i1 := 35) (i2 := 37) (i3 := 9) (i4 := 39) (i5 := 36) (i6 := 38) (k' := 4) (n' := 19) (B' := b5) (R' := R5) rfl rfl rfl rfl rfl rfl (by decide) rfl (m5_3_3 l Z a0 n0 hw t0 t1 t2 t3 qu d0 d1 d2) at_291 rfl rfl pd5 rfl (Sh.le rfl) (Sh.le rfl) (Sh.le rfl) (Sh.le rfl) rfl rfl ?_
        rintro _ _ ⟨rfl, rfl⟩
        refine Sh.iload at_294 rfl ?_
        refine Sh.icmpF at_296 (by decide) ?_
        refine Sh.iconst at_299 (x := 1) rfl ?_
        refine Sh.goto at_300 (pc' := 304) rfl (by decide) ?_
        refine Sh.retN at_304 rfl (by simp) rfl (Sh.le rfl) (Sh.le rfl) ?_
        rfl
      · skip
        refine Sh.iload at_208 rfl ?_
        refine Sh.ifF at_210 (by decide) ?_
        refine Sh.lload at_213 rfl ?_
        refine Sh.lload at_215 rfl ?_
        refine Sh.lcmpF at_217 at_218 (fun z => z d0) ?_
        refine Sh.iload at_221 rfl ?_
        refine Sh.iconst at_223 (x := 1) rfl ?_
        refine Sh.iaddE (z := 1) at_224 (by decide) ?_
        refine Sh.istore at_225 (Sh.s1_24 rfl rfl) ?_
        refine Sh.iload at_227 rfl ?_
        refine Sh.iconst at_229 (x := 1) rfl ?_
        refine Sh.icmpF at_230 (by decide) ?_
        refine Sh.lload at_233 rfl ?_
        refine Sh.lload at_235 rfl ?_
        refine Sh.lcmpF at_237 at_238 (fun z => z d1) ?_
        refine Sh.iload at_241 rfl ?_
        refine Sh.iconst at_243 (x := 1) rfl ?_
        refine Sh.iaddE (z := 2) at_244 (by decide) ?_
        refine Sh.istore at_245 (Sh.s1_24 rfl rfl) ?_
        refine Sh.iload at_247 rfl ?_
        refine Sh.iconst at_249 (x := 2) rfl ?_
        refine Sh.icmpF at_250 (by decide) ?_
        refine Sh.lload at_253 rfl ?_
        refine Sh.lload at_255 rfl ?_
        refine Sh.lcmpT at_257 at_258 (pc' := 267) rfl (by decide) d2 ?_
        refine Sh.iload at_267 rfl ?_
        refine Sh.iconst at_269 (x := 3) rfl ?_
        refine Sh.icmpT at_270 (pc' := 287) rfl (by decide) (by decide) ?_
        refine Sh.aload at_287 rfl rfl ?_
        refine Sh.lload at_289 rfl ?_
        refine Sh.callV hw (i1 := 35) (i2 := 37) (i3 := 9) (i4 := 39) (i5 := 36) (i6 := 38) (k' := 4) (n' := 19) (B' := b5) (R' := R5) rfl rfl rfl rfl rfl rfl (by decide) rfl (m5_3_2 l Z a0 n0 hw t0 t1 t2 t3 qu d0 d1 d2) at_291 rfl rfl pd5 rfl (Sh.le rfl) (Sh.le rfl) (Sh.le rfl) (Sh.le rfl) rfl rfl ?_
        rintro _ _ ⟨rfl, rfl⟩
        refine Sh.iload at_294 rfl ?_
        refine Sh.icmpF at_296 (by decide) ?_
        refine Sh.iconst at_299 (x := 1) rfl ?_
        refine Sh.goto at_300 (pc' := 304) rfl (by decide) ?_
        refine Sh.retN at_304 rfl (by simp) rfl (Sh.le rfl) (Sh.le rfl) ?_
        rfl
    · skip
      have d2 := own_up d1 h12
      refine Sh.iload at_208 rfl ?_
      refine Sh.ifF at_210 (by decide) ?_
      refine Sh.lload at_213 rfl ?_
      refine Sh.lload at_215 rfl ?_
      refine Sh.lcmpF at_217 at_218 (fun z => z d0) ?_
      refine Sh.iload at_221 rfl ?_
      refine Sh.iconst at_223 (x := 1) rfl ?_
      refine Sh.iaddE (z := 1) at_224 (by decide) ?_
      refine Sh.istore at_225 (Sh.s1_24 rfl rfl) ?_
      refine Sh.iload at_227 rfl ?_
      refine Sh.iconst at_229 (x := 1) rfl ?_
      refine Sh.icmpF at_230 (by decide) ?_
      refine Sh.lload at_233 rfl ?_
      refine Sh.lload at_235 rfl ?_
      refine Sh.lcmpT at_237 at_238 (pc' := 247) rfl (by decide) d1 ?_
      refine Sh.iload at_247 rfl ?_
      refine Sh.iconst at_249 (x := 2) rfl ?_
      refine Sh.icmpF at_250 (by decide) ?_
      refine Sh.lload at_253 rfl ?_
      refine Sh.lload at_255 rfl ?_
      refine Sh.lcmpT at_257 at_258 (pc' := 267) rfl (by decide) d2 ?_
      refine Sh.iload at_267 rfl ?_
      refine Sh.iconst at_269 (x := 3) rfl ?_
      refine Sh.icmpT at_270 (pc' := 287) rfl (by decide) (by decide) ?_
      refine Sh.aload at_287 rfl rfl ?_
      refine Sh.lload at_289 rfl ?_
      refine Sh.callV hw (i1 := 35) (i2 := 37) (i3 := 9) (i4 := 39) (i5 := 36) (i6 := 38) (k' := 4) (n' := 19) (B' := b5) (R' := R5) rfl rfl rfl rfl rfl rfl (by decide) rfl (m5_3_1 l Z a0 n0 hw t0 t1 t2 t3 qu d0 d1 d2) at_291 rfl rfl pd5 rfl (Sh.le rfl) (Sh.le rfl) (Sh.le rfl) (Sh.le rfl) rfl rfl ?_
      rintro _ _ ⟨rfl, rfl⟩
      refine Sh.iload at_294 rfl ?_
      refine Sh.icmpF at_296 (by decide) ?_
      refine Sh.iconst at_299 (x := 1) rfl ?_
      refine Sh.goto at_300 (pc' := 304) rfl (by decide) ?_
      refine Sh.retN at_304 rfl (by simp) rfl (Sh.le rfl) (Sh.le rfl) ?_
      rfl
  · skip
    have d1 := own_up d0 h01
    have d2 := own_up d1 h12
    refine Sh.iload at_208 rfl ?_
    refine Sh.ifF at_210 (by decide) ?_
    refine Sh.lload at_213 rfl ?_
    refine Sh.lload at_215 rfl ?_
    refine Sh.lcmpT at_217 at_218 (pc' := 227) rfl (by decide) d0 ?_
    refine Sh.iload at_227 rfl ?_
    refine Sh.iconst at_229 (x := 1) rfl ?_
    refine Sh.icmpF at_230 (by decide) ?_
    refine Sh.lload at_233 rfl ?_
    refine Sh.lload at_235 rfl ?_
    refine Sh.lcmpT at_237 at_238 (pc' := 247) rfl (by decide) d1 ?_
    refine Sh.iload at_247 rfl ?_
    refine Sh.iconst at_249 (x := 2) rfl ?_
    refine Sh.icmpF at_250 (by decide) ?_
    refine Sh.lload at_253 rfl ?_
    refine Sh.lload at_255 rfl ?_
    refine Sh.lcmpT at_257 at_258 (pc' := 267) rfl (by decide) d2 ?_
    refine Sh.iload at_267 rfl ?_
    refine Sh.iconst at_269 (x := 3) rfl ?_
    refine Sh.icmpT at_270 (pc' := 287) rfl (by decide) (by decide) ?_
    refine Sh.aload at_287 rfl rfl ?_
    refine Sh.lload at_289 rfl ?_
    refine Sh.callV hw (i1 := 35) (i2 := 37) (i3 := 9) (i4 := 39) (i5 := 36) (i6 := 38) (k' := 4) (n' := 19) (B' := b5) (R' := R5) rfl rfl rfl rfl rfl rfl (by decide) rfl (m5_3_0 l Z a0 n0 hw t0 t1 t2 t3 qu d0 d1 d2) at_291 rfl rfl pd5 rfl (Sh.le rfl) (Sh.le rfl) (Sh.le rfl) (Sh.le rfl) rfl rfl ?_
    rintro _ _ ⟨rfl, rfl⟩
    refine Sh.iload at_294 rfl ?_
    refine Sh.icmpF at_296 (by decide) ?_
    refine Sh.iconst at_299 (x := 1) rfl ?_
    refine Sh.goto at_300 (pc' := 304) rfl (by decide) ?_
    refine Sh.retN at_304 rfl (by simp) rfl (Sh.le rfl) (Sh.le rfl) ?_
    rfl
theorem go3u (hw : HW Z a0) (n : Int32) (a b c d q t0 t1 t2 t3 qu : Int64) (h01 : t0 ≤ t1) (h12 : t1 ≤ t2) (h23 : t2 ≤ t3) :
    Sh.WP l Z a0 n0 b0 room_1 1 4 183 [.val (.int n), .val (.long a), .second, .val (.long b), .second, .val (.long c), .second, .val (.long d), .second, .val (.long q), .second, .val (.int 3), .val (.long t0), .second, .val (.long t1), .second, .val (.long t2), .second, .val (.long t3), .second, .val (.ref 0), .val (.long qu), .second, .unset, .unset, .unset] [] [.inr (.long, [.long t0, .long t1, .long t2, .long (-9223372036854775808)])] (fun v _ => v = some (.int 1)) := by
  refine Sh.newobj hw (i1 := 7) (i2 := 8) (i3 := 9) (k' := 2) (n' := 11) (a := 1) rfl rfl rfl at_183 fs_FrameIndex nd_FrameIndex (Sh.le rfl) (Sh.le rfl) rfl rfl rfl (Sh.ap_1) ?_
  refine Sh.dup at_186 rfl ?_
  refine Sh.iconst at_187 (x := 4) rfl ?_
  refine Sh.newarr hw (i := 5) (ty := .long) (dv := .long 0) (N := 4) (cap := 4) (k' := 3) (n' := 15) (a := 2) rfl rfl at_188 rfl (by decide) rfl (Sh.rp_4) (Sh.le rfl) (by decide) (Sh.le rfl) (Sh.le rfl) rfl rfl rfl (Sh.ap_2) ?_
  refine Sh.iconst at_190 (x := 4) rfl ?_
  refine Sh.newarr hw (i := 5) (ty := .long) (dv := .long 0) (N := 4) (cap := 4) (k' := 4) (n' := 19) (a := 3) rfl rfl at_191 rfl (by decide) rfl (Sh.rp_4) (Sh.le rfl) (by decide) (Sh.le rfl) (Sh.le rfl) rfl rfl rfl (Sh.ap_3) ?_
  refine Sh.aload at_193 rfl rfl ?_
  refine Sh.iload at_195 rfl ?_
  refine Sh.lconst at_197 (x := 0) rfl ?_
  refine Sh.lconst at_198 (x := 0) rfl ?_
  refine Sh.lconst at_199 (x := 0) rfl ?_
  refine Sh.callI hw (i1 := 10) (i2 := 11) (i3 := 9) (i4 := 12) (k' := 4) (n' := 19) (B' := b2) (R' := R2) rfl rfl rfl rfl rfl rfl (by decide) (m2 l Z a0 n0 hw _ _ _ _ _ _ _ _ _ _ 3 0 0 0) at_200 rfl rfl pd2 rfl (Sh.le rfl) (Sh.le rfl) (Sh.le rfl) (Sh.le rfl) rfl rfl ?_
  rintro _ _ ⟨rfl, rfl⟩
  refine Sh.astore at_203 rfl (Sh.s1_23 rfl rfl) ?_
  refine Sh.iconst at_205 (x := 0) rfl ?_
  refine Sh.istore at_206 (Sh.s1_24 rfl rfl) ?_
  exact fin3 l Z a0 n0 hw n a b c d q t0 t1 t2 t3 qu h01 h12 h23
theorem go3k (hw : HW Z a0) (n : Int32) (a b c d q t0 t1 t2 t3 qu : Int64) (h01 : t0 ≤ t1) (h12 : t1 ≤ t2) (h23 : t2 ≤ t3) (kk : Int32) (bs : Int64) :
    Sh.WP l Z a0 n0 b0 room_1 1 4 183 [.val (.int n), .val (.long a), .second, .val (.long b), .second, .val (.long c), .second, .val (.long d), .second, .val (.long q), .second, .val (.int 3), .val (.long t0), .second, .val (.long t1), .second, .val (.long t2), .second, .val (.long t3), .second, .val (.ref 0), .val (.long qu), .second, .val (.int kk), .val (.long bs), .second] [] [.inr (.long, [.long t0, .long t1, .long t2, .long (-9223372036854775808)])] (fun v _ => v = some (.int 1)) := by
  refine Sh.newobj hw (i1 := 7) (i2 := 8) (i3 := 9) (k' := 2) (n' := 11) (a := 1) rfl rfl rfl at_183 fs_FrameIndex nd_FrameIndex (Sh.le rfl) (Sh.le rfl) rfl rfl rfl (Sh.ap_1) ?_
  refine Sh.dup at_186 rfl ?_
  refine Sh.iconst at_187 (x := 4) rfl ?_
  refine Sh.newarr hw (i := 5) (ty := .long) (dv := .long 0) (N := 4) (cap := 4) (k' := 3) (n' := 15) (a := 2) rfl rfl at_188 rfl (by decide) rfl (Sh.rp_4) (Sh.le rfl) (by decide) (Sh.le rfl) (Sh.le rfl) rfl rfl rfl (Sh.ap_2) ?_
  refine Sh.iconst at_190 (x := 4) rfl ?_
  refine Sh.newarr hw (i := 5) (ty := .long) (dv := .long 0) (N := 4) (cap := 4) (k' := 4) (n' := 19) (a := 3) rfl rfl at_191 rfl (by decide) rfl (Sh.rp_4) (Sh.le rfl) (by decide) (Sh.le rfl) (Sh.le rfl) rfl rfl rfl (Sh.ap_3) ?_
  refine Sh.aload at_193 rfl rfl ?_
  refine Sh.iload at_195 rfl ?_
  refine Sh.lconst at_197 (x := 0) rfl ?_
  refine Sh.lconst at_198 (x := 0) rfl ?_
  refine Sh.lconst at_199 (x := 0) rfl ?_
  refine Sh.callI hw (i1 := 10) (i2 := 11) (i3 := 9) (i4 := 12) (k' := 4) (n' := 19) (B' := b2) (R' := R2) rfl rfl rfl rfl rfl rfl (by decide) (m2 l Z a0 n0 hw _ _ _ _ _ _ _ _ _ _ 3 0 0 0) at_200 rfl rfl pd2 rfl (Sh.le rfl) (Sh.le rfl) (Sh.le rfl) (Sh.le rfl) rfl rfl ?_
  rintro _ _ ⟨rfl, rfl⟩
  refine Sh.astore at_203 rfl (Sh.s1_23 rfl rfl) ?_
  refine Sh.iconst at_205 (x := 0) rfl ?_
  refine Sh.istore at_206 (Sh.sw_24 rfl rfl) ?_
  exact fin3 l Z a0 n0 hw n a b c d q t0 t1 t2 t3 qu h01 h12 h23
theorem m5_4_0 (hw : HW Z a0) (t0 t1 t2 t3 qu : Int64) (d0 : ¬ t0 < qu) (d1 : ¬ t1 < qu) (d2 : ¬ t2 < qu) (d3 : ¬ t3 < qu) : Sh.Meth l Z a0 n0 b5 R5 [.ref 1, .long qu] (own_H t0 t1 t2 t3 4) (fun v H' => v = some (.int 0) ∧ H' = (own_H t0 t1 t2 t3 4)) := by
  refine Sh.Meth.of pn5 (L := [.val (.ref 1), .val (.long qu), .second, .unset, .unset, .unset]) rfl ?_
  refine Sh.iconst d5_0 (x := 0) rfl ?_
  refine Sh.istore_n d5_1 (Sh.s1_3 rfl rfl) ?_
  refine Sh.aload_n d5_2 rfl rfl ?_
  refine Sh.getfield hw (i := 27) (j := 3) rfl d5_3 rfl rfl ?_
  refine Sh.istore d5_6 (Sh.s1_4 rfl rfl) ?_
  refine Sh.iload_n d5_8 rfl ?_
  refine Sh.iload d5_9 rfl ?_
  refine Sh.icmpF d5_11 (by decide) ?_
  refine Sh.iload_n d5_14 rfl ?_
  refine Sh.iload d5_15 rfl ?_
  refine Sh.iaddE (z := 4) d5_17 (by decide) ?_
  refine Sh.iconst d5_18 (x := 1) rfl ?_
  refine Sh.iushrE (z := 2) d5_19 (by decide) ?_
  refine Sh.istore d5_20 (Sh.s1_5 rfl rfl) ?_
  refine Sh.aload_n d5_22 rfl rfl ?_
  refine Sh.getfield hw (i := 25) (j := 2) rfl d5_23 rfl rfl ?_
  refine Sh.iload d5_26 rfl ?_
  refine Sh.laload (jn := 2) d5_28 rfl (by decide) rfl rfl ?_
  refine Sh.lload_n d5_29 rfl ?_
  refine Sh.lcmpT d5_30 d5_31 (pc' := 42) rfl (by decide) d2 ?_
  refine Sh.iload d5_42 rfl ?_
  refine Sh.istore d5_44 (Sh.s1_4 rfl rfl) ?_
  refine Sh.goto d5_46 (pc' := 8) rfl (by decide) ?_
  refine Sh.iload_n d5_8 rfl ?_
  refine Sh.iload d5_9 rfl ?_
  refine Sh.icmpF d5_11 (by decide) ?_
  refine Sh.iload_n d5_14 rfl ?_
  refine Sh.iload d5_15 rfl ?_
  refine Sh.iaddE (z := 2) d5_17 (by decide) ?_
  refine Sh.iconst d5_18 (x := 1) rfl ?_
  refine Sh.iushrE (z := 1) d5_19 (by decide) ?_
  refine Sh.istore d5_20 (Sh.s1_5 rfl rfl) ?_
  refine Sh.aload_n d5_22 rfl rfl ?_
  refine Sh.getfield hw (i := 25) (j := 2) rfl d5_23 rfl rfl ?_
  refine Sh.iload d5_26 rfl ?_
  refine Sh.laload (jn := 1) d5_28 rfl (by decide) rfl rfl ?_
  refine Sh.lload_n d5_29 rfl ?_
  refine Sh.lcmpT d5_30 d5_31 (pc' := 42) rfl (by decide) d1 ?_
  refine Sh.iload d5_42 rfl ?_
  refine Sh.istore d5_44 (Sh.s1_4 rfl rfl) ?_
  refine Sh.goto d5_46 (pc' := 8) rfl (by decide) ?_
  refine Sh.iload_n d5_8 rfl ?_
  refine Sh.iload d5_9 rfl ?_
  refine Sh.icmpF d5_11 (by decide) ?_
  refine Sh.iload_n d5_14 rfl ?_
  refine Sh.iload d5_15 rfl ?_
  refine Sh.iaddE (z := 1) d5_17 (by decide) ?_
  refine Sh.iconst d5_18 (x := 1) rfl ?_
  refine Sh.iushrE (z := 0) d5_19 (by decide) ?_
  refine Sh.istore d5_20 (Sh.s1_5 rfl rfl) ?_
  refine Sh.aload_n d5_22 rfl rfl ?_
  refine Sh.getfield hw (i := 25) (j := 2) rfl d5_23 rfl rfl ?_
  refine Sh.iload d5_26 rfl ?_
  refine Sh.laload (jn := 0) d5_28 rfl (by decide) rfl rfl ?_
  refine Sh.lload_n d5_29 rfl ?_
  refine Sh.lcmpT d5_30 d5_31 (pc' := 42) rfl (by decide) d0 ?_
  refine Sh.iload d5_42 rfl ?_
  refine Sh.istore d5_44 (Sh.s1_4 rfl rfl) ?_
  refine Sh.goto d5_46 (pc' := 8) rfl (by decide) ?_
  refine Sh.iload_n d5_8 rfl ?_
  refine Sh.iload d5_9 rfl ?_
  refine Sh.icmpT d5_11 (pc' := 49) rfl (by decide) (by decide) ?_
  refine Sh.iload_n d5_49 rfl ?_
  refine Sh.retI d5_50 rfl (Sh.le rfl) (Sh.le rfl) ?_
  exact ⟨rfl, rfl⟩
theorem m5_4_1 (hw : HW Z a0) (t0 t1 t2 t3 qu : Int64) (d0 : t0 < qu) (d1 : ¬ t1 < qu) (d2 : ¬ t2 < qu) (d3 : ¬ t3 < qu) : Sh.Meth l Z a0 n0 b5 R5 [.ref 1, .long qu] (own_H t0 t1 t2 t3 4) (fun v H' => v = some (.int 1) ∧ H' = (own_H t0 t1 t2 t3 4)) := by
  refine Sh.Meth.of pn5 (L := [.val (.ref 1), .val (.long qu), .second, .unset, .unset, .unset]) rfl ?_
  refine Sh.iconst d5_0 (x := 0) rfl ?_
  refine Sh.istore_n d5_1 (Sh.s1_3 rfl rfl) ?_
  refine Sh.aload_n d5_2 rfl rfl ?_
  refine Sh.getfield hw (i := 27) (j := 3) rfl d5_3 rfl rfl ?_
  refine Sh.istore d5_6 (Sh.s1_4 rfl rfl) ?_
  refine Sh.iload_n d5_8 rfl ?_
  refine Sh.iload d5_9 rfl ?_
  refine Sh.icmpF d5_11 (by decide) ?_
  refine Sh.iload_n d5_14 rfl ?_
  refine Sh.iload d5_15 rfl ?_
  refine Sh.iaddE (z := 4) d5_17 (by decide) ?_
  refine Sh.iconst d5_18 (x := 1) rfl ?_
  refine Sh.iushrE (z := 2) d5_19 (by decide) ?_
  refine Sh.istore d5_20 (Sh.s1_5 rfl rfl) ?_
  refine Sh.aload_n d5_22 rfl rfl ?_
  refine Sh.getfield hw (i := 25) (j := 2) rfl d5_23 rfl rfl ?_
  refine Sh.iload d5_26 rfl ?_
  refine Sh.laload (jn := 2) d5_28 rfl (by decide) rfl rfl ?_
  refine Sh.lload_n d5_29 rfl ?_
  refine Sh.lcmpT d5_30 d5_31 (pc' := 42) rfl (by decide) d2 ?_
  refine Sh.iload d5_42 rfl ?_
  refine Sh.istore d5_44 (Sh.s1_4 rfl rfl) ?_
  refine Sh.goto d5_46 (pc' := 8) rfl (by decide) ?_
  refine Sh.iload_n d5_8 rfl ?_
  refine Sh.iload d5_9 rfl ?_
  refine Sh.icmpF d5_11 (by decide) ?_
  refine Sh.iload_n d5_14 rfl ?_
  refine Sh.iload d5_15 rfl ?_
  refine Sh.iaddE (z := 2) d5_17 (by decide) ?_
  refine Sh.iconst d5_18 (x := 1) rfl ?_
  refine Sh.iushrE (z := 1) d5_19 (by decide) ?_
  refine Sh.istore d5_20 (Sh.s1_5 rfl rfl) ?_
  refine Sh.aload_n d5_22 rfl rfl ?_
  refine Sh.getfield hw (i := 25) (j := 2) rfl d5_23 rfl rfl ?_
  refine Sh.iload d5_26 rfl ?_
  refine Sh.laload (jn := 1) d5_28 rfl (by decide) rfl rfl ?_
  refine Sh.lload_n d5_29 rfl ?_
  refine Sh.lcmpT d5_30 d5_31 (pc' := 42) rfl (by decide) d1 ?_
  refine Sh.iload d5_42 rfl ?_
  refine Sh.istore d5_44 (Sh.s1_4 rfl rfl) ?_
  refine Sh.goto d5_46 (pc' := 8) rfl (by decide) ?_
  refine Sh.iload_n d5_8 rfl ?_
  refine Sh.iload d5_9 rfl ?_
  refine Sh.icmpF d5_11 (by decide) ?_
  refine Sh.iload_n d5_14 rfl ?_
  refine Sh.iload d5_15 rfl ?_
  refine Sh.iaddE (z := 1) d5_17 (by decide) ?_
  refine Sh.iconst d5_18 (x := 1) rfl ?_
  refine Sh.iushrE (z := 0) d5_19 (by decide) ?_
  refine Sh.istore d5_20 (Sh.s1_5 rfl rfl) ?_
  refine Sh.aload_n d5_22 rfl rfl ?_
  refine Sh.getfield hw (i := 25) (j := 2) rfl d5_23 rfl rfl ?_
  refine Sh.iload d5_26 rfl ?_
  refine Sh.laload (jn := 0) d5_28 rfl (by decide) rfl rfl ?_
  refine Sh.lload_n d5_29 rfl ?_
  refine Sh.lcmpF d5_30 d5_31 (fun z => z d0) ?_
  refine Sh.iload d5_34 rfl ?_
  refine Sh.iconst d5_36 (x := 1) rfl ?_
  refine Sh.iaddE (z := 1) d5_37 (by decide) ?_
  refine Sh.istore_n d5_38 (Sh.s1_3 rfl rfl) ?_
  refine Sh.goto d5_39 (pc' := 46) rfl (by decide) ?_
  refine Sh.goto d5_46 (pc' := 8) rfl (by decide) ?_
  refine Sh.iload_n d5_8 rfl ?_
  refine Sh.iload d5_9 rfl ?_
  refine Sh.icmpT d5_11 (pc' := 49) rfl (by decide) (by decide) ?_
  refine Sh.iload_n d5_49 rfl ?_
  refine Sh.retI d5_50 rfl (Sh.le rfl) (Sh.le rfl) ?_
  exact ⟨rfl, rfl⟩
theorem m5_4_2 (hw : HW Z a0) (t0 t1 t2 t3 qu : Int64) (d0 : t0 < qu) (d1 : t1 < qu) (d2 : ¬ t2 < qu) (d3 : ¬ t3 < qu) : Sh.Meth l Z a0 n0 b5 R5 [.ref 1, .long qu] (own_H t0 t1 t2 t3 4) (fun v H' => v = some (.int 2) ∧ H' = (own_H t0 t1 t2 t3 4)) := by
  refine Sh.Meth.of pn5 (L := [.val (.ref 1), .val (.long qu), .second, .unset, .unset, .unset]) rfl ?_
  refine Sh.iconst d5_0 (x := 0) rfl ?_
  refine Sh.istore_n d5_1 (Sh.s1_3 rfl rfl) ?_
  refine Sh.aload_n d5_2 rfl rfl ?_
  refine Sh.getfield hw (i := 27) (j := 3) rfl d5_3 rfl rfl ?_
  refine Sh.istore d5_6 (Sh.s1_4 rfl rfl) ?_
  refine Sh.iload_n d5_8 rfl ?_
  refine Sh.iload d5_9 rfl ?_
  refine Sh.icmpF d5_11 (by decide) ?_
  refine Sh.iload_n d5_14 rfl ?_
  refine Sh.iload d5_15 rfl ?_
  refine Sh.iaddE (z := 4) d5_17 (by decide) ?_
  refine Sh.iconst d5_18 (x := 1) rfl ?_
  refine Sh.iushrE (z := 2) d5_19 (by decide) ?_
  refine Sh.istore d5_20 (Sh.s1_5 rfl rfl) ?_
  refine Sh.aload_n d5_22 rfl rfl ?_
  refine Sh.getfield hw (i := 25) (j := 2) rfl d5_23 rfl rfl ?_
  refine Sh.iload d5_26 rfl ?_
  refine Sh.laload (jn := 2) d5_28 rfl (by decide) rfl rfl ?_
  refine Sh.lload_n d5_29 rfl ?_
  refine Sh.lcmpT d5_30 d5_31 (pc' := 42) rfl (by decide) d2 ?_
  refine Sh.iload d5_42 rfl ?_
  refine Sh.istore d5_44 (Sh.s1_4 rfl rfl) ?_
  refine Sh.goto d5_46 (pc' := 8) rfl (by decide) ?_
  refine Sh.iload_n d5_8 rfl ?_
  refine Sh.iload d5_9 rfl ?_
  refine Sh.icmpF d5_11 (by decide) ?_
  refine Sh.iload_n d5_14 rfl ?_
  refine Sh.iload d5_15 rfl ?_
  refine Sh.iaddE (z := 2) d5_17 (by decide) ?_
  refine Sh.iconst d5_18 (x := 1) rfl ?_
  refine Sh.iushrE (z := 1) d5_19 (by decide) ?_
  refine Sh.istore d5_20 (Sh.s1_5 rfl rfl) ?_
  refine Sh.aload_n d5_22 rfl rfl ?_
  refine Sh.getfield hw (i := 25) (j := 2) rfl d5_23 rfl rfl ?_
  refine Sh.iload d5_26 rfl ?_
  refine Sh.laload (jn := 1) d5_28 rfl (by decide) rfl rfl ?_
  refine Sh.lload_n d5_29 rfl ?_
  refine Sh.lcmpF d5_30 d5_31 (fun z => z d1) ?_
  refine Sh.iload d5_34 rfl ?_
  refine Sh.iconst d5_36 (x := 1) rfl ?_
  refine Sh.iaddE (z := 2) d5_37 (by decide) ?_
  refine Sh.istore_n d5_38 (Sh.s1_3 rfl rfl) ?_
  refine Sh.goto d5_39 (pc' := 46) rfl (by decide) ?_
  refine Sh.goto d5_46 (pc' := 8) rfl (by decide) ?_
  refine Sh.iload_n d5_8 rfl ?_
  refine Sh.iload d5_9 rfl ?_
  refine Sh.icmpT d5_11 (pc' := 49) rfl (by decide) (by decide) ?_
  refine Sh.iload_n d5_49 rfl ?_
  refine Sh.retI d5_50 rfl (Sh.le rfl) (Sh.le rfl) ?_
  exact ⟨rfl, rfl⟩
theorem m5_4_3 (hw : HW Z a0) (t0 t1 t2 t3 qu : Int64) (d0 : t0 < qu) (d1 : t1 < qu) (d2 : t2 < qu) (d3 : ¬ t3 < qu) : Sh.Meth l Z a0 n0 b5 R5 [.ref 1, .long qu] (own_H t0 t1 t2 t3 4) (fun v H' => v = some (.int 3) ∧ H' = (own_H t0 t1 t2 t3 4)) := by
  refine Sh.Meth.of pn5 (L := [.val (.ref 1), .val (.long qu), .second, .unset, .unset, .unset]) rfl ?_
  refine Sh.iconst d5_0 (x := 0) rfl ?_
  refine Sh.istore_n d5_1 (Sh.s1_3 rfl rfl) ?_
  refine Sh.aload_n d5_2 rfl rfl ?_
  refine Sh.getfield hw (i := 27) (j := 3) rfl d5_3 rfl rfl ?_
  refine Sh.istore d5_6 (Sh.s1_4 rfl rfl) ?_
  refine Sh.iload_n d5_8 rfl ?_
  refine Sh.iload d5_9 rfl ?_
  refine Sh.icmpF d5_11 (by decide) ?_
  refine Sh.iload_n d5_14 rfl ?_
  refine Sh.iload d5_15 rfl ?_
  refine Sh.iaddE (z := 4) d5_17 (by decide) ?_
  refine Sh.iconst d5_18 (x := 1) rfl ?_
  refine Sh.iushrE (z := 2) d5_19 (by decide) ?_
  refine Sh.istore d5_20 (Sh.s1_5 rfl rfl) ?_
  refine Sh.aload_n d5_22 rfl rfl ?_
  refine Sh.getfield hw (i := 25) (j := 2) rfl d5_23 rfl rfl ?_
  refine Sh.iload d5_26 rfl ?_
  refine Sh.laload (jn := 2) d5_28 rfl (by decide) rfl rfl ?_
  refine Sh.lload_n d5_29 rfl ?_
  refine Sh.lcmpF d5_30 d5_31 (fun z => z d2) ?_
  refine Sh.iload d5_34 rfl ?_
  refine Sh.iconst d5_36 (x := 1) rfl ?_
  refine Sh.iaddE (z := 3) d5_37 (by decide) ?_
  refine Sh.istore_n d5_38 (Sh.s1_3 rfl rfl) ?_
  refine Sh.goto d5_39 (pc' := 46) rfl (by decide) ?_
  refine Sh.goto d5_46 (pc' := 8) rfl (by decide) ?_
  refine Sh.iload_n d5_8 rfl ?_
  refine Sh.iload d5_9 rfl ?_
  refine Sh.icmpF d5_11 (by decide) ?_
  refine Sh.iload_n d5_14 rfl ?_
  refine Sh.iload d5_15 rfl ?_
  refine Sh.iaddE (z := 7) d5_17 (by decide) ?_
  refine Sh.iconst d5_18 (x := 1) rfl ?_
  refine Sh.iushrE (z := 3) d5_19 (by decide) ?_
  refine Sh.istore d5_20 (Sh.s1_5 rfl rfl) ?_
  refine Sh.aload_n d5_22 rfl rfl ?_
  refine Sh.getfield hw (i := 25) (j := 2) rfl d5_23 rfl rfl ?_
  refine Sh.iload d5_26 rfl ?_
  refine Sh.laload (jn := 3) d5_28 rfl (by decide) rfl rfl ?_
  refine Sh.lload_n d5_29 rfl ?_
  refine Sh.lcmpT d5_30 d5_31 (pc' := 42) rfl (by decide) d3 ?_
  refine Sh.iload d5_42 rfl ?_
  refine Sh.istore d5_44 (Sh.s1_4 rfl rfl) ?_
  refine Sh.goto d5_46 (pc' := 8) rfl (by decide) ?_
  refine Sh.iload_n d5_8 rfl ?_
  refine Sh.iload d5_9 rfl ?_
  refine Sh.icmpT d5_11 (pc' := 49) rfl (by decide) (by decide) ?_
  refine Sh.iload_n d5_49 rfl ?_
  refine Sh.retI d5_50 rfl (Sh.le rfl) (Sh.le rfl) ?_
  exact ⟨rfl, rfl⟩
theorem m5_4_4 (hw : HW Z a0) (t0 t1 t2 t3 qu : Int64) (d0 : t0 < qu) (d1 : t1 < qu) (d2 : t2 < qu) (d3 : t3 < qu) : Sh.Meth l Z a0 n0 b5 R5 [.ref 1, .long qu] (own_H t0 t1 t2 t3 4) (fun v H' => v = some (.int 4) ∧ H' = (own_H t0 t1 t2 t3 4)) := by
  refine Sh.Meth.of pn5 (L := [.val (.ref 1), .val (.long qu), .second, .unset, .unset, .unset]) rfl ?_
  refine Sh.iconst d5_0 (x := 0) rfl ?_
  refine Sh.istore_n d5_1 (Sh.s1_3 rfl rfl) ?_
  refine Sh.aload_n d5_2 rfl rfl ?_
  refine Sh.getfield hw (i := 27) (j := 3) rfl d5_3 rfl rfl ?_
  refine Sh.istore d5_6 (Sh.s1_4 rfl rfl) ?_
  refine Sh.iload_n d5_8 rfl ?_
  refine Sh.iload d5_9 rfl ?_
  refine Sh.icmpF d5_11 (by decide) ?_
  refine Sh.iload_n d5_14 rfl ?_
  refine Sh.iload d5_15 rfl ?_
  refine Sh.iaddE (z := 4) d5_17 (by decide) ?_
  refine Sh.iconst d5_18 (x := 1) rfl ?_
  refine Sh.iushrE (z := 2) d5_19 (by decide) ?_
  refine Sh.istore d5_20 (Sh.s1_5 rfl rfl) ?_
  refine Sh.aload_n d5_22 rfl rfl ?_
  refine Sh.getfield hw (i := 25) (j := 2) rfl d5_23 rfl rfl ?_
  refine Sh.iload d5_26 rfl ?_
  refine Sh.laload (jn := 2) d5_28 rfl (by decide) rfl rfl ?_
  refine Sh.lload_n d5_29 rfl ?_
  refine Sh.lcmpF d5_30 d5_31 (fun z => z d2) ?_
  refine Sh.iload d5_34 rfl ?_
  refine Sh.iconst d5_36 (x := 1) rfl ?_
  refine Sh.iaddE (z := 3) d5_37 (by decide) ?_
  refine Sh.istore_n d5_38 (Sh.s1_3 rfl rfl) ?_
  refine Sh.goto d5_39 (pc' := 46) rfl (by decide) ?_
  refine Sh.goto d5_46 (pc' := 8) rfl (by decide) ?_
  refine Sh.iload_n d5_8 rfl ?_
  refine Sh.iload d5_9 rfl ?_
  refine Sh.icmpF d5_11 (by decide) ?_
  refine Sh.iload_n d5_14 rfl ?_
  refine Sh.iload d5_15 rfl ?_
  refine Sh.iaddE (z := 7) d5_17 (by decide) ?_
  refine Sh.iconst d5_18 (x := 1) rfl ?_
  refine Sh.iushrE (z := 3) d5_19 (by decide) ?_
  refine Sh.istore d5_20 (Sh.s1_5 rfl rfl) ?_
  refine Sh.aload_n d5_22 rfl rfl ?_
  refine Sh.getfield hw (i := 25) (j := 2) rfl d5_23 rfl rfl ?_
  refine Sh.iload d5_26 rfl ?_
  refine Sh.laload (jn := 3) d5_28 rfl (by decide) rfl rfl ?_
  refine Sh.lload_n d5_29 rfl ?_
  refine Sh.lcmpF d5_30 d5_31 (fun z => z d3) ?_
  refine Sh.iload d5_34 rfl ?_
  refine Sh.iconst d5_36 (x := 1) rfl ?_
  refine Sh.iaddE (z := 4) d5_37 (by decide) ?_
  refine Sh.istore_n d5_38 (Sh.s1_3 rfl rfl) ?_
  refine Sh.goto d5_39 (pc' := 46) rfl (by decide) ?_
  refine Sh.goto d5_46 (pc' := 8) rfl (by decide) ?_
  refine Sh.iload_n d5_8 rfl ?_
  refine Sh.iload d5_9 rfl ?_
  refine Sh.icmpT d5_11 (pc' := 49) rfl (by decide) (by decide) ?_
  refine Sh.iload_n d5_49 rfl ?_
  refine Sh.retI d5_50 rfl (Sh.le rfl) (Sh.le rfl) ?_
  exact ⟨rfl, rfl⟩
theorem fin4 (hw : HW Z a0) (n : Int32) (a b c d q t0 t1 t2 t3 qu : Int64) (h01 : t0 ≤ t1) (h12 : t1 ≤ t2) (h23 : t2 ≤ t3) :
    Sh.WP l Z a0 n0 b0 room_1 4 19 208 [.val (.int n), .val (.long a), .second, .val (.long b), .second, .val (.long c), .second, .val (.long d), .second, .val (.long q), .second, .val (.int 4), .val (.long t0), .second, .val (.long t1), .second, .val (.long t2), .second, .val (.long t3), .second, .val (.ref 0), .val (.long qu), .second, .val (.ref 1), .val (.int 0), .unset] [] (own_H t0 t1 t2 t3 4) (fun v _ => v = some (.int 1)) := by
  by_cases d0 : t0 < qu
  · skip
    by_cases d1 : t1 < qu
    · skip
      by_cases d2 : t2 < qu
      · skip
        by_cases d3 : t3 < qu
        · skip
          refine Sh.iload at_208 rfl ?_
          refine Sh.ifF at_210 (by decide) ?_
          refine Sh.lload at_213 rfl ?_
          refine Sh.lload at_215 rfl ?_
          refine Sh.lcmpF at_217 at_218 (fun z => z d0) ?_
          refine Sh.iload at_221 rfl ?_
          refine Sh.iconst at_223 (x := 1) rfl ?_
          refine Sh.iaddE (z := 1) at_224 (by decide) ?_
          refine Sh.istore at_225 (Sh.s1_24 rfl rfl) ?_
          refine Sh.iload at_227 rfl ?_
          refine Sh.iconst at_229 (x := 1) rfl ?_
          refine Sh.icmpF at_230 (by decide) ?_
          refine Sh.lload at_233 rfl ?_
          refine Sh.lload at_235 rfl ?_
          refine Sh.lcmpF at_237 at_238 (fun z => z d1) ?_
          refine Sh.iload at_241 rfl ?_
          refine Sh.iconst at_243 (x := 1) rfl ?_
          refine Sh.iaddE (z := 2) at_244 (by decide) ?_
          refine Sh.istore at_245 (Sh.s1_24 rfl rfl) ?_
          refine Sh.iload at_247 rfl ?_
          refine Sh.iconst at_249 (x := 2) rfl ?_
          refine Sh.icmpF at_250 (by decide) ?_
          refine Sh.lload at_253 rfl ?_
          refine Sh.lload at_255 rfl ?_
          refine Sh.lcmpF at_257 at_258 (fun z => z d2) ?_
          refine Sh.iload at_261 rfl ?_
          refine Sh.iconst at_263 (x := 1) rfl ?_
          refine Sh.iaddE (z := 3) at_264 (by decide) ?_
          refine Sh.istore at_265 (Sh.s1_24 rfl rfl) ?_
          refine Sh.iload at_267 rfl ?_
          refine Sh.iconst at_269 (x := 3) rfl ?_
          refine Sh.icmpF at_270 (by decide) ?_
          refine Sh.lload at_273 rfl ?_
          refine Sh.lload at_275 rfl ?_
          refine Sh.lcmpF at_277 at_278 (fun z => z d3) ?_
          refine Sh.iload at_281 rfl ?_
          refine Sh.iconst at_283 (x := 1) rfl ?_
          refine Sh.iaddE (z := 4) at_284 (by decide) ?_
          refine Sh.istore at_285 (Sh.s1_24 rfl rfl) ?_
          refine Sh.aload at_287 rfl rfl ?_
          refine Sh.lload at_289 rfl ?_
          refine Sh.callV hw (i1 := 35) (i2 := 37) (i3 := 9) (i4 := 39) (i5 := 36) (i6 := 38) (k' := 4) (n' := 19) (B' := b5) (R' := R5) rfl rfl rfl rfl rfl rfl (by decide) rfl (m5_4_4 l Z a0 n0 hw t0 t1 t2 t3 qu d0 d1 d2 d3) at_291 rfl rfl pd5 rfl (Sh.le rfl) (Sh.le rfl) (Sh.le rfl) (Sh.le rfl) rfl rfl ?_
          rintro _ _ ⟨rfl, rfl⟩
          refine Sh.iload at_294 rfl ?_
          refine Sh.icmpF at_296 (by decide) ?_
          refine Sh.iconst at_299 (x := 1) rfl ?_
          refine Sh.goto at_300 (pc' := 304) rfl (by decide) ?_
          refine Sh.retN at_304 rfl (by simp) rfl (Sh.le rfl) (Sh.le rfl) ?_
          rfl
        · skip
          refine Sh.iload at_208 rfl ?_
          refine Sh.ifF at_210 (by decide) ?_
          refine Sh.lload at_213 rfl ?_
          refine Sh.lload at_215 rfl ?_
          refine Sh.lcmpF at_217 at_218 (fun z => z d0) ?_
          refine Sh.iload at_221 rfl ?_
          refine Sh.iconst at_223 (x := 1) rfl ?_
          refine Sh.iaddE (z := 1) at_224 (by decide) ?_
          refine Sh.istore at_225 (Sh.s1_24 rfl rfl) ?_
          refine Sh.iload at_227 rfl ?_
          refine Sh.iconst at_229 (x := 1) rfl ?_
          refine Sh.icmpF at_230 (by decide) ?_
          refine Sh.lload at_233 rfl ?_
          refine Sh.lload at_235 rfl ?_
          refine Sh.lcmpF at_237 at_238 (fun z => z d1) ?_
          refine Sh.iload at_241 rfl ?_
          refine Sh.iconst at_243 (x := 1) rfl ?_
          refine Sh.iaddE (z := 2) at_244 (by decide) ?_
          refine Sh.istore at_245 (Sh.s1_24 rfl rfl) ?_
          refine Sh.iload at_247 rfl ?_
          refine Sh.iconst at_249 (x := 2) rfl ?_
          refine Sh.icmpF at_250 (by decide) ?_
          refine Sh.lload at_253 rfl ?_
          refine Sh.lload at_255 rfl ?_
          refine Sh.lcmpF at_257 at_258 (fun z => z d2) ?_
          refine Sh.iload at_261 rfl ?_
          refine Sh.iconst at_263 (x := 1) rfl ?_
          refine Sh.iaddE (z := 3) at_264 (by decide) ?_
          refine Sh.istore at_265 (Sh.s1_24 rfl rfl) ?_
          refine Sh.iload at_267 rfl ?_
          refine Sh.iconst at_269 (x := 3) rfl ?_
          refine Sh.icmpF at_270 (by decide) ?_
          refine Sh.lload at_273 rfl ?_
          refine Sh.lload at_275 rfl ?_
          refine Sh.lcmpT at_277 at_278 (pc' := 287) rfl (by decide) d3 ?_
          refine Sh.aload at_287 rfl rfl ?_
          refine Sh.lload at_289 rfl ?_
          refine Sh.callV hw (i1 := 35) (i2 := 37) (i3 := 9) (i4 := 39) (i5 := 36) (i6 := 38) (k' := 4) (n' := 19) (B' := b5) (R' := R5) rfl rfl rfl rfl rfl rfl (by decide) rfl (m5_4_3 l Z a0 n0 hw t0 t1 t2 t3 qu d0 d1 d2 d3) at_291 rfl rfl pd5 rfl (Sh.le rfl) (Sh.le rfl) (Sh.le rfl) (Sh.le rfl) rfl rfl ?_
          rintro _ _ ⟨rfl, rfl⟩
          refine Sh.iload at_294 rfl ?_
          refine Sh.icmpF at_296 (by decide) ?_
          refine Sh.iconst at_299 (x := 1) rfl ?_
          refine Sh.goto at_300 (pc' := 304) rfl (by decide) ?_
          refine Sh.retN at_304 rfl (by simp) rfl (Sh.le rfl) (Sh.le rfl) ?_
          rfl
      · skip
        have d3 := own_up d2 h23
        refine Sh.iload at_208 rfl ?_
        refine Sh.ifF at_210 (by decide) ?_
        refine Sh.lload at_213 rfl ?_
        refine Sh.lload at_215 rfl ?_
        refine Sh.lcmpF at_217 at_218 (fun z => z d0) ?_
        refine Sh.iload at_221 rfl ?_
        refine Sh.iconst at_223 (x := 1) rfl ?_
        refine Sh.iaddE (z := 1) at_224 (by decide) ?_
        refine Sh.istore at_225 (Sh.s1_24 rfl rfl) ?_
        refine Sh.iload at_227 rfl ?_
        refine Sh.iconst at_229 (x := 1) rfl ?_
        refine Sh.icmpF at_230 (by decide) ?_
        refine Sh.lload at_233 rfl ?_
        refine Sh.lload at_235 rfl ?_
        refine Sh.lcmpF at_237 at_238 (fun z => z d1) ?_
        refine Sh.iload at_241 rfl ?_
        refine Sh.iconst at_243 (x := 1) rfl ?_
        refine Sh.iaddE (z := 2) at_244 (by decide) ?_
        refine Sh.istore at_245 (Sh.s1_24 rfl rfl) ?_
        refine Sh.iload at_247 rfl ?_
        refine Sh.iconst at_249 (x := 2) rfl ?_
        refine Sh.icmpF at_250 (by decide) ?_
        refine Sh.lload at_253 rfl ?_
        refine Sh.lload at_255 rfl ?_
        refine Sh.lcmpT at_257 at_258 (pc' := 267) rfl (by decide) d2 ?_
        refine Sh.iload at_267 rfl ?_
        refine Sh.iconst at_269 (x := 3) rfl ?_
        refine Sh.icmpF at_270 (by decide) ?_
        refine Sh.lload at_273 rfl ?_
        refine Sh.lload at_275 rfl ?_
        refine Sh.lcmpT at_277 at_278 (pc' := 287) rfl (by decide) d3 ?_
        refine Sh.aload at_287 rfl rfl ?_
        refine Sh.lload at_289 rfl ?_
        refine Sh.callV hw (i1 := 35) (i2 := 37) (i3 := 9) (i4 := 39) (i5 := 36) (i6 := 38) (k' := 4) (n' := 19) (B' := b5) (R' := R5) rfl rfl rfl rfl rfl rfl (by decide) rfl (m5_4_2 l Z a0 n0 hw t0 t1 t2 t3 qu d0 d1 d2 d3) at_291 rfl rfl pd5 rfl (Sh.le rfl) (Sh.le rfl) (Sh.le rfl) (Sh.le rfl) rfl rfl ?_
        rintro _ _ ⟨rfl, rfl⟩
        refine Sh.iload at_294 rfl ?_
        refine Sh.icmpF at_296 (by decide) ?_
        refine Sh.iconst at_299 (x := 1) rfl ?_
        refine Sh.goto at_300 (pc' := 304) rfl (by decide) ?_
        refine Sh.retN at_304 rfl (by simp) rfl (Sh.le rfl) (Sh.le rfl) ?_
        rfl
    · skip
      have d2 := own_up d1 h12
      have d3 := own_up d2 h23
      refine Sh.iload at_208 rfl ?_
      refine Sh.ifF at_210 (by decide) ?_
      refine Sh.lload at_213 rfl ?_
      refine Sh.lload at_215 rfl ?_
      refine Sh.lcmpF at_217 at_218 (fun z => z d0) ?_
      refine Sh.iload at_221 rfl ?_
      refine Sh.iconst at_223 (x := 1) rfl ?_
      refine Sh.iaddE (z := 1) at_224 (by decide) ?_
      refine Sh.istore at_225 (Sh.s1_24 rfl rfl) ?_
      refine Sh.iload at_227 rfl ?_
      refine Sh.iconst at_229 (x := 1) rfl ?_
      refine Sh.icmpF at_230 (by decide) ?_
      refine Sh.lload at_233 rfl ?_
      refine Sh.lload at_235 rfl ?_
      refine Sh.lcmpT at_237 at_238 (pc' := 247) rfl (by decide) d1 ?_
      refine Sh.iload at_247 rfl ?_
      refine Sh.iconst at_249 (x := 2) rfl ?_
      refine Sh.icmpF at_250 (by decide) ?_
      refine Sh.lload at_253 rfl ?_
      refine Sh.lload at_255 rfl ?_
      refine Sh.lcmpT at_257 at_258 (pc' := 267) rfl (by decide) d2 ?_
      refine Sh.iload at_267 rfl ?_
      refine Sh.iconst at_269 (x := 3) rfl ?_
      refine Sh.icmpF at_270 (by decide) ?_
      refine Sh.lload at_273 rfl ?_
      refine Sh.lload at_275 rfl ?_
      refine Sh.lcmpT at_277 at_278 (pc' := 287) rfl (by decide) d3 ?_
      refine Sh.aload at_287 rfl rfl ?_
      refine Sh.lload at_289 rfl ?_
      refine Sh.callV hw (i1 := 35) (i2 := 37) (i3 := 9) (i4 := 39) (i5 := 36) (i6 := 38) (k' := 4) (n' := 19) (B' := b5) (R' := R5) rfl rfl rfl rfl rfl rfl (by decide) rfl (m5_4_1 l Z a0 n0 hw t0 t1 t2 t3 qu d0 d1 d2 d3) at_291 rfl rfl pd5 rfl (Sh.le rfl) (Sh.le rfl) (Sh.le rfl) (Sh.le rfl) rfl rfl ?_
      rintro _ _ ⟨rfl, rfl⟩
      refine Sh.iload at_294 rfl ?_
      refine Sh.icmpF at_296 (by decide) ?_
      refine Sh.iconst at_299 (x := 1) rfl ?_
      refine Sh.goto at_300 (pc' := 304) rfl (by decide) ?_
      refine Sh.retN at_304 rfl (by simp) rfl (Sh.le rfl) (Sh.le rfl) ?_
      rfl
  · skip
    have d1 := own_up d0 h01
    have d2 := own_up d1 h12
    have d3 := own_up d2 h23
    refine Sh.iload at_208 rfl ?_
    refine Sh.ifF at_210 (by decide) ?_
    refine Sh.lload at_213 rfl ?_
    refine Sh.lload at_215 rfl ?_
    refine Sh.lcmpT at_217 at_218 (pc' := 227) rfl (by decide) d0 ?_
    refine Sh.iload at_227 rfl ?_
    refine Sh.iconst at_229 (x := 1) rfl ?_
    refine Sh.icmpF at_230 (by decide) ?_
    refine Sh.lload at_233 rfl ?_
    refine Sh.lload at_235 rfl ?_
    refine Sh.lcmpT at_237 at_238 (pc' := 247) rfl (by decide) d1 ?_
    refine Sh.iload at_247 rfl ?_
    refine Sh.iconst at_249 (x := 2) rfl ?_
    refine Sh.icmpF at_250 (by decide) ?_
    refine Sh.lload at_253 rfl ?_
    refine Sh.lload at_255 rfl ?_
    refine Sh.lcmpT at_257 at_258 (pc' := 267) rfl (by decide) d2 ?_
    refine Sh.iload at_267 rfl ?_
    refine Sh.iconst at_269 (x := 3) rfl ?_
    refine Sh.icmpF at_270 (by decide) ?_
    refine Sh.lload at_273 rfl ?_
    refine Sh.lload at_275 rfl ?_
    refine Sh.lcmpT at_277 at_278 (pc' := 287) rfl (by decide) d3 ?_
    refine Sh.aload at_287 rfl rfl ?_
    refine Sh.lload at_289 rfl ?_
    refine Sh.callV hw (i1 := 35) (i2 := 37) (i3 := 9) (i4 := 39) (i5 := 36) (i6 := 38) (k' := 4) (n' := 19) (B' := b5) (R' := R5) rfl rfl rfl rfl rfl rfl (by decide) rfl (m5_4_0 l Z a0 n0 hw t0 t1 t2 t3 qu d0 d1 d2 d3) at_291 rfl rfl pd5 rfl (Sh.le rfl) (Sh.le rfl) (Sh.le rfl) (Sh.le rfl) rfl rfl ?_
    rintro _ _ ⟨rfl, rfl⟩
    refine Sh.iload at_294 rfl ?_
    refine Sh.icmpF at_296 (by decide) ?_
    refine Sh.iconst at_299 (x := 1) rfl ?_
    refine Sh.goto at_300 (pc' := 304) rfl (by decide) ?_
    refine Sh.retN at_304 rfl (by simp) rfl (Sh.le rfl) (Sh.le rfl) ?_
    rfl
theorem go4u (hw : HW Z a0) (n : Int32) (a b c d q t0 t1 t2 t3 qu : Int64) (h01 : t0 ≤ t1) (h12 : t1 ≤ t2) (h23 : t2 ≤ t3) :
    Sh.WP l Z a0 n0 b0 room_1 1 4 183 [.val (.int n), .val (.long a), .second, .val (.long b), .second, .val (.long c), .second, .val (.long d), .second, .val (.long q), .second, .val (.int 4), .val (.long t0), .second, .val (.long t1), .second, .val (.long t2), .second, .val (.long t3), .second, .val (.ref 0), .val (.long qu), .second, .unset, .unset, .unset] [] [.inr (.long, [.long t0, .long t1, .long t2, .long t3])] (fun v _ => v = some (.int 1)) := by
  refine Sh.newobj hw (i1 := 7) (i2 := 8) (i3 := 9) (k' := 2) (n' := 11) (a := 1) rfl rfl rfl at_183 fs_FrameIndex nd_FrameIndex (Sh.le rfl) (Sh.le rfl) rfl rfl rfl (Sh.ap_1) ?_
  refine Sh.dup at_186 rfl ?_
  refine Sh.iconst at_187 (x := 4) rfl ?_
  refine Sh.newarr hw (i := 5) (ty := .long) (dv := .long 0) (N := 4) (cap := 4) (k' := 3) (n' := 15) (a := 2) rfl rfl at_188 rfl (by decide) rfl (Sh.rp_4) (Sh.le rfl) (by decide) (Sh.le rfl) (Sh.le rfl) rfl rfl rfl (Sh.ap_2) ?_
  refine Sh.iconst at_190 (x := 4) rfl ?_
  refine Sh.newarr hw (i := 5) (ty := .long) (dv := .long 0) (N := 4) (cap := 4) (k' := 4) (n' := 19) (a := 3) rfl rfl at_191 rfl (by decide) rfl (Sh.rp_4) (Sh.le rfl) (by decide) (Sh.le rfl) (Sh.le rfl) rfl rfl rfl (Sh.ap_3) ?_
  refine Sh.aload at_193 rfl rfl ?_
  refine Sh.iload at_195 rfl ?_
  refine Sh.lconst at_197 (x := 0) rfl ?_
  refine Sh.lconst at_198 (x := 0) rfl ?_
  refine Sh.lconst at_199 (x := 0) rfl ?_
  refine Sh.callI hw (i1 := 10) (i2 := 11) (i3 := 9) (i4 := 12) (k' := 4) (n' := 19) (B' := b2) (R' := R2) rfl rfl rfl rfl rfl rfl (by decide) (m2 l Z a0 n0 hw _ _ _ _ _ _ _ _ _ _ 4 0 0 0) at_200 rfl rfl pd2 rfl (Sh.le rfl) (Sh.le rfl) (Sh.le rfl) (Sh.le rfl) rfl rfl ?_
  rintro _ _ ⟨rfl, rfl⟩
  refine Sh.astore at_203 rfl (Sh.s1_23 rfl rfl) ?_
  refine Sh.iconst at_205 (x := 0) rfl ?_
  refine Sh.istore at_206 (Sh.s1_24 rfl rfl) ?_
  exact fin4 l Z a0 n0 hw n a b c d q t0 t1 t2 t3 qu h01 h12 h23
theorem go4k (hw : HW Z a0) (n : Int32) (a b c d q t0 t1 t2 t3 qu : Int64) (h01 : t0 ≤ t1) (h12 : t1 ≤ t2) (h23 : t2 ≤ t3) (kk : Int32) (bs : Int64) :
    Sh.WP l Z a0 n0 b0 room_1 1 4 183 [.val (.int n), .val (.long a), .second, .val (.long b), .second, .val (.long c), .second, .val (.long d), .second, .val (.long q), .second, .val (.int 4), .val (.long t0), .second, .val (.long t1), .second, .val (.long t2), .second, .val (.long t3), .second, .val (.ref 0), .val (.long qu), .second, .val (.int kk), .val (.long bs), .second] [] [.inr (.long, [.long t0, .long t1, .long t2, .long t3])] (fun v _ => v = some (.int 1)) := by
  refine Sh.newobj hw (i1 := 7) (i2 := 8) (i3 := 9) (k' := 2) (n' := 11) (a := 1) rfl rfl rfl at_183 fs_FrameIndex nd_FrameIndex (Sh.le rfl) (Sh.le rfl) rfl rfl rfl (Sh.ap_1) ?_
  refine Sh.dup at_186 rfl ?_
  refine Sh.iconst at_187 (x := 4) rfl ?_
  refine Sh.newarr hw (i := 5) (ty := .long) (dv := .long 0) (N := 4) (cap := 4) (k' := 3) (n' := 15) (a := 2) rfl rfl at_188 rfl (by decide) rfl (Sh.rp_4) (Sh.le rfl) (by decide) (Sh.le rfl) (Sh.le rfl) rfl rfl rfl (Sh.ap_2) ?_
  refine Sh.iconst at_190 (x := 4) rfl ?_
  refine Sh.newarr hw (i := 5) (ty := .long) (dv := .long 0) (N := 4) (cap := 4) (k' := 4) (n' := 19) (a := 3) rfl rfl at_191 rfl (by decide) rfl (Sh.rp_4) (Sh.le rfl) (by decide) (Sh.le rfl) (Sh.le rfl) rfl rfl rfl (Sh.ap_3) ?_
  refine Sh.aload at_193 rfl rfl ?_
  refine Sh.iload at_195 rfl ?_
  refine Sh.lconst at_197 (x := 0) rfl ?_
  refine Sh.lconst at_198 (x := 0) rfl ?_
  refine Sh.lconst at_199 (x := 0) rfl ?_
  refine Sh.callI hw (i1 := 10) (i2 := 11) (i3 := 9) (i4 := 12) (k' := 4) (n' := 19) (B' := b2) (R' := R2) rfl rfl rfl rfl rfl rfl (by decide) (m2 l Z a0 n0 hw _ _ _ _ _ _ _ _ _ _ 4 0 0 0) at_200 rfl rfl pd2 rfl (Sh.le rfl) (Sh.le rfl) (Sh.le rfl) (Sh.le rfl) rfl rfl ?_
  rintro _ _ ⟨rfl, rfl⟩
  refine Sh.astore at_203 rfl (Sh.s1_23 rfl rfl) ?_
  refine Sh.iconst at_205 (x := 0) rfl ?_
  refine Sh.istore at_206 (Sh.sw_24 rfl rfl) ?_
  exact fin4 l Z a0 n0 hw n a b c d q t0 t1 t2 t3 qu h01 h12 h23
theorem law_ok (hw : HW Z a0) (n : Int32) (a b c d q : Int64) : Sh.Meth l Z a0 n0 b0 room_1 [.int n, .long a, .long b, .long c, .long d, .long q] [] (fun v _ => v = some (.int 1)) := by
  refine Sh.Meth.of pn0 (L := [.val (.int n), .val (.long a), .second, .val (.long b), .second, .val (.long c), .second, .val (.long d), .second, .val (.long q), .second, .unset, .unset, .unset, .unset, .unset, .unset, .unset, .unset, .unset, .unset, .unset, .unset, .unset, .unset, .unset]) rfl ?_
  obtain ⟨cnt, hc, ec⟩ := Sh.remNat n 5 5 (by decide) (by decide)
  refine Sh.iload_n at_0 rfl ?_
  refine Sh.ldcI hw (i := 0) rfl at_1 ?_
  refine Sh.iand at_3 ?_
  refine Sh.iconst at_4 (x := 5) rfl ?_
  refine Sh.irem at_5 (by decide) ?_
  rw [ec]
  refine Sh.istore at_6 (Sh.s1_11 rfl rfl) ?_
  refine Sh.lload_n at_8 rfl ?_
  refine Sh.lstore at_9 (Sh.s2_12 rfl rfl rfl) ?_
  refine Sh.lload at_11 rfl ?_
  refine Sh.lload_n at_13 rfl ?_
  refine Sh.callS hw (i1 := 1) (i2 := 2) (i3 := 3) (i4 := 4) (k' := 0) (n' := 0) (B' := b1) (R' := R1) rfl rfl rfl rfl (by decide) (m1 l Z a0 n0 hw _ _ _) at_14 rfl rfl pd1 rfl (Sh.le rfl) (Sh.le rfl) (Sh.le rfl) (Sh.le rfl) rfl rfl ?_
  rintro _ _ ⟨⟨t1, rfl, h01⟩, rfl⟩
  refine Sh.lstore at_17 (Sh.s2_14 rfl rfl rfl) ?_
  refine Sh.lload at_19 rfl ?_
  refine Sh.lload at_21 rfl ?_
  refine Sh.callS hw (i1 := 1) (i2 := 2) (i3 := 3) (i4 := 4) (k' := 0) (n' := 0) (B' := b1) (R' := R1) rfl rfl rfl rfl (by decide) (m1 l Z a0 n0 hw _ _ _) at_23 rfl rfl pd1 rfl (Sh.le rfl) (Sh.le rfl) (Sh.le rfl) (Sh.le rfl) rfl rfl ?_
  rintro _ _ ⟨⟨t2, rfl, h12⟩, rfl⟩
  refine Sh.lstore at_26 (Sh.s2_16 rfl rfl rfl) ?_
  refine Sh.lload at_28 rfl ?_
  refine Sh.lload at_30 rfl ?_
  refine Sh.callS hw (i1 := 1) (i2 := 2) (i3 := 3) (i4 := 4) (k' := 0) (n' := 0) (B' := b1) (R' := R1) rfl rfl rfl rfl (by decide) (m1 l Z a0 n0 hw _ _ _) at_32 rfl rfl pd1 rfl (Sh.le rfl) (Sh.le rfl) (Sh.le rfl) (Sh.le rfl) rfl rfl ?_
  rintro _ _ ⟨⟨t3, rfl, h23⟩, rfl⟩
  refine Sh.lstore at_35 (Sh.s2_18 rfl rfl rfl) ?_
  refine Sh.iconst at_37 (x := 4) rfl ?_
  refine Sh.newarr hw (i := 5) (ty := .long) (dv := .long 0) (N := 4) (cap := 4) (k' := 1) (n' := 4) (a := 0) rfl rfl at_38 rfl (by decide) rfl (Sh.rp_4) (Sh.le rfl) (by decide) (Sh.le rfl) (Sh.le rfl) rfl rfl rfl (Sh.ap_0) ?_
  refine Sh.astore at_40 rfl (Sh.s1_20 rfl rfl) ?_
  refine Sh.aload at_42 rfl rfl ?_
  refine Sh.iconst at_44 (x := 0) rfl ?_
  match cnt, hc with
  | 0, _ =>
    refine Sh.iload at_45 rfl ?_
    refine Sh.ifT at_47 (pc' := 55) rfl (by decide) (by decide) ?_
    refine Sh.ldc2L hw (i := 6) rfl at_55 ?_
    refine Sh.lastore (jn := 0) at_58 rfl (by decide) rfl (Sh.le rfl) (Sh.ls_0) (Sh.ls_0) ?_
    refine Sh.aload at_59 rfl rfl ?_
    refine Sh.iconst at_61 (x := 1) rfl ?_
    refine Sh.iload at_62 rfl ?_
    refine Sh.iconst at_64 (x := 1) rfl ?_
    refine Sh.icmpT at_65 (pc' := 73) rfl (by decide) (by decide) ?_
    refine Sh.ldc2L hw (i := 6) rfl at_73 ?_
    refine Sh.lastore (jn := 1) at_76 rfl (by decide) rfl (Sh.le rfl) (Sh.ls_1) (Sh.ls_0) ?_
    refine Sh.aload at_77 rfl rfl ?_
    refine Sh.iconst at_79 (x := 2) rfl ?_
    refine Sh.iload at_80 rfl ?_
    refine Sh.iconst at_82 (x := 2) rfl ?_
    refine Sh.icmpT at_83 (pc' := 91) rfl (by decide) (by decide) ?_
    refine Sh.ldc2L hw (i := 6) rfl at_91 ?_
    refine Sh.lastore (jn := 2) at_94 rfl (by decide) rfl (Sh.le rfl) (Sh.ls_2) (Sh.ls_0) ?_
    refine Sh.aload at_95 rfl rfl ?_
    refine Sh.iconst at_97 (x := 3) rfl ?_
    refine Sh.iload at_98 rfl ?_
    refine Sh.iconst at_100 (x := 3) rfl ?_
    refine Sh.icmpT at_101 (pc' := 109) rfl (by decide) (by decide) ?_
    refine Sh.ldc2L hw (i := 6) rfl at_109 ?_
    refine Sh.lastore (jn := 3) at_112 rfl (by decide) rfl (Sh.le rfl) (Sh.ls_3) (Sh.ls_0) ?_
    refine Sh.lload at_113 rfl ?_
    refine Sh.lstore at_115 (Sh.s2_21 rfl rfl rfl) ?_
    refine Sh.iload_n at_117 rfl ?_
    refine Sh.bipush at_118 (x := 8) rfl ?_
    refine Sh.iushr at_120 ?_
    refine Sh.iconst at_121 (x := 1) rfl ?_
    refine Sh.iand at_122 ?_
    refine Sh.if_eq at_123 (pc' := 183) rfl (by decide) (fun h123 => ?_) (fun h123 => ?_)
    · skip
      exact go0u l Z a0 n0 hw n a b c d q a t1 t2 t3 q h01 h12 h23
    · refine Sh.iload_n at_126 rfl ?_
      refine Sh.iconst at_127 (x := 4) rfl ?_
      refine Sh.iushr at_128 ?_
      refine Sh.iconst at_129 (x := 3) rfl ?_
      refine Sh.iand at_130 ?_
      refine Sh.istore at_131 (Sh.s1_23 rfl rfl) ?_
      refine Sh.iload at_133 rfl ?_
      refine Sh.if_ne at_135 (pc' := 143) rfl (by decide) (fun h135 => ?_) (fun h135 => ?_)
      · refine Sh.iload at_143 rfl ?_
        refine Sh.iconst at_145 (x := 1) rfl ?_
        refine Sh.icmp_ne at_146 (pc' := 154) rfl (by decide) (fun h146 => ?_) (fun h146 => ?_)
        · refine Sh.iload at_154 rfl ?_
          refine Sh.iconst at_156 (x := 2) rfl ?_
          refine Sh.icmp_ne at_157 (pc' := 165) rfl (by decide) (fun h157 => ?_) (fun h157 => ?_)
          · refine Sh.lload at_165 rfl ?_
            refine Sh.lstore at_167 (Sh.s2_24 rfl rfl rfl) ?_
            refine Sh.lload at_169 rfl ?_
            refine Sh.iload_n at_171 rfl ?_
            refine Sh.bipush at_172 (x := 6) rfl ?_
            refine Sh.iushr at_174 ?_
            refine Sh.iconst at_175 (x := 3) rfl ?_
            refine Sh.iand at_176 ?_
            refine Sh.i2l at_177 ?_
            refine Sh.ladd at_178 ?_
            refine Sh.lconst at_179 (x := 1) rfl ?_
            refine Sh.lsub at_180 ?_
            refine Sh.lstore at_181 (Sh.s2_21 rfl rfl rfl) ?_
            exact go0k l Z a0 n0 hw n a b c d q a t1 t2 t3 _ h01 h12 h23 _ _
          · refine Sh.lload at_160 rfl ?_
            refine Sh.goto at_162 (pc' := 167) rfl (by decide) ?_
            refine Sh.lstore at_167 (Sh.s2_24 rfl rfl rfl) ?_
            refine Sh.lload at_169 rfl ?_
            refine Sh.iload_n at_171 rfl ?_
            refine Sh.bipush at_172 (x := 6) rfl ?_
            refine Sh.iushr at_174 ?_
            refine Sh.iconst at_175 (x := 3) rfl ?_
            refine Sh.iand at_176 ?_
            refine Sh.i2l at_177 ?_
            refine Sh.ladd at_178 ?_
            refine Sh.lconst at_179 (x := 1) rfl ?_
            refine Sh.lsub at_180 ?_
            refine Sh.lstore at_181 (Sh.s2_21 rfl rfl rfl) ?_
            exact go0k l Z a0 n0 hw n a b c d q a t1 t2 t3 _ h01 h12 h23 _ _
        · refine Sh.lload at_149 rfl ?_
          refine Sh.goto at_151 (pc' := 167) rfl (by decide) ?_
          refine Sh.lstore at_167 (Sh.s2_24 rfl rfl rfl) ?_
          refine Sh.lload at_169 rfl ?_
          refine Sh.iload_n at_171 rfl ?_
          refine Sh.bipush at_172 (x := 6) rfl ?_
          refine Sh.iushr at_174 ?_
          refine Sh.iconst at_175 (x := 3) rfl ?_
          refine Sh.iand at_176 ?_
          refine Sh.i2l at_177 ?_
          refine Sh.ladd at_178 ?_
          refine Sh.lconst at_179 (x := 1) rfl ?_
          refine Sh.lsub at_180 ?_
          refine Sh.lstore at_181 (Sh.s2_21 rfl rfl rfl) ?_
          exact go0k l Z a0 n0 hw n a b c d q a t1 t2 t3 _ h01 h12 h23 _ _
      · refine Sh.lload at_138 rfl ?_
        refine Sh.goto at_140 (pc' := 167) rfl (by decide) ?_
        refine Sh.lstore at_167 (Sh.s2_24 rfl rfl rfl) ?_
        refine Sh.lload at_169 rfl ?_
        refine Sh.iload_n at_171 rfl ?_
        refine Sh.bipush at_172 (x := 6) rfl ?_
        refine Sh.iushr at_174 ?_
        refine Sh.iconst at_175 (x := 3) rfl ?_
        refine Sh.iand at_176 ?_
        refine Sh.i2l at_177 ?_
        refine Sh.ladd at_178 ?_
        refine Sh.lconst at_179 (x := 1) rfl ?_
        refine Sh.lsub at_180 ?_
        refine Sh.lstore at_181 (Sh.s2_21 rfl rfl rfl) ?_
        exact go0k l Z a0 n0 hw n a b c d q a t1 t2 t3 _ h01 h12 h23 _ _
  | 1, _ =>
    refine Sh.iload at_45 rfl ?_
    refine Sh.ifF at_47 (by decide) ?_
    refine Sh.lload at_50 rfl ?_
    refine Sh.goto at_52 (pc' := 58) rfl (by decide) ?_
    refine Sh.lastore (jn := 0) at_58 rfl (by decide) rfl (Sh.le rfl) (Sh.ls_0) (Sh.ls_0) ?_
    refine Sh.aload at_59 rfl rfl ?_
    refine Sh.iconst at_61 (x := 1) rfl ?_
    refine Sh.iload at_62 rfl ?_
    refine Sh.iconst at_64 (x := 1) rfl ?_
    refine Sh.icmpT at_65 (pc' := 73) rfl (by decide) (by decide) ?_
    refine Sh.ldc2L hw (i := 6) rfl at_73 ?_
    refine Sh.lastore (jn := 1) at_76 rfl (by decide) rfl (Sh.le rfl) (Sh.ls_1) (Sh.ls_0) ?_
    refine Sh.aload at_77 rfl rfl ?_
    refine Sh.iconst at_79 (x := 2) rfl ?_
    refine Sh.iload at_80 rfl ?_
    refine Sh.iconst at_82 (x := 2) rfl ?_
    refine Sh.icmpT at_83 (pc' := 91) rfl (by decide) (by decide) ?_
    refine Sh.ldc2L hw (i := 6) rfl at_91 ?_
    refine Sh.lastore (jn := 2) at_94 rfl (by decide) rfl (Sh.le rfl) (Sh.ls_2) (Sh.ls_0) ?_
    refine Sh.aload at_95 rfl rfl ?_
    refine Sh.iconst at_97 (x := 3) rfl ?_
    refine Sh.iload at_98 rfl ?_
    refine Sh.iconst at_100 (x := 3) rfl ?_
    refine Sh.icmpT at_101 (pc' := 109) rfl (by decide) (by decide) ?_
    refine Sh.ldc2L hw (i := 6) rfl at_109 ?_
    refine Sh.lastore (jn := 3) at_112 rfl (by decide) rfl (Sh.le rfl) (Sh.ls_3) (Sh.ls_0) ?_
    refine Sh.lload at_113 rfl ?_
    refine Sh.lstore at_115 (Sh.s2_21 rfl rfl rfl) ?_
    refine Sh.iload_n at_117 rfl ?_
    refine Sh.bipush at_118 (x := 8) rfl ?_
    refine Sh.iushr at_120 ?_
    refine Sh.iconst at_121 (x := 1) rfl ?_
    refine Sh.iand at_122 ?_
    refine Sh.if_eq at_123 (pc' := 183) rfl (by decide) (fun h123 => ?_) (fun h123 => ?_)
    · skip
      exact go1u l Z a0 n0 hw n a b c d q a t1 t2 t3 q h01 h12 h23
    · refine Sh.iload_n at_126 rfl ?_
      refine Sh.iconst at_127 (x := 4) rfl ?_
      refine Sh.iushr at_128 ?_
      refine Sh.iconst at_129 (x := 3) rfl ?_
      refine Sh.iand at_130 ?_
      refine Sh.istore at_131 (Sh.s1_23 rfl rfl) ?_
      refine Sh.iload at_133 rfl ?_
      refine Sh.if_ne at_135 (pc' := 143) rfl (by decide) (fun h135 => ?_) (fun h135 => ?_)
      · refine Sh.iload at_143 rfl ?_
        refine Sh.iconst at_145 (x := 1) rfl ?_
        refine Sh.icmp_ne at_146 (pc' := 154) rfl (by decide) (fun h146 => ?_) (fun h146 => ?_)
        · refine Sh.iload at_154 rfl ?_
          refine Sh.iconst at_156 (x := 2) rfl ?_
          refine Sh.icmp_ne at_157 (pc' := 165) rfl (by decide) (fun h157 => ?_) (fun h157 => ?_)
          · refine Sh.lload at_165 rfl ?_
            refine Sh.lstore at_167 (Sh.s2_24 rfl rfl rfl) ?_
            refine Sh.lload at_169 rfl ?_
            refine Sh.iload_n at_171 rfl ?_
            refine Sh.bipush at_172 (x := 6) rfl ?_
            refine Sh.iushr at_174 ?_
            refine Sh.iconst at_175 (x := 3) rfl ?_
            refine Sh.iand at_176 ?_
            refine Sh.i2l at_177 ?_
            refine Sh.ladd at_178 ?_
            refine Sh.lconst at_179 (x := 1) rfl ?_
            refine Sh.lsub at_180 ?_
            refine Sh.lstore at_181 (Sh.s2_21 rfl rfl rfl) ?_
            exact go1k l Z a0 n0 hw n a b c d q a t1 t2 t3 _ h01 h12 h23 _ _
          · refine Sh.lload at_160 rfl ?_
            refine Sh.goto at_162 (pc' := 167) rfl (by decide) ?_
            refine Sh.lstore at_167 (Sh.s2_24 rfl rfl rfl) ?_
            refine Sh.lload at_169 rfl ?_
            refine Sh.iload_n at_171 rfl ?_
            refine Sh.bipush at_172 (x := 6) rfl ?_
            refine Sh.iushr at_174 ?_
            refine Sh.iconst at_175 (x := 3) rfl ?_
            refine Sh.iand at_176 ?_
            refine Sh.i2l at_177 ?_
            refine Sh.ladd at_178 ?_
            refine Sh.lconst at_179 (x := 1) rfl ?_
            refine Sh.lsub at_180 ?_
            refine Sh.lstore at_181 (Sh.s2_21 rfl rfl rfl) ?_
            exact go1k l Z a0 n0 hw n a b c d q a t1 t2 t3 _ h01 h12 h23 _ _
        · refine Sh.lload at_149 rfl ?_
          refine Sh.goto at_151 (pc' := 167) rfl (by decide) ?_
          refine Sh.lstore at_167 (Sh.s2_24 rfl rfl rfl) ?_
          refine Sh.lload at_169 rfl ?_
          refine Sh.iload_n at_171 rfl ?_
          refine Sh.bipush at_172 (x := 6) rfl ?_
          refine Sh.iushr at_174 ?_
          refine Sh.iconst at_175 (x := 3) rfl ?_
          refine Sh.iand at_176 ?_
          refine Sh.i2l at_177 ?_
          refine Sh.ladd at_178 ?_
          refine Sh.lconst at_179 (x := 1) rfl ?_
          refine Sh.lsub at_180 ?_
          refine Sh.lstore at_181 (Sh.s2_21 rfl rfl rfl) ?_
          exact go1k l Z a0 n0 hw n a b c d q a t1 t2 t3 _ h01 h12 h23 _ _
      · refine Sh.lload at_138 rfl ?_
        refine Sh.goto at_140 (pc' := 167) rfl (by decide) ?_
        refine Sh.lstore at_167 (Sh.s2_24 rfl rfl rfl) ?_
        refine Sh.lload at_169 rfl ?_
        refine Sh.iload_n at_171 rfl ?_
        refine Sh.bipush at_172 (x := 6) rfl ?_
        refine Sh.iushr at_174 ?_
        refine Sh.iconst at_175 (x := 3) rfl ?_
        refine Sh.iand at_176 ?_
        refine Sh.i2l at_177 ?_
        refine Sh.ladd at_178 ?_
        refine Sh.lconst at_179 (x := 1) rfl ?_
        refine Sh.lsub at_180 ?_
        refine Sh.lstore at_181 (Sh.s2_21 rfl rfl rfl) ?_
        exact go1k l Z a0 n0 hw n a b c d q a t1 t2 t3 _ h01 h12 h23 _ _
  | 2, _ =>
    refine Sh.iload at_45 rfl ?_
    refine Sh.ifF at_47 (by decide) ?_
    refine Sh.lload at_50 rfl ?_
    refine Sh.goto at_52 (pc' := 58) rfl (by decide) ?_
    refine Sh.lastore (jn := 0) at_58 rfl (by decide) rfl (Sh.le rfl) (Sh.ls_0) (Sh.ls_0) ?_
    refine Sh.aload at_59 rfl rfl ?_
    refine Sh.iconst at_61 (x := 1) rfl ?_
    refine Sh.iload at_62 rfl ?_
    refine Sh.iconst at_64 (x := 1) rfl ?_
    refine Sh.icmpF at_65 (by decide) ?_
    refine Sh.lload at_68 rfl ?_
    refine Sh.goto at_70 (pc' := 76) rfl (by decide) ?_
    refine Sh.lastore (jn := 1) at_76 rfl (by decide) rfl (Sh.le rfl) (Sh.ls_1) (Sh.ls_0) ?_
    refine Sh.aload at_77 rfl rfl ?_
    refine Sh.iconst at_79 (x := 2) rfl ?_
    refine Sh.iload at_80 rfl ?_
    refine Sh.iconst at_82 (x := 2) rfl ?_
    refine Sh.icmpT at_83 (pc' := 91) rfl (by decide) (by decide) ?_
    refine Sh.ldc2L hw (i := 6) rfl at_91 ?_
    refine Sh.lastore (jn := 2) at_94 rfl (by decide) rfl (Sh.le rfl) (Sh.ls_2) (Sh.ls_0) ?_
    refine Sh.aload at_95 rfl rfl ?_
    refine Sh.iconst at_97 (x := 3) rfl ?_
    refine Sh.iload at_98 rfl ?_
    refine Sh.iconst at_100 (x := 3) rfl ?_
    refine Sh.icmpT at_101 (pc' := 109) rfl (by decide) (by decide) ?_
    refine Sh.ldc2L hw (i := 6) rfl at_109 ?_
    refine Sh.lastore (jn := 3) at_112 rfl (by decide) rfl (Sh.le rfl) (Sh.ls_3) (Sh.ls_0) ?_
    refine Sh.lload at_113 rfl ?_
    refine Sh.lstore at_115 (Sh.s2_21 rfl rfl rfl) ?_
    refine Sh.iload_n at_117 rfl ?_
    refine Sh.bipush at_118 (x := 8) rfl ?_
    refine Sh.iushr at_120 ?_
    refine Sh.iconst at_121 (x := 1) rfl ?_
    refine Sh.iand at_122 ?_
    refine Sh.if_eq at_123 (pc' := 183) rfl (by decide) (fun h123 => ?_) (fun h123 => ?_)
    · skip
      exact go2u l Z a0 n0 hw n a b c d q a t1 t2 t3 q h01 h12 h23
    · refine Sh.iload_n at_126 rfl ?_
      refine Sh.iconst at_127 (x := 4) rfl ?_
      refine Sh.iushr at_128 ?_
      refine Sh.iconst at_129 (x := 3) rfl ?_
      refine Sh.iand at_130 ?_
      refine Sh.istore at_131 (Sh.s1_23 rfl rfl) ?_
      refine Sh.iload at_133 rfl ?_
      refine Sh.if_ne at_135 (pc' := 143) rfl (by decide) (fun h135 => ?_) (fun h135 => ?_)
      · refine Sh.iload at_143 rfl ?_
        refine Sh.iconst at_145 (x := 1) rfl ?_
        refine Sh.icmp_ne at_146 (pc' := 154) rfl (by decide) (fun h146 => ?_) (fun h146 => ?_)
        · refine Sh.iload at_154 rfl ?_
          refine Sh.iconst at_156 (x := 2) rfl ?_
          refine Sh.icmp_ne at_157 (pc' := 165) rfl (by decide) (fun h157 => ?_) (fun h157 => ?_)
          · refine Sh.lload at_165 rfl ?_
            refine Sh.lstore at_167 (Sh.s2_24 rfl rfl rfl) ?_
            refine Sh.lload at_169 rfl ?_
            refine Sh.iload_n at_171 rfl ?_
            refine Sh.bipush at_172 (x := 6) rfl ?_
            refine Sh.iushr at_174 ?_
            refine Sh.iconst at_175 (x := 3) rfl ?_
            refine Sh.iand at_176 ?_
            refine Sh.i2l at_177 ?_
            refine Sh.ladd at_178 ?_
            refine Sh.lconst at_179 (x := 1) rfl ?_
            refine Sh.lsub at_180 ?_
            refine Sh.lstore at_181 (Sh.s2_21 rfl rfl rfl) ?_
            exact go2k l Z a0 n0 hw n a b c d q a t1 t2 t3 _ h01 h12 h23 _ _
          · refine Sh.lload at_160 rfl ?_
            refine Sh.goto at_162 (pc' := 167) rfl (by decide) ?_
            refine Sh.lstore at_167 (Sh.s2_24 rfl rfl rfl) ?_
            refine Sh.lload at_169 rfl ?_
            refine Sh.iload_n at_171 rfl ?_
            refine Sh.bipush at_172 (x := 6) rfl ?_
            refine Sh.iushr at_174 ?_
            refine Sh.iconst at_175 (x := 3) rfl ?_
            refine Sh.iand at_176 ?_
            refine Sh.i2l at_177 ?_
            refine Sh.ladd at_178 ?_
            refine Sh.lconst at_179 (x := 1) rfl ?_
            refine Sh.lsub at_180 ?_
            refine Sh.lstore at_181 (Sh.s2_21 rfl rfl rfl) ?_
            exact go2k l Z a0 n0 hw n a b c d q a t1 t2 t3 _ h01 h12 h23 _ _
        · refine Sh.lload at_149 rfl ?_
          refine Sh.goto at_151 (pc' := 167) rfl (by decide) ?_
          refine Sh.lstore at_167 (Sh.s2_24 rfl rfl rfl) ?_
          refine Sh.lload at_169 rfl ?_
          refine Sh.iload_n at_171 rfl ?_
          refine Sh.bipush at_172 (x := 6) rfl ?_
          refine Sh.iushr at_174 ?_
          refine Sh.iconst at_175 (x := 3) rfl ?_
          refine Sh.iand at_176 ?_
          refine Sh.i2l at_177 ?_
          refine Sh.ladd at_178 ?_
          refine Sh.lconst at_179 (x := 1) rfl ?_
          refine Sh.lsub at_180 ?_
          refine Sh.lstore at_181 (Sh.s2_21 rfl rfl rfl) ?_
          exact go2k l Z a0 n0 hw n a b c d q a t1 t2 t3 _ h01 h12 h23 _ _
      · refine Sh.lload at_138 rfl ?_
        refine Sh.goto at_140 (pc' := 167) rfl (by decide) ?_
        refine Sh.lstore at_167 (Sh.s2_24 rfl rfl rfl) ?_
        refine Sh.lload at_169 rfl ?_
        refine Sh.iload_n at_171 rfl ?_
        refine Sh.bipush at_172 (x := 6) rfl ?_
        refine Sh.iushr at_174 ?_
        refine Sh.iconst at_175 (x := 3) rfl ?_
        refine Sh.iand at_176 ?_
        refine Sh.i2l at_177 ?_
        refine Sh.ladd at_178 ?_
        refine Sh.lconst at_179 (x := 1) rfl ?_
        refine Sh.lsub at_180 ?_
        refine Sh.lstore at_181 (Sh.s2_21 rfl rfl rfl) ?_
        exact go2k l Z a0 n0 hw n a b c d q a t1 t2 t3 _ h01 h12 h23 _ _
  | 3, _ =>
    refine Sh.iload at_45 rfl ?_
    refine Sh.ifF at_47 (by decide) ?_
    refine Sh.lload at_50 rfl ?_
    refine Sh.goto at_52 (pc' := 58) rfl (by decide) ?_
    refine Sh.lastore (jn := 0) at_58 rfl (by decide) rfl (Sh.le rfl) (Sh.ls_0) (Sh.ls_0) ?_
    refine Sh.aload at_59 rfl rfl ?_
    refine Sh.iconst at_61 (x := 1) rfl ?_
    refine Sh.iload at_62 rfl ?_
    refine Sh.iconst at_64 (x := 1) rfl ?_
    refine Sh.icmpF at_65 (by decide) ?_
    refine Sh.lload at_68 rfl ?_
    refine Sh.goto at_70 (pc' := 76) rfl (by decide) ?_
    refine Sh.lastore (jn := 1) at_76 rfl (by decide) rfl (Sh.le rfl) (Sh.ls_1) (Sh.ls_0) ?_
    refine Sh.aload at_77 rfl rfl ?_
    refine Sh.iconst at_79 (x := 2) rfl ?_
    refine Sh.iload at_80 rfl ?_
    refine Sh.iconst at_82 (x := 2) rfl ?_
    refine Sh.icmpF at_83 (by decide) ?_
    refine Sh.lload at_86 rfl ?_
    refine Sh.goto at_88 (pc' := 94) rfl (by decide) ?_
    refine Sh.lastore (jn := 2) at_94 rfl (by decide) rfl (Sh.le rfl) (Sh.ls_2) (Sh.ls_0) ?_
    refine Sh.aload at_95 rfl rfl ?_
    refine Sh.iconst at_97 (x := 3) rfl ?_
    refine Sh.iload at_98 rfl ?_
    refine Sh.iconst at_100 (x := 3) rfl ?_
    refine Sh.icmpT at_101 (pc' := 109) rfl (by decide) (by decide) ?_
    refine Sh.ldc2L hw (i := 6) rfl at_109 ?_
    refine Sh.lastore (jn := 3) at_112 rfl (by decide) rfl (Sh.le rfl) (Sh.ls_3) (Sh.ls_0) ?_
    refine Sh.lload at_113 rfl ?_
    refine Sh.lstore at_115 (Sh.s2_21 rfl rfl rfl) ?_
    refine Sh.iload_n at_117 rfl ?_
    refine Sh.bipush at_118 (x := 8) rfl ?_
    refine Sh.iushr at_120 ?_
    refine Sh.iconst at_121 (x := 1) rfl ?_
    refine Sh.iand at_122 ?_
    refine Sh.if_eq at_123 (pc' := 183) rfl (by decide) (fun h123 => ?_) (fun h123 => ?_)
    · skip
      exact go3u l Z a0 n0 hw n a b c d q a t1 t2 t3 q h01 h12 h23
    · refine Sh.iload_n at_126 rfl ?_
      refine Sh.iconst at_127 (x := 4) rfl ?_
      refine Sh.iushr at_128 ?_
      refine Sh.iconst at_129 (x := 3) rfl ?_
      refine Sh.iand at_130 ?_
      refine Sh.istore at_131 (Sh.s1_23 rfl rfl) ?_
      refine Sh.iload at_133 rfl ?_
      refine Sh.if_ne at_135 (pc' := 143) rfl (by decide) (fun h135 => ?_) (fun h135 => ?_)
      · refine Sh.iload at_143 rfl ?_
        refine Sh.iconst at_145 (x := 1) rfl ?_
        refine Sh.icmp_ne at_146 (pc' := 154) rfl (by decide) (fun h146 => ?_) (fun h146 => ?_)
        · refine Sh.iload at_154 rfl ?_
          refine Sh.iconst at_156 (x := 2) rfl ?_
          refine Sh.icmp_ne at_157 (pc' := 165) rfl (by decide) (fun h157 => ?_) (fun h157 => ?_)
          · refine Sh.lload at_165 rfl ?_
            refine Sh.lstore at_167 (Sh.s2_24 rfl rfl rfl) ?_
            refine Sh.lload at_169 rfl ?_
            refine Sh.iload_n at_171 rfl ?_
            refine Sh.bipush at_172 (x := 6) rfl ?_
            refine Sh.iushr at_174 ?_
            refine Sh.iconst at_175 (x := 3) rfl ?_
            refine Sh.iand at_176 ?_
            refine Sh.i2l at_177 ?_
            refine Sh.ladd at_178 ?_
            refine Sh.lconst at_179 (x := 1) rfl ?_
            refine Sh.lsub at_180 ?_
            refine Sh.lstore at_181 (Sh.s2_21 rfl rfl rfl) ?_
            exact go3k l Z a0 n0 hw n a b c d q a t1 t2 t3 _ h01 h12 h23 _ _
          · refine Sh.lload at_160 rfl ?_
            refine Sh.goto at_162 (pc' := 167) rfl (by decide) ?_
            refine Sh.lstore at_167 (Sh.s2_24 rfl rfl rfl) ?_
            refine Sh.lload at_169 rfl ?_
            refine Sh.iload_n at_171 rfl ?_
            refine Sh.bipush at_172 (x := 6) rfl ?_
            refine Sh.iushr at_174 ?_
            refine Sh.iconst at_175 (x := 3) rfl ?_
            refine Sh.iand at_176 ?_
            refine Sh.i2l at_177 ?_
            refine Sh.ladd at_178 ?_
            refine Sh.lconst at_179 (x := 1) rfl ?_
            refine Sh.lsub at_180 ?_
            refine Sh.lstore at_181 (Sh.s2_21 rfl rfl rfl) ?_
            exact go3k l Z a0 n0 hw n a b c d q a t1 t2 t3 _ h01 h12 h23 _ _
        · refine Sh.lload at_149 rfl ?_
          refine Sh.goto at_151 (pc' := 167) rfl (by decide) ?_
          refine Sh.lstore at_167 (Sh.s2_24 rfl rfl rfl) ?_
          refine Sh.lload at_169 rfl ?_
          refine Sh.iload_n at_171 rfl ?_
          refine Sh.bipush at_172 (x := 6) rfl ?_
          refine Sh.iushr at_174 ?_
          refine Sh.iconst at_175 (x := 3) rfl ?_
          refine Sh.iand at_176 ?_
          refine Sh.i2l at_177 ?_
          refine Sh.ladd at_178 ?_
          refine Sh.lconst at_179 (x := 1) rfl ?_
          refine Sh.lsub at_180 ?_
          refine Sh.lstore at_181 (Sh.s2_21 rfl rfl rfl) ?_
          exact go3k l Z a0 n0 hw n a b c d q a t1 t2 t3 _ h01 h12 h23 _ _
      · refine Sh.lload at_138 rfl ?_
        refine Sh.goto at_140 (pc' := 167) rfl (by decide) ?_
        refine Sh.lstore at_167 (Sh.s2_24 rfl rfl rfl) ?_
        refine Sh.lload at_169 rfl ?_
        refine Sh.iload_n at_171 rfl ?_
        refine Sh.bipush at_172 (x := 6) rfl ?_
        refine Sh.iushr at_174 ?_
        refine Sh.iconst at_175 (x := 3) rfl ?_
        refine Sh.iand at_176 ?_
        refine Sh.i2l at_177 ?_
        refine Sh.ladd at_178 ?_
        refine Sh.lconst at_179 (x := 1) rfl ?_
        refine Sh.lsub at_180 ?_
        refine Sh.lstore at_181 (Sh.s2_21 rfl rfl rfl) ?_
        exact go3k l Z a0 n0 hw n a b c d q a t1 t2 t3 _ h01 h12 h23 _ _
  | 4, _ =>
    refine Sh.iload at_45 rfl ?_
    refine Sh.ifF at_47 (by decide) ?_
    refine Sh.lload at_50 rfl ?_
    refine Sh.goto at_52 (pc' := 58) rfl (by decide) ?_
    refine Sh.lastore (jn := 0) at_58 rfl (by decide) rfl (Sh.le rfl) (Sh.ls_0) (Sh.ls_0) ?_
    refine Sh.aload at_59 rfl rfl ?_
    refine Sh.iconst at_61 (x := 1) rfl ?_
    refine Sh.iload at_62 rfl ?_
    refine Sh.iconst at_64 (x := 1) rfl ?_
    refine Sh.icmpF at_65 (by decide) ?_
    refine Sh.lload at_68 rfl ?_
    refine Sh.goto at_70 (pc' := 76) rfl (by decide) ?_
    refine Sh.lastore (jn := 1) at_76 rfl (by decide) rfl (Sh.le rfl) (Sh.ls_1) (Sh.ls_0) ?_
    refine Sh.aload at_77 rfl rfl ?_
    refine Sh.iconst at_79 (x := 2) rfl ?_
    refine Sh.iload at_80 rfl ?_
    refine Sh.iconst at_82 (x := 2) rfl ?_
    refine Sh.icmpF at_83 (by decide) ?_
    refine Sh.lload at_86 rfl ?_
    refine Sh.goto at_88 (pc' := 94) rfl (by decide) ?_
    refine Sh.lastore (jn := 2) at_94 rfl (by decide) rfl (Sh.le rfl) (Sh.ls_2) (Sh.ls_0) ?_
    refine Sh.aload at_95 rfl rfl ?_
    refine Sh.iconst at_97 (x := 3) rfl ?_
    refine Sh.iload at_98 rfl ?_
    refine Sh.iconst at_100 (x := 3) rfl ?_
    refine Sh.icmpF at_101 (by decide) ?_
    refine Sh.lload at_104 rfl ?_
    refine Sh.goto at_106 (pc' := 112) rfl (by decide) ?_
    refine Sh.lastore (jn := 3) at_112 rfl (by decide) rfl (Sh.le rfl) (Sh.ls_3) (Sh.ls_0) ?_
    refine Sh.lload at_113 rfl ?_
    refine Sh.lstore at_115 (Sh.s2_21 rfl rfl rfl) ?_
    refine Sh.iload_n at_117 rfl ?_
    refine Sh.bipush at_118 (x := 8) rfl ?_
    refine Sh.iushr at_120 ?_
    refine Sh.iconst at_121 (x := 1) rfl ?_
    refine Sh.iand at_122 ?_
    refine Sh.if_eq at_123 (pc' := 183) rfl (by decide) (fun h123 => ?_) (fun h123 => ?_)
    · skip
      exact go4u l Z a0 n0 hw n a b c d q a t1 t2 t3 q h01 h12 h23
    · refine Sh.iload_n at_126 rfl ?_
      refine Sh.iconst at_127 (x := 4) rfl ?_
      refine Sh.iushr at_128 ?_
      refine Sh.iconst at_129 (x := 3) rfl ?_
      refine Sh.iand at_130 ?_
      refine Sh.istore at_131 (Sh.s1_23 rfl rfl) ?_
      refine Sh.iload at_133 rfl ?_
      refine Sh.if_ne at_135 (pc' := 143) rfl (by decide) (fun h135 => ?_) (fun h135 => ?_)
      · refine Sh.iload at_143 rfl ?_
        refine Sh.iconst at_145 (x := 1) rfl ?_
        refine Sh.icmp_ne at_146 (pc' := 154) rfl (by decide) (fun h146 => ?_) (fun h146 => ?_)
        · refine Sh.iload at_154 rfl ?_
          refine Sh.iconst at_156 (x := 2) rfl ?_
          refine Sh.icmp_ne at_157 (pc' := 165) rfl (by decide) (fun h157 => ?_) (fun h157 => ?_)
          · refine Sh.lload at_165 rfl ?_
            refine Sh.lstore at_167 (Sh.s2_24 rfl rfl rfl) ?_
            refine Sh.lload at_169 rfl ?_
            refine Sh.iload_n at_171 rfl ?_
            refine Sh.bipush at_172 (x := 6) rfl ?_
            refine Sh.iushr at_174 ?_
            refine Sh.iconst at_175 (x := 3) rfl ?_
            refine Sh.iand at_176 ?_
            refine Sh.i2l at_177 ?_
            refine Sh.ladd at_178 ?_
            refine Sh.lconst at_179 (x := 1) rfl ?_
            refine Sh.lsub at_180 ?_
            refine Sh.lstore at_181 (Sh.s2_21 rfl rfl rfl) ?_
            exact go4k l Z a0 n0 hw n a b c d q a t1 t2 t3 _ h01 h12 h23 _ _
          · refine Sh.lload at_160 rfl ?_
            refine Sh.goto at_162 (pc' := 167) rfl (by decide) ?_
            refine Sh.lstore at_167 (Sh.s2_24 rfl rfl rfl) ?_
            refine Sh.lload at_169 rfl ?_
            refine Sh.iload_n at_171 rfl ?_
            refine Sh.bipush at_172 (x := 6) rfl ?_
            refine Sh.iushr at_174 ?_
            refine Sh.iconst at_175 (x := 3) rfl ?_
            refine Sh.iand at_176 ?_
            refine Sh.i2l at_177 ?_
            refine Sh.ladd at_178 ?_
            refine Sh.lconst at_179 (x := 1) rfl ?_
            refine Sh.lsub at_180 ?_
            refine Sh.lstore at_181 (Sh.s2_21 rfl rfl rfl) ?_
            exact go4k l Z a0 n0 hw n a b c d q a t1 t2 t3 _ h01 h12 h23 _ _
        · refine Sh.lload at_149 rfl ?_
          refine Sh.goto at_151 (pc' := 167) rfl (by decide) ?_
          refine Sh.lstore at_167 (Sh.s2_24 rfl rfl rfl) ?_
          refine Sh.lload at_169 rfl ?_
          refine Sh.iload_n at_171 rfl ?_
          refine Sh.bipush at_172 (x := 6) rfl ?_
          refine Sh.iushr at_174 ?_
          refine Sh.iconst at_175 (x := 3) rfl ?_
          refine Sh.iand at_176 ?_
          refine Sh.i2l at_177 ?_
          refine Sh.ladd at_178 ?_
          refine Sh.lconst at_179 (x := 1) rfl ?_
          refine Sh.lsub at_180 ?_
          refine Sh.lstore at_181 (Sh.s2_21 rfl rfl rfl) ?_
          exact go4k l Z a0 n0 hw n a b c d q a t1 t2 t3 _ h01 h12 h23 _ _
      · refine Sh.lload at_138 rfl ?_
        refine Sh.goto at_140 (pc' := 167) rfl (by decide) ?_
        refine Sh.lstore at_167 (Sh.s2_24 rfl rfl rfl) ?_
        refine Sh.lload at_169 rfl ?_
        refine Sh.iload_n at_171 rfl ?_
        refine Sh.bipush at_172 (x := 6) rfl ?_
        refine Sh.iushr at_174 ?_
        refine Sh.iconst at_175 (x := 3) rfl ?_
        refine Sh.iand at_176 ?_
        refine Sh.i2l at_177 ?_
        refine Sh.ladd at_178 ?_
        refine Sh.lconst at_179 (x := 1) rfl ?_
        refine Sh.lsub at_180 ?_
        refine Sh.lstore at_181 (Sh.s2_21 rfl rfl rfl) ?_
        exact go4k l Z a0 n0 hw n a b c d q a t1 t2 t3 _ h01 h12 h23 _ _
end
set_option maxRecDepth 65536 in
set_option maxHeartbeats 40000000 in
theorem comes_1 {Post : Tables → Env → Array Value → State → Outcome → State → Prop} (hpost : ∀ tb e args s v u, (limb_1_1.after args s (.returned v) u = true ∧ limb_1_2.after args s (.returned v) u = true ∧ True) → FrameEnd s (.returned v) u (Jvm.fieldLocs frame_1_writes args s ++ Jvm.arrayLocs frame_1_arrays args s ++ Jvm.staticLocs frame_1_statics s) 16 128 → Post tb e args s (.returned v) u) :
    ArmFor flags0 classFile x code maxLocals ret World_1 tables_1 room_1 Calls_1 rest_1 Pre_1 Post := by
  intro l hfl _ _ p e ha hc hk s m args below hf hA hF happ hP
  obtain ⟨hcalls, hrest, hpre⟩ := hP
  obtain ⟨-, -, -, -, -, -, -, hat⟩ := (Spec.applies_iff hf).mp happ
  obtain ⟨hg, hn⟩ := and_e (Cond.before_iff.mp (show (Jvm.Cond.and given_1 narrow_1).before args s = true from hpre))
  obtain ⟨h1, h2⟩ := and_e hg
  obtain ⟨w0, w1, w2, w3, w4, w5, rfl⟩ : ∃ w0 w1 w2 w3 w4 w5 : Value, args = #[w0, w1, w2, w3, w4, w5] := by
    have hs : args.size = 6 := by simpa [Cond.value, given_1] using h1
    obtain ⟨L⟩ := args
    match L, hs with
    | [w0, w1, w2, w3, w4, w5], _ => exact ⟨w0, w1, w2, w3, w4, w5, rfl⟩
  have hw := fun d (hd : d ∈ tables_1) => atoms_spec (ws := Jvm.Cond.code x code maxLocals ret :: tables_1) hat d (List.mem_cons_of_mem _ hd)
  obtain ⟨g0, q0⟩ := and_e h2
  obtain ⟨i0, e0⟩ := is_v g0
  obtain rfl : w0 = (.int i0) := Option.some.inj e0
  obtain ⟨g1, q1⟩ := and_e q0
  obtain ⟨i1, e1⟩ := isL_v g1
  obtain rfl : w1 = (.long i1) := Option.some.inj e1
  obtain ⟨g2, q2⟩ := and_e q1
  obtain ⟨i2, e2⟩ := isL_v g2
  obtain rfl : w2 = (.long i2) := Option.some.inj e2
  obtain ⟨g3, q3⟩ := and_e q2
  obtain ⟨i3, e3⟩ := isL_v g3
  obtain rfl : w3 = (.long i3) := Option.some.inj e3
  obtain ⟨g4, q4⟩ := and_e q3
  obtain ⟨i4, e4⟩ := isL_v g4
  obtain rfl : w4 = (.long i4) := Option.some.inj e4
  obtain ⟨i5, e5⟩ := isL_v q4
  obtain rfl : w5 = (.long i5) := Option.some.inj e5
  have hM := law_ok l s _ s.heap.size hw i0 i1 i2 i3 i4 i5 s.heap tables_1 ⟨by simp, fun i c h => by simp at h⟩ p e ha hc hk s m _ below hf ((Spec.applies_iff_loose hf).mp happ).1 ⟨by simp [Sh.lf], State.Warmed39.refl s, rfl⟩ trivial
  obtain ⟨n, o, h1, h2, h3, _, L, rfl, ⟨v, H, rfl, rfl, hR, N⟩, hq⟩ := hM
  refine ⟨n, _, h1, h2, h3, hpost _ _ _ _ _ _ ⟨Cond.after_iff.mpr rfl, Cond.after_iff.mpr (eq_i res_at (Term.int_eval (1)) rfl), trivial⟩ ⟨hq.1, hq.2.1, (hq.2.2.sift fun y hy => Or.inr (N y hy)).mono (by decide) (by decide)⟩⟩
theorem main_1_1 : Claimed_1_1 := comes_1 fun _ _ _ _ _ _ h hF => ⟨h.1, hF⟩
theorem main_1_2 : Claimed_1_2 := comes_1 fun _ _ _ _ _ _ h hF => ⟨h.2.1, hF⟩
end Jvm.Pilot.@@N@@
namespace Jvm.Pilot.@@N@@
open Jvm Jvm.ClassFile Sem Op Lib Jvm.Free Jvm.Stand Jvm.Pilot.@@N@@.Jvm.D
/-! MADE BY PROGRAM (witnessworld.py) out of the Statement's table words and the real class files: 13 classes; the members and pool entries that the words name. The judged class is class 1, her method 1. -/
namespace start1
open Jvm.ClassFile
def u (s : String) : CpInfo := .utf8 (stringToUtf16 s)
/-- a pool by its gaps: so many unusable entries, then the entry; so many at the end -/
def gap : Nat → List CpInfo → List CpInfo
  | 0, r => r
  | n + 1, r => .unusable :: gap n r
def poolList (es : List (Nat × CpInfo)) (last : Nat) : List CpInfo := es.foldr (fun e r => gap e.1 (e.2 :: r)) (gap last [])
def pool (es : List (Nat × CpInfo)) (last : Nat) : Array CpInfo := ⟨poolList es last⟩
def fileOf (pool : Array CpInfo) (this : Nat) (attrs : Array Attribute := #[]) (ms : Array MethodInfo := #[]) (fl : Nat := 33) (sup : Nat := 0) (ifs : Array Nat := #[]) (fds : Array FieldInfo := #[]) : ClassFile where
  minorVersion := 0
  majorVersion := 65
  constantPool := pool
  accessFlags := fl
  thisClass := this
  superClass := sup
  interfaces := ifs
  fields := fds
  methods := ms
  attributes := attrs
def plain (name : String) (sup : Option ClassId) : Class where
  name := name
  kind := .ordinary
  loader := none
  accessFlags := 33
  super := sup
  interfaces := #[]
  cf := none
  fields := #[]
  methods := #[]
  instanceTypes := #[]
  staticTypes := #[]
  resolved := #[]
  callSites := []
  init := .initialized
  statics := none
  mirror := none

def pool0 : Array CpInfo := pool [(5, u "<init>"), (0, u "()V"), (1, .class_ 10), (1, u "java/lang/Object")] 113

def k0c0 : Code := { maxStack := 0, maxLocals := 1, code := object_method_1_code, exceptionTable := #[], attributes := #[] }
def k0m0 : Method := { name := "<init>", desc := "()V", sig := { parameters := [], returnType := none }, accessFlags := 1, code := some k0c0 }
/-- java/lang/Object -/
def k0 : Class := { plain "java/lang/Object" none with
  accessFlags := 33
  interfaces := #[]
  cf := some (fileOf pool0 8 #[] #[{ accessFlags := 1, nameIndex := 5, descriptorIndex := 6, attributes := #[] }] 33 0 #[] #[])
  fields := #[]
  methods := #[k0m0]
  instanceTypes := #[]
  staticTypes := #[]
  resolved := Array.replicate 124 none
  statics := none }

def pool1 : Array CpInfo := pool [(2, .class_ 4), (1, u "java/lang/Object"), (0, u "<init>"), (0, u "()V"), (0, .integer 2147483647), (0, .methodref 9 10), (0, .class_ 11), (0, .nameAndType 12 13), (0, u "java/lang/Math"), (0, u "max"), (0, u "(JJ)J"), (2, .long 9223372036854775808), (1, .class_ 19), (0, u "com/example/shardline/shardline/FrameIndex"), (0, .methodref 18 21), (0, .nameAndType 5 22), (0, u "([J[J[JIJJJ)V"), (0, .methodref 18 24), (0, .nameAndType 25 26), (0, u "firstEntryAt"), (0, u "(J)I"), (0, .class_ 28), (0, u "com/example/shardline/shardline/FrameIndexFirstEntryAtPinLaw"), (2, u "law"), (0, u "(IJJJJJ)Z")] 5

def k1m0 : Method := { name := "<init>", desc := "()V", sig := { parameters := [], returnType := none }, accessFlags := 1, code := none }
def k1c1 : Code := { maxStack := 12, maxLocals := 26, code := code, exceptionTable := #[], attributes := #[] }
def k1m1 : Method := { name := "law", desc := "(IJJJJJ)Z", sig := { parameters := [.int, .long, .long, .long, .long, .long], returnType := some .boolean }, accessFlags := 9, code := some k1c1 }
/-- com/example/shardline/shardline/FrameIndexFirstEntryAtPinLaw -/
def k1 : Class := { plain "com/example/shardline/shardline/FrameIndexFirstEntryAtPinLaw" (some 0) with
  accessFlags := 49
  interfaces := #[]
  cf := some (fileOf pool1 27 #[] #[{ accessFlags := 1, nameIndex := 5, descriptorIndex := 6, attributes := #[] }, { accessFlags := 9, nameIndex := 31, descriptorIndex := 32, attributes := #[] }] 49 2 #[] #[])
  fields := #[]
  methods := #[k1m0, k1m1]
  instanceTypes := #[]
  staticTypes := #[]
  resolved := Array.replicate 38 none
  statics := none }

def pool2 : Array CpInfo := pool [(1, .class_ 2), (0, u "java/lang/Math"), (1, .class_ 6), (1, u "java/lang/Object"), (0, u "<init>"), (0, u "()V"), (89, .class_ 100), (1, u "java/lang/Math$RandomNumberGeneratorHolder"), (20, u "(JJ)J"), (50, u "negativeZeroFloatBits"), (0, u "J"), (2, u "negativeZeroDoubleBits"), (21, u "max"), (46, u "$assertionsDisabled"), (0, u "Z"), (91, u "twoToTheDoubleScaleDown"), (0, u "D"), (4, u "twoToTheDoubleScaleUp"), (9, u "E"), (3, u "PI"), (2, u "TAU"), (2, u "DEGREES_TO_RADIANS"), (0, u "RADIANS_TO_DEGREES")] 94

def k2m0 : Method := { name := "<init>", desc := "()V", sig := { parameters := [], returnType := none }, accessFlags := 2, code := none }
def k2c1 : Code := { maxStack := 4, maxLocals := 4, code := jdk_29_method_66_code, exceptionTable := #[], attributes := #[] }
def k2m1 : Method := { name := "max", desc := "(JJ)J", sig := { parameters := [.long, .long], returnType := some .long }, accessFlags := 9, code := some k2c1 }
/-- java/lang/Math -/
def k2 : Class := { plain "java/lang/Math" (some 0) with
  accessFlags := 49
  interfaces := #[]
  cf := some (fileOf pool2 1 #[.nestMembers #[98]] #[{ accessFlags := 2, nameIndex := 7, descriptorIndex := 8, attributes := #[] }, { accessFlags := 9, nameIndex := 198, descriptorIndex := 121, attributes := #[] }] 49 4 #[] #[{ accessFlags := 25, nameIndex := 354, descriptorIndex := 339, attributes := #[] }, { accessFlags := 25, nameIndex := 358, descriptorIndex := 339, attributes := #[] }, { accessFlags := 25, nameIndex := 361, descriptorIndex := 339, attributes := #[] }, { accessFlags := 26, nameIndex := 364, descriptorIndex := 339, attributes := #[] }, { accessFlags := 26, nameIndex := 365, descriptorIndex := 339, attributes := #[] }, { accessFlags := 26, nameIndex := 172, descriptorIndex := 173, attributes := #[] }, { accessFlags := 26, nameIndex := 176, descriptorIndex := 173, attributes := #[] }, { accessFlags := 8, nameIndex := 344, descriptorIndex := 339, attributes := #[] }, { accessFlags := 8, nameIndex := 338, descriptorIndex := 339, attributes := #[] }, { accessFlags := 4120, nameIndex := 245, descriptorIndex := 246, attributes := #[] }])
  fields := #[{ name := "E", type := .double, accessFlags := 25, slot := 0, constantValue := 0 }, { name := "PI", type := .double, accessFlags := 25, slot := 1, constantValue := 0 }, { name := "TAU", type := .double, accessFlags := 25, slot := 2, constantValue := 0 }, { name := "DEGREES_TO_RADIANS", type := .double, accessFlags := 26, slot := 3, constantValue := 0 }, { name := "RADIANS_TO_DEGREES", type := .double, accessFlags := 26, slot := 4, constantValue := 0 }, { name := "negativeZeroFloatBits", type := .long, accessFlags := 26, slot := 5, constantValue := 0 }, { name := "negativeZeroDoubleBits", type := .long, accessFlags := 26, slot := 6, constantValue := 0 }, { name := "twoToTheDoubleScaleUp", type := .double, accessFlags := 8, slot := 7, constantValue := 0 }, { name := "twoToTheDoubleScaleDown", type := .double, accessFlags := 8, slot := 8, constantValue := 0 }, { name := "$assertionsDisabled", type := .boolean, accessFlags := 4120, slot := 9, constantValue := 0 }]
  methods := #[k2m0, k2m1]
  instanceTypes := #[]
  staticTypes := #[.double, .double, .double, .double, .double, .long, .long, .double, .double, .boolean]
  resolved := Array.replicate 460 none
  statics := none }

def pool3 : Array CpInfo := pool [(1, .methodref 2 3), (0, .class_ 4), (0, .nameAndType 5 6), (0, u "java/lang/Object"), (0, u "<init>"), (0, u "()V"), (0, .class_ 8), (0, u "java/lang/Record")] 13

def k3c0 : Code := { maxStack := 1, maxLocals := 1, code := jdk_30_method_1_code, exceptionTable := #[], attributes := #[] }
def k3m0 : Method := { name := "<init>", desc := "()V", sig := { parameters := [], returnType := none }, accessFlags := 4, code := some k3c0 }
/-- java/lang/Record -/
def k3 : Class := { plain "java/lang/Record" (some 0) with
  accessFlags := 1057
  interfaces := #[]
  cf := some (fileOf pool3 7 #[] #[{ accessFlags := 4, nameIndex := 5, descriptorIndex := 6, attributes := #[] }] 1057 2 #[] #[])
  fields := #[]
  methods := #[k3m0]
  instanceTypes := #[]
  staticTypes := #[]
  resolved := Array.replicate 22 none
  statics := none }

def pool4 : Array CpInfo := pool [(1, .methodref 2 3), (0, .class_ 4), (0, .nameAndType 5 6), (0, u "java/lang/Record"), (0, u "<init>"), (0, u "()V"), (0, .fieldref 8 9), (0, .class_ 10), (0, .nameAndType 11 12), (0, u "com/example/shardline/shardline/FrameIndex"), (0, u "firstOffsets"), (0, u "[J"), (0, .fieldref 8 14), (0, .nameAndType 15 12), (0, u "positions"), (0, .fieldref 8 17), (0, .nameAndType 18 12), (0, u "times"), (0, .fieldref 8 20), (0, .nameAndType 21 22), (0, u "entries"), (0, u "I"), (0, .fieldref 8 24), (0, .nameAndType 25 26), (0, u "end"), (0, u "J"), (0, .fieldref 8 28), (0, .nameAndType 29 26), (0, u "length"), (0, .fieldref 8 31), (0, .nameAndType 32 26), (0, u "spanEnd"), (2, u "([J[J[JIJJJ)V"), (41, u "SPAN"), (14, u "(J)I"), (4, u "firstEntryAt")] 31

def k4c0 : Code := { maxStack := 3, maxLocals := 11, code := prog_13_method_1_code, exceptionTable := #[], attributes := #[] }
def k4m0 : Method := { name := "<init>", desc := "([J[J[JIJJJ)V", sig := { parameters := [(.array .long), (.array .long), (.array .long), .int, .long, .long, .long], returnType := none }, accessFlags := 0, code := some k4c0 }
def k4c1 : Code := { maxStack := 4, maxLocals := 6, code := prog_13_method_12_code, exceptionTable := #[], attributes := #[] }
def k4m1 : Method := { name := "firstEntryAt", desc := "(J)I", sig := { parameters := [.long], returnType := some .int }, accessFlags := 0, code := some k4c1 }
/-- com/example/shardline/shardline/FrameIndex -/
def k4 : Class := { plain "com/example/shardline/shardline/FrameIndex" (some 3) with
  accessFlags := 48
  interfaces := #[]
  cf := some (fileOf pool4 8 #[] #[{ accessFlags := 0, nameIndex := 5, descriptorIndex := 35, attributes := #[] }, { accessFlags := 0, nameIndex := 97, descriptorIndex := 92, attributes := #[] }] 48 2 #[] #[{ accessFlags := 18, nameIndex := 11, descriptorIndex := 12, attributes := #[] }, { accessFlags := 18, nameIndex := 15, descriptorIndex := 12, attributes := #[] }, { accessFlags := 18, nameIndex := 18, descriptorIndex := 12, attributes := #[] }, { accessFlags := 18, nameIndex := 21, descriptorIndex := 22, attributes := #[] }, { accessFlags := 18, nameIndex := 25, descriptorIndex := 26, attributes := #[] }, { accessFlags := 18, nameIndex := 29, descriptorIndex := 26, attributes := #[] }, { accessFlags := 18, nameIndex := 32, descriptorIndex := 26, attributes := #[] }, { accessFlags := 24, nameIndex := 77, descriptorIndex := 22, attributes := #[] }])
  fields := #[{ name := "firstOffsets", type := (.array .long), accessFlags := 18, slot := 0, constantValue := 0 }, { name := "positions", type := (.array .long), accessFlags := 18, slot := 1, constantValue := 0 }, { name := "times", type := (.array .long), accessFlags := 18, slot := 2, constantValue := 0 }, { name := "entries", type := .int, accessFlags := 18, slot := 3, constantValue := 0 }, { name := "end", type := .long, accessFlags := 18, slot := 4, constantValue := 0 }, { name := "length", type := .long, accessFlags := 18, slot := 5, constantValue := 0 }, { name := "spanEnd", type := .long, accessFlags := 18, slot := 6, constantValue := 0 }, { name := "SPAN", type := .int, accessFlags := 24, slot := 0, constantValue := 0 }]
  methods := #[k4m0, k4m1]
  instanceTypes := #[(.array .long), (.array .long), (.array .long), .int, .long, .long, .long]
  staticTypes := #[.int]
  resolved := Array.replicate 129 none
  statics := none }

def pool5 : Array CpInfo := pool [(1, u "java/lang/Cloneable"), (0, .class_ 1), (0, u "java/lang/Object"), (0, .class_ 3)] 3

/-- java/lang/Cloneable -/
def k5 : Class := { plain "java/lang/Cloneable" (some 0) with
  accessFlags := 1537
  interfaces := #[]
  cf := some (fileOf pool5 2 #[] #[] 1537 4 #[] #[])
  fields := #[]
  methods := #[]
  instanceTypes := #[]
  staticTypes := #[]
  resolved := Array.replicate 8 none
  statics := none }

def pool6 : Array CpInfo := pool [(1, u "java/io/Serializable"), (0, .class_ 1), (0, u "java/lang/Object"), (0, .class_ 3)] 3

/-- java/io/Serializable -/
def k6 : Class := { plain "java/io/Serializable" (some 0) with
  accessFlags := 1537
  interfaces := #[]
  cf := some (fileOf pool6 2 #[] #[] 1537 4 #[] #[])
  fields := #[]
  methods := #[]
  instanceTypes := #[]
  staticTypes := #[]
  resolved := Array.replicate 8 none
  statics := none }

/-- the primitive byte -/
def k7 : Class := { plain "byte" none with kind := .primitive 'B', accessFlags := 0x411 }
/-- [B -/
def k8 : Class := { plain "[B" (some 0) with kind := .array 7 .byte, interfaces := #[5, 6], accessFlags := 1041 }

/-- the primitive int -/
def k9 : Class := { plain "int" none with kind := .primitive 'I', accessFlags := 0x411 }
/-- [I -/
def k10 : Class := { plain "[I" (some 0) with kind := .array 9 .int, interfaces := #[5, 6], accessFlags := 1041 }

/-- the primitive long -/
def k11 : Class := { plain "long" none with kind := .primitive 'J', accessFlags := 0x411 }
/-- [J -/
def k12 : Class := { plain "[J" (some 0) with kind := .array 11 .long, interfaces := #[5, 6], accessFlags := 1041 }

def heap : Heap := #[]
def classes : Array Class := #[k0, k1, k2, k3, k4, k5, k6, k7, k8, k9, k10, k11, k12]
def interned : List (Array UInt16 × Addr) := []
def slotsUsed : Nat := 0
def theMethod : MethodId := ⟨1, 1⟩
def args0 : Array Value := #[.int 5, .long 5, .long 5, .long 5, .long 5, .long 5]
def aboutOver (below : List Frame) : State where
  vm := { classes := classes, interned := interned.toArray }
  heap := heap
  slotsUsed := slotsUsed
  threads := #[{ frames := .invoking theMethod args0 :: below }]
def below0 : List Frame := [.native { method := ⟨0, 0⟩, args := #[] }]
def about1 : State := aboutOver below0
def p0 : Program := .bare "" "" ""
def e0 : Env := launch0.env 0 0 0
theorem w_frames : about1.frames = Frame.invoking theMethod args0 :: below0 := rfl
set_option maxRecDepth 65536 in
theorem w_args : argsFit about1.vm theMethod args0 = true := by decide +kernel
set_option maxRecDepth 65536 in
theorem w_heap : heapFits about1 = true := by decide +kernel
set_option maxRecDepth 65536 in
theorem w_runnable : about1.curStatus? = some .runnable := by decide +kernel
set_option maxRecDepth 65536 in
theorem w_alone : about1.alone = true := by decide +kernel
set_option maxRecDepth 65536 in
theorem w_named : about1.methodNamed? x = some theMethod := by decide +kernel
set_option maxRecDepth 65536 in
theorem w_hears : about1.hears theMethod below0 = true := by decide +kernel
set_option maxRecDepth 65536 in
theorem w_ripe : about1.ripe theMethod args0 below0 = true := by decide +kernel
theorem w_running : about1.status = .running := rfl
set_option maxRecDepth 65536 in
theorem w_room : about1.hasRoom e0.platform room_1 = true :=
  launch0.hasRoom_least _ room_1 (by decide +kernel) (by decide +kernel) (by decide +kernel) (by decide +kernel) (by decide +kernel) (by decide +kernel)
theorem allAtoms_all (ts : List Jvm.Cond) (a : Array Jvm.Value) (st : Jvm.State) : (allAtoms ts).before a st = ts.all (fun c => c.before a st) := by
  induction ts with
  | nil => rfl
  | cons c t ih =>
    show (Jvm.Cond.and c (allAtoms t)).before a st = _
    rw [Jvm.Cond.before_and, ih, List.all_cons]
def words1 : List Jvm.Cond := Jvm.Cond.code x code maxLocals ret :: tables_1
/-- a 'code' word, met by the world's own term for the bytes: nothing is compared byte by byte -/
theorem code_word {y : MethodName} {bytes : ByteArray} {mx : Nat} {rt : Option FieldType} {a : Array Value} {s : State} {m : MethodId} {meth : Method} {c : Code} (h1 : s.methodNamed? y = some m) (h2 : s.vm.method? m = some meth) (h3 : meth.code = some c) (h4 : c.code = bytes)
    (h5 : (c.maxLocals == mx && c.exceptionTable.isEmpty && decide (c.maxStack ≤ mostOperands) && decide (meth.sig.returnType = rt) && !meth.locks && decide (parseMethodDescriptor y.desc = some meth.sig)) = true) : (Jvm.Cond.code y bytes mx rt).before a s = true := by
  simp only [Bool.and_eq_true, beq_iff_eq, Bool.not_eq_true', decide_eq_true_eq] at h5
  obtain ⟨⟨⟨⟨⟨g1, g2⟩, g3⟩, g4⟩, g5⟩, g6⟩ := h5
  simp [Cond.before, Cond.holds, Cond.value, h1, h2, h3, h4, g1, g2, g3, g4, g5, g6]
def isCode : Jvm.Cond → Bool
  | .code _ _ _ _ => true
  | _ => false
theorem all_split {L : List Jvm.Cond} {P : Jvm.Cond → Bool} (h1 : L.all (fun c => isCode c || P c) = true) (h2 : ∀ c ∈ L.filter isCode, P c = true) : L.all P = true := by
  refine List.all_eq_true.mpr fun c hc => ?_
  have h := List.all_eq_true.mp h1 c hc
  rcases Bool.eq_false_or_eq_true (isCode c) with hi | hi
  · exact h2 c (List.mem_filter.mpr ⟨hc, hi⟩)
  · simpa [hi] using h
set_option maxRecDepth 65536 in
theorem w_c0 : (Jvm.Cond.code x code maxLocals ret).before args0 about1 = true := code_word (m := ⟨1, 1⟩) (meth := k1m1) (c := k1c1) (by decide +kernel) rfl rfl rfl (by decide +kernel)
set_option maxRecDepth 65536 in
theorem w_c1 : (Jvm.Cond.code ({ cls := "java/lang/Math", name := "max", desc := "(JJ)J" } : Jvm.MethodName) jdk_29_method_66_code (4 : Nat) (Option.some Jvm.ClassFile.FieldType.long)).before args0 about1 = true := code_word (m := ⟨2, 1⟩) (meth := k2m1) (c := k2c1) (by decide +kernel) rfl rfl rfl (by decide +kernel)
set_option maxRecDepth 65536 in
theorem w_c2 : (Jvm.Cond.code ({ cls := "com/example/shardline/shardline/FrameIndex", name := "<init>", desc := "([J[J[JIJJJ)V" } : Jvm.MethodName) prog_13_method_1_code (11 : Nat) (Option.none : Option Jvm.ClassFile.FieldType)).before args0 about1 = true := code_word (m := ⟨4, 0⟩) (meth := k4m0) (c := k4c0) (by decide +kernel) rfl rfl rfl (by decide +kernel)
set_option maxRecDepth 65536 in
theorem w_c3 : (Jvm.Cond.code ({ cls := "java/lang/Record", name := "<init>", desc := "()V" } : Jvm.MethodName) jdk_30_method_1_code (1 : Nat) (Option.none : Option Jvm.ClassFile.FieldType)).before args0 about1 = true := code_word (m := ⟨3, 0⟩) (meth := k3m0) (c := k3c0) (by decide +kernel) rfl rfl rfl (by decide +kernel)
set_option maxRecDepth 65536 in
theorem w_c4 : (Jvm.Cond.code ({ cls := "java/lang/Object", name := "<init>", desc := "()V" } : Jvm.MethodName) object_method_1_code (1 : Nat) (Option.none : Option Jvm.ClassFile.FieldType)).before args0 about1 = true := code_word (m := ⟨0, 0⟩) (meth := k0m0) (c := k0c0) (by decide +kernel) rfl rfl rfl (by decide +kernel)
set_option maxRecDepth 65536 in
theorem w_c5 : (Jvm.Cond.code ({ cls := "com/example/shardline/shardline/FrameIndex", name := "firstEntryAt", desc := "(J)I" } : Jvm.MethodName) prog_13_method_12_code (6 : Nat) (Option.some Jvm.ClassFile.FieldType.int)).before args0 about1 = true := code_word (m := ⟨4, 1⟩) (meth := k4m1) (c := k4c1) (by decide +kernel) rfl rfl rfl (by decide +kernel)
def codes1 : List Jvm.Cond := [Jvm.Cond.code x code maxLocals ret, Jvm.Cond.code ({ cls := "java/lang/Math", name := "max", desc := "(JJ)J" } : Jvm.MethodName) jdk_29_method_66_code (4 : Nat) (Option.some Jvm.ClassFile.FieldType.long), Jvm.Cond.code ({ cls := "com/example/shardline/shardline/FrameIndex", name := "<init>", desc := "([J[J[JIJJJ)V" } : Jvm.MethodName) prog_13_method_1_code (11 : Nat) (Option.none : Option Jvm.ClassFile.FieldType), Jvm.Cond.code ({ cls := "java/lang/Record", name := "<init>", desc := "()V" } : Jvm.MethodName) jdk_30_method_1_code (1 : Nat) (Option.none : Option Jvm.ClassFile.FieldType), Jvm.Cond.code ({ cls := "java/lang/Object", name := "<init>", desc := "()V" } : Jvm.MethodName) object_method_1_code (1 : Nat) (Option.none : Option Jvm.ClassFile.FieldType), Jvm.Cond.code ({ cls := "com/example/shardline/shardline/FrameIndex", name := "firstEntryAt", desc := "(J)I" } : Jvm.MethodName) prog_13_method_12_code (6 : Nat) (Option.some Jvm.ClassFile.FieldType.int)]
set_option maxRecDepth 65536 in
theorem codes_eq : words1.filter isCode = codes1 := rfl
theorem w_codes : ∀ c ∈ words1.filter isCode, c.before args0 about1 = true := by
  rw [codes_eq]
  intro c hc
  simp only [codes1, List.mem_cons, List.not_mem_nil, or_false] at hc
  rcases hc with rfl | rfl | rfl | rfl | rfl | rfl
  · exact w_c0
  · exact w_c1
  · exact w_c2
  · exact w_c3
  · exact w_c4
  · exact w_c5
set_option maxRecDepth 65536 in
theorem w_t1 : (words1.take 24).all (fun c => isCode c || c.before args0 about1) = true := by decide +kernel
set_option maxRecDepth 65536 in
theorem w_t2 : (words1.drop 24).all (fun c => isCode c || c.before args0 about1) = true := by decide +kernel
theorem w_tables : (allAtoms (Jvm.Cond.code x code maxLocals ret :: tables_1)).before args0 about1 = true := by
  rw [allAtoms_all]
  show words1.all (fun c => c.before args0 about1) = true
  refine all_split ?_ w_codes
  rw [← List.take_append_drop 24 words1, List.all_append, w_t1, w_t2]
  rfl
set_option maxRecDepth 65536 in
theorem w_case : (Jvm.Cond.and given_1 narrow_1).before args0 about1 = true := by decide +kernel
theorem w_applies : (headSpec (Jvm.Cond.code x code maxLocals ret :: tables_1) room_1).applies x e0.platform about1 = true :=
  (Spec.applies_iff w_frames).mpr ⟨w_running, w_runnable, w_alone, w_named, w_hears, w_ripe, w_room, w_tables⟩
theorem atStart : AtStart classFile x code maxLocals ret World_1 tables_1 room_1 Calls_1 rest_1 Pre_1 launch0 p0 e0 about1 theMethod args0 below0 :=
  ⟨lists_1, trivial, launch0.admits_env _ _ _, launch0.least_env, fairChoices_fair.cas, fairChoices_fair.clock, w_frames, w_args, w_heap, w_applies, trivial, trivial, w_case⟩
end start1
theorem witness_1 : WitnessClaimed_1 := ⟨start1.p0, start1.e0, start1.about1, start1.theMethod, start1.args0, start1.below0, start1.atStart⟩
end Jvm.Pilot.@@N@@
