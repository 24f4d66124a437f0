import JvmDerived
import JvmDerived.Pilot.@@N@@Statement
import JvmDerived.Pilot.@@N@@Code
set_option linter.unusedVariables false
set_option linter.unusedSimpArgs false
namespace Jvm.Sh
open Jvm Jvm.ClassFile Sem Op Lib Jvm.Free Jvm.Stand Jvm.LawKit Jvm.RoadKit Bundle
/-! A shadow of what a law makes. A shadow heap H is the list of the cells made since the start: an object (its class, its fields' names, kinds and values) or an array (its component's kind, its values). A shadow reference i stands for the address n0 + i. -/
abbrev SC := (String × List (String × String × Value)) ⊕ (FieldType × List Value)
abbrev SH := List SC
def lf (n0 : Nat) : Value → Value
  | .ref i => .ref (n0 + i)
  | v => v
def lz (n0 : Nat) : Slot → Slot
  | .val v => .val (lf n0 v)
  | x => x
abbrev LL (n0 : Nat) (L : List Slot) : Array Slot := (L.map (lz n0)).toArray
theorem lf_cat (n0 : Nat) (v : Value) : (lf n0 v).category = v.category := by cases v <;> rfl
theorem lf_isRef (n0 : Nat) (v : Value) : (lf n0 v).isRef = v.isRef := by cases v <;> rfl
theorem LL_get {n0 k : Nat} {L : List Slot} {v : Value} (h : L[k]? = some (.val v)) : (LL n0 L)[k]? = some (.val (lf n0 v)) := by simp [h, lz]
/-- an object's or an array's cell, as the shadow says -/
def CellOk (Z : State) (a0 : Array Value) (n0 : Nat) (h : Heap) (a : Addr) : SC → Prop
  | .inl (C, fs) => Exa Z h a C ∧ (∃ k, (Cond.instantiable C k).before a0 Z = true) ∧ (fs.map (·.1)).Nodup ∧
      ∀ f ∈ fs, Laid Z a0 C C f.1 f.2.1 ∧ (∃ ty, parseFieldDescriptor f.2.1 = some ty) ∧ Fld Z h a C f.1 f.2.1 (lf n0 f.2.2)
  | .inr (ty, vs) => ∃ c : Cell, Arr Z h a c ty ∧ c.slots = (vs.map (lf n0)).toArray ∧ vs.length < 2 ^ 31
def Rep (Z : State) (a0 : Array Value) (n0 : Nat) (h : Heap) (H : SH) : Prop :=
  h.size = n0 + H.length ∧ ∀ i c, H[i]? = some c → CellOk Z a0 n0 h (n0 + i) c
theorem CellOk.ext {Z : State} {a0 : Array Value} {n0 : Nat} {h h' : Heap} {a : Addr} {c : SC} (E : Ext h h') (K : CellOk Z a0 n0 h a c) : CellOk Z a0 n0 h' a c := by
  rcases c with ⟨C, fs⟩ | ⟨ty, vs⟩
  · exact ⟨K.1.ext E, K.2.1, K.2.2.1, fun f hf => ⟨(K.2.2.2 f hf).1, (K.2.2.2 f hf).2.1, (K.2.2.2 f hf).2.2.ext E⟩⟩
  · obtain ⟨c, A, r⟩ := K
    exact ⟨c, A.ext E, r⟩
theorem CellOk.other {Z : State} {a0 : Array Value} {n0 : Nat} {h h' : Heap} {a b : Addr} {sl : Nat} {v : Value} {c : SC} (W : Wr h h' a sl v) (K : CellOk Z a0 n0 h b c) (hne : b ≠ a) : CellOk Z a0 n0 h' b c := by
  rcases c with ⟨C, fs⟩ | ⟨ty, vs⟩
  · exact ⟨K.1.wr W, K.2.1, K.2.2.1, fun f hf => ⟨(K.2.2.2 f hf).1, (K.2.2.2 f hf).2.1, (K.2.2.2 f hf).2.2.other W (Or.inl hne)⟩⟩
  · obtain ⟨c, A, r⟩ := K
    exact ⟨c, A.other W hne, r⟩
theorem Rep.set {Z : State} {a0 : Array Value} {n0 i : Nat} {h h' : Heap} {H : SH} {sl : Nat} {v : Value} {c : SC} (K : Rep Z a0 n0 h H) (W : Wr h h' (n0 + i) sl v) (hi : i < H.length) (hc : CellOk Z a0 n0 h' (n0 + i) c) : Rep Z a0 n0 h' (H.set i c) := by
  refine ⟨by rw [W.size, List.length_set]; exact K.1, fun j d hd => ?_⟩
  by_cases e : j = i
  · subst e
    rw [List.getElem?_set_self hi] at hd
    cases hd
    exact hc
  · rw [List.getElem?_set_ne (Ne.symm e)] at hd
    exact (K.2 j d hd).other W (fun q => e (Nat.add_left_cancel q))
theorem Rep.push {Z : State} {a0 : Array Value} {n0 : Nat} {h h' : Heap} {H : SH} {c : SC} (K : Rep Z a0 n0 h H) (E : Ext h h') (hs : h'.size = h.size + 1) (hc : CellOk Z a0 n0 h' h.size c) : Rep Z a0 n0 h' (H ++ [c]) := by
  refine ⟨by rw [hs, K.1, List.length_append]; simp; omega, fun j d hd => ?_⟩
  rcases Nat.lt_trichotomy j H.length with q | q | q
  · rw [List.getElem?_append_left q] at hd
    exact (K.2 j d hd).ext E
  · subst q
    simp at hd
    subst hd
    rw [← K.1]; exact hc
  · rw [List.getElem?_eq_none (by simp; omega)] at hd
    cases hd
abbrev Bdy := MethodName × ByteArray × Nat × Option FieldType
/-- From this place (pc, locals, stack, shadow heap; k cells and n slots made by this call so far) the method comes to its end and returns v over H' such that Q v H'. -/
def WP (l : Launch) (Z : State) (a0 : Array Value) (n0 : Nat) (B : Bdy) (R : Room) (k n pc : Nat) (L : List Slot) (S : List Value) (H : SH) (Q : Option Value → SH → Prop) : Prop :=
  ∀ (p : Program) (e : Env) (s : State) (m : MethodId) (args : Array Value) (below : List Frame) (meth : Method) (c : Code) (T : State) (locs : List Loc),
    Stand p l e R s m args below meth c T locs k n → p.tables.exec = Jvm.exec → c.code = B.2.1 → c.maxLocals = B.2.2.1 → meth.sig.returnType = B.2.2.2 → meth.locks = false → Z.Warmed39 s.vm →
    s.vm.findClass B.1.cls = some m.cls → meth.name = B.1.name → Fr n0 locs → Rep Z a0 n0 T.heap H →
    ∃ t o, Steps p.tables e below (T.setTop (mkF m pc (LL n0 L) (S.map (lf n0)))) t ∧ t.status = .running ∧ Ended t below o ∧
      ∃ v L', o = .returned (v.map (lf n0)) ∧ (∃ H', Q v H' ∧ Rep Z a0 n0 t.heap H') ∧ Fr n0 L' ∧ FrameEnd s o t L' R.cells R.slots
/-- The method, called with these (shadow) values over this shadow heap, returns v over H' such that Q v H'. -/
def Meth (l : Launch) (Z : State) (a0 : Array Value) (n0 : Nat) (B : Bdy) (R : Room) (as : List Value) (H : SH) (Q : Option Value → SH → Prop) : Prop :=
  ∀ (h0 : Heap) (ws : List Jvm.Cond), Rep Z a0 n0 h0 H →
    MetFree l B.1 (head1 (Jvm.Cond.code B.1 B.2.1 B.2.2.1 B.2.2.2 :: ws) R) (fun a U => a = (as.map (lf n0)).toArray ∧ Z.Warmed39 U.vm ∧ U.heap = h0) (fun _ _ _ _ _ => True)
      (fun _ U o U' => ∃ v L, o = .returned v ∧ (∃ v' H', v = v'.map (lf n0) ∧ Q v' H' ∧ Rep Z a0 n0 U'.heap H' ∧ Fr n0 L) ∧ FrameEnd U o U' L R.cells R.slots)
def entryL (as : List Value) (ml : Nat) : List Slot :=
  as.foldr (fun v r => if v.category = 2 then .val v :: .second :: r else .val v :: r) [] ++ List.replicate (ml - (as.foldr (fun v r => v.category + r) 0)) .unset
section
variable {l : Launch} {Z : State} {a0 : Array Value} {n0 : Nat} {B : Bdy} {R : Room} {k n pc : Nat} {L : List Slot} {S : List Value} {H : SH} {Q : Option Value → SH → Prop}
theorem cat_pos (v : Value) : v.category = 1 ∨ v.category = 2 := by cases v <;> simp [Value.category]
theorem entry_acc (n0 : Nat) (as : List Value) (acc : Array Slot) : (as.map (lf n0)).foldl (fun acc v => if v.category = 2 then (acc.push (Slot.val v)).push Slot.second else acc.push (.val v)) acc =
    acc ++ ((as.foldr (fun v r => if v.category = 2 then Slot.val v :: Slot.second :: r else .val v :: r) []).map (lz n0)).toArray := by
  induction as generalizing acc with
  | nil => simp
  | cons v as ih =>
    simp only [List.map_cons, List.foldl_cons, List.foldr_cons, lf_cat]
    rw [ih]
    by_cases q : v.category = 2
    · simp [q, lz]
    · simp [q, lz]
theorem entry_len (as : List Value) : (as.foldr (fun v r => if v.category = 2 then Slot.val v :: Slot.second :: r else .val v :: r) []).length = as.foldr (fun v r => v.category + r) 0 := by
  induction as with
  | nil => rfl
  | cons v as ih =>
    rcases cat_pos v with q | q <;> simp [q] at ih ⊢ <;> omega
theorem entry_eq (n0 : Nat) (m : MethodId) (as : List Value) (ml : Nat) : entryFrame m (as.map (lf n0)).toArray ml = mkF m 0 (LL n0 (entryL as ml)) [] := by
  have e : argsToLocals (as.map (lf n0)).toArray ml = LL n0 (entryL as ml) := by
    simp only [argsToLocals, LL, entryL, List.foldl_toArray']
    rw [entry_acc]
    apply Array.toList_inj.mp
    simp [entry_len, lz]
  simp [entryFrame, e, mkF]
theorem Meth.of {as : List Value} (hp : plainFor B.1 = true) (hL : entryL as B.2.2.1 = L) (hW : WP l Z a0 n0 B R 0 0 0 L [] H Q) : Meth l Z a0 n0 B R as H Q := by
  intro h0 ws hR
  refine MetFree.of_bodySF hp hisR ?_
  intro p e s m args below meth c s₁ Bd hml0 hP hK
  obtain ⟨rfl, hZ, hh⟩ := hP
  have e0 : s₁.heap = h0 := by rw [← hh, Bd.state]; rfl
  subst hL
  obtain ⟨t, o, h1, h2, h3, v, L', h4, ⟨H', h5, h6⟩, h7, h8⟩ := hW p e s m _ below meth c s₁ [] (Stand.of_body Bd) Bd.exec Bd.bytes hml0 Bd.returns Bd.notSynchronized hZ (findClass_of_methodNamed Bd.named) (name_of_methodNamed Bd.named Bd.method).1 (Fr.nil n0) (by rw [e0]; exact hR)
  exact ⟨t, o, castTop (entry_eq n0 m as _) h1, h2, h3, _, L', h4, ⟨v, H', rfl, h5, h6, h7⟩, h8⟩
theorem WP.mono {Q' : Option Value → SH → Prop} (hW : WP l Z a0 n0 B R k n pc L S H Q) (hq : ∀ v H', Q v H' → Q' v H') : WP l Z a0 n0 B R k n pc L S H Q' := by
  intro p e s m args below meth c T locs X hx hc hml hret hlk hZ hown hnm hF hR
  obtain ⟨t, o, h1, h2, h3, v, L', h4, ⟨H', h5, h6⟩, h7⟩ := hW p e s m args below meth c T locs X hx hc hml hret hlk hZ hown hnm hF hR
  exact ⟨t, o, h1, h2, h3, v, L', h4, ⟨H', hq _ _ h5, h6⟩, h7⟩
theorem Meth.mono {as : List Value} {Q' : Option Value → SH → Prop} (hM : Meth l Z a0 n0 B R as H Q) (hq : ∀ v H', Q v H' → Q' v H') : Meth l Z a0 n0 B R as H Q' := by
  intro h0 ws hR p e ha hc hk s m args below hf happ hP hK
  obtain ⟨n, o, h1, h2, h3, v, L, h4, ⟨v', H', h5, h6, h7⟩, h8⟩ := hM h0 ws hR p e ha hc hk s m args below hf happ hP hK
  exact ⟨n, o, h1, h2, h3, v, L, h4, ⟨v', H', h5, hq _ _ h6, h7⟩, h8⟩
/-- a step that moves nothing but the frame -/
theorem pure {pc' : Nat} {L' : List Slot} {S' : List Value} (hr : WP l Z a0 n0 B R k n pc' L' S' H Q)
    (f : ∀ {p : Program} {e : Env} {below : List Frame} {T target : State} {m : MethodId} {c : Code}, At T m c below → p.tables.exec = Jvm.exec → c.code = B.2.1 →
      Steps p.tables e below (T.setTop (mkF m pc' (LL n0 L') (S'.map (lf n0)))) target → Steps p.tables e below (T.setTop (mkF m pc (LL n0 L) (S.map (lf n0)))) target) : WP l Z a0 n0 B R k n pc L S H Q := by
  intro p e s m args below meth c T locs X hx hc hml hret hlk hZ hown hnm hF hR
  obtain ⟨t, o, h1, h2⟩ := hr p e s m args below meth c T locs X hx hc hml hret hlk hZ hown hnm hF hR
  exact ⟨t, o, f X.here hx hc h1, h2⟩
/-! ### loads, constants -/
theorem aload_n {j : Fin 4} {v : Value} (d : decode B.2.1 pc = .ok (.aload_n j, 1)) (hl : L[j.val]? = some (.val v)) (hv : v.isRef = true) (hr : WP l Z a0 n0 B R k n (pc + 1) L (v :: S) H Q) : WP l Z a0 n0 B R k n pc L S H Q :=
  pure hr fun h hx hc st => XS.aloadN h hx rfl (hb hc d) (LL_get hl) (by rw [lf_isRef]; exact hv) st
theorem aload {j : Nat} {v : Value} (d : decode B.2.1 pc = .ok (.aload j, 2)) (hl : L[j]? = some (.val v)) (hv : v.isRef = true) (hr : WP l Z a0 n0 B R k n (pc + 2) L (v :: S) H Q) : WP l Z a0 n0 B R k n pc L S H Q :=
  pure hr fun h hx hc st => XS.aload h hx rfl (hb hc d) (LL_get hl) (by rw [lf_isRef]; exact hv) st
theorem iload_n {j : Fin 4} {x : Int32} (d : decode B.2.1 pc = .ok (.iload_n j, 1)) (hl : L[j.val]? = some (.val (.int x))) (hr : WP l Z a0 n0 B R k n (pc + 1) L (.int x :: S) H Q) : WP l Z a0 n0 B R k n pc L S H Q :=
  pure hr fun h hx hc st => XS.iloadN h hx rfl (hb hc d) (LL_get (n0 := n0) hl) st
theorem iload {j : Nat} {x : Int32} (d : decode B.2.1 pc = .ok (.iload j, 2)) (hl : L[j]? = some (.val (.int x))) (hr : WP l Z a0 n0 B R k n (pc + 2) L (.int x :: S) H Q) : WP l Z a0 n0 B R k n pc L S H Q :=
  pure hr fun h hx hc st => XS.iload h hx rfl (hb hc d) (LL_get (n0 := n0) hl) st
theorem lload_n {j : Fin 4} {x : Int64} (d : decode B.2.1 pc = .ok (.lload_n j, 1)) (hl : L[j.val]? = some (.val (.long x))) (hr : WP l Z a0 n0 B R k n (pc + 1) L (.long x :: S) H Q) : WP l Z a0 n0 B R k n pc L S H Q :=
  pure hr fun h hx hc st => XT.lloadN h hx rfl (hb hc d) (LL_get (n0 := n0) hl) st
theorem lload {j : Nat} {x : Int64} (d : decode B.2.1 pc = .ok (.lload j, 2)) (hl : L[j]? = some (.val (.long x))) (hr : WP l Z a0 n0 B R k n (pc + 2) L (.long x :: S) H Q) : WP l Z a0 n0 B R k n pc L S H Q :=
  pure hr fun h hx hc st => XT.lload h hx rfl (hb hc d) (LL_get (n0 := n0) hl) st
theorem iconst {i : Int} {x : Int32} (d : decode B.2.1 pc = .ok (.iconst i, 1)) (hx' : Int32.ofInt i = x) (hr : WP l Z a0 n0 B R k n (pc + 1) L (.int x :: S) H Q) : WP l Z a0 n0 B R k n pc L S H Q :=
  pure (hx' ▸ hr) fun h hx hc st => XS.iconst h hx rfl (hb hc d) st
theorem bipush {i : Int} {x : Int32} (d : decode B.2.1 pc = .ok (.bipush i, 2)) (hx' : (Int8.ofInt i).toInt32 = x) (hr : WP l Z a0 n0 B R k n (pc + 2) L (.int x :: S) H Q) : WP l Z a0 n0 B R k n pc L S H Q :=
  pure (hx' ▸ hr) fun h hx hc st => XS.bipush h hx rfl (hb hc d) st
theorem sipush {i : Int} {x : Int32} (d : decode B.2.1 pc = .ok (.sipush i, 3)) (hx' : (Int16.ofInt i).toInt32 = x) (hr : WP l Z a0 n0 B R k n (pc + 3) L (.int x :: S) H Q) : WP l Z a0 n0 B R k n pc L S H Q :=
  pure (hx' ▸ hr) fun h hx hc st => XS.sipush h hx rfl (hb hc d) st
theorem lconst {i : Fin 2} {x : Int64} (d : decode B.2.1 pc = .ok (.lconst i, 1)) (hx' : Int64.ofNat i = x) (hr : WP l Z a0 n0 B R k n (pc + 1) L (.long x :: S) H Q) : WP l Z a0 n0 B R k n pc L S H Q :=
  pure (hx' ▸ hr) fun h hx hc st => XT.lconst h hx rfl (hb hc d) st
theorem aconst_null (d : decode B.2.1 pc = .ok (.aconst_null, 1)) (hr : WP l Z a0 n0 B R k n (pc + 1) L (.null :: S) H Q) : WP l Z a0 n0 B R k n pc L S H Q :=
  pure hr fun h hx hc st => XS.aconstNull h hx rfl (hb hc d) st
theorem ldcI {W : List Jvm.Cond} (hw : ∀ d ∈ W, d.before a0 Z = true) {i idx : Nat} {x : Int32} (w : W[i]? = some (.constant B.1.cls idx x)) (d : decode B.2.1 pc = .ok (.ldc idx, 2)) (hr : WP l Z a0 n0 B R k n (pc + 2) L (.int x :: S) H Q) : WP l Z a0 n0 B R k n pc L S H Q := by
  intro p e s m args below meth c T locs X hx hc hml hret hlk hZ hown hnm hF hR
  obtain ⟨t, o, h1, h2⟩ := hr p e s m args below meth c T locs X hx hc hml hret hlk hZ hown hnm hF hR
  have v1 := hw _ (List.mem_of_getElem? w)
  exact ⟨t, o, X.ldcInt hx hown (mv hZ v1) (g := mkF m pc (LL n0 L) (S.map (lf n0))) rfl (hb hc d) _ h1, h2⟩
theorem ldc2L {W : List Jvm.Cond} (hw : ∀ d ∈ W, d.before a0 Z = true) {i idx : Nat} {x : Int64} (w : W[i]? = some (.constantLong B.1.cls idx x)) (d : decode B.2.1 pc = .ok (.ldc2_w idx, 3)) (hr : WP l Z a0 n0 B R k n (pc + 3) L (.long x :: S) H Q) : WP l Z a0 n0 B R k n pc L S H Q := by
  intro p e s m args below meth c T locs X hx hc hml hret hlk hZ hown hnm hF hR
  obtain ⟨t, o, h1, h2⟩ := hr p e s m args below meth c T locs X hx hc hml hret hlk hZ hown hnm hF hR
  have v1 := hw _ (List.mem_of_getElem? w)
  exact ⟨t, o, X.ldc2Long hx hown (mv hZ v1) (g := mkF m pc (LL n0 L) (S.map (lf n0))) rfl (hb hc d) _ h1, h2⟩

/-! ### stores -/
def okS : Slot → Bool
  | .unset => true
  | .val w => w.category == 1
  | .second => false
def nS : Slot → Bool
  | .second => false
  | _ => true
def n2 : Slot → Bool
  | .val w => w.category == 1
  | _ => true
def stOK (L : List Slot) (k : Nat) (v : Value) (L' : List Slot) : Prop := ∀ n0, storeLocals (LL n0 L) k (lf n0 v) = some (LL n0 L')
theorem LL_at {n0 j : Nat} {o : Slot} (h : L[j]? = some o) : (LL n0 L)[j]? = some (lz n0 o) := by simp [h]
theorem LL_set {n0 j : Nat} {o : Slot} : (LL n0 L).setIfInBounds j (lz n0 o) = LL n0 (L.set j o) := by
  apply Array.toList_inj.mp; simp [List.map_set]
theorem st1 {L' : List Slot} {j : Nat} {o : Slot} {v : Value} (h : L[j]? = some o) (ho : okS o = true) (hv : v.category = 1) (e : L.set j (.val v) = L') : stOK L j v L' := by
  intro n0
  rw [XS.store1 (LL_at h) (by cases o <;> simp_all [okS, lz, lf_cat]) (by rw [lf_cat]; exact hv), ← e, ← LL_set]
  rfl
theorem LL_size {n0 : Nat} : (LL n0 L).size = L.length := by simp
theorem lt_of_at {α : Type} {l : List α} {j : Nat} {o : α} (h : l[j]? = some o) : j < l.length := (List.getElem?_eq_some_iff.mp h).1
theorem setAt_LL {n0 j : Nat} {o : Slot} (h : j < L.length) : setAt (LL n0 L) j (lz n0 o) = some (LL n0 (L.set j o)) := by
  simp only [setAt, LL_size, h, if_true, LL_set]
theorem self1 {n0 j : Nat} {v : Value} (h : j < L.length) (hv : v.category = 1) : storeSelf (LL n0 L) j (lf n0 v) = some (LL n0 (L.set j (.val v))) := by
  have e := setAt_LL (n0 := n0) (o := .val v) h
  simp only [lz] at e
  simp [storeSelf, e, lf_cat, hv]
theorem self2 {n0 j : Nat} {v : Value} {o : Slot} (h : L[j + 1]? = some o) (ho : n2 o = true) (hv : v.category = 2) : storeSelf (LL n0 L) j (lf n0 v) = some (LL n0 ((L.set j (.val v)).set (j + 1) .second)) := by
  have h1 := lt_of_at h
  have e := setAt_LL (n0 := n0) (o := .val v) (show j < L.length by omega)
  simp only [lz] at e
  have e2 := setAt_LL (n0 := n0) (L := L.set j (.val v)) (o := .second) (j := j + 1) (by simpa using h1)
  simp only [lz] at e2
  have e3 : (LL n0 (L.set j (.val v)))[j + 1]? = some (lz n0 o) := LL_at (by rw [List.getElem?_set_ne (by omega)]; exact h)
  simp only [storeSelf, e, lf_cat, hv, Option.bind_eq_bind, Option.bind_some, if_true, e3]
  cases o with
  | unset => simpa [lz] using e2
  | second => simpa [lz] using e2
  | val w =>
    have hw : w.category = 1 := by simpa [n2] using ho
    simpa [lz, lf_cat, hw] using e2
theorem st1s {L' : List Slot} {j : Nat} {v : Value} (h : L[j + 1]? = some .second) (hv : v.category = 1) (e : (L.set j .unset).set (j + 1) (.val v) = L') : stOK L (j + 1) v L' := by
  intro n0
  subst e
  have h1 := lt_of_at h
  have e1 := LL_at (n0 := n0) h
  have e2 := setAt_LL (n0 := n0) (o := .unset) (show j < L.length by omega)
  simp only [lz] at e1 e2
  have e3 := self1 (n0 := n0) (L := L.set j .unset) (j := j + 1) (by simpa using h1) hv
  simp only [storeLocals, e1, Option.bind_eq_bind, Option.bind_some, Nat.add_sub_cancel, e2, e3]
theorem st1w {L' : List Slot} {j : Nat} {w v : Value} (h : L[j]? = some (.val w)) (hw : w.category = 2) (hl : j + 1 < L.length) (hv : v.category = 1) (e : (L.set (j + 1) .unset).set j (.val v) = L') : stOK L j v L' := by
  intro n0
  subst e
  have h1 := lt_of_at h
  have e1 := LL_at (n0 := n0) h
  have e2 := setAt_LL (n0 := n0) (o := .unset) hl
  simp only [lz] at e1 e2
  have e3 := self1 (n0 := n0) (L := L.set (j + 1) .unset) (j := j) (by simpa using h1) hv
  simp only [storeLocals, e1, lf_cat, hw, if_true, Option.bind_eq_bind, Option.bind_some, e2, e3]
theorem st2 {L' : List Slot} {j : Nat} {o o2 : Slot} {v : Value} (h : L[j]? = some o) (ho : nS o = true) (h2 : L[j + 1]? = some o2) (ho2 : n2 o2 = true) (hv : v.category = 2) (e : (L.set j (.val v)).set (j + 1) .second = L') : stOK L j v L' := by
  intro n0
  subst e
  have e1 := LL_at (n0 := n0) h
  have h3 := lt_of_at h2
  cases o with
  | second => simp [nS] at ho
  | unset =>
    simp only [lz] at e1
    simp only [storeLocals, e1, Option.bind_eq_bind, Option.bind_some, self2 h2 ho2 hv]
  | val w =>
    simp only [lz] at e1
    rcases cat_pos w with q | q
    · simp [storeLocals, e1, lf_cat, q, self2 h2 ho2 hv]
    · have e2 := setAt_LL (n0 := n0) (o := .unset) h3
      simp only [lz] at e2
      have e3 := self2 (n0 := n0) (L := L.set (j + 1) .unset) (j := j) (o := .unset) (v := v) (by rw [List.getElem?_set_self h3]) rfl hv
      have e4 : ((L.set (j + 1) .unset).set j (.val v)).set (j + 1) .second = (L.set j (.val v)).set (j + 1) .second := by
        rw [List.set_comm _ _ (show j + 1 ≠ j by omega), List.set_set]
      rw [e4] at e3
      simp only [storeLocals, e1, lf_cat, q, if_true, Option.bind_eq_bind, Option.bind_some, e2, e3]
theorem istore_n {j : Fin 4} {x : Int32} {L' : List Slot} (d : decode B.2.1 pc = .ok (.istore_n j, 1)) (hs : stOK L j.val (.int x) L') (hr : WP l Z a0 n0 B R k n (pc + 1) L' S H Q) : WP l Z a0 n0 B R k n pc L (.int x :: S) H Q :=
  pure hr fun h hx hc st => XS.istoreN h hx rfl (hb hc d) rfl (hs n0) st
theorem istore {j : Nat} {x : Int32} {L' : List Slot} (d : decode B.2.1 pc = .ok (.istore j, 2)) (hs : stOK L j (.int x) L') (hr : WP l Z a0 n0 B R k n (pc + 2) L' S H Q) : WP l Z a0 n0 B R k n pc L (.int x :: S) H Q :=
  pure hr fun h hx hc st => XS.istore h hx rfl (hb hc d) rfl (hs n0) st
theorem lstore_n {j : Fin 4} {x : Int64} {L' : List Slot} (d : decode B.2.1 pc = .ok (.lstore_n j, 1)) (hs : stOK L j.val (.long x) L') (hr : WP l Z a0 n0 B R k n (pc + 1) L' S H Q) : WP l Z a0 n0 B R k n pc L (.long x :: S) H Q :=
  pure hr fun h hx hc st => XT.lstoreN h hx rfl (hb hc d) rfl (hs n0) st
theorem lstore {j : Nat} {x : Int64} {L' : List Slot} (d : decode B.2.1 pc = .ok (.lstore j, 2)) (hs : stOK L j (.long x) L') (hr : WP l Z a0 n0 B R k n (pc + 2) L' S H Q) : WP l Z a0 n0 B R k n pc L (.long x :: S) H Q :=
  pure hr fun h hx hc st => XT.lstore h hx rfl (hb hc d) rfl (hs n0) st
theorem astore_n {j : Fin 4} {v : Value} {L' : List Slot} (d : decode B.2.1 pc = .ok (.astore_n j, 1)) (hv : v.isRef = true) (hs : stOK L j.val v L') (hr : WP l Z a0 n0 B R k n (pc + 1) L' S H Q) : WP l Z a0 n0 B R k n pc L (v :: S) H Q :=
  pure hr fun h hx hc st => XS.astoreN h hx rfl (hb hc d) rfl (by rw [lf_isRef]; exact hv) (hs n0) st
theorem astore {j : Nat} {v : Value} {L' : List Slot} (d : decode B.2.1 pc = .ok (.astore j, 2)) (hv : v.isRef = true) (hs : stOK L j v L') (hr : WP l Z a0 n0 B R k n (pc + 2) L' S H Q) : WP l Z a0 n0 B R k n pc L (v :: S) H Q :=
  pure hr fun h hx hc st => XS.astore h hx rfl (hb hc d) rfl (by rw [lf_isRef]; exact hv) (hs n0) st
theorem iinc {j : Nat} {cst : Int} {x ci y : Int32} {L' : List Slot} (d : decode B.2.1 pc = .ok (.iinc j cst, 3)) (hl : L[j]? = some (.val (.int x))) (hci : Int32.ofInt cst = ci) (hy : x + ci = y) (hs : stOK L j (.int y) L') (hr : WP l Z a0 n0 B R k n (pc + 3) L' S H Q) : WP l Z a0 n0 B R k n pc L S H Q :=
  pure hr fun h hx hc st => XS.iinc h hx rfl (hb hc d) (LL_get (n0 := n0) hl) (by rw [hci, hy]; exact hs n0) st
/-! ### the stack, arithmetic -/
theorem dup {v : Value} (d : decode B.2.1 pc = .ok (.dup, 1)) (hv : v.category = 1) (hr : WP l Z a0 n0 B R k n (pc + 1) L (v :: v :: S) H Q) : WP l Z a0 n0 B R k n pc L (v :: S) H Q :=
  pure hr fun h hx hc st => XS.dup h hx rfl (hb hc d) rfl (by rw [lf_cat]; exact hv) st
theorem pop {v : Value} (d : decode B.2.1 pc = .ok (.pop, 1)) (hv : v.category = 1) (hr : WP l Z a0 n0 B R k n (pc + 1) L S H Q) : WP l Z a0 n0 B R k n pc L (v :: S) H Q :=
  pure hr fun h hx hc st => XT.pop h hx rfl (hb hc d) rfl (by rw [lf_cat]; exact hv) st
theorem dup_x1 {v w : Value} (d : decode B.2.1 pc = .ok (.dup_x1, 1)) (hv : v.category = 1) (hv' : w.category = 1) (hr : WP l Z a0 n0 B R k n (pc + 1) L (v :: w :: v :: S) H Q) : WP l Z a0 n0 B R k n pc L (v :: w :: S) H Q :=
  pure hr fun h hx hc st => XT.dupX1 h hx rfl (hb hc d) rfl (by rw [lf_cat]; exact hv) (by rw [lf_cat]; exact hv') st
theorem dup2 {v w : Value} (d : decode B.2.1 pc = .ok (.dup2, 1)) (hv : v.category = 1) (hv' : w.category = 1) (hr : WP l Z a0 n0 B R k n (pc + 1) L (v :: w :: v :: w :: S) H Q) : WP l Z a0 n0 B R k n pc L (v :: w :: S) H Q :=
  pure hr fun h hx hc st => XT.dup2 h hx rfl (hb hc d) rfl (by rw [lf_cat]; exact hv) (by rw [lf_cat]; exact hv') st
theorem dup2L {x : Int64} (d : decode B.2.1 pc = .ok (.dup2, 1)) (hr : WP l Z a0 n0 B R k n (pc + 1) L (.long x :: .long x :: S) H Q) : WP l Z a0 n0 B R k n pc L (.long x :: S) H Q :=
  pure hr fun h hx hc st => XT.dup2L h hx rfl (hb hc d) rfl st
theorem iadd {x : Int32} {y : Int32} (d : decode B.2.1 pc = .ok (.iadd, 1)) (hr : WP l Z a0 n0 B R k n (pc + 1) L (.int (x + y) :: S) H Q) : WP l Z a0 n0 B R k n pc L (.int y :: .int x :: S) H Q :=
  pure hr fun h hx hc st => XS.iadd h hx rfl (hb hc d) rfl st
theorem isub {x : Int32} {y : Int32} (d : decode B.2.1 pc = .ok (.isub, 1)) (hr : WP l Z a0 n0 B R k n (pc + 1) L (.int (x - y) :: S) H Q) : WP l Z a0 n0 B R k n pc L (.int y :: .int x :: S) H Q :=
  pure hr fun h hx hc st => XS.isub h hx rfl (hb hc d) rfl st
theorem iand {x : Int32} {y : Int32} (d : decode B.2.1 pc = .ok (.iand, 1)) (hr : WP l Z a0 n0 B R k n (pc + 1) L (.int (x &&& y) :: S) H Q) : WP l Z a0 n0 B R k n pc L (.int y :: .int x :: S) H Q :=
  pure hr fun h hx hc st => XS.iand h hx rfl (hb hc d) rfl st
theorem imul {x : Int32} {y : Int32} (d : decode B.2.1 pc = .ok (.imul, 1)) (hr : WP l Z a0 n0 B R k n (pc + 1) L (.int (x * y) :: S) H Q) : WP l Z a0 n0 B R k n pc L (.int y :: .int x :: S) H Q :=
  pure hr fun h hx hc st => XS.imul h hx rfl (hb hc d) rfl st
theorem ixor {x : Int32} {y : Int32} (d : decode B.2.1 pc = .ok (.ixor, 1)) (hr : WP l Z a0 n0 B R k n (pc + 1) L (.int (x ^^^ y) :: S) H Q) : WP l Z a0 n0 B R k n pc L (.int y :: .int x :: S) H Q :=
  pure hr fun h hx hc st => XT.ixor h hx rfl (hb hc d) rfl st
theorem ior {x : Int32} {y : Int32} (d : decode B.2.1 pc = .ok (.ior, 1)) (hr : WP l Z a0 n0 B R k n (pc + 1) L (.int (x ||| y) :: S) H Q) : WP l Z a0 n0 B R k n pc L (.int y :: .int x :: S) H Q :=
  pure hr fun h hx hc st => XT.ior h hx rfl (hb hc d) rfl st
theorem ishl {x : Int32} {y : Int32} (d : decode B.2.1 pc = .ok (.ishl, 1)) (hr : WP l Z a0 n0 B R k n (pc + 1) L (.int (x <<< (y &&& 31)) :: S) H Q) : WP l Z a0 n0 B R k n pc L (.int y :: .int x :: S) H Q :=
  pure hr fun h hx hc st => XT.ishl h hx rfl (hb hc d) rfl st
theorem ishr {x : Int32} {y : Int32} (d : decode B.2.1 pc = .ok (.ishr, 1)) (hr : WP l Z a0 n0 B R k n (pc + 1) L (.int (x >>> (y &&& 31)) :: S) H Q) : WP l Z a0 n0 B R k n pc L (.int y :: .int x :: S) H Q :=
  pure hr fun h hx hc st => XT.ishr h hx rfl (hb hc d) rfl st
theorem iushr {x : Int32} {y : Int32} (d : decode B.2.1 pc = .ok (.iushr, 1)) (hr : WP l Z a0 n0 B R k n (pc + 1) L (.int (XT.ushr x y) :: S) H Q) : WP l Z a0 n0 B R k n pc L (.int y :: .int x :: S) H Q :=
  pure hr fun h hx hc st => XT.iushr h hx rfl (hb hc d) rfl st
theorem ladd {x : Int64} {y : Int64} (d : decode B.2.1 pc = .ok (.ladd, 1)) (hr : WP l Z a0 n0 B R k n (pc + 1) L (.long (x + y) :: S) H Q) : WP l Z a0 n0 B R k n pc L (.long y :: .long x :: S) H Q :=
  pure hr fun h hx hc st => XT.ladd h hx rfl (hb hc d) rfl st
theorem lsub {x : Int64} {y : Int64} (d : decode B.2.1 pc = .ok (.lsub, 1)) (hr : WP l Z a0 n0 B R k n (pc + 1) L (.long (x - y) :: S) H Q) : WP l Z a0 n0 B R k n pc L (.long y :: .long x :: S) H Q :=
  pure hr fun h hx hc st => XT.lsub h hx rfl (hb hc d) rfl st
theorem lmul {x : Int64} {y : Int64} (d : decode B.2.1 pc = .ok (.lmul, 1)) (hr : WP l Z a0 n0 B R k n (pc + 1) L (.long (x * y) :: S) H Q) : WP l Z a0 n0 B R k n pc L (.long y :: .long x :: S) H Q :=
  pure hr fun h hx hc st => XT.lmul h hx rfl (hb hc d) rfl st
theorem land {x : Int64} {y : Int64} (d : decode B.2.1 pc = .ok (.land, 1)) (hr : WP l Z a0 n0 B R k n (pc + 1) L (.long (x &&& y) :: S) H Q) : WP l Z a0 n0 B R k n pc L (.long y :: .long x :: S) H Q :=
  pure hr fun h hx hc st => XT.land h hx rfl (hb hc d) rfl st
theorem lor {x : Int64} {y : Int64} (d : decode B.2.1 pc = .ok (.lor, 1)) (hr : WP l Z a0 n0 B R k n (pc + 1) L (.long (x ||| y) :: S) H Q) : WP l Z a0 n0 B R k n pc L (.long y :: .long x :: S) H Q :=
  pure hr fun h hx hc st => XT.lor h hx rfl (hb hc d) rfl st
theorem lxor {x : Int64} {y : Int64} (d : decode B.2.1 pc = .ok (.lxor, 1)) (hr : WP l Z a0 n0 B R k n (pc + 1) L (.long (x ^^^ y) :: S) H Q) : WP l Z a0 n0 B R k n pc L (.long y :: .long x :: S) H Q :=
  pure hr fun h hx hc st => XT.lxor h hx rfl (hb hc d) rfl st
theorem lshl {x : Int64} {y : Int32} (d : decode B.2.1 pc = .ok (.lshl, 1)) (hr : WP l Z a0 n0 B R k n (pc + 1) L (.long (x <<< (y.toInt64 &&& 63)) :: S) H Q) : WP l Z a0 n0 B R k n pc L (.int y :: .long x :: S) H Q :=
  pure hr fun h hx hc st => XT.lshl h hx rfl (hb hc d) rfl st
theorem lshr {x : Int64} {y : Int32} (d : decode B.2.1 pc = .ok (.lshr, 1)) (hr : WP l Z a0 n0 B R k n (pc + 1) L (.long (x >>> (y.toInt64 &&& 63)) :: S) H Q) : WP l Z a0 n0 B R k n pc L (.int y :: .long x :: S) H Q :=
  pure hr fun h hx hc st => XT.lshr h hx rfl (hb hc d) rfl st
theorem lushr {x : Int64} {y : Int32} (d : decode B.2.1 pc = .ok (.lushr, 1)) (hr : WP l Z a0 n0 B R k n (pc + 1) L (.long (XT.ushrL x y) :: S) H Q) : WP l Z a0 n0 B R k n pc L (.int y :: .long x :: S) H Q :=
  pure hr fun h hx hc st => XT.lushr h hx rfl (hb hc d) rfl st
theorem ineg {x : Int32} (d : decode B.2.1 pc = .ok (.ineg, 1)) (hr : WP l Z a0 n0 B R k n (pc + 1) L (.int (-x) :: S) H Q) : WP l Z a0 n0 B R k n pc L (.int x :: S) H Q :=
  pure hr fun h hx hc st => XS.ineg h hx rfl (hb hc d) rfl st
theorem lneg {x : Int64} (d : decode B.2.1 pc = .ok (.lneg, 1)) (hr : WP l Z a0 n0 B R k n (pc + 1) L (.long (-x) :: S) H Q) : WP l Z a0 n0 B R k n pc L (.long x :: S) H Q :=
  pure hr fun h hx hc st => XT.lneg h hx rfl (hb hc d) rfl st
theorem i2l {x : Int32} (d : decode B.2.1 pc = .ok (.i2l, 1)) (hr : WP l Z a0 n0 B R k n (pc + 1) L (.long (x.toInt64) :: S) H Q) : WP l Z a0 n0 B R k n pc L (.int x :: S) H Q :=
  pure hr fun h hx hc st => XT.i2l h hx rfl (hb hc d) rfl st
theorem l2i {x : Int64} (d : decode B.2.1 pc = .ok (.l2i, 1)) (hr : WP l Z a0 n0 B R k n (pc + 1) L (.int (x.toInt32) :: S) H Q) : WP l Z a0 n0 B R k n pc L (.long x :: S) H Q :=
  pure hr fun h hx hc st => XT.l2i h hx rfl (hb hc d) rfl st
theorem i2b {x : Int32} (d : decode B.2.1 pc = .ok (.i2b, 1)) (hr : WP l Z a0 n0 B R k n (pc + 1) L (.int (x.toInt8.toInt32) :: S) H Q) : WP l Z a0 n0 B R k n pc L (.int x :: S) H Q :=
  pure hr fun h hx hc st => XT.i2b h hx rfl (hb hc d) rfl st
theorem i2s {x : Int32} (d : decode B.2.1 pc = .ok (.i2s, 1)) (hr : WP l Z a0 n0 B R k n (pc + 1) L (.int (x.toInt16.toInt32) :: S) H Q) : WP l Z a0 n0 B R k n pc L (.int x :: S) H Q :=
  pure hr fun h hx hc st => XT.i2s h hx rfl (hb hc d) rfl st
theorem i2c {x : Int32} (d : decode B.2.1 pc = .ok (.i2c, 1)) (hr : WP l Z a0 n0 B R k n (pc + 1) L (.int (x.toUInt32.toUInt16.toUInt32.toInt32) :: S) H Q) : WP l Z a0 n0 B R k n pc L (.int x :: S) H Q :=
  pure hr fun h hx hc st => XT.i2c h hx rfl (hb hc d) rfl st
theorem iaddE {x y z : Int32} (d : decode B.2.1 pc = .ok (.iadd, 1)) (hz : x + y = z) (hr : WP l Z a0 n0 B R k n (pc + 1) L (.int z :: S) H Q) : WP l Z a0 n0 B R k n pc L (.int y :: .int x :: S) H Q := iadd d (hz ▸ hr)
theorem isubE {x y z : Int32} (d : decode B.2.1 pc = .ok (.isub, 1)) (hz : x - y = z) (hr : WP l Z a0 n0 B R k n (pc + 1) L (.int z :: S) H Q) : WP l Z a0 n0 B R k n pc L (.int y :: .int x :: S) H Q := isub d (hz ▸ hr)
theorem imulE {x y z : Int32} (d : decode B.2.1 pc = .ok (.imul, 1)) (hz : x * y = z) (hr : WP l Z a0 n0 B R k n (pc + 1) L (.int z :: S) H Q) : WP l Z a0 n0 B R k n pc L (.int y :: .int x :: S) H Q := imul d (hz ▸ hr)
theorem idiv {x y : Int32} (d : decode B.2.1 pc = .ok (.idiv, 1)) (hy : y ≠ 0) (hr : WP l Z a0 n0 B R k n (pc + 1) L (.int (x / y) :: S) H Q) : WP l Z a0 n0 B R k n pc L (.int y :: .int x :: S) H Q :=
  pure hr fun h hx hc st => XS.idiv h hx rfl (hb hc d) rfl hy st
theorem irem {x y : Int32} (d : decode B.2.1 pc = .ok (.irem, 1)) (hy : y ≠ 0) (hr : WP l Z a0 n0 B R k n (pc + 1) L (.int (x % y) :: S) H Q) : WP l Z a0 n0 B R k n pc L (.int y :: .int x :: S) H Q :=
  pure hr fun h hx hc st => XS.irem h hx rfl (hb hc d) rfl hy (by rw [irem_eq_mod]; exact st)
theorem iushrE {x y z : Int32} (d : decode B.2.1 pc = .ok (.iushr, 1)) (hz : XT.ushr x y = z) (hr : WP l Z a0 n0 B R k n (pc + 1) L (.int z :: S) H Q) : WP l Z a0 n0 B R k n pc L (.int y :: .int x :: S) H Q := iushr d (hz ▸ hr)
theorem iandE {x y z : Int32} (d : decode B.2.1 pc = .ok (.iand, 1)) (hz : x &&& y = z) (hr : WP l Z a0 n0 B R k n (pc + 1) L (.int z :: S) H Q) : WP l Z a0 n0 B R k n pc L (.int y :: .int x :: S) H Q := iand d (hz ▸ hr)
theorem idivE {x y z : Int32} (d : decode B.2.1 pc = .ok (.idiv, 1)) (hy : y ≠ 0) (hz : x / y = z) (hr : WP l Z a0 n0 B R k n (pc + 1) L (.int z :: S) H Q) : WP l Z a0 n0 B R k n pc L (.int y :: .int x :: S) H Q := idiv d hy (hz ▸ hr)
theorem iremE {x y z : Int32} (d : decode B.2.1 pc = .ok (.irem, 1)) (hy : y ≠ 0) (hz : x % y = z) (hr : WP l Z a0 n0 B R k n (pc + 1) L (.int z :: S) H Q) : WP l Z a0 n0 B R k n pc L (.int y :: .int x :: S) H Q := irem d hy (hz ▸ hr)
/-! ### branches -/
theorem goto {o : Int} {pc' : Nat} (d : decode B.2.1 pc = .ok (.goto o, 3)) (hp : ((pc : Int) + o).toNat = pc') (ho : 0 ≤ (pc : Int) + o) (hr : WP l Z a0 n0 B R k n pc' L S H Q) : WP l Z a0 n0 B R k n pc L S H Q :=
  pure hr fun h hx hc st => XS.goto h hx rfl (pc0 := pc) rfl (hb hc d) ho hp st
def cP : ClassFile.Cond → Int32 → Int32 → Prop
  | .eq, x, y => x = y
  | .ne, x, y => ¬ x = y
  | .lt, x, y => x < y
  | .ge, x, y => ¬ x < y
  | .gt, x, y => y < x
  | .le, x, y => ¬ y < x
def cPL : ClassFile.Cond → Int64 → Int64 → Prop
  | .eq, x, y => x = y
  | .ne, x, y => ¬ x = y
  | .lt, x, y => x < y
  | .ge, x, y => ¬ x < y
  | .gt, x, y => y < x
  | .le, x, y => ¬ y < x
instance (cd : ClassFile.Cond) (x y : Int32) : Decidable (cP cd x y) := by cases cd <;> simp only [cP] <;> infer_instance
instance (cd : ClassFile.Cond) (x y : Int64) : Decidable (cPL cd x y) := by cases cd <;> simp only [cPL] <;> infer_instance
theorem cP_iff (cd : ClassFile.Cond) (x y : Int32) : if_icmp.holds cd x y = true ↔ cP cd x y := by
  cases cd
  · by_cases h : x = y
    · exact ⟨fun _ => h, fun _ => (teq h).1⟩
    · simp [(feq h).1, cP, h]
  · by_cases h : x = y
    · exact ⟨fun q => (by rw [(teq h).2] at q; cases q), fun q => absurd h q⟩
    · simp [(feq h).2, cP, h]
  · by_cases h : x < y
    · simp [(tlt h).1, cP, h]
    · simp [(flt h).1, cP, h]
  · by_cases h : x < y
    · simp [(tlt h).2.1, cP, h]
    · simp [(flt h).2.1, cP, h]
  · by_cases h : y < x
    · simp [(tlt h).2.2.1, cP, h]
    · simp [(flt h).2.2.1, cP, h]
  · by_cases h : y < x
    · simp [(tlt h).2.2.2, cP, h]
    · simp [(flt h).2.2.2, cP, h]
theorem cPL_iff (cd : ClassFile.Cond) (x y : Int64) : ifCond.holds cd (XT.cmpL x y) = true ↔ cPL cd x y := by
  rw [if0, cP_iff]
  by_cases h : y < x
  · have h1 : ¬ x < y := Int64.not_lt.mpr (Int64.le_of_lt h)
    have h2 : ¬ x = y := fun e => by subst e; exact absurd h Int64.lt_irrefl
    cases cd <;> simp [cP, cPL, XT.cmpL, h, h1, h2]
  · by_cases h2 : x = y
    · subst h2
      cases cd <;> simp [cP, cPL, XT.cmpL, Int64.lt_irrefl]
    · have h1 : x < y := Int64.lt_of_le_of_ne (Int64.not_lt.mp h) h2
      cases cd <;> simp [cP, cPL, XT.cmpL, h, h1, h2]
theorem icmpT {cd : ClassFile.Cond} {x y : Int32} {o : Int} {pc' : Nat} (d : decode B.2.1 pc = .ok (.if_icmp cd o, 3)) (hp : ((pc : Int) + o).toNat = pc') (ho : 0 ≤ (pc : Int) + o) (hc : cP cd x y) (hr : WP l Z a0 n0 B R k n pc' L S H Q) : WP l Z a0 n0 B R k n pc L (.int y :: .int x :: S) H Q :=
  pure hr fun h hx hc' st => XS.icmpYes h hx rfl (pc0 := pc) rfl (hb hc' d) rfl ((cP_iff _ _ _).mpr hc) ho hp st
theorem icmpF {cd : ClassFile.Cond} {x y : Int32} {o : Int} (d : decode B.2.1 pc = .ok (.if_icmp cd o, 3)) (hc : ¬ cP cd x y) (hr : WP l Z a0 n0 B R k n (pc + 3) L S H Q) : WP l Z a0 n0 B R k n pc L (.int y :: .int x :: S) H Q :=
  pure hr fun h hx hc' st => XS.icmpNo h hx rfl (hb hc' d) rfl (Bool.eq_false_iff.mpr fun q => hc ((cP_iff _ _ _).mp q)) st
theorem ifT {cd : ClassFile.Cond} {x : Int32} {o : Int} {pc' : Nat} (d : decode B.2.1 pc = .ok (.ifCond cd o, 3)) (hp : ((pc : Int) + o).toNat = pc') (ho : 0 ≤ (pc : Int) + o) (hc : cP cd x 0) (hr : WP l Z a0 n0 B R k n pc' L S H Q) : WP l Z a0 n0 B R k n pc L (.int x :: S) H Q :=
  pure hr fun h hx hc' st => XS.ifYes h hx rfl (pc0 := pc) rfl (hb hc' d) rfl ((if0 _ _).trans ((cP_iff _ _ _).mpr hc)) ho hp st
theorem ifF {cd : ClassFile.Cond} {x : Int32} {o : Int} (d : decode B.2.1 pc = .ok (.ifCond cd o, 3)) (hc : ¬ cP cd x 0) (hr : WP l Z a0 n0 B R k n (pc + 3) L S H Q) : WP l Z a0 n0 B R k n pc L (.int x :: S) H Q :=
  pure hr fun h hx hc' st => XS.ifNo h hx rfl (hb hc' d) rfl ((if0 _ _).trans (Bool.eq_false_iff.mpr fun q => hc ((cP_iff _ _ _).mp q))) st
theorem lcmp {x y : Int64} (d : decode B.2.1 pc = .ok (.lcmp, 1)) (hr : WP l Z a0 n0 B R k n (pc + 1) L (.int (XT.cmpL x y) :: S) H Q) : WP l Z a0 n0 B R k n pc L (.long y :: .long x :: S) H Q :=
  pure hr fun h hx hc st => XT.lcmp h hx rfl (hb hc d) rfl st
theorem lcmpT {cd : ClassFile.Cond} {x y : Int64} {o : Int} {pc' : Nat} (d1 : decode B.2.1 pc = .ok (.lcmp, 1)) (d : decode B.2.1 (pc + 1) = .ok (.ifCond cd o, 3)) (hp : (((pc + 1 : Nat) : Int) + o).toNat = pc') (ho : 0 ≤ ((pc + 1 : Nat) : Int) + o) (hc : cPL cd x y) (hr : WP l Z a0 n0 B R k n pc' L S H Q) : WP l Z a0 n0 B R k n pc L (.long y :: .long x :: S) H Q :=
  lcmp d1 (pure hr fun h hx hc' st => XS.ifYes h hx rfl (pc0 := pc + 1) rfl (hb hc' d) rfl ((cPL_iff _ _ _).mpr hc) ho hp st)
theorem lcmpF {cd : ClassFile.Cond} {x y : Int64} {o : Int} (d1 : decode B.2.1 pc = .ok (.lcmp, 1)) (d : decode B.2.1 (pc + 1) = .ok (.ifCond cd o, 3)) (hc : ¬ cPL cd x y) (hr : WP l Z a0 n0 B R k n (pc + 4) L S H Q) : WP l Z a0 n0 B R k n pc L (.long y :: .long x :: S) H Q :=
  lcmp d1 (pure hr fun h hx hc' st => XS.ifNo h hx rfl (hb hc' d) rfl (Bool.eq_false_iff.mpr fun q => hc ((cPL_iff _ _ _).mp q)) st)
theorem ifnullF {o : Int} {i : Nat} (d : decode B.2.1 pc = .ok (.ifnull o, 3)) (hr : WP l Z a0 n0 B R k n (pc + 3) L S H Q) : WP l Z a0 n0 B R k n pc L (.ref i :: S) H Q :=
  pure hr fun h hx hc st => XS.ifnullNo h hx rfl (hb hc d) rfl st
theorem ifnonnullT {o : Int} {i pc' : Nat} (d : decode B.2.1 pc = .ok (.ifnonnull o, 3)) (hp : ((pc : Int) + o).toNat = pc') (ho : 0 ≤ (pc : Int) + o) (hr : WP l Z a0 n0 B R k n pc' L S H Q) : WP l Z a0 n0 B R k n pc L (.ref i :: S) H Q :=
  pure hr fun h hx hc st => XT.ifnonnullYes h hx rfl (pc0 := pc) rfl (hb hc d) rfl ho hp st
theorem acmpneT {o : Int} {i j pc' : Nat} (d : decode B.2.1 pc = .ok (.if_acmp .ne o, 3)) (hp : ((pc : Int) + o).toNat = pc') (ho : 0 ≤ (pc : Int) + o) (hij : ¬ i = j) (hr : WP l Z a0 n0 B R k n pc' L S H Q) : WP l Z a0 n0 B R k n pc L (.ref j :: .ref i :: S) H Q :=
  pure hr fun h hx hc st => XT.acmpYes h hx rfl (pc0 := pc) rfl (hb hc d) rfl rfl rfl (by simp [XT.acmp, lf, hij]) ho hp st
theorem icmp_eq {x y : Int32} {o : Int} {pc' : Nat} (d : decode B.2.1 pc = .ok (.if_icmp .eq o, 3)) (hp : ((pc : Int) + o).toNat = pc') (ho : 0 ≤ (pc : Int) + o) (h1 : x = y → WP l Z a0 n0 B R k n pc' L S H Q) (h2 : ¬ x = y → WP l Z a0 n0 B R k n (pc + 3) L S H Q) : WP l Z a0 n0 B R k n pc L (.int y :: .int x :: S) H Q :=
  if q : cP .eq x y then icmpT d hp ho q (h1 q) else icmpF d q (h2 q)
theorem if_eq {x : Int32} {o : Int} {pc' : Nat} (d : decode B.2.1 pc = .ok (.ifCond .eq o, 3)) (hp : ((pc : Int) + o).toNat = pc') (ho : 0 ≤ (pc : Int) + o) (h1 : x = 0 → WP l Z a0 n0 B R k n pc' L S H Q) (h2 : ¬ x = 0 → WP l Z a0 n0 B R k n (pc + 3) L S H Q) : WP l Z a0 n0 B R k n pc L (.int x :: S) H Q :=
  if q : cP .eq x 0 then ifT d hp ho q (h1 q) else ifF d q (h2 q)
theorem lcmp_eq {x y : Int64} {o : Int} {pc' : Nat} (d1 : decode B.2.1 pc = .ok (.lcmp, 1)) (d : decode B.2.1 (pc + 1) = .ok (.ifCond .eq o, 3)) (hp : (((pc + 1 : Nat) : Int) + o).toNat = pc') (ho : 0 ≤ ((pc + 1 : Nat) : Int) + o) (h1 : x = y → WP l Z a0 n0 B R k n pc' L S H Q) (h2 : ¬ x = y → WP l Z a0 n0 B R k n (pc + 4) L S H Q) : WP l Z a0 n0 B R k n pc L (.long y :: .long x :: S) H Q :=
  if q : cPL .eq x y then lcmpT d1 d hp ho q (h1 q) else lcmpF d1 d q (h2 q)
theorem icmp_ne {x y : Int32} {o : Int} {pc' : Nat} (d : decode B.2.1 pc = .ok (.if_icmp .ne o, 3)) (hp : ((pc : Int) + o).toNat = pc') (ho : 0 ≤ (pc : Int) + o) (h1 : ¬ x = y → WP l Z a0 n0 B R k n pc' L S H Q) (h2 : x = y → WP l Z a0 n0 B R k n (pc + 3) L S H Q) : WP l Z a0 n0 B R k n pc L (.int y :: .int x :: S) H Q :=
  if q : cP .ne x y then icmpT d hp ho q (h1 q) else icmpF d q (h2 (Decidable.not_not.mp q))
theorem if_ne {x : Int32} {o : Int} {pc' : Nat} (d : decode B.2.1 pc = .ok (.ifCond .ne o, 3)) (hp : ((pc : Int) + o).toNat = pc') (ho : 0 ≤ (pc : Int) + o) (h1 : ¬ x = 0 → WP l Z a0 n0 B R k n pc' L S H Q) (h2 : x = 0 → WP l Z a0 n0 B R k n (pc + 3) L S H Q) : WP l Z a0 n0 B R k n pc L (.int x :: S) H Q :=
  if q : cP .ne x 0 then ifT d hp ho q (h1 q) else ifF d q (h2 (Decidable.not_not.mp q))
theorem lcmp_ne {x y : Int64} {o : Int} {pc' : Nat} (d1 : decode B.2.1 pc = .ok (.lcmp, 1)) (d : decode B.2.1 (pc + 1) = .ok (.ifCond .ne o, 3)) (hp : (((pc + 1 : Nat) : Int) + o).toNat = pc') (ho : 0 ≤ ((pc + 1 : Nat) : Int) + o) (h1 : ¬ x = y → WP l Z a0 n0 B R k n pc' L S H Q) (h2 : x = y → WP l Z a0 n0 B R k n (pc + 4) L S H Q) : WP l Z a0 n0 B R k n pc L (.long y :: .long x :: S) H Q :=
  if q : cPL .ne x y then lcmpT d1 d hp ho q (h1 q) else lcmpF d1 d q (h2 (Decidable.not_not.mp q))
theorem icmp_lt {x y : Int32} {o : Int} {pc' : Nat} (d : decode B.2.1 pc = .ok (.if_icmp .lt o, 3)) (hp : ((pc : Int) + o).toNat = pc') (ho : 0 ≤ (pc : Int) + o) (h1 : x < y → WP l Z a0 n0 B R k n pc' L S H Q) (h2 : ¬ x < y → WP l Z a0 n0 B R k n (pc + 3) L S H Q) : WP l Z a0 n0 B R k n pc L (.int y :: .int x :: S) H Q :=
  if q : cP .lt x y then icmpT d hp ho q (h1 q) else icmpF d q (h2 q)
theorem if_lt {x : Int32} {o : Int} {pc' : Nat} (d : decode B.2.1 pc = .ok (.ifCond .lt o, 3)) (hp : ((pc : Int) + o).toNat = pc') (ho : 0 ≤ (pc : Int) + o) (h1 : x < 0 → WP l Z a0 n0 B R k n pc' L S H Q) (h2 : ¬ x < 0 → WP l Z a0 n0 B R k n (pc + 3) L S H Q) : WP l Z a0 n0 B R k n pc L (.int x :: S) H Q :=
  if q : cP .lt x 0 then ifT d hp ho q (h1 q) else ifF d q (h2 q)
theorem lcmp_lt {x y : Int64} {o : Int} {pc' : Nat} (d1 : decode B.2.1 pc = .ok (.lcmp, 1)) (d : decode B.2.1 (pc + 1) = .ok (.ifCond .lt o, 3)) (hp : (((pc + 1 : Nat) : Int) + o).toNat = pc') (ho : 0 ≤ ((pc + 1 : Nat) : Int) + o) (h1 : x < y → WP l Z a0 n0 B R k n pc' L S H Q) (h2 : ¬ x < y → WP l Z a0 n0 B R k n (pc + 4) L S H Q) : WP l Z a0 n0 B R k n pc L (.long y :: .long x :: S) H Q :=
  if q : cPL .lt x y then lcmpT d1 d hp ho q (h1 q) else lcmpF d1 d q (h2 q)
theorem icmp_ge {x y : Int32} {o : Int} {pc' : Nat} (d : decode B.2.1 pc = .ok (.if_icmp .ge o, 3)) (hp : ((pc : Int) + o).toNat = pc') (ho : 0 ≤ (pc : Int) + o) (h1 : ¬ x < y → WP l Z a0 n0 B R k n pc' L S H Q) (h2 : x < y → WP l Z a0 n0 B R k n (pc + 3) L S H Q) : WP l Z a0 n0 B R k n pc L (.int y :: .int x :: S) H Q :=
  if q : cP .ge x y then icmpT d hp ho q (h1 q) else icmpF d q (h2 (Decidable.not_not.mp q))
theorem if_ge {x : Int32} {o : Int} {pc' : Nat} (d : decode B.2.1 pc = .ok (.ifCond .ge o, 3)) (hp : ((pc : Int) + o).toNat = pc') (ho : 0 ≤ (pc : Int) + o) (h1 : ¬ x < 0 → WP l Z a0 n0 B R k n pc' L S H Q) (h2 : x < 0 → WP l Z a0 n0 B R k n (pc + 3) L S H Q) : WP l Z a0 n0 B R k n pc L (.int x :: S) H Q :=
  if q : cP .ge x 0 then ifT d hp ho q (h1 q) else ifF d q (h2 (Decidable.not_not.mp q))
theorem lcmp_ge {x y : Int64} {o : Int} {pc' : Nat} (d1 : decode B.2.1 pc = .ok (.lcmp, 1)) (d : decode B.2.1 (pc + 1) = .ok (.ifCond .ge o, 3)) (hp : (((pc + 1 : Nat) : Int) + o).toNat = pc') (ho : 0 ≤ ((pc + 1 : Nat) : Int) + o) (h1 : ¬ x < y → WP l Z a0 n0 B R k n pc' L S H Q) (h2 : x < y → WP l Z a0 n0 B R k n (pc + 4) L S H Q) : WP l Z a0 n0 B R k n pc L (.long y :: .long x :: S) H Q :=
  if q : cPL .ge x y then lcmpT d1 d hp ho q (h1 q) else lcmpF d1 d q (h2 (Decidable.not_not.mp q))
theorem icmp_gt {x y : Int32} {o : Int} {pc' : Nat} (d : decode B.2.1 pc = .ok (.if_icmp .gt o, 3)) (hp : ((pc : Int) + o).toNat = pc') (ho : 0 ≤ (pc : Int) + o) (h1 : y < x → WP l Z a0 n0 B R k n pc' L S H Q) (h2 : ¬ y < x → WP l Z a0 n0 B R k n (pc + 3) L S H Q) : WP l Z a0 n0 B R k n pc L (.int y :: .int x :: S) H Q :=
  if q : cP .gt x y then icmpT d hp ho q (h1 q) else icmpF d q (h2 q)
theorem if_gt {x : Int32} {o : Int} {pc' : Nat} (d : decode B.2.1 pc = .ok (.ifCond .gt o, 3)) (hp : ((pc : Int) + o).toNat = pc') (ho : 0 ≤ (pc : Int) + o) (h1 : 0 < x → WP l Z a0 n0 B R k n pc' L S H Q) (h2 : ¬ 0 < x → WP l Z a0 n0 B R k n (pc + 3) L S H Q) : WP l Z a0 n0 B R k n pc L (.int x :: S) H Q :=
  if q : cP .gt x 0 then ifT d hp ho q (h1 q) else ifF d q (h2 q)
theorem lcmp_gt {x y : Int64} {o : Int} {pc' : Nat} (d1 : decode B.2.1 pc = .ok (.lcmp, 1)) (d : decode B.2.1 (pc + 1) = .ok (.ifCond .gt o, 3)) (hp : (((pc + 1 : Nat) : Int) + o).toNat = pc') (ho : 0 ≤ ((pc + 1 : Nat) : Int) + o) (h1 : y < x → WP l Z a0 n0 B R k n pc' L S H Q) (h2 : ¬ y < x → WP l Z a0 n0 B R k n (pc + 4) L S H Q) : WP l Z a0 n0 B R k n pc L (.long y :: .long x :: S) H Q :=
  if q : cPL .gt x y then lcmpT d1 d hp ho q (h1 q) else lcmpF d1 d q (h2 q)
theorem icmp_le {x y : Int32} {o : Int} {pc' : Nat} (d : decode B.2.1 pc = .ok (.if_icmp .le o, 3)) (hp : ((pc : Int) + o).toNat = pc') (ho : 0 ≤ (pc : Int) + o) (h1 : ¬ y < x → WP l Z a0 n0 B R k n pc' L S H Q) (h2 : y < x → WP l Z a0 n0 B R k n (pc + 3) L S H Q) : WP l Z a0 n0 B R k n pc L (.int y :: .int x :: S) H Q :=
  if q : cP .le x y then icmpT d hp ho q (h1 q) else icmpF d q (h2 (Decidable.not_not.mp q))
theorem if_le {x : Int32} {o : Int} {pc' : Nat} (d : decode B.2.1 pc = .ok (.ifCond .le o, 3)) (hp : ((pc : Int) + o).toNat = pc') (ho : 0 ≤ (pc : Int) + o) (h1 : ¬ 0 < x → WP l Z a0 n0 B R k n pc' L S H Q) (h2 : 0 < x → WP l Z a0 n0 B R k n (pc + 3) L S H Q) : WP l Z a0 n0 B R k n pc L (.int x :: S) H Q :=
  if q : cP .le x 0 then ifT d hp ho q (h1 q) else ifF d q (h2 (Decidable.not_not.mp q))
theorem lcmp_le {x y : Int64} {o : Int} {pc' : Nat} (d1 : decode B.2.1 pc = .ok (.lcmp, 1)) (d : decode B.2.1 (pc + 1) = .ok (.ifCond .le o, 3)) (hp : (((pc + 1 : Nat) : Int) + o).toNat = pc') (ho : 0 ≤ ((pc + 1 : Nat) : Int) + o) (h1 : ¬ y < x → WP l Z a0 n0 B R k n pc' L S H Q) (h2 : y < x → WP l Z a0 n0 B R k n (pc + 4) L S H Q) : WP l Z a0 n0 B R k n pc L (.long y :: .long x :: S) H Q :=
  if q : cPL .le x y then lcmpT d1 d hp ho q (h1 q) else lcmpF d1 d q (h2 (Decidable.not_not.mp q))
end
end Jvm.Sh
namespace Jvm.Sh
open Jvm Jvm.ClassFile Sem Op Lib Jvm.Free Jvm.Stand Jvm.LawKit Jvm.RoadKit Bundle
section
variable {l : Launch} {Z : State} {a0 : Array Value} {n0 : Nat} {B : Bdy} {R : Room} {k n pc : Nat} {L : List Slot} {S : List Value} {H : SH} {Q : Option Value → SH → Prop} {W : List Jvm.Cond}
/-! ### the heap -/
theorem lf_default (n0 : Nat) (ty : FieldType) : lf n0 (defaultValue ty) = defaultValue ty := by cases ty <;> rfl
theorem lf_narrow {n0 : Nat} {ty : FieldType} {v : Value} (h : narrow ty v = v) : narrow ty (lf n0 v) = lf n0 v := by
  cases v <;> first | exact h | (cases ty <;> rfl)
theorem lf_fits {n0 : Nat} {ty : FieldType} {v : Value} (h : fits ty v = true) : fits ty (lf n0 v) = true := by
  cases v <;> first | exact h | (cases ty <;> simp [fits, lf] at h ⊢)
theorem ext_push (h : Heap) (c : Cell) : Ext h (h.push c) :=
  ⟨by simp, fun a d e => by rw [Array.getElem?_push_lt (Array.getElem?_eq_some_iff.mp e).1]; exact (Array.getElem?_eq_getElem _).symm.trans e⟩
theorem getfield (hw : ∀ d ∈ W, d.before a0 Z = true) {i idx a j : Nat} {C nm ds : String} {fs : List (String × String × Value)} {v : Value} (w : W[i]? = some (.fieldLink B.1.cls idx C nm ds)) (d : decode B.2.1 pc = .ok (.getfield idx, 3))
    (hH : H[a]? = some (.inl (C, fs))) (hf : fs[j]? = some (nm, ds, v)) (hr : WP l Z a0 n0 B R k n (pc + 3) L (v :: S) H Q) : WP l Z a0 n0 B R k n pc L (.ref a :: S) H Q := by
  intro p e s m args below meth c T locs X hx hc hml hret hlk hZ hown hnm hF hR
  have K := (hR.2 a _ hH).2.2.2 _ (List.mem_of_getElem? hf)
  obtain ⟨T', X', e', st⟩ := getF X hx hZ hown (host := "") (Or.inl (hw _ (List.mem_of_getElem? w))) Via.refl rfl K.2.2 (g := mkF m pc (LL n0 L) ((Value.ref a :: S).map (lf n0))) rfl rfl (hb hc d)
  obtain ⟨t, o, h1, h2⟩ := hr p e s m args below meth c T' locs X' hx hc hml hret hlk hZ hown hnm hF (by rw [e']; exact hR)
  exact ⟨t, o, st _ h1, h2⟩
theorem put_ok {h h' : Heap} {a : Addr} {C nm ds : String} {fs : List (String × String × Value)} {j : Nat} {old v : Value} (K : CellOk Z a0 n0 h a (.inl (C, fs))) (hf : fs[j]? = some (nm, ds, old)) (W' : Wr h h' a (RoadKit.slotOf Z C nm ds) (lf n0 v)) :
    CellOk Z a0 n0 h' a (.inl (C, fs.set j (nm, ds, v))) := by
  obtain ⟨E, I, N, F⟩ := K
  have hj := lt_of_at hf
  have hfm := List.mem_of_getElem? hf
  refine ⟨E.wr W', I, ?_, fun f hfm' => ?_⟩
  · have : (fs.set j (nm, ds, v)).map (·.1) = fs.map (·.1) := by
      rw [List.map_set]
      apply List.ext_getElem? 
      intro i
      by_cases q : i = j
      · subst q
        rw [List.getElem?_set_self (by simpa using hj)]
        simp [hf]
      · rw [List.getElem?_set_ne (Ne.symm q)]
    rw [this]; exact N
  · obtain ⟨i, hi⟩ := List.getElem?_of_mem hfm'
    by_cases q : i = j
    · subst q
      rw [List.getElem?_set_self hj] at hi
      cases hi
      exact ⟨(F _ hfm).1, (F _ hfm).2.1, (F _ hfm).2.2.same W'⟩
    · rw [List.getElem?_set_ne (Ne.symm q)] at hi
      have hm := List.mem_of_getElem? hi
      obtain ⟨t1, ht1⟩ := (F _ hm).2.1
      obtain ⟨t2, ht2⟩ := (F _ hfm).2.1
      refine ⟨(F _ hm).1, (F _ hm).2.1, (F _ hm).2.2.other W' (Or.inr (slot_ne (F _ hm).1 (F _ hfm).1 (fun e => q ?_) ht1 ht2))⟩
      have n1 : (fs.map (·.1))[i]? = some f.1 := by simp [hi]
      have n2 : (fs.map (·.1))[j]? = some nm := by simp [hf]
      have li := lt_of_at n1
      have lj := lt_of_at n2
      refine (List.getElem_inj (h₀ := li) (h₁ := lj) N).mp ?_
      have e1 := (List.getElem?_eq_some_iff.mp n1).2
      have e2 := (List.getElem?_eq_some_iff.mp n2).2
      rw [e1, e2]; exact e
theorem putfield' (hw : ∀ d ∈ W, d.before a0 Z = true) {i i2 idx a j : Nat} {C nm ds : String} {fs fs' : List (String × String × Value)} {old v : Value} {ty : FieldType} {H' : SH} (w : W[i]? = some (.fieldLink B.1.cls idx C nm ds))
    (w2 : W[i2]? = some (.lays C C nm ds) ∨ (W[i2]? = some (.laysFinal C C nm ds) ∧ B.1.cls = C ∧ B.1.name = "<init>")) (d : decode B.2.1 pc = .ok (.putfield idx, 3))
    (hH : H[a]? = some (.inl (C, fs))) (hf : fs[j]? = some (nm, ds, old)) (hty : parseFieldDescriptor ds = some ty) (hn : narrow ty v = v) (hfit : fits ty v = true) (hset1 : fs.set j (nm, ds, v) = fs') (hset : H.set a (.inl (C, fs')) = H')
    (hr : WP l Z a0 n0 B R k n (pc + 3) L S H' Q) : WP l Z a0 n0 B R k n pc L (v :: .ref a :: S) H Q := by
  intro p e s m args below meth c T locs X hx hc hml hret hlk hZ hown hnm hF hR
  have K0 := hR.2 a _ hH
  have K := K0.2.2.2 _ (List.mem_of_getElem? hf)
  obtain ⟨kk, hk⟩ := K0.2.1
  obtain ⟨T', h', X', e', W', st⟩ := putF X hx hZ hown (host := "") (Or.inl (hw _ (List.mem_of_getElem? w))) Via.refl rfl K.2.2 K0.1 (w2.imp (fun q => hw _ (List.mem_of_getElem? q)) (fun q => ⟨hw _ (List.mem_of_getElem? q.1), q.2.1, hnm.trans q.2.2⟩)) hk hty (lf_narrow hn) (lf_fits hfit) (g := mkF m pc (LL n0 L) ((v :: Value.ref a :: S).map (lf n0))) rfl rfl (hb hc d)
  have hR' : Rep Z a0 n0 T'.heap H' := by
    rw [e', ← hset, ← hset1]
    exact hR.set W' (lt_of_at hH) (put_ok K0 hf W')
  obtain ⟨t, o, h1, h2⟩ := hr p e s m args below meth c T' _ X' hx hc hml hret hlk hZ hown hnm (Fr.snoc X' hF (Nat.le_add_right _ _)) hR'
  exact ⟨t, o, st _ h1, h2⟩
theorem putfield (hw : ∀ d ∈ W, d.before a0 Z = true) {i i2 idx a j : Nat} {C nm ds : String} {fs fs' : List (String × String × Value)} {old v : Value} {ty : FieldType} {H' : SH} (w : W[i]? = some (.fieldLink B.1.cls idx C nm ds))
    (w2 : W[i2]? = some (.lays C C nm ds)) (d : decode B.2.1 pc = .ok (.putfield idx, 3))
    (hH : H[a]? = some (.inl (C, fs))) (hf : fs[j]? = some (nm, ds, old)) (hty : parseFieldDescriptor ds = some ty) (hn : narrow ty v = v) (hfit : fits ty v = true) (hset1 : fs.set j (nm, ds, v) = fs') (hset : H.set a (.inl (C, fs')) = H')
    (hr : WP l Z a0 n0 B R k n (pc + 3) L S H' Q) : WP l Z a0 n0 B R k n pc L (v :: .ref a :: S) H Q := putfield' hw w (Or.inl w2) d hH hf hty hn hfit hset1 hset hr
theorem putfieldF (hw : ∀ d ∈ W, d.before a0 Z = true) {i i2 idx a j : Nat} {C nm ds : String} {fs fs' : List (String × String × Value)} {old v : Value} {ty : FieldType} {H' : SH} (w : W[i]? = some (.fieldLink B.1.cls idx C nm ds))
    (w2 : W[i2]? = some (.laysFinal C C nm ds)) (hC : B.1.cls = C) (hI : B.1.name = "<init>") (d : decode B.2.1 pc = .ok (.putfield idx, 3))
    (hH : H[a]? = some (.inl (C, fs))) (hf : fs[j]? = some (nm, ds, old)) (hty : parseFieldDescriptor ds = some ty) (hn : narrow ty v = v) (hfit : fits ty v = true) (hset1 : fs.set j (nm, ds, v) = fs') (hset : H.set a (.inl (C, fs')) = H')
    (hr : WP l Z a0 n0 B R k n (pc + 3) L S H' Q) : WP l Z a0 n0 B R k n pc L (v :: .ref a :: S) H Q := putfield' hw w (Or.inr ⟨w2, hC, hI⟩) d hH hf hty hn hfit hset1 hset hr
theorem newobj (hw : ∀ d ∈ W, d.before a0 Z = true) {i1 i2 i3 idx cnt a k' n' : Nat} {C : String} {fs : List (String × String × Value)} {H' : SH} (w1 : W[i1]? = some (.classLink B.1.cls idx C)) (w2 : W[i2]? = some (.instantiable C cnt)) (w3 : W[i3]? = some (.initialized C)) (d : decode B.2.1 pc = .ok (.new idx, 3))
    (hfs : ∀ f ∈ fs, (.lays C C f.1 f.2.1 ∈ W ∨ .laysFinal C C f.1 f.2.1 ∈ W) ∧ ∃ ty, parseFieldDescriptor f.2.1 = some ty ∧ defaultValue ty = f.2.2) (hnd : (fs.map (·.1)).Nodup) (hc : k + 1 ≤ R.cells) (hl : n + cnt ≤ R.slots) (hk : k + 1 = k') (hn : n + cnt = n') (hlen : H.length = a) (happ : H ++ [.inl (C, fs)] = H')
    (hr : WP l Z a0 n0 B R k' n' (pc + 3) L (.ref a :: S) H' Q) : WP l Z a0 n0 B R k n pc L S H Q := by
  intro p e s m args below meth c T locs X hx hc' hml hret hlk hZ hown hnm hF hR
  subst hk hn hlen happ
  have v1 := hw _ (List.mem_of_getElem? w1)
  have v2 := hw _ (List.mem_of_getElem? w2)
  have v3 := hw _ (List.mem_of_getElem? w3)
  obtain ⟨vm', cC, kC, h1, h2, h3, h4, X', st⟩ := X.newCold hx hown (mv hZ v1) (mv hZ v2) (mv hZ v3) (g := mkF m pc (LL n0 L) (S.map (lf n0))) rfl (hb hc' d) hc hl
  rw [hZ.alike.findClass] at h1
  obtain ⟨kZ, z1, -⟩ := Vm.findClass_spec h1
  obtain ⟨kx, z2, z3⟩ := hZ.alike.2.2 _ _ z1
  cases h2.symm.trans z2
  have ei : kC.instanceTypes = kZ.instanceTypes := by rw [z3]
  have hN : (T.heap.push { cls := cC, slots := kC.instanceTypes.map defaultValue, vm := .none })[T.heap.size]? = some { cls := cC, slots := kC.instanceTypes.map defaultValue, vm := .none } := by simp
  have E : Exa Z (T.heap.push { cls := cC, slots := kC.instanceTypes.map defaultValue, vm := .none }) T.heap.size C := ⟨_, kZ, hN, h1, z1, rfl, fun _ => by simp [ei]⟩
  have hR' : Rep Z a0 n0 (T.heap.push { cls := cC, slots := kC.instanceTypes.map defaultValue, vm := .none }) (H ++ [.inl (C, fs)]) := by
    refine hR.push (ext_push _ _) (by simp) ⟨E, ⟨_, v2⟩, hnd, fun f hf => ?_⟩
    obtain ⟨hL, ty, ht, hdv⟩ := hfs f hf
    have LD : Laid Z a0 C C f.1 f.2.1 := hL.imp (fun q => hw _ q) (fun q => hw _ q)
    refine ⟨LD, ⟨ty, ht⟩, ?_⟩
    obtain ⟨c1, k1, cf, kf, i, fd, b1, b2, b3, b4, b5, b6, -⟩ := LD.spec
    cases h1.symm.trans b1
    cases z1.symm.trans b2
    rw [← hdv, lf_default]
    exact ⟨_, cf, kf, i, fd, hN, b3, b4, by simp, rfl, b5, by simp [ei, b6, (State.fieldFound?_type b3 ht).2]⟩
  obtain ⟨t, o, g1, g2⟩ := hr p e s m args below meth c _ locs X' hx hc' hml hret hlk hZ hown hnm hF hR'
  refine ⟨t, o, st _ ?_, g2⟩
  rw [hR.1]
  exact g1
theorem newarr (hw : ∀ d ∈ W, d.before a0 Z = true) {i N cap a k' n' : Nat} {aty : ArrayType} {ty : FieldType} {dv : Value} {vs : List Value} {x : Int32} {H' : SH} (w : W[i]? = some (.arrayClass ty)) (hty : newarray.typeOf aty = ty) (d : decode B.2.1 pc = .ok (.newarray aty, 2))
    (hdv : defaultValue ty = dv) (hx0 : ¬ x < 0) (hN : x.toNatClampNeg = N) (hvs : List.replicate N dv = vs) (hcap : N ≤ cap) (hb' : cap * 8 ≤ 536870912) (hc : k + 1 ≤ R.cells) (hl : n + cap ≤ R.slots) (hk : k + 1 = k') (hn : n + cap = n') (hlen : H.length = a) (happ : H ++ [.inr (ty, vs)] = H')
    (hr : WP l Z a0 n0 B R k' n' (pc + 2) L (.ref a :: S) H' Q) : WP l Z a0 n0 B R k n pc L (.int x :: S) H Q := by
  intro p e s m args below meth c T locs X hx hc' hml hret hlk hZ hown hnm hF hR
  subst hk hn hlen happ hty hN hdv hvs
  have v1 := hw _ (List.mem_of_getElem? w)
  have hcb : componentBytes (newarray.typeOf aty) ≤ 8 := by cases aty <;> decide
  obtain ⟨cA, kA, comp, h1, h2, h3, X', st⟩ := X.newarrayPrim hx (mvA hZ v1) (g := mkF m pc (LL n0 L) ((Value.int x :: S).map (lf n0))) rfl (hb hc' d) rfl hx0 (Nat.le_trans (Nat.mul_le_mul hcap hcb) hb') hc (by omega)
  rw [hZ.alike.findClass] at h1
  obtain ⟨kZ, z1, -⟩ := Vm.findClass_spec h1
  obtain ⟨kx, z2, z3⟩ := hZ.alike.2.2 _ _ z1
  cases h2.symm.trans z2
  have hR' : Rep Z a0 n0 (T.heap.push { cls := cA, slots := Array.replicate x.toNatClampNeg (defaultValue (newarray.typeOf aty)), vm := .none }) (H ++ [.inr (newarray.typeOf aty, List.replicate x.toNatClampNeg (defaultValue (newarray.typeOf aty)))]) := by
    refine hR.push (ext_push _ _) (by simp) ⟨_, ⟨by simp; rfl, ⟨by simp, kZ, z1, comp, by rw [← h3, z3]⟩, by simp⟩, ?_, ?_⟩
    · apply Array.toList_inj.mp
      simp [lf_default]
    · have := (back32 hx0).2
      simpa using this
  obtain ⟨t, o, g1, g2⟩ := hr p e s m args below meth c _ locs (X'.more (Nat.le_refl _) (by omega)) hx hc' hml hret hlk hZ hown hnm hF hR'
  refine ⟨t, o, st _ ?_, g2⟩
  rw [hR.1]
  exact g1
theorem arr_at {h : Heap} {a : Nat} {ty : FieldType} {vs : List Value} {j : Int32} {jn : Nat} (hR : Rep Z a0 n0 h H) (hH : H[a]? = some (.inr (ty, vs))) (hj0 : ¬ j < 0) (hj : j.toNatClampNeg = jn) (hlt : jn < vs.length) :
    ∃ c : Cell, Arr Z h (n0 + a) c ty ∧ c.slots = (vs.map (lf n0)).toArray ∧ vs.length < 2 ^ 31 ∧ ¬ (j < 0 ∨ c.slots.size ≤ j.toNatClampNeg) := by
  obtain ⟨c, A, e, hl⟩ := hR.2 a _ hH
  refine ⟨c, A, e, hl, fun q => q.elim hj0 fun q => ?_⟩
  rw [e, hj] at q
  simp at q
  omega
theorem load_at {c : Cell} {vs : List Value} {j : Int32} {jn : Nat} {v : Value} (e : c.slots = (vs.map (lf n0)).toArray) (hj : j.toNatClampNeg = jn) (hv : vs[jn]? = some v) : c.slots[j.toNatClampNeg]? = some (lf n0 v) := by
  rw [e, hj]; simp [hv]
theorem iaload {a jn : Nat} {vs : List Value} {j : Int32} {v : Value} (d : decode B.2.1 pc = .ok (.iaload, 1)) (hH : H[a]? = some (.inr (.int, vs))) (hj0 : ¬ j < 0) (hj : j.toNatClampNeg = jn) (hv : vs[jn]? = some v)
    (hr : WP l Z a0 n0 B R k n (pc + 1) L (v :: S) H Q) : WP l Z a0 n0 B R k n pc L (.int j :: .ref a :: S) H Q := by
  intro p e s m args below meth c T locs X hx hc hml hret hlk hZ hown hnm hF hR
  obtain ⟨cl, A, es, -, hin⟩ := arr_at hR hH hj0 hj (lt_of_at hv)
  obtain ⟨t, o, h1, h2⟩ := hr p e s m args below meth c T locs X hx hc hml hret hlk hZ hown hnm hF hR
  exact ⟨t, o, X.iaload hx A.1 (State.isArrayOf_alike hZ.alike A.2.1) A.2.2 hin (load_at es hj hv) (g := mkF m pc (LL n0 L) ((Value.int j :: Value.ref a :: S).map (lf n0))) rfl rfl (hb hc d) _ h1, h2⟩
theorem laload {a jn : Nat} {vs : List Value} {j : Int32} {v : Value} (d : decode B.2.1 pc = .ok (.laload, 1)) (hH : H[a]? = some (.inr (.long, vs))) (hj0 : ¬ j < 0) (hj : j.toNatClampNeg = jn) (hv : vs[jn]? = some v)
    (hr : WP l Z a0 n0 B R k n (pc + 1) L (v :: S) H Q) : WP l Z a0 n0 B R k n pc L (.int j :: .ref a :: S) H Q := by
  intro p e s m args below meth c T locs X hx hc hml hret hlk hZ hown hnm hF hR
  obtain ⟨cl, A, es, -, hin⟩ := arr_at hR hH hj0 hj (lt_of_at hv)
  obtain ⟨t, o, h1, h2⟩ := hr p e s m args below meth c T locs X hx hc hml hret hlk hZ hown hnm hF hR
  exact ⟨t, o, X.laload hx A.1 (State.isArrayOf_alike hZ.alike A.2.1) A.2.2 hin (load_at es hj hv) (g := mkF m pc (LL n0 L) ((Value.int j :: Value.ref a :: S).map (lf n0))) rfl rfl (hb hc d) _ h1, h2⟩
theorem baload {a jn : Nat} {vs : List Value} {j : Int32} {v : Value} (d : decode B.2.1 pc = .ok (.baload, 1)) (hH : H[a]? = some (.inr (.byte, vs))) (hj0 : ¬ j < 0) (hj : j.toNatClampNeg = jn) (hv : vs[jn]? = some v)
    (hr : WP l Z a0 n0 B R k n (pc + 1) L (v :: S) H Q) : WP l Z a0 n0 B R k n pc L (.int j :: .ref a :: S) H Q := by
  intro p e s m args below meth c T locs X hx hc hml hret hlk hZ hown hnm hF hR
  obtain ⟨cl, A, es, -, hin⟩ := arr_at hR hH hj0 hj (lt_of_at hv)
  obtain ⟨t, o, h1, h2⟩ := hr p e s m args below meth c T locs X hx hc hml hret hlk hZ hown hnm hF hR
  exact ⟨t, o, X.baloadBytes hx A.1 (State.isArrayOf_alike hZ.alike A.2.1) A.2.2 hin (load_at es hj hv) (g := mkF m pc (LL n0 L) ((Value.int j :: Value.ref a :: S).map (lf n0))) rfl rfl (hb hc d) _ h1, h2⟩
theorem set_rep {h h' : Heap} {a jn : Nat} {ty : FieldType} {vs vs' : List Value} {c : Cell} {v : Value} {H' : SH} (hR : Rep Z a0 n0 h H) (hH : H[a]? = some (.inr (ty, vs))) (A : Arr Z h (n0 + a) c ty) (es : c.slots = (vs.map (lf n0)).toArray) (hlen : vs.length < 2 ^ 31) (W' : Wr h h' (n0 + a) jn (lf n0 v))
    (hset : vs.set jn v = vs') (hset2 : H.set a (.inr (ty, vs')) = H') : Rep Z a0 n0 h' H' := by
  subst hset hset2
  refine hR.set W' (lt_of_at hH) ⟨_, A.same W', ?_, by simpa using hlen⟩
  simp only [Cell.setSlot, es]
  apply Array.toList_inj.mp
  simp [List.map_set]
theorem iastore {a jn : Nat} {vs vs' : List Value} {j x : Int32} {H' : SH} (d : decode B.2.1 pc = .ok (.iastore, 1)) (hH : H[a]? = some (.inr (.int, vs))) (hj0 : ¬ j < 0) (hj : j.toNatClampNeg = jn) (hlt : jn < vs.length) (hset : vs.set jn (.int x) = vs') (hset2 : H.set a (.inr (.int, vs')) = H')
    (hr : WP l Z a0 n0 B R k n (pc + 1) L S H' Q) : WP l Z a0 n0 B R k n pc L (.int x :: .int j :: .ref a :: S) H Q := by
  intro p e s m args below meth c T locs X hx hc hml hret hlk hZ hown hnm hF hR
  obtain ⟨cl, A, es, hlen, hin⟩ := arr_at hR hH hj0 hj hlt
  obtain ⟨T', h', X', e', W', st⟩ := stI X hx hZ rfl A hin (g := mkF m pc (LL n0 L) ((Value.int x :: Value.int j :: Value.ref a :: S).map (lf n0))) rfl rfl (hb hc d)
  obtain ⟨t, o, h1, h2⟩ := hr p e s m args below meth c T' _ X' hx hc hml hret hlk hZ hown hnm (Fr.snoc X' hF (Nat.le_add_right _ _)) (by rw [e']; exact set_rep hR hH A es hlen (hj ▸ W') hset hset2)
  exact ⟨t, o, st _ h1, h2⟩
theorem lastore {a jn : Nat} {vs vs' : List Value} {j : Int32} {x : Int64} {H' : SH} (d : decode B.2.1 pc = .ok (.lastore, 1)) (hH : H[a]? = some (.inr (.long, vs))) (hj0 : ¬ j < 0) (hj : j.toNatClampNeg = jn) (hlt : jn < vs.length) (hset : vs.set jn (.long x) = vs') (hset2 : H.set a (.inr (.long, vs')) = H')
    (hr : WP l Z a0 n0 B R k n (pc + 1) L S H' Q) : WP l Z a0 n0 B R k n pc L (.long x :: .int j :: .ref a :: S) H Q := by
  intro p e s m args below meth c T locs X hx hc hml hret hlk hZ hown hnm hF hR
  obtain ⟨cl, A, es, hlen, hin⟩ := arr_at hR hH hj0 hj hlt
  obtain ⟨T', h', X', e', W', st⟩ := stJ X hx hZ rfl A hin (g := mkF m pc (LL n0 L) ((Value.long x :: Value.int j :: Value.ref a :: S).map (lf n0))) rfl rfl (hb hc d)
  obtain ⟨t, o, h1, h2⟩ := hr p e s m args below meth c T' _ X' hx hc hml hret hlk hZ hown hnm (Fr.snoc X' hF (Nat.le_add_right _ _)) (by rw [e']; exact set_rep hR hH A es hlen (hj ▸ W') hset hset2)
  exact ⟨t, o, st _ h1, h2⟩
theorem bastore {a jn : Nat} {vs vs' : List Value} {j x y : Int32} {H' : SH} (d : decode B.2.1 pc = .ok (.bastore, 1)) (hH : H[a]? = some (.inr (.byte, vs))) (hj0 : ¬ j < 0) (hj : j.toNatClampNeg = jn) (hlt : jn < vs.length) (hy : x.toInt8.toInt32 = y) (hset : vs.set jn (.int y) = vs') (hset2 : H.set a (.inr (.byte, vs')) = H')
    (hr : WP l Z a0 n0 B R k n (pc + 1) L S H' Q) : WP l Z a0 n0 B R k n pc L (.int x :: .int j :: .ref a :: S) H Q := by
  intro p e s m args below meth c T locs X hx hc hml hret hlk hZ hown hnm hF hR
  obtain ⟨cl, A, es, hlen, hin⟩ := arr_at hR hH hj0 hj hlt
  obtain ⟨T', h', X', e', W', st⟩ := stB X hx hZ rfl A hin (g := mkF m pc (LL n0 L) ((Value.int x :: Value.int j :: Value.ref a :: S).map (lf n0))) rfl rfl (hb hc d)
  subst hy
  obtain ⟨t, o, h1, h2⟩ := hr p e s m args below meth c T' _ X' hx hc hml hret hlk hZ hown hnm (Fr.snoc X' hF (Nat.le_add_right _ _)) (by rw [e']; exact set_rep (v := .int x.toInt8.toInt32) hR hH A es hlen (hj ▸ W') hset hset2)
  exact ⟨t, o, st _ h1, h2⟩
theorem arraylength {a : Nat} {ty : FieldType} {vs : List Value} {N : Int32} (d : decode B.2.1 pc = .ok (.arraylength, 1)) (hH : H[a]? = some (.inr (ty, vs))) (hN : vs.length.toInt32 = N) (hr : WP l Z a0 n0 B R k n (pc + 1) L (.int N :: S) H Q) : WP l Z a0 n0 B R k n pc L (.ref a :: S) H Q := by
  intro p e s m args below meth c T locs X hx hc hml hret hlk hZ hown hnm hF hR
  obtain ⟨cl, A, es, -⟩ := hR.2 a _ hH
  obtain ⟨t, o, h1, h2⟩ := hr p e s m args below meth c T locs X hx hc hml hret hlk hZ hown hnm hF hR
  refine ⟨t, o, X.arraylength hx A.1 (State.isArrayOf_alike hZ.alike A.2.1) (g := mkF m pc (LL n0 L) ((Value.ref a :: S).map (lf n0))) rfl rfl (hb hc d) _ ?_, h2⟩
  have e1 : cl.slots.size.toInt32 = N := by rw [es, ← hN]; simp
  rw [e1]
  exact h1
/-! ### returns -/
theorem leave' {p : Program} {e : Env} {s : State} {m : MethodId} {args : Array Value} {below : List Frame} {meth : Method} {c : Code} {T : State} {locs : List Loc} (X : Stand p l e R s m args below meth c T locs k n) (hlk : meth.locks = false) {v : Option Value} (hv : meth.sig.returnType = none → v = none) (hF : Fr n0 locs) (hR : Rep Z a0 n0 T.heap H) (hQ : Q v H) (hk : k ≤ R.cells) (hn : n ≤ R.slots) {g : JFrame}
    (st : ∀ fs, (∀ (f : JFrame) (acts : List Action), f.method = m → f.locked = none → f.entered = [] → (doReturn e (T.setTop f) acts (v.map (lf n0))).1 = T.setFrames fs) → Steps p.tables e below (T.setTop g) (T.setFrames fs)) :
    ∃ t o, Steps p.tables e below (T.setTop g) t ∧ t.status = .running ∧ Ended t below o ∧
      ∃ v L', o = .returned (v.map (lf n0)) ∧ (∃ H', Q v H' ∧ Rep Z a0 n0 t.heap H') ∧ Fr n0 L' ∧ FrameEnd s o t L' R.cells R.slots := by
  obtain ⟨fs, hr, hrun, hended, hW, hsame⟩ := X.leave (v := v.map (lf n0)) (fun q => by rw [hv q]; rfl) hlk
  exact ⟨_, _, st fs hr, hrun, hended, v, locs, rfl, ⟨H, hQ, hR⟩, hF, ⟨_, rfl⟩, hW, hsame.mono hk hn⟩
theorem retI {x : Int32} (d : decode B.2.1 pc = .ok (.ireturn, 1)) (hrt : B.2.2.2 = some .int) (hk : k ≤ R.cells) (hn : n ≤ R.slots) (hQ : Q (some (.int x)) H) : WP l Z a0 n0 B R k n pc L (.int x :: S) H Q := by
  intro p e s m args below meth c T locs X hx hc hml hret hlk hZ hown hnm hF hR
  refine leave' X hlk (v := some (.int x)) (fun q => by rw [hret, hrt] at q; cases q) hF hR hQ hk hn fun fs hr => ?_
  exact retOut X hx (hret.trans hrt) rfl (Or.inl ⟨rfl, Or.inl rfl, x, rfl⟩) (hb hc d) hr
theorem retN {x y : Int32} {ty : FieldType} (d : decode B.2.1 pc = .ok (.ireturn, 1)) (hrt : B.2.2.2 = some ty) (ht : ty = .boolean ∨ ty = .byte ∨ ty = .char ∨ ty = .short) (hy : nar ty x = y) (hk : k ≤ R.cells) (hn : n ≤ R.slots) (hQ : Q (some (.int y)) H) : WP l Z a0 n0 B R k n pc L (.int x :: S) H Q := by
  intro p e s m args below meth c T locs X hx hc hml hret hlk hZ hown hnm hF hR
  subst hy
  refine leave' X hlk (v := some (.int (nar ty x))) (fun q => by rw [hret, hrt] at q; cases q) hF hR hQ hk hn fun fs hr => ?_
  exact RoadKit.retN X hx (hret.trans hrt) ht (hb hc d) hr
theorem retL {x : Int64} (d : decode B.2.1 pc = .ok (.lreturn, 1)) (hrt : B.2.2.2 = some .long) (hk : k ≤ R.cells) (hn : n ≤ R.slots) (hQ : Q (some (.long x)) H) : WP l Z a0 n0 B R k n pc L (.long x :: S) H Q := by
  intro p e s m args below meth c T locs X hx hc hml hret hlk hZ hown hnm hF hR
  refine leave' X hlk (v := some (.long x)) (fun q => by rw [hret, hrt] at q; cases q) hF hR hQ hk hn fun fs hr => ?_
  exact retOut X hx (hret.trans hrt) rfl (Or.inr (Or.inl ⟨rfl, rfl, x, rfl⟩)) (hb hc d) hr
theorem retA {v : Value} {ty : FieldType} (d : decode B.2.1 pc = .ok (.areturn, 1)) (hrt : B.2.2.2 = some ty) (ht : ty.isReference = true) (hv : v.isRef = true) (hk : k ≤ R.cells) (hn : n ≤ R.slots) (hQ : Q (some v) H) : WP l Z a0 n0 B R k n pc L (v :: S) H Q := by
  intro p e s m args below meth c T locs X hx hc hml hret hlk hZ hown hnm hF hR
  refine leave' X hlk (v := some v) (fun q => by rw [hret, hrt] at q; cases q) hF hR hQ hk hn fun fs hr => ?_
  refine retOut X hx (hret.trans hrt) ?_ (Or.inr (Or.inr (Or.inr (Or.inr ⟨rfl, ht, by rw [lf_isRef]; exact hv⟩)))) (hb hc d) hr
  cases ty <;> first | (cases ht; done) | rfl
theorem ret0 (d : decode B.2.1 pc = .ok (.return_, 1)) (hrt : B.2.2.2 = none) (hk : k ≤ R.cells) (hn : n ≤ R.slots) (hQ : Q none H) : WP l Z a0 n0 B R k n pc L [] H Q := by
  intro p e s m args below meth c T locs X hx hc hml hret hlk hZ hown hnm hF hR
  refine leave' X hlk (v := none) (fun _ => rfl) hF hR hQ hk hn fun fs hr => ?_
  exact X.returnOut hx (hret.trans hrt) (hb hc d) hr
/-! ### calls -/
theorem cat_sum (n0 : Nat) (S : List Value) : ((S.map (lf n0)).map fun v => v.category).sum = (S.map fun v => v.category).sum := by
  simp [List.map_map, Function.comp_def, lf_cat]
theorem lf_out (n0 : Nat) (v : Option Value) (S : List Value) : (v.map (lf n0)).toList ++ S.map (lf n0) = (v.toList ++ S).map (lf n0) := by cases v <;> simp
theorem rep_plain {h : Heap} {a : Nat} {c : SC} (hR : Rep Z a0 n0 h H) (hH : H[a]? = some c) : ∃ cell : Cell, h[n0 + a]? = some cell ∧ ∀ q, cell.vm ≠ .statics q := by
  have K := hR.2 a _ hH
  rcases c with ⟨C, fs⟩ | ⟨ty, vs⟩
  · exact K.1.cell
  · obtain ⟨c, A, -⟩ := K
    exact ⟨c, A.1, A.2.1.1⟩
variable {B' : Bdy} {R' : Room} {as S' : List Value} {Q' : Option Value → SH → Prop} {ps : List FieldType} {r : Option FieldType} {i1 i2 i3 i4 i5 idx k' n' : Nat}
theorem callS (hw : ∀ d ∈ W, d.before a0 Z = true) (w1 : W[i1]? = some (.methodLink B.1.cls idx B'.1)) (w2 : W[i2]? = some (.static B'.1)) (w3 : W[i3]? = some (.initialized B'.1.cls)) (w4 : W[i4]? = some (.code B'.1 B'.2.1 B'.2.2.1 B'.2.2.2))
    (hy : B'.1.cls ≠ "java/lang/invoke/MethodHandle" ∧ B'.1.cls ≠ "java/lang/invoke/VarHandle") (hM : Meth l Z a0 n0 B' R' as H Q') (d : decode B.2.1 pc = .ok (.invokestatic idx, 3)) (hS : S = as.reverse ++ S') (hL : L.length = B.2.2.1) (hd : parseMethodDescriptor B'.1.desc = some ⟨ps, r⟩) (hps : as.length = ps.length)
    (hf : R'.frames + 1 ≤ R.frames) (hl : (S'.map fun v => v.category).sum + (B'.2.2.1 + 11) + R'.locals ≤ R.locals) (hc : k + R'.cells ≤ R.cells) (hs : n + R'.slots ≤ R.slots) (hk : k + R'.cells = k') (hn : n + R'.slots = n')
    (hr : ∀ v H', Q' v H' → WP l Z a0 n0 B R k' n' (pc + 3) L (v.toList ++ S') H' Q) : WP l Z a0 n0 B R k n pc L S H Q := by
  intro p e s m args below meth c T locs X hx hc' hml hret hlk hZ hown hnm hF hR
  subst hk hn hS
  have v4 := hw _ (List.mem_of_getElem? w4)
  have v3 := hw _ (List.mem_of_getElem? w3)
  obtain ⟨_, _, ⟨T', L1, k1, n1⟩, -, X', ⟨L2, ⟨v, H', rfl, hq, hR', hF'⟩, e1, e2, e3⟩, st⟩ := Jvm.LawKit.callS X hx hown (mvT hZ (hw _ (List.mem_of_getElem? w1))) (mvT hZ (hw _ (List.mem_of_getElem? w2))) (mvT hZ v3) (mvT hZ v4) hy (W := (S'.map fun v => v.category).sum)
    (backOf (h := T.heap) (Q := fun v h L => ∃ v' H', v = v'.map (lf n0) ∧ Q' v' H' ∧ Rep Z a0 n0 h H' ∧ Fr n0 L) (hM T.heap [] hR) hZ v4 v3 hf hl) (g := mkF m pc (LL n0 L) ((as.reverse ++ S').map (lf n0))) rfl (by rw [hml, ← hL]; simp) (argsL := as.map (lf n0)) (rest := S'.map (lf n0)) (lenOf hd (by simpa using hps)) (by simp) (by show 2 * 0 + _ ≤ _; rw [cat_sum]; omega) (hb hc' d) (fun _ _ => ⟨rfl, rfl, hc, hs⟩)
  dsimp only [Pt.U, Pt.locs, Pt.cells, Pt.slots] at X' e1 e2 e3 hR' st
  subst e1 e2 e3
  obtain ⟨t, o, h1, h2⟩ := hr v H' hq p e s m args below meth c T' _ X' hx hc' hml hret hlk hZ hown hnm (Fr.app hF hF') hR'
  refine ⟨t, o, st _ ?_, h2⟩
  rw [lf_out]
  exact h1
theorem callI {a : Nat} (hw : ∀ d ∈ W, d.before a0 Z = true) (hi : B'.1.name = "<init>") (hret' : B'.2.2.2 = none) (w1 : W[i1]? = some (.methodLink B.1.cls idx B'.1)) (w2 : W[i2]? = some (.instanceMethod B'.1)) (w3 : W[i3]? = some (.initialized B'.1.cls)) (w4 : W[i4]? = some (.code B'.1 B'.2.1 B'.2.2.1 B'.2.2.2))
    (hy : B'.1.cls ≠ "java/lang/invoke/MethodHandle" ∧ B'.1.cls ≠ "java/lang/invoke/VarHandle") (hM : Meth l Z a0 n0 B' R' (.ref a :: as) H Q') (d : decode B.2.1 pc = .ok (.invokespecial idx, 3)) (hS : S = as.reverse ++ .ref a :: S') (hL : L.length = B.2.2.1) (hd : parseMethodDescriptor B'.1.desc = some ⟨ps, r⟩) (hps : as.length = ps.length)
    (hf : R'.frames + 1 ≤ R.frames) (hl : (S'.map fun v => v.category).sum + (B'.2.2.1 + 11) + R'.locals ≤ R.locals) (hc : k + R'.cells ≤ R.cells) (hs : n + R'.slots ≤ R.slots) (hk : k + R'.cells = k') (hn : n + R'.slots = n')
    (hr : ∀ v H', Q' v H' → WP l Z a0 n0 B R k' n' (pc + 3) L (v.toList ++ S') H' Q) : WP l Z a0 n0 B R k n pc L S H Q := by
  intro p e s m args below meth c T locs X hx hc' hml hret hlk hZ hown hnm hF hR
  subst hk hn hS
  have v4 := hw _ (List.mem_of_getElem? w4)
  have v3 := hw _ (List.mem_of_getElem? w3)
  obtain ⟨_, _, ⟨T', L1, k1, n1⟩, -, X', ⟨L2, ⟨v, H', rfl, hq, hR', hF'⟩, e1, e2, e3⟩, st⟩ := X.specialBack hx hi hown (mvT hZ (hw _ (List.mem_of_getElem? w1))) (mvT hZ (hw _ (List.mem_of_getElem? w2))) (bytes := B'.2.1) (maxL := B'.2.2.1) (by rw [← hret']; exact mvT hZ v4) hy (W := (S'.map fun v => v.category).sum)
    (backOf (h := T.heap) (Q := fun v h L => ∃ v' H', v = v'.map (lf n0) ∧ Q' v' H' ∧ Rep Z a0 n0 h H' ∧ Fr n0 L) (hM T.heap [] hR) hZ v4 v3 hf hl) (g := mkF m pc (LL n0 L) ((as.reverse ++ Value.ref a :: S').map (lf n0))) rfl (by rw [hml, ← hL]; simp) (Steps.refl _) (a := n0 + a) (argsL := as.map (lf n0)) (rest := S'.map (lf n0)) (lenOf hd (by simpa using hps)) (by simp [lf]) (by show 2 * 0 + _ ≤ _; rw [cat_sum]; omega) (hb hc' d) (fun _ _ => ⟨rfl, rfl, hc, hs⟩)
  dsimp only [Pt.U, Pt.locs, Pt.cells, Pt.slots] at X' e1 e2 e3 hR' st
  subst e1 e2 e3
  obtain ⟨t, o, h1, h2⟩ := hr v H' hq p e s m args below meth c T' _ X' hx hc' hml hret hlk hZ hown hnm (Fr.app hF hF') hR'
  refine ⟨t, o, st.trans ?_, h2⟩
  rw [lf_out]
  exact h1
theorem callV {a : Nat} {fs : List (String × String × Value)} (hw : ∀ d ∈ W, d.before a0 Z = true) (w1 : W[i1]? = some (.methodLink B.1.cls idx B'.1)) (w5 : W[i5]? = some (.declares B'.1)) (w2 : W[i2]? = some (.instanceMethod B'.1)) {i6 : Nat} (w6 : W[i6]? = some (.selects B'.1.cls B'.1 B'.1)) (w3 : W[i3]? = some (.initialized B'.1.cls)) (w4 : W[i4]? = some (.code B'.1 B'.2.1 B'.2.2.1 B'.2.2.2))
    (hy : B'.1.cls ≠ "java/lang/invoke/MethodHandle" ∧ B'.1.cls ≠ "java/lang/invoke/VarHandle") (hH : H[a]? = some (.inl (B'.1.cls, fs))) (hM : Meth l Z a0 n0 B' R' (.ref a :: as) H Q') (d : decode B.2.1 pc = .ok (.invokevirtual idx, 3)) (hS : S = as.reverse ++ .ref a :: S') (hL : L.length = B.2.2.1) (hd : parseMethodDescriptor B'.1.desc = some ⟨ps, r⟩) (hps : as.length = ps.length)
    (hf : R'.frames + 1 ≤ R.frames) (hl : (S'.map fun v => v.category).sum + (B'.2.2.1 + 11) + R'.locals ≤ R.locals) (hc : k + R'.cells ≤ R.cells) (hs : n + R'.slots ≤ R.slots) (hk : k + R'.cells = k') (hn : n + R'.slots = n')
    (hr : ∀ v H', Q' v H' → WP l Z a0 n0 B R k' n' (pc + 3) L (v.toList ++ S') H' Q) : WP l Z a0 n0 B R k n pc L S H Q := by
  intro p e s m args below meth c T locs X hx hc' hml hret hlk hZ hown hnm hF hR
  subst hk hn hS
  have v4 := hw _ (List.mem_of_getElem? w4)
  have v3 := hw _ (List.mem_of_getElem? w3)
  have v6 := hw _ (List.mem_of_getElem? w6)
  obtain ⟨cB, kB, f1, f2, f3⟩ := isOf hZ rfl (hR.2 a _ hH).1
  obtain ⟨_, _, ⟨T', L1, k1, n1⟩, -, X', ⟨L2, ⟨v, H', rfl, hq, hR', hF'⟩, e1, e2, e3⟩, st⟩ := X.virtualBack hx hown (mvT hZ (hw _ (List.mem_of_getElem? w1))) (mvT hZ (hw _ (List.mem_of_getElem? w5))) (notFace_of_selects (args := #[]) (mvT hZ v6)) (mvT hZ v6) (mvT hZ (hw _ (List.mem_of_getElem? w2))) hy (W := (S'.map fun v => v.category).sum)
    (backOf (h := T.heap) (Q := fun v h L => ∃ v' H', v = v'.map (lf n0) ∧ Q' v' H' ∧ Rep Z a0 n0 h H' ∧ Fr n0 L) (hM T.heap [] hR) hZ v4 v3 hf hl) f1 f3 (g := mkF m pc (LL n0 L) ((as.reverse ++ Value.ref a :: S').map (lf n0))) rfl (by rw [hml, ← hL]; simp) (Steps.refl _) (argsL := as.map (lf n0)) (rest := S'.map (lf n0)) (lenOf hd (by simpa using hps)) (by simp [lf]) (by show 2 * 0 + _ ≤ _; rw [cat_sum]; omega) (hb hc' d) (fun _ _ => ⟨rfl, rfl, hc, hs⟩)
  dsimp only [Pt.U, Pt.locs, Pt.cells, Pt.slots] at X' e1 e2 e3 hR' st
  subst e1 e2 e3
  obtain ⟨t, o, h1, h2⟩ := hr v H' hq p e s m args below meth c T' _ X' hx hc' hml hret hlk hZ hown hnm (Fr.app hF hF') hR'
  refine ⟨t, o, st.trans ?_, h2⟩
  rw [lf_out]
  exact h1
/-- a private instance method: its class is no interface, as some 'instantiable' word of it says -/
theorem callP {a : Nat} {fs : List (String × String × Value)} (hw : ∀ d ∈ W, d.before a0 Z = true) (w1 : W[i1]? = some (.methodLink B.1.cls idx B'.1)) (w2 : W[i2]? = some (.instanceMethod B'.1)) (w5 : W[i5]? = some (.privateMethod B'.1)) {i6 cnt : Nat} (w6 : W[i6]? = some (.instantiable B'.1.cls cnt)) (w3 : W[i3]? = some (.initialized B'.1.cls)) (w4 : W[i4]? = some (.code B'.1 B'.2.1 B'.2.2.1 B'.2.2.2))
    (hy : B'.1.cls ≠ "java/lang/invoke/MethodHandle" ∧ B'.1.cls ≠ "java/lang/invoke/VarHandle") (hH : H[a]? = some (.inl (B'.1.cls, fs))) (hM : Meth l Z a0 n0 B' R' (.ref a :: as) H Q') (d : decode B.2.1 pc = .ok (.invokevirtual idx, 3)) (hS : S = as.reverse ++ .ref a :: S') (hL : L.length = B.2.2.1) (hd : parseMethodDescriptor B'.1.desc = some ⟨ps, r⟩) (hps : as.length = ps.length)
    (hf : R'.frames + 1 ≤ R.frames) (hl : (S'.map fun v => v.category).sum + (B'.2.2.1 + 11) + R'.locals ≤ R.locals) (hc : k + R'.cells ≤ R.cells) (hs : n + R'.slots ≤ R.slots) (hk : k + R'.cells = k') (hn : n + R'.slots = n')
    (hr : ∀ v H', Q' v H' → WP l Z a0 n0 B R k' n' (pc + 3) L (v.toList ++ S') H' Q) : WP l Z a0 n0 B R k n pc L S H Q := by
  intro p e s m args below meth c T locs X hx hc' hml hret hlk hZ hown hnm hF hR
  subst hk hn hS
  have v4 := hw _ (List.mem_of_getElem? w4)
  have v3 := hw _ (List.mem_of_getElem? w3)
  have v2 : (Jvm.Cond.instanceMethod B'.1).before args s = true := mvT hZ (hw _ (List.mem_of_getElem? w2))
  have vp := Cond.privateMethod_at (mvP hZ (hw _ (List.mem_of_getElem? w5)) (args := #[]))
  have v6 : (Jvm.Cond.instantiable B'.1.cls cnt).before args s = true := mv hZ (hw _ (List.mem_of_getElem? w6))
  obtain ⟨cI, kI, j1, j2, j3, j4⟩ := Cond.instantiable_spec v6
  have jI : kI.isInterface = false := (Bool.or_eq_false_iff.mp j4.1).1
  obtain ⟨cell, q1, q2⟩ := rep_plain hR hH
  obtain ⟨_, _, ⟨T', L1, k1, n1⟩, -, X', ⟨L2, ⟨v, H', rfl, hq, hR', hF'⟩, e1, e2, e3⟩, st⟩ := X.privateBack hx hown (mvT hZ (hw _ (List.mem_of_getElem? w1))) v2 (selects_self_of_private j1 j2 jI vp v2 hy) vp (mvT hZ v4) hy (W := (S'.map fun v => v.category).sum)
    (backOf (h := T.heap) (Q := fun v h L => ∃ v' H', v = v'.map (lf n0) ∧ Q' v' H' ∧ Rep Z a0 n0 h H' ∧ Fr n0 L) (hM T.heap [] hR) hZ v4 v3 hf hl) (g := mkF m pc (LL n0 L) ((as.reverse ++ Value.ref a :: S').map (lf n0))) rfl (by rw [hml, ← hL]; simp) (Steps.refl _) (a := n0 + a) q1 q2 (argsL := as.map (lf n0)) (rest := S'.map (lf n0)) (lenOf hd (by simpa using hps)) (by simp [lf]) (by show 2 * 0 + _ ≤ _; rw [cat_sum]; omega) (hb hc' d) (fun _ _ => ⟨rfl, rfl, hc, hs⟩)
  dsimp only [Pt.U, Pt.locs, Pt.cells, Pt.slots] at X' e1 e2 e3 hR' st
  subst e1 e2 e3
  obtain ⟨t, o, h1, h2⟩ := hr v H' hq p e s m args below meth c T' _ X' hx hc' hml hret hlk hZ hown hnm (Fr.app hF hF') hR'
  refine ⟨t, o, st.trans ?_, h2⟩
  rw [lf_out]
  exact h1
theorem initObj {a : Nat} (hw : ∀ d ∈ W, d.before a0 Z = true) (w1 : W[i1]? = some (.methodLink B.1.cls idx Lib.objectInit)) (w2 : W[i2]? = some (.instanceMethod Lib.objectInit)) (w3 : W[i3]? = some (.code Lib.objectInit ⟨#[0xb1]⟩ 1 none)) (d : decode B.2.1 pc = .ok (.invokespecial idx, 3)) (hL : L.length = B.2.2.1)
    (hf : 1 ≤ R.frames) (hl : (S.map fun v => v.category).sum + 12 ≤ R.locals) (hr : WP l Z a0 n0 B R k n (pc + 3) L S H Q) : WP l Z a0 n0 B R k n pc L (.ref a :: S) H Q := by
  intro p e s m args below meth c T locs X hx hc hml hret hlk hZ hown hnm hF hR
  obtain ⟨T', X', e', st⟩ := initO X hx hZ hown (hw _ (List.mem_of_getElem? w1)) (hw _ (List.mem_of_getElem? w2)) (hw _ (List.mem_of_getElem? w3)) rfl (g := mkF m pc (LL n0 L) ((Value.ref a :: S).map (lf n0))) rfl (by rw [hml, ← hL]; simp) (a := n0 + a) (rest := S.map (lf n0)) rfl (hb hc d) hf (W := (S.map fun v => v.category).sum) (by show 2 * 0 + _ ≤ _; rw [cat_sum]; omega) hl
  obtain ⟨t, o, h1, h2⟩ := hr p e s m args below meth c T' locs X' hx hc hml hret hlk hZ hown hnm hF (by rw [e']; exact hR)
  exact ⟨t, o, st _ h1, h2⟩
end
end Jvm.Sh
namespace Jvm.Sh
open Jvm Jvm.ClassFile Sem Op Lib
theorem le {a b : Nat} (h : Nat.ble a b = true) : a ≤ b := Nat.le_of_ble_eq_true h
theorem s1_1 {a0 o : Slot} {L : List Slot} {v : Value} (ho : okS o = true) (hv : v.category = 1) : stOK (a0 :: o :: L) 1 v (a0 :: .val v :: L) := st1 (o := o) rfl ho hv rfl
theorem s1_2 {a0 a1 o : Slot} {L : List Slot} {v : Value} (ho : okS o = true) (hv : v.category = 1) : stOK (a0 :: a1 :: o :: L) 2 v (a0 :: a1 :: .val v :: L) := st1 (o := o) rfl ho hv rfl
theorem s1_3 {a0 a1 a2 o : Slot} {L : List Slot} {v : Value} (ho : okS o = true) (hv : v.category = 1) : stOK (a0 :: a1 :: a2 :: o :: L) 3 v (a0 :: a1 :: a2 :: .val v :: L) := st1 (o := o) rfl ho hv rfl
theorem s1_4 {a0 a1 a2 a3 o : Slot} {L : List Slot} {v : Value} (ho : okS o = true) (hv : v.category = 1) : stOK (a0 :: a1 :: a2 :: a3 :: o :: L) 4 v (a0 :: a1 :: a2 :: a3 :: .val v :: L) := st1 (o := o) rfl ho hv rfl
theorem s1_9 {a0 a1 a2 a3 a4 a5 a6 a7 a8 o : Slot} {L : List Slot} {v : Value} (ho : okS o = true) (hv : v.category = 1) : stOK (a0 :: a1 :: a2 :: a3 :: a4 :: a5 :: a6 :: a7 :: a8 :: o :: L) 9 v (a0 :: a1 :: a2 :: a3 :: a4 :: a5 :: a6 :: a7 :: a8 :: .val v :: L) := st1 (o := o) rfl ho hv rfl
theorem s1_10 {a0 a1 a2 a3 a4 a5 a6 a7 a8 a9 o : Slot} {L : List Slot} {v : Value} (ho : okS o = true) (hv : v.category = 1) : stOK (a0 :: a1 :: a2 :: a3 :: a4 :: a5 :: a6 :: a7 :: a8 :: a9 :: o :: L) 10 v (a0 :: a1 :: a2 :: a3 :: a4 :: a5 :: a6 :: a7 :: a8 :: a9 :: .val v :: L) := st1 (o := o) rfl ho hv rfl
theorem s1_11 {a0 a1 a2 a3 a4 a5 a6 a7 a8 a9 a10 o : Slot} {L : List Slot} {v : Value} (ho : okS o = true) (hv : v.category = 1) : stOK (a0 :: a1 :: a2 :: a3 :: a4 :: a5 :: a6 :: a7 :: a8 :: a9 :: a10 :: o :: L) 11 v (a0 :: a1 :: a2 :: a3 :: a4 :: a5 :: a6 :: a7 :: a8 :: a9 :: a10 :: .val v :: L) := st1 (o := o) rfl ho hv rfl
theorem s1_12 {a0 a1 a2 a3 a4 a5 a6 a7 a8 a9 a10 a11 o : Slot} {L : List Slot} {v : Value} (ho : okS o = true) (hv : v.category = 1) : stOK (a0 :: a1 :: a2 :: a3 :: a4 :: a5 :: a6 :: a7 :: a8 :: a9 :: a10 :: a11 :: o :: L) 12 v (a0 :: a1 :: a2 :: a3 :: a4 :: a5 :: a6 :: a7 :: a8 :: a9 :: a10 :: a11 :: .val v :: L) := st1 (o := o) rfl ho hv rfl
theorem s1_13 {a0 a1 a2 a3 a4 a5 a6 a7 a8 a9 a10 a11 a12 o : Slot} {L : List Slot} {v : Value} (ho : okS o = true) (hv : v.category = 1) : stOK (a0 :: a1 :: a2 :: a3 :: a4 :: a5 :: a6 :: a7 :: a8 :: a9 :: a10 :: a11 :: a12 :: o :: L) 13 v (a0 :: a1 :: a2 :: a3 :: a4 :: a5 :: a6 :: a7 :: a8 :: a9 :: a10 :: a11 :: a12 :: .val v :: L) := st1 (o := o) rfl ho hv rfl
theorem s1_14 {a0 a1 a2 a3 a4 a5 a6 a7 a8 a9 a10 a11 a12 a13 o : Slot} {L : List Slot} {v : Value} (ho : okS o = true) (hv : v.category = 1) : stOK (a0 :: a1 :: a2 :: a3 :: a4 :: a5 :: a6 :: a7 :: a8 :: a9 :: a10 :: a11 :: a12 :: a13 :: o :: L) 14 v (a0 :: a1 :: a2 :: a3 :: a4 :: a5 :: a6 :: a7 :: a8 :: a9 :: a10 :: a11 :: a12 :: a13 :: .val v :: L) := st1 (o := o) rfl ho hv rfl
theorem s1_15 {a0 a1 a2 a3 a4 a5 a6 a7 a8 a9 a10 a11 a12 a13 a14 o : Slot} {L : List Slot} {v : Value} (ho : okS o = true) (hv : v.category = 1) : stOK (a0 :: a1 :: a2 :: a3 :: a4 :: a5 :: a6 :: a7 :: a8 :: a9 :: a10 :: a11 :: a12 :: a13 :: a14 :: o :: L) 15 v (a0 :: a1 :: a2 :: a3 :: a4 :: a5 :: a6 :: a7 :: a8 :: a9 :: a10 :: a11 :: a12 :: a13 :: a14 :: .val v :: L) := st1 (o := o) rfl ho hv rfl
section
variable {α : Type}
theorem ls_0 { o v : α} {L : List α} : (o :: L).set 0 v = v :: L := rfl
theorem ls_1 {a0 o v : α} {L : List α} : (a0 :: o :: L).set 1 v = a0 :: v :: L := rfl
theorem ls_2 {a0 a1 o v : α} {L : List α} : (a0 :: a1 :: o :: L).set 2 v = a0 :: a1 :: v :: L := rfl
theorem ls_3 {a0 a1 a2 o v : α} {L : List α} : (a0 :: a1 :: a2 :: o :: L).set 3 v = a0 :: a1 :: a2 :: v :: L := rfl
theorem ls_4 {a0 a1 a2 a3 o v : α} {L : List α} : (a0 :: a1 :: a2 :: a3 :: o :: L).set 4 v = a0 :: a1 :: a2 :: a3 :: v :: L := rfl
theorem ls_5 {a0 a1 a2 a3 a4 o v : α} {L : List α} : (a0 :: a1 :: a2 :: a3 :: a4 :: o :: L).set 5 v = a0 :: a1 :: a2 :: a3 :: a4 :: v :: L := rfl
theorem ls_6 {a0 a1 a2 a3 a4 a5 o v : α} {L : List α} : (a0 :: a1 :: a2 :: a3 :: a4 :: a5 :: o :: L).set 6 v = a0 :: a1 :: a2 :: a3 :: a4 :: a5 :: v :: L := rfl
theorem ls_7 {a0 a1 a2 a3 a4 a5 a6 o v : α} {L : List α} : (a0 :: a1 :: a2 :: a3 :: a4 :: a5 :: a6 :: o :: L).set 7 v = a0 :: a1 :: a2 :: a3 :: a4 :: a5 :: a6 :: v :: L := rfl
theorem ap_0 { v : α} : [] ++ [v] = [v] := rfl
theorem ap_1 {a0 v : α} : [a0] ++ [v] = [a0, v] := rfl
theorem ap_2 {a0 a1 v : α} : [a0, a1] ++ [v] = [a0, a1, v] := rfl
theorem ap_3 {a0 a1 a2 v : α} : [a0, a1, a2] ++ [v] = [a0, a1, a2, v] := rfl
theorem ap_4 {a0 a1 a2 a3 v : α} : [a0, a1, a2, a3] ++ [v] = [a0, a1, a2, a3, v] := rfl
theorem rp_3 {v : α} : List.replicate 3 v = [v, v, v] := rfl
end
end Jvm.Sh
namespace Jvm.Sh
open Jvm Jvm.ClassFile Jvm.RoadKit
/-! small naturals as ints -/
theorem onToInt {a : Nat} (h : a < 2147483648) : (Int32.ofNat a).toInt = a := Int32.toInt_ofNat_of_lt h
theorem onLt {a b : Nat} (ha : a < 2147483648) (hb : b < 2147483648) : Int32.ofNat a < Int32.ofNat b ↔ a < b := by
  rw [Int32.lt_iff_toInt_lt, onToInt ha, onToInt hb]; omega
theorem onInj {a b : Nat} (ha : a < 2147483648) (hb : b < 2147483648) : Int32.ofNat a = Int32.ofNat b ↔ a = b := by
  rw [← Int32.toInt_inj, onToInt ha, onToInt hb]; omega
theorem onNN {a : Nat} (ha : a < 2147483648) : ¬ Int32.ofNat a < 0 := by
  rw [Int32.lt_iff_toInt_lt, onToInt ha, show (0 : Int32).toInt = 0 from by decide]; omega
theorem onCl {a : Nat} (ha : a < 2147483648) : (Int32.ofNat a).toNatClampNeg = a := by
  rw [Int32.toNatClampNeg, onToInt ha]; omega
theorem onAdd (a b : Nat) : Int32.ofNat a + Int32.ofNat b = Int32.ofNat (a + b) := (Int32.ofNat_add a b).symm
theorem onSucc (a : Nat) : Int32.ofNat a + 1 = Int32.ofNat (a + 1) := onAdd a 1
theorem onSub {a b : Nat} (h : b ≤ a) (ha : a < 2147483648) : Int32.ofNat a - Int32.ofNat b = Int32.ofNat (a - b) := by
  apply Int32.toInt_inj.mp
  have q := c_isub (Int32.ofNat a) (Int32.ofNat b)
  have r := rng32 (Int32.ofNat a - Int32.ofNat b)
  rw [onToInt ha, onToInt (show b < 2147483648 by omega)] at q
  rw [onToInt (show a - b < 2147483648 by omega)]
  omega
theorem onMul {a b : Nat} : Int32.ofNat a * Int32.ofNat b = Int32.ofNat (a * b) := (Int32.ofNat_mul a b).symm
theorem isNat (x : Int32) (h0 : 0 ≤ x.toInt) : ∃ r : Nat, (r : Int) = x.toInt ∧ r < 2147483648 ∧ x = Int32.ofNat r := by
  have := rng32 x
  refine ⟨x.toInt.toNat, by omega, by omega, Int32.toInt_inj.mp ?_⟩
  rw [onToInt (by omega)]
  omega
/-- (x & 0x7fffffff) % m is a natural below m -/
theorem remNat (x m : Int32) (M : Nat) (hm : m.toInt = M) (hM : 0 < M) : ∃ r, r < M ∧ (x &&& 2147483647) % m = Int32.ofNat r := by
  have h := (c_iremV (x &&& 2147483647) m).1 (c_and x 2147483647 (by decide)).1 (by omega)
  obtain ⟨r, h1, h2, h3⟩ := isNat _ h.1
  exact ⟨r, by omega, h3⟩
theorem remNat' (x m : Int32) (M : Nat) (hx : 0 ≤ x.toInt) (hm : m.toInt = M) (hM : 0 < M) : ∃ r, r < M ∧ x % m = Int32.ofNat r := by
  have h := (c_iremV x m).1 hx (by omega)
  obtain ⟨r, h1, h2, h3⟩ := isNat _ h.1
  exact ⟨r, by omega, h3⟩
theorem maskNat (x m : Int32) (k : Nat) (hk : k ≤ 31) (hm : m.toBitVec.toNat = 2 ^ k - 1) : ∃ r, r < 2 ^ k ∧ x &&& m = Int32.ofNat r := by
  have h := c_mask x m k hk hm
  have hp : (0 : Int) < (2 ^ k : Nat) := by have := Nat.two_pow_pos k; omega
  have h1 := Int.emod_nonneg x.toInt (Int.ne_of_gt hp)
  have h2 := Int.emod_lt_of_pos x.toInt hp
  obtain ⟨r, g1, g2, g3⟩ := isNat (x &&& m) (by omega)
  exact ⟨r, by omega, g3⟩
theorem ushrNN (x k : Int32) (n : Nat) (hk : k.toBitVec.toNat % 32 = n) (h0 : 0 < n) : 0 ≤ (Jvm.Free.XT.ushr x k).toInt := by
  have e : (Jvm.Free.XT.ushr x k).toInt = (x.toInt % 4294967296) / (2 ^ n : Nat) := c_iushr x k n hk h0
  rw [e]
  exact Int.ediv_nonneg (Int.emod_nonneg _ (by decide)) (Int.natCast_nonneg _)
theorem i8_idem (x : Int32) : x.toInt8.toInt32.toInt8.toInt32 = x.toInt8.toInt32 := by simp
end Jvm.Sh
namespace Jvm.Pilot.@@N@@
open Jvm Jvm.ClassFile Sem Op Lib Jvm.Free Jvm.Stand Jvm.LawKit Jvm.RoadKit Bundle Jvm.Pilot.@@N@@.Jvm.D
abbrev HW (Z : State) (a0 : Array Value) : Prop := ∀ d ∈ tables_1, d.before a0 Z = true
abbrev f_NodeQueue (v0 v1 v2 v3 v4 v5 v6 v7 : Value) : List (String × String × Value) := [("lineKey", "J", v0), ("heap", "[I", v1), ("places", "[I", v2), ("keys", "[J", v3), ("line", "[I", v4), ("size", "I", v5), ("lineFrom", "I", v6), ("lineTo", "I", v7)]
abbrev o_NodeQueue (v0 v1 v2 v3 v4 v5 v6 v7 : Value) : Sh.SC := .inl ("com/example/tideline/tideline/listrounding/NodeQueue", f_NodeQueue v0 v1 v2 v3 v4 v5 v6 v7)
theorem fs_NodeQueue : ∀ f ∈ f_NodeQueue (.long 0) (.null) (.null) (.null) (.null) (.int 0) (.int 0) (.int 0), (Jvm.Cond.lays "com/example/tideline/tideline/listrounding/NodeQueue" "com/example/tideline/tideline/listrounding/NodeQueue" f.1 f.2.1 ∈ tables_1 ∨ Jvm.Cond.laysFinal "com/example/tideline/tideline/listrounding/NodeQueue" "com/example/tideline/tideline/listrounding/NodeQueue" f.1 f.2.1 ∈ tables_1) ∧ ∃ ty, parseFieldDescriptor f.2.1 = some ty ∧ defaultValue ty = f.2.2 := by
  intro f hf
  simp only [List.mem_cons, List.not_mem_nil, or_false] at hf
  rcases hf with rfl | rfl | rfl | rfl | rfl | rfl | rfl | rfl
  · exact ⟨Or.inl (List.mem_of_getElem? (i := 11) rfl), .long, by decide +kernel, rfl⟩
  · exact ⟨Or.inr (List.mem_of_getElem? (i := 14) rfl), (.array .int), by decide +kernel, rfl⟩
  · exact ⟨Or.inr (List.mem_of_getElem? (i := 16) rfl), (.array .int), by decide +kernel, rfl⟩
  · exact ⟨Or.inr (List.mem_of_getElem? (i := 19) rfl), (.array .long), by decide +kernel, rfl⟩
  · exact ⟨Or.inr (List.mem_of_getElem? (i := 21) rfl), (.array .int), by decide +kernel, rfl⟩
  · exact ⟨Or.inl (List.mem_of_getElem? (i := 32) rfl), .int, by decide +kernel, rfl⟩
  · exact ⟨Or.inl (List.mem_of_getElem? (i := 47) rfl), .int, by decide +kernel, rfl⟩
  · exact ⟨Or.inl (List.mem_of_getElem? (i := 49) rfl), .int, by decide +kernel, rfl⟩
theorem nd_NodeQueue : ((f_NodeQueue (.long 0) (.null) (.null) (.null) (.null) (.int 0) (.int 0) (.int 0)).map (·.1)).Nodup := by decide
theorem d3_0 : decode jdk_65_method_103_code 0 = .ok (.iconst 0, 1) := by decide +kernel
theorem d3_1 : decode jdk_65_method_103_code 1 = .ok (.istore_n 2, 1) := by decide +kernel
theorem d3_2 : decode jdk_65_method_103_code 2 = .ok (.aload_n 0, 1) := by decide +kernel
theorem d3_3 : decode jdk_65_method_103_code 3 = .ok (.arraylength, 1) := by decide +kernel
theorem d3_4 : decode jdk_65_method_103_code 4 = .ok (.istore_n 3, 1) := by decide +kernel
theorem d3_5 : decode jdk_65_method_103_code 5 = .ok (.iload_n 2, 1) := by decide +kernel
theorem d3_6 : decode jdk_65_method_103_code 6 = .ok (.iload_n 3, 1) := by decide +kernel
theorem d3_7 : decode jdk_65_method_103_code 7 = .ok (.if_icmp .ge 13, 3) := by decide +kernel
theorem d3_10 : decode jdk_65_method_103_code 10 = .ok (.aload_n 0, 1) := by decide +kernel
theorem d3_11 : decode jdk_65_method_103_code 11 = .ok (.iload_n 2, 1) := by decide +kernel
theorem d3_12 : decode jdk_65_method_103_code 12 = .ok (.iload_n 1, 1) := by decide +kernel
theorem d3_13 : decode jdk_65_method_103_code 13 = .ok (.iastore, 1) := by decide +kernel
theorem d3_14 : decode jdk_65_method_103_code 14 = .ok (.iinc 2 1, 3) := by decide +kernel
theorem d3_17 : decode jdk_65_method_103_code 17 = .ok (.goto (-12), 3) := by decide +kernel
theorem d3_20 : decode jdk_65_method_103_code 20 = .ok (.return_, 1) := by decide +kernel
theorem pn3 : plainFor (⟨"java/util/Arrays", "fill", "([II)V"⟩ : MethodName) = true := by decide +kernel
theorem pd3 : parseMethodDescriptor "([II)V" = some ⟨[(.array .int), .int], none⟩ := by decide +kernel
def b3 : Sh.Bdy := (⟨"java/util/Arrays", "fill", "([II)V"⟩, jdk_65_method_103_code, 4, none)
def R3 : Room := { frames := 0, cells := 0, slots := 0, locals := 0 }
theorem d1_0 : decode prog_29_method_1_code 0 = .ok (.aload_n 0, 1) := by decide +kernel
theorem d1_1 : decode prog_29_method_1_code 1 = .ok (.invokespecial 1, 3) := by decide +kernel
theorem d1_4 : decode prog_29_method_1_code 4 = .ok (.aload_n 0, 1) := by decide +kernel
theorem d1_5 : decode prog_29_method_1_code 5 = .ok (.ldc2_w 9, 3) := by decide +kernel
theorem d1_8 : decode prog_29_method_1_code 8 = .ok (.putfield 11, 3) := by decide +kernel
theorem d1_11 : decode prog_29_method_1_code 11 = .ok (.aload_n 0, 1) := by decide +kernel
theorem d1_12 : decode prog_29_method_1_code 12 = .ok (.iload_n 1, 1) := by decide +kernel
theorem d1_13 : decode prog_29_method_1_code 13 = .ok (.newarray .int, 2) := by decide +kernel
theorem d1_15 : decode prog_29_method_1_code 15 = .ok (.putfield 17, 3) := by decide +kernel
theorem d1_18 : decode prog_29_method_1_code 18 = .ok (.aload_n 0, 1) := by decide +kernel
theorem d1_19 : decode prog_29_method_1_code 19 = .ok (.iload_n 1, 1) := by decide +kernel
theorem d1_20 : decode prog_29_method_1_code 20 = .ok (.newarray .int, 2) := by decide +kernel
theorem d1_22 : decode prog_29_method_1_code 22 = .ok (.putfield 21, 3) := by decide +kernel
theorem d1_25 : decode prog_29_method_1_code 25 = .ok (.aload_n 0, 1) := by decide +kernel
theorem d1_26 : decode prog_29_method_1_code 26 = .ok (.iload_n 1, 1) := by decide +kernel
theorem d1_27 : decode prog_29_method_1_code 27 = .ok (.newarray .long, 2) := by decide +kernel
theorem d1_29 : decode prog_29_method_1_code 29 = .ok (.putfield 24, 3) := by decide +kernel
theorem d1_32 : decode prog_29_method_1_code 32 = .ok (.aload_n 0, 1) := by decide +kernel
theorem d1_33 : decode prog_29_method_1_code 33 = .ok (.iload_n 1, 1) := by decide +kernel
theorem d1_34 : decode prog_29_method_1_code 34 = .ok (.newarray .int, 2) := by decide +kernel
theorem d1_36 : decode prog_29_method_1_code 36 = .ok (.putfield 28, 3) := by decide +kernel
theorem d1_39 : decode prog_29_method_1_code 39 = .ok (.aload_n 0, 1) := by decide +kernel
theorem d1_40 : decode prog_29_method_1_code 40 = .ok (.getfield 21, 3) := by decide +kernel
theorem d1_43 : decode prog_29_method_1_code 43 = .ok (.iconst (-1), 1) := by decide +kernel
theorem d1_44 : decode prog_29_method_1_code 44 = .ok (.invokestatic 31, 3) := by decide +kernel
theorem d1_47 : decode prog_29_method_1_code 47 = .ok (.return_, 1) := by decide +kernel
theorem pn1 : plainFor (⟨"com/example/tideline/tideline/listrounding/NodeQueue", "<init>", "(I)V"⟩ : MethodName) = true := plainFor_of_name (by first | (simp [plainName, overriddenIn]; done) | decide +kernel)
theorem pd1 : parseMethodDescriptor "(I)V" = some ⟨[.int], none⟩ := by decide +kernel
def b1 : Sh.Bdy := (⟨"com/example/tideline/tideline/listrounding/NodeQueue", "<init>", "(I)V"⟩, prog_29_method_1_code, 2, none)
def R1 : Room := { frames := 1, cells := 4, slots := 12, locals := 16 }
theorem d6_0 : decode prog_29_method_10_code 0 = .ok (.aload_n 0, 1) := by decide +kernel
theorem d6_1 : decode prog_29_method_10_code 1 = .ok (.getfield 17, 3) := by decide +kernel
theorem d6_4 : decode prog_29_method_10_code 4 = .ok (.iload_n 2, 1) := by decide +kernel
theorem d6_5 : decode prog_29_method_10_code 5 = .ok (.iload_n 1, 1) := by decide +kernel
theorem d6_6 : decode prog_29_method_10_code 6 = .ok (.iastore, 1) := by decide +kernel
theorem d6_7 : decode prog_29_method_10_code 7 = .ok (.aload_n 0, 1) := by decide +kernel
theorem d6_8 : decode prog_29_method_10_code 8 = .ok (.getfield 21, 3) := by decide +kernel
theorem d6_11 : decode prog_29_method_10_code 11 = .ok (.iload_n 1, 1) := by decide +kernel
theorem d6_12 : decode prog_29_method_10_code 12 = .ok (.iload_n 2, 1) := by decide +kernel
theorem d6_13 : decode prog_29_method_10_code 13 = .ok (.iastore, 1) := by decide +kernel
theorem d6_14 : decode prog_29_method_10_code 14 = .ok (.return_, 1) := by decide +kernel
theorem pn6 : plainFor (⟨"com/example/tideline/tideline/listrounding/NodeQueue", "place", "(II)V"⟩ : MethodName) = true := plainFor_of_name (by first | (simp [plainName, overriddenIn]; done) | decide +kernel)
theorem pd6 : parseMethodDescriptor "(II)V" = some ⟨[.int, .int], none⟩ := by decide +kernel
def b6 : Sh.Bdy := (⟨"com/example/tideline/tideline/listrounding/NodeQueue", "place", "(II)V"⟩, prog_29_method_10_code, 3, none)
def R6 : Room := { frames := 0, cells := 0, slots := 0, locals := 0 }
theorem d5_0 : decode prog_29_method_8_code 0 = .ok (.iload_n 2, 1) := by decide +kernel
theorem d5_1 : decode prog_29_method_8_code 1 = .ok (.istore_n 3, 1) := by decide +kernel
theorem d5_2 : decode prog_29_method_8_code 2 = .ok (.iload_n 3, 1) := by decide +kernel
theorem d5_3 : decode prog_29_method_8_code 3 = .ok (.ifCond .le 52, 3) := by decide +kernel
theorem d5_6 : decode prog_29_method_8_code 6 = .ok (.aload_n 0, 1) := by decide +kernel
theorem d5_7 : decode prog_29_method_8_code 7 = .ok (.getfield 24, 3) := by decide +kernel
theorem d5_10 : decode prog_29_method_8_code 10 = .ok (.iload_n 1, 1) := by decide +kernel
theorem d5_11 : decode prog_29_method_8_code 11 = .ok (.laload, 1) := by decide +kernel
theorem d5_12 : decode prog_29_method_8_code 12 = .ok (.aload_n 0, 1) := by decide +kernel
theorem d5_13 : decode prog_29_method_8_code 13 = .ok (.getfield 24, 3) := by decide +kernel
theorem d5_16 : decode prog_29_method_8_code 16 = .ok (.aload_n 0, 1) := by decide +kernel
theorem d5_17 : decode prog_29_method_8_code 17 = .ok (.getfield 17, 3) := by decide +kernel
theorem d5_20 : decode prog_29_method_8_code 20 = .ok (.iload_n 3, 1) := by decide +kernel
theorem d5_21 : decode prog_29_method_8_code 21 = .ok (.iconst 1, 1) := by decide +kernel
theorem d5_22 : decode prog_29_method_8_code 22 = .ok (.isub, 1) := by decide +kernel
theorem d5_23 : decode prog_29_method_8_code 23 = .ok (.iconst 2, 1) := by decide +kernel
theorem d5_24 : decode prog_29_method_8_code 24 = .ok (.idiv, 1) := by decide +kernel
theorem d5_25 : decode prog_29_method_8_code 25 = .ok (.iaload, 1) := by decide +kernel
theorem d5_26 : decode prog_29_method_8_code 26 = .ok (.laload, 1) := by decide +kernel
theorem d5_27 : decode prog_29_method_8_code 27 = .ok (.lcmp, 1) := by decide +kernel
theorem d5_28 : decode prog_29_method_8_code 28 = .ok (.ifCond .ge 27, 3) := by decide +kernel
theorem d5_31 : decode prog_29_method_8_code 31 = .ok (.aload_n 0, 1) := by decide +kernel
theorem d5_32 : decode prog_29_method_8_code 32 = .ok (.aload_n 0, 1) := by decide +kernel
theorem d5_33 : decode prog_29_method_8_code 33 = .ok (.getfield 17, 3) := by decide +kernel
theorem d5_36 : decode prog_29_method_8_code 36 = .ok (.iload_n 3, 1) := by decide +kernel
theorem d5_37 : decode prog_29_method_8_code 37 = .ok (.iconst 1, 1) := by decide +kernel
theorem d5_38 : decode prog_29_method_8_code 38 = .ok (.isub, 1) := by decide +kernel
theorem d5_39 : decode prog_29_method_8_code 39 = .ok (.iconst 2, 1) := by decide +kernel
theorem d5_40 : decode prog_29_method_8_code 40 = .ok (.idiv, 1) := by decide +kernel
theorem d5_41 : decode prog_29_method_8_code 41 = .ok (.iaload, 1) := by decide +kernel
theorem d5_42 : decode prog_29_method_8_code 42 = .ok (.iload_n 3, 1) := by decide +kernel
theorem d5_43 : decode prog_29_method_8_code 43 = .ok (.invokevirtual 58, 3) := by decide +kernel
theorem d5_46 : decode prog_29_method_8_code 46 = .ok (.iload_n 3, 1) := by decide +kernel
theorem d5_47 : decode prog_29_method_8_code 47 = .ok (.iconst 1, 1) := by decide +kernel
theorem d5_48 : decode prog_29_method_8_code 48 = .ok (.isub, 1) := by decide +kernel
theorem d5_49 : decode prog_29_method_8_code 49 = .ok (.iconst 2, 1) := by decide +kernel
theorem d5_50 : decode prog_29_method_8_code 50 = .ok (.idiv, 1) := by decide +kernel
theorem d5_51 : decode prog_29_method_8_code 51 = .ok (.istore_n 3, 1) := by decide +kernel
theorem d5_52 : decode prog_29_method_8_code 52 = .ok (.goto (-50), 3) := by decide +kernel
theorem d5_55 : decode prog_29_method_8_code 55 = .ok (.aload_n 0, 1) := by decide +kernel
theorem d5_56 : decode prog_29_method_8_code 56 = .ok (.iload_n 1, 1) := by decide +kernel
theorem d5_57 : decode prog_29_method_8_code 57 = .ok (.iload_n 3, 1) := by decide +kernel
theorem d5_58 : decode prog_29_method_8_code 58 = .ok (.invokevirtual 58, 3) := by decide +kernel
theorem d5_61 : decode prog_29_method_8_code 61 = .ok (.return_, 1) := by decide +kernel
theorem pn5 : plainFor (⟨"com/example/tideline/tideline/listrounding/NodeQueue", "siftUp", "(II)V"⟩ : MethodName) = true := plainFor_of_name (by first | (simp [plainName, overriddenIn]; done) | decide +kernel)
theorem pd5 : parseMethodDescriptor "(II)V" = some ⟨[.int, .int], none⟩ := by decide +kernel
def b5 : Sh.Bdy := (⟨"com/example/tideline/tideline/listrounding/NodeQueue", "siftUp", "(II)V"⟩, prog_29_method_8_code, 4, none)
def R5 : Room := { frames := 1, cells := 0, slots := 0, locals := 14 }
theorem d9_0 : decode prog_29_method_9_code 0 = .ok (.iload_n 2, 1) := by decide +kernel
theorem d9_1 : decode prog_29_method_9_code 1 = .ok (.istore_n 3, 1) := by decide +kernel
theorem d9_2 : decode prog_29_method_9_code 2 = .ok (.iconst 2, 1) := by decide +kernel
theorem d9_3 : decode prog_29_method_9_code 3 = .ok (.iload_n 3, 1) := by decide +kernel
theorem d9_4 : decode prog_29_method_9_code 4 = .ok (.imul, 1) := by decide +kernel
theorem d9_5 : decode prog_29_method_9_code 5 = .ok (.iconst 1, 1) := by decide +kernel
theorem d9_6 : decode prog_29_method_9_code 6 = .ok (.iadd, 1) := by decide +kernel
theorem d9_7 : decode prog_29_method_9_code 7 = .ok (.istore 4, 2) := by decide +kernel
theorem d9_9 : decode prog_29_method_9_code 9 = .ok (.iload 4, 2) := by decide +kernel
theorem d9_11 : decode prog_29_method_9_code 11 = .ok (.aload_n 0, 1) := by decide +kernel
theorem d9_12 : decode prog_29_method_9_code 12 = .ok (.getfield 37, 3) := by decide +kernel
theorem d9_15 : decode prog_29_method_9_code 15 = .ok (.if_icmp .ge 97, 3) := by decide +kernel
theorem d9_18 : decode prog_29_method_9_code 18 = .ok (.iload 4, 2) := by decide +kernel
theorem d9_20 : decode prog_29_method_9_code 20 = .ok (.iconst 1, 1) := by decide +kernel
theorem d9_21 : decode prog_29_method_9_code 21 = .ok (.iadd, 1) := by decide +kernel
theorem d9_22 : decode prog_29_method_9_code 22 = .ok (.aload_n 0, 1) := by decide +kernel
theorem d9_23 : decode prog_29_method_9_code 23 = .ok (.getfield 37, 3) := by decide +kernel
theorem d9_26 : decode prog_29_method_9_code 26 = .ok (.if_icmp .ge 36, 3) := by decide +kernel
theorem d9_29 : decode prog_29_method_9_code 29 = .ok (.aload_n 0, 1) := by decide +kernel
theorem d9_30 : decode prog_29_method_9_code 30 = .ok (.getfield 24, 3) := by decide +kernel
theorem d9_33 : decode prog_29_method_9_code 33 = .ok (.aload_n 0, 1) := by decide +kernel
theorem d9_34 : decode prog_29_method_9_code 34 = .ok (.getfield 17, 3) := by decide +kernel
theorem d9_37 : decode prog_29_method_9_code 37 = .ok (.iload 4, 2) := by decide +kernel
theorem d9_39 : decode prog_29_method_9_code 39 = .ok (.iconst 1, 1) := by decide +kernel
theorem d9_40 : decode prog_29_method_9_code 40 = .ok (.iadd, 1) := by decide +kernel
theorem d9_41 : decode prog_29_method_9_code 41 = .ok (.iaload, 1) := by decide +kernel
theorem d9_42 : decode prog_29_method_9_code 42 = .ok (.laload, 1) := by decide +kernel
theorem d9_43 : decode prog_29_method_9_code 43 = .ok (.aload_n 0, 1) := by decide +kernel
theorem d9_44 : decode prog_29_method_9_code 44 = .ok (.getfield 24, 3) := by decide +kernel
theorem d9_47 : decode prog_29_method_9_code 47 = .ok (.aload_n 0, 1) := by decide +kernel
theorem d9_48 : decode prog_29_method_9_code 48 = .ok (.getfield 17, 3) := by decide +kernel
theorem d9_51 : decode prog_29_method_9_code 51 = .ok (.iload 4, 2) := by decide +kernel
theorem d9_53 : decode prog_29_method_9_code 53 = .ok (.iaload, 1) := by decide +kernel
theorem d9_54 : decode prog_29_method_9_code 54 = .ok (.laload, 1) := by decide +kernel
theorem d9_55 : decode prog_29_method_9_code 55 = .ok (.lcmp, 1) := by decide +kernel
theorem d9_56 : decode prog_29_method_9_code 56 = .ok (.ifCond .ge 6, 3) := by decide +kernel
theorem d9_59 : decode prog_29_method_9_code 59 = .ok (.iinc 4 1, 3) := by decide +kernel
theorem d9_62 : decode prog_29_method_9_code 62 = .ok (.aload_n 0, 1) := by decide +kernel
theorem d9_63 : decode prog_29_method_9_code 63 = .ok (.getfield 24, 3) := by decide +kernel
theorem d9_66 : decode prog_29_method_9_code 66 = .ok (.aload_n 0, 1) := by decide +kernel
theorem d9_67 : decode prog_29_method_9_code 67 = .ok (.getfield 17, 3) := by decide +kernel
theorem d9_70 : decode prog_29_method_9_code 70 = .ok (.iload 4, 2) := by decide +kernel
theorem d9_72 : decode prog_29_method_9_code 72 = .ok (.iaload, 1) := by decide +kernel
theorem d9_73 : decode prog_29_method_9_code 73 = .ok (.laload, 1) := by decide +kernel
theorem d9_74 : decode prog_29_method_9_code 74 = .ok (.aload_n 0, 1) := by decide +kernel
theorem d9_75 : decode prog_29_method_9_code 75 = .ok (.getfield 24, 3) := by decide +kernel
theorem d9_78 : decode prog_29_method_9_code 78 = .ok (.iload_n 1, 1) := by decide +kernel
theorem d9_79 : decode prog_29_method_9_code 79 = .ok (.laload, 1) := by decide +kernel
theorem d9_80 : decode prog_29_method_9_code 80 = .ok (.lcmp, 1) := by decide +kernel
theorem d9_81 : decode prog_29_method_9_code 81 = .ok (.ifCond .lt 6, 3) := by decide +kernel
theorem d9_84 : decode prog_29_method_9_code 84 = .ok (.goto 28, 3) := by decide +kernel
theorem d9_87 : decode prog_29_method_9_code 87 = .ok (.aload_n 0, 1) := by decide +kernel
theorem d9_88 : decode prog_29_method_9_code 88 = .ok (.aload_n 0, 1) := by decide +kernel
theorem d9_89 : decode prog_29_method_9_code 89 = .ok (.getfield 17, 3) := by decide +kernel
theorem d9_92 : decode prog_29_method_9_code 92 = .ok (.iload 4, 2) := by decide +kernel
theorem d9_94 : decode prog_29_method_9_code 94 = .ok (.iaload, 1) := by decide +kernel
theorem d9_95 : decode prog_29_method_9_code 95 = .ok (.iload_n 3, 1) := by decide +kernel
theorem d9_96 : decode prog_29_method_9_code 96 = .ok (.invokevirtual 58, 3) := by decide +kernel
theorem d9_99 : decode prog_29_method_9_code 99 = .ok (.iload 4, 2) := by decide +kernel
theorem d9_101 : decode prog_29_method_9_code 101 = .ok (.istore_n 3, 1) := by decide +kernel
theorem d9_102 : decode prog_29_method_9_code 102 = .ok (.iconst 2, 1) := by decide +kernel
theorem d9_103 : decode prog_29_method_9_code 103 = .ok (.iload_n 3, 1) := by decide +kernel
theorem d9_104 : decode prog_29_method_9_code 104 = .ok (.imul, 1) := by decide +kernel
theorem d9_105 : decode prog_29_method_9_code 105 = .ok (.iconst 1, 1) := by decide +kernel
theorem d9_106 : decode prog_29_method_9_code 106 = .ok (.iadd, 1) := by decide +kernel
theorem d9_107 : decode prog_29_method_9_code 107 = .ok (.istore 4, 2) := by decide +kernel
theorem d9_109 : decode prog_29_method_9_code 109 = .ok (.goto (-100), 3) := by decide +kernel
theorem d9_112 : decode prog_29_method_9_code 112 = .ok (.aload_n 0, 1) := by decide +kernel
theorem d9_113 : decode prog_29_method_9_code 113 = .ok (.iload_n 1, 1) := by decide +kernel
theorem d9_114 : decode prog_29_method_9_code 114 = .ok (.iload_n 3, 1) := by decide +kernel
theorem d9_115 : decode prog_29_method_9_code 115 = .ok (.invokevirtual 58, 3) := by decide +kernel
theorem d9_118 : decode prog_29_method_9_code 118 = .ok (.return_, 1) := by decide +kernel
theorem pn9 : plainFor (⟨"com/example/tideline/tideline/listrounding/NodeQueue", "siftDown", "(II)V"⟩ : MethodName) = true := plainFor_of_name (by first | (simp [plainName, overriddenIn]; done) | decide +kernel)
theorem pd9 : parseMethodDescriptor "(II)V" = some ⟨[.int, .int], none⟩ := by decide +kernel
def b9 : Sh.Bdy := (⟨"com/example/tideline/tideline/listrounding/NodeQueue", "siftDown", "(II)V"⟩, prog_29_method_9_code, 5, none)
def R9 : Room := { frames := 1, cells := 0, slots := 0, locals := 14 }
theorem d8_0 : decode prog_29_method_7_code 0 = .ok (.aload_n 0, 1) := by decide +kernel
theorem d8_1 : decode prog_29_method_7_code 1 = .ok (.getfield 21, 3) := by decide +kernel
theorem d8_4 : decode prog_29_method_7_code 4 = .ok (.aload_n 0, 1) := by decide +kernel
theorem d8_5 : decode prog_29_method_7_code 5 = .ok (.getfield 17, 3) := by decide +kernel
theorem d8_8 : decode prog_29_method_7_code 8 = .ok (.iload_n 1, 1) := by decide +kernel
theorem d8_9 : decode prog_29_method_7_code 9 = .ok (.iaload, 1) := by decide +kernel
theorem d8_10 : decode prog_29_method_7_code 10 = .ok (.iconst (-1), 1) := by decide +kernel
theorem d8_11 : decode prog_29_method_7_code 11 = .ok (.iastore, 1) := by decide +kernel
theorem d8_12 : decode prog_29_method_7_code 12 = .ok (.aload_n 0, 1) := by decide +kernel
theorem d8_13 : decode prog_29_method_7_code 13 = .ok (.dup, 1) := by decide +kernel
theorem d8_14 : decode prog_29_method_7_code 14 = .ok (.getfield 37, 3) := by decide +kernel
theorem d8_17 : decode prog_29_method_7_code 17 = .ok (.iconst 1, 1) := by decide +kernel
theorem d8_18 : decode prog_29_method_7_code 18 = .ok (.isub, 1) := by decide +kernel
theorem d8_19 : decode prog_29_method_7_code 19 = .ok (.putfield 37, 3) := by decide +kernel
theorem d8_22 : decode prog_29_method_7_code 22 = .ok (.iload_n 1, 1) := by decide +kernel
theorem d8_23 : decode prog_29_method_7_code 23 = .ok (.aload_n 0, 1) := by decide +kernel
theorem d8_24 : decode prog_29_method_7_code 24 = .ok (.getfield 37, 3) := by decide +kernel
theorem d8_27 : decode prog_29_method_7_code 27 = .ok (.if_icmp .ge 35, 3) := by decide +kernel
theorem d8_30 : decode prog_29_method_7_code 30 = .ok (.aload_n 0, 1) := by decide +kernel
theorem d8_31 : decode prog_29_method_7_code 31 = .ok (.getfield 17, 3) := by decide +kernel
theorem d8_34 : decode prog_29_method_7_code 34 = .ok (.aload_n 0, 1) := by decide +kernel
theorem d8_35 : decode prog_29_method_7_code 35 = .ok (.getfield 37, 3) := by decide +kernel
theorem d8_38 : decode prog_29_method_7_code 38 = .ok (.iaload, 1) := by decide +kernel
theorem d8_39 : decode prog_29_method_7_code 39 = .ok (.istore_n 2, 1) := by decide +kernel
theorem d8_40 : decode prog_29_method_7_code 40 = .ok (.aload_n 0, 1) := by decide +kernel
theorem d8_41 : decode prog_29_method_7_code 41 = .ok (.iload_n 2, 1) := by decide +kernel
theorem d8_42 : decode prog_29_method_7_code 42 = .ok (.iload_n 1, 1) := by decide +kernel
theorem d8_43 : decode prog_29_method_7_code 43 = .ok (.invokevirtual 55, 3) := by decide +kernel
theorem d8_46 : decode prog_29_method_7_code 46 = .ok (.aload_n 0, 1) := by decide +kernel
theorem d8_47 : decode prog_29_method_7_code 47 = .ok (.getfield 21, 3) := by decide +kernel
theorem d8_50 : decode prog_29_method_7_code 50 = .ok (.iload_n 2, 1) := by decide +kernel
theorem d8_51 : decode prog_29_method_7_code 51 = .ok (.iaload, 1) := by decide +kernel
theorem d8_52 : decode prog_29_method_7_code 52 = .ok (.iload_n 1, 1) := by decide +kernel
theorem d8_53 : decode prog_29_method_7_code 53 = .ok (.if_icmp .ne 9, 3) := by decide +kernel
theorem d8_56 : decode prog_29_method_7_code 56 = .ok (.aload_n 0, 1) := by decide +kernel
theorem d8_57 : decode prog_29_method_7_code 57 = .ok (.iload_n 2, 1) := by decide +kernel
theorem d8_58 : decode prog_29_method_7_code 58 = .ok (.iload_n 1, 1) := by decide +kernel
theorem d8_59 : decode prog_29_method_7_code 59 = .ok (.invokevirtual 51, 3) := by decide +kernel
theorem d8_62 : decode prog_29_method_7_code 62 = .ok (.return_, 1) := by decide +kernel
theorem pn8 : plainFor (⟨"com/example/tideline/tideline/listrounding/NodeQueue", "remove", "(I)V"⟩ : MethodName) = true := plainFor_of_name (by first | (simp [plainName, overriddenIn]; done) | decide +kernel)
theorem pd8 : parseMethodDescriptor "(I)V" = some ⟨[.int], none⟩ := by decide +kernel
def b8 : Sh.Bdy := (⟨"com/example/tideline/tideline/listrounding/NodeQueue", "remove", "(I)V"⟩, prog_29_method_7_code, 3, none)
def R8 : Room := { frames := 2, cells := 0, slots := 0, locals := 30 }
theorem d7_0 : decode prog_29_method_6_code 0 = .ok (.aload_n 0, 1) := by decide +kernel
theorem d7_1 : decode prog_29_method_6_code 1 = .ok (.getfield 41, 3) := by decide +kernel
theorem d7_4 : decode prog_29_method_6_code 4 = .ok (.aload_n 0, 1) := by decide +kernel
theorem d7_5 : decode prog_29_method_6_code 5 = .ok (.getfield 44, 3) := by decide +kernel
theorem d7_8 : decode prog_29_method_6_code 8 = .ok (.if_icmp .ge 26, 3) := by decide +kernel
theorem d7_11 : decode prog_29_method_6_code 11 = .ok (.aload_n 0, 1) := by decide +kernel
theorem d7_12 : decode prog_29_method_6_code 12 = .ok (.getfield 28, 3) := by decide +kernel
theorem d7_15 : decode prog_29_method_6_code 15 = .ok (.aload_n 0, 1) := by decide +kernel
theorem d7_16 : decode prog_29_method_6_code 16 = .ok (.getfield 41, 3) := by decide +kernel
theorem d7_19 : decode prog_29_method_6_code 19 = .ok (.iaload, 1) := by decide +kernel
theorem d7_20 : decode prog_29_method_6_code 20 = .ok (.istore_n 1, 1) := by decide +kernel
theorem d7_21 : decode prog_29_method_6_code 21 = .ok (.aload_n 0, 1) := by decide +kernel
theorem d7_22 : decode prog_29_method_6_code 22 = .ok (.dup, 1) := by decide +kernel
theorem d7_23 : decode prog_29_method_6_code 23 = .ok (.getfield 41, 3) := by decide +kernel
theorem d7_26 : decode prog_29_method_6_code 26 = .ok (.iconst 1, 1) := by decide +kernel
theorem d7_27 : decode prog_29_method_6_code 27 = .ok (.iadd, 1) := by decide +kernel
theorem d7_28 : decode prog_29_method_6_code 28 = .ok (.putfield 41, 3) := by decide +kernel
theorem d7_31 : decode prog_29_method_6_code 31 = .ok (.goto 35, 3) := by decide +kernel
theorem d7_34 : decode prog_29_method_6_code 34 = .ok (.aload_n 0, 1) := by decide +kernel
theorem d7_35 : decode prog_29_method_6_code 35 = .ok (.getfield 17, 3) := by decide +kernel
theorem d7_38 : decode prog_29_method_6_code 38 = .ok (.iconst 0, 1) := by decide +kernel
theorem d7_39 : decode prog_29_method_6_code 39 = .ok (.iaload, 1) := by decide +kernel
theorem d7_40 : decode prog_29_method_6_code 40 = .ok (.istore_n 1, 1) := by decide +kernel
theorem d7_41 : decode prog_29_method_6_code 41 = .ok (.aload_n 0, 1) := by decide +kernel
theorem d7_42 : decode prog_29_method_6_code 42 = .ok (.aload_n 0, 1) := by decide +kernel
theorem d7_43 : decode prog_29_method_6_code 43 = .ok (.getfield 24, 3) := by decide +kernel
theorem d7_46 : decode prog_29_method_6_code 46 = .ok (.iload_n 1, 1) := by decide +kernel
theorem d7_47 : decode prog_29_method_6_code 47 = .ok (.laload, 1) := by decide +kernel
theorem d7_48 : decode prog_29_method_6_code 48 = .ok (.putfield 11, 3) := by decide +kernel
theorem d7_51 : decode prog_29_method_6_code 51 = .ok (.aload_n 0, 1) := by decide +kernel
theorem d7_52 : decode prog_29_method_6_code 52 = .ok (.iconst 0, 1) := by decide +kernel
theorem d7_53 : decode prog_29_method_6_code 53 = .ok (.putfield 41, 3) := by decide +kernel
theorem d7_56 : decode prog_29_method_6_code 56 = .ok (.aload_n 0, 1) := by decide +kernel
theorem d7_57 : decode prog_29_method_6_code 57 = .ok (.iconst 0, 1) := by decide +kernel
theorem d7_58 : decode prog_29_method_6_code 58 = .ok (.putfield 44, 3) := by decide +kernel
theorem d7_61 : decode prog_29_method_6_code 61 = .ok (.aload_n 0, 1) := by decide +kernel
theorem d7_62 : decode prog_29_method_6_code 62 = .ok (.iconst 0, 1) := by decide +kernel
theorem d7_63 : decode prog_29_method_6_code 63 = .ok (.invokevirtual 47, 3) := by decide +kernel
theorem d7_66 : decode prog_29_method_6_code 66 = .ok (.aload_n 0, 1) := by decide +kernel
theorem d7_67 : decode prog_29_method_6_code 67 = .ok (.getfield 21, 3) := by decide +kernel
theorem d7_70 : decode prog_29_method_6_code 70 = .ok (.iload_n 1, 1) := by decide +kernel
theorem d7_71 : decode prog_29_method_6_code 71 = .ok (.iconst (-1), 1) := by decide +kernel
theorem d7_72 : decode prog_29_method_6_code 72 = .ok (.iastore, 1) := by decide +kernel
theorem d7_73 : decode prog_29_method_6_code 73 = .ok (.iload_n 1, 1) := by decide +kernel
theorem d7_74 : decode prog_29_method_6_code 74 = .ok (.ireturn, 1) := by decide +kernel
theorem pn7 : plainFor (⟨"com/example/tideline/tideline/listrounding/NodeQueue", "poll", "()I"⟩ : MethodName) = true := plainFor_of_name (by first | (simp [plainName, overriddenIn]; done) | decide +kernel)
theorem pd7 : parseMethodDescriptor "()I" = some ⟨[], some .int⟩ := by decide +kernel
def b7 : Sh.Bdy := (⟨"com/example/tideline/tideline/listrounding/NodeQueue", "poll", "()I"⟩, prog_29_method_6_code, 2, some .int)
def R7 : Room := { frames := 3, cells := 0, slots := 0, locals := 44 }
theorem d4_0 : decode prog_29_method_5_code 0 = .ok (.aload_n 0, 1) := by decide +kernel
theorem d4_1 : decode prog_29_method_5_code 1 = .ok (.getfield 21, 3) := by decide +kernel
theorem d4_4 : decode prog_29_method_5_code 4 = .ok (.iload_n 1, 1) := by decide +kernel
theorem d4_5 : decode prog_29_method_5_code 5 = .ok (.iaload, 1) := by decide +kernel
theorem d4_6 : decode prog_29_method_5_code 6 = .ok (.istore 4, 2) := by decide +kernel
theorem d4_8 : decode prog_29_method_5_code 8 = .ok (.iload 4, 2) := by decide +kernel
theorem d4_10 : decode prog_29_method_5_code 10 = .ok (.bipush (-2), 2) := by decide +kernel
theorem d4_12 : decode prog_29_method_5_code 12 = .ok (.if_icmp .eq 19, 3) := by decide +kernel
theorem d4_15 : decode prog_29_method_5_code 15 = .ok (.iload 4, 2) := by decide +kernel
theorem d4_17 : decode prog_29_method_5_code 17 = .ok (.ifCond .lt 15, 3) := by decide +kernel
theorem d4_20 : decode prog_29_method_5_code 20 = .ok (.lload_n 2, 1) := by decide +kernel
theorem d4_21 : decode prog_29_method_5_code 21 = .ok (.aload_n 0, 1) := by decide +kernel
theorem d4_22 : decode prog_29_method_5_code 22 = .ok (.getfield 24, 3) := by decide +kernel
theorem d4_25 : decode prog_29_method_5_code 25 = .ok (.iload_n 1, 1) := by decide +kernel
theorem d4_26 : decode prog_29_method_5_code 26 = .ok (.laload, 1) := by decide +kernel
theorem d4_27 : decode prog_29_method_5_code 27 = .ok (.lcmp, 1) := by decide +kernel
theorem d4_28 : decode prog_29_method_5_code 28 = .ok (.ifCond .lt 4, 3) := by decide +kernel
theorem d4_31 : decode prog_29_method_5_code 31 = .ok (.return_, 1) := by decide +kernel
theorem d4_32 : decode prog_29_method_5_code 32 = .ok (.aload_n 0, 1) := by decide +kernel
theorem d4_33 : decode prog_29_method_5_code 33 = .ok (.getfield 24, 3) := by decide +kernel
theorem d4_36 : decode prog_29_method_5_code 36 = .ok (.iload_n 1, 1) := by decide +kernel
theorem d4_37 : decode prog_29_method_5_code 37 = .ok (.lload_n 2, 1) := by decide +kernel
theorem d4_38 : decode prog_29_method_5_code 38 = .ok (.lastore, 1) := by decide +kernel
theorem d4_39 : decode prog_29_method_5_code 39 = .ok (.lload_n 2, 1) := by decide +kernel
theorem d4_40 : decode prog_29_method_5_code 40 = .ok (.aload_n 0, 1) := by decide +kernel
theorem d4_41 : decode prog_29_method_5_code 41 = .ok (.getfield 11, 3) := by decide +kernel
theorem d4_44 : decode prog_29_method_5_code 44 = .ok (.lcmp, 1) := by decide +kernel
theorem d4_45 : decode prog_29_method_5_code 45 = .ok (.ifCond .ne 45, 3) := by decide +kernel
theorem d4_48 : decode prog_29_method_5_code 48 = .ok (.iload 4, 2) := by decide +kernel
theorem d4_50 : decode prog_29_method_5_code 50 = .ok (.ifCond .lt 9, 3) := by decide +kernel
theorem d4_53 : decode prog_29_method_5_code 53 = .ok (.aload_n 0, 1) := by decide +kernel
theorem d4_54 : decode prog_29_method_5_code 54 = .ok (.iload 4, 2) := by decide +kernel
theorem d4_56 : decode prog_29_method_5_code 56 = .ok (.invokevirtual 47, 3) := by decide +kernel
theorem d4_59 : decode prog_29_method_5_code 59 = .ok (.aload_n 0, 1) := by decide +kernel
theorem d4_60 : decode prog_29_method_5_code 60 = .ok (.getfield 21, 3) := by decide +kernel
theorem d4_63 : decode prog_29_method_5_code 63 = .ok (.iload_n 1, 1) := by decide +kernel
theorem d4_64 : decode prog_29_method_5_code 64 = .ok (.bipush (-2), 2) := by decide +kernel
theorem d4_66 : decode prog_29_method_5_code 66 = .ok (.iastore, 1) := by decide +kernel
theorem d4_67 : decode prog_29_method_5_code 67 = .ok (.aload_n 0, 1) := by decide +kernel
theorem d4_68 : decode prog_29_method_5_code 68 = .ok (.getfield 28, 3) := by decide +kernel
theorem d4_71 : decode prog_29_method_5_code 71 = .ok (.aload_n 0, 1) := by decide +kernel
theorem d4_72 : decode prog_29_method_5_code 72 = .ok (.getfield 44, 3) := by decide +kernel
theorem d4_75 : decode prog_29_method_5_code 75 = .ok (.iload_n 1, 1) := by decide +kernel
theorem d4_76 : decode prog_29_method_5_code 76 = .ok (.iastore, 1) := by decide +kernel
theorem d4_77 : decode prog_29_method_5_code 77 = .ok (.aload_n 0, 1) := by decide +kernel
theorem d4_78 : decode prog_29_method_5_code 78 = .ok (.dup, 1) := by decide +kernel
theorem d4_79 : decode prog_29_method_5_code 79 = .ok (.getfield 44, 3) := by decide +kernel
theorem d4_82 : decode prog_29_method_5_code 82 = .ok (.iconst 1, 1) := by decide +kernel
theorem d4_83 : decode prog_29_method_5_code 83 = .ok (.iadd, 1) := by decide +kernel
theorem d4_84 : decode prog_29_method_5_code 84 = .ok (.putfield 44, 3) := by decide +kernel
theorem d4_87 : decode prog_29_method_5_code 87 = .ok (.goto 29, 3) := by decide +kernel
theorem d4_90 : decode prog_29_method_5_code 90 = .ok (.aload_n 0, 1) := by decide +kernel
theorem d4_91 : decode prog_29_method_5_code 91 = .ok (.iload_n 1, 1) := by decide +kernel
theorem d4_92 : decode prog_29_method_5_code 92 = .ok (.iload 4, 2) := by decide +kernel
theorem d4_94 : decode prog_29_method_5_code 94 = .ok (.ifCond .ge 17, 3) := by decide +kernel
theorem d4_97 : decode prog_29_method_5_code 97 = .ok (.aload_n 0, 1) := by decide +kernel
theorem d4_98 : decode prog_29_method_5_code 98 = .ok (.dup, 1) := by decide +kernel
theorem d4_99 : decode prog_29_method_5_code 99 = .ok (.getfield 37, 3) := by decide +kernel
theorem d4_102 : decode prog_29_method_5_code 102 = .ok (.dup_x1, 1) := by decide +kernel
theorem d4_103 : decode prog_29_method_5_code 103 = .ok (.iconst 1, 1) := by decide +kernel
theorem d4_104 : decode prog_29_method_5_code 104 = .ok (.iadd, 1) := by decide +kernel
theorem d4_105 : decode prog_29_method_5_code 105 = .ok (.putfield 37, 3) := by decide +kernel
theorem d4_108 : decode prog_29_method_5_code 108 = .ok (.goto 5, 3) := by decide +kernel
theorem d4_111 : decode prog_29_method_5_code 111 = .ok (.iload 4, 2) := by decide +kernel
theorem d4_113 : decode prog_29_method_5_code 113 = .ok (.invokevirtual 51, 3) := by decide +kernel
theorem d4_116 : decode prog_29_method_5_code 116 = .ok (.return_, 1) := by decide +kernel
theorem pn4 : plainFor (⟨"com/example/tideline/tideline/listrounding/NodeQueue", "offer", "(IJ)V"⟩ : MethodName) = true := plainFor_of_name (by first | (simp [plainName, overriddenIn]; done) | decide +kernel)
theorem pd4 : parseMethodDescriptor "(IJ)V" = some ⟨[.int, .long], none⟩ := by decide +kernel
def b4 : Sh.Bdy := (⟨"com/example/tideline/tideline/listrounding/NodeQueue", "offer", "(IJ)V"⟩, prog_29_method_5_code, 5, none)
def R4 : Room := { frames := 2, cells := 0, slots := 0, locals := 29 }
theorem d10_0 : decode jdk_29_method_70_code 0 = .ok (.lload_n 0, 1) := by decide +kernel
theorem d10_1 : decode jdk_29_method_70_code 1 = .ok (.lload_n 2, 1) := by decide +kernel
theorem d10_2 : decode jdk_29_method_70_code 2 = .ok (.lcmp, 1) := by decide +kernel
theorem d10_3 : decode jdk_29_method_70_code 3 = .ok (.ifCond .gt 7, 3) := by decide +kernel
theorem d10_6 : decode jdk_29_method_70_code 6 = .ok (.lload_n 0, 1) := by decide +kernel
theorem d10_7 : decode jdk_29_method_70_code 7 = .ok (.goto 4, 3) := by decide +kernel
theorem d10_10 : decode jdk_29_method_70_code 10 = .ok (.lload_n 2, 1) := by decide +kernel
theorem d10_11 : decode jdk_29_method_70_code 11 = .ok (.lreturn, 1) := by decide +kernel
theorem pn10 : plainFor (⟨"java/lang/Math", "min", "(JJ)J"⟩ : MethodName) = true := by decide +kernel
theorem pd10 : parseMethodDescriptor "(JJ)J" = some ⟨[.long, .long], some .long⟩ := by decide +kernel
def b10 : Sh.Bdy := (⟨"java/lang/Math", "min", "(JJ)J"⟩, jdk_29_method_70_code, 4, some .long)
def R10 : Room := { frames := 0, cells := 0, slots := 0, locals := 0 }
theorem d11_0 : decode prog_29_method_2_code 0 = .ok (.iconst 0, 1) := by decide +kernel
theorem d11_1 : decode prog_29_method_2_code 1 = .ok (.istore_n 1, 1) := by decide +kernel
theorem d11_2 : decode prog_29_method_2_code 2 = .ok (.iload_n 1, 1) := by decide +kernel
theorem d11_3 : decode prog_29_method_2_code 3 = .ok (.aload_n 0, 1) := by decide +kernel
theorem d11_4 : decode prog_29_method_2_code 4 = .ok (.getfield 37, 3) := by decide +kernel
theorem d11_7 : decode prog_29_method_2_code 7 = .ok (.if_icmp .ge 21, 3) := by decide +kernel
theorem d11_10 : decode prog_29_method_2_code 10 = .ok (.aload_n 0, 1) := by decide +kernel
theorem d11_11 : decode prog_29_method_2_code 11 = .ok (.getfield 21, 3) := by decide +kernel
theorem d11_14 : decode prog_29_method_2_code 14 = .ok (.aload_n 0, 1) := by decide +kernel
theorem d11_15 : decode prog_29_method_2_code 15 = .ok (.getfield 17, 3) := by decide +kernel
theorem d11_18 : decode prog_29_method_2_code 18 = .ok (.iload_n 1, 1) := by decide +kernel
theorem d11_19 : decode prog_29_method_2_code 19 = .ok (.iaload, 1) := by decide +kernel
theorem d11_20 : decode prog_29_method_2_code 20 = .ok (.iconst (-1), 1) := by decide +kernel
theorem d11_21 : decode prog_29_method_2_code 21 = .ok (.iastore, 1) := by decide +kernel
theorem d11_22 : decode prog_29_method_2_code 22 = .ok (.iinc 1 1, 3) := by decide +kernel
theorem d11_25 : decode prog_29_method_2_code 25 = .ok (.goto (-23), 3) := by decide +kernel
theorem d11_28 : decode prog_29_method_2_code 28 = .ok (.aload_n 0, 1) := by decide +kernel
theorem d11_29 : decode prog_29_method_2_code 29 = .ok (.getfield 41, 3) := by decide +kernel
theorem d11_32 : decode prog_29_method_2_code 32 = .ok (.istore_n 1, 1) := by decide +kernel
theorem d11_33 : decode prog_29_method_2_code 33 = .ok (.iload_n 1, 1) := by decide +kernel
theorem d11_34 : decode prog_29_method_2_code 34 = .ok (.aload_n 0, 1) := by decide +kernel
theorem d11_35 : decode prog_29_method_2_code 35 = .ok (.getfield 44, 3) := by decide +kernel
theorem d11_38 : decode prog_29_method_2_code 38 = .ok (.if_icmp .ge 21, 3) := by decide +kernel
theorem d11_41 : decode prog_29_method_2_code 41 = .ok (.aload_n 0, 1) := by decide +kernel
theorem d11_42 : decode prog_29_method_2_code 42 = .ok (.getfield 21, 3) := by decide +kernel
theorem d11_45 : decode prog_29_method_2_code 45 = .ok (.aload_n 0, 1) := by decide +kernel
theorem d11_46 : decode prog_29_method_2_code 46 = .ok (.getfield 28, 3) := by decide +kernel
theorem d11_49 : decode prog_29_method_2_code 49 = .ok (.iload_n 1, 1) := by decide +kernel
theorem d11_50 : decode prog_29_method_2_code 50 = .ok (.iaload, 1) := by decide +kernel
theorem d11_51 : decode prog_29_method_2_code 51 = .ok (.iconst (-1), 1) := by decide +kernel
theorem d11_52 : decode prog_29_method_2_code 52 = .ok (.iastore, 1) := by decide +kernel
theorem d11_53 : decode prog_29_method_2_code 53 = .ok (.iinc 1 1, 3) := by decide +kernel
theorem d11_56 : decode prog_29_method_2_code 56 = .ok (.goto (-23), 3) := by decide +kernel
theorem d11_59 : decode prog_29_method_2_code 59 = .ok (.aload_n 0, 1) := by decide +kernel
theorem d11_60 : decode prog_29_method_2_code 60 = .ok (.iconst 0, 1) := by decide +kernel
theorem d11_61 : decode prog_29_method_2_code 61 = .ok (.putfield 37, 3) := by decide +kernel
theorem d11_64 : decode prog_29_method_2_code 64 = .ok (.aload_n 0, 1) := by decide +kernel
theorem d11_65 : decode prog_29_method_2_code 65 = .ok (.iconst 0, 1) := by decide +kernel
theorem d11_66 : decode prog_29_method_2_code 66 = .ok (.putfield 41, 3) := by decide +kernel
theorem d11_69 : decode prog_29_method_2_code 69 = .ok (.aload_n 0, 1) := by decide +kernel
theorem d11_70 : decode prog_29_method_2_code 70 = .ok (.iconst 0, 1) := by decide +kernel
theorem d11_71 : decode prog_29_method_2_code 71 = .ok (.putfield 44, 3) := by decide +kernel
theorem d11_74 : decode prog_29_method_2_code 74 = .ok (.aload_n 0, 1) := by decide +kernel
theorem d11_75 : decode prog_29_method_2_code 75 = .ok (.ldc2_w 9, 3) := by decide +kernel
theorem d11_78 : decode prog_29_method_2_code 78 = .ok (.putfield 11, 3) := by decide +kernel
theorem d11_81 : decode prog_29_method_2_code 81 = .ok (.return_, 1) := by decide +kernel
theorem pn11 : plainFor (⟨"com/example/tideline/tideline/listrounding/NodeQueue", "clear", "()V"⟩ : MethodName) = true := plainFor_of_name (by first | (simp [plainName, overriddenIn]; done) | decide +kernel)
theorem pd11 : parseMethodDescriptor "()V" = some ⟨[], none⟩ := by decide +kernel
def b11 : Sh.Bdy := (⟨"com/example/tideline/tideline/listrounding/NodeQueue", "clear", "()V"⟩, prog_29_method_2_code, 2, none)
def R11 : Room := { frames := 0, cells := 0, slots := 0, locals := 0 }
theorem d12_0 : decode prog_29_method_3_code 0 = .ok (.aload_n 0, 1) := by decide +kernel
theorem d12_1 : decode prog_29_method_3_code 1 = .ok (.getfield 37, 3) := by decide +kernel
theorem d12_4 : decode prog_29_method_3_code 4 = .ok (.ifCond .ne 18, 3) := by decide +kernel
theorem d12_7 : decode prog_29_method_3_code 7 = .ok (.aload_n 0, 1) := by decide +kernel
theorem d12_8 : decode prog_29_method_3_code 8 = .ok (.getfield 41, 3) := by decide +kernel
theorem d12_11 : decode prog_29_method_3_code 11 = .ok (.aload_n 0, 1) := by decide +kernel
theorem d12_12 : decode prog_29_method_3_code 12 = .ok (.getfield 44, 3) := by decide +kernel
theorem d12_15 : decode prog_29_method_3_code 15 = .ok (.if_icmp .ne 7, 3) := by decide +kernel
theorem d12_18 : decode prog_29_method_3_code 18 = .ok (.iconst 1, 1) := by decide +kernel
theorem d12_19 : decode prog_29_method_3_code 19 = .ok (.goto 4, 3) := by decide +kernel
theorem d12_22 : decode prog_29_method_3_code 22 = .ok (.iconst 0, 1) := by decide +kernel
theorem d12_23 : decode prog_29_method_3_code 23 = .ok (.ireturn, 1) := by decide +kernel
theorem pn12 : plainFor (⟨"com/example/tideline/tideline/listrounding/NodeQueue", "isEmpty", "()Z"⟩ : MethodName) = true := plainFor_of_name (by first | (simp [plainName, overriddenIn]; done) | decide +kernel)
theorem pd12 : parseMethodDescriptor "()Z" = some ⟨[], some .boolean⟩ := by decide +kernel
def b12 : Sh.Bdy := (⟨"com/example/tideline/tideline/listrounding/NodeQueue", "isEmpty", "()Z"⟩, prog_29_method_3_code, 1, some .boolean)
def R12 : Room := { frames := 0, cells := 0, slots := 0, locals := 0 }
theorem d13_0 : decode prog_29_method_4_code 0 = .ok (.aload_n 0, 1) := by decide +kernel
theorem d13_1 : decode prog_29_method_4_code 1 = .ok (.getfield 41, 3) := by decide +kernel
theorem d13_4 : decode prog_29_method_4_code 4 = .ok (.aload_n 0, 1) := by decide +kernel
theorem d13_5 : decode prog_29_method_4_code 5 = .ok (.getfield 44, 3) := by decide +kernel
theorem d13_8 : decode prog_29_method_4_code 8 = .ok (.if_icmp .ge 10, 3) := by decide +kernel
theorem d13_11 : decode prog_29_method_4_code 11 = .ok (.aload_n 0, 1) := by decide +kernel
theorem d13_12 : decode prog_29_method_4_code 12 = .ok (.getfield 11, 3) := by decide +kernel
theorem d13_15 : decode prog_29_method_4_code 15 = .ok (.goto 14, 3) := by decide +kernel
theorem d13_18 : decode prog_29_method_4_code 18 = .ok (.aload_n 0, 1) := by decide +kernel
theorem d13_19 : decode prog_29_method_4_code 19 = .ok (.getfield 24, 3) := by decide +kernel
theorem d13_22 : decode prog_29_method_4_code 22 = .ok (.aload_n 0, 1) := by decide +kernel
theorem d13_23 : decode prog_29_method_4_code 23 = .ok (.getfield 17, 3) := by decide +kernel
theorem d13_26 : decode prog_29_method_4_code 26 = .ok (.iconst 0, 1) := by decide +kernel
theorem d13_27 : decode prog_29_method_4_code 27 = .ok (.iaload, 1) := by decide +kernel
theorem d13_28 : decode prog_29_method_4_code 28 = .ok (.laload, 1) := by decide +kernel
theorem d13_29 : decode prog_29_method_4_code 29 = .ok (.lreturn, 1) := by decide +kernel
theorem pn13 : plainFor (⟨"com/example/tideline/tideline/listrounding/NodeQueue", "peekKey", "()J"⟩ : MethodName) = true := plainFor_of_name (by first | (simp [plainName, overriddenIn]; done) | decide +kernel)
theorem pd13 : parseMethodDescriptor "()J" = some ⟨[], some .long⟩ := by decide +kernel
def b13 : Sh.Bdy := (⟨"com/example/tideline/tideline/listrounding/NodeQueue", "peekKey", "()J"⟩, prog_29_method_4_code, 1, some .long)
def R13 : Room := { frames := 0, cells := 0, slots := 0, locals := 0 }
theorem pn0 : plainFor (⟨"com/example/tideline/tideline/listrounding/NodeQueueClearPinLaw", "law", "(JJJJI)Z"⟩ : MethodName) = true := plainFor_of_name (by first | (simp [plainName, overriddenIn]; done) | decide +kernel)
theorem pd0 : parseMethodDescriptor "(JJJJI)Z" = some ⟨[.long, .long, .long, .long, .int], some .boolean⟩ := by decide +kernel
def b0 : Sh.Bdy := (x, code, maxLocals, ret)
abbrev own_H (lk : Int64) (hp pl ks ln : List Value) (s lf lt : Int32) : Sh.SH := [o_NodeQueue (.long lk) (.ref 1) (.ref 2) (.ref 3) (.ref 4) (.int s) (.int lf) (.int lt), .inr (.int, hp), .inr (.int, pl), .inr (.long, ks), .inr (.int, ln)]
theorem own_ne2 (ix : Nat) (h : ix < 100) : ¬ Int32.ofNat ix = -2 := fun q => by
  have := congrArg Int32.toInt q
  rw [Sh.onToInt (by omega), show (-2 : Int32).toInt = -2 from by decide] at this
  omega
theorem own_nlt (x : Int64) : ¬ x < (-9223372036854775808) := by
  rw [Int64.lt_iff_toInt_lt, show (-9223372036854775808 : Int64).toInt = -9223372036854775808 from by decide]
  have := rng64 x
  omega
theorem own_lt (x : Int64) (h : ¬ x = (-9223372036854775808)) : (-9223372036854775808) < x := by
  have q : ¬ x.toInt = (-9223372036854775808 : Int64).toInt := fun z => h (Int64.toInt_inj.mp z)
  rw [Int64.lt_iff_toInt_lt]
  rw [show (-9223372036854775808 : Int64).toInt = -9223372036854775808 from by decide] at q ⊢
  have := rng64 x
  omega
section
variable (l : Launch) (Z : State) (a0 : Array Value) (n0 : Nat)
theorem fill (hw : HW Z a0) (a b d e : Sh.SC) : Sh.Meth l Z a0 n0 b3 R3 [.ref 2, .int (-1)] [a, b, .inr (.int, [.int 0, .int 0, .int 0]), d, e] (fun v H' => v = none ∧ H' = [a, b, .inr (.int, [.int (-1), .int (-1), .int (-1)]), d, e]) := by
  refine Sh.Meth.of pn3 (L := [.val (.ref 2), .val (.int (-1)), .unset, .unset]) rfl ?_
  refine Sh.iconst d3_0 (x := 0) rfl ?_
  refine Sh.istore_n d3_1 (Sh.s1_2 rfl rfl) ?_
  refine Sh.aload_n d3_2 rfl rfl ?_
  refine Sh.arraylength d3_3 rfl (N := 3) rfl ?_
  refine Sh.istore_n d3_4 (Sh.s1_3 rfl rfl) ?_
  refine Sh.iload_n d3_5 rfl ?_
  refine Sh.iload_n d3_6 rfl ?_
  refine Sh.icmpF d3_7 (by decide) ?_
  refine Sh.aload_n d3_10 rfl rfl ?_
  refine Sh.iload_n d3_11 rfl ?_
  refine Sh.iload_n d3_12 rfl ?_
  refine Sh.iastore (jn := 0) d3_13 rfl (by decide) rfl (Sh.le rfl) (Sh.ls_0) (Sh.ls_2) ?_
  refine Sh.iinc d3_14 rfl (ci := 1) (y := 1) rfl (by decide) (Sh.s1_2 rfl rfl) ?_
  refine Sh.goto d3_17 (pc' := 5) rfl (by decide) ?_
  refine Sh.iload_n d3_5 rfl ?_
  refine Sh.iload_n d3_6 rfl ?_
  refine Sh.icmpF d3_7 (by decide) ?_
  refine Sh.aload_n d3_10 rfl rfl ?_
  refine Sh.iload_n d3_11 rfl ?_
  refine Sh.iload_n d3_12 rfl ?_
  refine Sh.iastore (jn := 1) d3_13 rfl (by decide) rfl (Sh.le rfl) (Sh.ls_1) (Sh.ls_2) ?_
  refine Sh.iinc d3_14 rfl (ci := 1) (y := 2) rfl (by decide) (Sh.s1_2 rfl rfl) ?_
  refine Sh.goto d3_17 (pc' := 5) rfl (by decide) ?_
  refine Sh.iload_n d3_5 rfl ?_
  refine Sh.iload_n d3_6 rfl ?_
  refine Sh.icmpF d3_7 (by decide) ?_
  refine Sh.aload_n d3_10 rfl rfl ?_
  refine Sh.iload_n d3_11 rfl ?_
  refine Sh.iload_n d3_12 rfl ?_
  refine Sh.iastore (jn := 2) d3_13 rfl (by decide) rfl (Sh.le rfl) (Sh.ls_2) (Sh.ls_2) ?_
  refine Sh.iinc d3_14 rfl (ci := 1) (y := 3) rfl (by decide) (Sh.s1_2 rfl rfl) ?_
  refine Sh.goto d3_17 (pc' := 5) rfl (by decide) ?_
  refine Sh.iload_n d3_5 rfl ?_
  refine Sh.iload_n d3_6 rfl ?_
  refine Sh.icmpT d3_7 (pc' := 20) rfl (by decide) (by decide) ?_
  refine Sh.ret0 d3_20 rfl (Sh.le rfl) (Sh.le rfl) ?_
  exact ⟨rfl, rfl⟩
theorem ctor (hw : HW Z a0) (w0 w1 w2 w3 w4 : Value) : Sh.Meth l Z a0 n0 b1 R1 [.ref 0, .int 3] [o_NodeQueue w0 w1 w2 w3 w4 (.int 0) (.int 0) (.int 0)] (fun v H' => v = none ∧ H' = own_H (-9223372036854775808) [.int 0, .int 0, .int 0] [.int (-1), .int (-1), .int (-1)] [.long 0, .long 0, .long 0] [.int 0, .int 0, .int 0] 0 0 0) := by
  refine Sh.Meth.of pn1 (L := [.val (.ref 0), .val (.int 3)]) rfl ?_
  refine Sh.aload_n d1_0 rfl rfl ?_
  refine Sh.initObj hw (i1 := 6) (i2 := 7) (i3 := 8) rfl rfl rfl d1_1 rfl (Sh.le rfl) (Sh.le rfl) ?_
  refine Sh.aload_n d1_4 rfl rfl ?_
  refine Sh.ldc2L hw (i := 9) rfl d1_5 ?_
  refine Sh.putfield hw (i := 10) (i2 := 11) (j := 0) (ty := .long) rfl rfl d1_8 rfl rfl (by decide +kernel) rfl rfl (Sh.ls_0) (Sh.ls_0) ?_
  refine Sh.aload_n d1_11 rfl rfl ?_
  refine Sh.iload_n d1_12 rfl ?_
  refine Sh.newarr hw (i := 12) (ty := .int) (dv := .int 0) (N := 3) (cap := 3) (k' := 1) (n' := 3) (a := 1) rfl rfl d1_13 rfl (by decide) rfl (Sh.rp_3) (Sh.le rfl) (by decide) (Sh.le rfl) (Sh.le rfl) rfl rfl rfl (Sh.ap_1) ?_
  refine Sh.putfieldF hw (i := 13) (i2 := 14) (j := 1) (ty := (.array .int)) rfl rfl rfl rfl d1_15 rfl rfl (by decide +kernel) rfl rfl (Sh.ls_1) (Sh.ls_0) ?_
  refine Sh.aload_n d1_18 rfl rfl ?_
  refine Sh.iload_n d1_19 rfl ?_
  refine Sh.newarr hw (i := 12) (ty := .int) (dv := .int 0) (N := 3) (cap := 3) (k' := 2) (n' := 6) (a := 2) rfl rfl d1_20 rfl (by decide) rfl (Sh.rp_3) (Sh.le rfl) (by decide) (Sh.le rfl) (Sh.le rfl) rfl rfl rfl (Sh.ap_2) ?_
  refine Sh.putfieldF hw (i := 15) (i2 := 16) (j := 2) (ty := (.array .int)) rfl rfl rfl rfl d1_22 rfl rfl (by decide +kernel) rfl rfl (Sh.ls_2) (Sh.ls_0) ?_
  refine Sh.aload_n d1_25 rfl rfl ?_
  refine Sh.iload_n d1_26 rfl ?_
  refine Sh.newarr hw (i := 17) (ty := .long) (dv := .long 0) (N := 3) (cap := 3) (k' := 3) (n' := 9) (a := 3) rfl rfl d1_27 rfl (by decide) rfl (Sh.rp_3) (Sh.le rfl) (by decide) (Sh.le rfl) (Sh.le rfl) rfl rfl rfl (Sh.ap_3) ?_
  refine Sh.putfieldF hw (i := 18) (i2 := 19) (j := 3) (ty := (.array .long)) rfl rfl rfl rfl d1_29 rfl rfl (by decide +kernel) rfl rfl (Sh.ls_3) (Sh.ls_0) ?_
  refine Sh.aload_n d1_32 rfl rfl ?_
  refine Sh.iload_n d1_33 rfl ?_
  refine Sh.newarr hw (i := 12) (ty := .int) (dv := .int 0) (N := 3) (cap := 3) (k' := 4) (n' := 12) (a := 4) rfl rfl d1_34 rfl (by decide) rfl (Sh.rp_3) (Sh.le rfl) (by decide) (Sh.le rfl) (Sh.le rfl) rfl rfl rfl (Sh.ap_4) ?_
  refine Sh.putfieldF hw (i := 20) (i2 := 21) (j := 4) (ty := (.array .int)) rfl rfl rfl rfl d1_36 rfl rfl (by decide +kernel) rfl rfl (Sh.ls_4) (Sh.ls_0) ?_
  refine Sh.aload_n d1_39 rfl rfl ?_
  refine Sh.getfield hw (i := 15) (j := 2) rfl d1_40 rfl rfl ?_
  refine Sh.iconst d1_43 (x := (-1)) rfl ?_
  refine Sh.callS hw (i1 := 22) (i2 := 23) (i3 := 24) (i4 := 25) (k' := 4) (n' := 12) (B' := b3) (R' := R3) rfl rfl rfl rfl (by decide) (fill l Z a0 n0 hw _ _ _ _) d1_44 rfl rfl pd3 rfl (Sh.le rfl) (Sh.le rfl) (Sh.le rfl) (Sh.le rfl) rfl rfl ?_
  rintro _ _ ⟨rfl, rfl⟩
  refine Sh.ret0 d1_47 rfl (Sh.le rfl) (Sh.le rfl) ?_
  exact ⟨rfl, rfl⟩
theorem plc (hw : HW Z a0) (lk : Int64) (hp pl ks ln hp' pl' : List Value) (s lf lt : Int32) (nd ix : Nat) (h1 : ix < hp.length) (h2 : nd < pl.length) (hn : nd < 100) (hx : ix < 100) (e1 : hp.set ix (.int (Int32.ofNat nd)) = hp') (e2 : pl.set nd (.int (Int32.ofNat ix)) = pl') : Sh.Meth l Z a0 n0 b6 R6 [.ref 0, .int (Int32.ofNat nd), .int (Int32.ofNat ix)] (own_H lk hp pl ks ln s lf lt) (fun v H' => v = none ∧ H' = own_H lk hp' pl' ks ln s lf lt) := by
  refine Sh.Meth.of pn6 (L := [.val (.ref 0), .val (.int (Int32.ofNat nd)), .val (.int (Int32.ofNat ix))]) rfl ?_
  refine Sh.aload_n d6_0 rfl rfl ?_
  refine Sh.getfield hw (i := 13) (j := 1) rfl d6_1 rfl rfl ?_
  refine Sh.iload_n d6_4 rfl ?_
  refine Sh.iload_n d6_5 rfl ?_
  refine Sh.iastore d6_6 rfl (Sh.onNN (by omega)) (Sh.onCl (by omega)) h1 e1 (Sh.ls_1) ?_
  refine Sh.aload_n d6_7 rfl rfl ?_
  refine Sh.getfield hw (i := 15) (j := 2) rfl d6_8 rfl rfl ?_
  refine Sh.iload_n d6_11 rfl ?_
  refine Sh.iload_n d6_12 rfl ?_
  refine Sh.iastore d6_13 rfl (Sh.onNN (by omega)) (Sh.onCl (by omega)) h2 e2 (Sh.ls_2) ?_
  refine Sh.ret0 d6_14 rfl (Sh.le rfl) (Sh.le rfl) ?_
  exact ⟨rfl, rfl⟩
theorem su0 (hw : HW Z a0) (lk : Int64) (hp pl ks ln hp' pl' : List Value) (s lf lt : Int32) (nd : Nat) (h1 : 0 < hp.length) (h2 : nd < pl.length) (hn : nd < 100) (e1 : hp.set 0 (.int (Int32.ofNat nd)) = hp') (e2 : pl.set nd (.int (Int32.ofNat 0)) = pl') : Sh.Meth l Z a0 n0 b5 R5 [.ref 0, .int (Int32.ofNat nd), .int (Int32.ofNat 0)] (own_H lk hp pl ks ln s lf lt) (fun v H' => v = none ∧ H' = own_H lk hp' pl' ks ln s lf lt) := by
  refine Sh.Meth.of pn5 (L := [.val (.ref 0), .val (.int (Int32.ofNat nd)), .val (.int (Int32.ofNat 0)), .unset]) rfl ?_
  refine Sh.iload_n d5_0 rfl ?_
  refine Sh.istore_n d5_1 (Sh.s1_3 rfl rfl) ?_
  refine Sh.iload_n d5_2 rfl ?_
  refine Sh.ifT d5_3 (pc' := 55) rfl (by decide) (by decide) ?_
  refine Sh.aload_n d5_55 rfl rfl ?_
  refine Sh.iload_n d5_56 rfl ?_
  refine Sh.iload_n d5_57 rfl ?_
  refine Sh.callP hw (i1 := 37) (i2 := 38) (i3 := 2) (i4 := 40) (i5 := 39) (i6 := 1) (k' := 0) (n' := 0) (B' := b6) (R' := R6) rfl rfl rfl rfl rfl rfl (by decide) rfl (plc l Z a0 n0 hw lk hp pl ks ln hp' pl' s lf lt nd 0 h1 h2 hn (by decide) e1 e2) d5_58 rfl rfl pd6 rfl (Sh.le rfl) (Sh.le rfl) (Sh.le rfl) (Sh.le rfl) rfl rfl ?_
  rintro _ _ ⟨rfl, rfl⟩
  refine Sh.ret0 d5_61 rfl (Sh.le rfl) (Sh.le rfl) ?_
  exact ⟨rfl, rfl⟩
theorem su1n (hw : HW Z a0) (lk : Int64) (hp pl ks ln hp' pl' : List Value) (s lf lt : Int32) (nd : Nat) (h1 : 1 < hp.length) (h2 : nd < pl.length) (hn : nd < 100) (e1 : hp.set 1 (.int (Int32.ofNat nd)) = hp') (e2 : pl.set nd (.int (Int32.ofNat 1)) = pl') (r : Nat) (hr : r < 100) (k kr : Int64) (gr : hp[0]? = some (.int (Int32.ofNat r))) (gk : ks[nd]? = some (.long k)) (gkr : ks[r]? = some (.long kr)) (hk : ¬ k < kr) : Sh.Meth l Z a0 n0 b5 R5 [.ref 0, .int (Int32.ofNat nd), .int (Int32.ofNat 1)] (own_H lk hp pl ks ln s lf lt) (fun v H' => v = none ∧ H' = own_H lk hp' pl' ks ln s lf lt) := by
  refine Sh.Meth.of pn5 (L := [.val (.ref 0), .val (.int (Int32.ofNat nd)), .val (.int (Int32.ofNat 1)), .unset]) rfl ?_
  refine Sh.iload_n d5_0 rfl ?_
  refine Sh.istore_n d5_1 (Sh.s1_3 rfl rfl) ?_
  refine Sh.iload_n d5_2 rfl ?_
  refine Sh.ifF d5_3 (by decide) ?_
  refine Sh.aload_n d5_6 rfl rfl ?_
  refine Sh.getfield hw (i := 18) (j := 3) rfl d5_7 rfl rfl ?_
  refine Sh.iload_n d5_10 rfl ?_
  refine Sh.laload d5_11 rfl (Sh.onNN (by omega)) (Sh.onCl (by omega)) gk ?_
  refine Sh.aload_n d5_12 rfl rfl ?_
  refine Sh.getfield hw (i := 18) (j := 3) rfl d5_13 rfl rfl ?_
  refine Sh.aload_n d5_16 rfl rfl ?_
  refine Sh.getfield hw (i := 13) (j := 1) rfl d5_17 rfl rfl ?_
  refine Sh.iload_n d5_20 rfl ?_
  refine Sh.iconst d5_21 (x := 1) rfl ?_
  refine Sh.isubE (z := 0) d5_22 (by decide) ?_
  refine Sh.iconst d5_23 (x := 2) rfl ?_
  refine Sh.idivE (z := 0) d5_24 (by decide) (by decide) ?_
  refine Sh.iaload (jn := 0) d5_25 rfl (by decide) rfl gr ?_
  refine Sh.laload d5_26 rfl (Sh.onNN (by omega)) (Sh.onCl (by omega)) gkr ?_
  refine Sh.lcmpT d5_27 d5_28 (pc' := 55) rfl (by decide) hk ?_
  refine Sh.aload_n d5_55 rfl rfl ?_
  refine Sh.iload_n d5_56 rfl ?_
  refine Sh.iload_n d5_57 rfl ?_
  refine Sh.callP hw (i1 := 37) (i2 := 38) (i3 := 2) (i4 := 40) (i5 := 39) (i6 := 1) (k' := 0) (n' := 0) (B' := b6) (R' := R6) rfl rfl rfl rfl rfl rfl (by decide) rfl (plc l Z a0 n0 hw lk hp pl ks ln hp' pl' s lf lt nd 1 h1 h2 hn (by decide) e1 e2) d5_58 rfl rfl pd6 rfl (Sh.le rfl) (Sh.le rfl) (Sh.le rfl) (Sh.le rfl) rfl rfl ?_
  rintro _ _ ⟨rfl, rfl⟩
  refine Sh.ret0 d5_61 rfl (Sh.le rfl) (Sh.le rfl) ?_
  exact ⟨rfl, rfl⟩
theorem su1s (hw : HW Z a0) (lk : Int64) (hp pl ks ln hp1 pl1 hp' pl' : List Value) (s lf lt : Int32) (nd r : Nat) (h1 : 1 < hp.length) (h2 : nd < pl.length) (h3 : r < pl.length) (hn : nd < 100) (hr : r < 100) (e1 : hp.set 1 (.int (Int32.ofNat r)) = hp1) (e2 : pl.set r (.int (Int32.ofNat 1)) = pl1) (f1 : hp1.set 0 (.int (Int32.ofNat nd)) = hp') (f2 : pl1.set nd (.int (Int32.ofNat 0)) = pl') (k kr : Int64) (gr : hp[0]? = some (.int (Int32.ofNat r))) (gk : ks[nd]? = some (.long k)) (gkr : ks[r]? = some (.long kr)) (hk : k < kr) : Sh.Meth l Z a0 n0 b5 R5 [.ref 0, .int (Int32.ofNat nd), .int (Int32.ofNat 1)] (own_H lk hp pl ks ln s lf lt) (fun v H' => v = none ∧ H' = own_H lk hp' pl' ks ln s lf lt) := by
  refine Sh.Meth.of pn5 (L := [.val (.ref 0), .val (.int (Int32.ofNat nd)), .val (.int (Int32.ofNat 1)), .unset]) rfl ?_
  have l1 : 0 < hp1.length := by rw [← e1, List.length_set]; omega
  have l2 : nd < pl1.length := by rw [← e2, List.length_set]; omega
  refine Sh.iload_n d5_0 rfl ?_
  refine Sh.istore_n d5_1 (Sh.s1_3 rfl rfl) ?_
  refine Sh.iload_n d5_2 rfl ?_
  refine Sh.ifF d5_3 (by decide) ?_
  refine Sh.aload_n d5_6 rfl rfl ?_
  refine Sh.getfield hw (i := 18) (j := 3) rfl d5_7 rfl rfl ?_
  refine Sh.iload_n d5_10 rfl ?_
  refine Sh.laload d5_11 rfl (Sh.onNN (by omega)) (Sh.onCl (by omega)) gk ?_
  refine Sh.aload_n d5_12 rfl rfl ?_
  refine Sh.getfield hw (i := 18) (j := 3) rfl d5_13 rfl rfl ?_
  refine Sh.aload_n d5_16 rfl rfl ?_
  refine Sh.getfield hw (i := 13) (j := 1) rfl d5_17 rfl rfl ?_
  refine Sh.iload_n d5_20 rfl ?_
  refine Sh.iconst d5_21 (x := 1) rfl ?_
  refine Sh.isubE (z := 0) d5_22 (by decide) ?_
  refine Sh.iconst d5_23 (x := 2) rfl ?_
  refine Sh.idivE (z := 0) d5_24 (by decide) (by decide) ?_
  refine Sh.iaload (jn := 0) d5_25 rfl (by decide) rfl gr ?_
  refine Sh.laload d5_26 rfl (Sh.onNN (by omega)) (Sh.onCl (by omega)) gkr ?_
  refine Sh.lcmpF d5_27 d5_28 (fun z => z hk) ?_
  refine Sh.aload_n d5_31 rfl rfl ?_
  refine Sh.aload_n d5_32 rfl rfl ?_
  refine Sh.getfield hw (i := 13) (j := 1) rfl d5_33 rfl rfl ?_
  refine Sh.iload_n d5_36 rfl ?_
  refine Sh.iconst d5_37 (x := 1) rfl ?_
  refine Sh.isubE (z := 0) d5_38 (by decide) ?_
  refine Sh.iconst d5_39 (x := 2) rfl ?_
  refine Sh.idivE (z := 0) d5_40 (by decide) (by decide) ?_
  refine Sh.iaload (jn := 0) d5_41 rfl (by decide) rfl gr ?_
  refine Sh.iload_n d5_42 rfl ?_
  refine Sh.callP hw (i1 := 37) (i2 := 38) (i3 := 2) (i4 := 40) (i5 := 39) (i6 := 1) (k' := 0) (n' := 0) (B' := b6) (R' := R6) rfl rfl rfl rfl rfl rfl (by decide) rfl (plc l Z a0 n0 hw lk hp pl ks ln hp1 pl1 s lf lt r 1 h1 h3 hr (by decide) e1 e2) d5_43 rfl rfl pd6 rfl (Sh.le rfl) (Sh.le rfl) (Sh.le rfl) (Sh.le rfl) rfl rfl ?_
  rintro _ _ ⟨rfl, rfl⟩
  refine Sh.iload_n d5_46 rfl ?_
  refine Sh.iconst d5_47 (x := 1) rfl ?_
  refine Sh.isubE (z := 0) d5_48 (by decide) ?_
  refine Sh.iconst d5_49 (x := 2) rfl ?_
  refine Sh.idivE (z := 0) d5_50 (by decide) (by decide) ?_
  refine Sh.istore_n d5_51 (Sh.s1_3 rfl rfl) ?_
  refine Sh.goto d5_52 (pc' := 2) rfl (by decide) ?_
  refine Sh.iload_n d5_2 rfl ?_
  refine Sh.ifT d5_3 (pc' := 55) rfl (by decide) (by decide) ?_
  refine Sh.aload_n d5_55 rfl rfl ?_
  refine Sh.iload_n d5_56 rfl ?_
  refine Sh.iload_n d5_57 rfl ?_
  refine Sh.callP hw (i1 := 37) (i2 := 38) (i3 := 2) (i4 := 40) (i5 := 39) (i6 := 1) (k' := 0) (n' := 0) (B' := b6) (R' := R6) rfl rfl rfl rfl rfl rfl (by decide) rfl (plc l Z a0 n0 hw lk hp1 pl1 ks ln hp' pl' s lf lt nd 0 l1 l2 hn (by decide) f1 f2) d5_58 rfl rfl pd6 rfl (Sh.le rfl) (Sh.le rfl) (Sh.le rfl) (Sh.le rfl) rfl rfl ?_
  rintro _ _ ⟨rfl, rfl⟩
  refine Sh.ret0 d5_61 rfl (Sh.le rfl) (Sh.le rfl) ?_
  exact ⟨rfl, rfl⟩
theorem sd0 (hw : HW Z a0) (lk : Int64) (hp pl ks ln hp' pl' : List Value) (lf lt : Int32) (nd : Nat) (h1 : 0 < hp.length) (h2 : nd < pl.length) (hn : nd < 100) (e1 : hp.set 0 (.int (Int32.ofNat nd)) = hp') (e2 : pl.set nd (.int (Int32.ofNat 0)) = pl') : Sh.Meth l Z a0 n0 b9 R9 [.ref 0, .int (Int32.ofNat nd), .int (Int32.ofNat 0)] (own_H lk hp pl ks ln 1 lf lt) (fun v H' => v = none ∧ H' = own_H lk hp' pl' ks ln 1 lf lt) := by
  refine Sh.Meth.of pn9 (L := [.val (.ref 0), .val (.int (Int32.ofNat nd)), .val (.int (Int32.ofNat 0)), .unset, .unset]) rfl ?_
  refine Sh.iload_n d9_0 rfl ?_
  refine Sh.istore_n d9_1 (Sh.s1_3 rfl rfl) ?_
  refine Sh.iconst d9_2 (x := 2) rfl ?_
  refine Sh.iload_n d9_3 rfl ?_
  refine Sh.imulE (z := 0) d9_4 (by decide) ?_
  refine Sh.iconst d9_5 (x := 1) rfl ?_
  refine Sh.iaddE (z := 1) d9_6 (by decide) ?_
  refine Sh.istore d9_7 (Sh.s1_4 rfl rfl) ?_
  refine Sh.iload d9_9 rfl ?_
  refine Sh.aload_n d9_11 rfl rfl ?_
  refine Sh.getfield hw (i := 31) (j := 5) rfl d9_12 rfl rfl ?_
  refine Sh.icmpT d9_15 (pc' := 112) rfl (by decide) (by decide) ?_
  refine Sh.aload_n d9_112 rfl rfl ?_
  refine Sh.iload_n d9_113 rfl ?_
  refine Sh.iload_n d9_114 rfl ?_
  refine Sh.callP hw (i1 := 37) (i2 := 38) (i3 := 2) (i4 := 40) (i5 := 39) (i6 := 1) (k' := 0) (n' := 0) (B' := b6) (R' := R6) rfl rfl rfl rfl rfl rfl (by decide) rfl (plc l Z a0 n0 hw lk hp pl ks ln hp' pl' 1 lf lt nd 0 h1 h2 hn (by decide) e1 e2) d9_115 rfl rfl pd6 rfl (Sh.le rfl) (Sh.le rfl) (Sh.le rfl) (Sh.le rfl) rfl rfl ?_
  rintro _ _ ⟨rfl, rfl⟩
  refine Sh.ret0 d9_118 rfl (Sh.le rfl) (Sh.le rfl) ?_
  exact ⟨rfl, rfl⟩
theorem rv1 (hw : HW Z a0) (lk : Int64) (hp pl ks ln pl' : List Value) (lf lt : Int32) (r : Nat) (hr : r < 100) (h2 : r < pl.length) (gr : hp[0]? = some (.int (Int32.ofNat r))) (e : pl.set r (.int (-1)) = pl') : Sh.Meth l Z a0 n0 b8 R8 [.ref 0, .int 0] (own_H lk hp pl ks ln 1 lf lt) (fun v H' => v = none ∧ H' = own_H lk hp pl' ks ln 0 lf lt) := by
  refine Sh.Meth.of pn8 (L := [.val (.ref 0), .val (.int 0), .unset]) rfl ?_
  refine Sh.aload_n d8_0 rfl rfl ?_
  refine Sh.getfield hw (i := 15) (j := 2) rfl d8_1 rfl rfl ?_
  refine Sh.aload_n d8_4 rfl rfl ?_
  refine Sh.getfield hw (i := 13) (j := 1) rfl d8_5 rfl rfl ?_
  refine Sh.iload_n d8_8 rfl ?_
  refine Sh.iaload (jn := 0) d8_9 rfl (by decide) rfl gr ?_
  refine Sh.iconst d8_10 (x := (-1)) rfl ?_
  refine Sh.iastore d8_11 rfl (Sh.onNN (by omega)) (Sh.onCl (by omega)) h2 e (Sh.ls_2) ?_
  refine Sh.aload_n d8_12 rfl rfl ?_
  refine Sh.dup d8_13 rfl ?_
  refine Sh.getfield hw (i := 31) (j := 5) rfl d8_14 rfl rfl ?_
  refine Sh.iconst d8_17 (x := 1) rfl ?_
  refine Sh.isubE (z := 0) d8_18 (by decide) ?_
  refine Sh.putfield hw (i := 31) (i2 := 32) (j := 5) (ty := .int) rfl rfl d8_19 rfl rfl (by decide +kernel) rfl rfl (Sh.ls_5) (Sh.ls_0) ?_
  refine Sh.iload_n d8_22 rfl ?_
  refine Sh.aload_n d8_23 rfl rfl ?_
  refine Sh.getfield hw (i := 31) (j := 5) rfl d8_24 rfl rfl ?_
  refine Sh.icmpT d8_27 (pc' := 62) rfl (by decide) (by decide) ?_
  refine Sh.ret0 d8_62 rfl (Sh.le rfl) (Sh.le rfl) ?_
  exact ⟨rfl, rfl⟩
theorem rv2 (hw : HW Z a0) (lk : Int64) (hp pl ks ln pl1 hp2 pl2 pl3 : List Value) (lf lt : Int32) (r m : Nat) (hr : r < 100) (hm : m < 100) (h1 : 1 < hp.length) (h2 : r < pl.length) (h3 : m < pl.length) (gr : hp[0]? = some (.int (Int32.ofNat r))) (gm : hp[1]? = some (.int (Int32.ofNat m))) (e : pl.set r (.int (-1)) = pl1) (e1 : hp.set 0 (.int (Int32.ofNat m)) = hp2) (e2 : pl1.set m (.int (Int32.ofNat 0)) = pl2) (e3 : hp2.set 0 (.int (Int32.ofNat m)) = hp2) (e4 : pl2.set m (.int (Int32.ofNat 0)) = pl3) : Sh.Meth l Z a0 n0 b8 R8 [.ref 0, .int 0] (own_H lk hp pl ks ln 2 lf lt) (fun v H' => v = none ∧ H' = own_H lk hp2 pl3 ks ln 1 lf lt) := by
  refine Sh.Meth.of pn8 (L := [.val (.ref 0), .val (.int 0), .unset]) rfl ?_
  have q1 : m < pl1.length := by rw [← e, List.length_set]; omega
  have q2 : m < pl2.length := by rw [← e2, List.length_set]; omega
  have q3 : 0 < hp2.length := by rw [← e1, List.length_set]; omega
  have q4 : pl2[m]? = some (.int (Int32.ofNat 0)) := by rw [← e2, List.getElem?_set_self q1]
  refine Sh.aload_n d8_0 rfl rfl ?_
  refine Sh.getfield hw (i := 15) (j := 2) rfl d8_1 rfl rfl ?_
  refine Sh.aload_n d8_4 rfl rfl ?_
  refine Sh.getfield hw (i := 13) (j := 1) rfl d8_5 rfl rfl ?_
  refine Sh.iload_n d8_8 rfl ?_
  refine Sh.iaload (jn := 0) d8_9 rfl (by decide) rfl gr ?_
  refine Sh.iconst d8_10 (x := (-1)) rfl ?_
  refine Sh.iastore d8_11 rfl (Sh.onNN (by omega)) (Sh.onCl (by omega)) h2 e (Sh.ls_2) ?_
  refine Sh.aload_n d8_12 rfl rfl ?_
  refine Sh.dup d8_13 rfl ?_
  refine Sh.getfield hw (i := 31) (j := 5) rfl d8_14 rfl rfl ?_
  refine Sh.iconst d8_17 (x := 1) rfl ?_
  refine Sh.isubE (z := 1) d8_18 (by decide) ?_
  refine Sh.putfield hw (i := 31) (i2 := 32) (j := 5) (ty := .int) rfl rfl d8_19 rfl rfl (by decide +kernel) rfl rfl (Sh.ls_5) (Sh.ls_0) ?_
  refine Sh.iload_n d8_22 rfl ?_
  refine Sh.aload_n d8_23 rfl rfl ?_
  refine Sh.getfield hw (i := 31) (j := 5) rfl d8_24 rfl rfl ?_
  refine Sh.icmpF d8_27 (by decide) ?_
  refine Sh.aload_n d8_30 rfl rfl ?_
  refine Sh.getfield hw (i := 13) (j := 1) rfl d8_31 rfl rfl ?_
  refine Sh.aload_n d8_34 rfl rfl ?_
  refine Sh.getfield hw (i := 31) (j := 5) rfl d8_35 rfl rfl ?_
  refine Sh.iaload (jn := 1) d8_38 rfl (by decide) rfl gm ?_
  refine Sh.istore_n d8_39 (Sh.s1_2 rfl rfl) ?_
  refine Sh.aload_n d8_40 rfl rfl ?_
  refine Sh.iload_n d8_41 rfl ?_
  refine Sh.iload_n d8_42 rfl ?_
  refine Sh.callP hw (i1 := 54) (i2 := 55) (i3 := 2) (i4 := 57) (i5 := 56) (i6 := 1) (k' := 0) (n' := 0) (B' := b9) (R' := R9) rfl rfl rfl rfl rfl rfl (by decide) rfl (sd0 l Z a0 n0 hw lk hp pl1 ks ln hp2 pl2 lf lt m (by omega) q1 hm e1 e2) d8_43 rfl rfl pd9 rfl (Sh.le rfl) (Sh.le rfl) (Sh.le rfl) (Sh.le rfl) rfl rfl ?_
  rintro _ _ ⟨rfl, rfl⟩
  refine Sh.aload_n d8_46 rfl rfl ?_
  refine Sh.getfield hw (i := 15) (j := 2) rfl d8_47 rfl rfl ?_
  refine Sh.iload_n d8_50 rfl ?_
  refine Sh.iaload d8_51 rfl (Sh.onNN (by omega)) (Sh.onCl (by omega)) q4 ?_
  refine Sh.iload_n d8_52 rfl ?_
  refine Sh.icmpF d8_53 (fun z => z rfl) ?_
  refine Sh.aload_n d8_56 rfl rfl ?_
  refine Sh.iload_n d8_57 rfl ?_
  refine Sh.iload_n d8_58 rfl ?_
  refine Sh.callP hw (i1 := 33) (i2 := 34) (i3 := 2) (i4 := 36) (i5 := 35) (i6 := 1) (k' := 0) (n' := 0) (B' := b5) (R' := R5) rfl rfl rfl rfl rfl rfl (by decide) rfl (su0 l Z a0 n0 hw lk hp2 pl2 ks ln hp2 pl3 1 lf lt m q3 q2 hm e3 e4) d8_59 rfl rfl pd5 rfl (Sh.le rfl) (Sh.le rfl) (Sh.le rfl) (Sh.le rfl) rfl rfl ?_
  rintro _ _ ⟨rfl, rfl⟩
  refine Sh.ret0 d8_62 rfl (Sh.le rfl) (Sh.le rfl) ?_
  exact ⟨rfl, rfl⟩
theorem poL (hw : HW Z a0) (lk : Int64) (hp pl ks ln pl' : List Value) (s : Int32) (lf lt x : Nat) (hl : lf < lt) (ht : lt < 100) (hx : x < 100) (h2 : x < pl.length) (g : ln[lf]? = some (.int (Int32.ofNat x))) (e : pl.set x (.int (-1)) = pl') : Sh.Meth l Z a0 n0 b7 R7 [.ref 0] (own_H lk hp pl ks ln s (Int32.ofNat lf) (Int32.ofNat lt)) (fun v H' => v = some (.int (Int32.ofNat x)) ∧ H' = own_H lk hp pl' ks ln s (Int32.ofNat (lf + 1)) (Int32.ofNat lt)) := by
  refine Sh.Meth.of pn7 (L := [.val (.ref 0), .unset]) rfl ?_
  refine Sh.aload_n d7_0 rfl rfl ?_
  refine Sh.getfield hw (i := 46) (j := 6) rfl d7_1 rfl rfl ?_
  refine Sh.aload_n d7_4 rfl rfl ?_
  refine Sh.getfield hw (i := 48) (j := 7) rfl d7_5 rfl rfl ?_
  refine Sh.icmpF d7_8 (fun z => z ((Sh.onLt (by omega) (by omega)).mpr hl)) ?_
  refine Sh.aload_n d7_11 rfl rfl ?_
  refine Sh.getfield hw (i := 20) (j := 4) rfl d7_12 rfl rfl ?_
  refine Sh.aload_n d7_15 rfl rfl ?_
  refine Sh.getfield hw (i := 46) (j := 6) rfl d7_16 rfl rfl ?_
  refine Sh.iaload d7_19 rfl (Sh.onNN (by omega)) (Sh.onCl (by omega)) g ?_
  refine Sh.istore_n d7_20 (Sh.s1_1 rfl rfl) ?_
  refine Sh.aload_n d7_21 rfl rfl ?_
  refine Sh.dup d7_22 rfl ?_
  refine Sh.getfield hw (i := 46) (j := 6) rfl d7_23 rfl rfl ?_
  refine Sh.iconst d7_26 (x := 1) rfl ?_
  refine Sh.iaddE d7_27 (Sh.onSucc _) ?_
  refine Sh.putfield hw (i := 46) (i2 := 47) (j := 6) (ty := .int) rfl rfl d7_28 rfl rfl (by decide +kernel) rfl rfl (Sh.ls_6) (Sh.ls_0) ?_
  refine Sh.goto d7_31 (pc' := 66) rfl (by decide) ?_
  refine Sh.aload_n d7_66 rfl rfl ?_
  refine Sh.getfield hw (i := 15) (j := 2) rfl d7_67 rfl rfl ?_
  refine Sh.iload_n d7_70 rfl ?_
  refine Sh.iconst d7_71 (x := (-1)) rfl ?_
  refine Sh.iastore d7_72 rfl (Sh.onNN (by omega)) (Sh.onCl (by omega)) h2 e (Sh.ls_2) ?_
  refine Sh.iload_n d7_73 rfl ?_
  refine Sh.retI d7_74 rfl (Sh.le rfl) (Sh.le rfl) ?_
  exact ⟨rfl, rfl⟩
theorem poH (hw : HW Z a0) (lk : Int64) (hp pl ks ln hp1 pl1 pl' : List Value) (s s' : Int32) (lf lt x : Nat) (kx : Int64) (hl : lt ≤ lf) (ht : lf < 100) (hx : x < 100) (h2 : x < pl1.length) (g : hp[0]? = some (.int (Int32.ofNat x))) (gk : ks[x]? = some (.long kx)) (hM : Sh.Meth l Z a0 n0 b8 R8 [.ref 0, .int 0] (own_H kx hp pl ks ln s 0 0) (fun v H' => v = none ∧ H' = own_H kx hp1 pl1 ks ln s' 0 0)) (e : pl1.set x (.int (-1)) = pl') : Sh.Meth l Z a0 n0 b7 R7 [.ref 0] (own_H lk hp pl ks ln s (Int32.ofNat lf) (Int32.ofNat lt)) (fun v H' => v = some (.int (Int32.ofNat x)) ∧ H' = own_H kx hp1 pl' ks ln s' 0 0) := by
  refine Sh.Meth.of pn7 (L := [.val (.ref 0), .unset]) rfl ?_
  refine Sh.aload_n d7_0 rfl rfl ?_
  refine Sh.getfield hw (i := 46) (j := 6) rfl d7_1 rfl rfl ?_
  refine Sh.aload_n d7_4 rfl rfl ?_
  refine Sh.getfield hw (i := 48) (j := 7) rfl d7_5 rfl rfl ?_
  refine Sh.icmpT d7_8 (pc' := 34) rfl (by decide) (fun z => absurd ((Sh.onLt (by omega) (by omega)).mp z) (by omega)) ?_
  refine Sh.aload_n d7_34 rfl rfl ?_
  refine Sh.getfield hw (i := 13) (j := 1) rfl d7_35 rfl rfl ?_
  refine Sh.iconst d7_38 (x := 0) rfl ?_
  refine Sh.iaload (jn := 0) d7_39 rfl (by decide) rfl g ?_
  refine Sh.istore_n d7_40 (Sh.s1_1 rfl rfl) ?_
  refine Sh.aload_n d7_41 rfl rfl ?_
  refine Sh.aload_n d7_42 rfl rfl ?_
  refine Sh.getfield hw (i := 18) (j := 3) rfl d7_43 rfl rfl ?_
  refine Sh.iload_n d7_46 rfl ?_
  refine Sh.laload d7_47 rfl (Sh.onNN (by omega)) (Sh.onCl (by omega)) gk ?_
  refine Sh.putfield hw (i := 10) (i2 := 11) (j := 0) (ty := .long) rfl rfl d7_48 rfl rfl (by decide +kernel) rfl rfl (Sh.ls_0) (Sh.ls_0) ?_
  refine Sh.aload_n d7_51 rfl rfl ?_
  refine Sh.iconst d7_52 (x := 0) rfl ?_
  refine Sh.putfield hw (i := 46) (i2 := 47) (j := 6) (ty := .int) rfl rfl d7_53 rfl rfl (by decide +kernel) rfl rfl (Sh.ls_6) (Sh.ls_0) ?_
  refine Sh.aload_n d7_56 rfl rfl ?_
  refine Sh.iconst d7_57 (x := 0) rfl ?_
  refine Sh.putfield hw (i := 48) (i2 := 49) (j := 7) (ty := .int) rfl rfl d7_58 rfl rfl (by decide +kernel) rfl rfl (Sh.ls_7) (Sh.ls_0) ?_
  refine Sh.aload_n d7_61 rfl rfl ?_
  refine Sh.iconst d7_62 (x := 0) rfl ?_
  refine Sh.callP hw (i1 := 50) (i2 := 51) (i3 := 2) (i4 := 53) (i5 := 52) (i6 := 1) (k' := 0) (n' := 0) (B' := b8) (R' := R8) rfl rfl rfl rfl rfl rfl (by decide) rfl hM d7_63 rfl rfl pd8 rfl (Sh.le rfl) (Sh.le rfl) (Sh.le rfl) (Sh.le rfl) rfl rfl ?_
  rintro _ _ ⟨rfl, rfl⟩
  refine Sh.aload_n d7_66 rfl rfl ?_
  refine Sh.getfield hw (i := 15) (j := 2) rfl d7_67 rfl rfl ?_
  refine Sh.iload_n d7_70 rfl ?_
  refine Sh.iconst d7_71 (x := (-1)) rfl ?_
  refine Sh.iastore d7_72 rfl (Sh.onNN (by omega)) (Sh.onCl (by omega)) h2 e (Sh.ls_2) ?_
  refine Sh.iload_n d7_73 rfl ?_
  refine Sh.retI d7_74 rfl (Sh.le rfl) (Sh.le rfl) ?_
  exact ⟨rfl, rfl⟩
theorem ofL (hw : HW Z a0) (lk key : Int64) (hp pl ks ln pl' ks' ln' : List Value) (s : Int32) (lf : Int32) (lt x : Nat) (hx : x < 100) (ht : lt < 100) (g : pl[x]? = some (.int (-1))) (h1 : x < ks.length) (h2 : x < pl.length) (h3 : lt < ln.length) (hk : key = lk) (e1 : ks.set x (.long key) = ks') (e2 : pl.set x (.int (-2)) = pl') (e3 : ln.set lt (.int (Int32.ofNat x)) = ln') : Sh.Meth l Z a0 n0 b4 R4 [.ref 0, .int (Int32.ofNat x), .long key] (own_H lk hp pl ks ln s lf (Int32.ofNat lt)) (fun v H' => v = none ∧ H' = own_H lk hp pl' ks' ln' s lf (Int32.ofNat (lt + 1))) := by
  refine Sh.Meth.of pn4 (L := [.val (.ref 0), .val (.int (Int32.ofNat x)), .val (.long key), .second, .unset]) rfl ?_
  refine Sh.aload_n d4_0 rfl rfl ?_
  refine Sh.getfield hw (i := 15) (j := 2) rfl d4_1 rfl rfl ?_
  refine Sh.iload_n d4_4 rfl ?_
  refine Sh.iaload d4_5 rfl (Sh.onNN (by omega)) (Sh.onCl (by omega)) g ?_
  refine Sh.istore d4_6 (Sh.s1_4 rfl rfl) ?_
  refine Sh.iload d4_8 rfl ?_
  refine Sh.bipush d4_10 (x := (-2)) rfl ?_
  refine Sh.icmpF d4_12 (by decide) ?_
  refine Sh.iload d4_15 rfl ?_
  refine Sh.ifT d4_17 (pc' := 32) rfl (by decide) (by decide) ?_
  refine Sh.aload_n d4_32 rfl rfl ?_
  refine Sh.getfield hw (i := 18) (j := 3) rfl d4_33 rfl rfl ?_
  refine Sh.iload_n d4_36 rfl ?_
  refine Sh.lload_n d4_37 rfl ?_
  refine Sh.lastore d4_38 rfl (Sh.onNN (by omega)) (Sh.onCl (by omega)) h1 e1 (Sh.ls_3) ?_
  refine Sh.lload_n d4_39 rfl ?_
  refine Sh.aload_n d4_40 rfl rfl ?_
  refine Sh.getfield hw (i := 10) (j := 0) rfl d4_41 rfl rfl ?_
  refine Sh.lcmpF d4_44 d4_45 (fun z => z hk) ?_
  refine Sh.iload d4_48 rfl ?_
  refine Sh.ifT d4_50 (pc' := 59) rfl (by decide) (by decide) ?_
  refine Sh.aload_n d4_59 rfl rfl ?_
  refine Sh.getfield hw (i := 15) (j := 2) rfl d4_60 rfl rfl ?_
  refine Sh.iload_n d4_63 rfl ?_
  refine Sh.bipush d4_64 (x := (-2)) rfl ?_
  refine Sh.iastore d4_66 rfl (Sh.onNN (by omega)) (Sh.onCl (by omega)) h2 e2 (Sh.ls_2) ?_
  refine Sh.aload_n d4_67 rfl rfl ?_
  refine Sh.getfield hw (i := 20) (j := 4) rfl d4_68 rfl rfl ?_
  refine Sh.aload_n d4_71 rfl rfl ?_
  refine Sh.getfield hw (i := 48) (j := 7) rfl d4_72 rfl rfl ?_
  refine Sh.iload_n d4_75 rfl ?_
  refine Sh.iastore d4_76 rfl (Sh.onNN (by omega)) (Sh.onCl (by omega)) h3 e3 (Sh.ls_4) ?_
  refine Sh.aload_n d4_77 rfl rfl ?_
  refine Sh.dup d4_78 rfl ?_
  refine Sh.getfield hw (i := 48) (j := 7) rfl d4_79 rfl rfl ?_
  refine Sh.iconst d4_82 (x := 1) rfl ?_
  refine Sh.iaddE d4_83 (Sh.onSucc _) ?_
  refine Sh.putfield hw (i := 48) (i2 := 49) (j := 7) (ty := .int) rfl rfl d4_84 rfl rfl (by decide +kernel) rfl rfl (Sh.ls_7) (Sh.ls_0) ?_
  refine Sh.goto d4_87 (pc' := 116) rfl (by decide) ?_
  refine Sh.ret0 d4_116 rfl (Sh.le rfl) (Sh.le rfl) ?_
  exact ⟨rfl, rfl⟩
theorem ofH (hw : HW Z a0) (lk key : Int64) (hp pl ks ln ks' : List Value) (lf lt : Int32) (s x : Nat) (H2 : Sh.SH) (hx : x < 100) (hs : s < 100) (g : pl[x]? = some (.int (-1))) (h1 : x < ks.length) (hk : ¬ key = lk) (e1 : ks.set x (.long key) = ks') (hM : Sh.Meth l Z a0 n0 b5 R5 [.ref 0, .int (Int32.ofNat x), .int (Int32.ofNat s)] (own_H lk hp pl ks' ln (Int32.ofNat (s + 1)) lf lt) (fun v H' => v = none ∧ H' = H2)) : Sh.Meth l Z a0 n0 b4 R4 [.ref 0, .int (Int32.ofNat x), .long key] (own_H lk hp pl ks ln (Int32.ofNat s) lf lt) (fun v H' => v = none ∧ H' = H2) := by
  refine Sh.Meth.of pn4 (L := [.val (.ref 0), .val (.int (Int32.ofNat x)), .val (.long key), .second, .unset]) rfl ?_
  refine Sh.aload_n d4_0 rfl rfl ?_
  refine Sh.getfield hw (i := 15) (j := 2) rfl d4_1 rfl rfl ?_
  refine Sh.iload_n d4_4 rfl ?_
  refine Sh.iaload d4_5 rfl (Sh.onNN (by omega)) (Sh.onCl (by omega)) g ?_
  refine Sh.istore d4_6 (Sh.s1_4 rfl rfl) ?_
  refine Sh.iload d4_8 rfl ?_
  refine Sh.bipush d4_10 (x := (-2)) rfl ?_
  refine Sh.icmpF d4_12 (by decide) ?_
  refine Sh.iload d4_15 rfl ?_
  refine Sh.ifT d4_17 (pc' := 32) rfl (by decide) (by decide) ?_
  refine Sh.aload_n d4_32 rfl rfl ?_
  refine Sh.getfield hw (i := 18) (j := 3) rfl d4_33 rfl rfl ?_
  refine Sh.iload_n d4_36 rfl ?_
  refine Sh.lload_n d4_37 rfl ?_
  refine Sh.lastore d4_38 rfl (Sh.onNN (by omega)) (Sh.onCl (by omega)) h1 e1 (Sh.ls_3) ?_
  refine Sh.lload_n d4_39 rfl ?_
  refine Sh.aload_n d4_40 rfl rfl ?_
  refine Sh.getfield hw (i := 10) (j := 0) rfl d4_41 rfl rfl ?_
  refine Sh.lcmpT d4_44 d4_45 (pc' := 90) rfl (by decide) hk ?_
  refine Sh.aload_n d4_90 rfl rfl ?_
  refine Sh.iload_n d4_91 rfl ?_
  refine Sh.iload d4_92 rfl ?_
  refine Sh.ifF d4_94 (by decide) ?_
  refine Sh.aload_n d4_97 rfl rfl ?_
  refine Sh.dup d4_98 rfl ?_
  refine Sh.getfield hw (i := 31) (j := 5) rfl d4_99 rfl rfl ?_
  refine Sh.dup_x1 d4_102 rfl rfl ?_
  refine Sh.iconst d4_103 (x := 1) rfl ?_
  refine Sh.iaddE d4_104 (Sh.onSucc _) ?_
  refine Sh.putfield hw (i := 31) (i2 := 32) (j := 5) (ty := .int) rfl rfl d4_105 rfl rfl (by decide +kernel) rfl rfl (Sh.ls_5) (Sh.ls_0) ?_
  refine Sh.goto d4_108 (pc' := 113) rfl (by decide) ?_
  refine Sh.callP hw (i1 := 33) (i2 := 34) (i3 := 2) (i4 := 36) (i5 := 35) (i6 := 1) (k' := 0) (n' := 0) (B' := b5) (R' := R5) rfl rfl rfl rfl rfl rfl (by decide) rfl hM d4_113 rfl rfl pd5 rfl (Sh.le rfl) (Sh.le rfl) (Sh.le rfl) (Sh.le rfl) rfl rfl ?_
  rintro _ _ ⟨rfl, rfl⟩
  refine Sh.ret0 d4_116 rfl (Sh.le rfl) (Sh.le rfl) ?_
  exact ⟨rfl, rfl⟩
theorem mmin (hw : HW Z a0) (x y z : Int64) (H : Sh.SH) (hz : (if y < x then y else x) = z) : Sh.Meth l Z a0 n0 b10 R10 [.long x, .long y] H (fun v H' => v = some (.long z) ∧ H' = H) := by
  refine Sh.Meth.of pn10 (L := [.val (.long x), .second, .val (.long y), .second]) rfl ?_
  subst hz
  refine Sh.lload_n d10_0 rfl ?_
  refine Sh.lload_n d10_1 rfl ?_
  refine Sh.lcmp_gt d10_2 d10_3 (pc' := 10) rfl (by decide) (fun h3 => ?_) (fun h3 => ?_)
  · refine Sh.lload_n d10_10 rfl ?_
    refine Sh.retL d10_11 rfl (Sh.le rfl) (Sh.le rfl) ?_
    exact ⟨by rw [if_pos h3], rfl⟩
  · refine Sh.lload_n d10_6 rfl ?_
    refine Sh.goto d10_7 (pc' := 11) rfl (by decide) ?_
    refine Sh.retL d10_11 rfl (Sh.le rfl) (Sh.le rfl) ?_
    exact ⟨by rw [if_neg h3], rfl⟩
def own_clr (lb : Nat → Nat) : List Value → Nat → Nat → List Value
  | ps, _, 0 => ps
  | ps, i, k + 1 => own_clr lb (ps.set (lb i) (.int (-1))) (i + 1) k
theorem own_clen (lb : Nat → Nat) : ∀ k ps i, (own_clr lb ps i k).length = ps.length := by
  intro k
  induction k with
  | zero => intro ps i; rfl
  | succ k ih => intro ps i; rw [own_clr, ih, List.length_set]
theorem lp2 (hw : HW Z a0) (lk : Int64) (hp ks ln : List Value) (ll : Nat → Nat) (s : Int32) (lf lt : Nat) (ht : lt < 100) (hl : ∀ j, j < lt → lf ≤ j → ln[j]? = some (.int (Int32.ofNat (ll j))) ∧ ll j < 3) : ∀ k i (pl : List Value), i + k = lt → lf ≤ i → pl.length = 3 → Sh.WP l Z a0 n0 b11 R11 0 0 33 [.val (.ref 0), .val (.int (Int32.ofNat i))] [] (own_H lk hp pl ks ln s (Int32.ofNat lf) (Int32.ofNat lt)) (fun v H' => v = none ∧ H' = own_H (-9223372036854775808) hp (own_clr ll pl i k) ks ln 0 0 0) := by
  intro k
  induction k with
  | zero =>
    intro i pl h1 h0 h2
    refine Sh.iload_n d11_33 rfl ?_
    refine Sh.aload_n d11_34 rfl rfl ?_
    refine Sh.getfield hw (i := 48) (j := 7) rfl d11_35 rfl rfl ?_
    refine Sh.icmpT d11_38 (pc' := 59) rfl (by decide) (fun q => absurd ((Sh.onLt (by omega) (by omega)).mp q) (by omega)) ?_
    refine Sh.aload_n d11_59 rfl rfl ?_
    refine Sh.iconst d11_60 (x := 0) rfl ?_
    refine Sh.putfield hw (i := 31) (i2 := 32) (j := 5) (ty := .int) rfl rfl d11_61 rfl rfl (by decide +kernel) rfl rfl (Sh.ls_5) (Sh.ls_0) ?_
    refine Sh.aload_n d11_64 rfl rfl ?_
    refine Sh.iconst d11_65 (x := 0) rfl ?_
    refine Sh.putfield hw (i := 46) (i2 := 47) (j := 6) (ty := .int) rfl rfl d11_66 rfl rfl (by decide +kernel) rfl rfl (Sh.ls_6) (Sh.ls_0) ?_
    refine Sh.aload_n d11_69 rfl rfl ?_
    refine Sh.iconst d11_70 (x := 0) rfl ?_
    refine Sh.putfield hw (i := 48) (i2 := 49) (j := 7) (ty := .int) rfl rfl d11_71 rfl rfl (by decide +kernel) rfl rfl (Sh.ls_7) (Sh.ls_0) ?_
    refine Sh.aload_n d11_74 rfl rfl ?_
    refine Sh.ldc2L hw (i := 9) rfl d11_75 ?_
    refine Sh.putfield hw (i := 10) (i2 := 11) (j := 0) (ty := .long) rfl rfl d11_78 rfl rfl (by decide +kernel) rfl rfl (Sh.ls_0) (Sh.ls_0) ?_
    refine Sh.ret0 d11_81 rfl (Sh.le rfl) (Sh.le rfl) ?_
    exact ⟨rfl, rfl⟩
  | succ k ih =>
    intro i pl h1 h0 h2
    obtain ⟨g1, g2⟩ := hl i (by omega) h0
    refine Sh.iload_n d11_33 rfl ?_
    refine Sh.aload_n d11_34 rfl rfl ?_
    refine Sh.getfield hw (i := 48) (j := 7) rfl d11_35 rfl rfl ?_
    refine Sh.icmpF d11_38 (fun z => z ((Sh.onLt (by omega) (by omega)).mpr (by omega))) ?_
    refine Sh.aload_n d11_41 rfl rfl ?_
    refine Sh.getfield hw (i := 15) (j := 2) rfl d11_42 rfl rfl ?_
    refine Sh.aload_n d11_45 rfl rfl ?_
    refine Sh.getfield hw (i := 20) (j := 4) rfl d11_46 rfl rfl ?_
    refine Sh.iload_n d11_49 rfl ?_
    refine Sh.iaload d11_50 rfl (Sh.onNN (by omega)) (Sh.onCl (by omega)) g1 ?_
    refine Sh.iconst d11_51 (x := (-1)) rfl ?_
    refine Sh.iastore d11_52 rfl (Sh.onNN (by omega)) (Sh.onCl (by omega)) (by omega) rfl (Sh.ls_2) ?_
    refine Sh.iinc d11_53 rfl (ci := 1) rfl (Sh.onSucc _) (Sh.s1_1 rfl rfl) ?_
    refine Sh.goto d11_56 (pc' := 33) rfl (by decide) ?_
    exact ih (i + 1) _ (by omega) (by omega) (by rw [List.length_set]; exact h2)
theorem lp1 (hw : HW Z a0) (lk : Int64) (hp ks ln : List Value) (lh ll : Nat → Nat) (m lf lt : Nat) (hm : m < 100) (ht : lt < 100) (hft : lf ≤ lt) (hh : ∀ j, j < m → hp[j]? = some (.int (Int32.ofNat (lh j))) ∧ lh j < 3) (hl : ∀ j, j < lt → lf ≤ j → ln[j]? = some (.int (Int32.ofNat (ll j))) ∧ ll j < 3) : ∀ k i (pl : List Value), i + k = m → pl.length = 3 → Sh.WP l Z a0 n0 b11 R11 0 0 2 [.val (.ref 0), .val (.int (Int32.ofNat i))] [] (own_H lk hp pl ks ln (Int32.ofNat m) (Int32.ofNat lf) (Int32.ofNat lt)) (fun v H' => v = none ∧ H' = own_H (-9223372036854775808) hp (own_clr ll (own_clr lh pl i k) lf (lt - lf)) ks ln 0 0 0) := by
  intro k
  induction k with
  | zero =>
    intro i pl h1 h2
    refine Sh.iload_n d11_2 rfl ?_
    refine Sh.aload_n d11_3 rfl rfl ?_
    refine Sh.getfield hw (i := 31) (j := 5) rfl d11_4 rfl rfl ?_
    refine Sh.icmpT d11_7 (pc' := 28) rfl (by decide) (fun q => absurd ((Sh.onLt (by omega) (by omega)).mp q) (by omega)) ?_
    refine Sh.aload_n d11_28 rfl rfl ?_
    refine Sh.getfield hw (i := 46) (j := 6) rfl d11_29 rfl rfl ?_
    refine Sh.istore_n d11_32 (Sh.s1_1 rfl rfl) ?_
    exact lp2 l Z a0 n0 hw lk hp ks ln ll _ lf lt ht hl (lt - lf) lf pl (by omega) (by omega) h2
  | succ k ih =>
    intro i pl h1 h2
    obtain ⟨g1, g2⟩ := hh i (by omega)
    refine Sh.iload_n d11_2 rfl ?_
    refine Sh.aload_n d11_3 rfl rfl ?_
    refine Sh.getfield hw (i := 31) (j := 5) rfl d11_4 rfl rfl ?_
    refine Sh.icmpF d11_7 (fun z => z ((Sh.onLt (by omega) (by omega)).mpr (by omega))) ?_
    refine Sh.aload_n d11_10 rfl rfl ?_
    refine Sh.getfield hw (i := 15) (j := 2) rfl d11_11 rfl rfl ?_
    refine Sh.aload_n d11_14 rfl rfl ?_
    refine Sh.getfield hw (i := 13) (j := 1) rfl d11_15 rfl rfl ?_
    refine Sh.iload_n d11_18 rfl ?_
    refine Sh.iaload d11_19 rfl (Sh.onNN (by omega)) (Sh.onCl (by omega)) g1 ?_
    refine Sh.iconst d11_20 (x := (-1)) rfl ?_
    refine Sh.iastore d11_21 rfl (Sh.onNN (by omega)) (Sh.onCl (by omega)) (by omega) rfl (Sh.ls_2) ?_
    refine Sh.iinc d11_22 rfl (ci := 1) rfl (Sh.onSucc _) (Sh.s1_1 rfl rfl) ?_
    refine Sh.goto d11_25 (pc' := 2) rfl (by decide) ?_
    exact ih (i + 1) _ (by omega) (by rw [List.length_set]; exact h2)
theorem clr (hw : HW Z a0) (lk : Int64) (hp ks ln pl pl' : List Value) (lh ll : Nat → Nat) (m lf lt : Nat) (hm : m < 100) (ht : lt < 100) (hft : lf ≤ lt) (hh : ∀ j, j < m → hp[j]? = some (.int (Int32.ofNat (lh j))) ∧ lh j < 3) (hl : ∀ j, j < lt → lf ≤ j → ln[j]? = some (.int (Int32.ofNat (ll j))) ∧ ll j < 3) (hp3 : pl.length = 3) (e : own_clr ll (own_clr lh pl 0 m) lf (lt - lf) = pl') : Sh.Meth l Z a0 n0 b11 R11 [.ref 0] (own_H lk hp pl ks ln (Int32.ofNat m) (Int32.ofNat lf) (Int32.ofNat lt)) (fun v H' => v = none ∧ H' = own_H (-9223372036854775808) hp pl' ks ln 0 0 0) := by
  refine Sh.Meth.of pn11 (L := [.val (.ref 0), .unset]) rfl ?_
  subst e
  refine Sh.iconst d11_0 (x := 0) rfl ?_
  refine Sh.istore_n d11_1 (Sh.s1_1 rfl rfl) ?_
  exact lp1 l Z a0 n0 hw lk hp ks ln lh ll m lf lt hm ht hft hh hl m 0 pl (by omega) hp3
theorem em (hw : HW Z a0) (lk : Int64) (hp pl ks ln : List Value) (t : Int32) : Sh.Meth l Z a0 n0 b12 R12 [.ref 0] (own_H lk hp pl ks ln 0 t t) (fun v H' => v = some (.int 1) ∧ H' = own_H lk hp pl ks ln 0 t t) := by
  refine Sh.Meth.of pn12 (L := [.val (.ref 0)]) rfl ?_
  refine Sh.aload_n d12_0 rfl rfl ?_
  refine Sh.getfield hw (i := 31) (j := 5) rfl d12_1 rfl rfl ?_
  refine Sh.ifF d12_4 (by decide) ?_
  refine Sh.aload_n d12_7 rfl rfl ?_
  refine Sh.getfield hw (i := 46) (j := 6) rfl d12_8 rfl rfl ?_
  refine Sh.aload_n d12_11 rfl rfl ?_
  refine Sh.getfield hw (i := 48) (j := 7) rfl d12_12 rfl rfl ?_
  refine Sh.icmpF d12_15 (fun z => z rfl) ?_
  refine Sh.iconst d12_18 (x := 1) rfl ?_
  refine Sh.goto d12_19 (pc' := 23) rfl (by decide) ?_
  refine Sh.retN d12_23 rfl (by simp) rfl (Sh.le rfl) (Sh.le rfl) ?_
  exact ⟨rfl, rfl⟩
theorem pkL (hw : HW Z a0) (lk : Int64) (hp pl ks ln : List Value) (s lf lt : Int32) (h : lf < lt) : Sh.Meth l Z a0 n0 b13 R13 [.ref 0] (own_H lk hp pl ks ln s lf lt) (fun v H' => v = some (.long lk) ∧ H' = own_H lk hp pl ks ln s lf lt) := by
  refine Sh.Meth.of pn13 (L := [.val (.ref 0)]) rfl ?_
  refine Sh.aload_n d13_0 rfl rfl ?_
  refine Sh.getfield hw (i := 46) (j := 6) rfl d13_1 rfl rfl ?_
  refine Sh.aload_n d13_4 rfl rfl ?_
  refine Sh.getfield hw (i := 48) (j := 7) rfl d13_5 rfl rfl ?_
  refine Sh.icmpF d13_8 (fun z => z h) ?_
  refine Sh.aload_n d13_11 rfl rfl ?_
  refine Sh.getfield hw (i := 10) (j := 0) rfl d13_12 rfl rfl ?_
  refine Sh.goto d13_15 (pc' := 29) rfl (by decide) ?_
  refine Sh.retL d13_29 rfl (Sh.le rfl) (Sh.le rfl) ?_
  exact ⟨rfl, rfl⟩
theorem pkH (hw : HW Z a0) (lk : Int64) (hp pl ks ln : List Value) (s lf lt : Int32) (h : ¬ lf < lt) (x : Nat) (hx : x < 100) (kx : Int64) (g : hp[0]? = some (.int (Int32.ofNat x))) (gk : ks[x]? = some (.long kx)) : Sh.Meth l Z a0 n0 b13 R13 [.ref 0] (own_H lk hp pl ks ln s lf lt) (fun v H' => v = some (.long kx) ∧ H' = own_H lk hp pl ks ln s lf lt) := by
  refine Sh.Meth.of pn13 (L := [.val (.ref 0)]) rfl ?_
  refine Sh.aload_n d13_0 rfl rfl ?_
  refine Sh.getfield hw (i := 46) (j := 6) rfl d13_1 rfl rfl ?_
  refine Sh.aload_n d13_4 rfl rfl ?_
  refine Sh.getfield hw (i := 48) (j := 7) rfl d13_5 rfl rfl ?_
  refine Sh.icmpT d13_8 (pc' := 18) rfl (by decide) h ?_
  refine Sh.aload_n d13_18 rfl rfl ?_
  refine Sh.getfield hw (i := 18) (j := 3) rfl d13_19 rfl rfl ?_
  refine Sh.aload_n d13_22 rfl rfl ?_
  refine Sh.getfield hw (i := 13) (j := 1) rfl d13_23 rfl rfl ?_
  refine Sh.iconst d13_26 (x := 0) rfl ?_
  refine Sh.iaload (jn := 0) d13_27 rfl (by decide) rfl g ?_
  refine Sh.laload d13_28 rfl (Sh.onNN (by omega)) (Sh.onCl (by omega)) gk ?_
  refine Sh.retL d13_29 rfl (Sh.le rfl) (Sh.le rfl) ?_
  exact ⟨rfl, rfl⟩
theorem two00 (hw : HW Z a0) (a b c d : Int64) (f : Int32) (p0 p1 p2 y0 y1 y2 r0 r1 r2 : Value) :
    Sh.WP l Z a0 n0 b0 room_1 5 20 94 [.val (.long a), .second, .val (.long b), .second, .val (.long c), .second, .val (.long d), .second, .val (.int f), .val (.ref 0), .val (.int (Int32.ofNat 0)), .val (.int (Int32.ofNat 1)), .unset, .unset, .unset, .unset] [] (own_H (-9223372036854775808) [p0, p1, p2] [.int (-1), .int (-1), .int (-1)] [y0, y1, y2] [r0, r1, r2] 0 0 0) (fun v _ => v = some (.int 1)) := by
  by_cases hc : c = (-9223372036854775808)
  · subst hc
    by_cases hd : d = (-9223372036854775808)
    · subst hd
      refine Sh.aload at_94 rfl rfl ?_
      refine Sh.iload at_96 rfl ?_
      refine Sh.lload at_98 rfl ?_
      refine Sh.callV hw (i1 := 26) (i2 := 28) (i3 := 2) (i4 := 30) (i5 := 27) (i6 := 29) (k' := 5) (n' := 20) (B' := b4) (R' := R4) rfl rfl rfl rfl rfl rfl (by decide) rfl (ofL l Z a0 n0 hw _ (-9223372036854775808) _ _ _ _ _ _ _ _ _ 0 0 (by decide) (by decide) rfl (Sh.le rfl) (Sh.le rfl) (Sh.le rfl) rfl (Sh.ls_0) (Sh.ls_0) (Sh.ls_0)) at_100 rfl rfl pd4 rfl (Sh.le rfl) (Sh.le rfl) (Sh.le rfl) (Sh.le rfl) rfl rfl ?_
      rintro _ _ ⟨rfl, rfl⟩
      refine Sh.aload at_103 rfl rfl ?_
      refine Sh.iload at_105 rfl ?_
      refine Sh.lload at_107 rfl ?_
      refine Sh.callV hw (i1 := 26) (i2 := 28) (i3 := 2) (i4 := 30) (i5 := 27) (i6 := 29) (k' := 5) (n' := 20) (B' := b4) (R' := R4) rfl rfl rfl rfl rfl rfl (by decide) rfl (ofL l Z a0 n0 hw _ (-9223372036854775808) _ _ _ _ _ _ _ _ _ 1 1 (by decide) (by decide) rfl (Sh.le rfl) (Sh.le rfl) (Sh.le rfl) rfl (Sh.ls_1) (Sh.ls_1) (Sh.ls_1)) at_109 rfl rfl pd4 rfl (Sh.le rfl) (Sh.le rfl) (Sh.le rfl) (Sh.le rfl) rfl rfl ?_
      rintro _ _ ⟨rfl, rfl⟩
      refine Sh.aload at_112 rfl rfl ?_
      refine Sh.callV hw (i1 := 72) (i2 := 74) (i3 := 2) (i4 := 76) (i5 := 73) (i6 := 75) (k' := 5) (n' := 20) (B' := b13) (R' := R13) rfl rfl rfl rfl rfl rfl (by decide) rfl (pkL l Z a0 n0 hw _ _ _ _ _ _ _ _ (by decide)) at_114 rfl rfl pd13 rfl (Sh.le rfl) (Sh.le rfl) (Sh.le rfl) (Sh.le rfl) rfl rfl ?_
      rintro _ _ ⟨rfl, rfl⟩
      refine Sh.lload at_117 rfl ?_
      refine Sh.lload at_119 rfl ?_
      refine Sh.callS hw (i1 := 58) (i2 := 59) (i3 := 60) (i4 := 61) (k' := 5) (n' := 20) (B' := b10) (R' := R10) rfl rfl rfl rfl (by decide) (mmin l Z a0 n0 hw (-9223372036854775808) (-9223372036854775808) (-9223372036854775808) _ (by decide)) at_121 rfl rfl pd10 rfl (Sh.le rfl) (Sh.le rfl) (Sh.le rfl) (Sh.le rfl) rfl rfl ?_
      rintro _ _ ⟨rfl, rfl⟩
      refine Sh.lcmpT at_124 at_125 (pc' := 130) rfl (by decide) rfl ?_
      refine Sh.aload at_130 rfl rfl ?_
      refine Sh.callV hw (i1 := 41) (i2 := 43) (i3 := 2) (i4 := 45) (i5 := 42) (i6 := 44) (k' := 5) (n' := 20) (B' := b7) (R' := R7) rfl rfl rfl rfl rfl rfl (by decide) rfl (poL l Z a0 n0 hw _ _ _ _ _ _ _ 0 2 0 (by decide) (by decide) (by decide) (Sh.le rfl) rfl (Sh.ls_0)) at_132 rfl rfl pd7 rfl (Sh.le rfl) (Sh.le rfl) (Sh.le rfl) (Sh.le rfl) rfl rfl ?_
      rintro _ _ ⟨rfl, rfl⟩
      refine Sh.istore at_135 (Sh.s1_12 rfl rfl) ?_
      refine Sh.aload at_137 rfl rfl ?_
      refine Sh.callV hw (i1 := 41) (i2 := 43) (i3 := 2) (i4 := 45) (i5 := 42) (i6 := 44) (k' := 5) (n' := 20) (B' := b7) (R' := R7) rfl rfl rfl rfl rfl rfl (by decide) rfl (poL l Z a0 n0 hw _ _ _ _ _ _ _ 1 2 1 (by decide) (by decide) (by decide) (Sh.le rfl) rfl (Sh.ls_1)) at_139 rfl rfl pd7 rfl (Sh.le rfl) (Sh.le rfl) (Sh.le rfl) (Sh.le rfl) rfl rfl ?_
      rintro _ _ ⟨rfl, rfl⟩
      refine Sh.istore at_142 (Sh.s1_13 rfl rfl) ?_
      refine Sh.lload at_144 rfl ?_
      refine Sh.lload at_146 rfl ?_
      refine Sh.lcmpT at_148 at_149 (pc' := 157) rfl (by decide) (by decide) ?_
      refine Sh.iload at_157 rfl ?_
      refine Sh.istore at_159 (Sh.s1_14 rfl rfl) ?_
      refine Sh.lload at_161 rfl ?_
      refine Sh.lload at_163 rfl ?_
      refine Sh.lcmpT at_165 at_166 (pc' := 174) rfl (by decide) (by decide) ?_
      refine Sh.iload at_174 rfl ?_
      refine Sh.istore at_176 (Sh.s1_15 rfl rfl) ?_
      refine Sh.iload at_178 rfl ?_
      refine Sh.iload at_180 rfl ?_
      refine Sh.icmpF at_182 (fun z => z rfl) ?_
      refine Sh.iload at_185 rfl ?_
      refine Sh.iload at_187 rfl ?_
      refine Sh.icmpF at_189 (fun z => z rfl) ?_
      refine Sh.aload at_192 rfl rfl ?_
      refine Sh.callV hw (i1 := 67) (i2 := 69) (i3 := 2) (i4 := 71) (i5 := 68) (i6 := 70) (k' := 5) (n' := 20) (B' := b12) (R' := R12) rfl rfl rfl rfl rfl rfl (by decide) rfl (em l Z a0 n0 hw _ _ _ _ _ _) at_194 rfl rfl pd12 rfl (Sh.le rfl) (Sh.le rfl) (Sh.le rfl) (Sh.le rfl) rfl rfl ?_
      rintro _ _ ⟨rfl, rfl⟩
      refine Sh.ifF at_197 (by decide) ?_
      refine Sh.iconst at_200 (x := 1) rfl ?_
      refine Sh.goto at_201 (pc' := 205) rfl (by decide) ?_
      refine Sh.retN at_205 rfl (by simp) rfl (Sh.le rfl) (Sh.le rfl) ?_
      rfl
    · skip
      refine Sh.aload at_94 rfl rfl ?_
      refine Sh.iload at_96 rfl ?_
      refine Sh.lload at_98 rfl ?_
      refine Sh.callV hw (i1 := 26) (i2 := 28) (i3 := 2) (i4 := 30) (i5 := 27) (i6 := 29) (k' := 5) (n' := 20) (B' := b4) (R' := R4) rfl rfl rfl rfl rfl rfl (by decide) rfl (ofL l Z a0 n0 hw _ (-9223372036854775808) _ _ _ _ _ _ _ _ _ 0 0 (by decide) (by decide) rfl (Sh.le rfl) (Sh.le rfl) (Sh.le rfl) rfl (Sh.ls_0) (Sh.ls_0) (Sh.ls_0)) at_100 rfl rfl pd4 rfl (Sh.le rfl) (Sh.le rfl) (Sh.le rfl) (Sh.le rfl) rfl rfl ?_
      rintro _ _ ⟨rfl, rfl⟩
      refine Sh.aload at_103 rfl rfl ?_
      refine Sh.iload at_105 rfl ?_
      refine Sh.lload at_107 rfl ?_
      refine Sh.callV hw (i1 := 26) (i2 := 28) (i3 := 2) (i4 := 30) (i5 := 27) (i6 := 29) (k' := 5) (n' := 20) (B' := b4) (R' := R4) rfl rfl rfl rfl rfl rfl (by decide) rfl (ofH l Z a0 n0 hw _ d _ _ _ _ _ _ _ 0 1 _ (by decide) (by decide) rfl (Sh.le rfl) hd (Sh.ls_1) (su0 l Z a0 n0 hw _ _ _ _ _ _ _ _ _ _ 1 (Sh.le rfl) (Sh.le rfl) (by decide) (Sh.ls_0) (Sh.ls_1))) at_109 rfl rfl pd4 rfl (Sh.le rfl) (Sh.le rfl) (Sh.le rfl) (Sh.le rfl) rfl rfl ?_
      rintro _ _ ⟨rfl, rfl⟩
      refine Sh.aload at_112 rfl rfl ?_
      refine Sh.callV hw (i1 := 72) (i2 := 74) (i3 := 2) (i4 := 76) (i5 := 73) (i6 := 75) (k' := 5) (n' := 20) (B' := b13) (R' := R13) rfl rfl rfl rfl rfl rfl (by decide) rfl (pkL l Z a0 n0 hw _ _ _ _ _ _ _ _ (by decide)) at_114 rfl rfl pd13 rfl (Sh.le rfl) (Sh.le rfl) (Sh.le rfl) (Sh.le rfl) rfl rfl ?_
      rintro _ _ ⟨rfl, rfl⟩
      refine Sh.lload at_117 rfl ?_
      refine Sh.lload at_119 rfl ?_
      refine Sh.callS hw (i1 := 58) (i2 := 59) (i3 := 60) (i4 := 61) (k' := 5) (n' := 20) (B' := b10) (R' := R10) rfl rfl rfl rfl (by decide) (mmin l Z a0 n0 hw (-9223372036854775808) d (-9223372036854775808) _ (if_neg (own_nlt d))) at_121 rfl rfl pd10 rfl (Sh.le rfl) (Sh.le rfl) (Sh.le rfl) (Sh.le rfl) rfl rfl ?_
      rintro _ _ ⟨rfl, rfl⟩
      refine Sh.lcmpT at_124 at_125 (pc' := 130) rfl (by decide) rfl ?_
      refine Sh.aload at_130 rfl rfl ?_
      refine Sh.callV hw (i1 := 41) (i2 := 43) (i3 := 2) (i4 := 45) (i5 := 42) (i6 := 44) (k' := 5) (n' := 20) (B' := b7) (R' := R7) rfl rfl rfl rfl rfl rfl (by decide) rfl (poL l Z a0 n0 hw _ _ _ _ _ _ _ 0 1 0 (by decide) (by decide) (by decide) (Sh.le rfl) rfl (Sh.ls_0)) at_132 rfl rfl pd7 rfl (Sh.le rfl) (Sh.le rfl) (Sh.le rfl) (Sh.le rfl) rfl rfl ?_
      rintro _ _ ⟨rfl, rfl⟩
      refine Sh.istore at_135 (Sh.s1_12 rfl rfl) ?_
      refine Sh.aload at_137 rfl rfl ?_
      refine Sh.callV hw (i1 := 41) (i2 := 43) (i3 := 2) (i4 := 45) (i5 := 42) (i6 := 44) (k' := 5) (n' := 20) (B' := b7) (R' := R7) rfl rfl rfl rfl rfl rfl (by decide) rfl (poH l Z a0 n0 hw _ _ _ _ _ _ _ _ _ _ 1 1 1 _ (by decide) (by decide) (by decide) (Sh.le rfl) rfl rfl (rv1 l Z a0 n0 hw _ _ _ _ _ _ _ _ 1 (by decide) (Sh.le rfl) rfl (Sh.ls_1)) (Sh.ls_1)) at_139 rfl rfl pd7 rfl (Sh.le rfl) (Sh.le rfl) (Sh.le rfl) (Sh.le rfl) rfl rfl ?_
      rintro _ _ ⟨rfl, rfl⟩
      refine Sh.istore at_142 (Sh.s1_13 rfl rfl) ?_
      refine Sh.lload at_144 rfl ?_
      refine Sh.lload at_146 rfl ?_
      refine Sh.lcmpT at_148 at_149 (pc' := 157) rfl (by decide) (own_nlt d) ?_
      refine Sh.iload at_157 rfl ?_
      refine Sh.istore at_159 (Sh.s1_14 rfl rfl) ?_
      refine Sh.lload at_161 rfl ?_
      refine Sh.lload at_163 rfl ?_
      refine Sh.lcmpT at_165 at_166 (pc' := 174) rfl (by decide) (own_nlt d) ?_
      refine Sh.iload at_174 rfl ?_
      refine Sh.istore at_176 (Sh.s1_15 rfl rfl) ?_
      refine Sh.iload at_178 rfl ?_
      refine Sh.iload at_180 rfl ?_
      refine Sh.icmpF at_182 (fun z => z rfl) ?_
      refine Sh.iload at_185 rfl ?_
      refine Sh.iload at_187 rfl ?_
      refine Sh.icmpF at_189 (fun z => z rfl) ?_
      refine Sh.aload at_192 rfl rfl ?_
      refine Sh.callV hw (i1 := 67) (i2 := 69) (i3 := 2) (i4 := 71) (i5 := 68) (i6 := 70) (k' := 5) (n' := 20) (B' := b12) (R' := R12) rfl rfl rfl rfl rfl rfl (by decide) rfl (em l Z a0 n0 hw _ _ _ _ _ _) at_194 rfl rfl pd12 rfl (Sh.le rfl) (Sh.le rfl) (Sh.le rfl) (Sh.le rfl) rfl rfl ?_
      rintro _ _ ⟨rfl, rfl⟩
      refine Sh.ifF at_197 (by decide) ?_
      refine Sh.iconst at_200 (x := 1) rfl ?_
      refine Sh.goto at_201 (pc' := 205) rfl (by decide) ?_
      refine Sh.retN at_205 rfl (by simp) rfl (Sh.le rfl) (Sh.le rfl) ?_
      rfl
  · by_cases hd : d = (-9223372036854775808)
    · subst hd
      refine Sh.aload at_94 rfl rfl ?_
      refine Sh.iload at_96 rfl ?_
      refine Sh.lload at_98 rfl ?_
      refine Sh.callV hw (i1 := 26) (i2 := 28) (i3 := 2) (i4 := 30) (i5 := 27) (i6 := 29) (k' := 5) (n' := 20) (B' := b4) (R' := R4) rfl rfl rfl rfl rfl rfl (by decide) rfl (ofH l Z a0 n0 hw _ c _ _ _ _ _ _ _ 0 0 _ (by decide) (by decide) rfl (Sh.le rfl) hc (Sh.ls_0) (su0 l Z a0 n0 hw _ _ _ _ _ _ _ _ _ _ 0 (Sh.le rfl) (Sh.le rfl) (by decide) (Sh.ls_0) (Sh.ls_0))) at_100 rfl rfl pd4 rfl (Sh.le rfl) (Sh.le rfl) (Sh.le rfl) (Sh.le rfl) rfl rfl ?_
      rintro _ _ ⟨rfl, rfl⟩
      refine Sh.aload at_103 rfl rfl ?_
      refine Sh.iload at_105 rfl ?_
      refine Sh.lload at_107 rfl ?_
      refine Sh.callV hw (i1 := 26) (i2 := 28) (i3 := 2) (i4 := 30) (i5 := 27) (i6 := 29) (k' := 5) (n' := 20) (B' := b4) (R' := R4) rfl rfl rfl rfl rfl rfl (by decide) rfl (ofL l Z a0 n0 hw _ (-9223372036854775808) _ _ _ _ _ _ _ _ _ 0 1 (by decide) (by decide) rfl (Sh.le rfl) (Sh.le rfl) (Sh.le rfl) rfl (Sh.ls_1) (Sh.ls_1) (Sh.ls_0)) at_109 rfl rfl pd4 rfl (Sh.le rfl) (Sh.le rfl) (Sh.le rfl) (Sh.le rfl) rfl rfl ?_
      rintro _ _ ⟨rfl, rfl⟩
      refine Sh.aload at_112 rfl rfl ?_
      refine Sh.callV hw (i1 := 72) (i2 := 74) (i3 := 2) (i4 := 76) (i5 := 73) (i6 := 75) (k' := 5) (n' := 20) (B' := b13) (R' := R13) rfl rfl rfl rfl rfl rfl (by decide) rfl (pkL l Z a0 n0 hw _ _ _ _ _ _ _ _ (by decide)) at_114 rfl rfl pd13 rfl (Sh.le rfl) (Sh.le rfl) (Sh.le rfl) (Sh.le rfl) rfl rfl ?_
      rintro _ _ ⟨rfl, rfl⟩
      refine Sh.lload at_117 rfl ?_
      refine Sh.lload at_119 rfl ?_
      refine Sh.callS hw (i1 := 58) (i2 := 59) (i3 := 60) (i4 := 61) (k' := 5) (n' := 20) (B' := b10) (R' := R10) rfl rfl rfl rfl (by decide) (mmin l Z a0 n0 hw c (-9223372036854775808) (-9223372036854775808) _ (if_pos (own_lt c hc))) at_121 rfl rfl pd10 rfl (Sh.le rfl) (Sh.le rfl) (Sh.le rfl) (Sh.le rfl) rfl rfl ?_
      rintro _ _ ⟨rfl, rfl⟩
      refine Sh.lcmpT at_124 at_125 (pc' := 130) rfl (by decide) rfl ?_
      refine Sh.aload at_130 rfl rfl ?_
      refine Sh.callV hw (i1 := 41) (i2 := 43) (i3 := 2) (i4 := 45) (i5 := 42) (i6 := 44) (k' := 5) (n' := 20) (B' := b7) (R' := R7) rfl rfl rfl rfl rfl rfl (by decide) rfl (poL l Z a0 n0 hw _ _ _ _ _ _ _ 0 1 1 (by decide) (by decide) (by decide) (Sh.le rfl) rfl (Sh.ls_1)) at_132 rfl rfl pd7 rfl (Sh.le rfl) (Sh.le rfl) (Sh.le rfl) (Sh.le rfl) rfl rfl ?_
      rintro _ _ ⟨rfl, rfl⟩
      refine Sh.istore at_135 (Sh.s1_12 rfl rfl) ?_
      refine Sh.aload at_137 rfl rfl ?_
      refine Sh.callV hw (i1 := 41) (i2 := 43) (i3 := 2) (i4 := 45) (i5 := 42) (i6 := 44) (k' := 5) (n' := 20) (B' := b7) (R' := R7) rfl rfl rfl rfl rfl rfl (by decide) rfl (poH l Z a0 n0 hw _ _ _ _ _ _ _ _ _ _ 1 1 0 _ (by decide) (by decide) (by decide) (Sh.le rfl) rfl rfl (rv1 l Z a0 n0 hw _ _ _ _ _ _ _ _ 0 (by decide) (Sh.le rfl) rfl (Sh.ls_0)) (Sh.ls_0)) at_139 rfl rfl pd7 rfl (Sh.le rfl) (Sh.le rfl) (Sh.le rfl) (Sh.le rfl) rfl rfl ?_
      rintro _ _ ⟨rfl, rfl⟩
      refine Sh.istore at_142 (Sh.s1_13 rfl rfl) ?_
      refine Sh.lload at_144 rfl ?_
      refine Sh.lload at_146 rfl ?_
      refine Sh.lcmpF at_148 at_149 (fun z => z (own_lt c hc)) ?_
      refine Sh.iload at_152 rfl ?_
      refine Sh.goto at_154 (pc' := 159) rfl (by decide) ?_
      refine Sh.istore at_159 (Sh.s1_14 rfl rfl) ?_
      refine Sh.lload at_161 rfl ?_
      refine Sh.lload at_163 rfl ?_
      refine Sh.lcmpF at_165 at_166 (fun z => z (own_lt c hc)) ?_
      refine Sh.iload at_169 rfl ?_
      refine Sh.goto at_171 (pc' := 176) rfl (by decide) ?_
      refine Sh.istore at_176 (Sh.s1_15 rfl rfl) ?_
      refine Sh.iload at_178 rfl ?_
      refine Sh.iload at_180 rfl ?_
      refine Sh.icmpF at_182 (fun z => z rfl) ?_
      refine Sh.iload at_185 rfl ?_
      refine Sh.iload at_187 rfl ?_
      refine Sh.icmpF at_189 (fun z => z rfl) ?_
      refine Sh.aload at_192 rfl rfl ?_
      refine Sh.callV hw (i1 := 67) (i2 := 69) (i3 := 2) (i4 := 71) (i5 := 68) (i6 := 70) (k' := 5) (n' := 20) (B' := b12) (R' := R12) rfl rfl rfl rfl rfl rfl (by decide) rfl (em l Z a0 n0 hw _ _ _ _ _ _) at_194 rfl rfl pd12 rfl (Sh.le rfl) (Sh.le rfl) (Sh.le rfl) (Sh.le rfl) rfl rfl ?_
      rintro _ _ ⟨rfl, rfl⟩
      refine Sh.ifF at_197 (by decide) ?_
      refine Sh.iconst at_200 (x := 1) rfl ?_
      refine Sh.goto at_201 (pc' := 205) rfl (by decide) ?_
      refine Sh.retN at_205 rfl (by simp) rfl (Sh.le rfl) (Sh.le rfl) ?_
      rfl
    · by_cases hl : d < c
      · skip
        refine Sh.aload at_94 rfl rfl ?_
        refine Sh.iload at_96 rfl ?_
        refine Sh.lload at_98 rfl ?_
        refine Sh.callV hw (i1 := 26) (i2 := 28) (i3 := 2) (i4 := 30) (i5 := 27) (i6 := 29) (k' := 5) (n' := 20) (B' := b4) (R' := R4) rfl rfl rfl rfl rfl rfl (by decide) rfl (ofH l Z a0 n0 hw _ c _ _ _ _ _ _ _ 0 0 _ (by decide) (by decide) rfl (Sh.le rfl) hc (Sh.ls_0) (su0 l Z a0 n0 hw _ _ _ _ _ _ _ _ _ _ 0 (Sh.le rfl) (Sh.le rfl) (by decide) (Sh.ls_0) (Sh.ls_0))) at_100 rfl rfl pd4 rfl (Sh.le rfl) (Sh.le rfl) (Sh.le rfl) (Sh.le rfl) rfl rfl ?_
        rintro _ _ ⟨rfl, rfl⟩
        refine Sh.aload at_103 rfl rfl ?_
        refine Sh.iload at_105 rfl ?_
        refine Sh.lload at_107 rfl ?_
        refine Sh.callV hw (i1 := 26) (i2 := 28) (i3 := 2) (i4 := 30) (i5 := 27) (i6 := 29) (k' := 5) (n' := 20) (B' := b4) (R' := R4) rfl rfl rfl rfl rfl rfl (by decide) rfl (ofH l Z a0 n0 hw _ d _ _ _ _ _ _ _ 1 1 _ (by decide) (by decide) rfl (Sh.le rfl) hd (Sh.ls_1) (su1s l Z a0 n0 hw _ _ _ _ _ _ _ _ _ _ _ _ 1 0 (Sh.le rfl) (Sh.le rfl) (Sh.le rfl) (by decide) (by decide) (Sh.ls_1) (Sh.ls_0) (Sh.ls_0) (Sh.ls_1) _ _ rfl rfl rfl hl)) at_109 rfl rfl pd4 rfl (Sh.le rfl) (Sh.le rfl) (Sh.le rfl) (Sh.le rfl) rfl rfl ?_
        rintro _ _ ⟨rfl, rfl⟩
        refine Sh.aload at_112 rfl rfl ?_
        refine Sh.callV hw (i1 := 72) (i2 := 74) (i3 := 2) (i4 := 76) (i5 := 73) (i6 := 75) (k' := 5) (n' := 20) (B' := b13) (R' := R13) rfl rfl rfl rfl rfl rfl (by decide) rfl (pkH l Z a0 n0 hw _ _ _ _ _ _ _ _ (by decide) 1 (by decide) _ rfl rfl) at_114 rfl rfl pd13 rfl (Sh.le rfl) (Sh.le rfl) (Sh.le rfl) (Sh.le rfl) rfl rfl ?_
        rintro _ _ ⟨rfl, rfl⟩
        refine Sh.lload at_117 rfl ?_
        refine Sh.lload at_119 rfl ?_
        refine Sh.callS hw (i1 := 58) (i2 := 59) (i3 := 60) (i4 := 61) (k' := 5) (n' := 20) (B' := b10) (R' := R10) rfl rfl rfl rfl (by decide) (mmin l Z a0 n0 hw c d d _ (if_pos hl)) at_121 rfl rfl pd10 rfl (Sh.le rfl) (Sh.le rfl) (Sh.le rfl) (Sh.le rfl) rfl rfl ?_
        rintro _ _ ⟨rfl, rfl⟩
        refine Sh.lcmpT at_124 at_125 (pc' := 130) rfl (by decide) rfl ?_
        refine Sh.aload at_130 rfl rfl ?_
        refine Sh.callV hw (i1 := 41) (i2 := 43) (i3 := 2) (i4 := 45) (i5 := 42) (i6 := 44) (k' := 5) (n' := 20) (B' := b7) (R' := R7) rfl rfl rfl rfl rfl rfl (by decide) rfl (poH l Z a0 n0 hw _ _ _ _ _ _ _ _ _ _ 0 0 1 _ (by decide) (by decide) (by decide) (Sh.le rfl) rfl rfl (rv2 l Z a0 n0 hw _ _ _ _ _ _ _ _ _ _ _ 1 0 (by decide) (by decide) (Sh.le rfl) (Sh.le rfl) (Sh.le rfl) rfl rfl (Sh.ls_1) (Sh.ls_0) (Sh.ls_0) (Sh.ls_0) (Sh.ls_0)) (Sh.ls_1)) at_132 rfl rfl pd7 rfl (Sh.le rfl) (Sh.le rfl) (Sh.le rfl) (Sh.le rfl) rfl rfl ?_
        rintro _ _ ⟨rfl, rfl⟩
        refine Sh.istore at_135 (Sh.s1_12 rfl rfl) ?_
        refine Sh.aload at_137 rfl rfl ?_
        refine Sh.callV hw (i1 := 41) (i2 := 43) (i3 := 2) (i4 := 45) (i5 := 42) (i6 := 44) (k' := 5) (n' := 20) (B' := b7) (R' := R7) rfl rfl rfl rfl rfl rfl (by decide) rfl (poH l Z a0 n0 hw _ _ _ _ _ _ _ _ _ _ 0 0 0 _ (by decide) (by decide) (by decide) (Sh.le rfl) rfl rfl (rv1 l Z a0 n0 hw _ _ _ _ _ _ _ _ 0 (by decide) (Sh.le rfl) rfl (Sh.ls_0)) (Sh.ls_0)) at_139 rfl rfl pd7 rfl (Sh.le rfl) (Sh.le rfl) (Sh.le rfl) (Sh.le rfl) rfl rfl ?_
        rintro _ _ ⟨rfl, rfl⟩
        refine Sh.istore at_142 (Sh.s1_13 rfl rfl) ?_
        refine Sh.lload at_144 rfl ?_
        refine Sh.lload at_146 rfl ?_
        refine Sh.lcmpF at_148 at_149 (fun z => z hl) ?_
        refine Sh.iload at_152 rfl ?_
        refine Sh.goto at_154 (pc' := 159) rfl (by decide) ?_
        refine Sh.istore at_159 (Sh.s1_14 rfl rfl) ?_
        refine Sh.lload at_161 rfl ?_
        refine Sh.lload at_163 rfl ?_
        refine Sh.lcmpF at_165 at_166 (fun z => z hl) ?_
        refine Sh.iload at_169 rfl ?_
        refine Sh.goto at_171 (pc' := 176) rfl (by decide) ?_
        refine Sh.istore at_176 (Sh.s1_15 rfl rfl) ?_
        refine Sh.iload at_178 rfl ?_
        refine Sh.iload at_180 rfl ?_
        refine Sh.icmpF at_182 (fun z => z rfl) ?_
        refine Sh.iload at_185 rfl ?_
        refine Sh.iload at_187 rfl ?_
        refine Sh.icmpF at_189 (fun z => z rfl) ?_
        refine Sh.aload at_192 rfl rfl ?_
        refine Sh.callV hw (i1 := 67) (i2 := 69) (i3 := 2) (i4 := 71) (i5 := 68) (i6 := 70) (k' := 5) (n' := 20) (B' := b12) (R' := R12) rfl rfl rfl rfl rfl rfl (by decide) rfl (em l Z a0 n0 hw _ _ _ _ _ _) at_194 rfl rfl pd12 rfl (Sh.le rfl) (Sh.le rfl) (Sh.le rfl) (Sh.le rfl) rfl rfl ?_
        rintro _ _ ⟨rfl, rfl⟩
        refine Sh.ifF at_197 (by decide) ?_
        refine Sh.iconst at_200 (x := 1) rfl ?_
        refine Sh.goto at_201 (pc' := 205) rfl (by decide) ?_
        refine Sh.retN at_205 rfl (by simp) rfl (Sh.le rfl) (Sh.le rfl) ?_
        rfl
      · skip
        refine Sh.aload at_94 rfl rfl ?_
        refine Sh.iload at_96 rfl ?_
        refine Sh.lload at_98 rfl ?_
        refine Sh.callV hw (i1 := 26) (i2 := 28) (i3 := 2) (i4 := 30) (i5 := 27) (i6 := 29) (k' := 5) (n' := 20) (B' := b4) (R' := R4) rfl rfl rfl rfl rfl rfl (by decide) rfl (ofH l Z a0 n0 hw _ c _ _ _ _ _ _ _ 0 0 _ (by decide) (by decide) rfl (Sh.le rfl) hc (Sh.ls_0) (su0 l Z a0 n0 hw _ _ _ _ _ _ _ _ _ _ 0 (Sh.le rfl) (Sh.le rfl) (by decide) (Sh.ls_0) (Sh.ls_0))) at_100 rfl rfl pd4 rfl (Sh.le rfl) (Sh.le rfl) (Sh.le rfl) (Sh.le rfl) rfl rfl ?_
        rintro _ _ ⟨rfl, rfl⟩
        refine Sh.aload at_103 rfl rfl ?_
        refine Sh.iload at_105 rfl ?_
        refine Sh.lload at_107 rfl ?_
        refine Sh.callV hw (i1 := 26) (i2 := 28) (i3 := 2) (i4 := 30) (i5 := 27) (i6 := 29) (k' := 5) (n' := 20) (B' := b4) (R' := R4) rfl rfl rfl rfl rfl rfl (by decide) rfl (ofH l Z a0 n0 hw _ d _ _ _ _ _ _ _ 1 1 _ (by decide) (by decide) rfl (Sh.le rfl) hd (Sh.ls_1) (su1n l Z a0 n0 hw _ _ _ _ _ _ _ _ _ _ 1 (Sh.le rfl) (Sh.le rfl) (by decide) (Sh.ls_1) (Sh.ls_1) 0 (by decide) _ _ rfl rfl rfl hl)) at_109 rfl rfl pd4 rfl (Sh.le rfl) (Sh.le rfl) (Sh.le rfl) (Sh.le rfl) rfl rfl ?_
        rintro _ _ ⟨rfl, rfl⟩
        refine Sh.aload at_112 rfl rfl ?_
        refine Sh.callV hw (i1 := 72) (i2 := 74) (i3 := 2) (i4 := 76) (i5 := 73) (i6 := 75) (k' := 5) (n' := 20) (B' := b13) (R' := R13) rfl rfl rfl rfl rfl rfl (by decide) rfl (pkH l Z a0 n0 hw _ _ _ _ _ _ _ _ (by decide) 0 (by decide) _ rfl rfl) at_114 rfl rfl pd13 rfl (Sh.le rfl) (Sh.le rfl) (Sh.le rfl) (Sh.le rfl) rfl rfl ?_
        rintro _ _ ⟨rfl, rfl⟩
        refine Sh.lload at_117 rfl ?_
        refine Sh.lload at_119 rfl ?_
        refine Sh.callS hw (i1 := 58) (i2 := 59) (i3 := 60) (i4 := 61) (k' := 5) (n' := 20) (B' := b10) (R' := R10) rfl rfl rfl rfl (by decide) (mmin l Z a0 n0 hw c d c _ (if_neg hl)) at_121 rfl rfl pd10 rfl (Sh.le rfl) (Sh.le rfl) (Sh.le rfl) (Sh.le rfl) rfl rfl ?_
        rintro _ _ ⟨rfl, rfl⟩
        refine Sh.lcmpT at_124 at_125 (pc' := 130) rfl (by decide) rfl ?_
        refine Sh.aload at_130 rfl rfl ?_
        refine Sh.callV hw (i1 := 41) (i2 := 43) (i3 := 2) (i4 := 45) (i5 := 42) (i6 := 44) (k' := 5) (n' := 20) (B' := b7) (R' := R7) rfl rfl rfl rfl rfl rfl (by decide) rfl (poH l Z a0 n0 hw _ _ _ _ _ _ _ _ _ _ 0 0 0 _ (by decide) (by decide) (by decide) (Sh.le rfl) rfl rfl (rv2 l Z a0 n0 hw _ _ _ _ _ _ _ _ _ _ _ 0 1 (by decide) (by decide) (Sh.le rfl) (Sh.le rfl) (Sh.le rfl) rfl rfl (Sh.ls_0) (Sh.ls_0) (Sh.ls_1) (Sh.ls_0) (Sh.ls_1)) (Sh.ls_0)) at_132 rfl rfl pd7 rfl (Sh.le rfl) (Sh.le rfl) (Sh.le rfl) (Sh.le rfl) rfl rfl ?_
        rintro _ _ ⟨rfl, rfl⟩
        refine Sh.istore at_135 (Sh.s1_12 rfl rfl) ?_
        refine Sh.aload at_137 rfl rfl ?_
        refine Sh.callV hw (i1 := 41) (i2 := 43) (i3 := 2) (i4 := 45) (i5 := 42) (i6 := 44) (k' := 5) (n' := 20) (B' := b7) (R' := R7) rfl rfl rfl rfl rfl rfl (by decide) rfl (poH l Z a0 n0 hw _ _ _ _ _ _ _ _ _ _ 0 0 1 _ (by decide) (by decide) (by decide) (Sh.le rfl) rfl rfl (rv1 l Z a0 n0 hw _ _ _ _ _ _ _ _ 1 (by decide) (Sh.le rfl) rfl (Sh.ls_1)) (Sh.ls_1)) at_139 rfl rfl pd7 rfl (Sh.le rfl) (Sh.le rfl) (Sh.le rfl) (Sh.le rfl) rfl rfl ?_
        rintro _ _ ⟨rfl, rfl⟩
        refine Sh.istore at_142 (Sh.s1_13 rfl rfl) ?_
        refine Sh.lload at_144 rfl ?_
        refine Sh.lload at_146 rfl ?_
        refine Sh.lcmpT at_148 at_149 (pc' := 157) rfl (by decide) hl ?_
        refine Sh.iload at_157 rfl ?_
        refine Sh.istore at_159 (Sh.s1_14 rfl rfl) ?_
        refine Sh.lload at_161 rfl ?_
        refine Sh.lload at_163 rfl ?_
        refine Sh.lcmpT at_165 at_166 (pc' := 174) rfl (by decide) hl ?_
        refine Sh.iload at_174 rfl ?_
        refine Sh.istore at_176 (Sh.s1_15 rfl rfl) ?_
        refine Sh.iload at_178 rfl ?_
        refine Sh.iload at_180 rfl ?_
        refine Sh.icmpF at_182 (fun z => z rfl) ?_
        refine Sh.iload at_185 rfl ?_
        refine Sh.iload at_187 rfl ?_
        refine Sh.icmpF at_189 (fun z => z rfl) ?_
        refine Sh.aload at_192 rfl rfl ?_
        refine Sh.callV hw (i1 := 67) (i2 := 69) (i3 := 2) (i4 := 71) (i5 := 68) (i6 := 70) (k' := 5) (n' := 20) (B' := b12) (R' := R12) rfl rfl rfl rfl rfl rfl (by decide) rfl (em l Z a0 n0 hw _ _ _ _ _ _) at_194 rfl rfl pd12 rfl (Sh.le rfl) (Sh.le rfl) (Sh.le rfl) (Sh.le rfl) rfl rfl ?_
        rintro _ _ ⟨rfl, rfl⟩
        refine Sh.ifF at_197 (by decide) ?_
        refine Sh.iconst at_200 (x := 1) rfl ?_
        refine Sh.goto at_201 (pc' := 205) rfl (by decide) ?_
        refine Sh.retN at_205 rfl (by simp) rfl (Sh.le rfl) (Sh.le rfl) ?_
        rfl
theorem two01 (hw : HW Z a0) (a b c d : Int64) (f : Int32) (p0 p1 p2 y0 y1 y2 r0 r1 r2 : Value) :
    Sh.WP l Z a0 n0 b0 room_1 5 20 94 [.val (.long a), .second, .val (.long b), .second, .val (.long c), .second, .val (.long d), .second, .val (.int f), .val (.ref 0), .val (.int (Int32.ofNat 0)), .val (.int (Int32.ofNat 2)), .unset, .unset, .unset, .unset] [] (own_H (-9223372036854775808) [p0, p1, p2] [.int (-1), .int (-1), .int (-1)] [y0, y1, y2] [r0, r1, r2] 0 0 0) (fun v _ => v = some (.int 1)) := by
  by_cases hc : c = (-9223372036854775808)
  · subst hc
    by_cases hd : d = (-9223372036854775808)
    · subst hd
      refine Sh.aload at_94 rfl rfl ?_
      refine Sh.iload at_96 rfl ?_
      refine Sh.lload at_98 rfl ?_
      refine Sh.callV hw (i1 := 26) (i2 := 28) (i3 := 2) (i4 := 30) (i5 := 27) (i6 := 29) (k' := 5) (n' := 20) (B' := b4) (R' := R4) rfl rfl rfl rfl rfl rfl (by decide) rfl (ofL l Z a0 n0 hw _ (-9223372036854775808) _ _ _ _ _ _ _ _ _ 0 0 (by decide) (by decide) rfl (Sh.le rfl) (Sh.le rfl) (Sh.le rfl) rfl (Sh.ls_0) (Sh.ls_0) (Sh.ls_0)) at_100 rfl rfl pd4 rfl (Sh.le rfl) (Sh.le rfl) (Sh.le rfl) (Sh.le rfl) rfl rfl ?_
      rintro _ _ ⟨rfl, rfl⟩
      refine Sh.aload at_103 rfl rfl ?_
      refine Sh.iload at_105 rfl ?_
      refine Sh.lload at_107 rfl ?_
      refine Sh.callV hw (i1 := 26) (i2 := 28) (i3 := 2) (i4 := 30) (i5 := 27) (i6 := 29) (k' := 5) (n' := 20) (B' := b4) (R' := R4) rfl rfl rfl rfl rfl rfl (by decide) rfl (ofL l Z a0 n0 hw _ (-9223372036854775808) _ _ _ _ _ _ _ _ _ 1 2 (by decide) (by decide) rfl (Sh.le rfl) (Sh.le rfl) (Sh.le rfl) rfl (Sh.ls_2) (Sh.ls_2) (Sh.ls_1)) at_109 rfl rfl pd4 rfl (Sh.le rfl) (Sh.le rfl) (Sh.le rfl) (Sh.le rfl) rfl rfl ?_
      rintro _ _ ⟨rfl, rfl⟩
      refine Sh.aload at_112 rfl rfl ?_
      refine Sh.callV hw (i1 := 72) (i2 := 74) (i3 := 2) (i4 := 76) (i5 := 73) (i6 := 75) (k' := 5) (n' := 20) (B' := b13) (R' := R13) rfl rfl rfl rfl rfl rfl (by decide) rfl (pkL l Z a0 n0 hw _ _ _ _ _ _ _ _ (by decide)) at_114 rfl rfl pd13 rfl (Sh.le rfl) (Sh.le rfl) (Sh.le rfl) (Sh.le rfl) rfl rfl ?_
      rintro _ _ ⟨rfl, rfl⟩
      refine Sh.lload at_117 rfl ?_
      refine Sh.lload at_119 rfl ?_
      refine Sh.callS hw (i1 := 58) (i2 := 59) (i3 := 60) (i4 := 61) (k' := 5) (n' := 20) (B' := b10) (R' := R10) rfl rfl rfl rfl (by decide) (mmin l Z a0 n0 hw (-9223372036854775808) (-9223372036854775808) (-9223372036854775808) _ (by decide)) at_121 rfl rfl pd10 rfl (Sh.le rfl) (Sh.le rfl) (Sh.le rfl) (Sh.le rfl) rfl rfl ?_
      rintro _ _ ⟨rfl, rfl⟩
      refine Sh.lcmpT at_124 at_125 (pc' := 130) rfl (by decide) rfl ?_
      refine Sh.aload at_130 rfl rfl ?_
      refine Sh.callV hw (i1 := 41) (i2 := 43) (i3 := 2) (i4 := 45) (i5 := 42) (i6 := 44) (k' := 5) (n' := 20) (B' := b7) (R' := R7) rfl rfl rfl rfl rfl rfl (by decide) rfl (poL l Z a0 n0 hw _ _ _ _ _ _ _ 0 2 0 (by decide) (by decide) (by decide) (Sh.le rfl) rfl (Sh.ls_0)) at_132 rfl rfl pd7 rfl (Sh.le rfl) (Sh.le rfl) (Sh.le rfl) (Sh.le rfl) rfl rfl ?_
      rintro _ _ ⟨rfl, rfl⟩
      refine Sh.istore at_135 (Sh.s1_12 rfl rfl) ?_
      refine Sh.aload at_137 rfl rfl ?_
      refine Sh.callV hw (i1 := 41) (i2 := 43) (i3 := 2) (i4 := 45) (i5 := 42) (i6 := 44) (k' := 5) (n' := 20) (B' := b7) (R' := R7) rfl rfl rfl rfl rfl rfl (by decide) rfl (poL l Z a0 n0 hw _ _ _ _ _ _ _ 1 2 2 (by decide) (by decide) (by decide) (Sh.le rfl) rfl (Sh.ls_2)) at_139 rfl rfl pd7 rfl (Sh.le rfl) (Sh.le rfl) (Sh.le rfl) (Sh.le rfl) rfl rfl ?_
      rintro _ _ ⟨rfl, rfl⟩
      refine Sh.istore at_142 (Sh.s1_13 rfl rfl) ?_
      refine Sh.lload at_144 rfl ?_
      refine Sh.lload at_146 rfl ?_
      refine Sh.lcmpT at_148 at_149 (pc' := 157) rfl (by decide) (by decide) ?_
      refine Sh.iload at_157 rfl ?_
      refine Sh.istore at_159 (Sh.s1_14 rfl rfl) ?_
      refine Sh.lload at_161 rfl ?_
      refine Sh.lload at_163 rfl ?_
      refine Sh.lcmpT at_165 at_166 (pc' := 174) rfl (by decide) (by decide) ?_
      refine Sh.iload at_174 rfl ?_
      refine Sh.istore at_176 (Sh.s1_15 rfl rfl) ?_
      refine Sh.iload at_178 rfl ?_
      refine Sh.iload at_180 rfl ?_
      refine Sh.icmpF at_182 (fun z => z rfl) ?_
      refine Sh.iload at_185 rfl ?_
      refine Sh.iload at_187 rfl ?_
      refine Sh.icmpF at_189 (fun z => z rfl) ?_
      refine Sh.aload at_192 rfl rfl ?_
      refine Sh.callV hw (i1 := 67) (i2 := 69) (i3 := 2) (i4 := 71) (i5 := 68) (i6 := 70) (k' := 5) (n' := 20) (B' := b12) (R' := R12) rfl rfl rfl rfl rfl rfl (by decide) rfl (em l Z a0 n0 hw _ _ _ _ _ _) at_194 rfl rfl pd12 rfl (Sh.le rfl) (Sh.le rfl) (Sh.le rfl) (Sh.le rfl) rfl rfl ?_
      rintro _ _ ⟨rfl, rfl⟩
      refine Sh.ifF at_197 (by decide) ?_
      refine Sh.iconst at_200 (x := 1) rfl ?_
      refine Sh.goto at_201 (pc' := 205) rfl (by decide) ?_
      refine Sh.retN at_205 rfl (by simp) rfl (Sh.le rfl) (Sh.le rfl) ?_
      rfl
    · skip
      refine Sh.aload at_94 rfl rfl ?_
      refine Sh.iload at_96 rfl ?_
      refine Sh.lload at_98 rfl ?_
      refine Sh.callV hw (i1 := 26) (i2 := 28) (i3 := 2) (i4 := 30) (i5 := 27) (i6 := 29) (k' := 5) (n' := 20) (B' := b4) (R' := R4) rfl rfl rfl rfl rfl rfl (by decide) rfl (ofL l Z a0 n0 hw _ (-9223372036854775808) _ _ _ _ _ _ _ _ _ 0 0 (by decide) (by decide) rfl (Sh.le rfl) (Sh.le rfl) (Sh.le rfl) rfl (Sh.ls_0) (Sh.ls_0) (Sh.ls_0)) at_100 rfl rfl pd4 rfl (Sh.le rfl) (Sh.le rfl) (Sh.le rfl) (Sh.le rfl) rfl rfl ?_
      rintro _ _ ⟨rfl, rfl⟩
      refine Sh.aload at_103 rfl rfl ?_
      refine Sh.iload at_105 rfl ?_
      refine Sh.lload at_107 rfl ?_
      refine Sh.callV hw (i1 := 26) (i2 := 28) (i3 := 2) (i4 := 30) (i5 := 27) (i6 := 29) (k' := 5) (n' := 20) (B' := b4) (R' := R4) rfl rfl rfl rfl rfl rfl (by decide) rfl (ofH l Z a0 n0 hw _ d _ _ _ _ _ _ _ 0 2 _ (by decide) (by decide) rfl (Sh.le rfl) hd (Sh.ls_2) (su0 l Z a0 n0 hw _ _ _ _ _ _ _ _ _ _ 2 (Sh.le rfl) (Sh.le rfl) (by decide) (Sh.ls_0) (Sh.ls_2))) at_109 rfl rfl pd4 rfl (Sh.le rfl) (Sh.le rfl) (Sh.le rfl) (Sh.le rfl) rfl rfl ?_
      rintro _ _ ⟨rfl, rfl⟩
      refine Sh.aload at_112 rfl rfl ?_
      refine Sh.callV hw (i1 := 72) (i2 := 74) (i3 := 2) (i4 := 76) (i5 := 73) (i6 := 75) (k' := 5) (n' := 20) (B' := b13) (R' := R13) rfl rfl rfl rfl rfl rfl (by decide) rfl (pkL l Z a0 n0 hw _ _ _ _ _ _ _ _ (by decide)) at_114 rfl rfl pd13 rfl (Sh.le rfl) (Sh.le rfl) (Sh.le rfl) (Sh.le rfl) rfl rfl ?_
      rintro _ _ ⟨rfl, rfl⟩
      refine Sh.lload at_117 rfl ?_
      refine Sh.lload at_119 rfl ?_
      refine Sh.callS hw (i1 := 58) (i2 := 59) (i3 := 60) (i4 := 61) (k' := 5) (n' := 20) (B' := b10) (R' := R10) rfl rfl rfl rfl (by decide) (mmin l Z a0 n0 hw (-9223372036854775808) d (-9223372036854775808) _ (if_neg (own_nlt d))) at_121 rfl rfl pd10 rfl (Sh.le rfl) (Sh.le rfl) (Sh.le rfl) (Sh.le rfl) rfl rfl ?_
      rintro _ _ ⟨rfl, rfl⟩
      refine Sh.lcmpT at_124 at_125 (pc' := 130) rfl (by decide) rfl ?_
      refine Sh.aload at_130 rfl rfl ?_
      refine Sh.callV hw (i1 := 41) (i2 := 43) (i3 := 2) (i4 := 45) (i5 := 42) (i6 := 44) (k' := 5) (n' := 20) (B' := b7) (R' := R7) rfl rfl rfl rfl rfl rfl (by decide) rfl (poL l Z a0 n0 hw _ _ _ _ _ _ _ 0 1 0 (by decide) (by decide) (by decide) (Sh.le rfl) rfl (Sh.ls_0)) at_132 rfl rfl pd7 rfl (Sh.le rfl) (Sh.le rfl) (Sh.le rfl) (Sh.le rfl) rfl rfl ?_
      rintro _ _ ⟨rfl, rfl⟩
      refine Sh.istore at_135 (Sh.s1_12 rfl rfl) ?_
      refine Sh.aload at_137 rfl rfl ?_
      refine Sh.callV hw (i1 := 41) (i2 := 43) (i3 := 2) (i4 := 45) (i5 := 42) (i6 := 44) (k' := 5) (n' := 20) (B' := b7) (R' := R7) rfl rfl rfl rfl rfl rfl (by decide) rfl (poH l Z a0 n0 hw _ _ _ _ _ _ _ _ _ _ 1 1 2 _ (by decide) (by decide) (by decide) (Sh.le rfl) rfl rfl (rv1 l Z a0 n0 hw _ _ _ _ _ _ _ _ 2 (by decide) (Sh.le rfl) rfl (Sh.ls_2)) (Sh.ls_2)) at_139 rfl rfl pd7 rfl (Sh.le rfl) (Sh.le rfl) (Sh.le rfl) (Sh.le rfl) rfl rfl ?_
      rintro _ _ ⟨rfl, rfl⟩
      refine Sh.istore at_142 (Sh.s1_13 rfl rfl) ?_
      refine Sh.lload at_144 rfl ?_
      refine Sh.lload at_146 rfl ?_
      refine Sh.lcmpT at_148 at_149 (pc' := 157) rfl (by decide) (own_nlt d) ?_
      refine Sh.iload at_157 rfl ?_
      refine Sh.istore at_159 (Sh.s1_14 rfl rfl) ?_
      refine Sh.lload at_161 rfl ?_
      refine Sh.lload at_163 rfl ?_
      refine Sh.lcmpT at_165 at_166 (pc' := 174) rfl (by decide) (own_nlt d) ?_
      refine Sh.iload at_174 rfl ?_
      refine Sh.istore at_176 (Sh.s1_15 rfl rfl) ?_
      refine Sh.iload at_178 rfl ?_
      refine Sh.iload at_180 rfl ?_
      refine Sh.icmpF at_182 (fun z => z rfl) ?_
      refine Sh.iload at_185 rfl ?_
      refine Sh.iload at_187 rfl ?_
      refine Sh.icmpF at_189 (fun z => z rfl) ?_
      refine Sh.aload at_192 rfl rfl ?_
      refine Sh.callV hw (i1 := 67) (i2 := 69) (i3 := 2) (i4 := 71) (i5 := 68) (i6 := 70) (k' := 5) (n' := 20) (B' := b12) (R' := R12) rfl rfl rfl rfl rfl rfl (by decide) rfl (em l Z a0 n0 hw _ _ _ _ _ _) at_194 rfl rfl pd12 rfl (Sh.le rfl) (Sh.le rfl) (Sh.le rfl) (Sh.le rfl) rfl rfl ?_
      rintro _ _ ⟨rfl, rfl⟩
      refine Sh.ifF at_197 (by decide) ?_
      refine Sh.iconst at_200 (x := 1) rfl ?_
      refine Sh.goto at_201 (pc' := 205) rfl (by decide) ?_
      refine Sh.retN at_205 rfl (by simp) rfl (Sh.le rfl) (Sh.le rfl) ?_
      rfl
  · by_cases hd : d = (-9223372036854775808)
    · subst hd
      refine Sh.aload at_94 rfl rfl ?_
      refine Sh.iload at_96 rfl ?_
      refine Sh.lload at_98 rfl ?_
      refine Sh.callV hw (i1 := 26) (i2 := 28) (i3 := 2) (i4 := 30) (i5 := 27) (i6 := 29) (k' := 5) (n' := 20) (B' := b4) (R' := R4) rfl rfl rfl rfl rfl rfl (by decide) rfl (ofH l Z a0 n0 hw _ c _ _ _ _ _ _ _ 0 0 _ (by decide) (by decide) rfl (Sh.le rfl) hc (Sh.ls_0) (su0 l Z a0 n0 hw _ _ _ _ _ _ _ _ _ _ 0 (Sh.le rfl) (Sh.le rfl) (by decide) (Sh.ls_0) (Sh.ls_0))) at_100 rfl rfl pd4 rfl (Sh.le rfl) (Sh.le rfl) (Sh.le rfl) (Sh.le rfl) rfl rfl ?_
      rintro _ _ ⟨rfl, rfl⟩
      refine Sh.aload at_103 rfl rfl ?_
      refine Sh.iload at_105 rfl ?_
      refine Sh.lload at_107 rfl ?_
      refine Sh.callV hw (i1 := 26) (i2 := 28) (i3 := 2) (i4 := 30) (i5 := 27) (i6 := 29) (k' := 5) (n' := 20) (B' := b4) (R' := R4) rfl rfl rfl rfl rfl rfl (by decide) rfl (ofL l Z a0 n0 hw _ (-9223372036854775808) _ _ _ _ _ _ _ _ _ 0 2 (by decide) (by decide) rfl (Sh.le rfl) (Sh.le rfl) (Sh.le rfl) rfl (Sh.ls_2) (Sh.ls_2) (Sh.ls_0)) at_109 rfl rfl pd4 rfl (Sh.le rfl) (Sh.le rfl) (Sh.le rfl) (Sh.le rfl) rfl rfl ?_
      rintro _ _ ⟨rfl, rfl⟩
      refine Sh.aload at_112 rfl rfl ?_
      refine Sh.callV hw (i1 := 72) (i2 := 74) (i3 := 2) (i4 := 76) (i5 := 73) (i6 := 75) (k' := 5) (n' := 20) (B' := b13) (R' := R13) rfl rfl rfl rfl rfl rfl (by decide) rfl (pkL l Z a0 n0 hw _ _ _ _ _ _ _ _ (by decide)) at_114 rfl rfl pd13 rfl (Sh.le rfl) (Sh.le rfl) (Sh.le rfl) (Sh.le rfl) rfl rfl ?_
      rintro _ _ ⟨rfl, rfl⟩
      refine Sh.lload at_117 rfl ?_
      refine Sh.lload at_119 rfl ?_
      refine Sh.callS hw (i1 := 58) (i2 := 59) (i3 := 60) (i4 := 61) (k' := 5) (n' := 20) (B' := b10) (R' := R10) rfl rfl rfl rfl (by decide) (mmin l Z a0 n0 hw c (-9223372036854775808) (-9223372036854775808) _ (if_pos (own_lt c hc))) at_121 rfl rfl pd10 rfl (Sh.le rfl) (Sh.le rfl) (Sh.le rfl) (Sh.le rfl) rfl rfl ?_
      rintro _ _ ⟨rfl, rfl⟩
      refine Sh.lcmpT at_124 at_125 (pc' := 130) rfl (by decide) rfl ?_
      refine Sh.aload at_130 rfl rfl ?_
      refine Sh.callV hw (i1 := 41) (i2 := 43) (i3 := 2) (i4 := 45) (i5 := 42) (i6 := 44) (k' := 5) (n' := 20) (B' := b7) (R' := R7) rfl rfl rfl rfl rfl rfl (by decide) rfl (poL l Z a0 n0 hw _ _ _ _ _ _ _ 0 1 2 (by decide) (by decide) (by decide) (Sh.le rfl) rfl (Sh.ls_2)) at_132 rfl rfl pd7 rfl (Sh.le rfl) (Sh.le rfl) (Sh.le rfl) (Sh.le rfl) rfl rfl ?_
      rintro _ _ ⟨rfl, rfl⟩
      refine Sh.istore at_135 (Sh.s1_12 rfl rfl) ?_
      refine Sh.aload at_137 rfl rfl ?_
      refine Sh.callV hw (i1 := 41) (i2 := 43) (i3 := 2) (i4 := 45) (i5 := 42) (i6 := 44) (k' := 5) (n' := 20) (B' := b7) (R' := R7) rfl rfl rfl rfl rfl rfl (by decide) rfl (poH l Z a0 n0 hw _ _ _ _ _ _ _ _ _ _ 1 1 0 _ (by decide) (by decide) (by decide) (Sh.le rfl) rfl rfl (rv1 l Z a0 n0 hw _ _ _ _ _ _ _ _ 0 (by decide) (Sh.le rfl) rfl (Sh.ls_0)) (Sh.ls_0)) at_139 rfl rfl pd7 rfl (Sh.le rfl) (Sh.le rfl) (Sh.le rfl) (Sh.le rfl) rfl rfl ?_
      rintro _ _ ⟨rfl, rfl⟩
      refine Sh.istore at_142 (Sh.s1_13 rfl rfl) ?_
      refine Sh.lload at_144 rfl ?_
      refine Sh.lload at_146 rfl ?_
      refine Sh.lcmpF at_148 at_149 (fun z => z (own_lt c hc)) ?_
      refine Sh.iload at_152 rfl ?_
      refine Sh.goto at_154 (pc' := 159) rfl (by decide) ?_
      refine Sh.istore at_159 (Sh.s1_14 rfl rfl) ?_
      refine Sh.lload at_161 rfl ?_
      refine Sh.lload at_163 rfl ?_
      refine Sh.lcmpF at_165 at_166 (fun z => z (own_lt c hc)) ?_
      refine Sh.iload at_169 rfl ?_
      refine Sh.goto at_171 (pc' := 176) rfl (by decide) ?_
      refine Sh.istore at_176 (Sh.s1_15 rfl rfl) ?_
      refine Sh.iload at_178 rfl ?_
      refine Sh.iload at_180 rfl ?_
      refine Sh.icmpF at_182 (fun z => z rfl) ?_
      refine Sh.iload at_185 rfl ?_
      refine Sh.iload at_187 rfl ?_
      refine Sh.icmpF at_189 (fun z => z rfl) ?_
      refine Sh.aload at_192 rfl rfl ?_
      refine Sh.callV hw (i1 := 67) (i2 := 69) (i3 := 2) (i4 := 71) (i5 := 68) (i6 := 70) (k' := 5) (n' := 20) (B' := b12) (R' := R12) rfl rfl rfl rfl rfl rfl (by decide) rfl (em l Z a0 n0 hw _ _ _ _ _ _) at_194 rfl rfl pd12 rfl (Sh.le rfl) (Sh.le rfl) (Sh.le rfl) (Sh.le rfl) rfl rfl ?_
      rintro _ _ ⟨rfl, rfl⟩
      refine Sh.ifF at_197 (by decide) ?_
      refine Sh.iconst at_200 (x := 1) rfl ?_
      refine Sh.goto at_201 (pc' := 205) rfl (by decide) ?_
      refine Sh.retN at_205 rfl (by simp) rfl (Sh.le rfl) (Sh.le rfl) ?_
      rfl
    · by_cases hl : d < c
      · skip
        refine Sh.aload at_94 rfl rfl ?_
        refine Sh.iload at_96 rfl ?_
        refine Sh.lload at_98 rfl ?_
        refine Sh.callV hw (i1 := 26) (i2 := 28) (i3 := 2) (i4 := 30) (i5 := 27) (i6 := 29) (k' := 5) (n' := 20) (B' := b4) (R' := R4) rfl rfl rfl rfl rfl rfl (by decide) rfl (ofH l Z a0 n0 hw _ c _ _ _ _ _ _ _ 0 0 _ (by decide) (by decide) rfl (Sh.le rfl) hc (Sh.ls_0) (su0 l Z a0 n0 hw _ _ _ _ _ _ _ _ _ _ 0 (Sh.le rfl) (Sh.le rfl) (by decide) (Sh.ls_0) (Sh.ls_0))) at_100 rfl rfl pd4 rfl (Sh.le rfl) (Sh.le rfl) (Sh.le rfl) (Sh.le rfl) rfl rfl ?_
        rintro _ _ ⟨rfl, rfl⟩
        refine Sh.aload at_103 rfl rfl ?_
        refine Sh.iload at_105 rfl ?_
        refine Sh.lload at_107 rfl ?_
        refine Sh.callV hw (i1 := 26) (i2 := 28) (i3 := 2) (i4 := 30) (i5 := 27) (i6 := 29) (k' := 5) (n' := 20) (B' := b4) (R' := R4) rfl rfl rfl rfl rfl rfl (by decide) rfl (ofH l Z a0 n0 hw _ d _ _ _ _ _ _ _ 1 2 _ (by decide) (by decide) rfl (Sh.le rfl) hd (Sh.ls_2) (su1s l Z a0 n0 hw _ _ _ _ _ _ _ _ _ _ _ _ 2 0 (Sh.le rfl) (Sh.le rfl) (Sh.le rfl) (by decide) (by decide) (Sh.ls_1) (Sh.ls_0) (Sh.ls_0) (Sh.ls_2) _ _ rfl rfl rfl hl)) at_109 rfl rfl pd4 rfl (Sh.le rfl) (Sh.le rfl) (Sh.le rfl) (Sh.le rfl) rfl rfl ?_
        rintro _ _ ⟨rfl, rfl⟩
        refine Sh.aload at_112 rfl rfl ?_
        refine Sh.callV hw (i1 := 72) (i2 := 74) (i3 := 2) (i4 := 76) (i5 := 73) (i6 := 75) (k' := 5) (n' := 20) (B' := b13) (R' := R13) rfl rfl rfl rfl rfl rfl (by decide) rfl (pkH l Z a0 n0 hw _ _ _ _ _ _ _ _ (by decide) 2 (by decide) _ rfl rfl) at_114 rfl rfl pd13 rfl (Sh.le rfl) (Sh.le rfl) (Sh.le rfl) (Sh.le rfl) rfl rfl ?_
        rintro _ _ ⟨rfl, rfl⟩
        refine Sh.lload at_117 rfl ?_
        refine Sh.lload at_119 rfl ?_
        refine Sh.callS hw (i1 := 58) (i2 := 59) (i3 := 60) (i4 := 61) (k' := 5) (n' := 20) (B' := b10) (R' := R10) rfl rfl rfl rfl (by decide) (mmin l Z a0 n0 hw c d d _ (if_pos hl)) at_121 rfl rfl pd10 rfl (Sh.le rfl) (Sh.le rfl) (Sh.le rfl) (Sh.le rfl) rfl rfl ?_
        rintro _ _ ⟨rfl, rfl⟩
        refine Sh.lcmpT at_124 at_125 (pc' := 130) rfl (by decide) rfl ?_
        refine Sh.aload at_130 rfl rfl ?_
        refine Sh.callV hw (i1 := 41) (i2 := 43) (i3 := 2) (i4 := 45) (i5 := 42) (i6 := 44) (k' := 5) (n' := 20) (B' := b7) (R' := R7) rfl rfl rfl rfl rfl rfl (by decide) rfl (poH l Z a0 n0 hw _ _ _ _ _ _ _ _ _ _ 0 0 2 _ (by decide) (by decide) (by decide) (Sh.le rfl) rfl rfl (rv2 l Z a0 n0 hw _ _ _ _ _ _ _ _ _ _ _ 2 0 (by decide) (by decide) (Sh.le rfl) (Sh.le rfl) (Sh.le rfl) rfl rfl (Sh.ls_2) (Sh.ls_0) (Sh.ls_0) (Sh.ls_0) (Sh.ls_0)) (Sh.ls_2)) at_132 rfl rfl pd7 rfl (Sh.le rfl) (Sh.le rfl) (Sh.le rfl) (Sh.le rfl) rfl rfl ?_
        rintro _ _ ⟨rfl, rfl⟩
        refine Sh.istore at_135 (Sh.s1_12 rfl rfl) ?_
        refine Sh.aload at_137 rfl rfl ?_
        refine Sh.callV hw (i1 := 41) (i2 := 43) (i3 := 2) (i4 := 45) (i5 := 42) (i6 := 44) (k' := 5) (n' := 20) (B' := b7) (R' := R7) rfl rfl rfl rfl rfl rfl (by decide) rfl (poH l Z a0 n0 hw _ _ _ _ _ _ _ _ _ _ 0 0 0 _ (by decide) (by decide) (by decide) (Sh.le rfl) rfl rfl (rv1 l Z a0 n0 hw _ _ _ _ _ _ _ _ 0 (by decide) (Sh.le rfl) rfl (Sh.ls_0)) (Sh.ls_0)) at_139 rfl rfl pd7 rfl (Sh.le rfl) (Sh.le rfl) (Sh.le rfl) (Sh.le rfl) rfl rfl ?_
        rintro _ _ ⟨rfl, rfl⟩
        refine Sh.istore at_142 (Sh.s1_13 rfl rfl) ?_
        refine Sh.lload at_144 rfl ?_
        refine Sh.lload at_146 rfl ?_
        refine Sh.lcmpF at_148 at_149 (fun z => z hl) ?_
        refine Sh.iload at_152 rfl ?_
        refine Sh.goto at_154 (pc' := 159) rfl (by decide) ?_
        refine Sh.istore at_159 (Sh.s1_14 rfl rfl) ?_
        refine Sh.lload at_161 rfl ?_
        refine Sh.lload at_163 rfl ?_
        refine Sh.lcmpF at_165 at_166 (fun z => z hl) ?_
        refine Sh.iload at_169 rfl ?_
        refine Sh.goto at_171 (pc' := 176) rfl (by decide) ?_
        refine Sh.istore at_176 (Sh.s1_15 rfl rfl) ?_
        refine Sh.iload at_178 rfl ?_
        refine Sh.iload at_180 rfl ?_
        refine Sh.icmpF at_182 (fun z => z rfl) ?_
        refine Sh.iload at_185 rfl ?_
        refine Sh.iload at_187 rfl ?_
        refine Sh.icmpF at_189 (fun z => z rfl) ?_
        refine Sh.aload at_192 rfl rfl ?_
        refine Sh.callV hw (i1 := 67) (i2 := 69) (i3 := 2) (i4 := 71) (i5 := 68) (i6 := 70) (k' := 5) (n' := 20) (B' := b12) (R' := R12) rfl rfl rfl rfl rfl rfl (by decide) rfl (em l Z a0 n0 hw _ _ _ _ _ _) at_194 rfl rfl pd12 rfl (Sh.le rfl) (Sh.le rfl) (Sh.le rfl) (Sh.le rfl) rfl rfl ?_
        rintro _ _ ⟨rfl, rfl⟩
        refine Sh.ifF at_197 (by decide) ?_
        refine Sh.iconst at_200 (x := 1) rfl ?_
        refine Sh.goto at_201 (pc' := 205) rfl (by decide) ?_
        refine Sh.retN at_205 rfl (by simp) rfl (Sh.le rfl) (Sh.le rfl) ?_
        rfl
      · skip
        refine Sh.aload at_94 rfl rfl ?_
        refine Sh.iload at_96 rfl ?_
        refine Sh.lload at_98 rfl ?_
        refine Sh.callV hw (i1 := 26) (i2 := 28) (i3 := 2) (i4 := 30) (i5 := 27) (i6 := 29) (k' := 5) (n' := 20) (B' := b4) (R' := R4) rfl rfl rfl rfl rfl rfl (by decide) rfl (ofH l Z a0 n0 hw _ c _ _ _ _ _ _ _ 0 0 _ (by decide) (by decide) rfl (Sh.le rfl) hc (Sh.ls_0) (su0 l Z a0 n0 hw _ _ _ _ _ _ _ _ _ _ 0 (Sh.le rfl) (Sh.le rfl) (by decide) (Sh.ls_0) (Sh.ls_0))) at_100 rfl rfl pd4 rfl (Sh.le rfl) (Sh.le rfl) (Sh.le rfl) (Sh.le rfl) rfl rfl ?_
        rintro _ _ ⟨rfl, rfl⟩
        refine Sh.aload at_103 rfl rfl ?_
        refine Sh.iload at_105 rfl ?_
        refine Sh.lload at_107 rfl ?_
        refine Sh.callV hw (i1 := 26) (i2 := 28) (i3 := 2) (i4 := 30) (i5 := 27) (i6 := 29) (k' := 5) (n' := 20) (B' := b4) (R' := R4) rfl rfl rfl rfl rfl rfl (by decide) rfl (ofH l Z a0 n0 hw _ d _ _ _ _ _ _ _ 1 2 _ (by decide) (by decide) rfl (Sh.le rfl) hd (Sh.ls_2) (su1n l Z a0 n0 hw _ _ _ _ _ _ _ _ _ _ 2 (Sh.le rfl) (Sh.le rfl) (by decide) (Sh.ls_1) (Sh.ls_2) 0 (by decide) _ _ rfl rfl rfl hl)) at_109 rfl rfl pd4 rfl (Sh.le rfl) (Sh.le rfl) (Sh.le rfl) (Sh.le rfl) rfl rfl ?_
        rintro _ _ ⟨rfl, rfl⟩
        refine Sh.aload at_112 rfl rfl ?_
        refine Sh.callV hw (i1 := 72) (i2 := 74) (i3 := 2) (i4 := 76) (i5 := 73) (i6 := 75) (k' := 5) (n' := 20) (B' := b13) (R' := R13) rfl rfl rfl rfl rfl rfl (by decide) rfl (pkH l Z a0 n0 hw _ _ _ _ _ _ _ _ (by decide) 0 (by decide) _ rfl rfl) at_114 rfl rfl pd13 rfl (Sh.le rfl) (Sh.le rfl) (Sh.le rfl) (Sh.le rfl) rfl rfl ?_
        rintro _ _ ⟨rfl, rfl⟩
        refine Sh.lload at_117 rfl ?_
        refine Sh.lload at_119 rfl ?_
        refine Sh.callS hw (i1 := 58) (i2 := 59) (i3 := 60) (i4 := 61) (k' := 5) (n' := 20) (B' := b10) (R' := R10) rfl rfl rfl rfl (by decide) (mmin l Z a0 n0 hw c d c _ (if_neg hl)) at_121 rfl rfl pd10 rfl (Sh.le rfl) (Sh.le rfl) (Sh.le rfl) (Sh.le rfl) rfl rfl ?_
        rintro _ _ ⟨rfl, rfl⟩
        refine Sh.lcmpT at_124 at_125 (pc' := 130) rfl (by decide) rfl ?_
        refine Sh.aload at_130 rfl rfl ?_
        refine Sh.callV hw (i1 := 41) (i2 := 43) (i3 := 2) (i4 := 45) (i5 := 42) (i6 := 44) (k' := 5) (n' := 20) (B' := b7) (R' := R7) rfl rfl rfl rfl rfl rfl (by decide) rfl (poH l Z a0 n0 hw _ _ _ _ _ _ _ _ _ _ 0 0 0 _ (by decide) (by decide) (by decide) (Sh.le rfl) rfl rfl (rv2 l Z a0 n0 hw _ _ _ _ _ _ _ _ _ _ _ 0 2 (by decide) (by decide) (Sh.le rfl) (Sh.le rfl) (Sh.le rfl) rfl rfl (Sh.ls_0) (Sh.ls_0) (Sh.ls_2) (Sh.ls_0) (Sh.ls_2)) (Sh.ls_0)) at_132 rfl rfl pd7 rfl (Sh.le rfl) (Sh.le rfl) (Sh.le rfl) (Sh.le rfl) rfl rfl ?_
        rintro _ _ ⟨rfl, rfl⟩
        refine Sh.istore at_135 (Sh.s1_12 rfl rfl) ?_
        refine Sh.aload at_137 rfl rfl ?_
        refine Sh.callV hw (i1 := 41) (i2 := 43) (i3 := 2) (i4 := 45) (i5 := 42) (i6 := 44) (k' := 5) (n' := 20) (B' := b7) (R' := R7) rfl rfl rfl rfl rfl rfl (by decide) rfl (poH l Z a0 n0 hw _ _ _ _ _ _ _ _ _ _ 0 0 2 _ (by decide) (by decide) (by decide) (Sh.le rfl) rfl rfl (rv1 l Z a0 n0 hw _ _ _ _ _ _ _ _ 2 (by decide) (Sh.le rfl) rfl (Sh.ls_2)) (Sh.ls_2)) at_139 rfl rfl pd7 rfl (Sh.le rfl) (Sh.le rfl) (Sh.le rfl) (Sh.le rfl) rfl rfl ?_
        rintro _ _ ⟨rfl, rfl⟩
        refine Sh.istore at_142 (Sh.s1_13 rfl rfl) ?_
        refine Sh.lload at_144 rfl ?_
        refine Sh.lload at_146 rfl ?_
        refine Sh.lcmpT at_148 at_149 (pc' := 157) rfl (by decide) hl ?_
        refine Sh.iload at_157 rfl ?_
        refine Sh.istore at_159 (Sh.s1_14 rfl rfl) ?_
        refine Sh.lload at_161 rfl ?_
        refine Sh.lload at_163 rfl ?_
        refine Sh.lcmpT at_165 at_166 (pc' := 174) rfl (by decide) hl ?_
        refine Sh.iload at_174 rfl ?_
        refine Sh.istore at_176 (Sh.s1_15 rfl rfl) ?_
        refine Sh.iload at_178 rfl ?_
        refine Sh.iload at_180 rfl ?_
        refine Sh.icmpF at_182 (fun z => z rfl) ?_
        refine Sh.iload at_185 rfl ?_
        refine Sh.iload at_187 rfl ?_
        refine Sh.icmpF at_189 (fun z => z rfl) ?_
        refine Sh.aload at_192 rfl rfl ?_
        refine Sh.callV hw (i1 := 67) (i2 := 69) (i3 := 2) (i4 := 71) (i5 := 68) (i6 := 70) (k' := 5) (n' := 20) (B' := b12) (R' := R12) rfl rfl rfl rfl rfl rfl (by decide) rfl (em l Z a0 n0 hw _ _ _ _ _ _) at_194 rfl rfl pd12 rfl (Sh.le rfl) (Sh.le rfl) (Sh.le rfl) (Sh.le rfl) rfl rfl ?_
        rintro _ _ ⟨rfl, rfl⟩
        refine Sh.ifF at_197 (by decide) ?_
        refine Sh.iconst at_200 (x := 1) rfl ?_
        refine Sh.goto at_201 (pc' := 205) rfl (by decide) ?_
        refine Sh.retN at_205 rfl (by simp) rfl (Sh.le rfl) (Sh.le rfl) ?_
        rfl
theorem two10 (hw : HW Z a0) (a b c d : Int64) (f : Int32) (p0 p1 p2 y0 y1 y2 r0 r1 r2 : Value) :
    Sh.WP l Z a0 n0 b0 room_1 5 20 94 [.val (.long a), .second, .val (.long b), .second, .val (.long c), .second, .val (.long d), .second, .val (.int f), .val (.ref 0), .val (.int (Int32.ofNat 1)), .val (.int (Int32.ofNat 2)), .unset, .unset, .unset, .unset] [] (own_H (-9223372036854775808) [p0, p1, p2] [.int (-1), .int (-1), .int (-1)] [y0, y1, y2] [r0, r1, r2] 0 0 0) (fun v _ => v = some (.int 1)) := by
  by_cases hc : c = (-9223372036854775808)
  · subst hc
    by_cases hd : d = (-9223372036854775808)
    · subst hd
      refine Sh.aload at_94 rfl rfl ?_
      refine Sh.iload at_96 rfl ?_
      refine Sh.lload at_98 rfl ?_
      refine Sh.callV hw (i1 := 26) (i2 := 28) (i3 := 2) (i4 := 30) (i5 := 27) (i6 := 29) (k' := 5) (n' := 20) (B' := b4) (R' := R4) rfl rfl rfl rfl rfl rfl (by decide) rfl (ofL l Z a0 n0 hw _ (-9223372036854775808) _ _ _ _ _ _ _ _ _ 0 1 (by decide) (by decide) rfl (Sh.le rfl) (Sh.le rfl) (Sh.le rfl) rfl (Sh.ls_1) (Sh.ls_1) (Sh.ls_0)) at_100 rfl rfl pd4 rfl (Sh.le rfl) (Sh.le rfl) (Sh.le rfl) (Sh.le rfl) rfl rfl ?_
      rintro _ _ ⟨rfl, rfl⟩
      refine Sh.aload at_103 rfl rfl ?_
      refine Sh.iload at_105 rfl ?_
      refine Sh.lload at_107 rfl ?_
      refine Sh.callV hw (i1 := 26) (i2 := 28) (i3 := 2) (i4 := 30) (i5 := 27) (i6 := 29) (k' := 5) (n' := 20) (B' := b4) (R' := R4) rfl rfl rfl rfl rfl rfl (by decide) rfl (ofL l Z a0 n0 hw _ (-9223372036854775808) _ _ _ _ _ _ _ _ _ 1 2 (by decide) (by decide) rfl (Sh.le rfl) (Sh.le rfl) (Sh.le rfl) rfl (Sh.ls_2) (Sh.ls_2) (Sh.ls_1)) at_109 rfl rfl pd4 rfl (Sh.le rfl) (Sh.le rfl) (Sh.le rfl) (Sh.le rfl) rfl rfl ?_
      rintro _ _ ⟨rfl, rfl⟩
      refine Sh.aload at_112 rfl rfl ?_
      refine Sh.callV hw (i1 := 72) (i2 := 74) (i3 := 2) (i4 := 76) (i5 := 73) (i6 := 75) (k' := 5) (n' := 20) (B' := b13) (R' := R13) rfl rfl rfl rfl rfl rfl (by decide) rfl (pkL l Z a0 n0 hw _ _ _ _ _ _ _ _ (by decide)) at_114 rfl rfl pd13 rfl (Sh.le rfl) (Sh.le rfl) (Sh.le rfl) (Sh.le rfl) rfl rfl ?_
      rintro _ _ ⟨rfl, rfl⟩
      refine Sh.lload at_117 rfl ?_
      refine Sh.lload at_119 rfl ?_
      refine Sh.callS hw (i1 := 58) (i2 := 59) (i3 := 60) (i4 := 61) (k' := 5) (n' := 20) (B' := b10) (R' := R10) rfl rfl rfl rfl (by decide) (mmin l Z a0 n0 hw (-9223372036854775808) (-9223372036854775808) (-9223372036854775808) _ (by decide)) at_121 rfl rfl pd10 rfl (Sh.le rfl) (Sh.le rfl) (Sh.le rfl) (Sh.le rfl) rfl rfl ?_
      rintro _ _ ⟨rfl, rfl⟩
      refine Sh.lcmpT at_124 at_125 (pc' := 130) rfl (by decide) rfl ?_
      refine Sh.aload at_130 rfl rfl ?_
      refine Sh.callV hw (i1 := 41) (i2 := 43) (i3 := 2) (i4 := 45) (i5 := 42) (i6 := 44) (k' := 5) (n' := 20) (B' := b7) (R' := R7) rfl rfl rfl rfl rfl rfl (by decide) rfl (poL l Z a0 n0 hw _ _ _ _ _ _ _ 0 2 1 (by decide) (by decide) (by decide) (Sh.le rfl) rfl (Sh.ls_1)) at_132 rfl rfl pd7 rfl (Sh.le rfl) (Sh.le rfl) (Sh.le rfl) (Sh.le rfl) rfl rfl ?_
      rintro _ _ ⟨rfl, rfl⟩
      refine Sh.istore at_135 (Sh.s1_12 rfl rfl) ?_
      refine Sh.aload at_137 rfl rfl ?_
      refine Sh.callV hw (i1 := 41) (i2 := 43) (i3 := 2) (i4 := 45) (i5 := 42) (i6 := 44) (k' := 5) (n' := 20) (B' := b7) (R' := R7) rfl rfl rfl rfl rfl rfl (by decide) rfl (poL l Z a0 n0 hw _ _ _ _ _ _ _ 1 2 2 (by decide) (by decide) (by decide) (Sh.le rfl) rfl (Sh.ls_2)) at_139 rfl rfl pd7 rfl (Sh.le rfl) (Sh.le rfl) (Sh.le rfl) (Sh.le rfl) rfl rfl ?_
      rintro _ _ ⟨rfl, rfl⟩
      refine Sh.istore at_142 (Sh.s1_13 rfl rfl) ?_
      refine Sh.lload at_144 rfl ?_
      refine Sh.lload at_146 rfl ?_
      refine Sh.lcmpT at_148 at_149 (pc' := 157) rfl (by decide) (by decide) ?_
      refine Sh.iload at_157 rfl ?_
      refine Sh.istore at_159 (Sh.s1_14 rfl rfl) ?_
      refine Sh.lload at_161 rfl ?_
      refine Sh.lload at_163 rfl ?_
      refine Sh.lcmpT at_165 at_166 (pc' := 174) rfl (by decide) (by decide) ?_
      refine Sh.iload at_174 rfl ?_
      refine Sh.istore at_176 (Sh.s1_15 rfl rfl) ?_
      refine Sh.iload at_178 rfl ?_
      refine Sh.iload at_180 rfl ?_
      refine Sh.icmpF at_182 (fun z => z rfl) ?_
      refine Sh.iload at_185 rfl ?_
      refine Sh.iload at_187 rfl ?_
      refine Sh.icmpF at_189 (fun z => z rfl) ?_
      refine Sh.aload at_192 rfl rfl ?_
      refine Sh.callV hw (i1 := 67) (i2 := 69) (i3 := 2) (i4 := 71) (i5 := 68) (i6 := 70) (k' := 5) (n' := 20) (B' := b12) (R' := R12) rfl rfl rfl rfl rfl rfl (by decide) rfl (em l Z a0 n0 hw _ _ _ _ _ _) at_194 rfl rfl pd12 rfl (Sh.le rfl) (Sh.le rfl) (Sh.le rfl) (Sh.le rfl) rfl rfl ?_
      rintro _ _ ⟨rfl, rfl⟩
      refine Sh.ifF at_197 (by decide) ?_
      refine Sh.iconst at_200 (x := 1) rfl ?_
      refine Sh.goto at_201 (pc' := 205) rfl (by decide) ?_
      refine Sh.retN at_205 rfl (by simp) rfl (Sh.le rfl) (Sh.le rfl) ?_
      rfl
    · skip
      refine Sh.aload at_94 rfl rfl ?_
      refine Sh.iload at_96 rfl ?_
      refine Sh.lload at_98 rfl ?_
      refine Sh.callV hw (i1 := 26) (i2 := 28) (i3 := 2) (i4 := 30) (i5 := 27) (i6 := 29) (k' := 5) (n' := 20) (B' := b4) (R' := R4) rfl rfl rfl rfl rfl rfl (by decide) rfl (ofL l Z a0 n0 hw _ (-9223372036854775808) _ _ _ _ _ _ _ _ _ 0 1 (by decide) (by decide) rfl (Sh.le rfl) (Sh.le rfl) (Sh.le rfl) rfl (Sh.ls_1) (Sh.ls_1) (Sh.ls_0)) at_100 rfl rfl pd4 rfl (Sh.le rfl) (Sh.le rfl) (Sh.le rfl) (Sh.le rfl) rfl rfl ?_
      rintro _ _ ⟨rfl, rfl⟩
      refine Sh.aload at_103 rfl rfl ?_
      refine Sh.iload at_105 rfl ?_
      refine Sh.lload at_107 rfl ?_
      refine Sh.callV hw (i1 := 26) (i2 := 28) (i3 := 2) (i4 := 30) (i5 := 27) (i6 := 29) (k' := 5) (n' := 20) (B' := b4) (R' := R4) rfl rfl rfl rfl rfl rfl (by decide) rfl (ofH l Z a0 n0 hw _ d _ _ _ _ _ _ _ 0 2 _ (by decide) (by decide) rfl (Sh.le rfl) hd (Sh.ls_2) (su0 l Z a0 n0 hw _ _ _ _ _ _ _ _ _ _ 2 (Sh.le rfl) (Sh.le rfl) (by decide) (Sh.ls_0) (Sh.ls_2))) at_109 rfl rfl pd4 rfl (Sh.le rfl) (Sh.le rfl) (Sh.le rfl) (Sh.le rfl) rfl rfl ?_
      rintro _ _ ⟨rfl, rfl⟩
      refine Sh.aload at_112 rfl rfl ?_
      refine Sh.callV hw (i1 := 72) (i2 := 74) (i3 := 2) (i4 := 76) (i5 := 73) (i6 := 75) (k' := 5) (n' := 20) (B' := b13) (R' := R13) rfl rfl rfl rfl rfl rfl (by decide) rfl (pkL l Z a0 n0 hw _ _ _ _ _ _ _ _ (by decide)) at_114 rfl rfl pd13 rfl (Sh.le rfl) (Sh.le rfl) (Sh.le rfl) (Sh.le rfl) rfl rfl ?_
      rintro _ _ ⟨rfl, rfl⟩
      refine Sh.lload at_117 rfl ?_
      refine Sh.lload at_119 rfl ?_
      refine Sh.callS hw (i1 := 58) (i2 := 59) (i3 := 60) (i4 := 61) (k' := 5) (n' := 20) (B' := b10) (R' := R10) rfl rfl rfl rfl (by decide) (mmin l Z a0 n0 hw (-9223372036854775808) d (-9223372036854775808) _ (if_neg (own_nlt d))) at_121 rfl rfl pd10 rfl (Sh.le rfl) (Sh.le rfl) (Sh.le rfl) (Sh.le rfl) rfl rfl ?_
      rintro _ _ ⟨rfl, rfl⟩
      refine Sh.lcmpT at_124 at_125 (pc' := 130) rfl (by decide) rfl ?_
      refine Sh.aload at_130 rfl rfl ?_
      refine Sh.callV hw (i1 := 41) (i2 := 43) (i3 := 2) (i4 := 45) (i5 := 42) (i6 := 44) (k' := 5) (n' := 20) (B' := b7) (R' := R7) rfl rfl rfl rfl rfl rfl (by decide) rfl (poL l Z a0 n0 hw _ _ _ _ _ _ _ 0 1 1 (by decide) (by decide) (by decide) (Sh.le rfl) rfl (Sh.ls_1)) at_132 rfl rfl pd7 rfl (Sh.le rfl) (Sh.le rfl) (Sh.le rfl) (Sh.le rfl) rfl rfl ?_
      rintro _ _ ⟨rfl, rfl⟩
      refine Sh.istore at_135 (Sh.s1_12 rfl rfl) ?_
      refine Sh.aload at_137 rfl rfl ?_
      refine Sh.callV hw (i1 := 41) (i2 := 43) (i3 := 2) (i4 := 45) (i5 := 42) (i6 := 44) (k' := 5) (n' := 20) (B' := b7) (R' := R7) rfl rfl rfl rfl rfl rfl (by decide) rfl (poH l Z a0 n0 hw _ _ _ _ _ _ _ _ _ _ 1 1 2 _ (by decide) (by decide) (by decide) (Sh.le rfl) rfl rfl (rv1 l Z a0 n0 hw _ _ _ _ _ _ _ _ 2 (by decide) (Sh.le rfl) rfl (Sh.ls_2)) (Sh.ls_2)) at_139 rfl rfl pd7 rfl (Sh.le rfl) (Sh.le rfl) (Sh.le rfl) (Sh.le rfl) rfl rfl ?_
      rintro _ _ ⟨rfl, rfl⟩
      refine Sh.istore at_142 (Sh.s1_13 rfl rfl) ?_
      refine Sh.lload at_144 rfl ?_
      refine Sh.lload at_146 rfl ?_
      refine Sh.lcmpT at_148 at_149 (pc' := 157) rfl (by decide) (own_nlt d) ?_
      refine Sh.iload at_157 rfl ?_
      refine Sh.istore at_159 (Sh.s1_14 rfl rfl) ?_
      refine Sh.lload at_161 rfl ?_
      refine Sh.lload at_163 rfl ?_
      refine Sh.lcmpT at_165 at_166 (pc' := 174) rfl (by decide) (own_nlt d) ?_
      refine Sh.iload at_174 rfl ?_
      refine Sh.istore at_176 (Sh.s1_15 rfl rfl) ?_
      refine Sh.iload at_178 rfl ?_
      refine Sh.iload at_180 rfl ?_
      refine Sh.icmpF at_182 (fun z => z rfl) ?_
      refine Sh.iload at_185 rfl ?_
      refine Sh.iload at_187 rfl ?_
      refine Sh.icmpF at_189 (fun z => z rfl) ?_
      refine Sh.aload at_192 rfl rfl ?_
      refine Sh.callV hw (i1 := 67) (i2 := 69) (i3 := 2) (i4 := 71) (i5 := 68) (i6 := 70) (k' := 5) (n' := 20) (B' := b12) (R' := R12) rfl rfl rfl rfl rfl rfl (by decide) rfl (em l Z a0 n0 hw _ _ _ _ _ _) at_194 rfl rfl pd12 rfl (Sh.le rfl) (Sh.le rfl) (Sh.le rfl) (Sh.le rfl) rfl rfl ?_
      rintro _ _ ⟨rfl, rfl⟩
      refine Sh.ifF at_197 (by decide) ?_
      refine Sh.iconst at_200 (x := 1) rfl ?_
      refine Sh.goto at_201 (pc' := 205) rfl (by decide) ?_
      refine Sh.retN at_205 rfl (by simp) rfl (Sh.le rfl) (Sh.le rfl) ?_
      rfl
  · by_cases hd : d = (-9223372036854775808)
    · subst hd
      refine Sh.aload at_94 rfl rfl ?_
      refine Sh.iload at_96 rfl ?_
      refine Sh.lload at_98 rfl ?_
      refine Sh.callV hw (i1 := 26) (i2 := 28) (i3 := 2) (i4 := 30) (i5 := 27) (i6 := 29) (k' := 5) (n' := 20) (B' := b4) (R' := R4) rfl rfl rfl rfl rfl rfl (by decide) rfl (ofH l Z a0 n0 hw _ c _ _ _ _ _ _ _ 0 1 _ (by decide) (by decide) rfl (Sh.le rfl) hc (Sh.ls_1) (su0 l Z a0 n0 hw _ _ _ _ _ _ _ _ _ _ 1 (Sh.le rfl) (Sh.le rfl) (by decide) (Sh.ls_0) (Sh.ls_1))) at_100 rfl rfl pd4 rfl (Sh.le rfl) (Sh.le rfl) (Sh.le rfl) (Sh.le rfl) rfl rfl ?_
      rintro _ _ ⟨rfl, rfl⟩
      refine Sh.aload at_103 rfl rfl ?_
      refine Sh.iload at_105 rfl ?_
      refine Sh.lload at_107 rfl ?_
      refine Sh.callV hw (i1 := 26) (i2 := 28) (i3 := 2) (i4 := 30) (i5 := 27) (i6 := 29) (k' := 5) (n' := 20) (B' := b4) (R' := R4) rfl rfl rfl rfl rfl rfl (by decide) rfl (ofL l Z a0 n0 hw _ (-9223372036854775808) _ _ _ _ _ _ _ _ _ 0 2 (by decide) (by decide) rfl (Sh.le rfl) (Sh.le rfl) (Sh.le rfl) rfl (Sh.ls_2) (Sh.ls_2) (Sh.ls_0)) at_109 rfl rfl pd4 rfl (Sh.le rfl) (Sh.le rfl) (Sh.le rfl) (Sh.le rfl) rfl rfl ?_
      rintro _ _ ⟨rfl, rfl⟩
      refine Sh.aload at_112 rfl rfl ?_
      refine Sh.callV hw (i1 := 72) (i2 := 74) (i3 := 2) (i4 := 76) (i5 := 73) (i6 := 75) (k' := 5) (n' := 20) (B' := b13) (R' := R13) rfl rfl rfl rfl rfl rfl (by decide) rfl (pkL l Z a0 n0 hw _ _ _ _ _ _ _ _ (by decide)) at_114 rfl rfl pd13 rfl (Sh.le rfl) (Sh.le rfl) (Sh.le rfl) (Sh.le rfl) rfl rfl ?_
      rintro _ _ ⟨rfl, rfl⟩
      refine Sh.lload at_117 rfl ?_
      refine Sh.lload at_119 rfl ?_
      refine Sh.callS hw (i1 := 58) (i2 := 59) (i3 := 60) (i4 := 61) (k' := 5) (n' := 20) (B' := b10) (R' := R10) rfl rfl rfl rfl (by decide) (mmin l Z a0 n0 hw c (-9223372036854775808) (-9223372036854775808) _ (if_pos (own_lt c hc))) at_121 rfl rfl pd10 rfl (Sh.le rfl) (Sh.le rfl) (Sh.le rfl) (Sh.le rfl) rfl rfl ?_
      rintro _ _ ⟨rfl, rfl⟩
      refine Sh.lcmpT at_124 at_125 (pc' := 130) rfl (by decide) rfl ?_
      refine Sh.aload at_130 rfl rfl ?_
      refine Sh.callV hw (i1 := 41) (i2 := 43) (i3 := 2) (i4 := 45) (i5 := 42) (i6 := 44) (k' := 5) (n' := 20) (B' := b7) (R' := R7) rfl rfl rfl rfl rfl rfl (by decide) rfl (poL l Z a0 n0 hw _ _ _ _ _ _ _ 0 1 2 (by decide) (by decide) (by decide) (Sh.le rfl) rfl (Sh.ls_2)) at_132 rfl rfl pd7 rfl (Sh.le rfl) (Sh.le rfl) (Sh.le rfl) (Sh.le rfl) rfl rfl ?_
      rintro _ _ ⟨rfl, rfl⟩
      refine Sh.istore at_135 (Sh.s1_12 rfl rfl) ?_
      refine Sh.aload at_137 rfl rfl ?_
      refine Sh.callV hw (i1 := 41) (i2 := 43) (i3 := 2) (i4 := 45) (i5 := 42) (i6 := 44) (k' := 5) (n' := 20) (B' := b7) (R' := R7) rfl rfl rfl rfl rfl rfl (by decide) rfl (poH l Z a0 n0 hw _ _ _ _ _ _ _ _ _ _ 1 1 1 _ (by decide) (by decide) (by decide) (Sh.le rfl) rfl rfl (rv1 l Z a0 n0 hw _ _ _ _ _ _ _ _ 1 (by decide) (Sh.le rfl) rfl (Sh.ls_1)) (Sh.ls_1)) at_139 rfl rfl pd7 rfl (Sh.le rfl) (Sh.le rfl) (Sh.le rfl) (Sh.le rfl) rfl rfl ?_
      rintro _ _ ⟨rfl, rfl⟩
      refine Sh.istore at_142 (Sh.s1_13 rfl rfl) ?_
      refine Sh.lload at_144 rfl ?_
      refine Sh.lload at_146 rfl ?_
      refine Sh.lcmpF at_148 at_149 (fun z => z (own_lt c hc)) ?_
      refine Sh.iload at_152 rfl ?_
      refine Sh.goto at_154 (pc' := 159) rfl (by decide) ?_
      refine Sh.istore at_159 (Sh.s1_14 rfl rfl) ?_
      refine Sh.lload at_161 rfl ?_
      refine Sh.lload at_163 rfl ?_
      refine Sh.lcmpF at_165 at_166 (fun z => z (own_lt c hc)) ?_
      refine Sh.iload at_169 rfl ?_
      refine Sh.goto at_171 (pc' := 176) rfl (by decide) ?_
      refine Sh.istore at_176 (Sh.s1_15 rfl rfl) ?_
      refine Sh.iload at_178 rfl ?_
      refine Sh.iload at_180 rfl ?_
      refine Sh.icmpF at_182 (fun z => z rfl) ?_
      refine Sh.iload at_185 rfl ?_
      refine Sh.iload at_187 rfl ?_
      refine Sh.icmpF at_189 (fun z => z rfl) ?_
      refine Sh.aload at_192 rfl rfl ?_
      refine Sh.callV hw (i1 := 67) (i2 := 69) (i3 := 2) (i4 := 71) (i5 := 68) (i6 := 70) (k' := 5) (n' := 20) (B' := b12) (R' := R12) rfl rfl rfl rfl rfl rfl (by decide) rfl (em l Z a0 n0 hw _ _ _ _ _ _) at_194 rfl rfl pd12 rfl (Sh.le rfl) (Sh.le rfl) (Sh.le rfl) (Sh.le rfl) rfl rfl ?_
      rintro _ _ ⟨rfl, rfl⟩
      refine Sh.ifF at_197 (by decide) ?_
      refine Sh.iconst at_200 (x := 1) rfl ?_
      refine Sh.goto at_201 (pc' := 205) rfl (by decide) ?_
      refine Sh.retN at_205 rfl (by simp) rfl (Sh.le rfl) (Sh.le rfl) ?_
      rfl
    · by_cases hl : d < c
      · skip
        refine Sh.aload at_94 rfl rfl ?_
        refine Sh.iload at_96 rfl ?_
        refine Sh.lload at_98 rfl ?_
        refine Sh.callV hw (i1 := 26) (i2 := 28) (i3 := 2) (i4 := 30) (i5 := 27) (i6 := 29) (k' := 5) (n' := 20) (B' := b4) (R' := R4) rfl rfl rfl rfl rfl rfl (by decide) rfl (ofH l Z a0 n0 hw _ c _ _ _ _ _ _ _ 0 1 _ (by decide) (by decide) rfl (Sh.le rfl) hc (Sh.ls_1) (su0 l Z a0 n0 hw _ _ _ _ _ _ _ _ _ _ 1 (Sh.le rfl) (Sh.le rfl) (by decide) (Sh.ls_0) (Sh.ls_1))) at_100 rfl rfl pd4 rfl (Sh.le rfl) (Sh.le rfl) (Sh.le rfl) (Sh.le rfl) rfl rfl ?_
        rintro _ _ ⟨rfl, rfl⟩
        refine Sh.aload at_103 rfl rfl ?_
        refine Sh.iload at_105 rfl ?_
        refine Sh.lload at_107 rfl ?_
        refine Sh.callV hw (i1 := 26) (i2 := 28) (i3 := 2) (i4 := 30) (i5 := 27) (i6 := 29) (k' := 5) (n' := 20) (B' := b4) (R' := R4) rfl rfl rfl rfl rfl rfl (by decide) rfl (ofH l Z a0 n0 hw _ d _ _ _ _ _ _ _ 1 2 _ (by decide) (by decide) rfl (Sh.le rfl) hd (Sh.ls_2) (su1s l Z a0 n0 hw _ _ _ _ _ _ _ _ _ _ _ _ 2 1 (Sh.le rfl) (Sh.le rfl) (Sh.le rfl) (by decide) (by decide) (Sh.ls_1) (Sh.ls_1) (Sh.ls_0) (Sh.ls_2) _ _ rfl rfl rfl hl)) at_109 rfl rfl pd4 rfl (Sh.le rfl) (Sh.le rfl) (Sh.le rfl) (Sh.le rfl) rfl rfl ?_
        rintro _ _ ⟨rfl, rfl⟩
        refine Sh.aload at_112 rfl rfl ?_
        refine Sh.callV hw (i1 := 72) (i2 := 74) (i3 := 2) (i4 := 76) (i5 := 73) (i6 := 75) (k' := 5) (n' := 20) (B' := b13) (R' := R13) rfl rfl rfl rfl rfl rfl (by decide) rfl (pkH l Z a0 n0 hw _ _ _ _ _ _ _ _ (by decide) 2 (by decide) _ rfl rfl) at_114 rfl rfl pd13 rfl (Sh.le rfl) (Sh.le rfl) (Sh.le rfl) (Sh.le rfl) rfl rfl ?_
        rintro _ _ ⟨rfl, rfl⟩
        refine Sh.lload at_117 rfl ?_
        refine Sh.lload at_119 rfl ?_
        refine Sh.callS hw (i1 := 58) (i2 := 59) (i3 := 60) (i4 := 61) (k' := 5) (n' := 20) (B' := b10) (R' := R10) rfl rfl rfl rfl (by decide) (mmin l Z a0 n0 hw c d d _ (if_pos hl)) at_121 rfl rfl pd10 rfl (Sh.le rfl) (Sh.le rfl) (Sh.le rfl) (Sh.le rfl) rfl rfl ?_
        rintro _ _ ⟨rfl, rfl⟩
        refine Sh.lcmpT at_124 at_125 (pc' := 130) rfl (by decide) rfl ?_
        refine Sh.aload at_130 rfl rfl ?_
        refine Sh.callV hw (i1 := 41) (i2 := 43) (i3 := 2) (i4 := 45) (i5 := 42) (i6 := 44) (k' := 5) (n' := 20) (B' := b7) (R' := R7) rfl rfl rfl rfl rfl rfl (by decide) rfl (poH l Z a0 n0 hw _ _ _ _ _ _ _ _ _ _ 0 0 2 _ (by decide) (by decide) (by decide) (Sh.le rfl) rfl rfl (rv2 l Z a0 n0 hw _ _ _ _ _ _ _ _ _ _ _ 2 1 (by decide) (by decide) (Sh.le rfl) (Sh.le rfl) (Sh.le rfl) rfl rfl (Sh.ls_2) (Sh.ls_0) (Sh.ls_1) (Sh.ls_0) (Sh.ls_1)) (Sh.ls_2)) at_132 rfl rfl pd7 rfl (Sh.le rfl) (Sh.le rfl) (Sh.le rfl) (Sh.le rfl) rfl rfl ?_
        rintro _ _ ⟨rfl, rfl⟩
        refine Sh.istore at_135 (Sh.s1_12 rfl rfl) ?_
        refine Sh.aload at_137 rfl rfl ?_
        refine Sh.callV hw (i1 := 41) (i2 := 43) (i3 := 2) (i4 := 45) (i5 := 42) (i6 := 44) (k' := 5) (n' := 20) (B' := b7) (R' := R7) rfl rfl rfl rfl rfl rfl (by decide) rfl (poH l Z a0 n0 hw _ _ _ _ _ _ _ _ _ _ 0 0 1 _ (by decide) (by decide) (by decide) (Sh.le rfl) rfl rfl (rv1 l Z a0 n0 hw _ _ _ _ _ _ _ _ 1 (by decide) (Sh.le rfl) rfl (Sh.ls_1)) (Sh.ls_1)) at_139 rfl rfl pd7 rfl (Sh.le rfl) (Sh.le rfl) (Sh.le rfl) (Sh.le rfl) rfl rfl ?_
        rintro _ _ ⟨rfl, rfl⟩
        refine Sh.istore at_142 (Sh.s1_13 rfl rfl) ?_
        refine Sh.lload at_144 rfl ?_
        refine Sh.lload at_146 rfl ?_
        refine Sh.lcmpF at_148 at_149 (fun z => z hl) ?_
        refine Sh.iload at_152 rfl ?_
        refine Sh.goto at_154 (pc' := 159) rfl (by decide) ?_
        refine Sh.istore at_159 (Sh.s1_14 rfl rfl) ?_
        refine Sh.lload at_161 rfl ?_
        refine Sh.lload at_163 rfl ?_
        refine Sh.lcmpF at_165 at_166 (fun z => z hl) ?_
        refine Sh.iload at_169 rfl ?_
        refine Sh.goto at_171 (pc' := 176) rfl (by decide) ?_
        refine Sh.istore at_176 (Sh.s1_15 rfl rfl) ?_
        refine Sh.iload at_178 rfl ?_
        refine Sh.iload at_180 rfl ?_
        refine Sh.icmpF at_182 (fun z => z rfl) ?_
        refine Sh.iload at_185 rfl ?_
        refine Sh.iload at_187 rfl ?_
        refine Sh.icmpF at_189 (fun z => z rfl) ?_
        refine Sh.aload at_192 rfl rfl ?_
        refine Sh.callV hw (i1 := 67) (i2 := 69) (i3 := 2) (i4 := 71) (i5 := 68) (i6 := 70) (k' := 5) (n' := 20) (B' := b12) (R' := R12) rfl rfl rfl rfl rfl rfl (by decide) rfl (em l Z a0 n0 hw _ _ _ _ _ _) at_194 rfl rfl pd12 rfl (Sh.le rfl) (Sh.le rfl) (Sh.le rfl) (Sh.le rfl) rfl rfl ?_
        rintro _ _ ⟨rfl, rfl⟩
        refine Sh.ifF at_197 (by decide) ?_
        refine Sh.iconst at_200 (x := 1) rfl ?_
        refine Sh.goto at_201 (pc' := 205) rfl (by decide) ?_
        refine Sh.retN at_205 rfl (by simp) rfl (Sh.le rfl) (Sh.le rfl) ?_
        rfl
      · skip
        refine Sh.aload at_94 rfl rfl ?_
        refine Sh.iload at_96 rfl ?_
        refine Sh.lload at_98 rfl ?_
        refine Sh.callV hw (i1 := 26) (i2 := 28) (i3 := 2) (i4 := 30) (i5 := 27) (i6 := 29) (k' := 5) (n' := 20) (B' := b4) (R' := R4) rfl rfl rfl rfl rfl rfl (by decide) rfl (ofH l Z a0 n0 hw _ c _ _ _ _ _ _ _ 0 1 _ (by decide) (by decide) rfl (Sh.le rfl) hc (Sh.ls_1) (su0 l Z a0 n0 hw _ _ _ _ _ _ _ _ _ _ 1 (Sh.le rfl) (Sh.le rfl) (by decide) (Sh.ls_0) (Sh.ls_1))) at_100 rfl rfl pd4 rfl (Sh.le rfl) (Sh.le rfl) (Sh.le rfl) (Sh.le rfl) rfl rfl ?_
        rintro _ _ ⟨rfl, rfl⟩
        refine Sh.aload at_103 rfl rfl ?_
        refine Sh.iload at_105 rfl ?_
        refine Sh.lload at_107 rfl ?_
        refine Sh.callV hw (i1 := 26) (i2 := 28) (i3 := 2) (i4 := 30) (i5 := 27) (i6 := 29) (k' := 5) (n' := 20) (B' := b4) (R' := R4) rfl rfl rfl rfl rfl rfl (by decide) rfl (ofH l Z a0 n0 hw _ d _ _ _ _ _ _ _ 1 2 _ (by decide) (by decide) rfl (Sh.le rfl) hd (Sh.ls_2) (su1n l Z a0 n0 hw _ _ _ _ _ _ _ _ _ _ 2 (Sh.le rfl) (Sh.le rfl) (by decide) (Sh.ls_1) (Sh.ls_2) 1 (by decide) _ _ rfl rfl rfl hl)) at_109 rfl rfl pd4 rfl (Sh.le rfl) (Sh.le rfl) (Sh.le rfl) (Sh.le rfl) rfl rfl ?_
        rintro _ _ ⟨rfl, rfl⟩
        refine Sh.aload at_112 rfl rfl ?_
        refine Sh.callV hw (i1 := 72) (i2 := 74) (i3 := 2) (i4 := 76) (i5 := 73) (i6 := 75) (k' := 5) (n' := 20) (B' := b13) (R' := R13) rfl rfl rfl rfl rfl rfl (by decide) rfl (pkH l Z a0 n0 hw _ _ _ _ _ _ _ _ (by decide) 1 (by decide) _ rfl rfl) at_114 rfl rfl pd13 rfl (Sh.le rfl) (Sh.le rfl) (Sh.le rfl) (Sh.le rfl) rfl rfl ?_
        rintro _ _ ⟨rfl, rfl⟩
        refine Sh.lload at_117 rfl ?_
        refine Sh.lload at_119 rfl ?_
        refine Sh.callS hw (i1 := 58) (i2 := 59) (i3 := 60) (i4 := 61) (k' := 5) (n' := 20) (B' := b10) (R' := R10) rfl rfl rfl rfl (by decide) (mmin l Z a0 n0 hw c d c _ (if_neg hl)) at_121 rfl rfl pd10 rfl (Sh.le rfl) (Sh.le rfl) (Sh.le rfl) (Sh.le rfl) rfl rfl ?_
        rintro _ _ ⟨rfl, rfl⟩
        refine Sh.lcmpT at_124 at_125 (pc' := 130) rfl (by decide) rfl ?_
        refine Sh.aload at_130 rfl rfl ?_
        refine Sh.callV hw (i1 := 41) (i2 := 43) (i3 := 2) (i4 := 45) (i5 := 42) (i6 := 44) (k' := 5) (n' := 20) (B' := b7) (R' := R7) rfl rfl rfl rfl rfl rfl (by decide) rfl (poH l Z a0 n0 hw _ _ _ _ _ _ _ _ _ _ 0 0 1 _ (by decide) (by decide) (by decide) (Sh.le rfl) rfl rfl (rv2 l Z a0 n0 hw _ _ _ _ _ _ _ _ _ _ _ 1 2 (by decide) (by decide) (Sh.le rfl) (Sh.le rfl) (Sh.le rfl) rfl rfl (Sh.ls_1) (Sh.ls_0) (Sh.ls_2) (Sh.ls_0) (Sh.ls_2)) (Sh.ls_1)) at_132 rfl rfl pd7 rfl (Sh.le rfl) (Sh.le rfl) (Sh.le rfl) (Sh.le rfl) rfl rfl ?_
        rintro _ _ ⟨rfl, rfl⟩
        refine Sh.istore at_135 (Sh.s1_12 rfl rfl) ?_
        refine Sh.aload at_137 rfl rfl ?_
        refine Sh.callV hw (i1 := 41) (i2 := 43) (i3 := 2) (i4 := 45) (i5 := 42) (i6 := 44) (k' := 5) (n' := 20) (B' := b7) (R' := R7) rfl rfl rfl rfl rfl rfl (by decide) rfl (poH l Z a0 n0 hw _ _ _ _ _ _ _ _ _ _ 0 0 2 _ (by decide) (by decide) (by decide) (Sh.le rfl) rfl rfl (rv1 l Z a0 n0 hw _ _ _ _ _ _ _ _ 2 (by decide) (Sh.le rfl) rfl (Sh.ls_2)) (Sh.ls_2)) at_139 rfl rfl pd7 rfl (Sh.le rfl) (Sh.le rfl) (Sh.le rfl) (Sh.le rfl) rfl rfl ?_
        rintro _ _ ⟨rfl, rfl⟩
        refine Sh.istore at_142 (Sh.s1_13 rfl rfl) ?_
        refine Sh.lload at_144 rfl ?_
        refine Sh.lload at_146 rfl ?_
        refine Sh.lcmpT at_148 at_149 (pc' := 157) rfl (by decide) hl ?_
        refine Sh.iload at_157 rfl ?_
        refine Sh.istore at_159 (Sh.s1_14 rfl rfl) ?_
        refine Sh.lload at_161 rfl ?_
        refine Sh.lload at_163 rfl ?_
        refine Sh.lcmpT at_165 at_166 (pc' := 174) rfl (by decide) hl ?_
        refine Sh.iload at_174 rfl ?_
        refine Sh.istore at_176 (Sh.s1_15 rfl rfl) ?_
        refine Sh.iload at_178 rfl ?_
        refine Sh.iload at_180 rfl ?_
        refine Sh.icmpF at_182 (fun z => z rfl) ?_
        refine Sh.iload at_185 rfl ?_
        refine Sh.iload at_187 rfl ?_
        refine Sh.icmpF at_189 (fun z => z rfl) ?_
        refine Sh.aload at_192 rfl rfl ?_
        refine Sh.callV hw (i1 := 67) (i2 := 69) (i3 := 2) (i4 := 71) (i5 := 68) (i6 := 70) (k' := 5) (n' := 20) (B' := b12) (R' := R12) rfl rfl rfl rfl rfl rfl (by decide) rfl (em l Z a0 n0 hw _ _ _ _ _ _) at_194 rfl rfl pd12 rfl (Sh.le rfl) (Sh.le rfl) (Sh.le rfl) (Sh.le rfl) rfl rfl ?_
        rintro _ _ ⟨rfl, rfl⟩
        refine Sh.ifF at_197 (by decide) ?_
        refine Sh.iconst at_200 (x := 1) rfl ?_
        refine Sh.goto at_201 (pc' := 205) rfl (by decide) ?_
        refine Sh.retN at_205 rfl (by simp) rfl (Sh.le rfl) (Sh.le rfl) ?_
        rfl
theorem two11 (hw : HW Z a0) (a b c d : Int64) (f : Int32) (p0 p1 p2 y0 y1 y2 r0 r1 r2 : Value) :
    Sh.WP l Z a0 n0 b0 room_1 5 20 94 [.val (.long a), .second, .val (.long b), .second, .val (.long c), .second, .val (.long d), .second, .val (.int f), .val (.ref 0), .val (.int (Int32.ofNat 1)), .val (.int (Int32.ofNat 0)), .unset, .unset, .unset, .unset] [] (own_H (-9223372036854775808) [p0, p1, p2] [.int (-1), .int (-1), .int (-1)] [y0, y1, y2] [r0, r1, r2] 0 0 0) (fun v _ => v = some (.int 1)) := by
  by_cases hc : c = (-9223372036854775808)
  · subst hc
    by_cases hd : d = (-9223372036854775808)
    · subst hd
      refine Sh.aload at_94 rfl rfl ?_
      refine Sh.iload at_96 rfl ?_
      refine Sh.lload at_98 rfl ?_
      refine Sh.callV hw (i1 := 26) (i2 := 28) (i3 := 2) (i4 := 30) (i5 := 27) (i6 := 29) (k' := 5) (n' := 20) (B' := b4) (R' := R4) rfl rfl rfl rfl rfl rfl (by decide) rfl (ofL l Z a0 n0 hw _ (-9223372036854775808) _ _ _ _ _ _ _ _ _ 0 1 (by decide) (by decide) rfl (Sh.le rfl) (Sh.le rfl) (Sh.le rfl) rfl (Sh.ls_1) (Sh.ls_1) (Sh.ls_0)) at_100 rfl rfl pd4 rfl (Sh.le rfl) (Sh.le rfl) (Sh.le rfl) (Sh.le rfl) rfl rfl ?_
      rintro _ _ ⟨rfl, rfl⟩
      refine Sh.aload at_103 rfl rfl ?_
      refine Sh.iload at_105 rfl ?_
      refine Sh.lload at_107 rfl ?_
      refine Sh.callV hw (i1 := 26) (i2 := 28) (i3 := 2) (i4 := 30) (i5 := 27) (i6 := 29) (k' := 5) (n' := 20) (B' := b4) (R' := R4) rfl rfl rfl rfl rfl rfl (by decide) rfl (ofL l Z a0 n0 hw _ (-9223372036854775808) _ _ _ _ _ _ _ _ _ 1 0 (by decide) (by decide) rfl (Sh.le rfl) (Sh.le rfl) (Sh.le rfl) rfl (Sh.ls_0) (Sh.ls_0) (Sh.ls_1)) at_109 rfl rfl pd4 rfl (Sh.le rfl) (Sh.le rfl) (Sh.le rfl) (Sh.le rfl) rfl rfl ?_
      rintro _ _ ⟨rfl, rfl⟩
      refine Sh.aload at_112 rfl rfl ?_
      refine Sh.callV hw (i1 := 72) (i2 := 74) (i3 := 2) (i4 := 76) (i5 := 73) (i6 := 75) (k' := 5) (n' := 20) (B' := b13) (R' := R13) rfl rfl rfl rfl rfl rfl (by decide) rfl (pkL l Z a0 n0 hw _ _ _ _ _ _ _ _ (by decide)) at_114 rfl rfl pd13 rfl (Sh.le rfl) (Sh.le rfl) (Sh.le rfl) (Sh.le rfl) rfl rfl ?_
      rintro _ _ ⟨rfl, rfl⟩
      refine Sh.lload at_117 rfl ?_
      refine Sh.lload at_119 rfl ?_
      refine Sh.callS hw (i1 := 58) (i2 := 59) (i3 := 60) (i4 := 61) (k' := 5) (n' := 20) (B' := b10) (R' := R10) rfl rfl rfl rfl (by decide) (mmin l Z a0 n0 hw (-9223372036854775808) (-9223372036854775808) (-9223372036854775808) _ (by decide)) at_121 rfl rfl pd10 rfl (Sh.le rfl) (Sh.le rfl) (Sh.le rfl) (Sh.le rfl) rfl rfl ?_
      rintro _ _ ⟨rfl, rfl⟩
      refine Sh.lcmpT at_124 at_125 (pc' := 130) rfl (by decide) rfl ?_
      refine Sh.aload at_130 rfl rfl ?_
      refine Sh.callV hw (i1 := 41) (i2 := 43) (i3 := 2) (i4 := 45) (i5 := 42) (i6 := 44) (k' := 5) (n' := 20) (B' := b7) (R' := R7) rfl rfl rfl rfl rfl rfl (by decide) rfl (poL l Z a0 n0 hw _ _ _ _ _ _ _ 0 2 1 (by decide) (by decide) (by decide) (Sh.le rfl) rfl (Sh.ls_1)) at_132 rfl rfl pd7 rfl (Sh.le rfl) (Sh.le rfl) (Sh.le rfl) (Sh.le rfl) rfl rfl ?_
      rintro _ _ ⟨rfl, rfl⟩
      refine Sh.istore at_135 (Sh.s1_12 rfl rfl) ?_
      refine Sh.aload at_137 rfl rfl ?_
      refine Sh.callV hw (i1 := 41) (i2 := 43) (i3 := 2) (i4 := 45) (i5 := 42) (i6 := 44) (k' := 5) (n' := 20) (B' := b7) (R' := R7) rfl rfl rfl rfl rfl rfl (by decide) rfl (poL l Z a0 n0 hw _ _ _ _ _ _ _ 1 2 0 (by decide) (by decide) (by decide) (Sh.le rfl) rfl (Sh.ls_0)) at_139 rfl rfl pd7 rfl (Sh.le rfl) (Sh.le rfl) (Sh.le rfl) (Sh.le rfl) rfl rfl ?_
      rintro _ _ ⟨rfl, rfl⟩
      refine Sh.istore at_142 (Sh.s1_13 rfl rfl) ?_
      refine Sh.lload at_144 rfl ?_
      refine Sh.lload at_146 rfl ?_
      refine Sh.lcmpT at_148 at_149 (pc' := 157) rfl (by decide) (by decide) ?_
      refine Sh.iload at_157 rfl ?_
      refine Sh.istore at_159 (Sh.s1_14 rfl rfl) ?_
      refine Sh.lload at_161 rfl ?_
      refine Sh.lload at_163 rfl ?_
      refine Sh.lcmpT at_165 at_166 (pc' := 174) rfl (by decide) (by decide) ?_
      refine Sh.iload at_174 rfl ?_
      refine Sh.istore at_176 (Sh.s1_15 rfl rfl) ?_
      refine Sh.iload at_178 rfl ?_
      refine Sh.iload at_180 rfl ?_
      refine Sh.icmpF at_182 (fun z => z rfl) ?_
      refine Sh.iload at_185 rfl ?_
      refine Sh.iload at_187 rfl ?_
      refine Sh.icmpF at_189 (fun z => z rfl) ?_
      refine Sh.aload at_192 rfl rfl ?_
      refine Sh.callV hw (i1 := 67) (i2 := 69) (i3 := 2) (i4 := 71) (i5 := 68) (i6 := 70) (k' := 5) (n' := 20) (B' := b12) (R' := R12) rfl rfl rfl rfl rfl rfl (by decide) rfl (em l Z a0 n0 hw _ _ _ _ _ _) at_194 rfl rfl pd12 rfl (Sh.le rfl) (Sh.le rfl) (Sh.le rfl) (Sh.le rfl) rfl rfl ?_
      rintro _ _ ⟨rfl, rfl⟩
      refine Sh.ifF at_197 (by decide) ?_
      refine Sh.iconst at_200 (x := 1) rfl ?_
      refine Sh.goto at_201 (pc' := 205) rfl (by decide) ?_
      refine Sh.retN at_205 rfl (by simp) rfl (Sh.le rfl) (Sh.le rfl) ?_
      rfl
    · skip
      refine Sh.aload at_94 rfl rfl ?_
      refine Sh.iload at_96 rfl ?_
      refine Sh.lload at_98 rfl ?_
      refine Sh.callV hw (i1 := 26) (i2 := 28) (i3 := 2) (i4 := 30) (i5 := 27) (i6 := 29) (k' := 5) (n' := 20) (B' := b4) (R' := R4) rfl rfl rfl rfl rfl rfl (by decide) rfl (ofL l Z a0 n0 hw _ (-9223372036854775808) _ _ _ _ _ _ _ _ _ 0 1 (by decide) (by decide) rfl (Sh.le rfl) (Sh.le rfl) (Sh.le rfl) rfl (Sh.ls_1) (Sh.ls_1) (Sh.ls_0)) at_100 rfl rfl pd4 rfl (Sh.le rfl) (Sh.le rfl) (Sh.le rfl) (Sh.le rfl) rfl rfl ?_
      rintro _ _ ⟨rfl, rfl⟩
      refine Sh.aload at_103 rfl rfl ?_
      refine Sh.iload at_105 rfl ?_
      refine Sh.lload at_107 rfl ?_
      refine Sh.callV hw (i1 := 26) (i2 := 28) (i3 := 2) (i4 := 30) (i5 := 27) (i6 := 29) (k' := 5) (n' := 20) (B' := b4) (R' := R4) rfl rfl rfl rfl rfl rfl (by decide) rfl (ofH l Z a0 n0 hw _ d _ _ _ _ _ _ _ 0 0 _ (by decide) (by decide) rfl (Sh.le rfl) hd (Sh.ls_0) (su0 l Z a0 n0 hw _ _ _ _ _ _ _ _ _ _ 0 (Sh.le rfl) (Sh.le rfl) (by decide) (Sh.ls_0) (Sh.ls_0))) at_109 rfl rfl pd4 rfl (Sh.le rfl) (Sh.le rfl) (Sh.le rfl) (Sh.le rfl) rfl rfl ?_
      rintro _ _ ⟨rfl, rfl⟩
      refine Sh.aload at_112 rfl rfl ?_
      refine Sh.callV hw (i1 := 72) (i2 := 74) (i3 := 2) (i4 := 76) (i5 := 73) (i6 := 75) (k' := 5) (n' := 20) (B' := b13) (R' := R13) rfl rfl rfl rfl rfl rfl (by decide) rfl (pkL l Z a0 n0 hw _ _ _ _ _ _ _ _ (by decide)) at_114 rfl rfl pd13 rfl (Sh.le rfl) (Sh.le rfl) (Sh.le rfl) (Sh.le rfl) rfl rfl ?_
      rintro _ _ ⟨rfl, rfl⟩
      refine Sh.lload at_117 rfl ?_
      refine Sh.lload at_119 rfl ?_
      refine Sh.callS hw (i1 := 58) (i2 := 59) (i3 := 60) (i4 := 61) (k' := 5) (n' := 20) (B' := b10) (R' := R10) rfl rfl rfl rfl (by decide) (mmin l Z a0 n0 hw (-9223372036854775808) d (-9223372036854775808) _ (if_neg (own_nlt d))) at_121 rfl rfl pd10 rfl (Sh.le rfl) (Sh.le rfl) (Sh.le rfl) (Sh.le rfl) rfl rfl ?_
      rintro _ _ ⟨rfl, rfl⟩
      refine Sh.lcmpT at_124 at_125 (pc' := 130) rfl (by decide) rfl ?_
      refine Sh.aload at_130 rfl rfl ?_
      refine Sh.callV hw (i1 := 41) (i2 := 43) (i3 := 2) (i4 := 45) (i5 := 42) (i6 := 44) (k' := 5) (n' := 20) (B' := b7) (R' := R7) rfl rfl rfl rfl rfl rfl (by decide) rfl (poL l Z a0 n0 hw _ _ _ _ _ _ _ 0 1 1 (by decide) (by decide) (by decide) (Sh.le rfl) rfl (Sh.ls_1)) at_132 rfl rfl pd7 rfl (Sh.le rfl) (Sh.le rfl) (Sh.le rfl) (Sh.le rfl) rfl rfl ?_
      rintro _ _ ⟨rfl, rfl⟩
      refine Sh.istore at_135 (Sh.s1_12 rfl rfl) ?_
      refine Sh.aload at_137 rfl rfl ?_
      refine Sh.callV hw (i1 := 41) (i2 := 43) (i3 := 2) (i4 := 45) (i5 := 42) (i6 := 44) (k' := 5) (n' := 20) (B' := b7) (R' := R7) rfl rfl rfl rfl rfl rfl (by decide) rfl (poH l Z a0 n0 hw _ _ _ _ _ _ _ _ _ _ 1 1 0 _ (by decide) (by decide) (by decide) (Sh.le rfl) rfl rfl (rv1 l Z a0 n0 hw _ _ _ _ _ _ _ _ 0 (by decide) (Sh.le rfl) rfl (Sh.ls_0)) (Sh.ls_0)) at_139 rfl rfl pd7 rfl (Sh.le rfl) (Sh.le rfl) (Sh.le rfl) (Sh.le rfl) rfl rfl ?_
      rintro _ _ ⟨rfl, rfl⟩
      refine Sh.istore at_142 (Sh.s1_13 rfl rfl) ?_
      refine Sh.lload at_144 rfl ?_
      refine Sh.lload at_146 rfl ?_
      refine Sh.lcmpT at_148 at_149 (pc' := 157) rfl (by decide) (own_nlt d) ?_
      refine Sh.iload at_157 rfl ?_
      refine Sh.istore at_159 (Sh.s1_14 rfl rfl) ?_
      refine Sh.lload at_161 rfl ?_
      refine Sh.lload at_163 rfl ?_
      refine Sh.lcmpT at_165 at_166 (pc' := 174) rfl (by decide) (own_nlt d) ?_
      refine Sh.iload at_174 rfl ?_
      refine Sh.istore at_176 (Sh.s1_15 rfl rfl) ?_
      refine Sh.iload at_178 rfl ?_
      refine Sh.iload at_180 rfl ?_
      refine Sh.icmpF at_182 (fun z => z rfl) ?_
      refine Sh.iload at_185 rfl ?_
      refine Sh.iload at_187 rfl ?_
      refine Sh.icmpF at_189 (fun z => z rfl) ?_
      refine Sh.aload at_192 rfl rfl ?_
      refine Sh.callV hw (i1 := 67) (i2 := 69) (i3 := 2) (i4 := 71) (i5 := 68) (i6 := 70) (k' := 5) (n' := 20) (B' := b12) (R' := R12) rfl rfl rfl rfl rfl rfl (by decide) rfl (em l Z a0 n0 hw _ _ _ _ _ _) at_194 rfl rfl pd12 rfl (Sh.le rfl) (Sh.le rfl) (Sh.le rfl) (Sh.le rfl) rfl rfl ?_
      rintro _ _ ⟨rfl, rfl⟩
      refine Sh.ifF at_197 (by decide) ?_
      refine Sh.iconst at_200 (x := 1) rfl ?_
      refine Sh.goto at_201 (pc' := 205) rfl (by decide) ?_
      refine Sh.retN at_205 rfl (by simp) rfl (Sh.le rfl) (Sh.le rfl) ?_
      rfl
  · by_cases hd : d = (-9223372036854775808)
    · subst hd
      refine Sh.aload at_94 rfl rfl ?_
      refine Sh.iload at_96 rfl ?_
      refine Sh.lload at_98 rfl ?_
      refine Sh.callV hw (i1 := 26) (i2 := 28) (i3 := 2) (i4 := 30) (i5 := 27) (i6 := 29) (k' := 5) (n' := 20) (B' := b4) (R' := R4) rfl rfl rfl rfl rfl rfl (by decide) rfl (ofH l Z a0 n0 hw _ c _ _ _ _ _ _ _ 0 1 _ (by decide) (by decide) rfl (Sh.le rfl) hc (Sh.ls_1) (su0 l Z a0 n0 hw _ _ _ _ _ _ _ _ _ _ 1 (Sh.le rfl) (Sh.le rfl) (by decide) (Sh.ls_0) (Sh.ls_1))) at_100 rfl rfl pd4 rfl (Sh.le rfl) (Sh.le rfl) (Sh.le rfl) (Sh.le rfl) rfl rfl ?_
      rintro _ _ ⟨rfl, rfl⟩
      refine Sh.aload at_103 rfl rfl ?_
      refine Sh.iload at_105 rfl ?_
      refine Sh.lload at_107 rfl ?_
      refine Sh.callV hw (i1 := 26) (i2 := 28) (i3 := 2) (i4 := 30) (i5 := 27) (i6 := 29) (k' := 5) (n' := 20) (B' := b4) (R' := R4) rfl rfl rfl rfl rfl rfl (by decide) rfl (ofL l Z a0 n0 hw _ (-9223372036854775808) _ _ _ _ _ _ _ _ _ 0 0 (by decide) (by decide) rfl (Sh.le rfl) (Sh.le rfl) (Sh.le rfl) rfl (Sh.ls_0) (Sh.ls_0) (Sh.ls_0)) at_109 rfl rfl pd4 rfl (Sh.le rfl) (Sh.le rfl) (Sh.le rfl) (Sh.le rfl) rfl rfl ?_
      rintro _ _ ⟨rfl, rfl⟩
      refine Sh.aload at_112 rfl rfl ?_
      refine Sh.callV hw (i1 := 72) (i2 := 74) (i3 := 2) (i4 := 76) (i5 := 73) (i6 := 75) (k' := 5) (n' := 20) (B' := b13) (R' := R13) rfl rfl rfl rfl rfl rfl (by decide) rfl (pkL l Z a0 n0 hw _ _ _ _ _ _ _ _ (by decide)) at_114 rfl rfl pd13 rfl (Sh.le rfl) (Sh.le rfl) (Sh.le rfl) (Sh.le rfl) rfl rfl ?_
      rintro _ _ ⟨rfl, rfl⟩
      refine Sh.lload at_117 rfl ?_
      refine Sh.lload at_119 rfl ?_
      refine Sh.callS hw (i1 := 58) (i2 := 59) (i3 := 60) (i4 := 61) (k' := 5) (n' := 20) (B' := b10) (R' := R10) rfl rfl rfl rfl (by decide) (mmin l Z a0 n0 hw c (-9223372036854775808) (-9223372036854775808) _ (if_pos (own_lt c hc))) at_121 rfl rfl pd10 rfl (Sh.le rfl) (Sh.le rfl) (Sh.le rfl) (Sh.le rfl) rfl rfl ?_
      rintro _ _ ⟨rfl, rfl⟩
      refine Sh.lcmpT at_124 at_125 (pc' := 130) rfl (by decide) rfl ?_
      refine Sh.aload at_130 rfl rfl ?_
      refine Sh.callV hw (i1 := 41) (i2 := 43) (i3 := 2) (i4 := 45) (i5 := 42) (i6 := 44) (k' := 5) (n' := 20) (B' := b7) (R' := R7) rfl rfl rfl rfl rfl rfl (by decide) rfl (poL l Z a0 n0 hw _ _ _ _ _ _ _ 0 1 0 (by decide) (by decide) (by decide) (Sh.le rfl) rfl (Sh.ls_0)) at_132 rfl rfl pd7 rfl (Sh.le rfl) (Sh.le rfl) (Sh.le rfl) (Sh.le rfl) rfl rfl ?_
      rintro _ _ ⟨rfl, rfl⟩
      refine Sh.istore at_135 (Sh.s1_12 rfl rfl) ?_
      refine Sh.aload at_137 rfl rfl ?_
      refine Sh.callV hw (i1 := 41) (i2 := 43) (i3 := 2) (i4 := 45) (i5 := 42) (i6 := 44) (k' := 5) (n' := 20) (B' := b7) (R' := R7) rfl rfl rfl rfl rfl rfl (by decide) rfl (poH l Z a0 n0 hw _ _ _ _ _ _ _ _ _ _ 1 1 1 _ (by decide) (by decide) (by decide) (Sh.le rfl) rfl rfl (rv1 l Z a0 n0 hw _ _ _ _ _ _ _ _ 1 (by decide) (Sh.le rfl) rfl (Sh.ls_1)) (Sh.ls_1)) at_139 rfl rfl pd7 rfl (Sh.le rfl) (Sh.le rfl) (Sh.le rfl) (Sh.le rfl) rfl rfl ?_
      rintro _ _ ⟨rfl, rfl⟩
      refine Sh.istore at_142 (Sh.s1_13 rfl rfl) ?_
      refine Sh.lload at_144 rfl ?_
      refine Sh.lload at_146 rfl ?_
      refine Sh.lcmpF at_148 at_149 (fun z => z (own_lt c hc)) ?_
      refine Sh.iload at_152 rfl ?_
      refine Sh.goto at_154 (pc' := 159) rfl (by decide) ?_
      refine Sh.istore at_159 (Sh.s1_14 rfl rfl) ?_
      refine Sh.lload at_161 rfl ?_
      refine Sh.lload at_163 rfl ?_
      refine Sh.lcmpF at_165 at_166 (fun z => z (own_lt c hc)) ?_
      refine Sh.iload at_169 rfl ?_
      refine Sh.goto at_171 (pc' := 176) rfl (by decide) ?_
      refine Sh.istore at_176 (Sh.s1_15 rfl rfl) ?_
      refine Sh.iload at_178 rfl ?_
      refine Sh.iload at_180 rfl ?_
      refine Sh.icmpF at_182 (fun z => z rfl) ?_
      refine Sh.iload at_185 rfl ?_
      refine Sh.iload at_187 rfl ?_
      refine Sh.icmpF at_189 (fun z => z rfl) ?_
      refine Sh.aload at_192 rfl rfl ?_
      refine Sh.callV hw (i1 := 67) (i2 := 69) (i3 := 2) (i4 := 71) (i5 := 68) (i6 := 70) (k' := 5) (n' := 20) (B' := b12) (R' := R12) rfl rfl rfl rfl rfl rfl (by decide) rfl (em l Z a0 n0 hw _ _ _ _ _ _) at_194 rfl rfl pd12 rfl (Sh.le rfl) (Sh.le rfl) (Sh.le rfl) (Sh.le rfl) rfl rfl ?_
      rintro _ _ ⟨rfl, rfl⟩
      refine Sh.ifF at_197 (by decide) ?_
      refine Sh.iconst at_200 (x := 1) rfl ?_
      refine Sh.goto at_201 (pc' := 205) rfl (by decide) ?_
      refine Sh.retN at_205 rfl (by simp) rfl (Sh.le rfl) (Sh.le rfl) ?_
      rfl
    · by_cases hl : d < c
      · skip
        refine Sh.aload at_94 rfl rfl ?_
        refine Sh.iload at_96 rfl ?_
        refine Sh.lload at_98 rfl ?_
        refine Sh.callV hw (i1 := 26) (i2 := 28) (i3 := 2) (i4 := 30) (i5 := 27) (i6 := 29) (k' := 5) (n' := 20) (B' := b4) (R' := R4) rfl rfl rfl rfl rfl rfl (by decide) rfl (ofH l Z a0 n0 hw _ c _ _ _ _ _ _ _ 0 1 _ (by decide) (by decide) rfl (Sh.le rfl) hc (Sh.ls_1) (su0 l Z a0 n0 hw _ _ _ _ _ _ _ _ _ _ 1 (Sh.le rfl) (Sh.le rfl) (by decide) (Sh.ls_0) (Sh.ls_1))) at_100 rfl rfl pd4 rfl (Sh.le rfl) (Sh.le rfl) (Sh.le rfl) (Sh.le rfl) rfl rfl ?_
        rintro _ _ ⟨rfl, rfl⟩
        refine Sh.aload at_103 rfl rfl ?_
        refine Sh.iload at_105 rfl ?_
        refine Sh.lload at_107 rfl ?_
        refine Sh.callV hw (i1 := 26) (i2 := 28) (i3 := 2) (i4 := 30) (i5 := 27) (i6 := 29) (k' := 5) (n' := 20) (B' := b4) (R' := R4) rfl rfl rfl rfl rfl rfl (by decide) rfl (ofH l Z a0 n0 hw _ d _ _ _ _ _ _ _ 1 0 _ (by decide) (by decide) rfl (Sh.le rfl) hd (Sh.ls_0) (su1s l Z a0 n0 hw _ _ _ _ _ _ _ _ _ _ _ _ 0 1 (Sh.le rfl) (Sh.le rfl) (Sh.le rfl) (by decide) (by decide) (Sh.ls_1) (Sh.ls_1) (Sh.ls_0) (Sh.ls_0) _ _ rfl rfl rfl hl)) at_109 rfl rfl pd4 rfl (Sh.le rfl) (Sh.le rfl) (Sh.le rfl) (Sh.le rfl) rfl rfl ?_
        rintro _ _ ⟨rfl, rfl⟩
        refine Sh.aload at_112 rfl rfl ?_
        refine Sh.callV hw (i1 := 72) (i2 := 74) (i3 := 2) (i4 := 76) (i5 := 73) (i6 := 75) (k' := 5) (n' := 20) (B' := b13) (R' := R13) rfl rfl rfl rfl rfl rfl (by decide) rfl (pkH l Z a0 n0 hw _ _ _ _ _ _ _ _ (by decide) 0 (by decide) _ rfl rfl) at_114 rfl rfl pd13 rfl (Sh.le rfl) (Sh.le rfl) (Sh.le rfl) (Sh.le rfl) rfl rfl ?_
        rintro _ _ ⟨rfl, rfl⟩
        refine Sh.lload at_117 rfl ?_
        refine Sh.lload at_119 rfl ?_
        refine Sh.callS hw (i1 := 58) (i2 := 59) (i3 := 60) (i4 := 61) (k' := 5) (n' := 20) (B' := b10) (R' := R10) rfl rfl rfl rfl (by decide) (mmin l Z a0 n0 hw c d d _ (if_pos hl)) at_121 rfl rfl pd10 rfl (Sh.le rfl) (Sh.le rfl) (Sh.le rfl) (Sh.le rfl) rfl rfl ?_
        rintro _ _ ⟨rfl, rfl⟩
        refine Sh.lcmpT at_124 at_125 (pc' := 130) rfl (by decide) rfl ?_
        refine Sh.aload at_130 rfl rfl ?_
        refine Sh.callV hw (i1 := 41) (i2 := 43) (i3 := 2) (i4 := 45) (i5 := 42) (i6 := 44) (k' := 5) (n' := 20) (B' := b7) (R' := R7) rfl rfl rfl rfl rfl rfl (by decide) rfl (poH l Z a0 n0 hw _ _ _ _ _ _ _ _ _ _ 0 0 0 _ (by decide) (by decide) (by decide) (Sh.le rfl) rfl rfl (rv2 l Z a0 n0 hw _ _ _ _ _ _ _ _ _ _ _ 0 1 (by decide) (by decide) (Sh.le rfl) (Sh.le rfl) (Sh.le rfl) rfl rfl (Sh.ls_0) (Sh.ls_0) (Sh.ls_1) (Sh.ls_0) (Sh.ls_1)) (Sh.ls_0)) at_132 rfl rfl pd7 rfl (Sh.le rfl) (Sh.le rfl) (Sh.le rfl) (Sh.le rfl) rfl rfl ?_
        rintro _ _ ⟨rfl, rfl⟩
        refine Sh.istore at_135 (Sh.s1_12 rfl rfl) ?_
        refine Sh.aload at_137 rfl rfl ?_
        refine Sh.callV hw (i1 := 41) (i2 := 43) (i3 := 2) (i4 := 45) (i5 := 42) (i6 := 44) (k' := 5) (n' := 20) (B' := b7) (R' := R7) rfl rfl rfl rfl rfl rfl (by decide) rfl (poH l Z a0 n0 hw _ _ _ _ _ _ _ _ _ _ 0 0 1 _ (by decide) (by decide) (by decide) (Sh.le rfl) rfl rfl (rv1 l Z a0 n0 hw _ _ _ _ _ _ _ _ 1 (by decide) (Sh.le rfl) rfl (Sh.ls_1)) (Sh.ls_1)) at_139 rfl rfl pd7 rfl (Sh.le rfl) (Sh.le rfl) (Sh.le rfl) (Sh.le rfl) rfl rfl ?_
        rintro _ _ ⟨rfl, rfl⟩
        refine Sh.istore at_142 (Sh.s1_13 rfl rfl) ?_
        refine Sh.lload at_144 rfl ?_
        refine Sh.lload at_146 rfl ?_
        refine Sh.lcmpF at_148 at_149 (fun z => z hl) ?_
        refine Sh.iload at_152 rfl ?_
        refine Sh.goto at_154 (pc' := 159) rfl (by decide) ?_
        refine Sh.istore at_159 (Sh.s1_14 rfl rfl) ?_
        refine Sh.lload at_161 rfl ?_
        refine Sh.lload at_163 rfl ?_
        refine Sh.lcmpF at_165 at_166 (fun z => z hl) ?_
        refine Sh.iload at_169 rfl ?_
        refine Sh.goto at_171 (pc' := 176) rfl (by decide) ?_
        refine Sh.istore at_176 (Sh.s1_15 rfl rfl) ?_
        refine Sh.iload at_178 rfl ?_
        refine Sh.iload at_180 rfl ?_
        refine Sh.icmpF at_182 (fun z => z rfl) ?_
        refine Sh.iload at_185 rfl ?_
        refine Sh.iload at_187 rfl ?_
        refine Sh.icmpF at_189 (fun z => z rfl) ?_
        refine Sh.aload at_192 rfl rfl ?_
        refine Sh.callV hw (i1 := 67) (i2 := 69) (i3 := 2) (i4 := 71) (i5 := 68) (i6 := 70) (k' := 5) (n' := 20) (B' := b12) (R' := R12) rfl rfl rfl rfl rfl rfl (by decide) rfl (em l Z a0 n0 hw _ _ _ _ _ _) at_194 rfl rfl pd12 rfl (Sh.le rfl) (Sh.le rfl) (Sh.le rfl) (Sh.le rfl) rfl rfl ?_
        rintro _ _ ⟨rfl, rfl⟩
        refine Sh.ifF at_197 (by decide) ?_
        refine Sh.iconst at_200 (x := 1) rfl ?_
        refine Sh.goto at_201 (pc' := 205) rfl (by decide) ?_
        refine Sh.retN at_205 rfl (by simp) rfl (Sh.le rfl) (Sh.le rfl) ?_
        rfl
      · skip
        refine Sh.aload at_94 rfl rfl ?_
        refine Sh.iload at_96 rfl ?_
        refine Sh.lload at_98 rfl ?_
        refine Sh.callV hw (i1 := 26) (i2 := 28) (i3 := 2) (i4 := 30) (i5 := 27) (i6 := 29) (k' := 5) (n' := 20) (B' := b4) (R' := R4) rfl rfl rfl rfl rfl rfl (by decide) rfl (ofH l Z a0 n0 hw _ c _ _ _ _ _ _ _ 0 1 _ (by decide) (by decide) rfl (Sh.le rfl) hc (Sh.ls_1) (su0 l Z a0 n0 hw _ _ _ _ _ _ _ _ _ _ 1 (Sh.le rfl) (Sh.le rfl) (by decide) (Sh.ls_0) (Sh.ls_1))) at_100 rfl rfl pd4 rfl (Sh.le rfl) (Sh.le rfl) (Sh.le rfl) (Sh.le rfl) rfl rfl ?_
        rintro _ _ ⟨rfl, rfl⟩
        refine Sh.aload at_103 rfl rfl ?_
        refine Sh.iload at_105 rfl ?_
        refine Sh.lload at_107 rfl ?_
        refine Sh.callV hw (i1 := 26) (i2 := 28) (i3 := 2) (i4 := 30) (i5 := 27) (i6 := 29) (k' := 5) (n' := 20) (B' := b4) (R' := R4) rfl rfl rfl rfl rfl rfl (by decide) rfl (ofH l Z a0 n0 hw _ d _ _ _ _ _ _ _ 1 0 _ (by decide) (by decide) rfl (Sh.le rfl) hd (Sh.ls_0) (su1n l Z a0 n0 hw _ _ _ _ _ _ _ _ _ _ 0 (Sh.le rfl) (Sh.le rfl) (by decide) (Sh.ls_1) (Sh.ls_0) 1 (by decide) _ _ rfl rfl rfl hl)) at_109 rfl rfl pd4 rfl (Sh.le rfl) (Sh.le rfl) (Sh.le rfl) (Sh.le rfl) rfl rfl ?_
        rintro _ _ ⟨rfl, rfl⟩
        refine Sh.aload at_112 rfl rfl ?_
        refine Sh.callV hw (i1 := 72) (i2 := 74) (i3 := 2) (i4 := 76) (i5 := 73) (i6 := 75) (k' := 5) (n' := 20) (B' := b13) (R' := R13) rfl rfl rfl rfl rfl rfl (by decide) rfl (pkH l Z a0 n0 hw _ _ _ _ _ _ _ _ (by decide) 1 (by decide) _ rfl rfl) at_114 rfl rfl pd13 rfl (Sh.le rfl) (Sh.le rfl) (Sh.le rfl) (Sh.le rfl) rfl rfl ?_
        rintro _ _ ⟨rfl, rfl⟩
        refine Sh.lload at_117 rfl ?_
        refine Sh.lload at_119 rfl ?_
        refine Sh.callS hw (i1 := 58) (i2 := 59) (i3 := 60) (i4 := 61) (k' := 5) (n' := 20) (B' := b10) (R' := R10) rfl rfl rfl rfl (by decide) (mmin l Z a0 n0 hw c d c _ (if_neg hl)) at_121 rfl rfl pd10 rfl (Sh.le rfl) (Sh.le rfl) (Sh.le rfl) (Sh.le rfl) rfl rfl ?_
        rintro _ _ ⟨rfl, rfl⟩
        refine Sh.lcmpT at_124 at_125 (pc' := 130) rfl (by decide) rfl ?_
        refine Sh.aload at_130 rfl rfl ?_
        refine Sh.callV hw (i1 := 41) (i2 := 43) (i3 := 2) (i4 := 45) (i5 := 42) (i6 := 44) (k' := 5) (n' := 20) (B' := b7) (R' := R7) rfl rfl rfl rfl rfl rfl (by decide) rfl (poH l Z a0 n0 hw _ _ _ _ _ _ _ _ _ _ 0 0 1 _ (by decide) (by decide) (by decide) (Sh.le rfl) rfl rfl (rv2 l Z a0 n0 hw _ _ _ _ _ _ _ _ _ _ _ 1 0 (by decide) (by decide) (Sh.le rfl) (Sh.le rfl) (Sh.le rfl) rfl rfl (Sh.ls_1) (Sh.ls_0) (Sh.ls_0) (Sh.ls_0) (Sh.ls_0)) (Sh.ls_1)) at_132 rfl rfl pd7 rfl (Sh.le rfl) (Sh.le rfl) (Sh.le rfl) (Sh.le rfl) rfl rfl ?_
        rintro _ _ ⟨rfl, rfl⟩
        refine Sh.istore at_135 (Sh.s1_12 rfl rfl) ?_
        refine Sh.aload at_137 rfl rfl ?_
        refine Sh.callV hw (i1 := 41) (i2 := 43) (i3 := 2) (i4 := 45) (i5 := 42) (i6 := 44) (k' := 5) (n' := 20) (B' := b7) (R' := R7) rfl rfl rfl rfl rfl rfl (by decide) rfl (poH l Z a0 n0 hw _ _ _ _ _ _ _ _ _ _ 0 0 0 _ (by decide) (by decide) (by decide) (Sh.le rfl) rfl rfl (rv1 l Z a0 n0 hw _ _ _ _ _ _ _ _ 0 (by decide) (Sh.le rfl) rfl (Sh.ls_0)) (Sh.ls_0)) at_139 rfl rfl pd7 rfl (Sh.le rfl) (Sh.le rfl) (Sh.le rfl) (Sh.le rfl) rfl rfl ?_
        rintro _ _ ⟨rfl, rfl⟩
        refine Sh.istore at_142 (Sh.s1_13 rfl rfl) ?_
        refine Sh.lload at_144 rfl ?_
        refine Sh.lload at_146 rfl ?_
        refine Sh.lcmpT at_148 at_149 (pc' := 157) rfl (by decide) hl ?_
        refine Sh.iload at_157 rfl ?_
        refine Sh.istore at_159 (Sh.s1_14 rfl rfl) ?_
        refine Sh.lload at_161 rfl ?_
        refine Sh.lload at_163 rfl ?_
        refine Sh.lcmpT at_165 at_166 (pc' := 174) rfl (by decide) hl ?_
        refine Sh.iload at_174 rfl ?_
        refine Sh.istore at_176 (Sh.s1_15 rfl rfl) ?_
        refine Sh.iload at_178 rfl ?_
        refine Sh.iload at_180 rfl ?_
        refine Sh.icmpF at_182 (fun z => z rfl) ?_
        refine Sh.iload at_185 rfl ?_
        refine Sh.iload at_187 rfl ?_
        refine Sh.icmpF at_189 (fun z => z rfl) ?_
        refine Sh.aload at_192 rfl rfl ?_
        refine Sh.callV hw (i1 := 67) (i2 := 69) (i3 := 2) (i4 := 71) (i5 := 68) (i6 := 70) (k' := 5) (n' := 20) (B' := b12) (R' := R12) rfl rfl rfl rfl rfl rfl (by decide) rfl (em l Z a0 n0 hw _ _ _ _ _ _) at_194 rfl rfl pd12 rfl (Sh.le rfl) (Sh.le rfl) (Sh.le rfl) (Sh.le rfl) rfl rfl ?_
        rintro _ _ ⟨rfl, rfl⟩
        refine Sh.ifF at_197 (by decide) ?_
        refine Sh.iconst at_200 (x := 1) rfl ?_
        refine Sh.goto at_201 (pc' := 205) rfl (by decide) ?_
        refine Sh.retN at_205 rfl (by simp) rfl (Sh.le rfl) (Sh.le rfl) ?_
        rfl
theorem two20 (hw : HW Z a0) (a b c d : Int64) (f : Int32) (p0 p1 p2 y0 y1 y2 r0 r1 r2 : Value) :
    Sh.WP l Z a0 n0 b0 room_1 5 20 94 [.val (.long a), .second, .val (.long b), .second, .val (.long c), .second, .val (.long d), .second, .val (.int f), .val (.ref 0), .val (.int (Int32.ofNat 2)), .val (.int (Int32.ofNat 0)), .unset, .unset, .unset, .unset] [] (own_H (-9223372036854775808) [p0, p1, p2] [.int (-1), .int (-1), .int (-1)] [y0, y1, y2] [r0, r1, r2] 0 0 0) (fun v _ => v = some (.int 1)) := by
  by_cases hc : c = (-9223372036854775808)
  · subst hc
    by_cases hd : d = (-9223372036854775808)
    · subst hd
      refine Sh.aload at_94 rfl rfl ?_
      refine Sh.iload at_96 rfl ?_
      refine Sh.lload at_98 rfl ?_
      refine Sh.callV hw (i1 := 26) (i2 := 28) (i3 := 2) (i4 := 30) (i5 := 27) (i6 := 29) (k' := 5) (n' := 20) (B' := b4) (R' := R4) rfl rfl rfl rfl rfl rfl (by decide) rfl (ofL l Z a0 n0 hw _ (-9223372036854775808) _ _ _ _ _ _ _ _ _ 0 2 (by decide) (by decide) rfl (Sh.le rfl) (Sh.le rfl) (Sh.le rfl) rfl (Sh.ls_2) (Sh.ls_2) (Sh.ls_0)) at_100 rfl rfl pd4 rfl (Sh.le rfl) (Sh.le rfl) (Sh.le rfl) (Sh.le rfl) rfl rfl ?_
      rintro _ _ ⟨rfl, rfl⟩
      refine Sh.aload at_103 rfl rfl ?_
      refine Sh.iload at_105 rfl ?_
      refine Sh.lload at_107 rfl ?_
      refine Sh.callV hw (i1 := 26) (i2 := 28) (i3 := 2) (i4 := 30) (i5 := 27) (i6 := 29) (k' := 5) (n' := 20) (B' := b4) (R' := R4) rfl rfl rfl rfl rfl rfl (by decide) rfl (ofL l Z a0 n0 hw _ (-9223372036854775808) _ _ _ _ _ _ _ _ _ 1 0 (by decide) (by decide) rfl (Sh.le rfl) (Sh.le rfl) (Sh.le rfl) rfl (Sh.ls_0) (Sh.ls_0) (Sh.ls_1)) at_109 rfl rfl pd4 rfl (Sh.le rfl) (Sh.le rfl) (Sh.le rfl) (Sh.le rfl) rfl rfl ?_
      rintro _ _ ⟨rfl, rfl⟩
      refine Sh.aload at_112 rfl rfl ?_
      refine Sh.callV hw (i1 := 72) (i2 := 74) (i3 := 2) (i4 := 76) (i5 := 73) (i6 := 75) (k' := 5) (n' := 20) (B' := b13) (R' := R13) rfl rfl rfl rfl rfl rfl (by decide) rfl (pkL l Z a0 n0 hw _ _ _ _ _ _ _ _ (by decide)) at_114 rfl rfl pd13 rfl (Sh.le rfl) (Sh.le rfl) (Sh.le rfl) (Sh.le rfl) rfl rfl ?_
      rintro _ _ ⟨rfl, rfl⟩
      refine Sh.lload at_117 rfl ?_
      refine Sh.lload at_119 rfl ?_
      refine Sh.callS hw (i1 := 58) (i2 := 59) (i3 := 60) (i4 := 61) (k' := 5) (n' := 20) (B' := b10) (R' := R10) rfl rfl rfl rfl (by decide) (mmin l Z a0 n0 hw (-9223372036854775808) (-9223372036854775808) (-9223372036854775808) _ (by decide)) at_121 rfl rfl pd10 rfl (Sh.le rfl) (Sh.le rfl) (Sh.le rfl) (Sh.le rfl) rfl rfl ?_
      rintro _ _ ⟨rfl, rfl⟩
      refine Sh.lcmpT at_124 at_125 (pc' := 130) rfl (by decide) rfl ?_
      refine Sh.aload at_130 rfl rfl ?_
      refine Sh.callV hw (i1 := 41) (i2 := 43) (i3 := 2) (i4 := 45) (i5 := 42) (i6 := 44) (k' := 5) (n' := 20) (B' := b7) (R' := R7) rfl rfl rfl rfl rfl rfl (by decide) rfl (poL l Z a0 n0 hw _ _ _ _ _ _ _ 0 2 2 (by decide) (by decide) (by decide) (Sh.le rfl) rfl (Sh.ls_2)) at_132 rfl rfl pd7 rfl (Sh.le rfl) (Sh.le rfl) (Sh.le rfl) (Sh.le rfl) rfl rfl ?_
      rintro _ _ ⟨rfl, rfl⟩
      refine Sh.istore at_135 (Sh.s1_12 rfl rfl) ?_
      refine Sh.aload at_137 rfl rfl ?_
      refine Sh.callV hw (i1 := 41) (i2 := 43) (i3 := 2) (i4 := 45) (i5 := 42) (i6 := 44) (k' := 5) (n' := 20) (B' := b7) (R' := R7) rfl rfl rfl rfl rfl rfl (by decide) rfl (poL l Z a0 n0 hw _ _ _ _ _ _ _ 1 2 0 (by decide) (by decide) (by decide) (Sh.le rfl) rfl (Sh.ls_0)) at_139 rfl rfl pd7 rfl (Sh.le rfl) (Sh.le rfl) (Sh.le rfl) (Sh.le rfl) rfl rfl ?_
      rintro _ _ ⟨rfl, rfl⟩
      refine Sh.istore at_142 (Sh.s1_13 rfl rfl) ?_
      refine Sh.lload at_144 rfl ?_
      refine Sh.lload at_146 rfl ?_
      refine Sh.lcmpT at_148 at_149 (pc' := 157) rfl (by decide) (by decide) ?_
      refine Sh.iload at_157 rfl ?_
      refine Sh.istore at_159 (Sh.s1_14 rfl rfl) ?_
      refine Sh.lload at_161 rfl ?_
      refine Sh.lload at_163 rfl ?_
      refine Sh.lcmpT at_165 at_166 (pc' := 174) rfl (by decide) (by decide) ?_
      refine Sh.iload at_174 rfl ?_
      refine Sh.istore at_176 (Sh.s1_15 rfl rfl) ?_
      refine Sh.iload at_178 rfl ?_
      refine Sh.iload at_180 rfl ?_
      refine Sh.icmpF at_182 (fun z => z rfl) ?_
      refine Sh.iload at_185 rfl ?_
      refine Sh.iload at_187 rfl ?_
      refine Sh.icmpF at_189 (fun z => z rfl) ?_
      refine Sh.aload at_192 rfl rfl ?_
      refine Sh.callV hw (i1 := 67) (i2 := 69) (i3 := 2) (i4 := 71) (i5 := 68) (i6 := 70) (k' := 5) (n' := 20) (B' := b12) (R' := R12) rfl rfl rfl rfl rfl rfl (by decide) rfl (em l Z a0 n0 hw _ _ _ _ _ _) at_194 rfl rfl pd12 rfl (Sh.le rfl) (Sh.le rfl) (Sh.le rfl) (Sh.le rfl) rfl rfl ?_
      rintro _ _ ⟨rfl, rfl⟩
      refine Sh.ifF at_197 (by decide) ?_
      refine Sh.iconst at_200 (x := 1) rfl ?_
      refine Sh.goto at_201 (pc' := 205) rfl (by decide) ?_
      refine Sh.retN at_205 rfl (by simp) rfl (Sh.le rfl) (Sh.le rfl) ?_
      rfl
    · skip
      refine Sh.aload at_94 rfl rfl ?_
      refine Sh.iload at_96 rfl ?_
      refine Sh.lload at_98 rfl ?_
      refine Sh.callV hw (i1 := 26) (i2 := 28) (i3 := 2) (i4 := 30) (i5 := 27) (i6 := 29) (k' := 5) (n' := 20) (B' := b4) (R' := R4) rfl rfl rfl rfl rfl rfl (by decide) rfl (ofL l Z a0 n0 hw _ (-9223372036854775808) _ _ _ _ _ _ _ _ _ 0 2 (by decide) (by decide) rfl (Sh.le rfl) (Sh.le rfl) (Sh.le rfl) rfl (Sh.ls_2) (Sh.ls_2) (Sh.ls_0)) at_100 rfl rfl pd4 rfl (Sh.le rfl) (Sh.le rfl) (Sh.le rfl) (Sh.le rfl) rfl rfl ?_
      rintro _ _ ⟨rfl, rfl⟩
      refine Sh.aload at_103 rfl rfl ?_
      refine Sh.iload at_105 rfl ?_
      refine Sh.lload at_107 rfl ?_
      refine Sh.callV hw (i1 := 26) (i2 := 28) (i3 := 2) (i4 := 30) (i5 := 27) (i6 := 29) (k' := 5) (n' := 20) (B' := b4) (R' := R4) rfl rfl rfl rfl rfl rfl (by decide) rfl (ofH l Z a0 n0 hw _ d _ _ _ _ _ _ _ 0 0 _ (by decide) (by decide) rfl (Sh.le rfl) hd (Sh.ls_0) (su0 l Z a0 n0 hw _ _ _ _ _ _ _ _ _ _ 0 (Sh.le rfl) (Sh.le rfl) (by decide) (Sh.ls_0) (Sh.ls_0))) at_109 rfl rfl pd4 rfl (Sh.le rfl) (Sh.le rfl) (Sh.le rfl) (Sh.le rfl) rfl rfl ?_
      rintro _ _ ⟨rfl, rfl⟩
      refine Sh.aload at_112 rfl rfl ?_
      refine Sh.callV hw (i1 := 72) (i2 := 74) (i3 := 2) (i4 := 76) (i5 := 73) (i6 := 75) (k' := 5) (n' := 20) (B' := b13) (R' := R13) rfl rfl rfl rfl rfl rfl (by decide) rfl (pkL l Z a0 n0 hw _ _ _ _ _ _ _ _ (by decide)) at_114 rfl rfl pd13 rfl (Sh.le rfl) (Sh.le rfl) (Sh.le rfl) (Sh.le rfl) rfl rfl ?_
      rintro _ _ ⟨rfl, rfl⟩
      refine Sh.lload at_117 rfl ?_
      refine Sh.lload at_119 rfl ?_
      refine Sh.callS hw (i1 := 58) (i2 := 59) (i3 := 60) (i4 := 61) (k' := 5) (n' := 20) (B' := b10) (R' := R10) rfl rfl rfl rfl (by decide) (mmin l Z a0 n0 hw (-9223372036854775808) d (-9223372036854775808) _ (if_neg (own_nlt d))) at_121 rfl rfl pd10 rfl (Sh.le rfl) (Sh.le rfl) (Sh.le rfl) (Sh.le rfl) rfl rfl ?_
      rintro _ _ ⟨rfl, rfl⟩
      refine Sh.lcmpT at_124 at_125 (pc' := 130) rfl (by decide) rfl ?_
      refine Sh.aload at_130 rfl rfl ?_
      refine Sh.callV hw (i1 := 41) (i2 := 43) (i3 := 2) (i4 := 45) (i5 := 42) (i6 := 44) (k' := 5) (n' := 20) (B' := b7) (R' := R7) rfl rfl rfl rfl rfl rfl (by decide) rfl (poL l Z a0 n0 hw _ _ _ _ _ _ _ 0 1 2 (by decide) (by decide) (by decide) (Sh.le rfl) rfl (Sh.ls_2)) at_132 rfl rfl pd7 rfl (Sh.le rfl) (Sh.le rfl) (Sh.le rfl) (Sh.le rfl) rfl rfl ?_
      rintro _ _ ⟨rfl, rfl⟩
      refine Sh.istore at_135 (Sh.s1_12 rfl rfl) ?_
      refine Sh.aload at_137 rfl rfl ?_
      refine Sh.callV hw (i1 := 41) (i2 := 43) (i3 := 2) (i4 := 45) (i5 := 42) (i6 := 44) (k' := 5) (n' := 20) (B' := b7) (R' := R7) rfl rfl rfl rfl rfl rfl (by decide) rfl (poH l Z a0 n0 hw _ _ _ _ _ _ _ _ _ _ 1 1 0 _ (by decide) (by decide) (by decide) (Sh.le rfl) rfl rfl (rv1 l Z a0 n0 hw _ _ _ _ _ _ _ _ 0 (by decide) (Sh.le rfl) rfl (Sh.ls_0)) (Sh.ls_0)) at_139 rfl rfl pd7 rfl (Sh.le rfl) (Sh.le rfl) (Sh.le rfl) (Sh.le rfl) rfl rfl ?_
      rintro _ _ ⟨rfl, rfl⟩
      refine Sh.istore at_142 (Sh.s1_13 rfl rfl) ?_
      refine Sh.lload at_144 rfl ?_
      refine Sh.lload at_146 rfl ?_
      refine Sh.lcmpT at_148 at_149 (pc' := 157) rfl (by decide) (own_nlt d) ?_
      refine Sh.iload at_157 rfl ?_
      refine Sh.istore at_159 (Sh.s1_14 rfl rfl) ?_
      refine Sh.lload at_161 rfl ?_
      refine Sh.lload at_163 rfl ?_
      refine Sh.lcmpT at_165 at_166 (pc' := 174) rfl (by decide) (own_nlt d) ?_
      refine Sh.iload at_174 rfl ?_
      refine Sh.istore at_176 (Sh.s1_15 rfl rfl) ?_
      refine Sh.iload at_178 rfl ?_
      refine Sh.iload at_180 rfl ?_
      refine Sh.icmpF at_182 (fun z => z rfl) ?_
      refine Sh.iload at_185 rfl ?_
      refine Sh.iload at_187 rfl ?_
      refine Sh.icmpF at_189 (fun z => z rfl) ?_
      refine Sh.aload at_192 rfl rfl ?_
      refine Sh.callV hw (i1 := 67) (i2 := 69) (i3 := 2) (i4 := 71) (i5 := 68) (i6 := 70) (k' := 5) (n' := 20) (B' := b12) (R' := R12) rfl rfl rfl rfl rfl rfl (by decide) rfl (em l Z a0 n0 hw _ _ _ _ _ _) at_194 rfl rfl pd12 rfl (Sh.le rfl) (Sh.le rfl) (Sh.le rfl) (Sh.le rfl) rfl rfl ?_
      rintro _ _ ⟨rfl, rfl⟩
      refine Sh.ifF at_197 (by decide) ?_
      refine Sh.iconst at_200 (x := 1) rfl ?_
      refine Sh.goto at_201 (pc' := 205) rfl (by decide) ?_
      refine Sh.retN at_205 rfl (by simp) rfl (Sh.le rfl) (Sh.le rfl) ?_
      rfl
  · by_cases hd : d = (-9223372036854775808)
    · subst hd
      refine Sh.aload at_94 rfl rfl ?_
      refine Sh.iload at_96 rfl ?_
      refine Sh.lload at_98 rfl ?_
      refine Sh.callV hw (i1 := 26) (i2 := 28) (i3 := 2) (i4 := 30) (i5 := 27) (i6 := 29) (k' := 5) (n' := 20) (B' := b4) (R' := R4) rfl rfl rfl rfl rfl rfl (by decide) rfl (ofH l Z a0 n0 hw _ c _ _ _ _ _ _ _ 0 2 _ (by decide) (by decide) rfl (Sh.le rfl) hc (Sh.ls_2) (su0 l Z a0 n0 hw _ _ _ _ _ _ _ _ _ _ 2 (Sh.le rfl) (Sh.le rfl) (by decide) (Sh.ls_0) (Sh.ls_2))) at_100 rfl rfl pd4 rfl (Sh.le rfl) (Sh.le rfl) (Sh.le rfl) (Sh.le rfl) rfl rfl ?_
      rintro _ _ ⟨rfl, rfl⟩
      refine Sh.aload at_103 rfl rfl ?_
      refine Sh.iload at_105 rfl ?_
      refine Sh.lload at_107 rfl ?_
      refine Sh.callV hw (i1 := 26) (i2 := 28) (i3 := 2) (i4 := 30) (i5 := 27) (i6 := 29) (k' := 5) (n' := 20) (B' := b4) (R' := R4) rfl rfl rfl rfl rfl rfl (by decide) rfl (ofL l Z a0 n0 hw _ (-9223372036854775808) _ _ _ _ _ _ _ _ _ 0 0 (by decide) (by decide) rfl (Sh.le rfl) (Sh.le rfl) (Sh.le rfl) rfl (Sh.ls_0) (Sh.ls_0) (Sh.ls_0)) at_109 rfl rfl pd4 rfl (Sh.le rfl) (Sh.le rfl) (Sh.le rfl) (Sh.le rfl) rfl rfl ?_
      rintro _ _ ⟨rfl, rfl⟩
      refine Sh.aload at_112 rfl rfl ?_
      refine Sh.callV hw (i1 := 72) (i2 := 74) (i3 := 2) (i4 := 76) (i5 := 73) (i6 := 75) (k' := 5) (n' := 20) (B' := b13) (R' := R13) rfl rfl rfl rfl rfl rfl (by decide) rfl (pkL l Z a0 n0 hw _ _ _ _ _ _ _ _ (by decide)) at_114 rfl rfl pd13 rfl (Sh.le rfl) (Sh.le rfl) (Sh.le rfl) (Sh.le rfl) rfl rfl ?_
      rintro _ _ ⟨rfl, rfl⟩
      refine Sh.lload at_117 rfl ?_
      refine Sh.lload at_119 rfl ?_
      refine Sh.callS hw (i1 := 58) (i2 := 59) (i3 := 60) (i4 := 61) (k' := 5) (n' := 20) (B' := b10) (R' := R10) rfl rfl rfl rfl (by decide) (mmin l Z a0 n0 hw c (-9223372036854775808) (-9223372036854775808) _ (if_pos (own_lt c hc))) at_121 rfl rfl pd10 rfl (Sh.le rfl) (Sh.le rfl) (Sh.le rfl) (Sh.le rfl) rfl rfl ?_
      rintro _ _ ⟨rfl, rfl⟩
      refine Sh.lcmpT at_124 at_125 (pc' := 130) rfl (by decide) rfl ?_
      refine Sh.aload at_130 rfl rfl ?_
      refine Sh.callV hw (i1 := 41) (i2 := 43) (i3 := 2) (i4 := 45) (i5 := 42) (i6 := 44) (k' := 5) (n' := 20) (B' := b7) (R' := R7) rfl rfl rfl rfl rfl rfl (by decide) rfl (poL l Z a0 n0 hw _ _ _ _ _ _ _ 0 1 0 (by decide) (by decide) (by decide) (Sh.le rfl) rfl (Sh.ls_0)) at_132 rfl rfl pd7 rfl (Sh.le rfl) (Sh.le rfl) (Sh.le rfl) (Sh.le rfl) rfl rfl ?_
      rintro _ _ ⟨rfl, rfl⟩
      refine Sh.istore at_135 (Sh.s1_12 rfl rfl) ?_
      refine Sh.aload at_137 rfl rfl ?_
      refine Sh.callV hw (i1 := 41) (i2 := 43) (i3 := 2) (i4 := 45) (i5 := 42) (i6 := 44) (k' := 5) (n' := 20) (B' := b7) (R' := R7) rfl rfl rfl rfl rfl rfl (by decide) rfl (poH l Z a0 n0 hw _ _ _ _ _ _ _ _ _ _ 1 1 2 _ (by decide) (by decide) (by decide) (Sh.le rfl) rfl rfl (rv1 l Z a0 n0 hw _ _ _ _ _ _ _ _ 2 (by decide) (Sh.le rfl) rfl (Sh.ls_2)) (Sh.ls_2)) at_139 rfl rfl pd7 rfl (Sh.le rfl) (Sh.le rfl) (Sh.le rfl) (Sh.le rfl) rfl rfl ?_
      rintro _ _ ⟨rfl, rfl⟩
      refine Sh.istore at_142 (Sh.s1_13 rfl rfl) ?_
      refine Sh.lload at_144 rfl ?_
      refine Sh.lload at_146 rfl ?_
      refine Sh.lcmpF at_148 at_149 (fun z => z (own_lt c hc)) ?_
      refine Sh.iload at_152 rfl ?_
      refine Sh.goto at_154 (pc' := 159) rfl (by decide) ?_
      refine Sh.istore at_159 (Sh.s1_14 rfl rfl) ?_
      refine Sh.lload at_161 rfl ?_
      refine Sh.lload at_163 rfl ?_
      refine Sh.lcmpF at_165 at_166 (fun z => z (own_lt c hc)) ?_
      refine Sh.iload at_169 rfl ?_
      refine Sh.goto at_171 (pc' := 176) rfl (by decide) ?_
      refine Sh.istore at_176 (Sh.s1_15 rfl rfl) ?_
      refine Sh.iload at_178 rfl ?_
      refine Sh.iload at_180 rfl ?_
      refine Sh.icmpF at_182 (fun z => z rfl) ?_
      refine Sh.iload at_185 rfl ?_
      refine Sh.iload at_187 rfl ?_
      refine Sh.icmpF at_189 (fun z => z rfl) ?_
      refine Sh.aload at_192 rfl rfl ?_
      refine Sh.callV hw (i1 := 67) (i2 := 69) (i3 := 2) (i4 := 71) (i5 := 68) (i6 := 70) (k' := 5) (n' := 20) (B' := b12) (R' := R12) rfl rfl rfl rfl rfl rfl (by decide) rfl (em l Z a0 n0 hw _ _ _ _ _ _) at_194 rfl rfl pd12 rfl (Sh.le rfl) (Sh.le rfl) (Sh.le rfl) (Sh.le rfl) rfl rfl ?_
      rintro _ _ ⟨rfl, rfl⟩
      refine Sh.ifF at_197 (by decide) ?_
      refine Sh.iconst at_200 (x := 1) rfl ?_
      refine Sh.goto at_201 (pc' := 205) rfl (by decide) ?_
      refine Sh.retN at_205 rfl (by simp) rfl (Sh.le rfl) (Sh.le rfl) ?_
      rfl
    · by_cases hl : d < c
      · skip
        refine Sh.aload at_94 rfl rfl ?_
        refine Sh.iload at_96 rfl ?_
        refine Sh.lload at_98 rfl ?_
        refine Sh.callV hw (i1 := 26) (i2 := 28) (i3 := 2) (i4 := 30) (i5 := 27) (i6 := 29) (k' := 5) (n' := 20) (B' := b4) (R' := R4) rfl rfl rfl rfl rfl rfl (by decide) rfl (ofH l Z a0 n0 hw _ c _ _ _ _ _ _ _ 0 2 _ (by decide) (by decide) rfl (Sh.le rfl) hc (Sh.ls_2) (su0 l Z a0 n0 hw _ _ _ _ _ _ _ _ _ _ 2 (Sh.le rfl) (Sh.le rfl) (by decide) (Sh.ls_0) (Sh.ls_2))) at_100 rfl rfl pd4 rfl (Sh.le rfl) (Sh.le rfl) (Sh.le rfl) (Sh.le rfl) rfl rfl ?_
        rintro _ _ ⟨rfl, rfl⟩
        refine Sh.aload at_103 rfl rfl ?_
        refine Sh.iload at_105 rfl ?_
        refine Sh.lload at_107 rfl ?_
        refine Sh.callV hw (i1 := 26) (i2 := 28) (i3 := 2) (i4 := 30) (i5 := 27) (i6 := 29) (k' := 5) (n' := 20) (B' := b4) (R' := R4) rfl rfl rfl rfl rfl rfl (by decide) rfl (ofH l Z a0 n0 hw _ d _ _ _ _ _ _ _ 1 0 _ (by decide) (by decide) rfl (Sh.le rfl) hd (Sh.ls_0) (su1s l Z a0 n0 hw _ _ _ _ _ _ _ _ _ _ _ _ 0 2 (Sh.le rfl) (Sh.le rfl) (Sh.le rfl) (by decide) (by decide) (Sh.ls_1) (Sh.ls_2) (Sh.ls_0) (Sh.ls_0) _ _ rfl rfl rfl hl)) at_109 rfl rfl pd4 rfl (Sh.le rfl) (Sh.le rfl) (Sh.le rfl) (Sh.le rfl) rfl rfl ?_
        rintro _ _ ⟨rfl, rfl⟩
        refine Sh.aload at_112 rfl rfl ?_
        refine Sh.callV hw (i1 := 72) (i2 := 74) (i3 := 2) (i4 := 76) (i5 := 73) (i6 := 75) (k' := 5) (n' := 20) (B' := b13) (R' := R13) rfl rfl rfl rfl rfl rfl (by decide) rfl (pkH l Z a0 n0 hw _ _ _ _ _ _ _ _ (by decide) 0 (by decide) _ rfl rfl) at_114 rfl rfl pd13 rfl (Sh.le rfl) (Sh.le rfl) (Sh.le rfl) (Sh.le rfl) rfl rfl ?_
        rintro _ _ ⟨rfl, rfl⟩
        refine Sh.lload at_117 rfl ?_
        refine Sh.lload at_119 rfl ?_
        refine Sh.callS hw (i1 := 58) (i2 := 59) (i3 := 60) (i4 := 61) (k' := 5) (n' := 20) (B' := b10) (R' := R10) rfl rfl rfl rfl (by decide) (mmin l Z a0 n0 hw c d d _ (if_pos hl)) at_121 rfl rfl pd10 rfl (Sh.le rfl) (Sh.le rfl) (Sh.le rfl) (Sh.le rfl) rfl rfl ?_
        rintro _ _ ⟨rfl, rfl⟩
        refine Sh.lcmpT at_124 at_125 (pc' := 130) rfl (by decide) rfl ?_
        refine Sh.aload at_130 rfl rfl ?_
        refine Sh.callV hw (i1 := 41) (i2 := 43) (i3 := 2) (i4 := 45) (i5 := 42) (i6 := 44) (k' := 5) (n' := 20) (B' := b7) (R' := R7) rfl rfl rfl rfl rfl rfl (by decide) rfl (poH l Z a0 n0 hw _ _ _ _ _ _ _ _ _ _ 0 0 0 _ (by decide) (by decide) (by decide) (Sh.le rfl) rfl rfl (rv2 l Z a0 n0 hw _ _ _ _ _ _ _ _ _ _ _ 0 2 (by decide) (by decide) (Sh.le rfl) (Sh.le rfl) (Sh.le rfl) rfl rfl (Sh.ls_0) (Sh.ls_0) (Sh.ls_2) (Sh.ls_0) (Sh.ls_2)) (Sh.ls_0)) at_132 rfl rfl pd7 rfl (Sh.le rfl) (Sh.le rfl) (Sh.le rfl) (Sh.le rfl) rfl rfl ?_
        rintro _ _ ⟨rfl, rfl⟩
        refine Sh.istore at_135 (Sh.s1_12 rfl rfl) ?_
        refine Sh.aload at_137 rfl rfl ?_
        refine Sh.callV hw (i1 := 41) (i2 := 43) (i3 := 2) (i4 := 45) (i5 := 42) (i6 := 44) (k' := 5) (n' := 20) (B' := b7) (R' := R7) rfl rfl rfl rfl rfl rfl (by decide) rfl (poH l Z a0 n0 hw _ _ _ _ _ _ _ _ _ _ 0 0 2 _ (by decide) (by decide) (by decide) (Sh.le rfl) rfl rfl (rv1 l Z a0 n0 hw _ _ _ _ _ _ _ _ 2 (by decide) (Sh.le rfl) rfl (Sh.ls_2)) (Sh.ls_2)) at_139 rfl rfl pd7 rfl (Sh.le rfl) (Sh.le rfl) (Sh.le rfl) (Sh.le rfl) rfl rfl ?_
        rintro _ _ ⟨rfl, rfl⟩
        refine Sh.istore at_142 (Sh.s1_13 rfl rfl) ?_
        refine Sh.lload at_144 rfl ?_
        refine Sh.lload at_146 rfl ?_
        refine Sh.lcmpF at_148 at_149 (fun z => z hl) ?_
        refine Sh.iload at_152 rfl ?_
        refine Sh.goto at_154 (pc' := 159) rfl (by decide) ?_
        refine Sh.istore at_159 (Sh.s1_14 rfl rfl) ?_
        refine Sh.lload at_161 rfl ?_
        refine Sh.lload at_163 rfl ?_
        refine Sh.lcmpF at_165 at_166 (fun z => z hl) ?_
        refine Sh.iload at_169 rfl ?_
        refine Sh.goto at_171 (pc' := 176) rfl (by decide) ?_
        refine Sh.istore at_176 (Sh.s1_15 rfl rfl) ?_
        refine Sh.iload at_178 rfl ?_
        refine Sh.iload at_180 rfl ?_
        refine Sh.icmpF at_182 (fun z => z rfl) ?_
        refine Sh.iload at_185 rfl ?_
        refine Sh.iload at_187 rfl ?_
        refine Sh.icmpF at_189 (fun z => z rfl) ?_
        refine Sh.aload at_192 rfl rfl ?_
        refine Sh.callV hw (i1 := 67) (i2 := 69) (i3 := 2) (i4 := 71) (i5 := 68) (i6 := 70) (k' := 5) (n' := 20) (B' := b12) (R' := R12) rfl rfl rfl rfl rfl rfl (by decide) rfl (em l Z a0 n0 hw _ _ _ _ _ _) at_194 rfl rfl pd12 rfl (Sh.le rfl) (Sh.le rfl) (Sh.le rfl) (Sh.le rfl) rfl rfl ?_
        rintro _ _ ⟨rfl, rfl⟩
        refine Sh.ifF at_197 (by decide) ?_
        refine Sh.iconst at_200 (x := 1) rfl ?_
        refine Sh.goto at_201 (pc' := 205) rfl (by decide) ?_
        refine Sh.retN at_205 rfl (by simp) rfl (Sh.le rfl) (Sh.le rfl) ?_
        rfl
      · skip
        refine Sh.aload at_94 rfl rfl ?_
        refine Sh.iload at_96 rfl ?_
        refine Sh.lload at_98 rfl ?_
        refine Sh.callV hw (i1 := 26) (i2 := 28) (i3 := 2) (i4 := 30) (i5 := 27) (i6 := 29) (k' := 5) (n' := 20) (B' := b4) (R' := R4) rfl rfl rfl rfl rfl rfl (by decide) rfl (ofH l Z a0 n0 hw _ c _ _ _ _ _ _ _ 0 2 _ (by decide) (by decide) rfl (Sh.le rfl) hc (Sh.ls_2) (su0 l Z a0 n0 hw _ _ _ _ _ _ _ _ _ _ 2 (Sh.le rfl) (Sh.le rfl) (by decide) (Sh.ls_0) (Sh.ls_2))) at_100 rfl rfl pd4 rfl (Sh.le rfl) (Sh.le rfl) (Sh.le rfl) (Sh.le rfl) rfl rfl ?_
        rintro _ _ ⟨rfl, rfl⟩
        refine Sh.aload at_103 rfl rfl ?_
        refine Sh.iload at_105 rfl ?_
        refine Sh.lload at_107 rfl ?_
        refine Sh.callV hw (i1 := 26) (i2 := 28) (i3 := 2) (i4 := 30) (i5 := 27) (i6 := 29) (k' := 5) (n' := 20) (B' := b4) (R' := R4) rfl rfl rfl rfl rfl rfl (by decide) rfl (ofH l Z a0 n0 hw _ d _ _ _ _ _ _ _ 1 0 _ (by decide) (by decide) rfl (Sh.le rfl) hd (Sh.ls_0) (su1n l Z a0 n0 hw _ _ _ _ _ _ _ _ _ _ 0 (Sh.le rfl) (Sh.le rfl) (by decide) (Sh.ls_1) (Sh.ls_0) 2 (by decide) _ _ rfl rfl rfl hl)) at_109 rfl rfl pd4 rfl (Sh.le rfl) (Sh.le rfl) (Sh.le rfl) (Sh.le rfl) rfl rfl ?_
        rintro _ _ ⟨rfl, rfl⟩
        refine Sh.aload at_112 rfl rfl ?_
        refine Sh.callV hw (i1 := 72) (i2 := 74) (i3 := 2) (i4 := 76) (i5 := 73) (i6 := 75) (k' := 5) (n' := 20) (B' := b13) (R' := R13) rfl rfl rfl rfl rfl rfl (by decide) rfl (pkH l Z a0 n0 hw _ _ _ _ _ _ _ _ (by decide) 2 (by decide) _ rfl rfl) at_114 rfl rfl pd13 rfl (Sh.le rfl) (Sh.le rfl) (Sh.le rfl) (Sh.le rfl) rfl rfl ?_
        rintro _ _ ⟨rfl, rfl⟩
        refine Sh.lload at_117 rfl ?_
        refine Sh.lload at_119 rfl ?_
        refine Sh.callS hw (i1 := 58) (i2 := 59) (i3 := 60) (i4 := 61) (k' := 5) (n' := 20) (B' := b10) (R' := R10) rfl rfl rfl rfl (by decide) (mmin l Z a0 n0 hw c d c _ (if_neg hl)) at_121 rfl rfl pd10 rfl (Sh.le rfl) (Sh.le rfl) (Sh.le rfl) (Sh.le rfl) rfl rfl ?_
        rintro _ _ ⟨rfl, rfl⟩
        refine Sh.lcmpT at_124 at_125 (pc' := 130) rfl (by decide) rfl ?_
        refine Sh.aload at_130 rfl rfl ?_
        refine Sh.callV hw (i1 := 41) (i2 := 43) (i3 := 2) (i4 := 45) (i5 := 42) (i6 := 44) (k' := 5) (n' := 20) (B' := b7) (R' := R7) rfl rfl rfl rfl rfl rfl (by decide) rfl (poH l Z a0 n0 hw _ _ _ _ _ _ _ _ _ _ 0 0 2 _ (by decide) (by decide) (by decide) (Sh.le rfl) rfl rfl (rv2 l Z a0 n0 hw _ _ _ _ _ _ _ _ _ _ _ 2 0 (by decide) (by decide) (Sh.le rfl) (Sh.le rfl) (Sh.le rfl) rfl rfl (Sh.ls_2) (Sh.ls_0) (Sh.ls_0) (Sh.ls_0) (Sh.ls_0)) (Sh.ls_2)) at_132 rfl rfl pd7 rfl (Sh.le rfl) (Sh.le rfl) (Sh.le rfl) (Sh.le rfl) rfl rfl ?_
        rintro _ _ ⟨rfl, rfl⟩
        refine Sh.istore at_135 (Sh.s1_12 rfl rfl) ?_
        refine Sh.aload at_137 rfl rfl ?_
        refine Sh.callV hw (i1 := 41) (i2 := 43) (i3 := 2) (i4 := 45) (i5 := 42) (i6 := 44) (k' := 5) (n' := 20) (B' := b7) (R' := R7) rfl rfl rfl rfl rfl rfl (by decide) rfl (poH l Z a0 n0 hw _ _ _ _ _ _ _ _ _ _ 0 0 0 _ (by decide) (by decide) (by decide) (Sh.le rfl) rfl rfl (rv1 l Z a0 n0 hw _ _ _ _ _ _ _ _ 0 (by decide) (Sh.le rfl) rfl (Sh.ls_0)) (Sh.ls_0)) at_139 rfl rfl pd7 rfl (Sh.le rfl) (Sh.le rfl) (Sh.le rfl) (Sh.le rfl) rfl rfl ?_
        rintro _ _ ⟨rfl, rfl⟩
        refine Sh.istore at_142 (Sh.s1_13 rfl rfl) ?_
        refine Sh.lload at_144 rfl ?_
        refine Sh.lload at_146 rfl ?_
        refine Sh.lcmpT at_148 at_149 (pc' := 157) rfl (by decide) hl ?_
        refine Sh.iload at_157 rfl ?_
        refine Sh.istore at_159 (Sh.s1_14 rfl rfl) ?_
        refine Sh.lload at_161 rfl ?_
        refine Sh.lload at_163 rfl ?_
        refine Sh.lcmpT at_165 at_166 (pc' := 174) rfl (by decide) hl ?_
        refine Sh.iload at_174 rfl ?_
        refine Sh.istore at_176 (Sh.s1_15 rfl rfl) ?_
        refine Sh.iload at_178 rfl ?_
        refine Sh.iload at_180 rfl ?_
        refine Sh.icmpF at_182 (fun z => z rfl) ?_
        refine Sh.iload at_185 rfl ?_
        refine Sh.iload at_187 rfl ?_
        refine Sh.icmpF at_189 (fun z => z rfl) ?_
        refine Sh.aload at_192 rfl rfl ?_
        refine Sh.callV hw (i1 := 67) (i2 := 69) (i3 := 2) (i4 := 71) (i5 := 68) (i6 := 70) (k' := 5) (n' := 20) (B' := b12) (R' := R12) rfl rfl rfl rfl rfl rfl (by decide) rfl (em l Z a0 n0 hw _ _ _ _ _ _) at_194 rfl rfl pd12 rfl (Sh.le rfl) (Sh.le rfl) (Sh.le rfl) (Sh.le rfl) rfl rfl ?_
        rintro _ _ ⟨rfl, rfl⟩
        refine Sh.ifF at_197 (by decide) ?_
        refine Sh.iconst at_200 (x := 1) rfl ?_
        refine Sh.goto at_201 (pc' := 205) rfl (by decide) ?_
        refine Sh.retN at_205 rfl (by simp) rfl (Sh.le rfl) (Sh.le rfl) ?_
        rfl
theorem two21 (hw : HW Z a0) (a b c d : Int64) (f : Int32) (p0 p1 p2 y0 y1 y2 r0 r1 r2 : Value) :
    Sh.WP l Z a0 n0 b0 room_1 5 20 94 [.val (.long a), .second, .val (.long b), .second, .val (.long c), .second, .val (.long d), .second, .val (.int f), .val (.ref 0), .val (.int (Int32.ofNat 2)), .val (.int (Int32.ofNat 1)), .unset, .unset, .unset, .unset] [] (own_H (-9223372036854775808) [p0, p1, p2] [.int (-1), .int (-1), .int (-1)] [y0, y1, y2] [r0, r1, r2] 0 0 0) (fun v _ => v = some (.int 1)) := by
  by_cases hc : c = (-9223372036854775808)
  · subst hc
    by_cases hd : d = (-9223372036854775808)
    · subst hd
      refine Sh.aload at_94 rfl rfl ?_
      refine Sh.iload at_96 rfl ?_
      refine Sh.lload at_98 rfl ?_
      refine Sh.callV hw (i1 := 26) (i2 := 28) (i3 := 2) (i4 := 30) (i5 := 27) (i6 := 29) (k' := 5) (n' := 20) (B' := b4) (R' := R4) rfl rfl rfl rfl rfl rfl (by decide) rfl (ofL l Z a0 n0 hw _ (-9223372036854775808) _ _ _ _ _ _ _ _ _ 0 2 (by decide) (by decide) rfl (Sh.le rfl) (Sh.le rfl) (Sh.le rfl) rfl (Sh.ls_2) (Sh.ls_2) (Sh.ls_0)) at_100 rfl rfl pd4 rfl (Sh.le rfl) (Sh.le rfl) (Sh.le rfl) (Sh.le rfl) rfl rfl ?_
      rintro _ _ ⟨rfl, rfl⟩
      refine Sh.aload at_103 rfl rfl ?_
      refine Sh.iload at_105 rfl ?_
      refine Sh.lload at_107 rfl ?_
      refine Sh.callV hw (i1 := 26) (i2 := 28) (i3 := 2) (i4 := 30) (i5 := 27) (i6 := 29) (k' := 5) (n' := 20) (B' := b4) (R' := R4) rfl rfl rfl rfl rfl rfl (by decide) rfl (ofL l Z a0 n0 hw _ (-9223372036854775808) _ _ _ _ _ _ _ _ _ 1 1 (by decide) (by decide) rfl (Sh.le rfl) (Sh.le rfl) (Sh.le rfl) rfl (Sh.ls_1) (Sh.ls_1) (Sh.ls_1)) at_109 rfl rfl pd4 rfl (Sh.le rfl) (Sh.le rfl) (Sh.le rfl) (Sh.le rfl) rfl rfl ?_
      rintro _ _ ⟨rfl, rfl⟩
      refine Sh.aload at_112 rfl rfl ?_
      refine Sh.callV hw (i1 := 72) (i2 := 74) (i3 := 2) (i4 := 76) (i5 := 73) (i6 := 75) (k' := 5) (n' := 20) (B' := b13) (R' := R13) rfl rfl rfl rfl rfl rfl (by decide) rfl (pkL l Z a0 n0 hw _ _ _ _ _ _ _ _ (by decide)) at_114 rfl rfl pd13 rfl (Sh.le rfl) (Sh.le rfl) (Sh.le rfl) (Sh.le rfl) rfl rfl ?_
      rintro _ _ ⟨rfl, rfl⟩
      refine Sh.lload at_117 rfl ?_
      refine Sh.lload at_119 rfl ?_
      refine Sh.callS hw (i1 := 58) (i2 := 59) (i3 := 60) (i4 := 61) (k' := 5) (n' := 20) (B' := b10) (R' := R10) rfl rfl rfl rfl (by decide) (mmin l Z a0 n0 hw (-9223372036854775808) (-9223372036854775808) (-9223372036854775808) _ (by decide)) at_121 rfl rfl pd10 rfl (Sh.le rfl) (Sh.le rfl) (Sh.le rfl) (Sh.le rfl) rfl rfl ?_
      rintro _ _ ⟨rfl, rfl⟩
      refine Sh.lcmpT at_124 at_125 (pc' := 130) rfl (by decide) rfl ?_
      refine Sh.aload at_130 rfl rfl ?_
      refine Sh.callV hw (i1 := 41) (i2 := 43) (i3 := 2) (i4 := 45) (i5 := 42) (i6 := 44) (k' := 5) (n' := 20) (B' := b7) (R' := R7) rfl rfl rfl rfl rfl rfl (by decide) rfl (poL l Z a0 n0 hw _ _ _ _ _ _ _ 0 2 2 (by decide) (by decide) (by decide) (Sh.le rfl) rfl (Sh.ls_2)) at_132 rfl rfl pd7 rfl (Sh.le rfl) (Sh.le rfl) (Sh.le rfl) (Sh.le rfl) rfl rfl ?_
      rintro _ _ ⟨rfl, rfl⟩
      refine Sh.istore at_135 (Sh.s1_12 rfl rfl) ?_
      refine Sh.aload at_137 rfl rfl ?_
      refine Sh.callV hw (i1 := 41) (i2 := 43) (i3 := 2) (i4 := 45) (i5 := 42) (i6 := 44) (k' := 5) (n' := 20) (B' := b7) (R' := R7) rfl rfl rfl rfl rfl rfl (by decide) rfl (poL l Z a0 n0 hw _ _ _ _ _ _ _ 1 2 1 (by decide) (by decide) (by decide) (Sh.le rfl) rfl (Sh.ls_1)) at_139 rfl rfl pd7 rfl (Sh.le rfl) (Sh.le rfl) (Sh.le rfl) (Sh.le rfl) rfl rfl ?_
      rintro _ _ ⟨rfl, rfl⟩
      refine Sh.istore at_142 (Sh.s1_13 rfl rfl) ?_
      refine Sh.lload at_144 rfl ?_
      refine Sh.lload at_146 rfl ?_
      refine Sh.lcmpT at_148 at_149 (pc' := 157) rfl (by decide) (by decide) ?_
      refine Sh.iload at_157 rfl ?_
      refine Sh.istore at_159 (Sh.s1_14 rfl rfl) ?_
      refine Sh.lload at_161 rfl ?_
      refine Sh.lload at_163 rfl ?_
      refine Sh.lcmpT at_165 at_166 (pc' := 174) rfl (by decide) (by decide) ?_
      refine Sh.iload at_174 rfl ?_
      refine Sh.istore at_176 (Sh.s1_15 rfl rfl) ?_
      refine Sh.iload at_178 rfl ?_
      refine Sh.iload at_180 rfl ?_
      refine Sh.icmpF at_182 (fun z => z rfl) ?_
      refine Sh.iload at_185 rfl ?_
      refine Sh.iload at_187 rfl ?_
      refine Sh.icmpF at_189 (fun z => z rfl) ?_
      refine Sh.aload at_192 rfl rfl ?_
      refine Sh.callV hw (i1 := 67) (i2 := 69) (i3 := 2) (i4 := 71) (i5 := 68) (i6 := 70) (k' := 5) (n' := 20) (B' := b12) (R' := R12) rfl rfl rfl rfl rfl rfl (by decide) rfl (em l Z a0 n0 hw _ _ _ _ _ _) at_194 rfl rfl pd12 rfl (Sh.le rfl) (Sh.le rfl) (Sh.le rfl) (Sh.le rfl) rfl rfl ?_
      rintro _ _ ⟨rfl, rfl⟩
      refine Sh.ifF at_197 (by decide) ?_
      refine Sh.iconst at_200 (x := 1) rfl ?_
      refine Sh.goto at_201 (pc' := 205) rfl (by decide) ?_
      refine Sh.retN at_205 rfl (by simp) rfl (Sh.le rfl) (Sh.le rfl) ?_
      rfl
    · skip
      refine Sh.aload at_94 rfl rfl ?_
      refine Sh.iload at_96 rfl ?_
      refine Sh.lload at_98 rfl ?_
      refine Sh.callV hw (i1 := 26) (i2 := 28) (i3 := 2) (i4 := 30) (i5 := 27) (i6 := 29) (k' := 5) (n' := 20) (B' := b4) (R' := R4) rfl rfl rfl rfl rfl rfl (by decide) rfl (ofL l Z a0 n0 hw _ (-9223372036854775808) _ _ _ _ _ _ _ _ _ 0 2 (by decide) (by decide) rfl (Sh.le rfl) (Sh.le rfl) (Sh.le rfl) rfl (Sh.ls_2) (Sh.ls_2) (Sh.ls_0)) at_100 rfl rfl pd4 rfl (Sh.le rfl) (Sh.le rfl) (Sh.le rfl) (Sh.le rfl) rfl rfl ?_
      rintro _ _ ⟨rfl, rfl⟩
      refine Sh.aload at_103 rfl rfl ?_
      refine Sh.iload at_105 rfl ?_
      refine Sh.lload at_107 rfl ?_
      refine Sh.callV hw (i1 := 26) (i2 := 28) (i3 := 2) (i4 := 30) (i5 := 27) (i6 := 29) (k' := 5) (n' := 20) (B' := b4) (R' := R4) rfl rfl rfl rfl rfl rfl (by decide) rfl (ofH l Z a0 n0 hw _ d _ _ _ _ _ _ _ 0 1 _ (by decide) (by decide) rfl (Sh.le rfl) hd (Sh.ls_1) (su0 l Z a0 n0 hw _ _ _ _ _ _ _ _ _ _ 1 (Sh.le rfl) (Sh.le rfl) (by decide) (Sh.ls_0) (Sh.ls_1))) at_109 rfl rfl pd4 rfl (Sh.le rfl) (Sh.le rfl) (Sh.le rfl) (Sh.le rfl) rfl rfl ?_
      rintro _ _ ⟨rfl, rfl⟩
      refine Sh.aload at_112 rfl rfl ?_
      refine Sh.callV hw (i1 := 72) (i2 := 74) (i3 := 2) (i4 := 76) (i5 := 73) (i6 := 75) (k' := 5) (n' := 20) (B' := b13) (R' := R13) rfl rfl rfl rfl rfl rfl (by decide) rfl (pkL l Z a0 n0 hw _ _ _ _ _ _ _ _ (by decide)) at_114 rfl rfl pd13 rfl (Sh.le rfl) (Sh.le rfl) (Sh.le rfl) (Sh.le rfl) rfl rfl ?_
      rintro _ _ ⟨rfl, rfl⟩
      refine Sh.lload at_117 rfl ?_
      refine Sh.lload at_119 rfl ?_
      refine Sh.callS hw (i1 := 58) (i2 := 59) (i3 := 60) (i4 := 61) (k' := 5) (n' := 20) (B' := b10) (R' := R10) rfl rfl rfl rfl (by decide) (mmin l Z a0 n0 hw (-9223372036854775808) d (-9223372036854775808) _ (if_neg (own_nlt d))) at_121 rfl rfl pd10 rfl (Sh.le rfl) (Sh.le rfl) (Sh.le rfl) (Sh.le rfl) rfl rfl ?_
      rintro _ _ ⟨rfl, rfl⟩
      refine Sh.lcmpT at_124 at_125 (pc' := 130) rfl (by decide) rfl ?_
      refine Sh.aload at_130 rfl rfl ?_
      refine Sh.callV hw (i1 := 41) (i2 := 43) (i3 := 2) (i4 := 45) (i5 := 42) (i6 := 44) (k' := 5) (n' := 20) (B' := b7) (R' := R7) rfl rfl rfl rfl rfl rfl (by decide) rfl (poL l Z a0 n0 hw _ _ _ _ _ _ _ 0 1 2 (by decide) (by decide) (by decide) (Sh.le rfl) rfl (Sh.ls_2)) at_132 rfl rfl pd7 rfl (Sh.le rfl) (Sh.le rfl) (Sh.le rfl) (Sh.le rfl) rfl rfl ?_
      rintro _ _ ⟨rfl, rfl⟩
      refine Sh.istore at_135 (Sh.s1_12 rfl rfl) ?_
      refine Sh.aload at_137 rfl rfl ?_
      refine Sh.callV hw (i1 := 41) (i2 := 43) (i3 := 2) (i4 := 45) (i5 := 42) (i6 := 44) (k' := 5) (n' := 20) (B' := b7) (R' := R7) rfl rfl rfl rfl rfl rfl (by decide) rfl (poH l Z a0 n0 hw _ _ _ _ _ _ _ _ _ _ 1 1 1 _ (by decide) (by decide) (by decide) (Sh.le rfl) rfl rfl (rv1 l Z a0 n0 hw _ _ _ _ _ _ _ _ 1 (by decide) (Sh.le rfl) rfl (Sh.ls_1)) (Sh.ls_1)) at_139 rfl rfl pd7 rfl (Sh.le rfl) (Sh.le rfl) (Sh.le rfl) (Sh.le rfl) rfl rfl ?_
      rintro _ _ ⟨rfl, rfl⟩
      refine Sh.istore at_142 (Sh.s1_13 rfl rfl) ?_
      refine Sh.lload at_144 rfl ?_
      refine Sh.lload at_146 rfl ?_
      refine Sh.lcmpT at_148 at_149 (pc' := 157) rfl (by decide) (own_nlt d) ?_
      refine Sh.iload at_157 rfl ?_
      refine Sh.istore at_159 (Sh.s1_14 rfl rfl) ?_
      refine Sh.lload at_161 rfl ?_
      refine Sh.lload at_163 rfl ?_
      refine Sh.lcmpT at_165 at_166 (pc' := 174) rfl (by decide) (own_nlt d) ?_
      refine Sh.iload at_174 rfl ?_
      refine Sh.istore at_176 (Sh.s1_15 rfl rfl) ?_
      refine Sh.iload at_178 rfl ?_
      refine Sh.iload at_180 rfl ?_
      refine Sh.icmpF at_182 (fun z => z rfl) ?_
      refine Sh.iload at_185 rfl ?_
      refine Sh.iload at_187 rfl ?_
      refine Sh.icmpF at_189 (fun z => z rfl) ?_
      refine Sh.aload at_192 rfl rfl ?_
      refine Sh.callV hw (i1 := 67) (i2 := 69) (i3 := 2) (i4 := 71) (i5 := 68) (i6 := 70) (k' := 5) (n' := 20) (B' := b12) (R' := R12) rfl rfl rfl rfl rfl rfl (by decide) rfl (em l Z a0 n0 hw _ _ _ _ _ _) at_194 rfl rfl pd12 rfl (Sh.le rfl) (Sh.le rfl) (Sh.le rfl) (Sh.le rfl) rfl rfl ?_
      rintro _ _ ⟨rfl, rfl⟩
      refine Sh.ifF at_197 (by decide) ?_
      refine Sh.iconst at_200 (x := 1) rfl ?_
      refine Sh.goto at_201 (pc' := 205) rfl (by decide) ?_
      refine Sh.retN at_205 rfl (by simp) rfl (Sh.le rfl) (Sh.le rfl) ?_
      rfl
  · by_cases hd : d = (-9223372036854775808)
    · subst hd
      refine Sh.aload at_94 rfl rfl ?_
      refine Sh.iload at_96 rfl ?_
      refine Sh.lload at_98 rfl ?_
      refine Sh.callV hw (i1 := 26) (i2 := 28) (i3 := 2) (i4 := 30) (i5 := 27) (i6 := 29) (k' := 5) (n' := 20) (B' := b4) (R' := R4) rfl rfl rfl rfl rfl rfl (by decide) rfl (ofH l Z a0 n0 hw _ c _ _ _ _ _ _ _ 0 2 _ (by decide) (by decide) rfl (Sh.le rfl) hc (Sh.ls_2) (su0 l Z a0 n0 hw _ _ _ _ _ _ _ _ _ _ 2 (Sh.le rfl) (Sh.le rfl) (by decide) (Sh.ls_0) (Sh.ls_2))) at_100 rfl rfl pd4 rfl (Sh.le rfl) (Sh.le rfl) (Sh.le rfl) (Sh.le rfl) rfl rfl ?_
      rintro _ _ ⟨rfl, rfl⟩
      refine Sh.aload at_103 rfl rfl ?_
      refine Sh.iload at_105 rfl ?_
      refine Sh.lload at_107 rfl ?_
      refine Sh.callV hw (i1 := 26) (i2 := 28) (i3 := 2) (i4 := 30) (i5 := 27) (i6 := 29) (k' := 5) (n' := 20) (B' := b4) (R' := R4) rfl rfl rfl rfl rfl rfl (by decide) rfl (ofL l Z a0 n0 hw _ (-9223372036854775808) _ _ _ _ _ _ _ _ _ 0 1 (by decide) (by decide) rfl (Sh.le rfl) (Sh.le rfl) (Sh.le rfl) rfl (Sh.ls_1) (Sh.ls_1) (Sh.ls_0)) at_109 rfl rfl pd4 rfl (Sh.le rfl) (Sh.le rfl) (Sh.le rfl) (Sh.le rfl) rfl rfl ?_
      rintro _ _ ⟨rfl, rfl⟩
      refine Sh.aload at_112 rfl rfl ?_
      refine Sh.callV hw (i1 := 72) (i2 := 74) (i3 := 2) (i4 := 76) (i5 := 73) (i6 := 75) (k' := 5) (n' := 20) (B' := b13) (R' := R13) rfl rfl rfl rfl rfl rfl (by decide) rfl (pkL l Z a0 n0 hw _ _ _ _ _ _ _ _ (by decide)) at_114 rfl rfl pd13 rfl (Sh.le rfl) (Sh.le rfl) (Sh.le rfl) (Sh.le rfl) rfl rfl ?_
      rintro _ _ ⟨rfl, rfl⟩
      refine Sh.lload at_117 rfl ?_
      refine Sh.lload at_119 rfl ?_
      refine Sh.callS hw (i1 := 58) (i2 := 59) (i3 := 60) (i4 := 61) (k' := 5) (n' := 20) (B' := b10) (R' := R10) rfl rfl rfl rfl (by decide) (mmin l Z a0 n0 hw c (-9223372036854775808) (-9223372036854775808) _ (if_pos (own_lt c hc))) at_121 rfl rfl pd10 rfl (Sh.le rfl) (Sh.le rfl) (Sh.le rfl) (Sh.le rfl) rfl rfl ?_
      rintro _ _ ⟨rfl, rfl⟩
      refine Sh.lcmpT at_124 at_125 (pc' := 130) rfl (by decide) rfl ?_
      refine Sh.aload at_130 rfl rfl ?_
      refine Sh.callV hw (i1 := 41) (i2 := 43) (i3 := 2) (i4 := 45) (i5 := 42) (i6 := 44) (k' := 5) (n' := 20) (B' := b7) (R' := R7) rfl rfl rfl rfl rfl rfl (by decide) rfl (poL l Z a0 n0 hw _ _ _ _ _ _ _ 0 1 1 (by decide) (by decide) (by decide) (Sh.le rfl) rfl (Sh.ls_1)) at_132 rfl rfl pd7 rfl (Sh.le rfl) (Sh.le rfl) (Sh.le rfl) (Sh.le rfl) rfl rfl ?_
      rintro _ _ ⟨rfl, rfl⟩
      refine Sh.istore at_135 (Sh.s1_12 rfl rfl) ?_
      refine Sh.aload at_137 rfl rfl ?_
      refine Sh.callV hw (i1 := 41) (i2 := 43) (i3 := 2) (i4 := 45) (i5 := 42) (i6 := 44) (k' := 5) (n' := 20) (B' := b7) (R' := R7) rfl rfl rfl rfl rfl rfl (by decide) rfl (poH l Z a0 n0 hw _ _ _ _ _ _ _ _ _ _ 1 1 2 _ (by decide) (by decide) (by decide) (Sh.le rfl) rfl rfl (rv1 l Z a0 n0 hw _ _ _ _ _ _ _ _ 2 (by decide) (Sh.le rfl) rfl (Sh.ls_2)) (Sh.ls_2)) at_139 rfl rfl pd7 rfl (Sh.le rfl) (Sh.le rfl) (Sh.le rfl) (Sh.le rfl) rfl rfl ?_
      rintro _ _ ⟨rfl, rfl⟩
      refine Sh.istore at_142 (Sh.s1_13 rfl rfl) ?_
      refine Sh.lload at_144 rfl ?_
      refine Sh.lload at_146 rfl ?_
      refine Sh.lcmpF at_148 at_149 (fun z => z (own_lt c hc)) ?_
      refine Sh.iload at_152 rfl ?_
      refine Sh.goto at_154 (pc' := 159) rfl (by decide) ?_
      refine Sh.istore at_159 (Sh.s1_14 rfl rfl) ?_
      refine Sh.lload at_161 rfl ?_
      refine Sh.lload at_163 rfl ?_
      refine Sh.lcmpF at_165 at_166 (fun z => z (own_lt c hc)) ?_
      refine Sh.iload at_169 rfl ?_
      refine Sh.goto at_171 (pc' := 176) rfl (by decide) ?_
      refine Sh.istore at_176 (Sh.s1_15 rfl rfl) ?_
      refine Sh.iload at_178 rfl ?_
      refine Sh.iload at_180 rfl ?_
      refine Sh.icmpF at_182 (fun z => z rfl) ?_
      refine Sh.iload at_185 rfl ?_
      refine Sh.iload at_187 rfl ?_
      refine Sh.icmpF at_189 (fun z => z rfl) ?_
      refine Sh.aload at_192 rfl rfl ?_
      refine Sh.callV hw (i1 := 67) (i2 := 69) (i3 := 2) (i4 := 71) (i5 := 68) (i6 := 70) (k' := 5) (n' := 20) (B' := b12) (R' := R12) rfl rfl rfl rfl rfl rfl (by decide) rfl (em l Z a0 n0 hw _ _ _ _ _ _) at_194 rfl rfl pd12 rfl (Sh.le rfl) (Sh.le rfl) (Sh.le rfl) (Sh.le rfl) rfl rfl ?_
      rintro _ _ ⟨rfl, rfl⟩
      refine Sh.ifF at_197 (by decide) ?_
      refine Sh.iconst at_200 (x := 1) rfl ?_
      refine Sh.goto at_201 (pc' := 205) rfl (by decide) ?_
      refine Sh.retN at_205 rfl (by simp) rfl (Sh.le rfl) (Sh.le rfl) ?_
      rfl
    · by_cases hl : d < c
      · skip
        refine Sh.aload at_94 rfl rfl ?_
        refine Sh.iload at_96 rfl ?_
        refine Sh.lload at_98 rfl ?_
        refine Sh.callV hw (i1 := 26) (i2 := 28) (i3 := 2) (i4 := 30) (i5 := 27) (i6 := 29) (k' := 5) (n' := 20) (B' := b4) (R' := R4) rfl rfl rfl rfl rfl rfl (by decide) rfl (ofH l Z a0 n0 hw _ c _ _ _ _ _ _ _ 0 2 _ (by decide) (by decide) rfl (Sh.le rfl) hc (Sh.ls_2) (su0 l Z a0 n0 hw _ _ _ _ _ _ _ _ _ _ 2 (Sh.le rfl) (Sh.le rfl) (by decide) (Sh.ls_0) (Sh.ls_2))) at_100 rfl rfl pd4 rfl (Sh.le rfl) (Sh.le rfl) (Sh.le rfl) (Sh.le rfl) rfl rfl ?_
        rintro _ _ ⟨rfl, rfl⟩
        refine Sh.aload at_103 rfl rfl ?_
        refine Sh.iload at_105 rfl ?_
        refine Sh.lload at_107 rfl ?_
        refine Sh.callV hw (i1 := 26) (i2 := 28) (i3 := 2) (i4 := 30) (i5 := 27) (i6 := 29) (k' := 5) (n' := 20) (B' := b4) (R' := R4) rfl rfl rfl rfl rfl rfl (by decide) rfl (ofH l Z a0 n0 hw _ d _ _ _ _ _ _ _ 1 1 _ (by decide) (by decide) rfl (Sh.le rfl) hd (Sh.ls_1) (su1s l Z a0 n0 hw _ _ _ _ _ _ _ _ _ _ _ _ 1 2 (Sh.le rfl) (Sh.le rfl) (Sh.le rfl) (by decide) (by decide) (Sh.ls_1) (Sh.ls_2) (Sh.ls_0) (Sh.ls_1) _ _ rfl rfl rfl hl)) at_109 rfl rfl pd4 rfl (Sh.le rfl) (Sh.le rfl) (Sh.le rfl) (Sh.le rfl) rfl rfl ?_
        rintro _ _ ⟨rfl, rfl⟩
        refine Sh.aload at_112 rfl rfl ?_
        refine Sh.callV hw (i1 := 72) (i2 := 74) (i3 := 2) (i4 := 76) (i5 := 73) (i6 := 75) (k' := 5) (n' := 20) (B' := b13) (R' := R13) rfl rfl rfl rfl rfl rfl (by decide) rfl (pkH l Z a0 n0 hw _ _ _ _ _ _ _ _ (by decide) 1 (by decide) _ rfl rfl) at_114 rfl rfl pd13 rfl (Sh.le rfl) (Sh.le rfl) (Sh.le rfl) (Sh.le rfl) rfl rfl ?_
        rintro _ _ ⟨rfl, rfl⟩
        refine Sh.lload at_117 rfl ?_
        refine Sh.lload at_119 rfl ?_
        refine Sh.callS hw (i1 := 58) (i2 := 59) (i3 := 60) (i4 := 61) (k' := 5) (n' := 20) (B' := b10) (R' := R10) rfl rfl rfl rfl (by decide) (mmin l Z a0 n0 hw c d d _ (if_pos hl)) at_121 rfl rfl pd10 rfl (Sh.le rfl) (Sh.le rfl) (Sh.le rfl) (Sh.le rfl) rfl rfl ?_
        rintro _ _ ⟨rfl, rfl⟩
        refine Sh.lcmpT at_124 at_125 (pc' := 130) rfl (by decide) rfl ?_
        refine Sh.aload at_130 rfl rfl ?_
        refine Sh.callV hw (i1 := 41) (i2 := 43) (i3 := 2) (i4 := 45) (i5 := 42) (i6 := 44) (k' := 5) (n' := 20) (B' := b7) (R' := R7) rfl rfl rfl rfl rfl rfl (by decide) rfl (poH l Z a0 n0 hw _ _ _ _ _ _ _ _ _ _ 0 0 1 _ (by decide) (by decide) (by decide) (Sh.le rfl) rfl rfl (rv2 l Z a0 n0 hw _ _ _ _ _ _ _ _ _ _ _ 1 2 (by decide) (by decide) (Sh.le rfl) (Sh.le rfl) (Sh.le rfl) rfl rfl (Sh.ls_1) (Sh.ls_0) (Sh.ls_2) (Sh.ls_0) (Sh.ls_2)) (Sh.ls_1)) at_132 rfl rfl pd7 rfl (Sh.le rfl) (Sh.le rfl) (Sh.le rfl) (Sh.le rfl) rfl rfl ?_
        rintro _ _ ⟨rfl, rfl⟩
        refine Sh.istore at_135 (Sh.s1_12 rfl rfl) ?_
        refine Sh.aload at_137 rfl rfl ?_
        refine Sh.callV hw (i1 := 41) (i2 := 43) (i3 := 2) (i4 := 45) (i5 := 42) (i6 := 44) (k' := 5) (n' := 20) (B' := b7) (R' := R7) rfl rfl rfl rfl rfl rfl (by decide) rfl (poH l Z a0 n0 hw _ _ _ _ _ _ _ _ _ _ 0 0 2 _ (by decide) (by decide) (by decide) (Sh.le rfl) rfl rfl (rv1 l Z a0 n0 hw _ _ _ _ _ _ _ _ 2 (by decide) (Sh.le rfl) rfl (Sh.ls_2)) (Sh.ls_2)) at_139 rfl rfl pd7 rfl (Sh.le rfl) (Sh.le rfl) (Sh.le rfl) (Sh.le rfl) rfl rfl ?_
        rintro _ _ ⟨rfl, rfl⟩
        refine Sh.istore at_142 (Sh.s1_13 rfl rfl) ?_
        refine Sh.lload at_144 rfl ?_
        refine Sh.lload at_146 rfl ?_
        refine Sh.lcmpF at_148 at_149 (fun z => z hl) ?_
        refine Sh.iload at_152 rfl ?_
        refine Sh.goto at_154 (pc' := 159) rfl (by decide) ?_
        refine Sh.istore at_159 (Sh.s1_14 rfl rfl) ?_
        refine Sh.lload at_161 rfl ?_
        refine Sh.lload at_163 rfl ?_
        refine Sh.lcmpF at_165 at_166 (fun z => z hl) ?_
        refine Sh.iload at_169 rfl ?_
        refine Sh.goto at_171 (pc' := 176) rfl (by decide) ?_
        refine Sh.istore at_176 (Sh.s1_15 rfl rfl) ?_
        refine Sh.iload at_178 rfl ?_
        refine Sh.iload at_180 rfl ?_
        refine Sh.icmpF at_182 (fun z => z rfl) ?_
        refine Sh.iload at_185 rfl ?_
        refine Sh.iload at_187 rfl ?_
        refine Sh.icmpF at_189 (fun z => z rfl) ?_
        refine Sh.aload at_192 rfl rfl ?_
        refine Sh.callV hw (i1 := 67) (i2 := 69) (i3 := 2) (i4 := 71) (i5 := 68) (i6 := 70) (k' := 5) (n' := 20) (B' := b12) (R' := R12) rfl rfl rfl rfl rfl rfl (by decide) rfl (em l Z a0 n0 hw _ _ _ _ _ _) at_194 rfl rfl pd12 rfl (Sh.le rfl) (Sh.le rfl) (Sh.le rfl) (Sh.le rfl) rfl rfl ?_
        rintro _ _ ⟨rfl, rfl⟩
        refine Sh.ifF at_197 (by decide) ?_
        refine Sh.iconst at_200 (x := 1) rfl ?_
        refine Sh.goto at_201 (pc' := 205) rfl (by decide) ?_
        refine Sh.retN at_205 rfl (by simp) rfl (Sh.le rfl) (Sh.le rfl) ?_
        rfl
      · skip
        refine Sh.aload at_94 rfl rfl ?_
        refine Sh.iload at_96 rfl ?_
        refine Sh.lload at_98 rfl ?_
        refine Sh.callV hw (i1 := 26) (i2 := 28) (i3 := 2) (i4 := 30) (i5 := 27) (i6 := 29) (k' := 5) (n' := 20) (B' := b4) (R' := R4) rfl rfl rfl rfl rfl rfl (by decide) rfl (ofH l Z a0 n0 hw _ c _ _ _ _ _ _ _ 0 2 _ (by decide) (by decide) rfl (Sh.le rfl) hc (Sh.ls_2) (su0 l Z a0 n0 hw _ _ _ _ _ _ _ _ _ _ 2 (Sh.le rfl) (Sh.le rfl) (by decide) (Sh.ls_0) (Sh.ls_2))) at_100 rfl rfl pd4 rfl (Sh.le rfl) (Sh.le rfl) (Sh.le rfl) (Sh.le rfl) rfl rfl ?_
        rintro _ _ ⟨rfl, rfl⟩
        refine Sh.aload at_103 rfl rfl ?_
        refine Sh.iload at_105 rfl ?_
        refine Sh.lload at_107 rfl ?_
        refine Sh.callV hw (i1 := 26) (i2 := 28) (i3 := 2) (i4 := 30) (i5 := 27) (i6 := 29) (k' := 5) (n' := 20) (B' := b4) (R' := R4) rfl rfl rfl rfl rfl rfl (by decide) rfl (ofH l Z a0 n0 hw _ d _ _ _ _ _ _ _ 1 1 _ (by decide) (by decide) rfl (Sh.le rfl) hd (Sh.ls_1) (su1n l Z a0 n0 hw _ _ _ _ _ _ _ _ _ _ 1 (Sh.le rfl) (Sh.le rfl) (by decide) (Sh.ls_1) (Sh.ls_1) 2 (by decide) _ _ rfl rfl rfl hl)) at_109 rfl rfl pd4 rfl (Sh.le rfl) (Sh.le rfl) (Sh.le rfl) (Sh.le rfl) rfl rfl ?_
        rintro _ _ ⟨rfl, rfl⟩
        refine Sh.aload at_112 rfl rfl ?_
        refine Sh.callV hw (i1 := 72) (i2 := 74) (i3 := 2) (i4 := 76) (i5 := 73) (i6 := 75) (k' := 5) (n' := 20) (B' := b13) (R' := R13) rfl rfl rfl rfl rfl rfl (by decide) rfl (pkH l Z a0 n0 hw _ _ _ _ _ _ _ _ (by decide) 2 (by decide) _ rfl rfl) at_114 rfl rfl pd13 rfl (Sh.le rfl) (Sh.le rfl) (Sh.le rfl) (Sh.le rfl) rfl rfl ?_
        rintro _ _ ⟨rfl, rfl⟩
        refine Sh.lload at_117 rfl ?_
        refine Sh.lload at_119 rfl ?_
        refine Sh.callS hw (i1 := 58) (i2 := 59) (i3 := 60) (i4 := 61) (k' := 5) (n' := 20) (B' := b10) (R' := R10) rfl rfl rfl rfl (by decide) (mmin l Z a0 n0 hw c d c _ (if_neg hl)) at_121 rfl rfl pd10 rfl (Sh.le rfl) (Sh.le rfl) (Sh.le rfl) (Sh.le rfl) rfl rfl ?_
        rintro _ _ ⟨rfl, rfl⟩
        refine Sh.lcmpT at_124 at_125 (pc' := 130) rfl (by decide) rfl ?_
        refine Sh.aload at_130 rfl rfl ?_
        refine Sh.callV hw (i1 := 41) (i2 := 43) (i3 := 2) (i4 := 45) (i5 := 42) (i6 := 44) (k' := 5) (n' := 20) (B' := b7) (R' := R7) rfl rfl rfl rfl rfl rfl (by decide) rfl (poH l Z a0 n0 hw _ _ _ _ _ _ _ _ _ _ 0 0 2 _ (by decide) (by decide) (by decide) (Sh.le rfl) rfl rfl (rv2 l Z a0 n0 hw _ _ _ _ _ _ _ _ _ _ _ 2 1 (by decide) (by decide) (Sh.le rfl) (Sh.le rfl) (Sh.le rfl) rfl rfl (Sh.ls_2) (Sh.ls_0) (Sh.ls_1) (Sh.ls_0) (Sh.ls_1)) (Sh.ls_2)) at_132 rfl rfl pd7 rfl (Sh.le rfl) (Sh.le rfl) (Sh.le rfl) (Sh.le rfl) rfl rfl ?_
        rintro _ _ ⟨rfl, rfl⟩
        refine Sh.istore at_135 (Sh.s1_12 rfl rfl) ?_
        refine Sh.aload at_137 rfl rfl ?_
        refine Sh.callV hw (i1 := 41) (i2 := 43) (i3 := 2) (i4 := 45) (i5 := 42) (i6 := 44) (k' := 5) (n' := 20) (B' := b7) (R' := R7) rfl rfl rfl rfl rfl rfl (by decide) rfl (poH l Z a0 n0 hw _ _ _ _ _ _ _ _ _ _ 0 0 1 _ (by decide) (by decide) (by decide) (Sh.le rfl) rfl rfl (rv1 l Z a0 n0 hw _ _ _ _ _ _ _ _ 1 (by decide) (Sh.le rfl) rfl (Sh.ls_1)) (Sh.ls_1)) at_139 rfl rfl pd7 rfl (Sh.le rfl) (Sh.le rfl) (Sh.le rfl) (Sh.le rfl) rfl rfl ?_
        rintro _ _ ⟨rfl, rfl⟩
        refine Sh.istore at_142 (Sh.s1_13 rfl rfl) ?_
        refine Sh.lload at_144 rfl ?_
        refine Sh.lload at_146 rfl ?_
        refine Sh.lcmpT at_148 at_149 (pc' := 157) rfl (by decide) hl ?_
        refine Sh.iload at_157 rfl ?_
        refine Sh.istore at_159 (Sh.s1_14 rfl rfl) ?_
        refine Sh.lload at_161 rfl ?_
        refine Sh.lload at_163 rfl ?_
        refine Sh.lcmpT at_165 at_166 (pc' := 174) rfl (by decide) hl ?_
        refine Sh.iload at_174 rfl ?_
        refine Sh.istore at_176 (Sh.s1_15 rfl rfl) ?_
        refine Sh.iload at_178 rfl ?_
        refine Sh.iload at_180 rfl ?_
        refine Sh.icmpF at_182 (fun z => z rfl) ?_
        refine Sh.iload at_185 rfl ?_
        refine Sh.iload at_187 rfl ?_
        refine Sh.icmpF at_189 (fun z => z rfl) ?_
        refine Sh.aload at_192 rfl rfl ?_
        refine Sh.callV hw (i1 := 67) (i2 := 69) (i3 := 2) (i4 := 71) (i5 := 68) (i6 := 70) (k' := 5) (n' := 20) (B' := b12) (R' := R12) rfl rfl rfl rfl rfl rfl (by decide) rfl (em l Z a0 n0 hw _ _ _ _ _ _) at_194 rfl rfl pd12 rfl (Sh.le rfl) (Sh.le rfl) (Sh.le rfl) (Sh.le rfl) rfl rfl ?_
        rintro _ _ ⟨rfl, rfl⟩
        refine Sh.ifF at_197 (by decide) ?_
        refine Sh.iconst at_200 (x := 1) rfl ?_
        refine Sh.goto at_201 (pc' := 205) rfl (by decide) ?_
        refine Sh.retN at_205 rfl (by simp) rfl (Sh.le rfl) (Sh.le rfl) ?_
        rfl
theorem fin (hw : HW Z a0) (a b c d : Int64) (f : Int32) (p0 p1 p2 y0 y1 y2 r0 r1 r2 : Value) :
    Sh.WP l Z a0 n0 b0 room_1 5 20 60 [.val (.long a), .second, .val (.long b), .second, .val (.long c), .second, .val (.long d), .second, .val (.int f), .val (.ref 0), .unset, .unset, .unset, .unset, .unset, .unset] [] (own_H (-9223372036854775808) [p0, p1, p2] [.int (-1), .int (-1), .int (-1)] [y0, y1, y2] [r0, r1, r2] 0 0 0) (fun v _ => v = some (.int 1)) := by
  obtain ⟨u, hu, eu⟩ := Sh.remNat' (XT.ushr f 2) 3 3 (Sh.ushrNN f 2 2 (by decide) (by decide)) (by decide) (by decide)
  obtain ⟨w, hw2, ew⟩ := Sh.maskNat (XT.ushr f 20) 1 1 (by decide) (by decide)
  have hw2 : w < 2 := hw2
  refine Sh.aload at_60 rfl rfl ?_
  refine Sh.callV hw (i1 := 67) (i2 := 69) (i3 := 2) (i4 := 71) (i5 := 68) (i6 := 70) (k' := 5) (n' := 20) (B' := b12) (R' := R12) rfl rfl rfl rfl rfl rfl (by decide) rfl (em l Z a0 n0 hw _ _ _ _ _ _) at_62 rfl rfl pd12 rfl (Sh.le rfl) (Sh.le rfl) (Sh.le rfl) (Sh.le rfl) rfl rfl ?_
  rintro _ _ ⟨rfl, rfl⟩
  refine Sh.ifT at_65 (pc' := 70) rfl (by decide) (by decide) ?_
  refine Sh.iload at_70 rfl ?_
  refine Sh.iconst at_72 (x := 2) rfl ?_
  refine Sh.iushr at_73 ?_
  refine Sh.iconst at_74 (x := 3) rfl ?_
  refine Sh.irem at_75 (by decide) ?_
  rw [eu]
  refine Sh.istore at_76 (Sh.s1_10 rfl rfl) ?_
  refine Sh.iload at_78 rfl ?_
  refine Sh.iconst at_80 (x := 1) rfl ?_
  refine Sh.iadd at_81 ?_
  refine Sh.iload at_82 rfl ?_
  refine Sh.bipush at_84 (x := 20) rfl ?_
  refine Sh.iushr at_86 ?_
  refine Sh.iconst at_87 (x := 1) rfl ?_
  refine Sh.iand at_88 ?_
  rw [ew]
  refine Sh.iadd at_89 ?_
  refine Sh.iconst at_90 (x := 3) rfl ?_
  refine Sh.irem at_91 (by decide) ?_
  match u, hu, w, hw2 with
  | 0, _, 0, _ =>
    rw [show (Int32.ofNat 0 + 1 + Int32.ofNat 0) % 3 = Int32.ofNat 1 from by decide]
    refine Sh.istore at_92 (Sh.s1_11 rfl rfl) ?_
    exact two00 l Z a0 n0 hw a b c d f p0 p1 p2 y0 y1 y2 r0 r1 r2
  | 0, _, 1, _ =>
    rw [show (Int32.ofNat 0 + 1 + Int32.ofNat 1) % 3 = Int32.ofNat 2 from by decide]
    refine Sh.istore at_92 (Sh.s1_11 rfl rfl) ?_
    exact two01 l Z a0 n0 hw a b c d f p0 p1 p2 y0 y1 y2 r0 r1 r2
  | 1, _, 0, _ =>
    rw [show (Int32.ofNat 1 + 1 + Int32.ofNat 0) % 3 = Int32.ofNat 2 from by decide]
    refine Sh.istore at_92 (Sh.s1_11 rfl rfl) ?_
    exact two10 l Z a0 n0 hw a b c d f p0 p1 p2 y0 y1 y2 r0 r1 r2
  | 1, _, 1, _ =>
    rw [show (Int32.ofNat 1 + 1 + Int32.ofNat 1) % 3 = Int32.ofNat 0 from by decide]
    refine Sh.istore at_92 (Sh.s1_11 rfl rfl) ?_
    exact two11 l Z a0 n0 hw a b c d f p0 p1 p2 y0 y1 y2 r0 r1 r2
  | 2, _, 0, _ =>
    rw [show (Int32.ofNat 2 + 1 + Int32.ofNat 0) % 3 = Int32.ofNat 0 from by decide]
    refine Sh.istore at_92 (Sh.s1_11 rfl rfl) ?_
    exact two20 l Z a0 n0 hw a b c d f p0 p1 p2 y0 y1 y2 r0 r1 r2
  | 2, _, 1, _ =>
    rw [show (Int32.ofNat 2 + 1 + Int32.ofNat 1) % 3 = Int32.ofNat 1 from by decide]
    refine Sh.istore at_92 (Sh.s1_11 rfl rfl) ?_
    exact two21 l Z a0 n0 hw a b c d f p0 p1 p2 y0 y1 y2 r0 r1 r2
theorem law_ok (hw : HW Z a0) (a b c d : Int64) (f : Int32) : Sh.Meth l Z a0 n0 b0 room_1 [.long a, .long b, .long c, .long d, .int f] [] (fun v _ => v = some (.int 1)) := by
  refine Sh.Meth.of pn0 (L := [.val (.long a), .second, .val (.long b), .second, .val (.long c), .second, .val (.long d), .second, .val (.int f), .unset, .unset, .unset, .unset, .unset, .unset, .unset]) rfl ?_
  refine Sh.newobj hw (i1 := 0) (i2 := 1) (i3 := 2) (k' := 1) (n' := 8) (a := 0) rfl rfl rfl at_0 fs_NodeQueue nd_NodeQueue (Sh.le rfl) (Sh.le rfl) rfl rfl rfl (Sh.ap_0) ?_
  refine Sh.dup at_3 rfl ?_
  refine Sh.iconst at_4 (x := 3) rfl ?_
  refine Sh.callI hw (i1 := 3) (i2 := 4) (i3 := 2) (i4 := 5) (k' := 5) (n' := 20) (B' := b1) (R' := R1) rfl rfl rfl rfl rfl rfl (by decide) (ctor l Z a0 n0 hw _ _ _ _ _) at_5 rfl rfl pd1 rfl (Sh.le rfl) (Sh.le rfl) (Sh.le rfl) (Sh.le rfl) rfl rfl ?_
  rintro _ _ ⟨rfl, rfl⟩
  refine Sh.astore at_8 rfl (Sh.s1_9 rfl rfl) ?_
  by_cases ha : a = (-9223372036854775808)
  · subst ha
    by_cases hb : b = (-9223372036854775808)
    · subst hb
      refine Sh.aload at_10 rfl rfl ?_
      refine Sh.iconst at_12 (x := 0) rfl ?_
      refine Sh.lload_n at_13 rfl ?_
      refine Sh.callV hw (i1 := 26) (i2 := 28) (i3 := 2) (i4 := 30) (i5 := 27) (i6 := 29) (k' := 5) (n' := 20) (B' := b4) (R' := R4) rfl rfl rfl rfl rfl rfl (by decide) rfl (ofL l Z a0 n0 hw _ (-9223372036854775808) _ _ _ _ _ _ _ _ _ 0 0 (by decide) (by decide) rfl (Sh.le rfl) (Sh.le rfl) (Sh.le rfl) rfl (Sh.ls_0) (Sh.ls_0) (Sh.ls_0)) at_14 rfl rfl pd4 rfl (Sh.le rfl) (Sh.le rfl) (Sh.le rfl) (Sh.le rfl) rfl rfl ?_
      rintro _ _ ⟨rfl, rfl⟩
      refine Sh.aload at_17 rfl rfl ?_
      refine Sh.iconst at_19 (x := 1) rfl ?_
      refine Sh.lload_n at_20 rfl ?_
      refine Sh.callV hw (i1 := 26) (i2 := 28) (i3 := 2) (i4 := 30) (i5 := 27) (i6 := 29) (k' := 5) (n' := 20) (B' := b4) (R' := R4) rfl rfl rfl rfl rfl rfl (by decide) rfl (ofL l Z a0 n0 hw _ (-9223372036854775808) _ _ _ _ _ _ _ _ _ 1 1 (by decide) (by decide) rfl (Sh.le rfl) (Sh.le rfl) (Sh.le rfl) rfl (Sh.ls_1) (Sh.ls_1) (Sh.ls_1)) at_21 rfl rfl pd4 rfl (Sh.le rfl) (Sh.le rfl) (Sh.le rfl) (Sh.le rfl) rfl rfl ?_
      rintro _ _ ⟨rfl, rfl⟩
      refine Sh.iload at_24 rfl ?_
      refine Sh.iconst at_26 (x := 2) rfl ?_
      refine Sh.iand at_27 ?_
      refine Sh.if_eq at_28 (pc' := 55) rfl (by decide) (fun h28 => ?_) (fun h28 => ?_)
      · refine Sh.aload at_55 rfl rfl ?_
        refine Sh.callV hw (i1 := 62) (i2 := 64) (i3 := 2) (i4 := 66) (i5 := 63) (i6 := 65) (k' := 5) (n' := 20) (B' := b11) (R' := R11) rfl rfl rfl rfl rfl rfl (by decide) rfl (clr l Z a0 n0 hw _ _ _ _ _ _ (fun j => [].getD j 0) (fun j => [0, 1].getD j 0) 0 0 2 (by decide) (by decide) (by decide) (by decide) (by decide) rfl rfl) at_57 rfl rfl pd11 rfl (Sh.le rfl) (Sh.le rfl) (Sh.le rfl) (Sh.le rfl) rfl rfl ?_
        rintro _ _ ⟨rfl, rfl⟩
        exact fin l Z a0 n0 hw (-9223372036854775808) (-9223372036854775808) c d f _ _ _ _ _ _ _ _ _
      · refine Sh.aload at_31 rfl rfl ?_
        refine Sh.callV hw (i1 := 41) (i2 := 43) (i3 := 2) (i4 := 45) (i5 := 42) (i6 := 44) (k' := 5) (n' := 20) (B' := b7) (R' := R7) rfl rfl rfl rfl rfl rfl (by decide) rfl (poL l Z a0 n0 hw _ _ _ _ _ _ _ 0 2 0 (by decide) (by decide) (by decide) (Sh.le rfl) rfl (Sh.ls_0)) at_33 rfl rfl pd7 rfl (Sh.le rfl) (Sh.le rfl) (Sh.le rfl) (Sh.le rfl) rfl rfl ?_
        rintro _ _ ⟨rfl, rfl⟩
        refine Sh.pop at_36 rfl ?_
        refine Sh.iload at_37 rfl ?_
        refine Sh.iconst at_39 (x := 1) rfl ?_
        refine Sh.iand at_40 ?_
        refine Sh.if_eq at_41 (pc' := 55) rfl (by decide) (fun h41 => ?_) (fun h41 => ?_)
        · refine Sh.aload at_55 rfl rfl ?_
          refine Sh.callV hw (i1 := 62) (i2 := 64) (i3 := 2) (i4 := 66) (i5 := 63) (i6 := 65) (k' := 5) (n' := 20) (B' := b11) (R' := R11) rfl rfl rfl rfl rfl rfl (by decide) rfl (clr l Z a0 n0 hw _ _ _ _ _ _ (fun j => [].getD j 0) (fun j => [0, 1].getD j 0) 0 1 2 (by decide) (by decide) (by decide) (by decide) (by decide) rfl rfl) at_57 rfl rfl pd11 rfl (Sh.le rfl) (Sh.le rfl) (Sh.le rfl) (Sh.le rfl) rfl rfl ?_
          rintro _ _ ⟨rfl, rfl⟩
          exact fin l Z a0 n0 hw (-9223372036854775808) (-9223372036854775808) c d f _ _ _ _ _ _ _ _ _
        · refine Sh.aload at_44 rfl rfl ?_
          refine Sh.iconst at_46 (x := 2) rfl ?_
          refine Sh.lload_n at_47 rfl ?_
          refine Sh.lload_n at_48 rfl ?_
          refine Sh.callS hw (i1 := 58) (i2 := 59) (i3 := 60) (i4 := 61) (k' := 5) (n' := 20) (B' := b10) (R' := R10) rfl rfl rfl rfl (by decide) (mmin l Z a0 n0 hw (-9223372036854775808) (-9223372036854775808) (-9223372036854775808) _ (by decide)) at_49 rfl rfl pd10 rfl (Sh.le rfl) (Sh.le rfl) (Sh.le rfl) (Sh.le rfl) rfl rfl ?_
          rintro _ _ ⟨rfl, rfl⟩
          refine Sh.callV hw (i1 := 26) (i2 := 28) (i3 := 2) (i4 := 30) (i5 := 27) (i6 := 29) (k' := 5) (n' := 20) (B' := b4) (R' := R4) rfl rfl rfl rfl rfl rfl (by decide) rfl (ofL l Z a0 n0 hw _ (-9223372036854775808) _ _ _ _ _ _ _ _ _ 2 2 (by decide) (by decide) rfl (Sh.le rfl) (Sh.le rfl) (Sh.le rfl) rfl (Sh.ls_2) (Sh.ls_2) (Sh.ls_2)) at_52 rfl rfl pd4 rfl (Sh.le rfl) (Sh.le rfl) (Sh.le rfl) (Sh.le rfl) rfl rfl ?_
          rintro _ _ ⟨rfl, rfl⟩
          refine Sh.aload at_55 rfl rfl ?_
          refine Sh.callV hw (i1 := 62) (i2 := 64) (i3 := 2) (i4 := 66) (i5 := 63) (i6 := 65) (k' := 5) (n' := 20) (B' := b11) (R' := R11) rfl rfl rfl rfl rfl rfl (by decide) rfl (clr l Z a0 n0 hw _ _ _ _ _ _ (fun j => [].getD j 0) (fun j => [0, 1, 2].getD j 0) 0 1 3 (by decide) (by decide) (by decide) (by decide) (by decide) rfl rfl) at_57 rfl rfl pd11 rfl (Sh.le rfl) (Sh.le rfl) (Sh.le rfl) (Sh.le rfl) rfl rfl ?_
          rintro _ _ ⟨rfl, rfl⟩
          exact fin l Z a0 n0 hw (-9223372036854775808) (-9223372036854775808) c d f _ _ _ _ _ _ _ _ _
    · skip
      refine Sh.aload at_10 rfl rfl ?_
      refine Sh.iconst at_12 (x := 0) rfl ?_
      refine Sh.lload_n at_13 rfl ?_
      refine Sh.callV hw (i1 := 26) (i2 := 28) (i3 := 2) (i4 := 30) (i5 := 27) (i6 := 29) (k' := 5) (n' := 20) (B' := b4) (R' := R4) rfl rfl rfl rfl rfl rfl (by decide) rfl (ofL l Z a0 n0 hw _ (-9223372036854775808) _ _ _ _ _ _ _ _ _ 0 0 (by decide) (by decide) rfl (Sh.le rfl) (Sh.le rfl) (Sh.le rfl) rfl (Sh.ls_0) (Sh.ls_0) (Sh.ls_0)) at_14 rfl rfl pd4 rfl (Sh.le rfl) (Sh.le rfl) (Sh.le rfl) (Sh.le rfl) rfl rfl ?_
      rintro _ _ ⟨rfl, rfl⟩
      refine Sh.aload at_17 rfl rfl ?_
      refine Sh.iconst at_19 (x := 1) rfl ?_
      refine Sh.lload_n at_20 rfl ?_
      refine Sh.callV hw (i1 := 26) (i2 := 28) (i3 := 2) (i4 := 30) (i5 := 27) (i6 := 29) (k' := 5) (n' := 20) (B' := b4) (R' := R4) rfl rfl rfl rfl rfl rfl (by decide) rfl (ofH l Z a0 n0 hw _ b _ _ _ _ _ _ _ 0 1 _ (by decide) (by decide) rfl (Sh.le rfl) hb (Sh.ls_1) (su0 l Z a0 n0 hw _ _ _ _ _ _ _ _ _ _ 1 (Sh.le rfl) (Sh.le rfl) (by decide) (Sh.ls_0) (Sh.ls_1))) at_21 rfl rfl pd4 rfl (Sh.le rfl) (Sh.le rfl) (Sh.le rfl) (Sh.le rfl) rfl rfl ?_
      rintro _ _ ⟨rfl, rfl⟩
      refine Sh.iload at_24 rfl ?_
      refine Sh.iconst at_26 (x := 2) rfl ?_
      refine Sh.iand at_27 ?_
      refine Sh.if_eq at_28 (pc' := 55) rfl (by decide) (fun h28 => ?_) (fun h28 => ?_)
      · refine Sh.aload at_55 rfl rfl ?_
        refine Sh.callV hw (i1 := 62) (i2 := 64) (i3 := 2) (i4 := 66) (i5 := 63) (i6 := 65) (k' := 5) (n' := 20) (B' := b11) (R' := R11) rfl rfl rfl rfl rfl rfl (by decide) rfl (clr l Z a0 n0 hw _ _ _ _ _ _ (fun j => [1].getD j 0) (fun j => [0].getD j 0) 1 0 1 (by decide) (by decide) (by decide) (by decide) (by decide) rfl rfl) at_57 rfl rfl pd11 rfl (Sh.le rfl) (Sh.le rfl) (Sh.le rfl) (Sh.le rfl) rfl rfl ?_
        rintro _ _ ⟨rfl, rfl⟩
        exact fin l Z a0 n0 hw (-9223372036854775808) b c d f _ _ _ _ _ _ _ _ _
      · refine Sh.aload at_31 rfl rfl ?_
        refine Sh.callV hw (i1 := 41) (i2 := 43) (i3 := 2) (i4 := 45) (i5 := 42) (i6 := 44) (k' := 5) (n' := 20) (B' := b7) (R' := R7) rfl rfl rfl rfl rfl rfl (by decide) rfl (poL l Z a0 n0 hw _ _ _ _ _ _ _ 0 1 0 (by decide) (by decide) (by decide) (Sh.le rfl) rfl (Sh.ls_0)) at_33 rfl rfl pd7 rfl (Sh.le rfl) (Sh.le rfl) (Sh.le rfl) (Sh.le rfl) rfl rfl ?_
        rintro _ _ ⟨rfl, rfl⟩
        refine Sh.pop at_36 rfl ?_
        refine Sh.iload at_37 rfl ?_
        refine Sh.iconst at_39 (x := 1) rfl ?_
        refine Sh.iand at_40 ?_
        refine Sh.if_eq at_41 (pc' := 55) rfl (by decide) (fun h41 => ?_) (fun h41 => ?_)
        · refine Sh.aload at_55 rfl rfl ?_
          refine Sh.callV hw (i1 := 62) (i2 := 64) (i3 := 2) (i4 := 66) (i5 := 63) (i6 := 65) (k' := 5) (n' := 20) (B' := b11) (R' := R11) rfl rfl rfl rfl rfl rfl (by decide) rfl (clr l Z a0 n0 hw _ _ _ _ _ _ (fun j => [1].getD j 0) (fun j => [0].getD j 0) 1 1 1 (by decide) (by decide) (by decide) (by decide) (by decide) rfl rfl) at_57 rfl rfl pd11 rfl (Sh.le rfl) (Sh.le rfl) (Sh.le rfl) (Sh.le rfl) rfl rfl ?_
          rintro _ _ ⟨rfl, rfl⟩
          exact fin l Z a0 n0 hw (-9223372036854775808) b c d f _ _ _ _ _ _ _ _ _
        · refine Sh.aload at_44 rfl rfl ?_
          refine Sh.iconst at_46 (x := 2) rfl ?_
          refine Sh.lload_n at_47 rfl ?_
          refine Sh.lload_n at_48 rfl ?_
          refine Sh.callS hw (i1 := 58) (i2 := 59) (i3 := 60) (i4 := 61) (k' := 5) (n' := 20) (B' := b10) (R' := R10) rfl rfl rfl rfl (by decide) (mmin l Z a0 n0 hw (-9223372036854775808) b (-9223372036854775808) _ (if_neg (own_nlt b))) at_49 rfl rfl pd10 rfl (Sh.le rfl) (Sh.le rfl) (Sh.le rfl) (Sh.le rfl) rfl rfl ?_
          rintro _ _ ⟨rfl, rfl⟩
          refine Sh.callV hw (i1 := 26) (i2 := 28) (i3 := 2) (i4 := 30) (i5 := 27) (i6 := 29) (k' := 5) (n' := 20) (B' := b4) (R' := R4) rfl rfl rfl rfl rfl rfl (by decide) rfl (ofL l Z a0 n0 hw _ (-9223372036854775808) _ _ _ _ _ _ _ _ _ 1 2 (by decide) (by decide) rfl (Sh.le rfl) (Sh.le rfl) (Sh.le rfl) rfl (Sh.ls_2) (Sh.ls_2) (Sh.ls_1)) at_52 rfl rfl pd4 rfl (Sh.le rfl) (Sh.le rfl) (Sh.le rfl) (Sh.le rfl) rfl rfl ?_
          rintro _ _ ⟨rfl, rfl⟩
          refine Sh.aload at_55 rfl rfl ?_
          refine Sh.callV hw (i1 := 62) (i2 := 64) (i3 := 2) (i4 := 66) (i5 := 63) (i6 := 65) (k' := 5) (n' := 20) (B' := b11) (R' := R11) rfl rfl rfl rfl rfl rfl (by decide) rfl (clr l Z a0 n0 hw _ _ _ _ _ _ (fun j => [1].getD j 0) (fun j => [0, 2].getD j 0) 1 1 2 (by decide) (by decide) (by decide) (by decide) (by decide) rfl rfl) at_57 rfl rfl pd11 rfl (Sh.le rfl) (Sh.le rfl) (Sh.le rfl) (Sh.le rfl) rfl rfl ?_
          rintro _ _ ⟨rfl, rfl⟩
          exact fin l Z a0 n0 hw (-9223372036854775808) b c d f _ _ _ _ _ _ _ _ _
  · by_cases hb : b = (-9223372036854775808)
    · subst hb
      refine Sh.aload at_10 rfl rfl ?_
      refine Sh.iconst at_12 (x := 0) rfl ?_
      refine Sh.lload_n at_13 rfl ?_
      refine Sh.callV hw (i1 := 26) (i2 := 28) (i3 := 2) (i4 := 30) (i5 := 27) (i6 := 29) (k' := 5) (n' := 20) (B' := b4) (R' := R4) rfl rfl rfl rfl rfl rfl (by decide) rfl (ofH l Z a0 n0 hw _ a _ _ _ _ _ _ _ 0 0 _ (by decide) (by decide) rfl (Sh.le rfl) ha (Sh.ls_0) (su0 l Z a0 n0 hw _ _ _ _ _ _ _ _ _ _ 0 (Sh.le rfl) (Sh.le rfl) (by decide) (Sh.ls_0) (Sh.ls_0))) at_14 rfl rfl pd4 rfl (Sh.le rfl) (Sh.le rfl) (Sh.le rfl) (Sh.le rfl) rfl rfl ?_
      rintro _ _ ⟨rfl, rfl⟩
      refine Sh.aload at_17 rfl rfl ?_
      refine Sh.iconst at_19 (x := 1) rfl ?_
      refine Sh.lload_n at_20 rfl ?_
      refine Sh.callV hw (i1 := 26) (i2 := 28) (i3 := 2) (i4 := 30) (i5 := 27) (i6 := 29) (k' := 5) (n' := 20) (B' := b4) (R' := R4) rfl rfl rfl rfl rfl rfl (by decide) rfl (ofL l Z a0 n0 hw _ (-9223372036854775808) _ _ _ _ _ _ _ _ _ 0 1 (by decide) (by decide) rfl (Sh.le rfl) (Sh.le rfl) (Sh.le rfl) rfl (Sh.ls_1) (Sh.ls_1) (Sh.ls_0)) at_21 rfl rfl pd4 rfl (Sh.le rfl) (Sh.le rfl) (Sh.le rfl) (Sh.le rfl) rfl rfl ?_
      rintro _ _ ⟨rfl, rfl⟩
      refine Sh.iload at_24 rfl ?_
      refine Sh.iconst at_26 (x := 2) rfl ?_
      refine Sh.iand at_27 ?_
      refine Sh.if_eq at_28 (pc' := 55) rfl (by decide) (fun h28 => ?_) (fun h28 => ?_)
      · refine Sh.aload at_55 rfl rfl ?_
        refine Sh.callV hw (i1 := 62) (i2 := 64) (i3 := 2) (i4 := 66) (i5 := 63) (i6 := 65) (k' := 5) (n' := 20) (B' := b11) (R' := R11) rfl rfl rfl rfl rfl rfl (by decide) rfl (clr l Z a0 n0 hw _ _ _ _ _ _ (fun j => [0].getD j 0) (fun j => [1].getD j 0) 1 0 1 (by decide) (by decide) (by decide) (by decide) (by decide) rfl rfl) at_57 rfl rfl pd11 rfl (Sh.le rfl) (Sh.le rfl) (Sh.le rfl) (Sh.le rfl) rfl rfl ?_
        rintro _ _ ⟨rfl, rfl⟩
        exact fin l Z a0 n0 hw a (-9223372036854775808) c d f _ _ _ _ _ _ _ _ _
      · refine Sh.aload at_31 rfl rfl ?_
        refine Sh.callV hw (i1 := 41) (i2 := 43) (i3 := 2) (i4 := 45) (i5 := 42) (i6 := 44) (k' := 5) (n' := 20) (B' := b7) (R' := R7) rfl rfl rfl rfl rfl rfl (by decide) rfl (poL l Z a0 n0 hw _ _ _ _ _ _ _ 0 1 1 (by decide) (by decide) (by decide) (Sh.le rfl) rfl (Sh.ls_1)) at_33 rfl rfl pd7 rfl (Sh.le rfl) (Sh.le rfl) (Sh.le rfl) (Sh.le rfl) rfl rfl ?_
        rintro _ _ ⟨rfl, rfl⟩
        refine Sh.pop at_36 rfl ?_
        refine Sh.iload at_37 rfl ?_
        refine Sh.iconst at_39 (x := 1) rfl ?_
        refine Sh.iand at_40 ?_
        refine Sh.if_eq at_41 (pc' := 55) rfl (by decide) (fun h41 => ?_) (fun h41 => ?_)
        · refine Sh.aload at_55 rfl rfl ?_
          refine Sh.callV hw (i1 := 62) (i2 := 64) (i3 := 2) (i4 := 66) (i5 := 63) (i6 := 65) (k' := 5) (n' := 20) (B' := b11) (R' := R11) rfl rfl rfl rfl rfl rfl (by decide) rfl (clr l Z a0 n0 hw _ _ _ _ _ _ (fun j => [0].getD j 0) (fun j => [1].getD j 0) 1 1 1 (by decide) (by decide) (by decide) (by decide) (by decide) rfl rfl) at_57 rfl rfl pd11 rfl (Sh.le rfl) (Sh.le rfl) (Sh.le rfl) (Sh.le rfl) rfl rfl ?_
          rintro _ _ ⟨rfl, rfl⟩
          exact fin l Z a0 n0 hw a (-9223372036854775808) c d f _ _ _ _ _ _ _ _ _
        · refine Sh.aload at_44 rfl rfl ?_
          refine Sh.iconst at_46 (x := 2) rfl ?_
          refine Sh.lload_n at_47 rfl ?_
          refine Sh.lload_n at_48 rfl ?_
          refine Sh.callS hw (i1 := 58) (i2 := 59) (i3 := 60) (i4 := 61) (k' := 5) (n' := 20) (B' := b10) (R' := R10) rfl rfl rfl rfl (by decide) (mmin l Z a0 n0 hw a (-9223372036854775808) (-9223372036854775808) _ (if_pos (own_lt a ha))) at_49 rfl rfl pd10 rfl (Sh.le rfl) (Sh.le rfl) (Sh.le rfl) (Sh.le rfl) rfl rfl ?_
          rintro _ _ ⟨rfl, rfl⟩
          refine Sh.callV hw (i1 := 26) (i2 := 28) (i3 := 2) (i4 := 30) (i5 := 27) (i6 := 29) (k' := 5) (n' := 20) (B' := b4) (R' := R4) rfl rfl rfl rfl rfl rfl (by decide) rfl (ofL l Z a0 n0 hw _ (-9223372036854775808) _ _ _ _ _ _ _ _ _ 1 2 (by decide) (by decide) rfl (Sh.le rfl) (Sh.le rfl) (Sh.le rfl) rfl (Sh.ls_2) (Sh.ls_2) (Sh.ls_1)) at_52 rfl rfl pd4 rfl (Sh.le rfl) (Sh.le rfl) (Sh.le rfl) (Sh.le rfl) rfl rfl ?_
          rintro _ _ ⟨rfl, rfl⟩
          refine Sh.aload at_55 rfl rfl ?_
          refine Sh.callV hw (i1 := 62) (i2 := 64) (i3 := 2) (i4 := 66) (i5 := 63) (i6 := 65) (k' := 5) (n' := 20) (B' := b11) (R' := R11) rfl rfl rfl rfl rfl rfl (by decide) rfl (clr l Z a0 n0 hw _ _ _ _ _ _ (fun j => [0].getD j 0) (fun j => [1, 2].getD j 0) 1 1 2 (by decide) (by decide) (by decide) (by decide) (by decide) rfl rfl) at_57 rfl rfl pd11 rfl (Sh.le rfl) (Sh.le rfl) (Sh.le rfl) (Sh.le rfl) rfl rfl ?_
          rintro _ _ ⟨rfl, rfl⟩
          exact fin l Z a0 n0 hw a (-9223372036854775808) c d f _ _ _ _ _ _ _ _ _
    · by_cases hl : b < a
      · skip
        refine Sh.aload at_10 rfl rfl ?_
        refine Sh.iconst at_12 (x := 0) rfl ?_
        refine Sh.lload_n at_13 rfl ?_
        refine Sh.callV hw (i1 := 26) (i2 := 28) (i3 := 2) (i4 := 30) (i5 := 27) (i6 := 29) (k' := 5) (n' := 20) (B' := b4) (R' := R4) rfl rfl rfl rfl rfl rfl (by decide) rfl (ofH l Z a0 n0 hw _ a _ _ _ _ _ _ _ 0 0 _ (by decide) (by decide) rfl (Sh.le rfl) ha (Sh.ls_0) (su0 l Z a0 n0 hw _ _ _ _ _ _ _ _ _ _ 0 (Sh.le rfl) (Sh.le rfl) (by decide) (Sh.ls_0) (Sh.ls_0))) at_14 rfl rfl pd4 rfl (Sh.le rfl) (Sh.le rfl) (Sh.le rfl) (Sh.le rfl) rfl rfl ?_
        rintro _ _ ⟨rfl, rfl⟩
        refine Sh.aload at_17 rfl rfl ?_
        refine Sh.iconst at_19 (x := 1) rfl ?_
        refine Sh.lload_n at_20 rfl ?_
        refine Sh.callV hw (i1 := 26) (i2 := 28) (i3 := 2) (i4 := 30) (i5 := 27) (i6 := 29) (k' := 5) (n' := 20) (B' := b4) (R' := R4) rfl rfl rfl rfl rfl rfl (by decide) rfl (ofH l Z a0 n0 hw _ b _ _ _ _ _ _ _ 1 1 _ (by decide) (by decide) rfl (Sh.le rfl) hb (Sh.ls_1) (su1s l Z a0 n0 hw _ _ _ _ _ _ _ _ _ _ _ _ 1 0 (Sh.le rfl) (Sh.le rfl) (Sh.le rfl) (by decide) (by decide) (Sh.ls_1) (Sh.ls_0) (Sh.ls_0) (Sh.ls_1) _ _ rfl rfl rfl hl)) at_21 rfl rfl pd4 rfl (Sh.le rfl) (Sh.le rfl) (Sh.le rfl) (Sh.le rfl) rfl rfl ?_
        rintro _ _ ⟨rfl, rfl⟩
        refine Sh.iload at_24 rfl ?_
        refine Sh.iconst at_26 (x := 2) rfl ?_
        refine Sh.iand at_27 ?_
        refine Sh.if_eq at_28 (pc' := 55) rfl (by decide) (fun h28 => ?_) (fun h28 => ?_)
        · refine Sh.aload at_55 rfl rfl ?_
          refine Sh.callV hw (i1 := 62) (i2 := 64) (i3 := 2) (i4 := 66) (i5 := 63) (i6 := 65) (k' := 5) (n' := 20) (B' := b11) (R' := R11) rfl rfl rfl rfl rfl rfl (by decide) rfl (clr l Z a0 n0 hw _ _ _ _ _ _ (fun j => [1, 0].getD j 0) (fun j => [].getD j 0) 2 0 0 (by decide) (by decide) (by decide) (by decide) (by decide) rfl rfl) at_57 rfl rfl pd11 rfl (Sh.le rfl) (Sh.le rfl) (Sh.le rfl) (Sh.le rfl) rfl rfl ?_
          rintro _ _ ⟨rfl, rfl⟩
          exact fin l Z a0 n0 hw a b c d f _ _ _ _ _ _ _ _ _
        · refine Sh.aload at_31 rfl rfl ?_
          refine Sh.callV hw (i1 := 41) (i2 := 43) (i3 := 2) (i4 := 45) (i5 := 42) (i6 := 44) (k' := 5) (n' := 20) (B' := b7) (R' := R7) rfl rfl rfl rfl rfl rfl (by decide) rfl (poH l Z a0 n0 hw _ _ _ _ _ _ _ _ _ _ 0 0 1 _ (by decide) (by decide) (by decide) (Sh.le rfl) rfl rfl (rv2 l Z a0 n0 hw _ _ _ _ _ _ _ _ _ _ _ 1 0 (by decide) (by decide) (Sh.le rfl) (Sh.le rfl) (Sh.le rfl) rfl rfl (Sh.ls_1) (Sh.ls_0) (Sh.ls_0) (Sh.ls_0) (Sh.ls_0)) (Sh.ls_1)) at_33 rfl rfl pd7 rfl (Sh.le rfl) (Sh.le rfl) (Sh.le rfl) (Sh.le rfl) rfl rfl ?_
          rintro _ _ ⟨rfl, rfl⟩
          refine Sh.pop at_36 rfl ?_
          refine Sh.iload at_37 rfl ?_
          refine Sh.iconst at_39 (x := 1) rfl ?_
          refine Sh.iand at_40 ?_
          refine Sh.if_eq at_41 (pc' := 55) rfl (by decide) (fun h41 => ?_) (fun h41 => ?_)
          · refine Sh.aload at_55 rfl rfl ?_
            refine Sh.callV hw (i1 := 62) (i2 := 64) (i3 := 2) (i4 := 66) (i5 := 63) (i6 := 65) (k' := 5) (n' := 20) (B' := b11) (R' := R11) rfl rfl rfl rfl rfl rfl (by decide) rfl (clr l Z a0 n0 hw _ _ _ _ _ _ (fun j => [0].getD j 0) (fun j => [].getD j 0) 1 0 0 (by decide) (by decide) (by decide) (by decide) (by decide) rfl rfl) at_57 rfl rfl pd11 rfl (Sh.le rfl) (Sh.le rfl) (Sh.le rfl) (Sh.le rfl) rfl rfl ?_
            rintro _ _ ⟨rfl, rfl⟩
            exact fin l Z a0 n0 hw a b c d f _ _ _ _ _ _ _ _ _
          · refine Sh.aload at_44 rfl rfl ?_
            refine Sh.iconst at_46 (x := 2) rfl ?_
            refine Sh.lload_n at_47 rfl ?_
            refine Sh.lload_n at_48 rfl ?_
            refine Sh.callS hw (i1 := 58) (i2 := 59) (i3 := 60) (i4 := 61) (k' := 5) (n' := 20) (B' := b10) (R' := R10) rfl rfl rfl rfl (by decide) (mmin l Z a0 n0 hw a b b _ (if_pos hl)) at_49 rfl rfl pd10 rfl (Sh.le rfl) (Sh.le rfl) (Sh.le rfl) (Sh.le rfl) rfl rfl ?_
            rintro _ _ ⟨rfl, rfl⟩
            refine Sh.callV hw (i1 := 26) (i2 := 28) (i3 := 2) (i4 := 30) (i5 := 27) (i6 := 29) (k' := 5) (n' := 20) (B' := b4) (R' := R4) rfl rfl rfl rfl rfl rfl (by decide) rfl (ofL l Z a0 n0 hw _ b _ _ _ _ _ _ _ _ _ 0 2 (by decide) (by decide) rfl (Sh.le rfl) (Sh.le rfl) (Sh.le rfl) rfl (Sh.ls_2) (Sh.ls_2) (Sh.ls_0)) at_52 rfl rfl pd4 rfl (Sh.le rfl) (Sh.le rfl) (Sh.le rfl) (Sh.le rfl) rfl rfl ?_
            rintro _ _ ⟨rfl, rfl⟩
            refine Sh.aload at_55 rfl rfl ?_
            refine Sh.callV hw (i1 := 62) (i2 := 64) (i3 := 2) (i4 := 66) (i5 := 63) (i6 := 65) (k' := 5) (n' := 20) (B' := b11) (R' := R11) rfl rfl rfl rfl rfl rfl (by decide) rfl (clr l Z a0 n0 hw _ _ _ _ _ _ (fun j => [0].getD j 0) (fun j => [2].getD j 0) 1 0 1 (by decide) (by decide) (by decide) (by decide) (by decide) rfl rfl) at_57 rfl rfl pd11 rfl (Sh.le rfl) (Sh.le rfl) (Sh.le rfl) (Sh.le rfl) rfl rfl ?_
            rintro _ _ ⟨rfl, rfl⟩
            exact fin l Z a0 n0 hw a b c d f _ _ _ _ _ _ _ _ _
      · skip
        refine Sh.aload at_10 rfl rfl ?_
        refine Sh.iconst at_12 (x := 0) rfl ?_
        refine Sh.lload_n at_13 rfl ?_
        refine Sh.callV hw (i1 := 26) (i2 := 28) (i3 := 2) (i4 := 30) (i5 := 27) (i6 := 29) (k' := 5) (n' := 20) (B' := b4) (R' := R4) rfl rfl rfl rfl rfl rfl (by decide) rfl (ofH l Z a0 n0 hw _ a _ _ _ _ _ _ _ 0 0 _ (by decide) (by decide) rfl (Sh.le rfl) ha (Sh.ls_0) (su0 l Z a0 n0 hw _ _ _ _ _ _ _ _ _ _ 0 (Sh.le rfl) (Sh.le rfl) (by decide) (Sh.ls_0) (Sh.ls_0))) at_14 rfl rfl pd4 rfl (Sh.le rfl) (Sh.le rfl) (Sh.le rfl) (Sh.le rfl) rfl rfl ?_
        rintro _ _ ⟨rfl, rfl⟩
        refine Sh.aload at_17 rfl rfl ?_
        refine Sh.iconst at_19 (x := 1) rfl ?_
        refine Sh.lload_n at_20 rfl ?_
        refine Sh.callV hw (i1 := 26) (i2 := 28) (i3 := 2) (i4 := 30) (i5 := 27) (i6 := 29) (k' := 5) (n' := 20) (B' := b4) (R' := R4) rfl rfl rfl rfl rfl rfl (by decide) rfl (ofH l Z a0 n0 hw _ b _ _ _ _ _ _ _ 1 1 _ (by decide) (by decide) rfl (Sh.le rfl) hb (Sh.ls_1) (su1n l Z a0 n0 hw _ _ _ _ _ _ _ _ _ _ 1 (Sh.le rfl) (Sh.le rfl) (by decide) (Sh.ls_1) (Sh.ls_1) 0 (by decide) _ _ rfl rfl rfl hl)) at_21 rfl rfl pd4 rfl (Sh.le rfl) (Sh.le rfl) (Sh.le rfl) (Sh.le rfl) rfl rfl ?_
        rintro _ _ ⟨rfl, rfl⟩
        refine Sh.iload at_24 rfl ?_
        refine Sh.iconst at_26 (x := 2) rfl ?_
        refine Sh.iand at_27 ?_
        refine Sh.if_eq at_28 (pc' := 55) rfl (by decide) (fun h28 => ?_) (fun h28 => ?_)
        · refine Sh.aload at_55 rfl rfl ?_
          refine Sh.callV hw (i1 := 62) (i2 := 64) (i3 := 2) (i4 := 66) (i5 := 63) (i6 := 65) (k' := 5) (n' := 20) (B' := b11) (R' := R11) rfl rfl rfl rfl rfl rfl (by decide) rfl (clr l Z a0 n0 hw _ _ _ _ _ _ (fun j => [0, 1].getD j 0) (fun j => [].getD j 0) 2 0 0 (by decide) (by decide) (by decide) (by decide) (by decide) rfl rfl) at_57 rfl rfl pd11 rfl (Sh.le rfl) (Sh.le rfl) (Sh.le rfl) (Sh.le rfl) rfl rfl ?_
          rintro _ _ ⟨rfl, rfl⟩
          exact fin l Z a0 n0 hw a b c d f _ _ _ _ _ _ _ _ _
        · refine Sh.aload at_31 rfl rfl ?_
          refine Sh.callV hw (i1 := 41) (i2 := 43) (i3 := 2) (i4 := 45) (i5 := 42) (i6 := 44) (k' := 5) (n' := 20) (B' := b7) (R' := R7) rfl rfl rfl rfl rfl rfl (by decide) rfl (poH l Z a0 n0 hw _ _ _ _ _ _ _ _ _ _ 0 0 0 _ (by decide) (by decide) (by decide) (Sh.le rfl) rfl rfl (rv2 l Z a0 n0 hw _ _ _ _ _ _ _ _ _ _ _ 0 1 (by decide) (by decide) (Sh.le rfl) (Sh.le rfl) (Sh.le rfl) rfl rfl (Sh.ls_0) (Sh.ls_0) (Sh.ls_1) (Sh.ls_0) (Sh.ls_1)) (Sh.ls_0)) at_33 rfl rfl pd7 rfl (Sh.le rfl) (Sh.le rfl) (Sh.le rfl) (Sh.le rfl) rfl rfl ?_
          rintro _ _ ⟨rfl, rfl⟩
          refine Sh.pop at_36 rfl ?_
          refine Sh.iload at_37 rfl ?_
          refine Sh.iconst at_39 (x := 1) rfl ?_
          refine Sh.iand at_40 ?_
          refine Sh.if_eq at_41 (pc' := 55) rfl (by decide) (fun h41 => ?_) (fun h41 => ?_)
          · refine Sh.aload at_55 rfl rfl ?_
            refine Sh.callV hw (i1 := 62) (i2 := 64) (i3 := 2) (i4 := 66) (i5 := 63) (i6 := 65) (k' := 5) (n' := 20) (B' := b11) (R' := R11) rfl rfl rfl rfl rfl rfl (by decide) rfl (clr l Z a0 n0 hw _ _ _ _ _ _ (fun j => [1].getD j 0) (fun j => [].getD j 0) 1 0 0 (by decide) (by decide) (by decide) (by decide) (by decide) rfl rfl) at_57 rfl rfl pd11 rfl (Sh.le rfl) (Sh.le rfl) (Sh.le rfl) (Sh.le rfl) rfl rfl ?_
            rintro _ _ ⟨rfl, rfl⟩
            exact fin l Z a0 n0 hw a b c d f _ _ _ _ _ _ _ _ _
          · refine Sh.aload at_44 rfl rfl ?_
            refine Sh.iconst at_46 (x := 2) rfl ?_
            refine Sh.lload_n at_47 rfl ?_
            refine Sh.lload_n at_48 rfl ?_
            refine Sh.callS hw (i1 := 58) (i2 := 59) (i3 := 60) (i4 := 61) (k' := 5) (n' := 20) (B' := b10) (R' := R10) rfl rfl rfl rfl (by decide) (mmin l Z a0 n0 hw a b a _ (if_neg hl)) at_49 rfl rfl pd10 rfl (Sh.le rfl) (Sh.le rfl) (Sh.le rfl) (Sh.le rfl) rfl rfl ?_
            rintro _ _ ⟨rfl, rfl⟩
            refine Sh.callV hw (i1 := 26) (i2 := 28) (i3 := 2) (i4 := 30) (i5 := 27) (i6 := 29) (k' := 5) (n' := 20) (B' := b4) (R' := R4) rfl rfl rfl rfl rfl rfl (by decide) rfl (ofL l Z a0 n0 hw _ a _ _ _ _ _ _ _ _ _ 0 2 (by decide) (by decide) rfl (Sh.le rfl) (Sh.le rfl) (Sh.le rfl) rfl (Sh.ls_2) (Sh.ls_2) (Sh.ls_0)) at_52 rfl rfl pd4 rfl (Sh.le rfl) (Sh.le rfl) (Sh.le rfl) (Sh.le rfl) rfl rfl ?_
            rintro _ _ ⟨rfl, rfl⟩
            refine Sh.aload at_55 rfl rfl ?_
            refine Sh.callV hw (i1 := 62) (i2 := 64) (i3 := 2) (i4 := 66) (i5 := 63) (i6 := 65) (k' := 5) (n' := 20) (B' := b11) (R' := R11) rfl rfl rfl rfl rfl rfl (by decide) rfl (clr l Z a0 n0 hw _ _ _ _ _ _ (fun j => [1].getD j 0) (fun j => [2].getD j 0) 1 0 1 (by decide) (by decide) (by decide) (by decide) (by decide) rfl rfl) at_57 rfl rfl pd11 rfl (Sh.le rfl) (Sh.le rfl) (Sh.le rfl) (Sh.le rfl) rfl rfl ?_
            rintro _ _ ⟨rfl, rfl⟩
            exact fin l Z a0 n0 hw a b c d f _ _ _ _ _ _ _ _ _
end
set_option maxRecDepth 65536 in
set_option maxHeartbeats 40000000 in
theorem comes_1 {Post : Tables → Env → Array Value → State → Outcome → State → Prop} (hpost : ∀ tb e args s v u, (limb_1_1.after args s (.returned v) u = true ∧ limb_1_2.after args s (.returned v) u = true ∧ True) → FrameEnd s (.returned v) u (Jvm.fieldLocs frame_1_writes args s ++ Jvm.arrayLocs frame_1_arrays args s ++ Jvm.staticLocs frame_1_statics s) 24 128 → Post tb e args s (.returned v) u) :
    ArmFor flags0 classFile x code maxLocals ret World_1 tables_1 room_1 Calls_1 rest_1 Pre_1 Post := by
  intro l hfl _ _ p e ha hc hk s m args below hf hA hF happ hP
  obtain ⟨hcalls, hrest, hpre⟩ := hP
  obtain ⟨-, -, -, -, -, -, -, hat⟩ := (Spec.applies_iff hf).mp happ
  obtain ⟨hg, hn⟩ := and_e (Cond.before_iff.mp (show (Jvm.Cond.and given_1 narrow_1).before args s = true from hpre))
  obtain ⟨h1, h2⟩ := and_e hg
  obtain ⟨w0, w1, w2, w3, w4, rfl⟩ : ∃ w0 w1 w2 w3 w4 : Value, args = #[w0, w1, w2, w3, w4] := by
    have hs : args.size = 5 := by simpa [Cond.value, given_1] using h1
    obtain ⟨L⟩ := args
    match L, hs with
    | [w0, w1, w2, w3, w4], _ => exact ⟨w0, w1, w2, w3, w4, rfl⟩
  have hw := fun d (hd : d ∈ tables_1) => atoms_spec (ws := Jvm.Cond.code x code maxLocals ret :: tables_1) hat d (List.mem_cons_of_mem _ hd)
  obtain ⟨g0, q0⟩ := and_e h2
  obtain ⟨i0, e0⟩ := isL_v g0
  obtain rfl : w0 = (.long i0) := Option.some.inj e0
  obtain ⟨g1, q1⟩ := and_e q0
  obtain ⟨i1, e1⟩ := isL_v g1
  obtain rfl : w1 = (.long i1) := Option.some.inj e1
  obtain ⟨g2, q2⟩ := and_e q1
  obtain ⟨i2, e2⟩ := isL_v g2
  obtain rfl : w2 = (.long i2) := Option.some.inj e2
  obtain ⟨g3, q3⟩ := and_e q2
  obtain ⟨i3, e3⟩ := isL_v g3
  obtain rfl : w3 = (.long i3) := Option.some.inj e3
  obtain ⟨i4, e4⟩ := is_v q3
  obtain rfl : w4 = (.int i4) := Option.some.inj e4
  have hM := law_ok l s _ s.heap.size hw i0 i1 i2 i3 i4 s.heap tables_1 ⟨by simp, fun i c h => by simp at h⟩ p e ha hc hk s m _ below hf ((Spec.applies_iff_loose hf).mp happ).1 ⟨by simp [Sh.lf], State.Warmed39.refl s, rfl⟩ trivial
  obtain ⟨n, o, h1, h2, h3, _, L, rfl, ⟨v, H, rfl, rfl, hR, N⟩, hq⟩ := hM
  refine ⟨n, _, h1, h2, h3, hpost _ _ _ _ _ _ ⟨Cond.after_iff.mpr rfl, Cond.after_iff.mpr (eq_i res_at (Term.int_eval (1)) rfl), trivial⟩ ⟨hq.1, hq.2.1, (hq.2.2.sift fun y hy => Or.inr (N y hy)).mono (by decide) (by decide)⟩⟩
theorem main_1_1 : Claimed_1_1 := comes_1 fun _ _ _ _ _ _ h hF => ⟨h.1, hF⟩
theorem main_1_2 : Claimed_1_2 := comes_1 fun _ _ _ _ _ _ h hF => ⟨h.2.1, hF⟩
end Jvm.Pilot.@@N@@
namespace Jvm.Pilot.@@N@@
open Jvm Jvm.ClassFile Sem Op Lib Jvm.Free Jvm.Stand Jvm.Pilot.@@N@@.Jvm.D
/-! MADE BY PROGRAM (witnessworld.py) out of the Statement's table words and the real class files: 13 classes; the members and pool entries that the words name. The judged class is class 1, her method 1. -/
namespace start1
open Jvm.ClassFile
def u (s : String) : CpInfo := .utf8 (stringToUtf16 s)
/-- a pool by its gaps: so many unusable entries, then the entry; so many at the end -/
def gap : Nat → List CpInfo → List CpInfo
  | 0, r => r
  | n + 1, r => .unusable :: gap n r
def poolList (es : List (Nat × CpInfo)) (last : Nat) : List CpInfo := es.foldr (fun e r => gap e.1 (e.2 :: r)) (gap last [])
def pool (es : List (Nat × CpInfo)) (last : Nat) : Array CpInfo := ⟨poolList es last⟩
def fileOf (pool : Array CpInfo) (this : Nat) (attrs : Array Attribute := #[]) (ms : Array MethodInfo := #[]) (fl : Nat := 33) (sup : Nat := 0) (ifs : Array Nat := #[]) (fds : Array FieldInfo := #[]) : ClassFile where
  minorVersion := 0
  majorVersion := 65
  constantPool := pool
  accessFlags := fl
  thisClass := this
  superClass := sup
  interfaces := ifs
  fields := fds
  methods := ms
  attributes := attrs
def plain (name : String) (sup : Option ClassId) : Class where
  name := name
  kind := .ordinary
  loader := none
  accessFlags := 33
  super := sup
  interfaces := #[]
  cf := none
  fields := #[]
  methods := #[]
  instanceTypes := #[]
  staticTypes := #[]
  resolved := #[]
  callSites := []
  init := .initialized
  statics := none
  mirror := none

def pool0 : Array CpInfo := pool [(5, u "<init>"), (0, u "()V"), (1, .class_ 10), (1, u "java/lang/Object")] 113

def k0c0 : Code := { maxStack := 0, maxLocals := 1, code := object_method_1_code, exceptionTable := #[], attributes := #[] }
def k0m0 : Method := { name := "<init>", desc := "()V", sig := { parameters := [], returnType := none }, accessFlags := 1, code := some k0c0 }
/-- java/lang/Object -/
def k0 : Class := { plain "java/lang/Object" none with
  accessFlags := 33
  interfaces := #[]
  cf := some (fileOf pool0 8 #[] #[{ accessFlags := 1, nameIndex := 5, descriptorIndex := 6, attributes := #[] }] 33 0 #[] #[])
  fields := #[]
  methods := #[k0m0]
  instanceTypes := #[]
  staticTypes := #[]
  resolved := Array.replicate 124 none
  statics := none }

def pool1 : Array CpInfo := pool [(2, .class_ 4), (1, u "java/lang/Object"), (0, u "<init>"), (0, u "()V"), (0, .class_ 8), (0, u "com/example/tideline/tideline/listrounding/NodeQueue"), (0, .methodref 7 10), (0, .nameAndType 5 11), (0, u "(I)V"), (0, .methodref 7 13), (0, .nameAndType 14 15), (0, u "offer"), (0, u "(IJ)V"), (0, .methodref 7 17), (0, .nameAndType 18 19), (0, u "poll"), (0, u "()I"), (0, .methodref 21 22), (0, .class_ 23), (0, .nameAndType 24 25), (0, u "java/lang/Math"), (0, u "min"), (0, u "(JJ)J"), (0, .methodref 7 27), (0, .nameAndType 28 6), (0, u "clear"), (0, .methodref 7 30), (0, .nameAndType 31 32), (0, u "isEmpty"), (0, u "()Z"), (0, .methodref 7 34), (0, .nameAndType 35 36), (0, u "peekKey"), (0, u "()J"), (0, .class_ 38), (0, u "com/example/tideline/tideline/listrounding/NodeQueueClearPinLaw"), (2, u "law"), (0, u "(JJJJI)Z")] 3

def k1m0 : Method := { name := "<init>", desc := "()V", sig := { parameters := [], returnType := none }, accessFlags := 1, code := none }
def k1c1 : Code := { maxStack := 6, maxLocals := 16, code := code, exceptionTable := #[], attributes := #[] }
def k1m1 : Method := { name := "law", desc := "(JJJJI)Z", sig := { parameters := [.long, .long, .long, .long, .int], returnType := some .boolean }, accessFlags := 9, code := some k1c1 }
/-- com/example/tideline/tideline/listrounding/NodeQueueClearPinLaw -/
def k1 : Class := { plain "com/example/tideline/tideline/listrounding/NodeQueueClearPinLaw" (some 0) with
  accessFlags := 49
  interfaces := #[]
  cf := some (fileOf pool1 37 #[] #[{ accessFlags := 1, nameIndex := 5, descriptorIndex := 6, attributes := #[] }, { accessFlags := 9, nameIndex := 41, descriptorIndex := 42, attributes := #[] }] 49 2 #[] #[])
  fields := #[]
  methods := #[k1m0, k1m1]
  instanceTypes := #[]
  staticTypes := #[]
  resolved := Array.replicate 46 none
  statics := none }

def pool2 : Array CpInfo := pool [(1, .methodref 2 3), (0, .class_ 4), (0, .nameAndType 5 6), (0, u "java/lang/Object"), (0, u "<init>"), (0, u "()V"), (2, .long 9223372036854775808), (1, .fieldref 12 13), (0, .class_ 14), (0, .nameAndType 15 16), (0, u "com/example/tideline/tideline/listrounding/NodeQueue"), (0, u "lineKey"), (0, u "J"), (0, .fieldref 12 18), (0, .nameAndType 19 20), (0, u "heap"), (0, u "[I"), (0, .fieldref 12 22), (0, .nameAndType 23 20), (0, u "places"), (0, .fieldref 12 25), (0, .nameAndType 26 27), (0, u "keys"), (0, u "[J"), (0, .fieldref 12 29), (0, .nameAndType 30 20), (0, u "line"), (0, .methodref 32 33), (0, .class_ 34), (0, .nameAndType 35 36), (0, u "java/util/Arrays"), (0, u "fill"), (0, u "([II)V"), (0, .fieldref 12 38), (0, .nameAndType 39 40), (0, u "size"), (0, u "I"), (0, .fieldref 12 42), (0, .nameAndType 43 40), (0, u "lineFrom"), (0, .fieldref 12 45), (0, .nameAndType 46 40), (0, u "lineTo"), (0, .methodref 12 48), (0, .nameAndType 49 50), (0, u "remove"), (0, u "(I)V"), (0, .methodref 12 52), (0, .nameAndType 53 54), (0, u "siftUp"), (0, u "(II)V"), (0, .methodref 12 56), (0, .nameAndType 57 54), (0, u "siftDown"), (0, .methodref 12 59), (0, .nameAndType 60 54), (0, u "place"), (0, u "ABSENT"), (2, u "IN_LINE"), (3, u "clear"), (1, u "isEmpty"), (0, u "()Z"), (0, u "peekKey"), (0, u "()J"), (0, u "offer"), (0, u "(IJ)V"), (0, u "poll"), (0, u "()I")] 2

def k2c0 : Code := { maxStack := 3, maxLocals := 2, code := prog_29_method_1_code, exceptionTable := #[], attributes := #[] }
def k2m0 : Method := { name := "<init>", desc := "(I)V", sig := { parameters := [.int], returnType := none }, accessFlags := 0, code := some k2c0 }
def k2c1 : Code := { maxStack := 3, maxLocals := 2, code := prog_29_method_2_code, exceptionTable := #[], attributes := #[] }
def k2m1 : Method := { name := "clear", desc := "()V", sig := { parameters := [], returnType := none }, accessFlags := 0, code := some k2c1 }
def k2c2 : Code := { maxStack := 2, maxLocals := 1, code := prog_29_method_3_code, exceptionTable := #[], attributes := #[] }
def k2m2 : Method := { name := "isEmpty", desc := "()Z", sig := { parameters := [], returnType := some .boolean }, accessFlags := 0, code := some k2c2 }
def k2c3 : Code := { maxStack := 3, maxLocals := 1, code := prog_29_method_4_code, exceptionTable := #[], attributes := #[] }
def k2m3 : Method := { name := "peekKey", desc := "()J", sig := { parameters := [], returnType := some .long }, accessFlags := 0, code := some k2c3 }
def k2c4 : Code := { maxStack := 6, maxLocals := 5, code := prog_29_method_5_code, exceptionTable := #[], attributes := #[] }
def k2m4 : Method := { name := "offer", desc := "(IJ)V", sig := { parameters := [.int, .long], returnType := none }, accessFlags := 0, code := some k2c4 }
def k2c5 : Code := { maxStack := 3, maxLocals := 2, code := prog_29_method_6_code, exceptionTable := #[], attributes := #[] }
def k2m5 : Method := { name := "poll", desc := "()I", sig := { parameters := [], returnType := some .int }, accessFlags := 0, code := some k2c5 }
def k2c6 : Code := { maxStack := 3, maxLocals := 3, code := prog_29_method_7_code, exceptionTable := #[], attributes := #[] }
def k2m6 : Method := { name := "remove", desc := "(I)V", sig := { parameters := [.int], returnType := none }, accessFlags := 2, code := some k2c6 }
def k2c7 : Code := { maxStack := 6, maxLocals := 4, code := prog_29_method_8_code, exceptionTable := #[], attributes := #[] }
def k2m7 : Method := { name := "siftUp", desc := "(II)V", sig := { parameters := [.int, .int], returnType := none }, accessFlags := 2, code := some k2c7 }
def k2c8 : Code := { maxStack := 5, maxLocals := 5, code := prog_29_method_9_code, exceptionTable := #[], attributes := #[] }
def k2m8 : Method := { name := "siftDown", desc := "(II)V", sig := { parameters := [.int, .int], returnType := none }, accessFlags := 2, code := some k2c8 }
def k2c9 : Code := { maxStack := 3, maxLocals := 3, code := prog_29_method_10_code, exceptionTable := #[], attributes := #[] }
def k2m9 : Method := { name := "place", desc := "(II)V", sig := { parameters := [.int, .int], returnType := none }, accessFlags := 2, code := some k2c9 }
/-- com/example/tideline/tideline/listrounding/NodeQueue -/
def k2 : Class := { plain "com/example/tideline/tideline/listrounding/NodeQueue" (some 0) with
  accessFlags := 48
  interfaces := #[]
  cf := some (fileOf pool2 12 #[] #[{ accessFlags := 0, nameIndex := 5, descriptorIndex := 50, attributes := #[] }, { accessFlags := 0, nameIndex := 68, descriptorIndex := 6, attributes := #[] }, { accessFlags := 0, nameIndex := 70, descriptorIndex := 71, attributes := #[] }, { accessFlags := 0, nameIndex := 72, descriptorIndex := 73, attributes := #[] }, { accessFlags := 0, nameIndex := 74, descriptorIndex := 75, attributes := #[] }, { accessFlags := 0, nameIndex := 76, descriptorIndex := 77, attributes := #[] }, { accessFlags := 2, nameIndex := 49, descriptorIndex := 50, attributes := #[] }, { accessFlags := 2, nameIndex := 53, descriptorIndex := 54, attributes := #[] }, { accessFlags := 2, nameIndex := 57, descriptorIndex := 54, attributes := #[] }, { accessFlags := 2, nameIndex := 60, descriptorIndex := 54, attributes := #[] }] 48 2 #[] #[{ accessFlags := 26, nameIndex := 61, descriptorIndex := 40, attributes := #[] }, { accessFlags := 26, nameIndex := 64, descriptorIndex := 40, attributes := #[] }, { accessFlags := 18, nameIndex := 19, descriptorIndex := 20, attributes := #[] }, { accessFlags := 18, nameIndex := 23, descriptorIndex := 20, attributes := #[] }, { accessFlags := 18, nameIndex := 26, descriptorIndex := 27, attributes := #[] }, { accessFlags := 2, nameIndex := 39, descriptorIndex := 40, attributes := #[] }, { accessFlags := 18, nameIndex := 30, descriptorIndex := 20, attributes := #[] }, { accessFlags := 2, nameIndex := 43, descriptorIndex := 40, attributes := #[] }, { accessFlags := 2, nameIndex := 46, descriptorIndex := 40, attributes := #[] }, { accessFlags := 2, nameIndex := 15, descriptorIndex := 16, attributes := #[] }])
  fields := #[{ name := "ABSENT", type := .int, accessFlags := 26, slot := 0, constantValue := 0 }, { name := "IN_LINE", type := .int, accessFlags := 26, slot := 1, constantValue := 0 }, { name := "heap", type := (.array .int), accessFlags := 18, slot := 0, constantValue := 0 }, { name := "places", type := (.array .int), accessFlags := 18, slot := 1, constantValue := 0 }, { name := "keys", type := (.array .long), accessFlags := 18, slot := 2, constantValue := 0 }, { name := "size", type := .int, accessFlags := 2, slot := 3, constantValue := 0 }, { name := "line", type := (.array .int), accessFlags := 18, slot := 4, constantValue := 0 }, { name := "lineFrom", type := .int, accessFlags := 2, slot := 5, constantValue := 0 }, { name := "lineTo", type := .int, accessFlags := 2, slot := 6, constantValue := 0 }, { name := "lineKey", type := .long, accessFlags := 2, slot := 7, constantValue := 0 }]
  methods := #[k2m0, k2m1, k2m2, k2m3, k2m4, k2m5, k2m6, k2m7, k2m8, k2m9]
  instanceTypes := #[(.array .int), (.array .int), (.array .long), .int, (.array .int), .int, .int, .long]
  staticTypes := #[.int, .int]
  resolved := Array.replicate 80 none
  statics := none }

def pool3 : Array CpInfo := pool [(2, .class_ 4), (1, u "java/lang/Object"), (0, u "<init>"), (0, u "()V"), (7, .class_ 16), (1, u "java/util/Arrays"), (57, .class_ 76), (1, u "java/util/Arrays$NaturalOrder"), (36, .class_ 115), (1, u "java/util/Arrays$LegacyMergeSort"), (1, u "Z"), (257, .class_ 376), (0, u "java/util/Arrays$ArrayList"), (68, u "$assertionsDisabled"), (269, u "MIN_ARRAY_SORT_GRAN"), (0, u "I"), (2, u "INSERTIONSORT_THRESHOLD"), (120, u "fill"), (4, u "([II)V"), (129, .class_ 976), (0, u "java/util/Arrays$ArrayItr")] 52

def k3m0 : Method := { name := "<init>", desc := "()V", sig := { parameters := [], returnType := none }, accessFlags := 2, code := none }
def k3c1 : Code := { maxStack := 3, maxLocals := 4, code := jdk_65_method_103_code, exceptionTable := #[], attributes := #[] }
def k3m1 : Method := { name := "fill", desc := "([II)V", sig := { parameters := [(.array .int), .int], returnType := none }, accessFlags := 9, code := some k3c1 }
/-- java/util/Arrays -/
def k3 : Class := { plain "java/util/Arrays" (some 0) with
  accessFlags := 49
  interfaces := #[]
  cf := some (fileOf pool3 14 #[.nestMembers #[975, 375, 113, 74]] #[{ accessFlags := 2, nameIndex := 5, descriptorIndex := 6, attributes := #[] }, { accessFlags := 9, nameIndex := 840, descriptorIndex := 845, attributes := #[] }] 49 2 #[] #[{ accessFlags := 26, nameIndex := 715, descriptorIndex := 716, attributes := #[] }, { accessFlags := 26, nameIndex := 719, descriptorIndex := 716, attributes := #[] }, { accessFlags := 4120, nameIndex := 445, descriptorIndex := 117, attributes := #[] }])
  fields := #[{ name := "MIN_ARRAY_SORT_GRAN", type := .int, accessFlags := 26, slot := 0, constantValue := 0 }, { name := "INSERTIONSORT_THRESHOLD", type := .int, accessFlags := 26, slot := 1, constantValue := 0 }, { name := "$assertionsDisabled", type := .boolean, accessFlags := 4120, slot := 2, constantValue := 0 }]
  methods := #[k3m0, k3m1]
  instanceTypes := #[]
  staticTypes := #[.int, .int, .boolean]
  resolved := Array.replicate 1029 none
  statics := none }

def pool4 : Array CpInfo := pool [(1, .class_ 2), (0, u "java/lang/Math"), (1, .class_ 6), (1, u "java/lang/Object"), (0, u "<init>"), (0, u "()V"), (89, .class_ 100), (1, u "java/lang/Math$RandomNumberGeneratorHolder"), (20, u "(JJ)J"), (50, u "negativeZeroFloatBits"), (0, u "J"), (2, u "negativeZeroDoubleBits"), (24, u "min"), (43, u "$assertionsDisabled"), (0, u "Z"), (91, u "twoToTheDoubleScaleDown"), (0, u "D"), (4, u "twoToTheDoubleScaleUp"), (9, u "E"), (3, u "PI"), (2, u "TAU"), (2, u "DEGREES_TO_RADIANS"), (0, u "RADIANS_TO_DEGREES")] 94

def k4m0 : Method := { name := "<init>", desc := "()V", sig := { parameters := [], returnType := none }, accessFlags := 2, code := none }
def k4c1 : Code := { maxStack := 4, maxLocals := 4, code := jdk_29_method_70_code, exceptionTable := #[], attributes := #[] }
def k4m1 : Method := { name := "min", desc := "(JJ)J", sig := { parameters := [.long, .long], returnType := some .long }, accessFlags := 9, code := some k4c1 }
/-- java/lang/Math -/
def k4 : Class := { plain "java/lang/Math" (some 0) with
  accessFlags := 49
  interfaces := #[]
  cf := some (fileOf pool4 1 #[.nestMembers #[98]] #[{ accessFlags := 2, nameIndex := 7, descriptorIndex := 8, attributes := #[] }, { accessFlags := 9, nameIndex := 201, descriptorIndex := 121, attributes := #[] }] 49 4 #[] #[{ accessFlags := 25, nameIndex := 354, descriptorIndex := 339, attributes := #[] }, { accessFlags := 25, nameIndex := 358, descriptorIndex := 339, attributes := #[] }, { accessFlags := 25, nameIndex := 361, descriptorIndex := 339, attributes := #[] }, { accessFlags := 26, nameIndex := 364, descriptorIndex := 339, attributes := #[] }, { accessFlags := 26, nameIndex := 365, descriptorIndex := 339, attributes := #[] }, { accessFlags := 26, nameIndex := 172, descriptorIndex := 173, attributes := #[] }, { accessFlags := 26, nameIndex := 176, descriptorIndex := 173, attributes := #[] }, { accessFlags := 8, nameIndex := 344, descriptorIndex := 339, attributes := #[] }, { accessFlags := 8, nameIndex := 338, descriptorIndex := 339, attributes := #[] }, { accessFlags := 4120, nameIndex := 245, descriptorIndex := 246, attributes := #[] }])
  fields := #[{ name := "E", type := .double, accessFlags := 25, slot := 0, constantValue := 0 }, { name := "PI", type := .double, accessFlags := 25, slot := 1, constantValue := 0 }, { name := "TAU", type := .double, accessFlags := 25, slot := 2, constantValue := 0 }, { name := "DEGREES_TO_RADIANS", type := .double, accessFlags := 26, slot := 3, constantValue := 0 }, { name := "RADIANS_TO_DEGREES", type := .double, accessFlags := 26, slot := 4, constantValue := 0 }, { name := "negativeZeroFloatBits", type := .long, accessFlags := 26, slot := 5, constantValue := 0 }, { name := "negativeZeroDoubleBits", type := .long, accessFlags := 26, slot := 6, constantValue := 0 }, { name := "twoToTheDoubleScaleUp", type := .double, accessFlags := 8, slot := 7, constantValue := 0 }, { name := "twoToTheDoubleScaleDown", type := .double, accessFlags := 8, slot := 8, constantValue := 0 }, { name := "$assertionsDisabled", type := .boolean, accessFlags := 4120, slot := 9, constantValue := 0 }]
  methods := #[k4m0, k4m1]
  instanceTypes := #[]
  staticTypes := #[.double, .double, .double, .double, .double, .long, .long, .double, .double, .boolean]
  resolved := Array.replicate 460 none
  statics := none }

def pool5 : Array CpInfo := pool [(1, u "java/lang/Cloneable"), (0, .class_ 1), (0, u "java/lang/Object"), (0, .class_ 3)] 3

/-- java/lang/Cloneable -/
def k5 : Class := { plain "java/lang/Cloneable" (some 0) with
  accessFlags := 1537
  interfaces := #[]
  cf := some (fileOf pool5 2 #[] #[] 1537 4 #[] #[])
  fields := #[]
  methods := #[]
  instanceTypes := #[]
  staticTypes := #[]
  resolved := Array.replicate 8 none
  statics := none }

def pool6 : Array CpInfo := pool [(1, u "java/io/Serializable"), (0, .class_ 1), (0, u "java/lang/Object"), (0, .class_ 3)] 3

/-- java/io/Serializable -/
def k6 : Class := { plain "java/io/Serializable" (some 0) with
  accessFlags := 1537
  interfaces := #[]
  cf := some (fileOf pool6 2 #[] #[] 1537 4 #[] #[])
  fields := #[]
  methods := #[]
  instanceTypes := #[]
  staticTypes := #[]
  resolved := Array.replicate 8 none
  statics := none }

/-- the primitive byte -/
def k7 : Class := { plain "byte" none with kind := .primitive 'B', accessFlags := 0x411 }
/-- [B -/
def k8 : Class := { plain "[B" (some 0) with kind := .array 7 .byte, interfaces := #[5, 6], accessFlags := 1041 }

/-- the primitive int -/
def k9 : Class := { plain "int" none with kind := .primitive 'I', accessFlags := 0x411 }
/-- [I -/
def k10 : Class := { plain "[I" (some 0) with kind := .array 9 .int, interfaces := #[5, 6], accessFlags := 1041 }

/-- the primitive long -/
def k11 : Class := { plain "long" none with kind := .primitive 'J', accessFlags := 0x411 }
/-- [J -/
def k12 : Class := { plain "[J" (some 0) with kind := .array 11 .long, interfaces := #[5, 6], accessFlags := 1041 }

def heap : Heap := #[]
def classes : Array Class := #[k0, k1, k2, k3, k4, k5, k6, k7, k8, k9, k10, k11, k12]
def interned : List (Array UInt16 × Addr) := []
def slotsUsed : Nat := 0
def theMethod : MethodId := ⟨1, 1⟩
def args0 : Array Value := #[.long 5, .long 5, .long 5, .long 5, .int 5]
def aboutOver (below : List Frame) : State where
  vm := { classes := classes, interned := interned.toArray }
  heap := heap
  slotsUsed := slotsUsed
  threads := #[{ frames := .invoking theMethod args0 :: below }]
def below0 : List Frame := [.native { method := ⟨0, 0⟩, args := #[] }]
def about1 : State := aboutOver below0
def p0 : Program := .bare "" "" ""
def e0 : Env := launch0.env 0 0 0
theorem w_frames : about1.frames = Frame.invoking theMethod args0 :: below0 := rfl
set_option maxRecDepth 65536 in
theorem w_args : argsFit about1.vm theMethod args0 = true := by decide +kernel
set_option maxRecDepth 65536 in
theorem w_heap : heapFits about1 = true := by decide +kernel
set_option maxRecDepth 65536 in
theorem w_runnable : about1.curStatus? = some .runnable := by decide +kernel
set_option maxRecDepth 65536 in
theorem w_alone : about1.alone = true := by decide +kernel
set_option maxRecDepth 65536 in
theorem w_named : about1.methodNamed? x = some theMethod := by decide +kernel
set_option maxRecDepth 65536 in
theorem w_hears : about1.hears theMethod below0 = true := by decide +kernel
set_option maxRecDepth 65536 in
theorem w_ripe : about1.ripe theMethod args0 below0 = true := by decide +kernel
theorem w_running : about1.status = .running := rfl
set_option maxRecDepth 65536 in
theorem w_room : about1.hasRoom e0.platform room_1 = true :=
  launch0.hasRoom_least _ room_1 (by decide +kernel) (by decide +kernel) (by decide +kernel) (by decide +kernel) (by decide +kernel) (by decide +kernel)
theorem allAtoms_all (ts : List Jvm.Cond) (a : Array Jvm.Value) (st : Jvm.State) : (allAtoms ts).before a st = ts.all (fun c => c.before a st) := by
  induction ts with
  | nil => rfl
  | cons c t ih =>
    show (Jvm.Cond.and c (allAtoms t)).before a st = _
    rw [Jvm.Cond.before_and, ih, List.all_cons]
def words1 : List Jvm.Cond := Jvm.Cond.code x code maxLocals ret :: tables_1
/-- a 'code' word, met by the world's own term for the bytes: nothing is compared byte by byte -/
theorem code_word {y : MethodName} {bytes : ByteArray} {mx : Nat} {rt : Option FieldType} {a : Array Value} {s : State} {m : MethodId} {meth : Method} {c : Code} (h1 : s.methodNamed? y = some m) (h2 : s.vm.method? m = some meth) (h3 : meth.code = some c) (h4 : c.code = bytes)
    (h5 : (c.maxLocals == mx && c.exceptionTable.isEmpty && decide (c.maxStack ≤ mostOperands) && decide (meth.sig.returnType = rt) && !meth.locks && decide (parseMethodDescriptor y.desc = some meth.sig)) = true) : (Jvm.Cond.code y bytes mx rt).before a s = true := by
  simp only [Bool.and_eq_true, beq_iff_eq, Bool.not_eq_true', decide_eq_true_eq] at h5
  obtain ⟨⟨⟨⟨⟨g1, g2⟩, g3⟩, g4⟩, g5⟩, g6⟩ := h5
  simp [Cond.before, Cond.holds, Cond.value, h1, h2, h3, h4, g1, g2, g3, g4, g5, g6]
def isCode : Jvm.Cond → Bool
  | .code _ _ _ _ => true
  | _ => false
theorem all_split {L : List Jvm.Cond} {P : Jvm.Cond → Bool} (h1 : L.all (fun c => isCode c || P c) = true) (h2 : ∀ c ∈ L.filter isCode, P c = true) : L.all P = true := by
  refine List.all_eq_true.mpr fun c hc => ?_
  have h := List.all_eq_true.mp h1 c hc
  rcases Bool.eq_false_or_eq_true (isCode c) with hi | hi
  · exact h2 c (List.mem_filter.mpr ⟨hc, hi⟩)
  · simpa [hi] using h
set_option maxRecDepth 65536 in
theorem w_c0 : (Jvm.Cond.code x code maxLocals ret).before args0 about1 = true := code_word (m := ⟨1, 1⟩) (meth := k1m1) (c := k1c1) (by decide +kernel) rfl rfl rfl (by decide +kernel)
set_option maxRecDepth 65536 in
theorem w_c1 : (Jvm.Cond.code ({ cls := "com/example/tideline/tideline/listrounding/NodeQueue", name := "<init>", desc := "(I)V" } : Jvm.MethodName) prog_29_method_1_code (2 : Nat) (Option.none : Option Jvm.ClassFile.FieldType)).before args0 about1 = true := code_word (m := ⟨2, 0⟩) (meth := k2m0) (c := k2c0) (by decide +kernel) rfl rfl rfl (by decide +kernel)
set_option maxRecDepth 65536 in
theorem w_c2 : (Jvm.Cond.code ({ cls := "java/lang/Object", name := "<init>", desc := "()V" } : Jvm.MethodName) object_method_1_code (1 : Nat) (Option.none : Option Jvm.ClassFile.FieldType)).before args0 about1 = true := code_word (m := ⟨0, 0⟩) (meth := k0m0) (c := k0c0) (by decide +kernel) rfl rfl rfl (by decide +kernel)
set_option maxRecDepth 65536 in
theorem w_c3 : (Jvm.Cond.code ({ cls := "java/util/Arrays", name := "fill", desc := "([II)V" } : Jvm.MethodName) jdk_65_method_103_code (4 : Nat) (Option.none : Option Jvm.ClassFile.FieldType)).before args0 about1 = true := code_word (m := ⟨3, 1⟩) (meth := k3m1) (c := k3c1) (by decide +kernel) rfl rfl rfl (by decide +kernel)
set_option maxRecDepth 65536 in
theorem w_c4 : (Jvm.Cond.code ({ cls := "com/example/tideline/tideline/listrounding/NodeQueue", name := "offer", desc := "(IJ)V" } : Jvm.MethodName) prog_29_method_5_code (5 : Nat) (Option.none : Option Jvm.ClassFile.FieldType)).before args0 about1 = true := code_word (m := ⟨2, 4⟩) (meth := k2m4) (c := k2c4) (by decide +kernel) rfl rfl rfl (by decide +kernel)
set_option maxRecDepth 65536 in
theorem w_c5 : (Jvm.Cond.code ({ cls := "com/example/tideline/tideline/listrounding/NodeQueue", name := "siftUp", desc := "(II)V" } : Jvm.MethodName) prog_29_method_8_code (4 : Nat) (Option.none : Option Jvm.ClassFile.FieldType)).before args0 about1 = true := code_word (m := ⟨2, 7⟩) (meth := k2m7) (c := k2c7) (by decide +kernel) rfl rfl rfl (by decide +kernel)
set_option maxRecDepth 65536 in
theorem w_c6 : (Jvm.Cond.code ({ cls := "com/example/tideline/tideline/listrounding/NodeQueue", name := "place", desc := "(II)V" } : Jvm.MethodName) prog_29_method_10_code (3 : Nat) (Option.none : Option Jvm.ClassFile.FieldType)).before args0 about1 = true := code_word (m := ⟨2, 9⟩) (meth := k2m9) (c := k2c9) (by decide +kernel) rfl rfl rfl (by decide +kernel)
set_option maxRecDepth 65536 in
theorem w_c7 : (Jvm.Cond.code ({ cls := "com/example/tideline/tideline/listrounding/NodeQueue", name := "poll", desc := "()I" } : Jvm.MethodName) prog_29_method_6_code (2 : Nat) (Option.some Jvm.ClassFile.FieldType.int)).before args0 about1 = true := code_word (m := ⟨2, 5⟩) (meth := k2m5) (c := k2c5) (by decide +kernel) rfl rfl rfl (by decide +kernel)
set_option maxRecDepth 65536 in
theorem w_c8 : (Jvm.Cond.code ({ cls := "com/example/tideline/tideline/listrounding/NodeQueue", name := "remove", desc := "(I)V" } : Jvm.MethodName) prog_29_method_7_code (3 : Nat) (Option.none : Option Jvm.ClassFile.FieldType)).before args0 about1 = true := code_word (m := ⟨2, 6⟩) (meth := k2m6) (c := k2c6) (by decide +kernel) rfl rfl rfl (by decide +kernel)
set_option maxRecDepth 65536 in
theorem w_c9 : (Jvm.Cond.code ({ cls := "com/example/tideline/tideline/listrounding/NodeQueue", name := "siftDown", desc := "(II)V" } : Jvm.MethodName) prog_29_method_9_code (5 : Nat) (Option.none : Option Jvm.ClassFile.FieldType)).before args0 about1 = true := code_word (m := ⟨2, 8⟩) (meth := k2m8) (c := k2c8) (by decide +kernel) rfl rfl rfl (by decide +kernel)
set_option maxRecDepth 65536 in
theorem w_c10 : (Jvm.Cond.code ({ cls := "java/lang/Math", name := "min", desc := "(JJ)J" } : Jvm.MethodName) jdk_29_method_70_code (4 : Nat) (Option.some Jvm.ClassFile.FieldType.long)).before args0 about1 = true := code_word (m := ⟨4, 1⟩) (meth := k4m1) (c := k4c1) (by decide +kernel) rfl rfl rfl (by decide +kernel)
set_option maxRecDepth 65536 in
theorem w_c11 : (Jvm.Cond.code ({ cls := "com/example/tideline/tideline/listrounding/NodeQueue", name := "clear", desc := "()V" } : Jvm.MethodName) prog_29_method_2_code (2 : Nat) (Option.none : Option Jvm.ClassFile.FieldType)).before args0 about1 = true := code_word (m := ⟨2, 1⟩) (meth := k2m1) (c := k2c1) (by decide +kernel) rfl rfl rfl (by decide +kernel)
set_option maxRecDepth 65536 in
theorem w_c12 : (Jvm.Cond.code ({ cls := "com/example/tideline/tideline/listrounding/NodeQueue", name := "isEmpty", desc := "()Z" } : Jvm.MethodName) prog_29_method_3_code (1 : Nat) (Option.some Jvm.ClassFile.FieldType.boolean)).before args0 about1 = true := code_word (m := ⟨2, 2⟩) (meth := k2m2) (c := k2c2) (by decide +kernel) rfl rfl rfl (by decide +kernel)
set_option maxRecDepth 65536 in
theorem w_c13 : (Jvm.Cond.code ({ cls := "com/example/tideline/tideline/listrounding/NodeQueue", name := "peekKey", desc := "()J" } : Jvm.MethodName) prog_29_method_4_code (1 : Nat) (Option.some Jvm.ClassFile.FieldType.long)).before args0 about1 = true := code_word (m := ⟨2, 3⟩) (meth := k2m3) (c := k2c3) (by decide +kernel) rfl rfl rfl (by decide +kernel)
def codes1 : List Jvm.Cond := [Jvm.Cond.code x code maxLocals ret, Jvm.Cond.code ({ cls := "com/example/tideline/tideline/listrounding/NodeQueue", name := "<init>", desc := "(I)V" } : Jvm.MethodName) prog_29_method_1_code (2 : Nat) (Option.none : Option Jvm.ClassFile.FieldType), Jvm.Cond.code ({ cls := "java/lang/Object", name := "<init>", desc := "()V" } : Jvm.MethodName) object_method_1_code (1 : Nat) (Option.none : Option Jvm.ClassFile.FieldType), Jvm.Cond.code ({ cls := "java/util/Arrays", name := "fill", desc := "([II)V" } : Jvm.MethodName) jdk_65_method_103_code (4 : Nat) (Option.none : Option Jvm.ClassFile.FieldType), Jvm.Cond.code ({ cls := "com/example/tideline/tideline/listrounding/NodeQueue", name := "offer", desc := "(IJ)V" } : Jvm.MethodName) prog_29_method_5_code (5 : Nat) (Option.none : Option Jvm.ClassFile.FieldType), Jvm.Cond.code ({ cls := "com/example/tideline/tideline/listrounding/NodeQueue", name := "siftUp", desc := "(II)V" } : Jvm.MethodName) prog_29_method_8_code (4 : Nat) (Option.none : Option Jvm.ClassFile.FieldType), Jvm.Cond.code ({ cls := "com/example/tideline/tideline/listrounding/NodeQueue", name := "place", desc := "(II)V" } : Jvm.MethodName) prog_29_method_10_code (3 : Nat) (Option.none : Option Jvm.ClassFile.FieldType), Jvm.Cond.code ({ cls := "com/example/tideline/tideline/listrounding/NodeQueue", name := "poll", desc := "()I" } : Jvm.MethodName) prog_29_method_6_code (2 : Nat) (Option.some Jvm.ClassFile.FieldType.int), Jvm.Cond.code ({ cls := "com/example/tideline/tideline/listrounding/NodeQueue", name := "remove", desc := "(I)V" } : Jvm.MethodName) prog_29_method_7_code (3 : Nat) (Option.none : Option Jvm.ClassFile.FieldType), Jvm.Cond.code ({ cls := "com/example/tideline/tideline/listrounding/NodeQueue", name := "siftDown", desc := "(II)V" } : Jvm.MethodName) prog_29_method_9_code (5 : Nat) (Option.none : Option Jvm.ClassFile.FieldType), Jvm.Cond.code ({ cls := "java/lang/Math", name := "min", desc := "(JJ)J" } : Jvm.MethodName) jdk_29_method_70_code (4 : Nat) (Option.some Jvm.ClassFile.FieldType.long), Jvm.Cond.code ({ cls := "com/example/tideline/tideline/listrounding/NodeQueue", name := "clear", desc := "()V" } : Jvm.MethodName) prog_29_method_2_code (2 : Nat) (Option.none : Option Jvm.ClassFile.FieldType), Jvm.Cond.code ({ cls := "com/example/tideline/tideline/listrounding/NodeQueue", name := "isEmpty", desc := "()Z" } : Jvm.MethodName) prog_29_method_3_code (1 : Nat) (Option.some Jvm.ClassFile.FieldType.boolean), Jvm.Cond.code ({ cls := "com/example/tideline/tideline/listrounding/NodeQueue", name := "peekKey", desc := "()J" } : Jvm.MethodName) prog_29_method_4_code (1 : Nat) (Option.some Jvm.ClassFile.FieldType.long)]
set_option maxRecDepth 65536 in
theorem codes_eq : words1.filter isCode = codes1 := rfl
theorem w_codes : ∀ c ∈ words1.filter isCode, c.before args0 about1 = true := by
  rw [codes_eq]
  intro c hc
  simp only [codes1, List.mem_cons, List.not_mem_nil, or_false] at hc
  rcases hc with rfl | rfl | rfl | rfl | rfl | rfl | rfl | rfl | rfl | rfl | rfl | rfl | rfl | rfl
  · exact w_c0
  · exact w_c1
  · exact w_c2
  · exact w_c3
  · exact w_c4
  · exact w_c5
  · exact w_c6
  · exact w_c7
  · exact w_c8
  · exact w_c9
  · exact w_c10
  · exact w_c11
  · exact w_c12
  · exact w_c13
set_option maxRecDepth 65536 in
theorem w_t1 : (words1.take 24).all (fun c => isCode c || c.before args0 about1) = true := by decide +kernel
set_option maxRecDepth 65536 in
theorem w_t2 : ((words1.drop 24).take 24).all (fun c => isCode c || c.before args0 about1) = true := by decide +kernel
set_option maxRecDepth 65536 in
theorem w_t3 : (((words1.drop 24).drop 24).take 24).all (fun c => isCode c || c.before args0 about1) = true := by decide +kernel
set_option maxRecDepth 65536 in
theorem w_t4 : (((words1.drop 24).drop 24).drop 24).all (fun c => isCode c || c.before args0 about1) = true := by decide +kernel
theorem w_tables : (allAtoms (Jvm.Cond.code x code maxLocals ret :: tables_1)).before args0 about1 = true := by
  rw [allAtoms_all]
  show words1.all (fun c => c.before args0 about1) = true
  refine all_split ?_ w_codes
  rw [← List.take_append_drop 24 words1, List.all_append, w_t1, ← List.take_append_drop 24 (words1.drop 24), List.all_append, w_t2, ← List.take_append_drop 24 ((words1.drop 24).drop 24), List.all_append, w_t3, w_t4]
  rfl
set_option maxRecDepth 65536 in
theorem w_case : (Jvm.Cond.and given_1 narrow_1).before args0 about1 = true := by decide +kernel
theorem w_applies : (headSpec (Jvm.Cond.code x code maxLocals ret :: tables_1) room_1).applies x e0.platform about1 = true :=
  (Spec.applies_iff w_frames).mpr ⟨w_running, w_runnable, w_alone, w_named, w_hears, w_ripe, w_room, w_tables⟩
theorem atStart : AtStart classFile x code maxLocals ret World_1 tables_1 room_1 Calls_1 rest_1 Pre_1 launch0 p0 e0 about1 theMethod args0 below0 :=
  ⟨lists_1, trivial, launch0.admits_env _ _ _, launch0.least_env, fairChoices_fair.cas, fairChoices_fair.clock, w_frames, w_args, w_heap, w_applies, trivial, trivial, w_case⟩
end start1
theorem witness_1 : WitnessClaimed_1 := ⟨start1.p0, start1.e0, start1.about1, start1.theMethod, start1.args0, start1.below0, start1.atStart⟩
end Jvm.Pilot.@@N@@
