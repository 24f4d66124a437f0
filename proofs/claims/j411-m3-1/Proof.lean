import JvmDerived
import JvmDerived.Pilot.@@N@@Statement
import JvmDerived.Pilot.@@N@@Code
set_option linter.unusedVariables false
set_option linter.unusedSimpArgs false
namespace Jvm.Sh
open Jvm Jvm.ClassFile Sem Op Lib Jvm.Free Jvm.Stand Jvm.LawKit Jvm.RoadKit Bundle
/-! A shadow of what a law makes. A shadow heap H is the list of the cells made since the start: an object (its class, its fields' names, kinds and values) or an array (its component's kind, its values). A shadow reference i stands for the address n0 + i. -/
abbrev SC := (String × List (String × String × Value)) ⊕ (FieldType × List Value)
abbrev SH := List SC
def lf (n0 : Nat) : Value → Value
  | .ref i => .ref (n0 + i)
  | v => v
def lz (n0 : Nat) : Slot → Slot
  | .val v => .val (lf n0 v)
  | x => x
abbrev LL (n0 : Nat) (L : List Slot) : Array Slot := (L.map (lz n0)).toArray
theorem lf_cat (n0 : Nat) (v : Value) : (lf n0 v).category = v.category := by cases v <;> rfl
theorem lf_isRef (n0 : Nat) (v : Value) : (lf n0 v).isRef = v.isRef := by cases v <;> rfl
theorem LL_get {n0 k : Nat} {L : List Slot} {v : Value} (h : L[k]? = some (.val v)) : (LL n0 L)[k]? = some (.val (lf n0 v)) := by simp [h, lz]
/-- an object's or an array's cell, as the shadow says -/
def CellOk (Z : State) (a0 : Array Value) (n0 : Nat) (h : Heap) (a : Addr) : SC → Prop
  | .inl (C, fs) => Exa Z h a C ∧ (∃ k, (Cond.instantiable C k).before a0 Z = true) ∧ (fs.map (·.1)).Nodup ∧
      ∀ f ∈ fs, Laid Z a0 C C f.1 f.2.1 ∧ (∃ ty, parseFieldDescriptor f.2.1 = some ty) ∧ Fld Z h a C f.1 f.2.1 (lf n0 f.2.2)
  | .inr (ty, vs) => ∃ c : Cell, Arr Z h a c ty ∧ c.slots = (vs.map (lf n0)).toArray ∧ vs.length < 2 ^ 31
def Rep (Z : State) (a0 : Array Value) (n0 : Nat) (h : Heap) (H : SH) : Prop :=
  h.size = n0 + H.length ∧ ∀ i c, H[i]? = some c → CellOk Z a0 n0 h (n0 + i) c
theorem CellOk.ext {Z : State} {a0 : Array Value} {n0 : Nat} {h h' : Heap} {a : Addr} {c : SC} (E : Ext h h') (K : CellOk Z a0 n0 h a c) : CellOk Z a0 n0 h' a c := by
  rcases c with ⟨C, fs⟩ | ⟨ty, vs⟩
  · exact ⟨K.1.ext E, K.2.1, K.2.2.1, fun f hf => ⟨(K.2.2.2 f hf).1, (K.2.2.2 f hf).2.1, (K.2.2.2 f hf).2.2.ext E⟩⟩
  · obtain ⟨c, A, r⟩ := K
    exact ⟨c, A.ext E, r⟩
theorem CellOk.other {Z : State} {a0 : Array Value} {n0 : Nat} {h h' : Heap} {a b : Addr} {sl : Nat} {v : Value} {c : SC} (W : Wr h h' a sl v) (K : CellOk Z a0 n0 h b c) (hne : b ≠ a) : CellOk Z a0 n0 h' b c := by
  rcases c with ⟨C, fs⟩ | ⟨ty, vs⟩
  · exact ⟨K.1.wr W, K.2.1, K.2.2.1, fun f hf => ⟨(K.2.2.2 f hf).1, (K.2.2.2 f hf).2.1, (K.2.2.2 f hf).2.2.other W (Or.inl hne)⟩⟩
  · obtain ⟨c, A, r⟩ := K
    exact ⟨c, A.other W hne, r⟩
theorem Rep.set {Z : State} {a0 : Array Value} {n0 i : Nat} {h h' : Heap} {H : SH} {sl : Nat} {v : Value} {c : SC} (K : Rep Z a0 n0 h H) (W : Wr h h' (n0 + i) sl v) (hi : i < H.length) (hc : CellOk Z a0 n0 h' (n0 + i) c) : Rep Z a0 n0 h' (H.set i c) := by
  refine ⟨by rw [W.size, List.length_set]; exact K.1, fun j d hd => ?_⟩
  by_cases e : j = i
  · subst e
    rw [List.getElem?_set_self hi] at hd
    cases hd
    exact hc
  · rw [List.getElem?_set_ne (Ne.symm e)] at hd
    exact (K.2 j d hd).other W (fun q => e (Nat.add_left_cancel q))
theorem Rep.push {Z : State} {a0 : Array Value} {n0 : Nat} {h h' : Heap} {H : SH} {c : SC} (K : Rep Z a0 n0 h H) (E : Ext h h') (hs : h'.size = h.size + 1) (hc : CellOk Z a0 n0 h' h.size c) : Rep Z a0 n0 h' (H ++ [c]) := by
  refine ⟨by rw [hs, K.1, List.length_append]; simp; omega, fun j d hd => ?_⟩
  rcases Nat.lt_trichotomy j H.length with q | q | q
  · rw [List.getElem?_append_left q] at hd
    exact (K.2 j d hd).ext E
  · subst q
    simp at hd
    subst hd
    rw [← K.1]; exact hc
  · rw [List.getElem?_eq_none (by simp; omega)] at hd
    cases hd
abbrev Bdy := MethodName × ByteArray × Nat × Option FieldType
/-- From this place (pc, locals, stack, shadow heap; k cells and n slots made by this call so far) the method comes to its end and returns v over H' such that Q v H'. -/
def WP (l : Launch) (Z : State) (a0 : Array Value) (n0 : Nat) (B : Bdy) (R : Room) (k n pc : Nat) (L : List Slot) (S : List Value) (H : SH) (Q : Option Value → SH → Prop) : Prop :=
  ∀ (p : Program) (e : Env) (s : State) (m : MethodId) (args : Array Value) (below : List Frame) (meth : Method) (c : Code) (T : State) (locs : List Loc),
    Stand p l e R s m args below meth c T locs k n → p.tables.exec = Jvm.exec → c.code = B.2.1 → c.maxLocals = B.2.2.1 → meth.sig.returnType = B.2.2.2 → meth.locks = false → Z.Warmed39 s.vm →
    s.vm.findClass B.1.cls = some m.cls → meth.name = B.1.name → Fr n0 locs → Rep Z a0 n0 T.heap H →
    ∃ t o, Steps p.tables e below (T.setTop (mkF m pc (LL n0 L) (S.map (lf n0)))) t ∧ t.status = .running ∧ Ended t below o ∧
      ∃ v L', o = .returned (v.map (lf n0)) ∧ (∃ H', Q v H' ∧ Rep Z a0 n0 t.heap H') ∧ Fr n0 L' ∧ FrameEnd s o t L' R.cells R.slots
/-- The method, called with these (shadow) values over this shadow heap, returns v over H' such that Q v H'. -/
def Meth (l : Launch) (Z : State) (a0 : Array Value) (n0 : Nat) (B : Bdy) (R : Room) (as : List Value) (H : SH) (Q : Option Value → SH → Prop) : Prop :=
  ∀ (h0 : Heap) (ws : List Jvm.Cond), Rep Z a0 n0 h0 H →
    MetFree l B.1 (head1 (Jvm.Cond.code B.1 B.2.1 B.2.2.1 B.2.2.2 :: ws) R) (fun a U => a = (as.map (lf n0)).toArray ∧ Z.Warmed39 U.vm ∧ U.heap = h0) (fun _ _ _ _ _ => True)
      (fun _ U o U' => ∃ v L, o = .returned v ∧ (∃ v' H', v = v'.map (lf n0) ∧ Q v' H' ∧ Rep Z a0 n0 U'.heap H' ∧ Fr n0 L) ∧ FrameEnd U o U' L R.cells R.slots)
def entryL (as : List Value) (ml : Nat) : List Slot :=
  as.foldr (fun v r => if v.category = 2 then .val v :: .second :: r else .val v :: r) [] ++ List.replicate (ml - (as.foldr (fun v r => v.category + r) 0)) .unset
section
variable {l : Launch} {Z : State} {a0 : Array Value} {n0 : Nat} {B : Bdy} {R : Room} {k n pc : Nat} {L : List Slot} {S : List Value} {H : SH} {Q : Option Value → SH → Prop}
theorem cat_pos (v : Value) : v.category = 1 ∨ v.category = 2 := by cases v <;> simp [Value.category]
theorem entry_acc (n0 : Nat) (as : List Value) (acc : Array Slot) : (as.map (lf n0)).foldl (fun acc v => if v.category = 2 then (acc.push (Slot.val v)).push Slot.second else acc.push (.val v)) acc =
    acc ++ ((as.foldr (fun v r => if v.category = 2 then Slot.val v :: Slot.second :: r else .val v :: r) []).map (lz n0)).toArray := by
  induction as generalizing acc with
  | nil => simp
  | cons v as ih =>
    simp only [List.map_cons, List.foldl_cons, List.foldr_cons, lf_cat]
    rw [ih]
    by_cases q : v.category = 2
    · simp [q, lz]
    · simp [q, lz]
theorem entry_len (as : List Value) : (as.foldr (fun v r => if v.category = 2 then Slot.val v :: Slot.second :: r else .val v :: r) []).length = as.foldr (fun v r => v.category + r) 0 := by
  induction as with
  | nil => rfl
  | cons v as ih =>
    rcases cat_pos v with q | q <;> simp [q] at ih ⊢ <;> omega
theorem entry_eq (n0 : Nat) (m : MethodId) (as : List Value) (ml : Nat) : entryFrame m (as.map (lf n0)).toArray ml = mkF m 0 (LL n0 (entryL as ml)) [] := by
  have e : argsToLocals (as.map (lf n0)).toArray ml = LL n0 (entryL as ml) := by
    simp only [argsToLocals, LL, entryL, List.foldl_toArray']
    rw [entry_acc]
    apply Array.toList_inj.mp
    simp [entry_len, lz]
  simp [entryFrame, e, mkF]
theorem Meth.of {as : List Value} (hp : plainFor B.1 = true) (hL : entryL as B.2.2.1 = L) (hW : WP l Z a0 n0 B R 0 0 0 L [] H Q) : Meth l Z a0 n0 B R as H Q := by
  intro h0 ws hR
  refine MetFree.of_bodySF hp hisR ?_
  intro p e s m args below meth c s₁ Bd hml0 hP hK
  obtain ⟨rfl, hZ, hh⟩ := hP
  have e0 : s₁.heap = h0 := by rw [← hh, Bd.state]; rfl
  subst hL
  obtain ⟨t, o, h1, h2, h3, v, L', h4, ⟨H', h5, h6⟩, h7, h8⟩ := hW p e s m _ below meth c s₁ [] (Stand.of_body Bd) Bd.exec Bd.bytes hml0 Bd.returns Bd.notSynchronized hZ (findClass_of_methodNamed Bd.named) (name_of_methodNamed Bd.named Bd.method).1 (Fr.nil n0) (by rw [e0]; exact hR)
  exact ⟨t, o, castTop (entry_eq n0 m as _) h1, h2, h3, _, L', h4, ⟨v, H', rfl, h5, h6, h7⟩, h8⟩
theorem WP.mono {Q' : Option Value → SH → Prop} (hW : WP l Z a0 n0 B R k n pc L S H Q) (hq : ∀ v H', Q v H' → Q' v H') : WP l Z a0 n0 B R k n pc L S H Q' := by
  intro p e s m args below meth c T locs X hx hc hml hret hlk hZ hown hnm hF hR
  obtain ⟨t, o, h1, h2, h3, v, L', h4, ⟨H', h5, h6⟩, h7⟩ := hW p e s m args below meth c T locs X hx hc hml hret hlk hZ hown hnm hF hR
  exact ⟨t, o, h1, h2, h3, v, L', h4, ⟨H', hq _ _ h5, h6⟩, h7⟩
theorem Meth.mono {as : List Value} {Q' : Option Value → SH → Prop} (hM : Meth l Z a0 n0 B R as H Q) (hq : ∀ v H', Q v H' → Q' v H') : Meth l Z a0 n0 B R as H Q' := by
  intro h0 ws hR p e ha hc hk s m args below hf happ hP hK
  obtain ⟨n, o, h1, h2, h3, v, L, h4, ⟨v', H', h5, h6, h7⟩, h8⟩ := hM h0 ws hR p e ha hc hk s m args below hf happ hP hK
  exact ⟨n, o, h1, h2, h3, v, L, h4, ⟨v', H', h5, hq _ _ h6, h7⟩, h8⟩
/-- a step that moves nothing but the frame -/
theorem pure {pc' : Nat} {L' : List Slot} {S' : List Value} (hr : WP l Z a0 n0 B R k n pc' L' S' H Q)
    (f : ∀ {p : Program} {e : Env} {below : List Frame} {T target : State} {m : MethodId} {c : Code}, At T m c below → p.tables.exec = Jvm.exec → c.code = B.2.1 →
      Steps p.tables e below (T.setTop (mkF m pc' (LL n0 L') (S'.map (lf n0)))) target → Steps p.tables e below (T.setTop (mkF m pc (LL n0 L) (S.map (lf n0)))) target) : WP l Z a0 n0 B R k n pc L S H Q := by
  intro p e s m args below meth c T locs X hx hc hml hret hlk hZ hown hnm hF hR
  obtain ⟨t, o, h1, h2⟩ := hr p e s m args below meth c T locs X hx hc hml hret hlk hZ hown hnm hF hR
  exact ⟨t, o, f X.here hx hc h1, h2⟩
/-! ### loads, constants -/
theorem aload_n {j : Fin 4} {v : Value} (d : decode B.2.1 pc = .ok (.aload_n j, 1)) (hl : L[j.val]? = some (.val v)) (hv : v.isRef = true) (hr : WP l Z a0 n0 B R k n (pc + 1) L (v :: S) H Q) : WP l Z a0 n0 B R k n pc L S H Q :=
  pure hr fun h hx hc st => XS.aloadN h hx rfl (hb hc d) (LL_get hl) (by rw [lf_isRef]; exact hv) st
theorem aload {j : Nat} {v : Value} (d : decode B.2.1 pc = .ok (.aload j, 2)) (hl : L[j]? = some (.val v)) (hv : v.isRef = true) (hr : WP l Z a0 n0 B R k n (pc + 2) L (v :: S) H Q) : WP l Z a0 n0 B R k n pc L S H Q :=
  pure hr fun h hx hc st => XS.aload h hx rfl (hb hc d) (LL_get hl) (by rw [lf_isRef]; exact hv) st
theorem iload_n {j : Fin 4} {x : Int32} (d : decode B.2.1 pc = .ok (.iload_n j, 1)) (hl : L[j.val]? = some (.val (.int x))) (hr : WP l Z a0 n0 B R k n (pc + 1) L (.int x :: S) H Q) : WP l Z a0 n0 B R k n pc L S H Q :=
  pure hr fun h hx hc st => XS.iloadN h hx rfl (hb hc d) (LL_get (n0 := n0) hl) st
theorem iload {j : Nat} {x : Int32} (d : decode B.2.1 pc = .ok (.iload j, 2)) (hl : L[j]? = some (.val (.int x))) (hr : WP l Z a0 n0 B R k n (pc + 2) L (.int x :: S) H Q) : WP l Z a0 n0 B R k n pc L S H Q :=
  pure hr fun h hx hc st => XS.iload h hx rfl (hb hc d) (LL_get (n0 := n0) hl) st
theorem lload_n {j : Fin 4} {x : Int64} (d : decode B.2.1 pc = .ok (.lload_n j, 1)) (hl : L[j.val]? = some (.val (.long x))) (hr : WP l Z a0 n0 B R k n (pc + 1) L (.long x :: S) H Q) : WP l Z a0 n0 B R k n pc L S H Q :=
  pure hr fun h hx hc st => XT.lloadN h hx rfl (hb hc d) (LL_get (n0 := n0) hl) st
theorem lload {j : Nat} {x : Int64} (d : decode B.2.1 pc = .ok (.lload j, 2)) (hl : L[j]? = some (.val (.long x))) (hr : WP l Z a0 n0 B R k n (pc + 2) L (.long x :: S) H Q) : WP l Z a0 n0 B R k n pc L S H Q :=
  pure hr fun h hx hc st => XT.lload h hx rfl (hb hc d) (LL_get (n0 := n0) hl) st
theorem iconst {i : Int} {x : Int32} (d : decode B.2.1 pc = .ok (.iconst i, 1)) (hx' : Int32.ofInt i = x) (hr : WP l Z a0 n0 B R k n (pc + 1) L (.int x :: S) H Q) : WP l Z a0 n0 B R k n pc L S H Q :=
  pure (hx' ▸ hr) fun h hx hc st => XS.iconst h hx rfl (hb hc d) st
theorem bipush {i : Int} {x : Int32} (d : decode B.2.1 pc = .ok (.bipush i, 2)) (hx' : (Int8.ofInt i).toInt32 = x) (hr : WP l Z a0 n0 B R k n (pc + 2) L (.int x :: S) H Q) : WP l Z a0 n0 B R k n pc L S H Q :=
  pure (hx' ▸ hr) fun h hx hc st => XS.bipush h hx rfl (hb hc d) st
theorem sipush {i : Int} {x : Int32} (d : decode B.2.1 pc = .ok (.sipush i, 3)) (hx' : (Int16.ofInt i).toInt32 = x) (hr : WP l Z a0 n0 B R k n (pc + 3) L (.int x :: S) H Q) : WP l Z a0 n0 B R k n pc L S H Q :=
  pure (hx' ▸ hr) fun h hx hc st => XS.sipush h hx rfl (hb hc d) st
theorem lconst {i : Fin 2} {x : Int64} (d : decode B.2.1 pc = .ok (.lconst i, 1)) (hx' : Int64.ofNat i = x) (hr : WP l Z a0 n0 B R k n (pc + 1) L (.long x :: S) H Q) : WP l Z a0 n0 B R k n pc L S H Q :=
  pure (hx' ▸ hr) fun h hx hc st => XT.lconst h hx rfl (hb hc d) st
theorem aconst_null (d : decode B.2.1 pc = .ok (.aconst_null, 1)) (hr : WP l Z a0 n0 B R k n (pc + 1) L (.null :: S) H Q) : WP l Z a0 n0 B R k n pc L S H Q :=
  pure hr fun h hx hc st => XS.aconstNull h hx rfl (hb hc d) st
theorem ldcI {W : List Jvm.Cond} (hw : ∀ d ∈ W, d.before a0 Z = true) {i idx : Nat} {x : Int32} (w : W[i]? = some (.constant B.1.cls idx x)) (d : decode B.2.1 pc = .ok (.ldc idx, 2)) (hr : WP l Z a0 n0 B R k n (pc + 2) L (.int x :: S) H Q) : WP l Z a0 n0 B R k n pc L S H Q := by
  intro p e s m args below meth c T locs X hx hc hml hret hlk hZ hown hnm hF hR
  obtain ⟨t, o, h1, h2⟩ := hr p e s m args below meth c T locs X hx hc hml hret hlk hZ hown hnm hF hR
  have v1 := hw _ (List.mem_of_getElem? w)
  exact ⟨t, o, X.ldcInt hx hown (mv hZ v1) (g := mkF m pc (LL n0 L) (S.map (lf n0))) rfl (hb hc d) _ h1, h2⟩
theorem ldc2L {W : List Jvm.Cond} (hw : ∀ d ∈ W, d.before a0 Z = true) {i idx : Nat} {x : Int64} (w : W[i]? = some (.constantLong B.1.cls idx x)) (d : decode B.2.1 pc = .ok (.ldc2_w idx, 3)) (hr : WP l Z a0 n0 B R k n (pc + 3) L (.long x :: S) H Q) : WP l Z a0 n0 B R k n pc L S H Q := by
  intro p e s m args below meth c T locs X hx hc hml hret hlk hZ hown hnm hF hR
  obtain ⟨t, o, h1, h2⟩ := hr p e s m args below meth c T locs X hx hc hml hret hlk hZ hown hnm hF hR
  have v1 := hw _ (List.mem_of_getElem? w)
  exact ⟨t, o, X.ldc2Long hx hown (mv hZ v1) (g := mkF m pc (LL n0 L) (S.map (lf n0))) rfl (hb hc d) _ h1, h2⟩

/-! ### stores -/
def okS : Slot → Bool
  | .unset => true
  | .val w => w.category == 1
  | .second => false
def nS : Slot → Bool
  | .second => false
  | _ => true
def n2 : Slot → Bool
  | .val w => w.category == 1
  | _ => true
def stOK (L : List Slot) (k : Nat) (v : Value) (L' : List Slot) : Prop := ∀ n0, storeLocals (LL n0 L) k (lf n0 v) = some (LL n0 L')
theorem LL_at {n0 j : Nat} {o : Slot} (h : L[j]? = some o) : (LL n0 L)[j]? = some (lz n0 o) := by simp [h]
theorem LL_set {n0 j : Nat} {o : Slot} : (LL n0 L).setIfInBounds j (lz n0 o) = LL n0 (L.set j o) := by
  apply Array.toList_inj.mp; simp [List.map_set]
theorem st1 {L' : List Slot} {j : Nat} {o : Slot} {v : Value} (h : L[j]? = some o) (ho : okS o = true) (hv : v.category = 1) (e : L.set j (.val v) = L') : stOK L j v L' := by
  intro n0
  rw [XS.store1 (LL_at h) (by cases o <;> simp_all [okS, lz, lf_cat]) (by rw [lf_cat]; exact hv), ← e, ← LL_set]
  rfl
theorem LL_size {n0 : Nat} : (LL n0 L).size = L.length := by simp
theorem lt_of_at {α : Type} {l : List α} {j : Nat} {o : α} (h : l[j]? = some o) : j < l.length := (List.getElem?_eq_some_iff.mp h).1
theorem setAt_LL {n0 j : Nat} {o : Slot} (h : j < L.length) : setAt (LL n0 L) j (lz n0 o) = some (LL n0 (L.set j o)) := by
  simp only [setAt, LL_size, h, if_true, LL_set]
theorem self1 {n0 j : Nat} {v : Value} (h : j < L.length) (hv : v.category = 1) : storeSelf (LL n0 L) j (lf n0 v) = some (LL n0 (L.set j (.val v))) := by
  have e := setAt_LL (n0 := n0) (o := .val v) h
  simp only [lz] at e
  simp [storeSelf, e, lf_cat, hv]
theorem self2 {n0 j : Nat} {v : Value} {o : Slot} (h : L[j + 1]? = some o) (ho : n2 o = true) (hv : v.category = 2) : storeSelf (LL n0 L) j (lf n0 v) = some (LL n0 ((L.set j (.val v)).set (j + 1) .second)) := by
  have h1 := lt_of_at h
  have e := setAt_LL (n0 := n0) (o := .val v) (show j < L.length by omega)
  simp only [lz] at e
  have e2 := setAt_LL (n0 := n0) (L := L.set j (.val v)) (o := .second) (j := j + 1) (by simpa using h1)
  simp only [lz] at e2
  have e3 : (LL n0 (L.set j (.val v)))[j + 1]? = some (lz n0 o) := LL_at (by rw [List.getElem?_set_ne (by omega)]; exact h)
  simp only [storeSelf, e, lf_cat, hv, Option.bind_eq_bind, Option.bind_some, if_true, e3]
  cases o with
  | unset => simpa [lz] using e2
  | second => simpa [lz] using e2
  | val w =>
    have hw : w.category = 1 := by simpa [n2] using ho
    simpa [lz, lf_cat, hw] using e2
theorem st1s {L' : List Slot} {j : Nat} {v : Value} (h : L[j + 1]? = some .second) (hv : v.category = 1) (e : (L.set j .unset).set (j + 1) (.val v) = L') : stOK L (j + 1) v L' := by
  intro n0
  subst e
  have h1 := lt_of_at h
  have e1 := LL_at (n0 := n0) h
  have e2 := setAt_LL (n0 := n0) (o := .unset) (show j < L.length by omega)
  simp only [lz] at e1 e2
  have e3 := self1 (n0 := n0) (L := L.set j .unset) (j := j + 1) (by simpa using h1) hv
  simp only [storeLocals, e1, Option.bind_eq_bind, Option.bind_some, Nat.add_sub_cancel, e2, e3]
theorem st1w {L' : List Slot} {j : Nat} {w v : Value} (h : L[j]? = some (.val w)) (hw : w.category = 2) (hl : j + 1 < L.length) (hv : v.category = 1) (e : (L.set (j + 1) .unset).set j (.val v) = L') : stOK L j v L' := by
  intro n0
  subst e
  have h1 := lt_of_at h
  have e1 := LL_at (n0 := n0) h
  have e2 := setAt_LL (n0 := n0) (o := .unset) hl
  simp only [lz] at e1 e2
  have e3 := self1 (n0 := n0) (L := L.set (j + 1) .unset) (j := j) (by simpa using h1) hv
  simp only [storeLocals, e1, lf_cat, hw, if_true, Option.bind_eq_bind, Option.bind_some, e2, e3]
theorem st2 {L' : List Slot} {j : Nat} {o o2 : Slot} {v : Value} (h : L[j]? = some o) (ho : nS o = true) (h2 : L[j + 1]? = some o2) (ho2 : n2 o2 = true) (hv : v.category = 2) (e : (L.set j (.val v)).set (j + 1) .second = L') : stOK L j v L' := by
  intro n0
  subst e
  have e1 := LL_at (n0 := n0) h
  have h3 := lt_of_at h2
  cases o with
  | second => simp [nS] at ho
  | unset =>
    simp only [lz] at e1
    simp only [storeLocals, e1, Option.bind_eq_bind, Option.bind_some, self2 h2 ho2 hv]
  | val w =>
    simp only [lz] at e1
    rcases cat_pos w with q | q
    · simp [storeLocals, e1, lf_cat, q, self2 h2 ho2 hv]
    · have e2 := setAt_LL (n0 := n0) (o := .unset) h3
      simp only [lz] at e2
      have e3 := self2 (n0 := n0) (L := L.set (j + 1) .unset) (j := j) (o := .unset) (v := v) (by rw [List.getElem?_set_self h3]) rfl hv
      have e4 : ((L.set (j + 1) .unset).set j (.val v)).set (j + 1) .second = (L.set j (.val v)).set (j + 1) .second := by
        rw [List.set_comm _ _ (show j + 1 ≠ j by omega), List.set_set]
      rw [e4] at e3
      simp only [storeLocals, e1, lf_cat, q, if_true, Option.bind_eq_bind, Option.bind_some, e2, e3]
theorem istore_n {j : Fin 4} {x : Int32} {L' : List Slot} (d : decode B.2.1 pc = .ok (.istore_n j, 1)) (hs : stOK L j.val (.int x) L') (hr : WP l Z a0 n0 B R k n (pc + 1) L' S H Q) : WP l Z a0 n0 B R k n pc L (.int x :: S) H Q :=
  pure hr fun h hx hc st => XS.istoreN h hx rfl (hb hc d) rfl (hs n0) st
theorem istore {j : Nat} {x : Int32} {L' : List Slot} (d : decode B.2.1 pc = .ok (.istore j, 2)) (hs : stOK L j (.int x) L') (hr : WP l Z a0 n0 B R k n (pc + 2) L' S H Q) : WP l Z a0 n0 B R k n pc L (.int x :: S) H Q :=
  pure hr fun h hx hc st => XS.istore h hx rfl (hb hc d) rfl (hs n0) st
theorem lstore_n {j : Fin 4} {x : Int64} {L' : List Slot} (d : decode B.2.1 pc = .ok (.lstore_n j, 1)) (hs : stOK L j.val (.long x) L') (hr : WP l Z a0 n0 B R k n (pc + 1) L' S H Q) : WP l Z a0 n0 B R k n pc L (.long x :: S) H Q :=
  pure hr fun h hx hc st => XT.lstoreN h hx rfl (hb hc d) rfl (hs n0) st
theorem lstore {j : Nat} {x : Int64} {L' : List Slot} (d : decode B.2.1 pc = .ok (.lstore j, 2)) (hs : stOK L j (.long x) L') (hr : WP l Z a0 n0 B R k n (pc + 2) L' S H Q) : WP l Z a0 n0 B R k n pc L (.long x :: S) H Q :=
  pure hr fun h hx hc st => XT.lstore h hx rfl (hb hc d) rfl (hs n0) st
theorem astore_n {j : Fin 4} {v : Value} {L' : List Slot} (d : decode B.2.1 pc = .ok (.astore_n j, 1)) (hv : v.isRef = true) (hs : stOK L j.val v L') (hr : WP l Z a0 n0 B R k n (pc + 1) L' S H Q) : WP l Z a0 n0 B R k n pc L (v :: S) H Q :=
  pure hr fun h hx hc st => XS.astoreN h hx rfl (hb hc d) rfl (by rw [lf_isRef]; exact hv) (hs n0) st
theorem astore {j : Nat} {v : Value} {L' : List Slot} (d : decode B.2.1 pc = .ok (.astore j, 2)) (hv : v.isRef = true) (hs : stOK L j v L') (hr : WP l Z a0 n0 B R k n (pc + 2) L' S H Q) : WP l Z a0 n0 B R k n pc L (v :: S) H Q :=
  pure hr fun h hx hc st => XS.astore h hx rfl (hb hc d) rfl (by rw [lf_isRef]; exact hv) (hs n0) st
theorem iinc {j : Nat} {cst : Int} {x ci y : Int32} {L' : List Slot} (d : decode B.2.1 pc = .ok (.iinc j cst, 3)) (hl : L[j]? = some (.val (.int x))) (hci : Int32.ofInt cst = ci) (hy : x + ci = y) (hs : stOK L j (.int y) L') (hr : WP l Z a0 n0 B R k n (pc + 3) L' S H Q) : WP l Z a0 n0 B R k n pc L S H Q :=
  pure hr fun h hx hc st => XS.iinc h hx rfl (hb hc d) (LL_get (n0 := n0) hl) (by rw [hci, hy]; exact hs n0) st
/-! ### the stack, arithmetic -/
theorem dup {v : Value} (d : decode B.2.1 pc = .ok (.dup, 1)) (hv : v.category = 1) (hr : WP l Z a0 n0 B R k n (pc + 1) L (v :: v :: S) H Q) : WP l Z a0 n0 B R k n pc L (v :: S) H Q :=
  pure hr fun h hx hc st => XS.dup h hx rfl (hb hc d) rfl (by rw [lf_cat]; exact hv) st
theorem pop {v : Value} (d : decode B.2.1 pc = .ok (.pop, 1)) (hv : v.category = 1) (hr : WP l Z a0 n0 B R k n (pc + 1) L S H Q) : WP l Z a0 n0 B R k n pc L (v :: S) H Q :=
  pure hr fun h hx hc st => XT.pop h hx rfl (hb hc d) rfl (by rw [lf_cat]; exact hv) st
theorem dup_x1 {v w : Value} (d : decode B.2.1 pc = .ok (.dup_x1, 1)) (hv : v.category = 1) (hv' : w.category = 1) (hr : WP l Z a0 n0 B R k n (pc + 1) L (v :: w :: v :: S) H Q) : WP l Z a0 n0 B R k n pc L (v :: w :: S) H Q :=
  pure hr fun h hx hc st => XT.dupX1 h hx rfl (hb hc d) rfl (by rw [lf_cat]; exact hv) (by rw [lf_cat]; exact hv') st
theorem dup2 {v w : Value} (d : decode B.2.1 pc = .ok (.dup2, 1)) (hv : v.category = 1) (hv' : w.category = 1) (hr : WP l Z a0 n0 B R k n (pc + 1) L (v :: w :: v :: w :: S) H Q) : WP l Z a0 n0 B R k n pc L (v :: w :: S) H Q :=
  pure hr fun h hx hc st => XT.dup2 h hx rfl (hb hc d) rfl (by rw [lf_cat]; exact hv) (by rw [lf_cat]; exact hv') st
theorem dup2L {x : Int64} (d : decode B.2.1 pc = .ok (.dup2, 1)) (hr : WP l Z a0 n0 B R k n (pc + 1) L (.long x :: .long x :: S) H Q) : WP l Z a0 n0 B R k n pc L (.long x :: S) H Q :=
  pure hr fun h hx hc st => XT.dup2L h hx rfl (hb hc d) rfl st
theorem iadd {x : Int32} {y : Int32} (d : decode B.2.1 pc = .ok (.iadd, 1)) (hr : WP l Z a0 n0 B R k n (pc + 1) L (.int (x + y) :: S) H Q) : WP l Z a0 n0 B R k n pc L (.int y :: .int x :: S) H Q :=
  pure hr fun h hx hc st => XS.iadd h hx rfl (hb hc d) rfl st
theorem isub {x : Int32} {y : Int32} (d : decode B.2.1 pc = .ok (.isub, 1)) (hr : WP l Z a0 n0 B R k n (pc + 1) L (.int (x - y) :: S) H Q) : WP l Z a0 n0 B R k n pc L (.int y :: .int x :: S) H Q :=
  pure hr fun h hx hc st => XS.isub h hx rfl (hb hc d) rfl st
theorem iand {x : Int32} {y : Int32} (d : decode B.2.1 pc = .ok (.iand, 1)) (hr : WP l Z a0 n0 B R k n (pc + 1) L (.int (x &&& y) :: S) H Q) : WP l Z a0 n0 B R k n pc L (.int y :: .int x :: S) H Q :=
  pure hr fun h hx hc st => XS.iand h hx rfl (hb hc d) rfl st
theorem imul {x : Int32} {y : Int32} (d : decode B.2.1 pc = .ok (.imul, 1)) (hr : WP l Z a0 n0 B R k n (pc + 1) L (.int (x * y) :: S) H Q) : WP l Z a0 n0 B R k n pc L (.int y :: .int x :: S) H Q :=
  pure hr fun h hx hc st => XS.imul h hx rfl (hb hc d) rfl st
theorem ixor {x : Int32} {y : Int32} (d : decode B.2.1 pc = .ok (.ixor, 1)) (hr : WP l Z a0 n0 B R k n (pc + 1) L (.int (x ^^^ y) :: S) H Q) : WP l Z a0 n0 B R k n pc L (.int y :: .int x :: S) H Q :=
  pure hr fun h hx hc st => XT.ixor h hx rfl (hb hc d) rfl st
theorem ior {x : Int32} {y : Int32} (d : decode B.2.1 pc = .ok (.ior, 1)) (hr : WP l Z a0 n0 B R k n (pc + 1) L (.int (x ||| y) :: S) H Q) : WP l Z a0 n0 B R k n pc L (.int y :: .int x :: S) H Q :=
  pure hr fun h hx hc st => XT.ior h hx rfl (hb hc d) rfl st
theorem ishl {x : Int32} {y : Int32} (d : decode B.2.1 pc = .ok (.ishl, 1)) (hr : WP l Z a0 n0 B R k n (pc + 1) L (.int (x <<< (y &&& 31)) :: S) H Q) : WP l Z a0 n0 B R k n pc L (.int y :: .int x :: S) H Q :=
  pure hr fun h hx hc st => XT.ishl h hx rfl (hb hc d) rfl st
theorem ishr {x : Int32} {y : Int32} (d : decode B.2.1 pc = .ok (.ishr, 1)) (hr : WP l Z a0 n0 B R k n (pc + 1) L (.int (x >>> (y &&& 31)) :: S) H Q) : WP l Z a0 n0 B R k n pc L (.int y :: .int x :: S) H Q :=
  pure hr fun h hx hc st => XT.ishr h hx rfl (hb hc d) rfl st
theorem iushr {x : Int32} {y : Int32} (d : decode B.2.1 pc = .ok (.iushr, 1)) (hr : WP l Z a0 n0 B R k n (pc + 1) L (.int (XT.ushr x y) :: S) H Q) : WP l Z a0 n0 B R k n pc L (.int y :: .int x :: S) H Q :=
  pure hr fun h hx hc st => XT.iushr h hx rfl (hb hc d) rfl st
theorem ladd {x : Int64} {y : Int64} (d : decode B.2.1 pc = .ok (.ladd, 1)) (hr : WP l Z a0 n0 B R k n (pc + 1) L (.long (x + y) :: S) H Q) : WP l Z a0 n0 B R k n pc L (.long y :: .long x :: S) H Q :=
  pure hr fun h hx hc st => XT.ladd h hx rfl (hb hc d) rfl st
theorem lsub {x : Int64} {y : Int64} (d : decode B.2.1 pc = .ok (.lsub, 1)) (hr : WP l Z a0 n0 B R k n (pc + 1) L (.long (x - y) :: S) H Q) : WP l Z a0 n0 B R k n pc L (.long y :: .long x :: S) H Q :=
  pure hr fun h hx hc st => XT.lsub h hx rfl (hb hc d) rfl st
theorem lmul {x : Int64} {y : Int64} (d : decode B.2.1 pc = .ok (.lmul, 1)) (hr : WP l Z a0 n0 B R k n (pc + 1) L (.long (x * y) :: S) H Q) : WP l Z a0 n0 B R k n pc L (.long y :: .long x :: S) H Q :=
  pure hr fun h hx hc st => XT.lmul h hx rfl (hb hc d) rfl st
theorem land {x : Int64} {y : Int64} (d : decode B.2.1 pc = .ok (.land, 1)) (hr : WP l Z a0 n0 B R k n (pc + 1) L (.long (x &&& y) :: S) H Q) : WP l Z a0 n0 B R k n pc L (.long y :: .long x :: S) H Q :=
  pure hr fun h hx hc st => XT.land h hx rfl (hb hc d) rfl st
theorem lor {x : Int64} {y : Int64} (d : decode B.2.1 pc = .ok (.lor, 1)) (hr : WP l Z a0 n0 B R k n (pc + 1) L (.long (x ||| y) :: S) H Q) : WP l Z a0 n0 B R k n pc L (.long y :: .long x :: S) H Q :=
  pure hr fun h hx hc st => XT.lor h hx rfl (hb hc d) rfl st
theorem lxor {x : Int64} {y : Int64} (d : decode B.2.1 pc = .ok (.lxor, 1)) (hr : WP l Z a0 n0 B R k n (pc + 1) L (.long (x ^^^ y) :: S) H Q) : WP l Z a0 n0 B R k n pc L (.long y :: .long x :: S) H Q :=
  pure hr fun h hx hc st => XT.lxor h hx rfl (hb hc d) rfl st
theorem lshl {x : Int64} {y : Int32} (d : decode B.2.1 pc = .ok (.lshl, 1)) (hr : WP l Z a0 n0 B R k n (pc + 1) L (.long (x <<< (y.toInt64 &&& 63)) :: S) H Q) : WP l Z a0 n0 B R k n pc L (.int y :: .long x :: S) H Q :=
  pure hr fun h hx hc st => XT.lshl h hx rfl (hb hc d) rfl st
theorem lshr {x : Int64} {y : Int32} (d : decode B.2.1 pc = .ok (.lshr, 1)) (hr : WP l Z a0 n0 B R k n (pc + 1) L (.long (x >>> (y.toInt64 &&& 63)) :: S) H Q) : WP l Z a0 n0 B R k n pc L (.int y :: .long x :: S) H Q :=
  pure hr fun h hx hc st => XT.lshr h hx rfl (hb hc d) rfl st
theorem lushr {x : Int64} {y : Int32} (d : decode B.2.1 pc = .ok (.lushr, 1)) (hr : WP l Z a0 n0 B R k n (pc + 1) L (.long (XT.ushrL x y) :: S) H Q) : WP l Z a0 n0 B R k n pc L (.int y :: .long x :: S) H Q :=
  pure hr fun h hx hc st => XT.lushr h hx rfl (hb hc d) rfl st
theorem ineg {x : Int32} (d : decode B.2.1 pc = .ok (.ineg, 1)) (hr : WP l Z a0 n0 B R k n (pc + 1) L (.int (-x) :: S) H Q) : WP l Z a0 n0 B R k n pc L (.int x :: S) H Q :=
  pure hr fun h hx hc st => XS.ineg h hx rfl (hb hc d) rfl st
theorem lneg {x : Int64} (d : decode B.2.1 pc = .ok (.lneg, 1)) (hr : WP l Z a0 n0 B R k n (pc + 1) L (.long (-x) :: S) H Q) : WP l Z a0 n0 B R k n pc L (.long x :: S) H Q :=
  pure hr fun h hx hc st => XT.lneg h hx rfl (hb hc d) rfl st
theorem i2l {x : Int32} (d : decode B.2.1 pc = .ok (.i2l, 1)) (hr : WP l Z a0 n0 B R k n (pc + 1) L (.long (x.toInt64) :: S) H Q) : WP l Z a0 n0 B R k n pc L (.int x :: S) H Q :=
  pure hr fun h hx hc st => XT.i2l h hx rfl (hb hc d) rfl st
theorem l2i {x : Int64} (d : decode B.2.1 pc = .ok (.l2i, 1)) (hr : WP l Z a0 n0 B R k n (pc + 1) L (.int (x.toInt32) :: S) H Q) : WP l Z a0 n0 B R k n pc L (.long x :: S) H Q :=
  pure hr fun h hx hc st => XT.l2i h hx rfl (hb hc d) rfl st
theorem i2b {x : Int32} (d : decode B.2.1 pc = .ok (.i2b, 1)) (hr : WP l Z a0 n0 B R k n (pc + 1) L (.int (x.toInt8.toInt32) :: S) H Q) : WP l Z a0 n0 B R k n pc L (.int x :: S) H Q :=
  pure hr fun h hx hc st => XT.i2b h hx rfl (hb hc d) rfl st
theorem i2s {x : Int32} (d : decode B.2.1 pc = .ok (.i2s, 1)) (hr : WP l Z a0 n0 B R k n (pc + 1) L (.int (x.toInt16.toInt32) :: S) H Q) : WP l Z a0 n0 B R k n pc L (.int x :: S) H Q :=
  pure hr fun h hx hc st => XT.i2s h hx rfl (hb hc d) rfl st
theorem i2c {x : Int32} (d : decode B.2.1 pc = .ok (.i2c, 1)) (hr : WP l Z a0 n0 B R k n (pc + 1) L (.int (x.toUInt32.toUInt16.toUInt32.toInt32) :: S) H Q) : WP l Z a0 n0 B R k n pc L (.int x :: S) H Q :=
  pure hr fun h hx hc st => XT.i2c h hx rfl (hb hc d) rfl st
theorem iaddE {x y z : Int32} (d : decode B.2.1 pc = .ok (.iadd, 1)) (hz : x + y = z) (hr : WP l Z a0 n0 B R k n (pc + 1) L (.int z :: S) H Q) : WP l Z a0 n0 B R k n pc L (.int y :: .int x :: S) H Q := iadd d (hz ▸ hr)
theorem isubE {x y z : Int32} (d : decode B.2.1 pc = .ok (.isub, 1)) (hz : x - y = z) (hr : WP l Z a0 n0 B R k n (pc + 1) L (.int z :: S) H Q) : WP l Z a0 n0 B R k n pc L (.int y :: .int x :: S) H Q := isub d (hz ▸ hr)
theorem imulE {x y z : Int32} (d : decode B.2.1 pc = .ok (.imul, 1)) (hz : x * y = z) (hr : WP l Z a0 n0 B R k n (pc + 1) L (.int z :: S) H Q) : WP l Z a0 n0 B R k n pc L (.int y :: .int x :: S) H Q := imul d (hz ▸ hr)
theorem idiv {x y : Int32} (d : decode B.2.1 pc = .ok (.idiv, 1)) (hy : y ≠ 0) (hr : WP l Z a0 n0 B R k n (pc + 1) L (.int (x / y) :: S) H Q) : WP l Z a0 n0 B R k n pc L (.int y :: .int x :: S) H Q :=
  pure hr fun h hx hc st => XS.idiv h hx rfl (hb hc d) rfl hy st
theorem irem {x y : Int32} (d : decode B.2.1 pc = .ok (.irem, 1)) (hy : y ≠ 0) (hr : WP l Z a0 n0 B R k n (pc + 1) L (.int (x % y) :: S) H Q) : WP l Z a0 n0 B R k n pc L (.int y :: .int x :: S) H Q :=
  pure hr fun h hx hc st => XS.irem h hx rfl (hb hc d) rfl hy (by rw [irem_eq_mod]; exact st)
theorem iushrE {x y z : Int32} (d : decode B.2.1 pc = .ok (.iushr, 1)) (hz : XT.ushr x y = z) (hr : WP l Z a0 n0 B R k n (pc + 1) L (.int z :: S) H Q) : WP l Z a0 n0 B R k n pc L (.int y :: .int x :: S) H Q := iushr d (hz ▸ hr)
theorem iandE {x y z : Int32} (d : decode B.2.1 pc = .ok (.iand, 1)) (hz : x &&& y = z) (hr : WP l Z a0 n0 B R k n (pc + 1) L (.int z :: S) H Q) : WP l Z a0 n0 B R k n pc L (.int y :: .int x :: S) H Q := iand d (hz ▸ hr)
theorem idivE {x y z : Int32} (d : decode B.2.1 pc = .ok (.idiv, 1)) (hy : y ≠ 0) (hz : x / y = z) (hr : WP l Z a0 n0 B R k n (pc + 1) L (.int z :: S) H Q) : WP l Z a0 n0 B R k n pc L (.int y :: .int x :: S) H Q := idiv d hy (hz ▸ hr)
theorem iremE {x y z : Int32} (d : decode B.2.1 pc = .ok (.irem, 1)) (hy : y ≠ 0) (hz : x % y = z) (hr : WP l Z a0 n0 B R k n (pc + 1) L (.int z :: S) H Q) : WP l Z a0 n0 B R k n pc L (.int y :: .int x :: S) H Q := irem d hy (hz ▸ hr)
/-! ### branches -/
theorem goto {o : Int} {pc' : Nat} (d : decode B.2.1 pc = .ok (.goto o, 3)) (hp : ((pc : Int) + o).toNat = pc') (ho : 0 ≤ (pc : Int) + o) (hr : WP l Z a0 n0 B R k n pc' L S H Q) : WP l Z a0 n0 B R k n pc L S H Q :=
  pure hr fun h hx hc st => XS.goto h hx rfl (pc0 := pc) rfl (hb hc d) ho hp st
def cP : ClassFile.Cond → Int32 → Int32 → Prop
  | .eq, x, y => x = y
  | .ne, x, y => ¬ x = y
  | .lt, x, y => x < y
  | .ge, x, y => ¬ x < y
  | .gt, x, y => y < x
  | .le, x, y => ¬ y < x
def cPL : ClassFile.Cond → Int64 → Int64 → Prop
  | .eq, x, y => x = y
  | .ne, x, y => ¬ x = y
  | .lt, x, y => x < y
  | .ge, x, y => ¬ x < y
  | .gt, x, y => y < x
  | .le, x, y => ¬ y < x
instance (cd : ClassFile.Cond) (x y : Int32) : Decidable (cP cd x y) := by cases cd <;> simp only [cP] <;> infer_instance
instance (cd : ClassFile.Cond) (x y : Int64) : Decidable (cPL cd x y) := by cases cd <;> simp only [cPL] <;> infer_instance
theorem cP_iff (cd : ClassFile.Cond) (x y : Int32) : if_icmp.holds cd x y = true ↔ cP cd x y := by
  cases cd
  · by_cases h : x = y
    · exact ⟨fun _ => h, fun _ => (teq h).1⟩
    · simp [(feq h).1, cP, h]
  · by_cases h : x = y
    · exact ⟨fun q => (by rw [(teq h).2] at q; cases q), fun q => absurd h q⟩
    · simp [(feq h).2, cP, h]
  · by_cases h : x < y
    · simp [(tlt h).1, cP, h]
    · simp [(flt h).1, cP, h]
  · by_cases h : x < y
    · simp [(tlt h).2.1, cP, h]
    · simp [(flt h).2.1, cP, h]
  · by_cases h : y < x
    · simp [(tlt h).2.2.1, cP, h]
    · simp [(flt h).2.2.1, cP, h]
  · by_cases h : y < x
    · simp [(tlt h).2.2.2, cP, h]
    · simp [(flt h).2.2.2, cP, h]
theorem cPL_iff (cd : ClassFile.Cond) (x y : Int64) : ifCond.holds cd (XT.cmpL x y) = true ↔ cPL cd x y := by
  rw [if0, cP_iff]
  by_cases h : y < x
  · have h1 : ¬ x < y := Int64.not_lt.mpr (Int64.le_of_lt h)
    have h2 : ¬ x = y := fun e => by subst e; exact absurd h Int64.lt_irrefl
    cases cd <;> simp [cP, cPL, XT.cmpL, h, h1, h2]
  · by_cases h2 : x = y
    · subst h2
      cases cd <;> simp [cP, cPL, XT.cmpL, Int64.lt_irrefl]
    · have h1 : x < y := Int64.lt_of_le_of_ne (Int64.not_lt.mp h) h2
      cases cd <;> simp [cP, cPL, XT.cmpL, h, h1, h2]
theorem icmpT {cd : ClassFile.Cond} {x y : Int32} {o : Int} {pc' : Nat} (d : decode B.2.1 pc = .ok (.if_icmp cd o, 3)) (hp : ((pc : Int) + o).toNat = pc') (ho : 0 ≤ (pc : Int) + o) (hc : cP cd x y) (hr : WP l Z a0 n0 B R k n pc' L S H Q) : WP l Z a0 n0 B R k n pc L (.int y :: .int x :: S) H Q :=
  pure hr fun h hx hc' st => XS.icmpYes h hx rfl (pc0 := pc) rfl (hb hc' d) rfl ((cP_iff _ _ _).mpr hc) ho hp st
theorem icmpF {cd : ClassFile.Cond} {x y : Int32} {o : Int} (d : decode B.2.1 pc = .ok (.if_icmp cd o, 3)) (hc : ¬ cP cd x y) (hr : WP l Z a0 n0 B R k n (pc + 3) L S H Q) : WP l Z a0 n0 B R k n pc L (.int y :: .int x :: S) H Q :=
  pure hr fun h hx hc' st => XS.icmpNo h hx rfl (hb hc' d) rfl (Bool.eq_false_iff.mpr fun q => hc ((cP_iff _ _ _).mp q)) st
theorem ifT {cd : ClassFile.Cond} {x : Int32} {o : Int} {pc' : Nat} (d : decode B.2.1 pc = .ok (.ifCond cd o, 3)) (hp : ((pc : Int) + o).toNat = pc') (ho : 0 ≤ (pc : Int) + o) (hc : cP cd x 0) (hr : WP l Z a0 n0 B R k n pc' L S H Q) : WP l Z a0 n0 B R k n pc L (.int x :: S) H Q :=
  pure hr fun h hx hc' st => XS.ifYes h hx rfl (pc0 := pc) rfl (hb hc' d) rfl ((if0 _ _).trans ((cP_iff _ _ _).mpr hc)) ho hp st
theorem ifF {cd : ClassFile.Cond} {x : Int32} {o : Int} (d : decode B.2.1 pc = .ok (.ifCond cd o, 3)) (hc : ¬ cP cd x 0) (hr : WP l Z a0 n0 B R k n (pc + 3) L S H Q) : WP l Z a0 n0 B R k n pc L (.int x :: S) H Q :=
  pure hr fun h hx hc' st => XS.ifNo h hx rfl (hb hc' d) rfl ((if0 _ _).trans (Bool.eq_false_iff.mpr fun q => hc ((cP_iff _ _ _).mp q))) st
theorem lcmp {x y : Int64} (d : decode B.2.1 pc = .ok (.lcmp, 1)) (hr : WP l Z a0 n0 B R k n (pc + 1) L (.int (XT.cmpL x y) :: S) H Q) : WP l Z a0 n0 B R k n pc L (.long y :: .long x :: S) H Q :=
  pure hr fun h hx hc st => XT.lcmp h hx rfl (hb hc d) rfl st
theorem lcmpT {cd : ClassFile.Cond} {x y : Int64} {o : Int} {pc' : Nat} (d1 : decode B.2.1 pc = .ok (.lcmp, 1)) (d : decode B.2.1 (pc + 1) = .ok (.ifCond cd o, 3)) (hp : (((pc + 1 : Nat) : Int) + o).toNat = pc') (ho : 0 ≤ ((pc + 1 : Nat) : Int) + o) (hc : cPL cd x y) (hr : WP l Z a0 n0 B R k n pc' L S H Q) : WP l Z a0 n0 B R k n pc L (.long y :: .long x :: S) H Q :=
  lcmp d1 (pure hr fun h hx hc' st => XS.ifYes h hx rfl (pc0 := pc + 1) rfl (hb hc' d) rfl ((cPL_iff _ _ _).mpr hc) ho hp st)
theorem lcmpF {cd : ClassFile.Cond} {x y : Int64} {o : Int} (d1 : decode B.2.1 pc = .ok (.lcmp, 1)) (d : decode B.2.1 (pc + 1) = .ok (.ifCond cd o, 3)) (hc : ¬ cPL cd x y) (hr : WP l Z a0 n0 B R k n (pc + 4) L S H Q) : WP l Z a0 n0 B R k n pc L (.long y :: .long x :: S) H Q :=
  lcmp d1 (pure hr fun h hx hc' st => XS.ifNo h hx rfl (hb hc' d) rfl (Bool.eq_false_iff.mpr fun q => hc ((cPL_iff _ _ _).mp q)) st)
theorem ifnullF {o : Int} {i : Nat} (d : decode B.2.1 pc = .ok (.ifnull o, 3)) (hr : WP l Z a0 n0 B R k n (pc + 3) L S H Q) : WP l Z a0 n0 B R k n pc L (.ref i :: S) H Q :=
  pure hr fun h hx hc st => XS.ifnullNo h hx rfl (hb hc d) rfl st
theorem ifnonnullT {o : Int} {i pc' : Nat} (d : decode B.2.1 pc = .ok (.ifnonnull o, 3)) (hp : ((pc : Int) + o).toNat = pc') (ho : 0 ≤ (pc : Int) + o) (hr : WP l Z a0 n0 B R k n pc' L S H Q) : WP l Z a0 n0 B R k n pc L (.ref i :: S) H Q :=
  pure hr fun h hx hc st => XT.ifnonnullYes h hx rfl (pc0 := pc) rfl (hb hc d) rfl ho hp st
theorem acmpneT {o : Int} {i j pc' : Nat} (d : decode B.2.1 pc = .ok (.if_acmp .ne o, 3)) (hp : ((pc : Int) + o).toNat = pc') (ho : 0 ≤ (pc : Int) + o) (hij : ¬ i = j) (hr : WP l Z a0 n0 B R k n pc' L S H Q) : WP l Z a0 n0 B R k n pc L (.ref j :: .ref i :: S) H Q :=
  pure hr fun h hx hc st => XT.acmpYes h hx rfl (pc0 := pc) rfl (hb hc d) rfl rfl rfl (by simp [XT.acmp, lf, hij]) ho hp st
theorem icmp_eq {x y : Int32} {o : Int} {pc' : Nat} (d : decode B.2.1 pc = .ok (.if_icmp .eq o, 3)) (hp : ((pc : Int) + o).toNat = pc') (ho : 0 ≤ (pc : Int) + o) (h1 : x = y → WP l Z a0 n0 B R k n pc' L S H Q) (h2 : ¬ x = y → WP l Z a0 n0 B R k n (pc + 3) L S H Q) : WP l Z a0 n0 B R k n pc L (.int y :: .int x :: S) H Q :=
  if q : cP .eq x y then icmpT d hp ho q (h1 q) else icmpF d q (h2 q)
theorem if_eq {x : Int32} {o : Int} {pc' : Nat} (d : decode B.2.1 pc = .ok (.ifCond .eq o, 3)) (hp : ((pc : Int) + o).toNat = pc') (ho : 0 ≤ (pc : Int) + o) (h1 : x = 0 → WP l Z a0 n0 B R k n pc' L S H Q) (h2 : ¬ x = 0 → WP l Z a0 n0 B R k n (pc + 3) L S H Q) : WP l Z a0 n0 B R k n pc L (.int x :: S) H Q :=
  if q : cP .eq x 0 then ifT d hp ho q (h1 q) else ifF d q (h2 q)
theorem lcmp_eq {x y : Int64} {o : Int} {pc' : Nat} (d1 : decode B.2.1 pc = .ok (.lcmp, 1)) (d : decode B.2.1 (pc + 1) = .ok (.ifCond .eq o, 3)) (hp : (((pc + 1 : Nat) : Int) + o).toNat = pc') (ho : 0 ≤ ((pc + 1 : Nat) : Int) + o) (h1 : x = y → WP l Z a0 n0 B R k n pc' L S H Q) (h2 : ¬ x = y → WP l Z a0 n0 B R k n (pc + 4) L S H Q) : WP l Z a0 n0 B R k n pc L (.long y :: .long x :: S) H Q :=
  if q : cPL .eq x y then lcmpT d1 d hp ho q (h1 q) else lcmpF d1 d q (h2 q)
theorem icmp_ne {x y : Int32} {o : Int} {pc' : Nat} (d : decode B.2.1 pc = .ok (.if_icmp .ne o, 3)) (hp : ((pc : Int) + o).toNat = pc') (ho : 0 ≤ (pc : Int) + o) (h1 : ¬ x = y → WP l Z a0 n0 B R k n pc' L S H Q) (h2 : x = y → WP l Z a0 n0 B R k n (pc + 3) L S H Q) : WP l Z a0 n0 B R k n pc L (.int y :: .int x :: S) H Q :=
  if q : cP .ne x y then icmpT d hp ho q (h1 q) else icmpF d q (h2 (Decidable.not_not.mp q))
theorem if_ne {x : Int32} {o : Int} {pc' : Nat} (d : decode B.2.1 pc = .ok (.ifCond .ne o, 3)) (hp : ((pc : Int) + o).toNat = pc') (ho : 0 ≤ (pc : Int) + o) (h1 : ¬ x = 0 → WP l Z a0 n0 B R k n pc' L S H Q) (h2 : x = 0 → WP l Z a0 n0 B R k n (pc + 3) L S H Q) : WP l Z a0 n0 B R k n pc L (.int x :: S) H Q :=
  if q : cP .ne x 0 then ifT d hp ho q (h1 q) else ifF d q (h2 (Decidable.not_not.mp q))
theorem lcmp_ne {x y : Int64} {o : Int} {pc' : Nat} (d1 : decode B.2.1 pc = .ok (.lcmp, 1)) (d : decode B.2.1 (pc + 1) = .ok (.ifCond .ne o, 3)) (hp : (((pc + 1 : Nat) : Int) + o).toNat = pc') (ho : 0 ≤ ((pc + 1 : Nat) : Int) + o) (h1 : ¬ x = y → WP l Z a0 n0 B R k n pc' L S H Q) (h2 : x = y → WP l Z a0 n0 B R k n (pc + 4) L S H Q) : WP l Z a0 n0 B R k n pc L (.long y :: .long x :: S) H Q :=
  if q : cPL .ne x y then lcmpT d1 d hp ho q (h1 q) else lcmpF d1 d q (h2 (Decidable.not_not.mp q))
theorem icmp_lt {x y : Int32} {o : Int} {pc' : Nat} (d : decode B.2.1 pc = .ok (.if_icmp .lt o, 3)) (hp : ((pc : Int) + o).toNat = pc') (ho : 0 ≤ (pc : Int) + o) (h1 : x < y → WP l Z a0 n0 B R k n pc' L S H Q) (h2 : ¬ x < y → WP l Z a0 n0 B R k n (pc + 3) L S H Q) : WP l Z a0 n0 B R k n pc L (.int y :: .int x :: S) H Q :=
  if q : cP .lt x y then icmpT d hp ho q (h1 q) else icmpF d q (h2 q)
theorem if_lt {x : Int32} {o : Int} {pc' : Nat} (d : decode B.2.1 pc = .ok (.ifCond .lt o, 3)) (hp : ((pc : Int) + o).toNat = pc') (ho : 0 ≤ (pc : Int) + o) (h1 : x < 0 → WP l Z a0 n0 B R k n pc' L S H Q) (h2 : ¬ x < 0 → WP l Z a0 n0 B R k n (pc + 3) L S H Q) : WP l Z a0 n0 B R k n pc L (.int x :: S) H Q :=
  if q : cP .lt x 0 then ifT d hp ho q (h1 q) else ifF d q (h2 q)
theorem lcmp_lt {x y : Int64} {o : Int} {pc' : Nat} (d1 : decode B.2.1 pc = .ok (.lcmp, 1)) (d : decode B.2.1 (pc + 1) = .ok (.ifCond .lt o, 3)) (hp : (((pc + 1 : Nat) : Int) + o).toNat = pc') (ho : 0 ≤ ((pc + 1 : Nat) : Int) + o) (h1 : x < y → WP l Z a0 n0 B R k n pc' L S H Q) (h2 : ¬ x < y → WP l Z a0 n0 B R k n (pc + 4) L S H Q) : WP l Z a0 n0 B R k n pc L (.long y :: .long x :: S) H Q :=
  if q : cPL .lt x y then lcmpT d1 d hp ho q (h1 q) else lcmpF d1 d q (h2 q)
theorem icmp_ge {x y : Int32} {o : Int} {pc' : Nat} (d : decode B.2.1 pc = .ok (.if_icmp .ge o, 3)) (hp : ((pc : Int) + o).toNat = pc') (ho : 0 ≤ (pc : Int) + o) (h1 : ¬ x < y → WP l Z a0 n0 B R k n pc' L S H Q) (h2 : x < y → WP l Z a0 n0 B R k n (pc + 3) L S H Q) : WP l Z a0 n0 B R k n pc L (.int y :: .int x :: S) H Q :=
  if q : cP .ge x y then icmpT d hp ho q (h1 q) else icmpF d q (h2 (Decidable.not_not.mp q))
theorem if_ge {x : Int32} {o : Int} {pc' : Nat} (d : decode B.2.1 pc = .ok (.ifCond .ge o, 3)) (hp : ((pc : Int) + o).toNat = pc') (ho : 0 ≤ (pc : Int) + o) (h1 : ¬ x < 0 → WP l Z a0 n0 B R k n pc' L S H Q) (h2 : x < 0 → WP l Z a0 n0 B R k n (pc + 3) L S H Q) : WP l Z a0 n0 B R k n pc L (.int x :: S) H Q :=
  if q : cP .ge x 0 then ifT d hp ho q (h1 q) else ifF d q (h2 (Decidable.not_not.mp q))
theorem lcmp_ge {x y : Int64} {o : Int} {pc' : Nat} (d1 : decode B.2.1 pc = .ok (.lcmp, 1)) (d : decode B.2.1 (pc + 1) = .ok (.ifCond .ge o, 3)) (hp : (((pc + 1 : Nat) : Int) + o).toNat = pc') (ho : 0 ≤ ((pc + 1 : Nat) : Int) + o) (h1 : ¬ x < y → WP l Z a0 n0 B R k n pc' L S H Q) (h2 : x < y → WP l Z a0 n0 B R k n (pc + 4) L S H Q) : WP l Z a0 n0 B R k n pc L (.long y :: .long x :: S) H Q :=
  if q : cPL .ge x y then lcmpT d1 d hp ho q (h1 q) else lcmpF d1 d q (h2 (Decidable.not_not.mp q))
theorem icmp_gt {x y : Int32} {o : Int} {pc' : Nat} (d : decode B.2.1 pc = .ok (.if_icmp .gt o, 3)) (hp : ((pc : Int) + o).toNat = pc') (ho : 0 ≤ (pc : Int) + o) (h1 : y < x → WP l Z a0 n0 B R k n pc' L S H Q) (h2 : ¬ y < x → WP l Z a0 n0 B R k n (pc + 3) L S H Q) : WP l Z a0 n0 B R k n pc L (.int y :: .int x :: S) H Q :=
  if q : cP .gt x y then icmpT d hp ho q (h1 q) else icmpF d q (h2 q)
theorem if_gt {x : Int32} {o : Int} {pc' : Nat} (d : decode B.2.1 pc = .ok (.ifCond .gt o, 3)) (hp : ((pc : Int) + o).toNat = pc') (ho : 0 ≤ (pc : Int) + o) (h1 : 0 < x → WP l Z a0 n0 B R k n pc' L S H Q) (h2 : ¬ 0 < x → WP l Z a0 n0 B R k n (pc + 3) L S H Q) : WP l Z a0 n0 B R k n pc L (.int x :: S) H Q :=
  if q : cP .gt x 0 then ifT d hp ho q (h1 q) else ifF d q (h2 q)
theorem lcmp_gt {x y : Int64} {o : Int} {pc' : Nat} (d1 : decode B.2.1 pc = .ok (.lcmp, 1)) (d : decode B.2.1 (pc + 1) = .ok (.ifCond .gt o, 3)) (hp : (((pc + 1 : Nat) : Int) + o).toNat = pc') (ho : 0 ≤ ((pc + 1 : Nat) : Int) + o) (h1 : y < x → WP l Z a0 n0 B R k n pc' L S H Q) (h2 : ¬ y < x → WP l Z a0 n0 B R k n (pc + 4) L S H Q) : WP l Z a0 n0 B R k n pc L (.long y :: .long x :: S) H Q :=
  if q : cPL .gt x y then lcmpT d1 d hp ho q (h1 q) else lcmpF d1 d q (h2 q)
theorem icmp_le {x y : Int32} {o : Int} {pc' : Nat} (d : decode B.2.1 pc = .ok (.if_icmp .le o, 3)) (hp : ((pc : Int) + o).toNat = pc') (ho : 0 ≤ (pc : Int) + o) (h1 : ¬ y < x → WP l Z a0 n0 B R k n pc' L S H Q) (h2 : y < x → WP l Z a0 n0 B R k n (pc + 3) L S H Q) : WP l Z a0 n0 B R k n pc L (.int y :: .int x :: S) H Q :=
  if q : cP .le x y then icmpT d hp ho q (h1 q) else icmpF d q (h2 (Decidable.not_not.mp q))
theorem if_le {x : Int32} {o : Int} {pc' : Nat} (d : decode B.2.1 pc = .ok (.ifCond .le o, 3)) (hp : ((pc : Int) + o).toNat = pc') (ho : 0 ≤ (pc : Int) + o) (h1 : ¬ 0 < x → WP l Z a0 n0 B R k n pc' L S H Q) (h2 : 0 < x → WP l Z a0 n0 B R k n (pc + 3) L S H Q) : WP l Z a0 n0 B R k n pc L (.int x :: S) H Q :=
  if q : cP .le x 0 then ifT d hp ho q (h1 q) else ifF d q (h2 (Decidable.not_not.mp q))
theorem lcmp_le {x y : Int64} {o : Int} {pc' : Nat} (d1 : decode B.2.1 pc = .ok (.lcmp, 1)) (d : decode B.2.1 (pc + 1) = .ok (.ifCond .le o, 3)) (hp : (((pc + 1 : Nat) : Int) + o).toNat = pc') (ho : 0 ≤ ((pc + 1 : Nat) : Int) + o) (h1 : ¬ y < x → WP l Z a0 n0 B R k n pc' L S H Q) (h2 : y < x → WP l Z a0 n0 B R k n (pc + 4) L S H Q) : WP l Z a0 n0 B R k n pc L (.long y :: .long x :: S) H Q :=
  if q : cPL .le x y then lcmpT d1 d hp ho q (h1 q) else lcmpF d1 d q (h2 (Decidable.not_not.mp q))
end
end Jvm.Sh
namespace Jvm.Sh
open Jvm Jvm.ClassFile Sem Op Lib Jvm.Free Jvm.Stand Jvm.LawKit Jvm.RoadKit Bundle
section
variable {l : Launch} {Z : State} {a0 : Array Value} {n0 : Nat} {B : Bdy} {R : Room} {k n pc : Nat} {L : List Slot} {S : List Value} {H : SH} {Q : Option Value → SH → Prop} {W : List Jvm.Cond}
/-! ### the heap -/
theorem lf_default (n0 : Nat) (ty : FieldType) : lf n0 (defaultValue ty) = defaultValue ty := by cases ty <;> rfl
theorem lf_narrow {n0 : Nat} {ty : FieldType} {v : Value} (h : narrow ty v = v) : narrow ty (lf n0 v) = lf n0 v := by
  cases v <;> first | exact h | (cases ty <;> rfl)
theorem lf_fits {n0 : Nat} {ty : FieldType} {v : Value} (h : fits ty v = true) : fits ty (lf n0 v) = true := by
  cases v <;> first | exact h | (cases ty <;> simp [fits, lf] at h ⊢)
theorem ext_push (h : Heap) (c : Cell) : Ext h (h.push c) :=
  ⟨by simp, fun a d e => by rw [Array.getElem?_push_lt (Array.getElem?_eq_some_iff.mp e).1]; exact (Array.getElem?_eq_getElem _).symm.trans e⟩
theorem getfield (hw : ∀ d ∈ W, d.before a0 Z = true) {i idx a j : Nat} {C nm ds : String} {fs : List (String × String × Value)} {v : Value} (w : W[i]? = some (.fieldLink B.1.cls idx C nm ds)) (d : decode B.2.1 pc = .ok (.getfield idx, 3))
    (hH : H[a]? = some (.inl (C, fs))) (hf : fs[j]? = some (nm, ds, v)) (hr : WP l Z a0 n0 B R k n (pc + 3) L (v :: S) H Q) : WP l Z a0 n0 B R k n pc L (.ref a :: S) H Q := by
  intro p e s m args below meth c T locs X hx hc hml hret hlk hZ hown hnm hF hR
  have K := (hR.2 a _ hH).2.2.2 _ (List.mem_of_getElem? hf)
  obtain ⟨T', X', e', st⟩ := getF X hx hZ hown (host := "") (Or.inl (hw _ (List.mem_of_getElem? w))) Via.refl rfl K.2.2 (g := mkF m pc (LL n0 L) ((Value.ref a :: S).map (lf n0))) rfl rfl (hb hc d)
  obtain ⟨t, o, h1, h2⟩ := hr p e s m args below meth c T' locs X' hx hc hml hret hlk hZ hown hnm hF (by rw [e']; exact hR)
  exact ⟨t, o, st _ h1, h2⟩
theorem put_ok {h h' : Heap} {a : Addr} {C nm ds : String} {fs : List (String × String × Value)} {j : Nat} {old v : Value} (K : CellOk Z a0 n0 h a (.inl (C, fs))) (hf : fs[j]? = some (nm, ds, old)) (W' : Wr h h' a (RoadKit.slotOf Z C nm ds) (lf n0 v)) :
    CellOk Z a0 n0 h' a (.inl (C, fs.set j (nm, ds, v))) := by
  obtain ⟨E, I, N, F⟩ := K
  have hj := lt_of_at hf
  have hfm := List.mem_of_getElem? hf
  refine ⟨E.wr W', I, ?_, fun f hfm' => ?_⟩
  · have : (fs.set j (nm, ds, v)).map (·.1) = fs.map (·.1) := by
      rw [List.map_set]
      apply List.ext_getElem? 
      intro i
      by_cases q : i = j
      · subst q
        rw [List.getElem?_set_self (by simpa using hj)]
        simp [hf]
      · rw [List.getElem?_set_ne (Ne.symm q)]
    rw [this]; exact N
  · obtain ⟨i, hi⟩ := List.getElem?_of_mem hfm'
    by_cases q : i = j
    · subst q
      rw [List.getElem?_set_self hj] at hi
      cases hi
      exact ⟨(F _ hfm).1, (F _ hfm).2.1, (F _ hfm).2.2.same W'⟩
    · rw [List.getElem?_set_ne (Ne.symm q)] at hi
      have hm := List.mem_of_getElem? hi
      obtain ⟨t1, ht1⟩ := (F _ hm).2.1
      obtain ⟨t2, ht2⟩ := (F _ hfm).2.1
      refine ⟨(F _ hm).1, (F _ hm).2.1, (F _ hm).2.2.other W' (Or.inr (slot_ne (F _ hm).1 (F _ hfm).1 (fun e => q ?_) ht1 ht2))⟩
      have n1 : (fs.map (·.1))[i]? = some f.1 := by simp [hi]
      have n2 : (fs.map (·.1))[j]? = some nm := by simp [hf]
      have li := lt_of_at n1
      have lj := lt_of_at n2
      refine (List.getElem_inj (h₀ := li) (h₁ := lj) N).mp ?_
      have e1 := (List.getElem?_eq_some_iff.mp n1).2
      have e2 := (List.getElem?_eq_some_iff.mp n2).2
      rw [e1, e2]; exact e
theorem putfield' (hw : ∀ d ∈ W, d.before a0 Z = true) {i i2 idx a j : Nat} {C nm ds : String} {fs fs' : List (String × String × Value)} {old v : Value} {ty : FieldType} {H' : SH} (w : W[i]? = some (.fieldLink B.1.cls idx C nm ds))
    (w2 : W[i2]? = some (.lays C C nm ds) ∨ (W[i2]? = some (.laysFinal C C nm ds) ∧ B.1.cls = C ∧ B.1.name = "<init>")) (d : decode B.2.1 pc = .ok (.putfield idx, 3))
    (hH : H[a]? = some (.inl (C, fs))) (hf : fs[j]? = some (nm, ds, old)) (hty : parseFieldDescriptor ds = some ty) (hn : narrow ty v = v) (hfit : fits ty v = true) (hset1 : fs.set j (nm, ds, v) = fs') (hset : H.set a (.inl (C, fs')) = H')
    (hr : WP l Z a0 n0 B R k n (pc + 3) L S H' Q) : WP l Z a0 n0 B R k n pc L (v :: .ref a :: S) H Q := by
  intro p e s m args below meth c T locs X hx hc hml hret hlk hZ hown hnm hF hR
  have K0 := hR.2 a _ hH
  have K := K0.2.2.2 _ (List.mem_of_getElem? hf)
  obtain ⟨kk, hk⟩ := K0.2.1
  obtain ⟨T', h', X', e', W', st⟩ := putF X hx hZ hown (host := "") (Or.inl (hw _ (List.mem_of_getElem? w))) Via.refl rfl K.2.2 K0.1 (w2.imp (fun q => hw _ (List.mem_of_getElem? q)) (fun q => ⟨hw _ (List.mem_of_getElem? q.1), q.2.1, hnm.trans q.2.2⟩)) hk hty (lf_narrow hn) (lf_fits hfit) (g := mkF m pc (LL n0 L) ((v :: Value.ref a :: S).map (lf n0))) rfl rfl (hb hc d)
  have hR' : Rep Z a0 n0 T'.heap H' := by
    rw [e', ← hset, ← hset1]
    exact hR.set W' (lt_of_at hH) (put_ok K0 hf W')
  obtain ⟨t, o, h1, h2⟩ := hr p e s m args below meth c T' _ X' hx hc hml hret hlk hZ hown hnm (Fr.snoc X' hF (Nat.le_add_right _ _)) hR'
  exact ⟨t, o, st _ h1, h2⟩
theorem putfield (hw : ∀ d ∈ W, d.before a0 Z = true) {i i2 idx a j : Nat} {C nm ds : String} {fs fs' : List (String × String × Value)} {old v : Value} {ty : FieldType} {H' : SH} (w : W[i]? = some (.fieldLink B.1.cls idx C nm ds))
    (w2 : W[i2]? = some (.lays C C nm ds)) (d : decode B.2.1 pc = .ok (.putfield idx, 3))
    (hH : H[a]? = some (.inl (C, fs))) (hf : fs[j]? = some (nm, ds, old)) (hty : parseFieldDescriptor ds = some ty) (hn : narrow ty v = v) (hfit : fits ty v = true) (hset1 : fs.set j (nm, ds, v) = fs') (hset : H.set a (.inl (C, fs')) = H')
    (hr : WP l Z a0 n0 B R k n (pc + 3) L S H' Q) : WP l Z a0 n0 B R k n pc L (v :: .ref a :: S) H Q := putfield' hw w (Or.inl w2) d hH hf hty hn hfit hset1 hset hr
theorem putfieldF (hw : ∀ d ∈ W, d.before a0 Z = true) {i i2 idx a j : Nat} {C nm ds : String} {fs fs' : List (String × String × Value)} {old v : Value} {ty : FieldType} {H' : SH} (w : W[i]? = some (.fieldLink B.1.cls idx C nm ds))
    (w2 : W[i2]? = some (.laysFinal C C nm ds)) (hC : B.1.cls = C) (hI : B.1.name = "<init>") (d : decode B.2.1 pc = .ok (.putfield idx, 3))
    (hH : H[a]? = some (.inl (C, fs))) (hf : fs[j]? = some (nm, ds, old)) (hty : parseFieldDescriptor ds = some ty) (hn : narrow ty v = v) (hfit : fits ty v = true) (hset1 : fs.set j (nm, ds, v) = fs') (hset : H.set a (.inl (C, fs')) = H')
    (hr : WP l Z a0 n0 B R k n (pc + 3) L S H' Q) : WP l Z a0 n0 B R k n pc L (v :: .ref a :: S) H Q := putfield' hw w (Or.inr ⟨w2, hC, hI⟩) d hH hf hty hn hfit hset1 hset hr
theorem newobj (hw : ∀ d ∈ W, d.before a0 Z = true) {i1 i2 i3 idx cnt a k' n' : Nat} {C : String} {fs : List (String × String × Value)} {H' : SH} (w1 : W[i1]? = some (.classLink B.1.cls idx C)) (w2 : W[i2]? = some (.instantiable C cnt)) (w3 : W[i3]? = some (.initialized C)) (d : decode B.2.1 pc = .ok (.new idx, 3))
    (hfs : ∀ f ∈ fs, (.lays C C f.1 f.2.1 ∈ W ∨ .laysFinal C C f.1 f.2.1 ∈ W) ∧ ∃ ty, parseFieldDescriptor f.2.1 = some ty ∧ defaultValue ty = f.2.2) (hnd : (fs.map (·.1)).Nodup) (hc : k + 1 ≤ R.cells) (hl : n + cnt ≤ R.slots) (hk : k + 1 = k') (hn : n + cnt = n') (hlen : H.length = a) (happ : H ++ [.inl (C, fs)] = H')
    (hr : WP l Z a0 n0 B R k' n' (pc + 3) L (.ref a :: S) H' Q) : WP l Z a0 n0 B R k n pc L S H Q := by
  intro p e s m args below meth c T locs X hx hc' hml hret hlk hZ hown hnm hF hR
  subst hk hn hlen happ
  have v1 := hw _ (List.mem_of_getElem? w1)
  have v2 := hw _ (List.mem_of_getElem? w2)
  have v3 := hw _ (List.mem_of_getElem? w3)
  obtain ⟨vm', cC, kC, h1, h2, h3, h4, X', st⟩ := X.newCold hx hown (mv hZ v1) (mv hZ v2) (mv hZ v3) (g := mkF m pc (LL n0 L) (S.map (lf n0))) rfl (hb hc' d) hc hl
  rw [hZ.alike.findClass] at h1
  obtain ⟨kZ, z1, -⟩ := Vm.findClass_spec h1
  obtain ⟨kx, z2, z3⟩ := hZ.alike.2.2 _ _ z1
  cases h2.symm.trans z2
  have ei : kC.instanceTypes = kZ.instanceTypes := by rw [z3]
  have hN : (T.heap.push { cls := cC, slots := kC.instanceTypes.map defaultValue, vm := .none })[T.heap.size]? = some { cls := cC, slots := kC.instanceTypes.map defaultValue, vm := .none } := by simp
  have E : Exa Z (T.heap.push { cls := cC, slots := kC.instanceTypes.map defaultValue, vm := .none }) T.heap.size C := ⟨_, kZ, hN, h1, z1, rfl, fun _ => by simp [ei]⟩
  have hR' : Rep Z a0 n0 (T.heap.push { cls := cC, slots := kC.instanceTypes.map defaultValue, vm := .none }) (H ++ [.inl (C, fs)]) := by
    refine hR.push (ext_push _ _) (by simp) ⟨E, ⟨_, v2⟩, hnd, fun f hf => ?_⟩
    obtain ⟨hL, ty, ht, hdv⟩ := hfs f hf
    have LD : Laid Z a0 C C f.1 f.2.1 := hL.imp (fun q => hw _ q) (fun q => hw _ q)
    refine ⟨LD, ⟨ty, ht⟩, ?_⟩
    obtain ⟨c1, k1, cf, kf, i, fd, b1, b2, b3, b4, b5, b6, -⟩ := LD.spec
    cases h1.symm.trans b1
    cases z1.symm.trans b2
    rw [← hdv, lf_default]
    exact ⟨_, cf, kf, i, fd, hN, b3, b4, by simp, rfl, b5, by simp [ei, b6, (State.fieldFound?_type b3 ht).2]⟩
  obtain ⟨t, o, g1, g2⟩ := hr p e s m args below meth c _ locs X' hx hc' hml hret hlk hZ hown hnm hF hR'
  refine ⟨t, o, st _ ?_, g2⟩
  rw [hR.1]
  exact g1
theorem newarr (hw : ∀ d ∈ W, d.before a0 Z = true) {i N cap a k' n' : Nat} {aty : ArrayType} {ty : FieldType} {dv : Value} {vs : List Value} {x : Int32} {H' : SH} (w : W[i]? = some (.arrayClass ty)) (hty : newarray.typeOf aty = ty) (d : decode B.2.1 pc = .ok (.newarray aty, 2))
    (hdv : defaultValue ty = dv) (hx0 : ¬ x < 0) (hN : x.toNatClampNeg = N) (hvs : List.replicate N dv = vs) (hcap : N ≤ cap) (hb' : cap * 8 ≤ 536870912) (hc : k + 1 ≤ R.cells) (hl : n + cap ≤ R.slots) (hk : k + 1 = k') (hn : n + cap = n') (hlen : H.length = a) (happ : H ++ [.inr (ty, vs)] = H')
    (hr : WP l Z a0 n0 B R k' n' (pc + 2) L (.ref a :: S) H' Q) : WP l Z a0 n0 B R k n pc L (.int x :: S) H Q := by
  intro p e s m args below meth c T locs X hx hc' hml hret hlk hZ hown hnm hF hR
  subst hk hn hlen happ hty hN hdv hvs
  have v1 := hw _ (List.mem_of_getElem? w)
  have hcb : componentBytes (newarray.typeOf aty) ≤ 8 := by cases aty <;> decide
  obtain ⟨cA, kA, comp, h1, h2, h3, X', st⟩ := X.newarrayPrim hx (mvA hZ v1) (g := mkF m pc (LL n0 L) ((Value.int x :: S).map (lf n0))) rfl (hb hc' d) rfl hx0 (Nat.le_trans (Nat.mul_le_mul hcap hcb) hb') hc (by omega)
  rw [hZ.alike.findClass] at h1
  obtain ⟨kZ, z1, -⟩ := Vm.findClass_spec h1
  obtain ⟨kx, z2, z3⟩ := hZ.alike.2.2 _ _ z1
  cases h2.symm.trans z2
  have hR' : Rep Z a0 n0 (T.heap.push { cls := cA, slots := Array.replicate x.toNatClampNeg (defaultValue (newarray.typeOf aty)), vm := .none }) (H ++ [.inr (newarray.typeOf aty, List.replicate x.toNatClampNeg (defaultValue (newarray.typeOf aty)))]) := by
    refine hR.push (ext_push _ _) (by simp) ⟨_, ⟨by simp; rfl, ⟨by simp, kZ, z1, comp, by rw [← h3, z3]⟩, by simp⟩, ?_, ?_⟩
    · apply Array.toList_inj.mp
      simp [lf_default]
    · have := (back32 hx0).2
      simpa using this
  obtain ⟨t, o, g1, g2⟩ := hr p e s m args below meth c _ locs (X'.more (Nat.le_refl _) (by omega)) hx hc' hml hret hlk hZ hown hnm hF hR'
  refine ⟨t, o, st _ ?_, g2⟩
  rw [hR.1]
  exact g1
theorem arr_at {h : Heap} {a : Nat} {ty : FieldType} {vs : List Value} {j : Int32} {jn : Nat} (hR : Rep Z a0 n0 h H) (hH : H[a]? = some (.inr (ty, vs))) (hj0 : ¬ j < 0) (hj : j.toNatClampNeg = jn) (hlt : jn < vs.length) :
    ∃ c : Cell, Arr Z h (n0 + a) c ty ∧ c.slots = (vs.map (lf n0)).toArray ∧ vs.length < 2 ^ 31 ∧ ¬ (j < 0 ∨ c.slots.size ≤ j.toNatClampNeg) := by
  obtain ⟨c, A, e, hl⟩ := hR.2 a _ hH
  refine ⟨c, A, e, hl, fun q => q.elim hj0 fun q => ?_⟩
  rw [e, hj] at q
  simp at q
  omega
theorem load_at {c : Cell} {vs : List Value} {j : Int32} {jn : Nat} {v : Value} (e : c.slots = (vs.map (lf n0)).toArray) (hj : j.toNatClampNeg = jn) (hv : vs[jn]? = some v) : c.slots[j.toNatClampNeg]? = some (lf n0 v) := by
  rw [e, hj]; simp [hv]
theorem iaload {a jn : Nat} {vs : List Value} {j : Int32} {v : Value} (d : decode B.2.1 pc = .ok (.iaload, 1)) (hH : H[a]? = some (.inr (.int, vs))) (hj0 : ¬ j < 0) (hj : j.toNatClampNeg = jn) (hv : vs[jn]? = some v)
    (hr : WP l Z a0 n0 B R k n (pc + 1) L (v :: S) H Q) : WP l Z a0 n0 B R k n pc L (.int j :: .ref a :: S) H Q := by
  intro p e s m args below meth c T locs X hx hc hml hret hlk hZ hown hnm hF hR
  obtain ⟨cl, A, es, -, hin⟩ := arr_at hR hH hj0 hj (lt_of_at hv)
  obtain ⟨t, o, h1, h2⟩ := hr p e s m args below meth c T locs X hx hc hml hret hlk hZ hown hnm hF hR
  exact ⟨t, o, X.iaload hx A.1 (State.isArrayOf_alike hZ.alike A.2.1) A.2.2 hin (load_at es hj hv) (g := mkF m pc (LL n0 L) ((Value.int j :: Value.ref a :: S).map (lf n0))) rfl rfl (hb hc d) _ h1, h2⟩
theorem laload {a jn : Nat} {vs : List Value} {j : Int32} {v : Value} (d : decode B.2.1 pc = .ok (.laload, 1)) (hH : H[a]? = some (.inr (.long, vs))) (hj0 : ¬ j < 0) (hj : j.toNatClampNeg = jn) (hv : vs[jn]? = some v)
    (hr : WP l Z a0 n0 B R k n (pc + 1) L (v :: S) H Q) : WP l Z a0 n0 B R k n pc L (.int j :: .ref a :: S) H Q := by
  intro p e s m args below meth c T locs X hx hc hml hret hlk hZ hown hnm hF hR
  obtain ⟨cl, A, es, -, hin⟩ := arr_at hR hH hj0 hj (lt_of_at hv)
  obtain ⟨t, o, h1, h2⟩ := hr p e s m args below meth c T locs X hx hc hml hret hlk hZ hown hnm hF hR
  exact ⟨t, o, X.laload hx A.1 (State.isArrayOf_alike hZ.alike A.2.1) A.2.2 hin (load_at es hj hv) (g := mkF m pc (LL n0 L) ((Value.int j :: Value.ref a :: S).map (lf n0))) rfl rfl (hb hc d) _ h1, h2⟩
theorem baload {a jn : Nat} {vs : List Value} {j : Int32} {v : Value} (d : decode B.2.1 pc = .ok (.baload, 1)) (hH : H[a]? = some (.inr (.byte, vs))) (hj0 : ¬ j < 0) (hj : j.toNatClampNeg = jn) (hv : vs[jn]? = some v)
    (hr : WP l Z a0 n0 B R k n (pc + 1) L (v :: S) H Q) : WP l Z a0 n0 B R k n pc L (.int j :: .ref a :: S) H Q := by
  intro p e s m args below meth c T locs X hx hc hml hret hlk hZ hown hnm hF hR
  obtain ⟨cl, A, es, -, hin⟩ := arr_at hR hH hj0 hj (lt_of_at hv)
  obtain ⟨t, o, h1, h2⟩ := hr p e s m args below meth c T locs X hx hc hml hret hlk hZ hown hnm hF hR
  exact ⟨t, o, X.baloadBytes hx A.1 (State.isArrayOf_alike hZ.alike A.2.1) A.2.2 hin (load_at es hj hv) (g := mkF m pc (LL n0 L) ((Value.int j :: Value.ref a :: S).map (lf n0))) rfl rfl (hb hc d) _ h1, h2⟩
theorem set_rep {h h' : Heap} {a jn : Nat} {ty : FieldType} {vs vs' : List Value} {c : Cell} {v : Value} {H' : SH} (hR : Rep Z a0 n0 h H) (hH : H[a]? = some (.inr (ty, vs))) (A : Arr Z h (n0 + a) c ty) (es : c.slots = (vs.map (lf n0)).toArray) (hlen : vs.length < 2 ^ 31) (W' : Wr h h' (n0 + a) jn (lf n0 v))
    (hset : vs.set jn v = vs') (hset2 : H.set a (.inr (ty, vs')) = H') : Rep Z a0 n0 h' H' := by
  subst hset hset2
  refine hR.set W' (lt_of_at hH) ⟨_, A.same W', ?_, by simpa using hlen⟩
  simp only [Cell.setSlot, es]
  apply Array.toList_inj.mp
  simp [List.map_set]
theorem iastore {a jn : Nat} {vs vs' : List Value} {j x : Int32} {H' : SH} (d : decode B.2.1 pc = .ok (.iastore, 1)) (hH : H[a]? = some (.inr (.int, vs))) (hj0 : ¬ j < 0) (hj : j.toNatClampNeg = jn) (hlt : jn < vs.length) (hset : vs.set jn (.int x) = vs') (hset2 : H.set a (.inr (.int, vs')) = H')
    (hr : WP l Z a0 n0 B R k n (pc + 1) L S H' Q) : WP l Z a0 n0 B R k n pc L (.int x :: .int j :: .ref a :: S) H Q := by
  intro p e s m args below meth c T locs X hx hc hml hret hlk hZ hown hnm hF hR
  obtain ⟨cl, A, es, hlen, hin⟩ := arr_at hR hH hj0 hj hlt
  obtain ⟨T', h', X', e', W', st⟩ := stI X hx hZ rfl A hin (g := mkF m pc (LL n0 L) ((Value.int x :: Value.int j :: Value.ref a :: S).map (lf n0))) rfl rfl (hb hc d)
  obtain ⟨t, o, h1, h2⟩ := hr p e s m args below meth c T' _ X' hx hc hml hret hlk hZ hown hnm (Fr.snoc X' hF (Nat.le_add_right _ _)) (by rw [e']; exact set_rep hR hH A es hlen (hj ▸ W') hset hset2)
  exact ⟨t, o, st _ h1, h2⟩
theorem lastore {a jn : Nat} {vs vs' : List Value} {j : Int32} {x : Int64} {H' : SH} (d : decode B.2.1 pc = .ok (.lastore, 1)) (hH : H[a]? = some (.inr (.long, vs))) (hj0 : ¬ j < 0) (hj : j.toNatClampNeg = jn) (hlt : jn < vs.length) (hset : vs.set jn (.long x) = vs') (hset2 : H.set a (.inr (.long, vs')) = H')
    (hr : WP l Z a0 n0 B R k n (pc + 1) L S H' Q) : WP l Z a0 n0 B R k n pc L (.long x :: .int j :: .ref a :: S) H Q := by
  intro p e s m args below meth c T locs X hx hc hml hret hlk hZ hown hnm hF hR
  obtain ⟨cl, A, es, hlen, hin⟩ := arr_at hR hH hj0 hj hlt
  obtain ⟨T', h', X', e', W', st⟩ := stJ X hx hZ rfl A hin (g := mkF m pc (LL n0 L) ((Value.long x :: Value.int j :: Value.ref a :: S).map (lf n0))) rfl rfl (hb hc d)
  obtain ⟨t, o, h1, h2⟩ := hr p e s m args below meth c T' _ X' hx hc hml hret hlk hZ hown hnm (Fr.snoc X' hF (Nat.le_add_right _ _)) (by rw [e']; exact set_rep hR hH A es hlen (hj ▸ W') hset hset2)
  exact ⟨t, o, st _ h1, h2⟩
theorem bastore {a jn : Nat} {vs vs' : List Value} {j x y : Int32} {H' : SH} (d : decode B.2.1 pc = .ok (.bastore, 1)) (hH : H[a]? = some (.inr (.byte, vs))) (hj0 : ¬ j < 0) (hj : j.toNatClampNeg = jn) (hlt : jn < vs.length) (hy : x.toInt8.toInt32 = y) (hset : vs.set jn (.int y) = vs') (hset2 : H.set a (.inr (.byte, vs')) = H')
    (hr : WP l Z a0 n0 B R k n (pc + 1) L S H' Q) : WP l Z a0 n0 B R k n pc L (.int x :: .int j :: .ref a :: S) H Q := by
  intro p e s m args below meth c T locs X hx hc hml hret hlk hZ hown hnm hF hR
  obtain ⟨cl, A, es, hlen, hin⟩ := arr_at hR hH hj0 hj hlt
  obtain ⟨T', h', X', e', W', st⟩ := stB X hx hZ rfl A hin (g := mkF m pc (LL n0 L) ((Value.int x :: Value.int j :: Value.ref a :: S).map (lf n0))) rfl rfl (hb hc d)
  subst hy
  obtain ⟨t, o, h1, h2⟩ := hr p e s m args below meth c T' _ X' hx hc hml hret hlk hZ hown hnm (Fr.snoc X' hF (Nat.le_add_right _ _)) (by rw [e']; exact set_rep (v := .int x.toInt8.toInt32) hR hH A es hlen (hj ▸ W') hset hset2)
  exact ⟨t, o, st _ h1, h2⟩
theorem arraylength {a : Nat} {ty : FieldType} {vs : List Value} {N : Int32} (d : decode B.2.1 pc = .ok (.arraylength, 1)) (hH : H[a]? = some (.inr (ty, vs))) (hN : vs.length.toInt32 = N) (hr : WP l Z a0 n0 B R k n (pc + 1) L (.int N :: S) H Q) : WP l Z a0 n0 B R k n pc L (.ref a :: S) H Q := by
  intro p e s m args below meth c T locs X hx hc hml hret hlk hZ hown hnm hF hR
  obtain ⟨cl, A, es, -⟩ := hR.2 a _ hH
  obtain ⟨t, o, h1, h2⟩ := hr p e s m args below meth c T locs X hx hc hml hret hlk hZ hown hnm hF hR
  refine ⟨t, o, X.arraylength hx A.1 (State.isArrayOf_alike hZ.alike A.2.1) (g := mkF m pc (LL n0 L) ((Value.ref a :: S).map (lf n0))) rfl rfl (hb hc d) _ ?_, h2⟩
  have e1 : cl.slots.size.toInt32 = N := by rw [es, ← hN]; simp
  rw [e1]
  exact h1
/-! ### returns -/
theorem leave' {p : Program} {e : Env} {s : State} {m : MethodId} {args : Array Value} {below : List Frame} {meth : Method} {c : Code} {T : State} {locs : List Loc} (X : Stand p l e R s m args below meth c T locs k n) (hlk : meth.locks = false) {v : Option Value} (hv : meth.sig.returnType = none → v = none) (hF : Fr n0 locs) (hR : Rep Z a0 n0 T.heap H) (hQ : Q v H) (hk : k ≤ R.cells) (hn : n ≤ R.slots) {g : JFrame}
    (st : ∀ fs, (∀ (f : JFrame) (acts : List Action), f.method = m → f.locked = none → f.entered = [] → (doReturn e (T.setTop f) acts (v.map (lf n0))).1 = T.setFrames fs) → Steps p.tables e below (T.setTop g) (T.setFrames fs)) :
    ∃ t o, Steps p.tables e below (T.setTop g) t ∧ t.status = .running ∧ Ended t below o ∧
      ∃ v L', o = .returned (v.map (lf n0)) ∧ (∃ H', Q v H' ∧ Rep Z a0 n0 t.heap H') ∧ Fr n0 L' ∧ FrameEnd s o t L' R.cells R.slots := by
  obtain ⟨fs, hr, hrun, hended, hW, hsame⟩ := X.leave (v := v.map (lf n0)) (fun q => by rw [hv q]; rfl) hlk
  exact ⟨_, _, st fs hr, hrun, hended, v, locs, rfl, ⟨H, hQ, hR⟩, hF, ⟨_, rfl⟩, hW, hsame.mono hk hn⟩
theorem retI {x : Int32} (d : decode B.2.1 pc = .ok (.ireturn, 1)) (hrt : B.2.2.2 = some .int) (hk : k ≤ R.cells) (hn : n ≤ R.slots) (hQ : Q (some (.int x)) H) : WP l Z a0 n0 B R k n pc L (.int x :: S) H Q := by
  intro p e s m args below meth c T locs X hx hc hml hret hlk hZ hown hnm hF hR
  refine leave' X hlk (v := some (.int x)) (fun q => by rw [hret, hrt] at q; cases q) hF hR hQ hk hn fun fs hr => ?_
  exact retOut X hx (hret.trans hrt) rfl (Or.inl ⟨rfl, Or.inl rfl, x, rfl⟩) (hb hc d) hr
theorem retN {x y : Int32} {ty : FieldType} (d : decode B.2.1 pc = .ok (.ireturn, 1)) (hrt : B.2.2.2 = some ty) (ht : ty = .boolean ∨ ty = .byte ∨ ty = .char ∨ ty = .short) (hy : nar ty x = y) (hk : k ≤ R.cells) (hn : n ≤ R.slots) (hQ : Q (some (.int y)) H) : WP l Z a0 n0 B R k n pc L (.int x :: S) H Q := by
  intro p e s m args below meth c T locs X hx hc hml hret hlk hZ hown hnm hF hR
  subst hy
  refine leave' X hlk (v := some (.int (nar ty x))) (fun q => by rw [hret, hrt] at q; cases q) hF hR hQ hk hn fun fs hr => ?_
  exact RoadKit.retN X hx (hret.trans hrt) ht (hb hc d) hr
theorem retL {x : Int64} (d : decode B.2.1 pc = .ok (.lreturn, 1)) (hrt : B.2.2.2 = some .long) (hk : k ≤ R.cells) (hn : n ≤ R.slots) (hQ : Q (some (.long x)) H) : WP l Z a0 n0 B R k n pc L (.long x :: S) H Q := by
  intro p e s m args below meth c T locs X hx hc hml hret hlk hZ hown hnm hF hR
  refine leave' X hlk (v := some (.long x)) (fun q => by rw [hret, hrt] at q; cases q) hF hR hQ hk hn fun fs hr => ?_
  exact retOut X hx (hret.trans hrt) rfl (Or.inr (Or.inl ⟨rfl, rfl, x, rfl⟩)) (hb hc d) hr
theorem retA {v : Value} {ty : FieldType} (d : decode B.2.1 pc = .ok (.areturn, 1)) (hrt : B.2.2.2 = some ty) (ht : ty.isReference = true) (hv : v.isRef = true) (hk : k ≤ R.cells) (hn : n ≤ R.slots) (hQ : Q (some v) H) : WP l Z a0 n0 B R k n pc L (v :: S) H Q := by
  intro p e s m args below meth c T locs X hx hc hml hret hlk hZ hown hnm hF hR
  refine leave' X hlk (v := some v) (fun q => by rw [hret, hrt] at q; cases q) hF hR hQ hk hn fun fs hr => ?_
  refine retOut X hx (hret.trans hrt) ?_ (Or.inr (Or.inr (Or.inr (Or.inr ⟨rfl, ht, by rw [lf_isRef]; exact hv⟩)))) (hb hc d) hr
  cases ty <;> first | (cases ht; done) | rfl
theorem ret0 (d : decode B.2.1 pc = .ok (.return_, 1)) (hrt : B.2.2.2 = none) (hk : k ≤ R.cells) (hn : n ≤ R.slots) (hQ : Q none H) : WP l Z a0 n0 B R k n pc L [] H Q := by
  intro p e s m args below meth c T locs X hx hc hml hret hlk hZ hown hnm hF hR
  refine leave' X hlk (v := none) (fun _ => rfl) hF hR hQ hk hn fun fs hr => ?_
  exact X.returnOut hx (hret.trans hrt) (hb hc d) hr
/-! ### calls -/
theorem cat_sum (n0 : Nat) (S : List Value) : ((S.map (lf n0)).map fun v => v.category).sum = (S.map fun v => v.category).sum := by
  simp [List.map_map, Function.comp_def, lf_cat]
theorem lf_out (n0 : Nat) (v : Option Value) (S : List Value) : (v.map (lf n0)).toList ++ S.map (lf n0) = (v.toList ++ S).map (lf n0) := by cases v <;> simp
theorem rep_plain {h : Heap} {a : Nat} {c : SC} (hR : Rep Z a0 n0 h H) (hH : H[a]? = some c) : ∃ cell : Cell, h[n0 + a]? = some cell ∧ ∀ q, cell.vm ≠ .statics q := by
  have K := hR.2 a _ hH
  rcases c with ⟨C, fs⟩ | ⟨ty, vs⟩
  · exact K.1.cell
  · obtain ⟨c, A, -⟩ := K
    exact ⟨c, A.1, A.2.1.1⟩
variable {B' : Bdy} {R' : Room} {as S' : List Value} {Q' : Option Value → SH → Prop} {ps : List FieldType} {r : Option FieldType} {i1 i2 i3 i4 i5 idx k' n' : Nat}
theorem callS (hw : ∀ d ∈ W, d.before a0 Z = true) (w1 : W[i1]? = some (.methodLink B.1.cls idx B'.1)) (w2 : W[i2]? = some (.static B'.1)) (w3 : W[i3]? = some (.initialized B'.1.cls)) (w4 : W[i4]? = some (.code B'.1 B'.2.1 B'.2.2.1 B'.2.2.2))
    (hy : B'.1.cls ≠ "java/lang/invoke/MethodHandle" ∧ B'.1.cls ≠ "java/lang/invoke/VarHandle") (hM : Meth l Z a0 n0 B' R' as H Q') (d : decode B.2.1 pc = .ok (.invokestatic idx, 3)) (hS : S = as.reverse ++ S') (hL : L.length = B.2.2.1) (hd : parseMethodDescriptor B'.1.desc = some ⟨ps, r⟩) (hps : as.length = ps.length)
    (hf : R'.frames + 1 ≤ R.frames) (hl : (S'.map fun v => v.category).sum + (B'.2.2.1 + 11) + R'.locals ≤ R.locals) (hc : k + R'.cells ≤ R.cells) (hs : n + R'.slots ≤ R.slots) (hk : k + R'.cells = k') (hn : n + R'.slots = n')
    (hr : ∀ v H', Q' v H' → WP l Z a0 n0 B R k' n' (pc + 3) L (v.toList ++ S') H' Q) : WP l Z a0 n0 B R k n pc L S H Q := by
  intro p e s m args below meth c T locs X hx hc' hml hret hlk hZ hown hnm hF hR
  subst hk hn hS
  have v4 := hw _ (List.mem_of_getElem? w4)
  have v3 := hw _ (List.mem_of_getElem? w3)
  obtain ⟨_, _, ⟨T', L1, k1, n1⟩, -, X', ⟨L2, ⟨v, H', rfl, hq, hR', hF'⟩, e1, e2, e3⟩, st⟩ := Jvm.LawKit.callS X hx hown (mvT hZ (hw _ (List.mem_of_getElem? w1))) (mvT hZ (hw _ (List.mem_of_getElem? w2))) (mvT hZ v3) (mvT hZ v4) hy (W := (S'.map fun v => v.category).sum)
    (backOf (h := T.heap) (Q := fun v h L => ∃ v' H', v = v'.map (lf n0) ∧ Q' v' H' ∧ Rep Z a0 n0 h H' ∧ Fr n0 L) (hM T.heap [] hR) hZ v4 v3 hf hl) (g := mkF m pc (LL n0 L) ((as.reverse ++ S').map (lf n0))) rfl (by rw [hml, ← hL]; simp) (argsL := as.map (lf n0)) (rest := S'.map (lf n0)) (lenOf hd (by simpa using hps)) (by simp) (by show 2 * 0 + _ ≤ _; rw [cat_sum]; omega) (hb hc' d) (fun _ _ => ⟨rfl, rfl, hc, hs⟩)
  dsimp only [Pt.U, Pt.locs, Pt.cells, Pt.slots] at X' e1 e2 e3 hR' st
  subst e1 e2 e3
  obtain ⟨t, o, h1, h2⟩ := hr v H' hq p e s m args below meth c T' _ X' hx hc' hml hret hlk hZ hown hnm (Fr.app hF hF') hR'
  refine ⟨t, o, st _ ?_, h2⟩
  rw [lf_out]
  exact h1
theorem callI {a : Nat} (hw : ∀ d ∈ W, d.before a0 Z = true) (hi : B'.1.name = "<init>") (hret' : B'.2.2.2 = none) (w1 : W[i1]? = some (.methodLink B.1.cls idx B'.1)) (w2 : W[i2]? = some (.instanceMethod B'.1)) (w3 : W[i3]? = some (.initialized B'.1.cls)) (w4 : W[i4]? = some (.code B'.1 B'.2.1 B'.2.2.1 B'.2.2.2))
    (hy : B'.1.cls ≠ "java/lang/invoke/MethodHandle" ∧ B'.1.cls ≠ "java/lang/invoke/VarHandle") (hM : Meth l Z a0 n0 B' R' (.ref a :: as) H Q') (d : decode B.2.1 pc = .ok (.invokespecial idx, 3)) (hS : S = as.reverse ++ .ref a :: S') (hL : L.length = B.2.2.1) (hd : parseMethodDescriptor B'.1.desc = some ⟨ps, r⟩) (hps : as.length = ps.length)
    (hf : R'.frames + 1 ≤ R.frames) (hl : (S'.map fun v => v.category).sum + (B'.2.2.1 + 11) + R'.locals ≤ R.locals) (hc : k + R'.cells ≤ R.cells) (hs : n + R'.slots ≤ R.slots) (hk : k + R'.cells = k') (hn : n + R'.slots = n')
    (hr : ∀ v H', Q' v H' → WP l Z a0 n0 B R k' n' (pc + 3) L (v.toList ++ S') H' Q) : WP l Z a0 n0 B R k n pc L S H Q := by
  intro p e s m args below meth c T locs X hx hc' hml hret hlk hZ hown hnm hF hR
  subst hk hn hS
  have v4 := hw _ (List.mem_of_getElem? w4)
  have v3 := hw _ (List.mem_of_getElem? w3)
  obtain ⟨_, _, ⟨T', L1, k1, n1⟩, -, X', ⟨L2, ⟨v, H', rfl, hq, hR', hF'⟩, e1, e2, e3⟩, st⟩ := X.specialBack hx hi hown (mvT hZ (hw _ (List.mem_of_getElem? w1))) (mvT hZ (hw _ (List.mem_of_getElem? w2))) (bytes := B'.2.1) (maxL := B'.2.2.1) (by rw [← hret']; exact mvT hZ v4) hy (W := (S'.map fun v => v.category).sum)
    (backOf (h := T.heap) (Q := fun v h L => ∃ v' H', v = v'.map (lf n0) ∧ Q' v' H' ∧ Rep Z a0 n0 h H' ∧ Fr n0 L) (hM T.heap [] hR) hZ v4 v3 hf hl) (g := mkF m pc (LL n0 L) ((as.reverse ++ Value.ref a :: S').map (lf n0))) rfl (by rw [hml, ← hL]; simp) (Steps.refl _) (a := n0 + a) (argsL := as.map (lf n0)) (rest := S'.map (lf n0)) (lenOf hd (by simpa using hps)) (by simp [lf]) (by show 2 * 0 + _ ≤ _; rw [cat_sum]; omega) (hb hc' d) (fun _ _ => ⟨rfl, rfl, hc, hs⟩)
  dsimp only [Pt.U, Pt.locs, Pt.cells, Pt.slots] at X' e1 e2 e3 hR' st
  subst e1 e2 e3
  obtain ⟨t, o, h1, h2⟩ := hr v H' hq p e s m args below meth c T' _ X' hx hc' hml hret hlk hZ hown hnm (Fr.app hF hF') hR'
  refine ⟨t, o, st.trans ?_, h2⟩
  rw [lf_out]
  exact h1
theorem callV {a : Nat} {fs : List (String × String × Value)} (hw : ∀ d ∈ W, d.before a0 Z = true) (w1 : W[i1]? = some (.methodLink B.1.cls idx B'.1)) (w5 : W[i5]? = some (.declares B'.1)) (w2 : W[i2]? = some (.instanceMethod B'.1)) {i6 : Nat} (w6 : W[i6]? = some (.selects B'.1.cls B'.1 B'.1)) (w3 : W[i3]? = some (.initialized B'.1.cls)) (w4 : W[i4]? = some (.code B'.1 B'.2.1 B'.2.2.1 B'.2.2.2))
    (hy : B'.1.cls ≠ "java/lang/invoke/MethodHandle" ∧ B'.1.cls ≠ "java/lang/invoke/VarHandle") (hH : H[a]? = some (.inl (B'.1.cls, fs))) (hM : Meth l Z a0 n0 B' R' (.ref a :: as) H Q') (d : decode B.2.1 pc = .ok (.invokevirtual idx, 3)) (hS : S = as.reverse ++ .ref a :: S') (hL : L.length = B.2.2.1) (hd : parseMethodDescriptor B'.1.desc = some ⟨ps, r⟩) (hps : as.length = ps.length)
    (hf : R'.frames + 1 ≤ R.frames) (hl : (S'.map fun v => v.category).sum + (B'.2.2.1 + 11) + R'.locals ≤ R.locals) (hc : k + R'.cells ≤ R.cells) (hs : n + R'.slots ≤ R.slots) (hk : k + R'.cells = k') (hn : n + R'.slots = n')
    (hr : ∀ v H', Q' v H' → WP l Z a0 n0 B R k' n' (pc + 3) L (v.toList ++ S') H' Q) : WP l Z a0 n0 B R k n pc L S H Q := by
  intro p e s m args below meth c T locs X hx hc' hml hret hlk hZ hown hnm hF hR
  subst hk hn hS
  have v4 := hw _ (List.mem_of_getElem? w4)
  have v3 := hw _ (List.mem_of_getElem? w3)
  have v6 := hw _ (List.mem_of_getElem? w6)
  obtain ⟨cB, kB, f1, f2, f3⟩ := isOf hZ rfl (hR.2 a _ hH).1
  obtain ⟨_, _, ⟨T', L1, k1, n1⟩, -, X', ⟨L2, ⟨v, H', rfl, hq, hR', hF'⟩, e1, e2, e3⟩, st⟩ := X.virtualBack hx hown (mvT hZ (hw _ (List.mem_of_getElem? w1))) (mvT hZ (hw _ (List.mem_of_getElem? w5))) (notFace_of_selects (args := #[]) (mvT hZ v6)) (mvT hZ v6) (mvT hZ (hw _ (List.mem_of_getElem? w2))) hy (W := (S'.map fun v => v.category).sum)
    (backOf (h := T.heap) (Q := fun v h L => ∃ v' H', v = v'.map (lf n0) ∧ Q' v' H' ∧ Rep Z a0 n0 h H' ∧ Fr n0 L) (hM T.heap [] hR) hZ v4 v3 hf hl) f1 f3 (g := mkF m pc (LL n0 L) ((as.reverse ++ Value.ref a :: S').map (lf n0))) rfl (by rw [hml, ← hL]; simp) (Steps.refl _) (argsL := as.map (lf n0)) (rest := S'.map (lf n0)) (lenOf hd (by simpa using hps)) (by simp [lf]) (by show 2 * 0 + _ ≤ _; rw [cat_sum]; omega) (hb hc' d) (fun _ _ => ⟨rfl, rfl, hc, hs⟩)
  dsimp only [Pt.U, Pt.locs, Pt.cells, Pt.slots] at X' e1 e2 e3 hR' st
  subst e1 e2 e3
  obtain ⟨t, o, h1, h2⟩ := hr v H' hq p e s m args below meth c T' _ X' hx hc' hml hret hlk hZ hown hnm (Fr.app hF hF') hR'
  refine ⟨t, o, st.trans ?_, h2⟩
  rw [lf_out]
  exact h1
/-- a private instance method: its class is no interface, as some 'instantiable' word of it says -/
theorem callP {a : Nat} {fs : List (String × String × Value)} (hw : ∀ d ∈ W, d.before a0 Z = true) (w1 : W[i1]? = some (.methodLink B.1.cls idx B'.1)) (w2 : W[i2]? = some (.instanceMethod B'.1)) (w5 : W[i5]? = some (.privateMethod B'.1)) {i6 cnt : Nat} (w6 : W[i6]? = some (.instantiable B'.1.cls cnt)) (w3 : W[i3]? = some (.initialized B'.1.cls)) (w4 : W[i4]? = some (.code B'.1 B'.2.1 B'.2.2.1 B'.2.2.2))
    (hy : B'.1.cls ≠ "java/lang/invoke/MethodHandle" ∧ B'.1.cls ≠ "java/lang/invoke/VarHandle") (hH : H[a]? = some (.inl (B'.1.cls, fs))) (hM : Meth l Z a0 n0 B' R' (.ref a :: as) H Q') (d : decode B.2.1 pc = .ok (.invokevirtual idx, 3)) (hS : S = as.reverse ++ .ref a :: S') (hL : L.length = B.2.2.1) (hd : parseMethodDescriptor B'.1.desc = some ⟨ps, r⟩) (hps : as.length = ps.length)
    (hf : R'.frames + 1 ≤ R.frames) (hl : (S'.map fun v => v.category).sum + (B'.2.2.1 + 11) + R'.locals ≤ R.locals) (hc : k + R'.cells ≤ R.cells) (hs : n + R'.slots ≤ R.slots) (hk : k + R'.cells = k') (hn : n + R'.slots = n')
    (hr : ∀ v H', Q' v H' → WP l Z a0 n0 B R k' n' (pc + 3) L (v.toList ++ S') H' Q) : WP l Z a0 n0 B R k n pc L S H Q := by
  intro p e s m args below meth c T locs X hx hc' hml hret hlk hZ hown hnm hF hR
  subst hk hn hS
  have v4 := hw _ (List.mem_of_getElem? w4)
  have v3 := hw _ (List.mem_of_getElem? w3)
  have v2 : (Jvm.Cond.instanceMethod B'.1).before args s = true := mvT hZ (hw _ (List.mem_of_getElem? w2))
  have vp := Cond.privateMethod_at (mvP hZ (hw _ (List.mem_of_getElem? w5)) (args := #[]))
  have v6 : (Jvm.Cond.instantiable B'.1.cls cnt).before args s = true := mv hZ (hw _ (List.mem_of_getElem? w6))
  obtain ⟨cI, kI, j1, j2, j3, j4⟩ := Cond.instantiable_spec v6
  have jI : kI.isInterface = false := (Bool.or_eq_false_iff.mp j4.1).1
  obtain ⟨cell, q1, q2⟩ := rep_plain hR hH
  obtain ⟨_, _, ⟨T', L1, k1, n1⟩, -, X', ⟨L2, ⟨v, H', rfl, hq, hR', hF'⟩, e1, e2, e3⟩, st⟩ := X.privateBack hx hown (mvT hZ (hw _ (List.mem_of_getElem? w1))) v2 (selects_self_of_private j1 j2 jI vp v2 hy) vp (mvT hZ v4) hy (W := (S'.map fun v => v.category).sum)
    (backOf (h := T.heap) (Q := fun v h L => ∃ v' H', v = v'.map (lf n0) ∧ Q' v' H' ∧ Rep Z a0 n0 h H' ∧ Fr n0 L) (hM T.heap [] hR) hZ v4 v3 hf hl) (g := mkF m pc (LL n0 L) ((as.reverse ++ Value.ref a :: S').map (lf n0))) rfl (by rw [hml, ← hL]; simp) (Steps.refl _) (a := n0 + a) q1 q2 (argsL := as.map (lf n0)) (rest := S'.map (lf n0)) (lenOf hd (by simpa using hps)) (by simp [lf]) (by show 2 * 0 + _ ≤ _; rw [cat_sum]; omega) (hb hc' d) (fun _ _ => ⟨rfl, rfl, hc, hs⟩)
  dsimp only [Pt.U, Pt.locs, Pt.cells, Pt.slots] at X' e1 e2 e3 hR' st
  subst e1 e2 e3
  obtain ⟨t, o, h1, h2⟩ := hr v H' hq p e s m args below meth c T' _ X' hx hc' hml hret hlk hZ hown hnm (Fr.app hF hF') hR'
  refine ⟨t, o, st.trans ?_, h2⟩
  rw [lf_out]
  exact h1
theorem initObj {a : Nat} (hw : ∀ d ∈ W, d.before a0 Z = true) (w1 : W[i1]? = some (.methodLink B.1.cls idx Lib.objectInit)) (w2 : W[i2]? = some (.instanceMethod Lib.objectInit)) (w3 : W[i3]? = some (.code Lib.objectInit ⟨#[0xb1]⟩ 1 none)) (d : decode B.2.1 pc = .ok (.invokespecial idx, 3)) (hL : L.length = B.2.2.1)
    (hf : 1 ≤ R.frames) (hl : (S.map fun v => v.category).sum + 12 ≤ R.locals) (hr : WP l Z a0 n0 B R k n (pc + 3) L S H Q) : WP l Z a0 n0 B R k n pc L (.ref a :: S) H Q := by
  intro p e s m args below meth c T locs X hx hc hml hret hlk hZ hown hnm hF hR
  obtain ⟨T', X', e', st⟩ := initO X hx hZ hown (hw _ (List.mem_of_getElem? w1)) (hw _ (List.mem_of_getElem? w2)) (hw _ (List.mem_of_getElem? w3)) rfl (g := mkF m pc (LL n0 L) ((Value.ref a :: S).map (lf n0))) rfl (by rw [hml, ← hL]; simp) (a := n0 + a) (rest := S.map (lf n0)) rfl (hb hc d) hf (W := (S.map fun v => v.category).sum) (by show 2 * 0 + _ ≤ _; rw [cat_sum]; omega) hl
  obtain ⟨t, o, h1, h2⟩ := hr p e s m args below meth c T' locs X' hx hc hml hret hlk hZ hown hnm hF (by rw [e']; exact hR)
  exact ⟨t, o, st _ h1, h2⟩
end
end Jvm.Sh
namespace Jvm.Sh
open Jvm Jvm.ClassFile Sem Op Lib
theorem le {a b : Nat} (h : Nat.ble a b = true) : a ≤ b := Nat.le_of_ble_eq_true h
theorem s1_1 {a0 o : Slot} {L : List Slot} {v : Value} (ho : okS o = true) (hv : v.category = 1) : stOK (a0 :: o :: L) 1 v (a0 :: .val v :: L) := st1 (o := o) rfl ho hv rfl
theorem s1_2 {a0 a1 o : Slot} {L : List Slot} {v : Value} (ho : okS o = true) (hv : v.category = 1) : stOK (a0 :: a1 :: o :: L) 2 v (a0 :: a1 :: .val v :: L) := st1 (o := o) rfl ho hv rfl
theorem s1_9 {a0 a1 a2 a3 a4 a5 a6 a7 a8 o : Slot} {L : List Slot} {v : Value} (ho : okS o = true) (hv : v.category = 1) : stOK (a0 :: a1 :: a2 :: a3 :: a4 :: a5 :: a6 :: a7 :: a8 :: o :: L) 9 v (a0 :: a1 :: a2 :: a3 :: a4 :: a5 :: a6 :: a7 :: a8 :: .val v :: L) := st1 (o := o) rfl ho hv rfl
theorem s1_10 {a0 a1 a2 a3 a4 a5 a6 a7 a8 a9 o : Slot} {L : List Slot} {v : Value} (ho : okS o = true) (hv : v.category = 1) : stOK (a0 :: a1 :: a2 :: a3 :: a4 :: a5 :: a6 :: a7 :: a8 :: a9 :: o :: L) 10 v (a0 :: a1 :: a2 :: a3 :: a4 :: a5 :: a6 :: a7 :: a8 :: a9 :: .val v :: L) := st1 (o := o) rfl ho hv rfl
theorem s1_11 {a0 a1 a2 a3 a4 a5 a6 a7 a8 a9 a10 o : Slot} {L : List Slot} {v : Value} (ho : okS o = true) (hv : v.category = 1) : stOK (a0 :: a1 :: a2 :: a3 :: a4 :: a5 :: a6 :: a7 :: a8 :: a9 :: a10 :: o :: L) 11 v (a0 :: a1 :: a2 :: a3 :: a4 :: a5 :: a6 :: a7 :: a8 :: a9 :: a10 :: .val v :: L) := st1 (o := o) rfl ho hv rfl
theorem s1_12 {a0 a1 a2 a3 a4 a5 a6 a7 a8 a9 a10 a11 o : Slot} {L : List Slot} {v : Value} (ho : okS o = true) (hv : v.category = 1) : stOK (a0 :: a1 :: a2 :: a3 :: a4 :: a5 :: a6 :: a7 :: a8 :: a9 :: a10 :: a11 :: o :: L) 12 v (a0 :: a1 :: a2 :: a3 :: a4 :: a5 :: a6 :: a7 :: a8 :: a9 :: a10 :: a11 :: .val v :: L) := st1 (o := o) rfl ho hv rfl
theorem s1_13 {a0 a1 a2 a3 a4 a5 a6 a7 a8 a9 a10 a11 a12 o : Slot} {L : List Slot} {v : Value} (ho : okS o = true) (hv : v.category = 1) : stOK (a0 :: a1 :: a2 :: a3 :: a4 :: a5 :: a6 :: a7 :: a8 :: a9 :: a10 :: a11 :: a12 :: o :: L) 13 v (a0 :: a1 :: a2 :: a3 :: a4 :: a5 :: a6 :: a7 :: a8 :: a9 :: a10 :: a11 :: a12 :: .val v :: L) := st1 (o := o) rfl ho hv rfl
theorem s1_14 {a0 a1 a2 a3 a4 a5 a6 a7 a8 a9 a10 a11 a12 a13 o : Slot} {L : List Slot} {v : Value} (ho : okS o = true) (hv : v.category = 1) : stOK (a0 :: a1 :: a2 :: a3 :: a4 :: a5 :: a6 :: a7 :: a8 :: a9 :: a10 :: a11 :: a12 :: a13 :: o :: L) 14 v (a0 :: a1 :: a2 :: a3 :: a4 :: a5 :: a6 :: a7 :: a8 :: a9 :: a10 :: a11 :: a12 :: a13 :: .val v :: L) := st1 (o := o) rfl ho hv rfl
theorem s1_15 {a0 a1 a2 a3 a4 a5 a6 a7 a8 a9 a10 a11 a12 a13 a14 o : Slot} {L : List Slot} {v : Value} (ho : okS o = true) (hv : v.category = 1) : stOK (a0 :: a1 :: a2 :: a3 :: a4 :: a5 :: a6 :: a7 :: a8 :: a9 :: a10 :: a11 :: a12 :: a13 :: a14 :: o :: L) 15 v (a0 :: a1 :: a2 :: a3 :: a4 :: a5 :: a6 :: a7 :: a8 :: a9 :: a10 :: a11 :: a12 :: a13 :: a14 :: .val v :: L) := st1 (o := o) rfl ho hv rfl
theorem s1_16 {a0 a1 a2 a3 a4 a5 a6 a7 a8 a9 a10 a11 a12 a13 a14 a15 o : Slot} {L : List Slot} {v : Value} (ho : okS o = true) (hv : v.category = 1) : stOK (a0 :: a1 :: a2 :: a3 :: a4 :: a5 :: a6 :: a7 :: a8 :: a9 :: a10 :: a11 :: a12 :: a13 :: a14 :: a15 :: o :: L) 16 v (a0 :: a1 :: a2 :: a3 :: a4 :: a5 :: a6 :: a7 :: a8 :: a9 :: a10 :: a11 :: a12 :: a13 :: a14 :: a15 :: .val v :: L) := st1 (o := o) rfl ho hv rfl
theorem s1_17 {a0 a1 a2 a3 a4 a5 a6 a7 a8 a9 a10 a11 a12 a13 a14 a15 a16 o : Slot} {L : List Slot} {v : Value} (ho : okS o = true) (hv : v.category = 1) : stOK (a0 :: a1 :: a2 :: a3 :: a4 :: a5 :: a6 :: a7 :: a8 :: a9 :: a10 :: a11 :: a12 :: a13 :: a14 :: a15 :: a16 :: o :: L) 17 v (a0 :: a1 :: a2 :: a3 :: a4 :: a5 :: a6 :: a7 :: a8 :: a9 :: a10 :: a11 :: a12 :: a13 :: a14 :: a15 :: a16 :: .val v :: L) := st1 (o := o) rfl ho hv rfl
theorem s1_18 {a0 a1 a2 a3 a4 a5 a6 a7 a8 a9 a10 a11 a12 a13 a14 a15 a16 a17 o : Slot} {L : List Slot} {v : Value} (ho : okS o = true) (hv : v.category = 1) : stOK (a0 :: a1 :: a2 :: a3 :: a4 :: a5 :: a6 :: a7 :: a8 :: a9 :: a10 :: a11 :: a12 :: a13 :: a14 :: a15 :: a16 :: a17 :: o :: L) 18 v (a0 :: a1 :: a2 :: a3 :: a4 :: a5 :: a6 :: a7 :: a8 :: a9 :: a10 :: a11 :: a12 :: a13 :: a14 :: a15 :: a16 :: a17 :: .val v :: L) := st1 (o := o) rfl ho hv rfl
theorem s1_19 {a0 a1 a2 a3 a4 a5 a6 a7 a8 a9 a10 a11 a12 a13 a14 a15 a16 a17 a18 o : Slot} {L : List Slot} {v : Value} (ho : okS o = true) (hv : v.category = 1) : stOK (a0 :: a1 :: a2 :: a3 :: a4 :: a5 :: a6 :: a7 :: a8 :: a9 :: a10 :: a11 :: a12 :: a13 :: a14 :: a15 :: a16 :: a17 :: a18 :: o :: L) 19 v (a0 :: a1 :: a2 :: a3 :: a4 :: a5 :: a6 :: a7 :: a8 :: a9 :: a10 :: a11 :: a12 :: a13 :: a14 :: a15 :: a16 :: a17 :: a18 :: .val v :: L) := st1 (o := o) rfl ho hv rfl
theorem s1_20 {a0 a1 a2 a3 a4 a5 a6 a7 a8 a9 a10 a11 a12 a13 a14 a15 a16 a17 a18 a19 o : Slot} {L : List Slot} {v : Value} (ho : okS o = true) (hv : v.category = 1) : stOK (a0 :: a1 :: a2 :: a3 :: a4 :: a5 :: a6 :: a7 :: a8 :: a9 :: a10 :: a11 :: a12 :: a13 :: a14 :: a15 :: a16 :: a17 :: a18 :: a19 :: o :: L) 20 v (a0 :: a1 :: a2 :: a3 :: a4 :: a5 :: a6 :: a7 :: a8 :: a9 :: a10 :: a11 :: a12 :: a13 :: a14 :: a15 :: a16 :: a17 :: a18 :: a19 :: .val v :: L) := st1 (o := o) rfl ho hv rfl
theorem s1_21 {a0 a1 a2 a3 a4 a5 a6 a7 a8 a9 a10 a11 a12 a13 a14 a15 a16 a17 a18 a19 a20 o : Slot} {L : List Slot} {v : Value} (ho : okS o = true) (hv : v.category = 1) : stOK (a0 :: a1 :: a2 :: a3 :: a4 :: a5 :: a6 :: a7 :: a8 :: a9 :: a10 :: a11 :: a12 :: a13 :: a14 :: a15 :: a16 :: a17 :: a18 :: a19 :: a20 :: o :: L) 21 v (a0 :: a1 :: a2 :: a3 :: a4 :: a5 :: a6 :: a7 :: a8 :: a9 :: a10 :: a11 :: a12 :: a13 :: a14 :: a15 :: a16 :: a17 :: a18 :: a19 :: a20 :: .val v :: L) := st1 (o := o) rfl ho hv rfl
theorem s2_22 {a0 a1 a2 a3 a4 a5 a6 a7 a8 a9 a10 a11 a12 a13 a14 a15 a16 a17 a18 a19 a20 a21 o o2 : Slot} {L : List Slot} {v : Value} (ho : nS o = true) (h2 : n2 o2 = true) (hv : v.category = 2) : stOK (a0 :: a1 :: a2 :: a3 :: a4 :: a5 :: a6 :: a7 :: a8 :: a9 :: a10 :: a11 :: a12 :: a13 :: a14 :: a15 :: a16 :: a17 :: a18 :: a19 :: a20 :: a21 :: o :: o2 :: L) 22 v (a0 :: a1 :: a2 :: a3 :: a4 :: a5 :: a6 :: a7 :: a8 :: a9 :: a10 :: a11 :: a12 :: a13 :: a14 :: a15 :: a16 :: a17 :: a18 :: a19 :: a20 :: a21 :: .val v :: .second :: L) := st2 (o := o) (o2 := o2) rfl ho rfl h2 hv rfl
theorem s2_24 {a0 a1 a2 a3 a4 a5 a6 a7 a8 a9 a10 a11 a12 a13 a14 a15 a16 a17 a18 a19 a20 a21 a22 a23 o o2 : Slot} {L : List Slot} {v : Value} (ho : nS o = true) (h2 : n2 o2 = true) (hv : v.category = 2) : stOK (a0 :: a1 :: a2 :: a3 :: a4 :: a5 :: a6 :: a7 :: a8 :: a9 :: a10 :: a11 :: a12 :: a13 :: a14 :: a15 :: a16 :: a17 :: a18 :: a19 :: a20 :: a21 :: a22 :: a23 :: o :: o2 :: L) 24 v (a0 :: a1 :: a2 :: a3 :: a4 :: a5 :: a6 :: a7 :: a8 :: a9 :: a10 :: a11 :: a12 :: a13 :: a14 :: a15 :: a16 :: a17 :: a18 :: a19 :: a20 :: a21 :: a22 :: a23 :: .val v :: .second :: L) := st2 (o := o) (o2 := o2) rfl ho rfl h2 hv rfl
theorem s2_26 {a0 a1 a2 a3 a4 a5 a6 a7 a8 a9 a10 a11 a12 a13 a14 a15 a16 a17 a18 a19 a20 a21 a22 a23 a24 a25 o o2 : Slot} {L : List Slot} {v : Value} (ho : nS o = true) (h2 : n2 o2 = true) (hv : v.category = 2) : stOK (a0 :: a1 :: a2 :: a3 :: a4 :: a5 :: a6 :: a7 :: a8 :: a9 :: a10 :: a11 :: a12 :: a13 :: a14 :: a15 :: a16 :: a17 :: a18 :: a19 :: a20 :: a21 :: a22 :: a23 :: a24 :: a25 :: o :: o2 :: L) 26 v (a0 :: a1 :: a2 :: a3 :: a4 :: a5 :: a6 :: a7 :: a8 :: a9 :: a10 :: a11 :: a12 :: a13 :: a14 :: a15 :: a16 :: a17 :: a18 :: a19 :: a20 :: a21 :: a22 :: a23 :: a24 :: a25 :: .val v :: .second :: L) := st2 (o := o) (o2 := o2) rfl ho rfl h2 hv rfl
theorem s1_28 {a0 a1 a2 a3 a4 a5 a6 a7 a8 a9 a10 a11 a12 a13 a14 a15 a16 a17 a18 a19 a20 a21 a22 a23 a24 a25 a26 a27 o : Slot} {L : List Slot} {v : Value} (ho : okS o = true) (hv : v.category = 1) : stOK (a0 :: a1 :: a2 :: a3 :: a4 :: a5 :: a6 :: a7 :: a8 :: a9 :: a10 :: a11 :: a12 :: a13 :: a14 :: a15 :: a16 :: a17 :: a18 :: a19 :: a20 :: a21 :: a22 :: a23 :: a24 :: a25 :: a26 :: a27 :: o :: L) 28 v (a0 :: a1 :: a2 :: a3 :: a4 :: a5 :: a6 :: a7 :: a8 :: a9 :: a10 :: a11 :: a12 :: a13 :: a14 :: a15 :: a16 :: a17 :: a18 :: a19 :: a20 :: a21 :: a22 :: a23 :: a24 :: a25 :: a26 :: a27 :: .val v :: L) := st1 (o := o) rfl ho hv rfl
theorem s2_29 {a0 a1 a2 a3 a4 a5 a6 a7 a8 a9 a10 a11 a12 a13 a14 a15 a16 a17 a18 a19 a20 a21 a22 a23 a24 a25 a26 a27 a28 o o2 : Slot} {L : List Slot} {v : Value} (ho : nS o = true) (h2 : n2 o2 = true) (hv : v.category = 2) : stOK (a0 :: a1 :: a2 :: a3 :: a4 :: a5 :: a6 :: a7 :: a8 :: a9 :: a10 :: a11 :: a12 :: a13 :: a14 :: a15 :: a16 :: a17 :: a18 :: a19 :: a20 :: a21 :: a22 :: a23 :: a24 :: a25 :: a26 :: a27 :: a28 :: o :: o2 :: L) 29 v (a0 :: a1 :: a2 :: a3 :: a4 :: a5 :: a6 :: a7 :: a8 :: a9 :: a10 :: a11 :: a12 :: a13 :: a14 :: a15 :: a16 :: a17 :: a18 :: a19 :: a20 :: a21 :: a22 :: a23 :: a24 :: a25 :: a26 :: a27 :: a28 :: .val v :: .second :: L) := st2 (o := o) (o2 := o2) rfl ho rfl h2 hv rfl
theorem s2_31 {a0 a1 a2 a3 a4 a5 a6 a7 a8 a9 a10 a11 a12 a13 a14 a15 a16 a17 a18 a19 a20 a21 a22 a23 a24 a25 a26 a27 a28 a29 a30 o o2 : Slot} {L : List Slot} {v : Value} (ho : nS o = true) (h2 : n2 o2 = true) (hv : v.category = 2) : stOK (a0 :: a1 :: a2 :: a3 :: a4 :: a5 :: a6 :: a7 :: a8 :: a9 :: a10 :: a11 :: a12 :: a13 :: a14 :: a15 :: a16 :: a17 :: a18 :: a19 :: a20 :: a21 :: a22 :: a23 :: a24 :: a25 :: a26 :: a27 :: a28 :: a29 :: a30 :: o :: o2 :: L) 31 v (a0 :: a1 :: a2 :: a3 :: a4 :: a5 :: a6 :: a7 :: a8 :: a9 :: a10 :: a11 :: a12 :: a13 :: a14 :: a15 :: a16 :: a17 :: a18 :: a19 :: a20 :: a21 :: a22 :: a23 :: a24 :: a25 :: a26 :: a27 :: a28 :: a29 :: a30 :: .val v :: .second :: L) := st2 (o := o) (o2 := o2) rfl ho rfl h2 hv rfl
theorem s2_33 {a0 a1 a2 a3 a4 a5 a6 a7 a8 a9 a10 a11 a12 a13 a14 a15 a16 a17 a18 a19 a20 a21 a22 a23 a24 a25 a26 a27 a28 a29 a30 a31 a32 o o2 : Slot} {L : List Slot} {v : Value} (ho : nS o = true) (h2 : n2 o2 = true) (hv : v.category = 2) : stOK (a0 :: a1 :: a2 :: a3 :: a4 :: a5 :: a6 :: a7 :: a8 :: a9 :: a10 :: a11 :: a12 :: a13 :: a14 :: a15 :: a16 :: a17 :: a18 :: a19 :: a20 :: a21 :: a22 :: a23 :: a24 :: a25 :: a26 :: a27 :: a28 :: a29 :: a30 :: a31 :: a32 :: o :: o2 :: L) 33 v (a0 :: a1 :: a2 :: a3 :: a4 :: a5 :: a6 :: a7 :: a8 :: a9 :: a10 :: a11 :: a12 :: a13 :: a14 :: a15 :: a16 :: a17 :: a18 :: a19 :: a20 :: a21 :: a22 :: a23 :: a24 :: a25 :: a26 :: a27 :: a28 :: a29 :: a30 :: a31 :: a32 :: .val v :: .second :: L) := st2 (o := o) (o2 := o2) rfl ho rfl h2 hv rfl
theorem s2_35 {a0 a1 a2 a3 a4 a5 a6 a7 a8 a9 a10 a11 a12 a13 a14 a15 a16 a17 a18 a19 a20 a21 a22 a23 a24 a25 a26 a27 a28 a29 a30 a31 a32 a33 a34 o o2 : Slot} {L : List Slot} {v : Value} (ho : nS o = true) (h2 : n2 o2 = true) (hv : v.category = 2) : stOK (a0 :: a1 :: a2 :: a3 :: a4 :: a5 :: a6 :: a7 :: a8 :: a9 :: a10 :: a11 :: a12 :: a13 :: a14 :: a15 :: a16 :: a17 :: a18 :: a19 :: a20 :: a21 :: a22 :: a23 :: a24 :: a25 :: a26 :: a27 :: a28 :: a29 :: a30 :: a31 :: a32 :: a33 :: a34 :: o :: o2 :: L) 35 v (a0 :: a1 :: a2 :: a3 :: a4 :: a5 :: a6 :: a7 :: a8 :: a9 :: a10 :: a11 :: a12 :: a13 :: a14 :: a15 :: a16 :: a17 :: a18 :: a19 :: a20 :: a21 :: a22 :: a23 :: a24 :: a25 :: a26 :: a27 :: a28 :: a29 :: a30 :: a31 :: a32 :: a33 :: a34 :: .val v :: .second :: L) := st2 (o := o) (o2 := o2) rfl ho rfl h2 hv rfl
theorem s1_37 {a0 a1 a2 a3 a4 a5 a6 a7 a8 a9 a10 a11 a12 a13 a14 a15 a16 a17 a18 a19 a20 a21 a22 a23 a24 a25 a26 a27 a28 a29 a30 a31 a32 a33 a34 a35 a36 o : Slot} {L : List Slot} {v : Value} (ho : okS o = true) (hv : v.category = 1) : stOK (a0 :: a1 :: a2 :: a3 :: a4 :: a5 :: a6 :: a7 :: a8 :: a9 :: a10 :: a11 :: a12 :: a13 :: a14 :: a15 :: a16 :: a17 :: a18 :: a19 :: a20 :: a21 :: a22 :: a23 :: a24 :: a25 :: a26 :: a27 :: a28 :: a29 :: a30 :: a31 :: a32 :: a33 :: a34 :: a35 :: a36 :: o :: L) 37 v (a0 :: a1 :: a2 :: a3 :: a4 :: a5 :: a6 :: a7 :: a8 :: a9 :: a10 :: a11 :: a12 :: a13 :: a14 :: a15 :: a16 :: a17 :: a18 :: a19 :: a20 :: a21 :: a22 :: a23 :: a24 :: a25 :: a26 :: a27 :: a28 :: a29 :: a30 :: a31 :: a32 :: a33 :: a34 :: a35 :: a36 :: .val v :: L) := st1 (o := o) rfl ho hv rfl
theorem s2_38 {a0 a1 a2 a3 a4 a5 a6 a7 a8 a9 a10 a11 a12 a13 a14 a15 a16 a17 a18 a19 a20 a21 a22 a23 a24 a25 a26 a27 a28 a29 a30 a31 a32 a33 a34 a35 a36 a37 o o2 : Slot} {L : List Slot} {v : Value} (ho : nS o = true) (h2 : n2 o2 = true) (hv : v.category = 2) : stOK (a0 :: a1 :: a2 :: a3 :: a4 :: a5 :: a6 :: a7 :: a8 :: a9 :: a10 :: a11 :: a12 :: a13 :: a14 :: a15 :: a16 :: a17 :: a18 :: a19 :: a20 :: a21 :: a22 :: a23 :: a24 :: a25 :: a26 :: a27 :: a28 :: a29 :: a30 :: a31 :: a32 :: a33 :: a34 :: a35 :: a36 :: a37 :: o :: o2 :: L) 38 v (a0 :: a1 :: a2 :: a3 :: a4 :: a5 :: a6 :: a7 :: a8 :: a9 :: a10 :: a11 :: a12 :: a13 :: a14 :: a15 :: a16 :: a17 :: a18 :: a19 :: a20 :: a21 :: a22 :: a23 :: a24 :: a25 :: a26 :: a27 :: a28 :: a29 :: a30 :: a31 :: a32 :: a33 :: a34 :: a35 :: a36 :: a37 :: .val v :: .second :: L) := st2 (o := o) (o2 := o2) rfl ho rfl h2 hv rfl
section
variable {α : Type}
theorem ls_0 { o v : α} {L : List α} : (o :: L).set 0 v = v :: L := rfl
theorem ls_1 {a0 o v : α} {L : List α} : (a0 :: o :: L).set 1 v = a0 :: v :: L := rfl
theorem ls_2 {a0 a1 o v : α} {L : List α} : (a0 :: a1 :: o :: L).set 2 v = a0 :: a1 :: v :: L := rfl
theorem ap_0 { v : α} : [] ++ [v] = [v] := rfl
theorem ap_1 {a0 v : α} : [a0] ++ [v] = [a0, v] := rfl
theorem ap_2 {a0 a1 v : α} : [a0, a1] ++ [v] = [a0, a1, v] := rfl
theorem rp_2 {v : α} : List.replicate 2 v = [v, v] := rfl
theorem rp_4 {v : α} : List.replicate 4 v = [v, v, v, v] := rfl
theorem rp_8 {v : α} : List.replicate 8 v = [v, v, v, v, v, v, v, v] := rfl
end
end Jvm.Sh
namespace Jvm.Sh
open Jvm Jvm.ClassFile Jvm.RoadKit
/-! small naturals as ints -/
theorem onToInt {a : Nat} (h : a < 2147483648) : (Int32.ofNat a).toInt = a := Int32.toInt_ofNat_of_lt h
theorem onLt {a b : Nat} (ha : a < 2147483648) (hb : b < 2147483648) : Int32.ofNat a < Int32.ofNat b ↔ a < b := by
  rw [Int32.lt_iff_toInt_lt, onToInt ha, onToInt hb]; omega
theorem onInj {a b : Nat} (ha : a < 2147483648) (hb : b < 2147483648) : Int32.ofNat a = Int32.ofNat b ↔ a = b := by
  rw [← Int32.toInt_inj, onToInt ha, onToInt hb]; omega
theorem onNN {a : Nat} (ha : a < 2147483648) : ¬ Int32.ofNat a < 0 := by
  rw [Int32.lt_iff_toInt_lt, onToInt ha, show (0 : Int32).toInt = 0 from by decide]; omega
theorem onCl {a : Nat} (ha : a < 2147483648) : (Int32.ofNat a).toNatClampNeg = a := by
  rw [Int32.toNatClampNeg, onToInt ha]; omega
theorem onAdd (a b : Nat) : Int32.ofNat a + Int32.ofNat b = Int32.ofNat (a + b) := (Int32.ofNat_add a b).symm
theorem onSucc (a : Nat) : Int32.ofNat a + 1 = Int32.ofNat (a + 1) := onAdd a 1
theorem onSub {a b : Nat} (h : b ≤ a) (ha : a < 2147483648) : Int32.ofNat a - Int32.ofNat b = Int32.ofNat (a - b) := by
  apply Int32.toInt_inj.mp
  have q := c_isub (Int32.ofNat a) (Int32.ofNat b)
  have r := rng32 (Int32.ofNat a - Int32.ofNat b)
  rw [onToInt ha, onToInt (show b < 2147483648 by omega)] at q
  rw [onToInt (show a - b < 2147483648 by omega)]
  omega
theorem onMul {a b : Nat} : Int32.ofNat a * Int32.ofNat b = Int32.ofNat (a * b) := (Int32.ofNat_mul a b).symm
theorem isNat (x : Int32) (h0 : 0 ≤ x.toInt) : ∃ r : Nat, (r : Int) = x.toInt ∧ r < 2147483648 ∧ x = Int32.ofNat r := by
  have := rng32 x
  refine ⟨x.toInt.toNat, by omega, by omega, Int32.toInt_inj.mp ?_⟩
  rw [onToInt (by omega)]
  omega
/-- (x & 0x7fffffff) % m is a natural below m -/
theorem remNat (x m : Int32) (M : Nat) (hm : m.toInt = M) (hM : 0 < M) : ∃ r, r < M ∧ (x &&& 2147483647) % m = Int32.ofNat r := by
  have h := (c_iremV (x &&& 2147483647) m).1 (c_and x 2147483647 (by decide)).1 (by omega)
  obtain ⟨r, h1, h2, h3⟩ := isNat _ h.1
  exact ⟨r, by omega, h3⟩
theorem remNat' (x m : Int32) (M : Nat) (hx : 0 ≤ x.toInt) (hm : m.toInt = M) (hM : 0 < M) : ∃ r, r < M ∧ x % m = Int32.ofNat r := by
  have h := (c_iremV x m).1 hx (by omega)
  obtain ⟨r, h1, h2, h3⟩ := isNat _ h.1
  exact ⟨r, by omega, h3⟩
theorem maskNat (x m : Int32) (k : Nat) (hk : k ≤ 31) (hm : m.toBitVec.toNat = 2 ^ k - 1) : ∃ r, r < 2 ^ k ∧ x &&& m = Int32.ofNat r := by
  have h := c_mask x m k hk hm
  have hp : (0 : Int) < (2 ^ k : Nat) := by have := Nat.two_pow_pos k; omega
  have h1 := Int.emod_nonneg x.toInt (Int.ne_of_gt hp)
  have h2 := Int.emod_lt_of_pos x.toInt hp
  obtain ⟨r, g1, g2, g3⟩ := isNat (x &&& m) (by omega)
  exact ⟨r, by omega, g3⟩
theorem ushrNN (x k : Int32) (n : Nat) (hk : k.toBitVec.toNat % 32 = n) (h0 : 0 < n) : 0 ≤ (Jvm.Free.XT.ushr x k).toInt := by
  have e : (Jvm.Free.XT.ushr x k).toInt = (x.toInt % 4294967296) / (2 ^ n : Nat) := c_iushr x k n hk h0
  rw [e]
  exact Int.ediv_nonneg (Int.emod_nonneg _ (by decide)) (Int.natCast_nonneg _)
theorem i8_idem (x : Int32) : x.toInt8.toInt32.toInt8.toInt32 = x.toInt8.toInt32 := by simp
end Jvm.Sh
namespace Jvm.Pilot.@@N@@
open Jvm Jvm.ClassFile Sem Op Lib Jvm.Free Jvm.Stand Jvm.LawKit Jvm.RoadKit Bundle Jvm.Pilot.@@N@@.Jvm.D
abbrev HW (Z : State) (a0 : Array Value) : Prop := ∀ d ∈ tables_1, d.before a0 Z = true
abbrev f_ProfitTree (v0 v1 v2 : Value) : List (String × String × Value) := [("leaves", "I", v0), ("added", "[J", v1), ("most", "[J", v2)]
abbrev o_ProfitTree (v0 v1 v2 : Value) : Sh.SC := .inl ("com/example/tideline/tideline/listrounding/ProfitTree", f_ProfitTree v0 v1 v2)
theorem fs_ProfitTree : ∀ f ∈ f_ProfitTree (.int 0) (.null) (.null), (Jvm.Cond.lays "com/example/tideline/tideline/listrounding/ProfitTree" "com/example/tideline/tideline/listrounding/ProfitTree" f.1 f.2.1 ∈ tables_1 ∨ Jvm.Cond.laysFinal "com/example/tideline/tideline/listrounding/ProfitTree" "com/example/tideline/tideline/listrounding/ProfitTree" f.1 f.2.1 ∈ tables_1) ∧ ∃ ty, parseFieldDescriptor f.2.1 = some ty ∧ defaultValue ty = f.2.2 := by
  intro f hf
  simp only [List.mem_cons, List.not_mem_nil, or_false] at hf
  rcases hf with rfl | rfl | rfl
  · exact ⟨Or.inr (List.mem_of_getElem? (i := 17) rfl), .int, by decide +kernel, rfl⟩
  · exact ⟨Or.inr (List.mem_of_getElem? (i := 20) rfl), (.array .long), by decide +kernel, rfl⟩
  · exact ⟨Or.inr (List.mem_of_getElem? (i := 22) rfl), (.array .long), by decide +kernel, rfl⟩
theorem nd_ProfitTree : ((f_ProfitTree (.int 0) (.null) (.null)).map (·.1)).Nodup := by decide
theorem d1_0 : decode jdk_29_method_69_code 0 = .ok (.iload_n 0, 1) := by decide +kernel
theorem d1_1 : decode jdk_29_method_69_code 1 = .ok (.iload_n 1, 1) := by decide +kernel
theorem d1_2 : decode jdk_29_method_69_code 2 = .ok (.if_icmp .gt 7, 3) := by decide +kernel
theorem d1_5 : decode jdk_29_method_69_code 5 = .ok (.iload_n 0, 1) := by decide +kernel
theorem d1_6 : decode jdk_29_method_69_code 6 = .ok (.goto 4, 3) := by decide +kernel
theorem d1_9 : decode jdk_29_method_69_code 9 = .ok (.iload_n 1, 1) := by decide +kernel
theorem d1_10 : decode jdk_29_method_69_code 10 = .ok (.ireturn, 1) := by decide +kernel
theorem pn1 : plainFor (⟨"java/lang/Math", "min", "(II)I"⟩ : MethodName) = true := by decide +kernel
theorem pd1 : parseMethodDescriptor "(II)I" = some ⟨[.int, .int], some .int⟩ := by decide +kernel
def b1 : Sh.Bdy := (⟨"java/lang/Math", "min", "(II)I"⟩, jdk_29_method_69_code, 2, some .int)
def R1 : Room := { frames := 0, cells := 0, slots := 0, locals := 0 }
theorem d2_0 : decode jdk_29_method_65_code 0 = .ok (.iload_n 0, 1) := by decide +kernel
theorem d2_1 : decode jdk_29_method_65_code 1 = .ok (.iload_n 1, 1) := by decide +kernel
theorem d2_2 : decode jdk_29_method_65_code 2 = .ok (.if_icmp .lt 7, 3) := by decide +kernel
theorem d2_5 : decode jdk_29_method_65_code 5 = .ok (.iload_n 0, 1) := by decide +kernel
theorem d2_6 : decode jdk_29_method_65_code 6 = .ok (.goto 4, 3) := by decide +kernel
theorem d2_9 : decode jdk_29_method_65_code 9 = .ok (.iload_n 1, 1) := by decide +kernel
theorem d2_10 : decode jdk_29_method_65_code 10 = .ok (.ireturn, 1) := by decide +kernel
theorem pn2 : plainFor (⟨"java/lang/Math", "max", "(II)I"⟩ : MethodName) = true := by decide +kernel
theorem pd2 : parseMethodDescriptor "(II)I" = some ⟨[.int, .int], some .int⟩ := by decide +kernel
def b2 : Sh.Bdy := (⟨"java/lang/Math", "max", "(II)I"⟩, jdk_29_method_65_code, 2, some .int)
def R2 : Room := { frames := 0, cells := 0, slots := 0, locals := 0 }
theorem d3_0 : decode prog_30_method_1_code 0 = .ok (.aload_n 0, 1) := by decide +kernel
theorem d3_1 : decode prog_30_method_1_code 1 = .ok (.invokespecial 1, 3) := by decide +kernel
theorem d3_4 : decode prog_30_method_1_code 4 = .ok (.iconst 1, 1) := by decide +kernel
theorem d3_5 : decode prog_30_method_1_code 5 = .ok (.istore_n 2, 1) := by decide +kernel
theorem d3_6 : decode prog_30_method_1_code 6 = .ok (.iload_n 2, 1) := by decide +kernel
theorem d3_7 : decode prog_30_method_1_code 7 = .ok (.iload_n 1, 1) := by decide +kernel
theorem d3_8 : decode prog_30_method_1_code 8 = .ok (.if_icmp .ge 10, 3) := by decide +kernel
theorem d3_11 : decode prog_30_method_1_code 11 = .ok (.iload_n 2, 1) := by decide +kernel
theorem d3_12 : decode prog_30_method_1_code 12 = .ok (.iconst 2, 1) := by decide +kernel
theorem d3_13 : decode prog_30_method_1_code 13 = .ok (.imul, 1) := by decide +kernel
theorem d3_14 : decode prog_30_method_1_code 14 = .ok (.istore_n 2, 1) := by decide +kernel
theorem d3_15 : decode prog_30_method_1_code 15 = .ok (.goto (-9), 3) := by decide +kernel
theorem d3_18 : decode prog_30_method_1_code 18 = .ok (.aload_n 0, 1) := by decide +kernel
theorem d3_19 : decode prog_30_method_1_code 19 = .ok (.iload_n 2, 1) := by decide +kernel
theorem d3_20 : decode prog_30_method_1_code 20 = .ok (.putfield 7, 3) := by decide +kernel
theorem d3_23 : decode prog_30_method_1_code 23 = .ok (.aload_n 0, 1) := by decide +kernel
theorem d3_24 : decode prog_30_method_1_code 24 = .ok (.iconst 2, 1) := by decide +kernel
theorem d3_25 : decode prog_30_method_1_code 25 = .ok (.aload_n 0, 1) := by decide +kernel
theorem d3_26 : decode prog_30_method_1_code 26 = .ok (.getfield 7, 3) := by decide +kernel
theorem d3_29 : decode prog_30_method_1_code 29 = .ok (.imul, 1) := by decide +kernel
theorem d3_30 : decode prog_30_method_1_code 30 = .ok (.newarray .long, 2) := by decide +kernel
theorem d3_32 : decode prog_30_method_1_code 32 = .ok (.putfield 13, 3) := by decide +kernel
theorem d3_35 : decode prog_30_method_1_code 35 = .ok (.aload_n 0, 1) := by decide +kernel
theorem d3_36 : decode prog_30_method_1_code 36 = .ok (.iconst 2, 1) := by decide +kernel
theorem d3_37 : decode prog_30_method_1_code 37 = .ok (.aload_n 0, 1) := by decide +kernel
theorem d3_38 : decode prog_30_method_1_code 38 = .ok (.getfield 7, 3) := by decide +kernel
theorem d3_41 : decode prog_30_method_1_code 41 = .ok (.imul, 1) := by decide +kernel
theorem d3_42 : decode prog_30_method_1_code 42 = .ok (.newarray .long, 2) := by decide +kernel
theorem d3_44 : decode prog_30_method_1_code 44 = .ok (.putfield 17, 3) := by decide +kernel
theorem d3_47 : decode prog_30_method_1_code 47 = .ok (.return_, 1) := by decide +kernel
theorem pn3 : plainFor (⟨"com/example/tideline/tideline/listrounding/ProfitTree", "<init>", "(I)V"⟩ : MethodName) = true := plainFor_of_name (by first | (simp [plainName, overriddenIn]; done) | decide +kernel)
theorem pd3 : parseMethodDescriptor "(I)V" = some ⟨[.int], none⟩ := by decide +kernel
def b3 : Sh.Bdy := (⟨"com/example/tideline/tideline/listrounding/ProfitTree", "<init>", "(I)V"⟩, prog_30_method_1_code, 3, none)
def R3 : Room := { frames := 1, cells := 2, slots := 16, locals := 12 }
theorem d6_0 : decode prog_30_method_5_code 0 = .ok (.iload 5, 2) := by decide +kernel
theorem d6_2 : decode prog_30_method_5_code 2 = .ok (.iload_n 2, 1) := by decide +kernel
theorem d6_3 : decode prog_30_method_5_code 3 = .ok (.if_icmp .le 9, 3) := by decide +kernel
theorem d6_6 : decode prog_30_method_5_code 6 = .ok (.iload_n 3, 1) := by decide +kernel
theorem d6_7 : decode prog_30_method_5_code 7 = .ok (.iload 4, 2) := by decide +kernel
theorem d6_9 : decode prog_30_method_5_code 9 = .ok (.if_icmp .gt 4, 3) := by decide +kernel
theorem d6_12 : decode prog_30_method_5_code 12 = .ok (.return_, 1) := by decide +kernel
theorem d6_13 : decode prog_30_method_5_code 13 = .ok (.iload 4, 2) := by decide +kernel
theorem d6_15 : decode prog_30_method_5_code 15 = .ok (.iload_n 2, 1) := by decide +kernel
theorem d6_16 : decode prog_30_method_5_code 16 = .ok (.if_icmp .gt 57, 3) := by decide +kernel
theorem d6_19 : decode prog_30_method_5_code 19 = .ok (.iload_n 3, 1) := by decide +kernel
theorem d6_20 : decode prog_30_method_5_code 20 = .ok (.iload 5, 2) := by decide +kernel
theorem d6_22 : decode prog_30_method_5_code 22 = .ok (.if_icmp .gt 51, 3) := by decide +kernel
theorem d6_25 : decode prog_30_method_5_code 25 = .ok (.aload_n 0, 1) := by decide +kernel
theorem d6_26 : decode prog_30_method_5_code 26 = .ok (.getfield 17, 3) := by decide +kernel
theorem d6_29 : decode prog_30_method_5_code 29 = .ok (.iload_n 1, 1) := by decide +kernel
theorem d6_30 : decode prog_30_method_5_code 30 = .ok (.laload, 1) := by decide +kernel
theorem d6_31 : decode prog_30_method_5_code 31 = .ok (.lload 8, 2) := by decide +kernel
theorem d6_33 : decode prog_30_method_5_code 33 = .ok (.ladd, 1) := by decide +kernel
theorem d6_34 : decode prog_30_method_5_code 34 = .ok (.ldc2_w 26, 3) := by decide +kernel
theorem d6_37 : decode prog_30_method_5_code 37 = .ok (.lload 6, 2) := by decide +kernel
theorem d6_39 : decode prog_30_method_5_code 39 = .ok (.lsub, 1) := by decide +kernel
theorem d6_40 : decode prog_30_method_5_code 40 = .ok (.lcmp, 1) := by decide +kernel
theorem d6_41 : decode prog_30_method_5_code 41 = .ok (.ifCond .le 7, 3) := by decide +kernel
theorem d6_44 : decode prog_30_method_5_code 44 = .ok (.invokestatic 28, 3) := by decide +kernel
theorem d6_47 : decode prog_30_method_5_code 47 = .ok (.athrow, 1) := by decide +kernel
theorem d6_48 : decode prog_30_method_5_code 48 = .ok (.aload_n 0, 1) := by decide +kernel
theorem d6_49 : decode prog_30_method_5_code 49 = .ok (.getfield 13, 3) := by decide +kernel
theorem d6_52 : decode prog_30_method_5_code 52 = .ok (.iload_n 1, 1) := by decide +kernel
theorem d6_53 : decode prog_30_method_5_code 53 = .ok (.dup2, 1) := by decide +kernel
theorem d6_54 : decode prog_30_method_5_code 54 = .ok (.laload, 1) := by decide +kernel
theorem d6_55 : decode prog_30_method_5_code 55 = .ok (.lload 6, 2) := by decide +kernel
theorem d6_57 : decode prog_30_method_5_code 57 = .ok (.ladd, 1) := by decide +kernel
theorem d6_58 : decode prog_30_method_5_code 58 = .ok (.lastore, 1) := by decide +kernel
theorem d6_59 : decode prog_30_method_5_code 59 = .ok (.aload_n 0, 1) := by decide +kernel
theorem d6_60 : decode prog_30_method_5_code 60 = .ok (.getfield 17, 3) := by decide +kernel
theorem d6_63 : decode prog_30_method_5_code 63 = .ok (.iload_n 1, 1) := by decide +kernel
theorem d6_64 : decode prog_30_method_5_code 64 = .ok (.dup2, 1) := by decide +kernel
theorem d6_65 : decode prog_30_method_5_code 65 = .ok (.laload, 1) := by decide +kernel
theorem d6_66 : decode prog_30_method_5_code 66 = .ok (.lload 6, 2) := by decide +kernel
theorem d6_68 : decode prog_30_method_5_code 68 = .ok (.ladd, 1) := by decide +kernel
theorem d6_69 : decode prog_30_method_5_code 69 = .ok (.lastore, 1) := by decide +kernel
theorem d6_70 : decode prog_30_method_5_code 70 = .ok (.goto 96, 3) := by decide +kernel
theorem d6_73 : decode prog_30_method_5_code 73 = .ok (.iload_n 2, 1) := by decide +kernel
theorem d6_74 : decode prog_30_method_5_code 74 = .ok (.iload_n 3, 1) := by decide +kernel
theorem d6_75 : decode prog_30_method_5_code 75 = .ok (.iadd, 1) := by decide +kernel
theorem d6_76 : decode prog_30_method_5_code 76 = .ok (.iconst 1, 1) := by decide +kernel
theorem d6_77 : decode prog_30_method_5_code 77 = .ok (.iushr, 1) := by decide +kernel
theorem d6_78 : decode prog_30_method_5_code 78 = .ok (.istore 10, 2) := by decide +kernel
theorem d6_80 : decode prog_30_method_5_code 80 = .ok (.aload_n 0, 1) := by decide +kernel
theorem d6_81 : decode prog_30_method_5_code 81 = .ok (.iconst 2, 1) := by decide +kernel
theorem d6_82 : decode prog_30_method_5_code 82 = .ok (.iload_n 1, 1) := by decide +kernel
theorem d6_83 : decode prog_30_method_5_code 83 = .ok (.imul, 1) := by decide +kernel
theorem d6_84 : decode prog_30_method_5_code 84 = .ok (.iload_n 2, 1) := by decide +kernel
theorem d6_85 : decode prog_30_method_5_code 85 = .ok (.iload 10, 2) := by decide +kernel
theorem d6_87 : decode prog_30_method_5_code 87 = .ok (.iload 4, 2) := by decide +kernel
theorem d6_89 : decode prog_30_method_5_code 89 = .ok (.iload 5, 2) := by decide +kernel
theorem d6_91 : decode prog_30_method_5_code 91 = .ok (.lload 6, 2) := by decide +kernel
theorem d6_93 : decode prog_30_method_5_code 93 = .ok (.lload 8, 2) := by decide +kernel
theorem d6_95 : decode prog_30_method_5_code 95 = .ok (.aload_n 0, 1) := by decide +kernel
theorem d6_96 : decode prog_30_method_5_code 96 = .ok (.getfield 13, 3) := by decide +kernel
theorem d6_99 : decode prog_30_method_5_code 99 = .ok (.iload_n 1, 1) := by decide +kernel
theorem d6_100 : decode prog_30_method_5_code 100 = .ok (.laload, 1) := by decide +kernel
theorem d6_101 : decode prog_30_method_5_code 101 = .ok (.ladd, 1) := by decide +kernel
theorem d6_102 : decode prog_30_method_5_code 102 = .ok (.invokevirtual 20, 3) := by decide +kernel
theorem d6_105 : decode prog_30_method_5_code 105 = .ok (.aload_n 0, 1) := by decide +kernel
theorem d6_106 : decode prog_30_method_5_code 106 = .ok (.iconst 2, 1) := by decide +kernel
theorem d6_107 : decode prog_30_method_5_code 107 = .ok (.iload_n 1, 1) := by decide +kernel
theorem d6_108 : decode prog_30_method_5_code 108 = .ok (.imul, 1) := by decide +kernel
theorem d6_109 : decode prog_30_method_5_code 109 = .ok (.iconst 1, 1) := by decide +kernel
theorem d6_110 : decode prog_30_method_5_code 110 = .ok (.iadd, 1) := by decide +kernel
theorem d6_111 : decode prog_30_method_5_code 111 = .ok (.iload 10, 2) := by decide +kernel
theorem d6_113 : decode prog_30_method_5_code 113 = .ok (.iload_n 3, 1) := by decide +kernel
theorem d6_114 : decode prog_30_method_5_code 114 = .ok (.iload 4, 2) := by decide +kernel
theorem d6_116 : decode prog_30_method_5_code 116 = .ok (.iload 5, 2) := by decide +kernel
theorem d6_118 : decode prog_30_method_5_code 118 = .ok (.lload 6, 2) := by decide +kernel
theorem d6_120 : decode prog_30_method_5_code 120 = .ok (.lload 8, 2) := by decide +kernel
theorem d6_122 : decode prog_30_method_5_code 122 = .ok (.aload_n 0, 1) := by decide +kernel
theorem d6_123 : decode prog_30_method_5_code 123 = .ok (.getfield 13, 3) := by decide +kernel
theorem d6_126 : decode prog_30_method_5_code 126 = .ok (.iload_n 1, 1) := by decide +kernel
theorem d6_127 : decode prog_30_method_5_code 127 = .ok (.laload, 1) := by decide +kernel
theorem d6_128 : decode prog_30_method_5_code 128 = .ok (.ladd, 1) := by decide +kernel
theorem d6_129 : decode prog_30_method_5_code 129 = .ok (.invokevirtual 20, 3) := by decide +kernel
theorem d6_132 : decode prog_30_method_5_code 132 = .ok (.aload_n 0, 1) := by decide +kernel
theorem d6_133 : decode prog_30_method_5_code 133 = .ok (.getfield 17, 3) := by decide +kernel
theorem d6_136 : decode prog_30_method_5_code 136 = .ok (.iload_n 1, 1) := by decide +kernel
theorem d6_137 : decode prog_30_method_5_code 137 = .ok (.aload_n 0, 1) := by decide +kernel
theorem d6_138 : decode prog_30_method_5_code 138 = .ok (.getfield 17, 3) := by decide +kernel
theorem d6_141 : decode prog_30_method_5_code 141 = .ok (.iconst 2, 1) := by decide +kernel
theorem d6_142 : decode prog_30_method_5_code 142 = .ok (.iload_n 1, 1) := by decide +kernel
theorem d6_143 : decode prog_30_method_5_code 143 = .ok (.imul, 1) := by decide +kernel
theorem d6_144 : decode prog_30_method_5_code 144 = .ok (.laload, 1) := by decide +kernel
theorem d6_145 : decode prog_30_method_5_code 145 = .ok (.aload_n 0, 1) := by decide +kernel
theorem d6_146 : decode prog_30_method_5_code 146 = .ok (.getfield 17, 3) := by decide +kernel
theorem d6_149 : decode prog_30_method_5_code 149 = .ok (.iconst 2, 1) := by decide +kernel
theorem d6_150 : decode prog_30_method_5_code 150 = .ok (.iload_n 1, 1) := by decide +kernel
theorem d6_151 : decode prog_30_method_5_code 151 = .ok (.imul, 1) := by decide +kernel
theorem d6_152 : decode prog_30_method_5_code 152 = .ok (.iconst 1, 1) := by decide +kernel
theorem d6_153 : decode prog_30_method_5_code 153 = .ok (.iadd, 1) := by decide +kernel
theorem d6_154 : decode prog_30_method_5_code 154 = .ok (.laload, 1) := by decide +kernel
theorem d6_155 : decode prog_30_method_5_code 155 = .ok (.invokestatic 34, 3) := by decide +kernel
theorem d6_158 : decode prog_30_method_5_code 158 = .ok (.aload_n 0, 1) := by decide +kernel
theorem d6_159 : decode prog_30_method_5_code 159 = .ok (.getfield 13, 3) := by decide +kernel
theorem d6_162 : decode prog_30_method_5_code 162 = .ok (.iload_n 1, 1) := by decide +kernel
theorem d6_163 : decode prog_30_method_5_code 163 = .ok (.laload, 1) := by decide +kernel
theorem d6_164 : decode prog_30_method_5_code 164 = .ok (.ladd, 1) := by decide +kernel
theorem d6_165 : decode prog_30_method_5_code 165 = .ok (.lastore, 1) := by decide +kernel
theorem d6_166 : decode prog_30_method_5_code 166 = .ok (.return_, 1) := by decide +kernel
theorem pn6 : plainFor (⟨"com/example/tideline/tideline/listrounding/ProfitTree", "add", "(IIIIIJJ)V"⟩ : MethodName) = true := plainFor_of_name (by first | (simp [plainName, overriddenIn]; done) | decide +kernel)
theorem pd6 : parseMethodDescriptor "(IIIIIJJ)V" = some ⟨[.int, .int, .int, .int, .int, .long, .long], none⟩ := by decide +kernel
def b6 : Sh.Bdy := (⟨"com/example/tideline/tideline/listrounding/ProfitTree", "add", "(IIIIIJJ)V"⟩, prog_30_method_5_code, 11, none)
def R6 : Room := { frames := 0, cells := 0, slots := 0, locals := 0 }
theorem d9_0 : decode jdk_29_method_66_code 0 = .ok (.lload_n 0, 1) := by decide +kernel
theorem d9_1 : decode jdk_29_method_66_code 1 = .ok (.lload_n 2, 1) := by decide +kernel
theorem d9_2 : decode jdk_29_method_66_code 2 = .ok (.lcmp, 1) := by decide +kernel
theorem d9_3 : decode jdk_29_method_66_code 3 = .ok (.ifCond .lt 7, 3) := by decide +kernel
theorem d9_6 : decode jdk_29_method_66_code 6 = .ok (.lload_n 0, 1) := by decide +kernel
theorem d9_7 : decode jdk_29_method_66_code 7 = .ok (.goto 4, 3) := by decide +kernel
theorem d9_10 : decode jdk_29_method_66_code 10 = .ok (.lload_n 2, 1) := by decide +kernel
theorem d9_11 : decode jdk_29_method_66_code 11 = .ok (.lreturn, 1) := by decide +kernel
theorem pn9 : plainFor (⟨"java/lang/Math", "max", "(JJ)J"⟩ : MethodName) = true := by decide +kernel
theorem pd9 : parseMethodDescriptor "(JJ)J" = some ⟨[.long, .long], some .long⟩ := by decide +kernel
def b9 : Sh.Bdy := (⟨"java/lang/Math", "max", "(JJ)J"⟩, jdk_29_method_66_code, 4, some .long)
def R9 : Room := { frames := 0, cells := 0, slots := 0, locals := 0 }
theorem d7_0 : decode method_3_code 0 = .ok (.iload_n 1, 1) := by decide +kernel
theorem d7_1 : decode method_3_code 1 = .ok (.iload_n 0, 1) := by decide +kernel
theorem d7_2 : decode method_3_code 2 = .ok (.if_icmp .gt 12, 3) := by decide +kernel
theorem d7_5 : decode method_3_code 5 = .ok (.iload_n 0, 1) := by decide +kernel
theorem d7_6 : decode method_3_code 6 = .ok (.iload_n 2, 1) := by decide +kernel
theorem d7_7 : decode method_3_code 7 = .ok (.if_icmp .ge 7, 3) := by decide +kernel
theorem d7_10 : decode method_3_code 10 = .ok (.lload_n 3, 1) := by decide +kernel
theorem d7_11 : decode method_3_code 11 = .ok (.goto 4, 3) := by decide +kernel
theorem d7_14 : decode method_3_code 14 = .ok (.lconst 0, 1) := by decide +kernel
theorem d7_15 : decode method_3_code 15 = .ok (.lreturn, 1) := by decide +kernel
theorem pn7 : plainFor (⟨"com/example/tideline/tideline/listrounding/ProfitTreeFirstOfMostPinLaw", "cover", "(IIIJ)J"⟩ : MethodName) = true := plainFor_of_name (by first | (simp [plainName, overriddenIn]; done) | decide +kernel)
theorem pd7 : parseMethodDescriptor "(IIIJ)J" = some ⟨[.int, .int, .int, .long], some .long⟩ := by decide +kernel
def b7 : Sh.Bdy := (⟨"com/example/tideline/tideline/listrounding/ProfitTreeFirstOfMostPinLaw", "cover", "(IIIJ)J"⟩, method_3_code, 5, some .long)
def R7 : Room := { frames := 0, cells := 0, slots := 0, locals := 0 }
theorem d8_0 : decode prog_30_method_4_code 0 = .ok (.iconst 1, 1) := by decide +kernel
theorem d8_1 : decode prog_30_method_4_code 1 = .ok (.istore_n 1, 1) := by decide +kernel
theorem d8_2 : decode prog_30_method_4_code 2 = .ok (.iload_n 1, 1) := by decide +kernel
theorem d8_3 : decode prog_30_method_4_code 3 = .ok (.aload_n 0, 1) := by decide +kernel
theorem d8_4 : decode prog_30_method_4_code 4 = .ok (.getfield 7, 3) := by decide +kernel
theorem d8_7 : decode prog_30_method_4_code 7 = .ok (.if_icmp .ge 40, 3) := by decide +kernel
theorem d8_10 : decode prog_30_method_4_code 10 = .ok (.aload_n 0, 1) := by decide +kernel
theorem d8_11 : decode prog_30_method_4_code 11 = .ok (.getfield 17, 3) := by decide +kernel
theorem d8_14 : decode prog_30_method_4_code 14 = .ok (.iconst 2, 1) := by decide +kernel
theorem d8_15 : decode prog_30_method_4_code 15 = .ok (.iload_n 1, 1) := by decide +kernel
theorem d8_16 : decode prog_30_method_4_code 16 = .ok (.imul, 1) := by decide +kernel
theorem d8_17 : decode prog_30_method_4_code 17 = .ok (.laload, 1) := by decide +kernel
theorem d8_18 : decode prog_30_method_4_code 18 = .ok (.aload_n 0, 1) := by decide +kernel
theorem d8_19 : decode prog_30_method_4_code 19 = .ok (.getfield 17, 3) := by decide +kernel
theorem d8_22 : decode prog_30_method_4_code 22 = .ok (.iconst 2, 1) := by decide +kernel
theorem d8_23 : decode prog_30_method_4_code 23 = .ok (.iload_n 1, 1) := by decide +kernel
theorem d8_24 : decode prog_30_method_4_code 24 = .ok (.imul, 1) := by decide +kernel
theorem d8_25 : decode prog_30_method_4_code 25 = .ok (.iconst 1, 1) := by decide +kernel
theorem d8_26 : decode prog_30_method_4_code 26 = .ok (.iadd, 1) := by decide +kernel
theorem d8_27 : decode prog_30_method_4_code 27 = .ok (.laload, 1) := by decide +kernel
theorem d8_28 : decode prog_30_method_4_code 28 = .ok (.lcmp, 1) := by decide +kernel
theorem d8_29 : decode prog_30_method_4_code 29 = .ok (.ifCond .lt 9, 3) := by decide +kernel
theorem d8_32 : decode prog_30_method_4_code 32 = .ok (.iconst 2, 1) := by decide +kernel
theorem d8_33 : decode prog_30_method_4_code 33 = .ok (.iload_n 1, 1) := by decide +kernel
theorem d8_34 : decode prog_30_method_4_code 34 = .ok (.imul, 1) := by decide +kernel
theorem d8_35 : decode prog_30_method_4_code 35 = .ok (.goto 8, 3) := by decide +kernel
theorem d8_38 : decode prog_30_method_4_code 38 = .ok (.iconst 2, 1) := by decide +kernel
theorem d8_39 : decode prog_30_method_4_code 39 = .ok (.iload_n 1, 1) := by decide +kernel
theorem d8_40 : decode prog_30_method_4_code 40 = .ok (.imul, 1) := by decide +kernel
theorem d8_41 : decode prog_30_method_4_code 41 = .ok (.iconst 1, 1) := by decide +kernel
theorem d8_42 : decode prog_30_method_4_code 42 = .ok (.iadd, 1) := by decide +kernel
theorem d8_43 : decode prog_30_method_4_code 43 = .ok (.istore_n 1, 1) := by decide +kernel
theorem d8_44 : decode prog_30_method_4_code 44 = .ok (.goto (-42), 3) := by decide +kernel
theorem d8_47 : decode prog_30_method_4_code 47 = .ok (.iload_n 1, 1) := by decide +kernel
theorem d8_48 : decode prog_30_method_4_code 48 = .ok (.aload_n 0, 1) := by decide +kernel
theorem d8_49 : decode prog_30_method_4_code 49 = .ok (.getfield 7, 3) := by decide +kernel
theorem d8_52 : decode prog_30_method_4_code 52 = .ok (.isub, 1) := by decide +kernel
theorem d8_53 : decode prog_30_method_4_code 53 = .ok (.ireturn, 1) := by decide +kernel
theorem pn8 : plainFor (⟨"com/example/tideline/tideline/listrounding/ProfitTree", "firstOfMost", "()I"⟩ : MethodName) = true := plainFor_of_name (by first | (simp [plainName, overriddenIn]; done) | decide +kernel)
theorem pd8 : parseMethodDescriptor "()I" = some ⟨[], some .int⟩ := by decide +kernel
def b8 : Sh.Bdy := (⟨"com/example/tideline/tideline/listrounding/ProfitTree", "firstOfMost", "()I"⟩, prog_30_method_4_code, 2, some .int)
def R8 : Room := { frames := 0, cells := 0, slots := 0, locals := 0 }
theorem d5_0 : decode prog_30_method_2_code 0 = .ok (.aload_n 0, 1) := by decide +kernel
theorem d5_1 : decode prog_30_method_2_code 1 = .ok (.iconst 1, 1) := by decide +kernel
theorem d5_2 : decode prog_30_method_2_code 2 = .ok (.iconst 0, 1) := by decide +kernel
theorem d5_3 : decode prog_30_method_2_code 3 = .ok (.aload_n 0, 1) := by decide +kernel
theorem d5_4 : decode prog_30_method_2_code 4 = .ok (.getfield 7, 3) := by decide +kernel
theorem d5_7 : decode prog_30_method_2_code 7 = .ok (.iload_n 1, 1) := by decide +kernel
theorem d5_8 : decode prog_30_method_2_code 8 = .ok (.iload_n 2, 1) := by decide +kernel
theorem d5_9 : decode prog_30_method_2_code 9 = .ok (.lload_n 3, 1) := by decide +kernel
theorem d5_10 : decode prog_30_method_2_code 10 = .ok (.lconst 0, 1) := by decide +kernel
theorem d5_11 : decode prog_30_method_2_code 11 = .ok (.invokevirtual 20, 3) := by decide +kernel
theorem d5_14 : decode prog_30_method_2_code 14 = .ok (.return_, 1) := by decide +kernel
theorem pn5 : plainFor (⟨"com/example/tideline/tideline/listrounding/ProfitTree", "add", "(IIJ)V"⟩ : MethodName) = true := plainFor_of_name (by first | (simp [plainName, overriddenIn]; done) | decide +kernel)
theorem pd5 : parseMethodDescriptor "(IIJ)V" = some ⟨[.int, .int, .long], none⟩ := by decide +kernel
def b5 : Sh.Bdy := (⟨"com/example/tideline/tideline/listrounding/ProfitTree", "add", "(IIJ)V"⟩, prog_30_method_2_code, 5, none)
def R5 : Room := { frames := 3, cells := 0, slots := 0, locals := 66 }
theorem pn0 : plainFor (⟨"com/example/tideline/tideline/listrounding/ProfitTreeFirstOfMostPinLaw", "law", "(IIIJJJ)Z"⟩ : MethodName) = true := plainFor_of_name (by first | (simp [plainName, overriddenIn]; done) | decide +kernel)
theorem pd0 : parseMethodDescriptor "(IIIJJJ)Z" = some ⟨[.int, .int, .int, .long, .long, .long], some .boolean⟩ := by decide +kernel
def b0 : Sh.Bdy := (x, code, maxLocals, ret)
def RA : Room := { frames := 0, cells := 0, slots := 0, locals := 0 }
def RB : Room := { frames := 1, cells := 0, slots := 0, locals := 22 }
def RC : Room := { frames := 2, cells := 0, slots := 0, locals := 44 }
abbrev own_H (lv : Int32) (ad mo : List Value) : Sh.SH := [o_ProfitTree (.int lv) (.ref 1) (.ref 2), .inr (.long, ad), .inr (.long, mo)]
def own_d (lo hi i : Nat) (q : Int64) : Int := if lo ≤ i ∧ i < hi then q.toInt else 0
theorem own_sum (x y : Int64) (h0 : -9223372036854775808 ≤ x.toInt + y.toInt) (h1 : x.toInt + y.toInt < 9223372036854775808) : (x + y).toInt = x.toInt + y.toInt := by
  have := c_ladd x y
  have := rng64 (x + y)
  omega
theorem own_chk (M ab q : Int64) (h1 : 0 ≤ M.toInt) (h2 : 0 ≤ ab.toInt) (h3 : 0 ≤ q.toInt) (h : M.toInt + ab.toInt + q.toInt < 9223372036854775808) : ¬ (9223372036854775807 - q) < M + ab := by
  have e := own_sum M ab (by omega) (by omega)
  have s := c_lsub 9223372036854775807 q
  have r := rng64 (9223372036854775807 - q)
  rw [show (9223372036854775807 : Int64).toInt = 9223372036854775807 from by decide] at s
  rw [Int64.lt_iff_toInt_lt]
  omega
theorem own_self (vs : List Value) (k : Nat) (v : Value) (h : vs[k]? = some v) : vs.set k v = vs := by
  apply List.ext_getElem?
  intro i
  by_cases q : k = i
  · subst q
    rw [List.getElem?_set_self (Sh.lt_of_at h), h]
  · rw [List.getElem?_set_ne q]
theorem own_half (m : Nat) (h : m < 1000) : XT.ushr (Int32.ofNat (2 * m)) 1 = Int32.ofNat m := by
  apply Int32.toInt_inj.mp
  have e : (XT.ushr (Int32.ofNat (2 * m)) 1).toInt = ((Int32.ofNat (2 * m)).toInt % 4294967296) / (2 ^ 1 : Nat) := c_iushr (Int32.ofNat (2 * m)) 1 1 (by decide) (by decide)
  rw [e, Sh.onToInt (by omega), Sh.onToInt (by omega)]
  omega
def own_I (A B C M N P : Int64) : Prop := 0 ≤ A.toInt ∧ 0 ≤ B.toInt ∧ 0 ≤ C.toInt ∧ N.toInt = B.toInt ∧ P.toInt = C.toInt ∧ ((M.toInt = A.toInt + B.toInt ∧ C.toInt ≤ B.toInt) ∨ (M.toInt = A.toInt + C.toInt ∧ B.toInt ≤ C.toInt))
section
variable (l : Launch) (Z : State) (a0 : Array Value) (n0 : Nat)
theorem mmin (hw : HW Z a0) (x y : Nat) (hx : x < 100) (hy : y < 100) (H : Sh.SH) : Sh.Meth l Z a0 n0 b1 R1 [.int (Int32.ofNat x), .int (Int32.ofNat y)] H (fun v H' => v = some (.int (Int32.ofNat (min x y))) ∧ H' = H) := by
  refine Sh.Meth.of pn1 (L := [.val (.int (Int32.ofNat x)), .val (.int (Int32.ofNat y))]) rfl ?_
  refine Sh.iload_n d1_0 rfl ?_
  refine Sh.iload_n d1_1 rfl ?_
  refine Sh.icmp_gt d1_2 (pc' := 9) rfl (by decide) (fun h2 => ?_) (fun h2 => ?_)
  · rw [Sh.onLt (by omega) (by omega)] at h2
    refine Sh.iload_n d1_9 rfl ?_
    refine Sh.retI d1_10 rfl (Sh.le rfl) (Sh.le rfl) ?_
    exact ⟨by rw [Nat.min_eq_right (by omega)], rfl⟩
  · rw [Sh.onLt (by omega) (by omega)] at h2
    refine Sh.iload_n d1_5 rfl ?_
    refine Sh.goto d1_6 (pc' := 10) rfl (by decide) ?_
    refine Sh.retI d1_10 rfl (Sh.le rfl) (Sh.le rfl) ?_
    exact ⟨by rw [Nat.min_eq_left (by omega)], rfl⟩
theorem mmax (hw : HW Z a0) (x y : Nat) (hx : x < 100) (hy : y < 100) (H : Sh.SH) : Sh.Meth l Z a0 n0 b2 R2 [.int (Int32.ofNat x), .int (Int32.ofNat y)] H (fun v H' => v = some (.int (Int32.ofNat (max x y))) ∧ H' = H) := by
  refine Sh.Meth.of pn2 (L := [.val (.int (Int32.ofNat x)), .val (.int (Int32.ofNat y))]) rfl ?_
  refine Sh.iload_n d2_0 rfl ?_
  refine Sh.iload_n d2_1 rfl ?_
  refine Sh.icmp_lt d2_2 (pc' := 9) rfl (by decide) (fun h2 => ?_) (fun h2 => ?_)
  · rw [Sh.onLt (by omega) (by omega)] at h2
    refine Sh.iload_n d2_9 rfl ?_
    refine Sh.retI d2_10 rfl (Sh.le rfl) (Sh.le rfl) ?_
    exact ⟨by rw [Nat.max_eq_right (by omega)], rfl⟩
  · rw [Sh.onLt (by omega) (by omega)] at h2
    refine Sh.iload_n d2_5 rfl ?_
    refine Sh.goto d2_6 (pc' := 10) rfl (by decide) ?_
    refine Sh.retI d2_10 rfl (Sh.le rfl) (Sh.le rfl) ?_
    exact ⟨by rw [Nat.max_eq_left (by omega)], rfl⟩
theorem maxJ (hw : HW Z a0) (x y : Int64) (H : Sh.SH) : Sh.Meth l Z a0 n0 b9 R9 [.long x, .long y] H (fun v H' => (∃ m : Int64, v = some (.long m) ∧ ((m.toInt = x.toInt ∧ y.toInt ≤ x.toInt) ∨ (m.toInt = y.toInt ∧ x.toInt ≤ y.toInt))) ∧ H' = H) := by
  refine Sh.Meth.of pn9 (L := [.val (.long x), .second, .val (.long y), .second]) rfl ?_
  refine Sh.lload_n d9_0 rfl ?_
  refine Sh.lload_n d9_1 rfl ?_
  refine Sh.lcmp_lt d9_2 d9_3 (pc' := 10) rfl (by decide) (fun h3 => ?_) (fun h3 => ?_)
  · rw [Int64.lt_iff_toInt_lt] at h3
    refine Sh.lload_n d9_10 rfl ?_
    refine Sh.retL d9_11 rfl (Sh.le rfl) (Sh.le rfl) ?_
    exact ⟨⟨y, rfl, by omega⟩, rfl⟩
  · rw [Int64.lt_iff_toInt_lt] at h3
    refine Sh.lload_n d9_6 rfl ?_
    refine Sh.goto d9_7 (pc' := 11) rfl (by decide) ?_
    refine Sh.retL d9_11 rfl (Sh.le rfl) (Sh.le rfl) ?_
    exact ⟨⟨x, rfl, by omega⟩, rfl⟩
theorem cov (hw : HW Z a0) (i lo hi : Nat) (q : Int64) (g1 : i < 100) (g3 : lo < 100) (g4 : hi < 100) (H : Sh.SH) : Sh.Meth l Z a0 n0 b7 R7 [.int (Int32.ofNat i), .int (Int32.ofNat lo), .int (Int32.ofNat hi), .long q] H (fun v H' => (∃ x : Int64, v = some (.long x) ∧ x.toInt = own_d lo hi i q) ∧ H' = H) := by
  refine Sh.Meth.of pn7 (L := [.val (.int (Int32.ofNat i)), .val (.int (Int32.ofNat lo)), .val (.int (Int32.ofNat hi)), .val (.long q), .second]) rfl ?_
  have z : (0 : Int64).toInt = 0 := by decide
  refine Sh.iload_n d7_0 rfl ?_
  refine Sh.iload_n d7_1 rfl ?_
  refine Sh.icmp_gt d7_2 (pc' := 14) rfl (by decide) (fun h2 => ?_) (fun h2 => ?_)
  · rw [Sh.onLt (by omega) (by omega)] at h2
    refine Sh.lconst d7_14 (x := 0) rfl ?_
    refine Sh.retL d7_15 rfl (Sh.le rfl) (Sh.le rfl) ?_
    exact ⟨⟨0, rfl, by rw [own_d, if_neg (by omega), z]⟩, rfl⟩
  rw [Sh.onLt (by omega) (by omega)] at h2
  refine Sh.iload_n d7_5 rfl ?_
  refine Sh.iload_n d7_6 rfl ?_
  refine Sh.icmp_ge d7_7 (pc' := 14) rfl (by decide) (fun h7 => ?_) (fun h7 => ?_)
  · rw [Sh.onLt (by omega) (by omega)] at h7
    refine Sh.lconst d7_14 (x := 0) rfl ?_
    refine Sh.retL d7_15 rfl (Sh.le rfl) (Sh.le rfl) ?_
    exact ⟨⟨0, rfl, by rw [own_d, if_neg (by omega), z]⟩, rfl⟩
  · rw [Sh.onLt (by omega) (by omega)] at h7
    refine Sh.lload_n d7_10 rfl ?_
    refine Sh.goto d7_11 (pc' := 15) rfl (by decide) ?_
    refine Sh.retL d7_15 rfl (Sh.le rfl) (Sh.le rfl) ?_
    exact ⟨⟨q, rfl, by rw [own_d, if_pos (by omega)]⟩, rfl⟩
theorem ctor1 (hw : HW Z a0) (w1 w2 : Value) : Sh.Meth l Z a0 n0 b3 R3 [.ref 0, .int 1] [o_ProfitTree (.int 0) w1 w2] (fun v H' => v = none ∧ H' = own_H 1 [.long 0, .long 0] [.long 0, .long 0]) := by
  refine Sh.Meth.of pn3 (L := [.val (.ref 0), .val (.int 1), .unset]) rfl ?_
  refine Sh.aload_n d3_0 rfl rfl ?_
  refine Sh.initObj hw (i1 := 13) (i2 := 14) (i3 := 15) rfl rfl rfl d3_1 rfl (Sh.le rfl) (Sh.le rfl) ?_
  refine Sh.iconst d3_4 (x := 1) rfl ?_
  refine Sh.istore_n d3_5 (Sh.s1_2 rfl rfl) ?_
  refine Sh.iload_n d3_6 rfl ?_
  refine Sh.iload_n d3_7 rfl ?_
  refine Sh.icmpT d3_8 (pc' := 18) rfl (by decide) (by decide) ?_
  refine Sh.aload_n d3_18 rfl rfl ?_
  refine Sh.iload_n d3_19 rfl ?_
  refine Sh.putfieldF hw (i := 16) (i2 := 17) (j := 0) (ty := .int) rfl rfl rfl rfl d3_20 rfl rfl (by decide +kernel) rfl rfl (Sh.ls_0) (Sh.ls_0) ?_
  refine Sh.aload_n d3_23 rfl rfl ?_
  refine Sh.iconst d3_24 (x := 2) rfl ?_
  refine Sh.aload_n d3_25 rfl rfl ?_
  refine Sh.getfield hw (i := 16) (j := 0) rfl d3_26 rfl rfl ?_
  refine Sh.imulE (z := 2) d3_29 (by decide) ?_
  refine Sh.newarr hw (i := 18) (ty := .long) (dv := .long 0) (N := 2) (cap := 2) (k' := 1) (n' := 2) (a := 1) rfl rfl d3_30 rfl (by decide) rfl (Sh.rp_2) (Sh.le rfl) (by decide) (Sh.le rfl) (Sh.le rfl) rfl rfl rfl (Sh.ap_1) ?_
  refine Sh.putfieldF hw (i := 19) (i2 := 20) (j := 1) (ty := (.array .long)) rfl rfl rfl rfl d3_32 rfl rfl (by decide +kernel) rfl rfl (Sh.ls_1) (Sh.ls_0) ?_
  refine Sh.aload_n d3_35 rfl rfl ?_
  refine Sh.iconst d3_36 (x := 2) rfl ?_
  refine Sh.aload_n d3_37 rfl rfl ?_
  refine Sh.getfield hw (i := 16) (j := 0) rfl d3_38 rfl rfl ?_
  refine Sh.imulE (z := 2) d3_41 (by decide) ?_
  refine Sh.newarr hw (i := 18) (ty := .long) (dv := .long 0) (N := 2) (cap := 2) (k' := 2) (n' := 4) (a := 2) rfl rfl d3_42 rfl (by decide) rfl (Sh.rp_2) (Sh.le rfl) (by decide) (Sh.le rfl) (Sh.le rfl) rfl rfl rfl (Sh.ap_2) ?_
  refine Sh.putfieldF hw (i := 21) (i2 := 22) (j := 2) (ty := (.array .long)) rfl rfl rfl rfl d3_44 rfl rfl (by decide +kernel) rfl rfl (Sh.ls_2) (Sh.ls_0) ?_
  refine Sh.ret0 d3_47 rfl (Sh.le rfl) (Sh.le rfl) ?_
  exact ⟨rfl, rfl⟩
theorem ctor2 (hw : HW Z a0) (w1 w2 : Value) : Sh.Meth l Z a0 n0 b3 R3 [.ref 0, .int 2] [o_ProfitTree (.int 0) w1 w2] (fun v H' => v = none ∧ H' = own_H 2 [.long 0, .long 0, .long 0, .long 0] [.long 0, .long 0, .long 0, .long 0]) := by
  refine Sh.Meth.of pn3 (L := [.val (.ref 0), .val (.int 2), .unset]) rfl ?_
  refine Sh.aload_n d3_0 rfl rfl ?_
  refine Sh.initObj hw (i1 := 13) (i2 := 14) (i3 := 15) rfl rfl rfl d3_1 rfl (Sh.le rfl) (Sh.le rfl) ?_
  refine Sh.iconst d3_4 (x := 1) rfl ?_
  refine Sh.istore_n d3_5 (Sh.s1_2 rfl rfl) ?_
  refine Sh.iload_n d3_6 rfl ?_
  refine Sh.iload_n d3_7 rfl ?_
  refine Sh.icmpF d3_8 (by decide) ?_
  refine Sh.iload_n d3_11 rfl ?_
  refine Sh.iconst d3_12 (x := 2) rfl ?_
  refine Sh.imulE (z := 2) d3_13 (by decide) ?_
  refine Sh.istore_n d3_14 (Sh.s1_2 rfl rfl) ?_
  refine Sh.goto d3_15 (pc' := 6) rfl (by decide) ?_
  refine Sh.iload_n d3_6 rfl ?_
  refine Sh.iload_n d3_7 rfl ?_
  refine Sh.icmpT d3_8 (pc' := 18) rfl (by decide) (by decide) ?_
  refine Sh.aload_n d3_18 rfl rfl ?_
  refine Sh.iload_n d3_19 rfl ?_
  refine Sh.putfieldF hw (i := 16) (i2 := 17) (j := 0) (ty := .int) rfl rfl rfl rfl d3_20 rfl rfl (by decide +kernel) rfl rfl (Sh.ls_0) (Sh.ls_0) ?_
  refine Sh.aload_n d3_23 rfl rfl ?_
  refine Sh.iconst d3_24 (x := 2) rfl ?_
  refine Sh.aload_n d3_25 rfl rfl ?_
  refine Sh.getfield hw (i := 16) (j := 0) rfl d3_26 rfl rfl ?_
  refine Sh.imulE (z := 4) d3_29 (by decide) ?_
  refine Sh.newarr hw (i := 18) (ty := .long) (dv := .long 0) (N := 4) (cap := 4) (k' := 1) (n' := 4) (a := 1) rfl rfl d3_30 rfl (by decide) rfl (Sh.rp_4) (Sh.le rfl) (by decide) (Sh.le rfl) (Sh.le rfl) rfl rfl rfl (Sh.ap_1) ?_
  refine Sh.putfieldF hw (i := 19) (i2 := 20) (j := 1) (ty := (.array .long)) rfl rfl rfl rfl d3_32 rfl rfl (by decide +kernel) rfl rfl (Sh.ls_1) (Sh.ls_0) ?_
  refine Sh.aload_n d3_35 rfl rfl ?_
  refine Sh.iconst d3_36 (x := 2) rfl ?_
  refine Sh.aload_n d3_37 rfl rfl ?_
  refine Sh.getfield hw (i := 16) (j := 0) rfl d3_38 rfl rfl ?_
  refine Sh.imulE (z := 4) d3_41 (by decide) ?_
  refine Sh.newarr hw (i := 18) (ty := .long) (dv := .long 0) (N := 4) (cap := 4) (k' := 2) (n' := 8) (a := 2) rfl rfl d3_42 rfl (by decide) rfl (Sh.rp_4) (Sh.le rfl) (by decide) (Sh.le rfl) (Sh.le rfl) rfl rfl rfl (Sh.ap_2) ?_
  refine Sh.putfieldF hw (i := 21) (i2 := 22) (j := 2) (ty := (.array .long)) rfl rfl rfl rfl d3_44 rfl rfl (by decide +kernel) rfl rfl (Sh.ls_2) (Sh.ls_0) ?_
  refine Sh.ret0 d3_47 rfl (Sh.le rfl) (Sh.le rfl) ?_
  exact ⟨rfl, rfl⟩
theorem ctor3 (hw : HW Z a0) (w1 w2 : Value) : Sh.Meth l Z a0 n0 b3 R3 [.ref 0, .int 3] [o_ProfitTree (.int 0) w1 w2] (fun v H' => v = none ∧ H' = own_H 4 [.long 0, .long 0, .long 0, .long 0, .long 0, .long 0, .long 0, .long 0] [.long 0, .long 0, .long 0, .long 0, .long 0, .long 0, .long 0, .long 0]) := by
  refine Sh.Meth.of pn3 (L := [.val (.ref 0), .val (.int 3), .unset]) rfl ?_
  refine Sh.aload_n d3_0 rfl rfl ?_
  refine Sh.initObj hw (i1 := 13) (i2 := 14) (i3 := 15) rfl rfl rfl d3_1 rfl (Sh.le rfl) (Sh.le rfl) ?_
  refine Sh.iconst d3_4 (x := 1) rfl ?_
  refine Sh.istore_n d3_5 (Sh.s1_2 rfl rfl) ?_
  refine Sh.iload_n d3_6 rfl ?_
  refine Sh.iload_n d3_7 rfl ?_
  refine Sh.icmpF d3_8 (by decide) ?_
  refine Sh.iload_n d3_11 rfl ?_
  refine Sh.iconst d3_12 (x := 2) rfl ?_
  refine Sh.imulE (z := 2) d3_13 (by decide) ?_
  refine Sh.istore_n d3_14 (Sh.s1_2 rfl rfl) ?_
  refine Sh.goto d3_15 (pc' := 6) rfl (by decide) ?_
  refine Sh.iload_n d3_6 rfl ?_
  refine Sh.iload_n d3_7 rfl ?_
  refine Sh.icmpF d3_8 (by decide) ?_
  refine Sh.iload_n d3_11 rfl ?_
  refine Sh.iconst d3_12 (x := 2) rfl ?_
  refine Sh.imulE (z := 4) d3_13 (by decide) ?_
  refine Sh.istore_n d3_14 (Sh.s1_2 rfl rfl) ?_
  refine Sh.goto d3_15 (pc' := 6) rfl (by decide) ?_
  refine Sh.iload_n d3_6 rfl ?_
  refine Sh.iload_n d3_7 rfl ?_
  refine Sh.icmpT d3_8 (pc' := 18) rfl (by decide) (by decide) ?_
  refine Sh.aload_n d3_18 rfl rfl ?_
  refine Sh.iload_n d3_19 rfl ?_
  refine Sh.putfieldF hw (i := 16) (i2 := 17) (j := 0) (ty := .int) rfl rfl rfl rfl d3_20 rfl rfl (by decide +kernel) rfl rfl (Sh.ls_0) (Sh.ls_0) ?_
  refine Sh.aload_n d3_23 rfl rfl ?_
  refine Sh.iconst d3_24 (x := 2) rfl ?_
  refine Sh.aload_n d3_25 rfl rfl ?_
  refine Sh.getfield hw (i := 16) (j := 0) rfl d3_26 rfl rfl ?_
  refine Sh.imulE (z := 8) d3_29 (by decide) ?_
  refine Sh.newarr hw (i := 18) (ty := .long) (dv := .long 0) (N := 8) (cap := 8) (k' := 1) (n' := 8) (a := 1) rfl rfl d3_30 rfl (by decide) rfl (Sh.rp_8) (Sh.le rfl) (by decide) (Sh.le rfl) (Sh.le rfl) rfl rfl rfl (Sh.ap_1) ?_
  refine Sh.putfieldF hw (i := 19) (i2 := 20) (j := 1) (ty := (.array .long)) rfl rfl rfl rfl d3_32 rfl rfl (by decide +kernel) rfl rfl (Sh.ls_1) (Sh.ls_0) ?_
  refine Sh.aload_n d3_35 rfl rfl ?_
  refine Sh.iconst d3_36 (x := 2) rfl ?_
  refine Sh.aload_n d3_37 rfl rfl ?_
  refine Sh.getfield hw (i := 16) (j := 0) rfl d3_38 rfl rfl ?_
  refine Sh.imulE (z := 8) d3_41 (by decide) ?_
  refine Sh.newarr hw (i := 18) (ty := .long) (dv := .long 0) (N := 8) (cap := 8) (k' := 2) (n' := 16) (a := 2) rfl rfl d3_42 rfl (by decide) rfl (Sh.rp_8) (Sh.le rfl) (by decide) (Sh.le rfl) (Sh.le rfl) rfl rfl rfl (Sh.ap_2) ?_
  refine Sh.putfieldF hw (i := 21) (i2 := 22) (j := 2) (ty := (.array .long)) rfl rfl rfl rfl d3_44 rfl rfl (by decide +kernel) rfl rfl (Sh.ls_2) (Sh.ls_0) ?_
  refine Sh.ret0 d3_47 rfl (Sh.le rfl) (Sh.le rfl) ?_
  exact ⟨rfl, rfl⟩
theorem ctor4 (hw : HW Z a0) (w1 w2 : Value) : Sh.Meth l Z a0 n0 b3 R3 [.ref 0, .int 4] [o_ProfitTree (.int 0) w1 w2] (fun v H' => v = none ∧ H' = own_H 4 [.long 0, .long 0, .long 0, .long 0, .long 0, .long 0, .long 0, .long 0] [.long 0, .long 0, .long 0, .long 0, .long 0, .long 0, .long 0, .long 0]) := by
  refine Sh.Meth.of pn3 (L := [.val (.ref 0), .val (.int 4), .unset]) rfl ?_
  refine Sh.aload_n d3_0 rfl rfl ?_
  refine Sh.initObj hw (i1 := 13) (i2 := 14) (i3 := 15) rfl rfl rfl d3_1 rfl (Sh.le rfl) (Sh.le rfl) ?_
  refine Sh.iconst d3_4 (x := 1) rfl ?_
  refine Sh.istore_n d3_5 (Sh.s1_2 rfl rfl) ?_
  refine Sh.iload_n d3_6 rfl ?_
  refine Sh.iload_n d3_7 rfl ?_
  refine Sh.icmpF d3_8 (by decide) ?_
  refine Sh.iload_n d3_11 rfl ?_
  refine Sh.iconst d3_12 (x := 2) rfl ?_
  refine Sh.imulE (z := 2) d3_13 (by decide) ?_
  refine Sh.istore_n d3_14 (Sh.s1_2 rfl rfl) ?_
  refine Sh.goto d3_15 (pc' := 6) rfl (by decide) ?_
  refine Sh.iload_n d3_6 rfl ?_
  refine Sh.iload_n d3_7 rfl ?_
  refine Sh.icmpF d3_8 (by decide) ?_
  refine Sh.iload_n d3_11 rfl ?_
  refine Sh.iconst d3_12 (x := 2) rfl ?_
  refine Sh.imulE (z := 4) d3_13 (by decide) ?_
  refine Sh.istore_n d3_14 (Sh.s1_2 rfl rfl) ?_
  refine Sh.goto d3_15 (pc' := 6) rfl (by decide) ?_
  refine Sh.iload_n d3_6 rfl ?_
  refine Sh.iload_n d3_7 rfl ?_
  refine Sh.icmpT d3_8 (pc' := 18) rfl (by decide) (by decide) ?_
  refine Sh.aload_n d3_18 rfl rfl ?_
  refine Sh.iload_n d3_19 rfl ?_
  refine Sh.putfieldF hw (i := 16) (i2 := 17) (j := 0) (ty := .int) rfl rfl rfl rfl d3_20 rfl rfl (by decide +kernel) rfl rfl (Sh.ls_0) (Sh.ls_0) ?_
  refine Sh.aload_n d3_23 rfl rfl ?_
  refine Sh.iconst d3_24 (x := 2) rfl ?_
  refine Sh.aload_n d3_25 rfl rfl ?_
  refine Sh.getfield hw (i := 16) (j := 0) rfl d3_26 rfl rfl ?_
  refine Sh.imulE (z := 8) d3_29 (by decide) ?_
  refine Sh.newarr hw (i := 18) (ty := .long) (dv := .long 0) (N := 8) (cap := 8) (k' := 1) (n' := 8) (a := 1) rfl rfl d3_30 rfl (by decide) rfl (Sh.rp_8) (Sh.le rfl) (by decide) (Sh.le rfl) (Sh.le rfl) rfl rfl rfl (Sh.ap_1) ?_
  refine Sh.putfieldF hw (i := 19) (i2 := 20) (j := 1) (ty := (.array .long)) rfl rfl rfl rfl d3_32 rfl rfl (by decide +kernel) rfl rfl (Sh.ls_1) (Sh.ls_0) ?_
  refine Sh.aload_n d3_35 rfl rfl ?_
  refine Sh.iconst d3_36 (x := 2) rfl ?_
  refine Sh.aload_n d3_37 rfl rfl ?_
  refine Sh.getfield hw (i := 16) (j := 0) rfl d3_38 rfl rfl ?_
  refine Sh.imulE (z := 8) d3_41 (by decide) ?_
  refine Sh.newarr hw (i := 18) (ty := .long) (dv := .long 0) (N := 8) (cap := 8) (k' := 2) (n' := 16) (a := 2) rfl rfl d3_42 rfl (by decide) rfl (Sh.rp_8) (Sh.le rfl) (by decide) (Sh.le rfl) (Sh.le rfl) rfl rfl rfl (Sh.ap_2) ?_
  refine Sh.putfieldF hw (i := 21) (i2 := 22) (j := 2) (ty := (.array .long)) rfl rfl rfl rfl d3_44 rfl rfl (by decide +kernel) rfl rfl (Sh.ls_2) (Sh.ls_0) ?_
  refine Sh.ret0 d3_47 rfl (Sh.le rfl) (Sh.le rfl) ?_
  exact ⟨rfl, rfl⟩
theorem leaf (hw : HW Z a0) (lv : Int32) (ad mo : List Value) (k low lo hi : Nat) (q ab A M : Int64) (hk : k < 100) (hlow : low < 100) (hlo : lo < 100) (hhi : hi < 100) (gA : ad[k]? = some (.long A)) (gM : mo[k]? = some (.long M)) (hq : 0 ≤ q.toInt) (hM : 0 ≤ M.toInt) (hA : 0 ≤ A.toInt) (hAM : A.toInt ≤ M.toInt) (hab : 0 ≤ ab.toInt) (hov : M.toInt + ab.toInt + q.toInt < 9223372036854775808) :
    Sh.Meth l Z a0 n0 b6 RA [.ref 0, .int (Int32.ofNat k), .int (Int32.ofNat low), .int (Int32.ofNat (low + 1)), .int (Int32.ofNat lo), .int (Int32.ofNat hi), .long q, .long ab] (own_H lv ad mo) (fun v H' => v = none ∧ ∃ A' M' : Int64, H' = own_H lv (ad.set k (.long A')) (mo.set k (.long M')) ∧ A'.toInt = A.toInt + own_d lo hi low q ∧ M'.toInt = M.toInt + own_d lo hi low q) := by
  refine Sh.Meth.of pn6 (L := [.val (.ref 0), .val (.int (Int32.ofNat k)), .val (.int (Int32.ofNat low)), .val (.int (Int32.ofNat (low + 1))), .val (.int (Int32.ofNat lo)), .val (.int (Int32.ofNat hi)), .val (.long q), .second, .val (.long ab), .second, .unset]) rfl ?_
  by_cases c1 : low < hi
  · by_cases c2 : lo < low + 1
    · have d : own_d lo hi low q = q.toInt := by rw [own_d, if_pos (by omega)]
      have sA := own_sum A q (by omega) (by omega)
      have sM := own_sum M q (by omega) (by omega)
      refine Sh.iload d6_0 rfl ?_
      refine Sh.iload_n d6_2 rfl ?_
      refine Sh.icmpF d6_3 (fun z => z ((Sh.onLt (by omega) (by omega)).mpr (by omega))) ?_
      refine Sh.iload_n d6_6 rfl ?_
      refine Sh.iload d6_7 rfl ?_
      refine Sh.icmpT d6_9 (pc' := 13) rfl (by decide) ((Sh.onLt (by omega) (by omega)).mpr (by omega)) ?_
      refine Sh.iload d6_13 rfl ?_
      refine Sh.iload_n d6_15 rfl ?_
      refine Sh.icmpF d6_16 (fun z => absurd ((Sh.onLt (by omega) (by omega)).mp z) (by omega)) ?_
      refine Sh.iload_n d6_19 rfl ?_
      refine Sh.iload d6_20 rfl ?_
      refine Sh.icmpF d6_22 (fun z => absurd ((Sh.onLt (by omega) (by omega)).mp z) (by omega)) ?_
      refine Sh.aload_n d6_25 rfl rfl ?_
      refine Sh.getfield hw (i := 21) (j := 2) rfl d6_26 rfl rfl ?_
      refine Sh.iload_n d6_29 rfl ?_
      refine Sh.laload d6_30 rfl (Sh.onNN (by omega)) (Sh.onCl (by omega)) gM ?_
      refine Sh.lload d6_31 rfl ?_
      refine Sh.ladd d6_33 ?_
      refine Sh.ldc2L hw (i := 32) rfl d6_34 ?_
      refine Sh.lload d6_37 rfl ?_
      refine Sh.lsub d6_39 ?_
      refine Sh.lcmpT d6_40 d6_41 (pc' := 48) rfl (by decide) (own_chk M ab q hM hab hq hov) ?_
      refine Sh.aload_n d6_48 rfl rfl ?_
      refine Sh.getfield hw (i := 19) (j := 1) rfl d6_49 rfl rfl ?_
      refine Sh.iload_n d6_52 rfl ?_
      refine Sh.dup2 d6_53 rfl rfl ?_
      refine Sh.laload d6_54 rfl (Sh.onNN (by omega)) (Sh.onCl (by omega)) gA ?_
      refine Sh.lload d6_55 rfl ?_
      refine Sh.ladd d6_57 ?_
      refine Sh.lastore d6_58 rfl (Sh.onNN (by omega)) (Sh.onCl (by omega)) (Sh.lt_of_at gA) rfl (Sh.ls_1) ?_
      refine Sh.aload_n d6_59 rfl rfl ?_
      refine Sh.getfield hw (i := 21) (j := 2) rfl d6_60 rfl rfl ?_
      refine Sh.iload_n d6_63 rfl ?_
      refine Sh.dup2 d6_64 rfl rfl ?_
      refine Sh.laload d6_65 rfl (Sh.onNN (by omega)) (Sh.onCl (by omega)) gM ?_
      refine Sh.lload d6_66 rfl ?_
      refine Sh.ladd d6_68 ?_
      refine Sh.lastore d6_69 rfl (Sh.onNN (by omega)) (Sh.onCl (by omega)) (Sh.lt_of_at gM) rfl (Sh.ls_2) ?_
      refine Sh.goto d6_70 (pc' := 166) rfl (by decide) ?_
      refine Sh.ret0 d6_166 rfl (Sh.le rfl) (Sh.le rfl) ?_
      exact ⟨rfl, A + q, M + q, rfl, by omega, by omega⟩
    · have d : own_d lo hi low q = 0 := by rw [own_d, if_neg (by omega)]
      refine Sh.iload d6_0 rfl ?_
      refine Sh.iload_n d6_2 rfl ?_
      refine Sh.icmpF d6_3 (fun z => z ((Sh.onLt (by omega) (by omega)).mpr (by omega))) ?_
      refine Sh.iload_n d6_6 rfl ?_
      refine Sh.iload d6_7 rfl ?_
      refine Sh.icmpF d6_9 (fun z => absurd ((Sh.onLt (by omega) (by omega)).mp z) (by omega)) ?_
      refine Sh.ret0 d6_12 rfl (Sh.le rfl) (Sh.le rfl) ?_
      exact ⟨rfl, A, M, by rw [own_self ad k _ gA, own_self mo k _ gM], by omega, by omega⟩
  · have d : own_d lo hi low q = 0 := by rw [own_d, if_neg (by omega)]
    refine Sh.iload d6_0 rfl ?_
    refine Sh.iload_n d6_2 rfl ?_
    refine Sh.icmpT d6_3 (pc' := 12) rfl (by decide) (fun z => absurd ((Sh.onLt (by omega) (by omega)).mp z) (by omega)) ?_
    refine Sh.ret0 d6_12 rfl (Sh.le rfl) (Sh.le rfl) ?_
    exact ⟨rfl, A, M, by rw [own_self ad k _ gA, own_self mo k _ gM], by omega, by omega⟩
theorem mid (hw : HW Z a0) (lv : Int32) (ad mo : List Value) (k low lo hi : Nat) (q ab A B C M N P : Int64) (hk0 : 0 < k) (hk : k < 40) (hlow : low < 90) (hlo : lo < 100) (hhi : hi < 100) (gA : ad[k]? = some (.long A)) (gB : ad[2 * k]? = some (.long B)) (gC : ad[2 * k + 1]? = some (.long C)) (gM : mo[k]? = some (.long M)) (gN : mo[2 * k]? = some (.long N)) (gP : mo[2 * k + 1]? = some (.long P)) (hI : own_I A B C M N P) (hq : 0 ≤ q.toInt) (hab : 0 ≤ ab.toInt) (hov : M.toInt + ab.toInt + q.toInt < 9223372036854775808) :
    Sh.Meth l Z a0 n0 b6 RB [.ref 0, .int (Int32.ofNat k), .int (Int32.ofNat low), .int (Int32.ofNat (low + 2)), .int (Int32.ofNat lo), .int (Int32.ofNat hi), .long q, .long ab] (own_H lv ad mo) (fun v H' => v = none ∧ ∃ A' B' C' M' N' P' : Int64, H' = own_H lv (((ad.set k (.long A')).set (2 * k) (.long B')).set (2 * k + 1) (.long C')) (((mo.set k (.long M')).set (2 * k) (.long N')).set (2 * k + 1) (.long P')) ∧ own_I A' B' C' M' N' P' ∧ A'.toInt + B'.toInt = A.toInt + B.toInt + own_d lo hi low q ∧ A'.toInt + C'.toInt = A.toInt + C.toInt + own_d lo hi (low + 1) q) := by
  refine Sh.Meth.of pn6 (L := [.val (.ref 0), .val (.int (Int32.ofNat k)), .val (.int (Int32.ofNat low)), .val (.int (Int32.ofNat (low + 2))), .val (.int (Int32.ofNat lo)), .val (.int (Int32.ofNat hi)), .val (.long q), .second, .val (.long ab), .second, .unset]) rfl ?_
  have hI' := hI
  obtain ⟨i1, i2, i3, i4, i5, i6⟩ := hI
  by_cases c1 : low < hi
  · by_cases c2 : lo < low + 2
    · by_cases c3 : lo ≤ low ∧ low + 2 ≤ hi
      · have d0 : own_d lo hi low q = q.toInt := by rw [own_d, if_pos (by omega)]
        have d1 : own_d lo hi (low + 1) q = q.toInt := by rw [own_d, if_pos (by omega)]
        have sA := own_sum A q (by omega) (by omega)
        have sM := own_sum M q (by omega) (by omega)
        refine Sh.iload d6_0 rfl ?_
        refine Sh.iload_n d6_2 rfl ?_
        refine Sh.icmpF d6_3 (fun z => z ((Sh.onLt (by omega) (by omega)).mpr (by omega))) ?_
        refine Sh.iload_n d6_6 rfl ?_
        refine Sh.iload d6_7 rfl ?_
        refine Sh.icmpT d6_9 (pc' := 13) rfl (by decide) ((Sh.onLt (by omega) (by omega)).mpr (by omega)) ?_
        refine Sh.iload d6_13 rfl ?_
        refine Sh.iload_n d6_15 rfl ?_
        refine Sh.icmpF d6_16 (fun z => absurd ((Sh.onLt (by omega) (by omega)).mp z) (by omega)) ?_
        refine Sh.iload_n d6_19 rfl ?_
        refine Sh.iload d6_20 rfl ?_
        refine Sh.icmpF d6_22 (fun z => absurd ((Sh.onLt (by omega) (by omega)).mp z) (by omega)) ?_
        refine Sh.aload_n d6_25 rfl rfl ?_
        refine Sh.getfield hw (i := 21) (j := 2) rfl d6_26 rfl rfl ?_
        refine Sh.iload_n d6_29 rfl ?_
        refine Sh.laload d6_30 rfl (Sh.onNN (by omega)) (Sh.onCl (by omega)) gM ?_
        refine Sh.lload d6_31 rfl ?_
        refine Sh.ladd d6_33 ?_
        refine Sh.ldc2L hw (i := 32) rfl d6_34 ?_
        refine Sh.lload d6_37 rfl ?_
        refine Sh.lsub d6_39 ?_
        refine Sh.lcmpT d6_40 d6_41 (pc' := 48) rfl (by decide) (own_chk M ab q (by omega) hab hq hov) ?_
        refine Sh.aload_n d6_48 rfl rfl ?_
        refine Sh.getfield hw (i := 19) (j := 1) rfl d6_49 rfl rfl ?_
        refine Sh.iload_n d6_52 rfl ?_
        refine Sh.dup2 d6_53 rfl rfl ?_
        refine Sh.laload d6_54 rfl (Sh.onNN (by omega)) (Sh.onCl (by omega)) gA ?_
        refine Sh.lload d6_55 rfl ?_
        refine Sh.ladd d6_57 ?_
        refine Sh.lastore d6_58 rfl (Sh.onNN (by omega)) (Sh.onCl (by omega)) (Sh.lt_of_at gA) rfl (Sh.ls_1) ?_
        refine Sh.aload_n d6_59 rfl rfl ?_
        refine Sh.getfield hw (i := 21) (j := 2) rfl d6_60 rfl rfl ?_
        refine Sh.iload_n d6_63 rfl ?_
        refine Sh.dup2 d6_64 rfl rfl ?_
        refine Sh.laload d6_65 rfl (Sh.onNN (by omega)) (Sh.onCl (by omega)) gM ?_
        refine Sh.lload d6_66 rfl ?_
        refine Sh.ladd d6_68 ?_
        refine Sh.lastore d6_69 rfl (Sh.onNN (by omega)) (Sh.onCl (by omega)) (Sh.lt_of_at gM) rfl (Sh.ls_2) ?_
        refine Sh.goto d6_70 (pc' := 166) rfl (by decide) ?_
        refine Sh.ret0 d6_166 rfl (Sh.le rfl) (Sh.le rfl) ?_
        refine ⟨rfl, A + q, B, C, M + q, N, P, ?_, ⟨by omega, i2, i3, i4, i5, by omega⟩, by omega, by omega⟩
        rw [own_self (ad.set k _) (2 * k) _ (by rw [List.getElem?_set_ne (by omega)]; exact gB), own_self (ad.set k _) (2 * k + 1) _ (by rw [List.getElem?_set_ne (by omega)]; exact gC), own_self (mo.set k _) (2 * k) _ (by rw [List.getElem?_set_ne (by omega)]; exact gN), own_self (mo.set k _) (2 * k + 1) _ (by rw [List.getElem?_set_ne (by omega)]; exact gP)]
      · have sA := own_sum ab A (by omega) (by omega)
        have go : Sh.WP l Z a0 n0 b6 RB 0 0 73 [.val (.ref 0), .val (.int (Int32.ofNat k)), .val (.int (Int32.ofNat low)), .val (.int (Int32.ofNat (low + 2))), .val (.int (Int32.ofNat lo)), .val (.int (Int32.ofNat hi)), .val (.long q), .second, .val (.long ab), .second, .unset] [] (own_H lv ad mo) (fun v H' => v = none ∧ ∃ A' B' C' M' N' P' : Int64, H' = own_H lv (((ad.set k (.long A')).set (2 * k) (.long B')).set (2 * k + 1) (.long C')) (((mo.set k (.long M')).set (2 * k) (.long N')).set (2 * k + 1) (.long P')) ∧ own_I A' B' C' M' N' P' ∧ A'.toInt + B'.toInt = A.toInt + B.toInt + own_d lo hi low q ∧ A'.toInt + C'.toInt = A.toInt + C.toInt + own_d lo hi (low + 1) q) := by
          refine Sh.iload_n d6_73 rfl ?_
          refine Sh.iload_n d6_74 rfl ?_
          refine Sh.iaddE d6_75 (Sh.onAdd _ _) ?_
          refine Sh.iconst d6_76 (x := 1) rfl ?_
          refine Sh.iushrE d6_77 ((congrArg (fun m => XT.ushr (Int32.ofNat m) 1) (show low + (low + 2) = 2 * (low + 1) by omega)).trans (own_half (low + 1) (by omega))) ?_
          refine Sh.istore d6_78 (Sh.s1_10 rfl rfl) ?_
          refine Sh.aload_n d6_80 rfl rfl ?_
          refine Sh.iconst d6_81 (x := 2) rfl ?_
          refine Sh.iload_n d6_82 rfl ?_
          refine Sh.imulE d6_83 (Sh.onMul (a := 2)) ?_
          refine Sh.iload_n d6_84 rfl ?_
          refine Sh.iload d6_85 rfl ?_
          refine Sh.iload d6_87 rfl ?_
          refine Sh.iload d6_89 rfl ?_
          refine Sh.lload d6_91 rfl ?_
          refine Sh.lload d6_93 rfl ?_
          refine Sh.aload_n d6_95 rfl rfl ?_
          refine Sh.getfield hw (i := 19) (j := 1) rfl d6_96 rfl rfl ?_
          refine Sh.iload_n d6_99 rfl ?_
          refine Sh.laload d6_100 rfl (Sh.onNN (by omega)) (Sh.onCl (by omega)) gA ?_
          refine Sh.ladd d6_101 ?_
          refine Sh.callP hw (i1 := 28) (i2 := 29) (i3 := 9) (i4 := 31) (i5 := 30) (i6 := 8) (k' := 0) (n' := 0) (B' := b6) (R' := RA) rfl rfl rfl rfl rfl rfl (by decide) rfl (leaf l Z a0 n0 hw lv ad mo (2 * k) low lo hi q (ab + A) B N (by omega) (by omega) hlo hhi gB gN hq (by omega) i2 (by omega) (by omega) (by omega)) d6_102 rfl rfl pd6 rfl (Sh.le rfl) (Sh.le rfl) (Sh.le rfl) (Sh.le rfl) rfl rfl ?_
          rintro _ _ ⟨rfl, B1, N1, rfl, eB, eN⟩
          refine Sh.aload_n d6_105 rfl rfl ?_
          refine Sh.iconst d6_106 (x := 2) rfl ?_
          refine Sh.iload_n d6_107 rfl ?_
          refine Sh.imulE d6_108 (Sh.onMul (a := 2)) ?_
          refine Sh.iconst d6_109 (x := 1) rfl ?_
          refine Sh.iaddE d6_110 (Sh.onSucc _) ?_
          refine Sh.iload d6_111 rfl ?_
          refine Sh.iload_n d6_113 rfl ?_
          refine Sh.iload d6_114 rfl ?_
          refine Sh.iload d6_116 rfl ?_
          refine Sh.lload d6_118 rfl ?_
          refine Sh.lload d6_120 rfl ?_
          refine Sh.aload_n d6_122 rfl rfl ?_
          refine Sh.getfield hw (i := 19) (j := 1) rfl d6_123 rfl rfl ?_
          refine Sh.iload_n d6_126 rfl ?_
          refine Sh.laload d6_127 rfl (Sh.onNN (by omega)) (Sh.onCl (by omega)) (by rw [List.getElem?_set_ne (by omega)]; exact gA) ?_
          refine Sh.ladd d6_128 ?_
          refine Sh.callP hw (i1 := 28) (i2 := 29) (i3 := 9) (i4 := 31) (i5 := 30) (i6 := 8) (k' := 0) (n' := 0) (B' := b6) (R' := RA) rfl rfl rfl rfl rfl rfl (by decide) rfl (leaf l Z a0 n0 hw lv _ _ (2 * k + 1) (low + 1) lo hi q (ab + A) C P (by omega) (by omega) hlo hhi (by rw [List.getElem?_set_ne (by omega)]; exact gC) (by rw [List.getElem?_set_ne (by omega)]; exact gP) hq (by omega) i3 (by omega) (by omega) (by omega)) d6_129 rfl rfl pd6 rfl (Sh.le rfl) (Sh.le rfl) (Sh.le rfl) (Sh.le rfl) rfl rfl ?_
          rintro _ _ ⟨rfl, C1, P1, rfl, eC, eP⟩
          have b0 : 0 ≤ own_d lo hi low q ∧ own_d lo hi low q ≤ q.toInt := by rw [own_d]; split <;> omega
          have b1 : 0 ≤ own_d lo hi (low + 1) q ∧ own_d lo hi (low + 1) q ≤ q.toInt := by rw [own_d]; split <;> omega
          refine Sh.aload_n d6_132 rfl rfl ?_
          refine Sh.getfield hw (i := 21) (j := 2) rfl d6_133 rfl rfl ?_
          refine Sh.iload_n d6_136 rfl ?_
          refine Sh.aload_n d6_137 rfl rfl ?_
          refine Sh.getfield hw (i := 21) (j := 2) rfl d6_138 rfl rfl ?_
          refine Sh.iconst d6_141 (x := 2) rfl ?_
          refine Sh.iload_n d6_142 rfl ?_
          refine Sh.imulE d6_143 (Sh.onMul (a := 2)) ?_
          refine Sh.laload d6_144 rfl (Sh.onNN (by omega)) (Sh.onCl (by omega)) (by rw [List.getElem?_set_ne (by omega), List.getElem?_set_self (Sh.lt_of_at gN)]) ?_
          refine Sh.aload_n d6_145 rfl rfl ?_
          refine Sh.getfield hw (i := 21) (j := 2) rfl d6_146 rfl rfl ?_
          refine Sh.iconst d6_149 (x := 2) rfl ?_
          refine Sh.iload_n d6_150 rfl ?_
          refine Sh.imulE d6_151 (Sh.onMul (a := 2)) ?_
          refine Sh.iconst d6_152 (x := 1) rfl ?_
          refine Sh.iaddE d6_153 (Sh.onSucc _) ?_
          refine Sh.laload d6_154 rfl (Sh.onNN (by omega)) (Sh.onCl (by omega)) (by rw [List.getElem?_set_self (by rw [List.length_set]; exact Sh.lt_of_at gP)]) ?_
          refine Sh.callS hw (i1 := 42) (i2 := 43) (i3 := 2) (i4 := 44) (k' := 0) (n' := 0) (B' := b9) (R' := R9) rfl rfl rfl rfl (by decide) (maxJ l Z a0 n0 hw _ _ _) d6_155 rfl rfl pd9 rfl (Sh.le rfl) (Sh.le rfl) (Sh.le rfl) (Sh.le rfl) rfl rfl ?_
          rintro _ _ ⟨⟨mx, rfl, hx⟩, rfl⟩
          have sX := own_sum mx A (by omega) (by omega)
          refine Sh.aload_n d6_158 rfl rfl ?_
          refine Sh.getfield hw (i := 19) (j := 1) rfl d6_159 rfl rfl ?_
          refine Sh.iload_n d6_162 rfl ?_
          refine Sh.laload d6_163 rfl (Sh.onNN (by omega)) (Sh.onCl (by omega)) (by rw [List.getElem?_set_ne (by omega), List.getElem?_set_ne (by omega)]; exact gA) ?_
          refine Sh.ladd d6_164 ?_
          refine Sh.lastore d6_165 rfl (Sh.onNN (by omega)) (Sh.onCl (by omega)) (by rw [List.length_set, List.length_set]; exact Sh.lt_of_at gM) rfl (Sh.ls_2) ?_
          refine Sh.ret0 d6_166 rfl (Sh.le rfl) (Sh.le rfl) ?_
          refine ⟨rfl, A, B1, C1, mx + A, N1, P1, ?_, ⟨i1, by omega, by omega, by omega, by omega, by omega⟩, by omega, by omega⟩
          rw [own_self ad k _ gA, List.set_comm _ _ (show 2 * k + 1 ≠ k by omega), List.set_comm _ _ (show 2 * k ≠ k by omega)]
        by_cases c4 : low < lo
        · refine Sh.iload d6_0 rfl ?_
          refine Sh.iload_n d6_2 rfl ?_
          refine Sh.icmpF d6_3 (fun z => z ((Sh.onLt (by omega) (by omega)).mpr (by omega))) ?_
          refine Sh.iload_n d6_6 rfl ?_
          refine Sh.iload d6_7 rfl ?_
          refine Sh.icmpT d6_9 (pc' := 13) rfl (by decide) ((Sh.onLt (by omega) (by omega)).mpr (by omega)) ?_
          refine Sh.iload d6_13 rfl ?_
          refine Sh.iload_n d6_15 rfl ?_
          refine Sh.icmpT d6_16 (pc' := 73) rfl (by decide) ((Sh.onLt (by omega) (by omega)).mpr (by omega)) ?_
          exact go
        · refine Sh.iload d6_0 rfl ?_
          refine Sh.iload_n d6_2 rfl ?_
          refine Sh.icmpF d6_3 (fun z => z ((Sh.onLt (by omega) (by omega)).mpr (by omega))) ?_
          refine Sh.iload_n d6_6 rfl ?_
          refine Sh.iload d6_7 rfl ?_
          refine Sh.icmpT d6_9 (pc' := 13) rfl (by decide) ((Sh.onLt (by omega) (by omega)).mpr (by omega)) ?_
          refine Sh.iload d6_13 rfl ?_
          refine Sh.iload_n d6_15 rfl ?_
          refine Sh.icmpF d6_16 (fun z => absurd ((Sh.onLt (by omega) (by omega)).mp z) (by omega)) ?_
          refine Sh.iload_n d6_19 rfl ?_
          refine Sh.iload d6_20 rfl ?_
          refine Sh.icmpT d6_22 (pc' := 73) rfl (by decide) ((Sh.onLt (by omega) (by omega)).mpr (by omega)) ?_
          exact go
    · have d0 : own_d lo hi low q = 0 := by rw [own_d, if_neg (by omega)]
      have d1 : own_d lo hi (low + 1) q = 0 := by rw [own_d, if_neg (by omega)]
      refine Sh.iload d6_0 rfl ?_
      refine Sh.iload_n d6_2 rfl ?_
      refine Sh.icmpF d6_3 (fun z => z ((Sh.onLt (by omega) (by omega)).mpr (by omega))) ?_
      refine Sh.iload_n d6_6 rfl ?_
      refine Sh.iload d6_7 rfl ?_
      refine Sh.icmpF d6_9 (fun z => absurd ((Sh.onLt (by omega) (by omega)).mp z) (by omega)) ?_
      refine Sh.ret0 d6_12 rfl (Sh.le rfl) (Sh.le rfl) ?_
      exact ⟨rfl, A, B, C, M, N, P, by rw [own_self ad k _ gA, own_self ad _ _ gB, own_self ad _ _ gC, own_self mo k _ gM, own_self mo _ _ gN, own_self mo _ _ gP], hI', by omega, by omega⟩
  · have d0 : own_d lo hi low q = 0 := by rw [own_d, if_neg (by omega)]
    have d1 : own_d lo hi (low + 1) q = 0 := by rw [own_d, if_neg (by omega)]
    refine Sh.iload d6_0 rfl ?_
    refine Sh.iload_n d6_2 rfl ?_
    refine Sh.icmpT d6_3 (pc' := 12) rfl (by decide) (fun z => absurd ((Sh.onLt (by omega) (by omega)).mp z) (by omega)) ?_
    refine Sh.ret0 d6_12 rfl (Sh.le rfl) (Sh.le rfl) ?_
    exact ⟨rfl, A, B, C, M, N, P, by rw [own_self ad k _ gA, own_self ad _ _ gB, own_self ad _ _ gC, own_self mo k _ gM, own_self mo _ _ gN, own_self mo _ _ gP], hI', by omega, by omega⟩
theorem root4 (hw : HW Z a0) (z y : Value) (A1 A2 A3 A4 A5 A6 A7 M1 M2 M3 M4 M5 M6 M7 q ab : Int64) (lo hi : Nat) (hlo : lo < 100) (hhi : hi < 100) (hI : (own_I A2 A4 A5 M2 M4 M5 ∧ own_I A3 A6 A7 M3 M6 M7 ∧ 0 ≤ A1.toInt ∧ ((M1.toInt = A1.toInt + M2.toInt ∧ M3.toInt ≤ M2.toInt) ∨ (M1.toInt = A1.toInt + M3.toInt ∧ M2.toInt ≤ M3.toInt)))) (hq : 0 ≤ q.toInt) (hab : ab.toInt = 0) (hov : M1.toInt + q.toInt < 9223372036854775808) :
    Sh.Meth l Z a0 n0 b6 RC [.ref 0, .int (Int32.ofNat 1), .int (Int32.ofNat 0), .int (Int32.ofNat 4), .int (Int32.ofNat lo), .int (Int32.ofNat hi), .long q, .long ab] (own_H 4 [z, .long A1, .long A2, .long A3, .long A4, .long A5, .long A6, .long A7] [y, .long M1, .long M2, .long M3, .long M4, .long M5, .long M6, .long M7]) (fun v H' => v = none ∧ ∃ B1 B2 B3 B4 B5 B6 B7 N1 N2 N3 N4 N5 N6 N7 : Int64, H' = (own_H 4 [z, .long B1, .long B2, .long B3, .long B4, .long B5, .long B6, .long B7] [y, .long N1, .long N2, .long N3, .long N4, .long N5, .long N6, .long N7]) ∧ (own_I B2 B4 B5 N2 N4 N5 ∧ own_I B3 B6 B7 N3 N6 N7 ∧ 0 ≤ B1.toInt ∧ ((N1.toInt = B1.toInt + N2.toInt ∧ N3.toInt ≤ N2.toInt) ∨ (N1.toInt = B1.toInt + N3.toInt ∧ N2.toInt ≤ N3.toInt))) ∧ B1.toInt + B2.toInt + B4.toInt = A1.toInt + A2.toInt + A4.toInt + own_d lo hi 0 q ∧ B1.toInt + B2.toInt + B5.toInt = A1.toInt + A2.toInt + A5.toInt + own_d lo hi 1 q ∧ B1.toInt + B3.toInt + B6.toInt = A1.toInt + A3.toInt + A6.toInt + own_d lo hi 2 q ∧ B1.toInt + B3.toInt + B7.toInt = A1.toInt + A3.toInt + A7.toInt + own_d lo hi 3 q) := by
  refine Sh.Meth.of pn6 (L := [.val (.ref 0), .val (.int (Int32.ofNat 1)), .val (.int (Int32.ofNat 0)), .val (.int (Int32.ofNat 4)), .val (.int (Int32.ofNat lo)), .val (.int (Int32.ofNat hi)), .val (.long q), .second, .val (.long ab), .second, .unset]) rfl ?_
  have hI' := hI
  obtain ⟨j2, j3, j0, j1⟩ := hI
  have k2 := j2
  have k3 := j3
  obtain ⟨p1, p2, p3, p4, p5, p6⟩ := k2
  obtain ⟨q1, q2, q3, q4, q5, q6⟩ := k3
  by_cases c1 : 0 < hi
  · by_cases c2 : lo < 4
    · by_cases c3 : lo ≤ 0 ∧ 4 ≤ hi
      · have d : ∀ i, i < 4 → own_d lo hi i q = q.toInt := fun i h => by rw [own_d, if_pos (by omega)]
        have d0 := d 0 (by decide)
        have d1 := d 1 (by decide)
        have d2 := d 2 (by decide)
        have d3 := d 3 (by decide)
        have sA := own_sum A1 q (by omega) (by omega)
        have sM := own_sum M1 q (by omega) (by omega)
        refine Sh.iload d6_0 rfl ?_
        refine Sh.iload_n d6_2 rfl ?_
        refine Sh.icmpF d6_3 (fun z => z ((Sh.onLt (a := 0) (by omega) (by omega)).mpr (by omega))) ?_
        refine Sh.iload_n d6_6 rfl ?_
        refine Sh.iload d6_7 rfl ?_
        refine Sh.icmpT d6_9 (pc' := 13) rfl (by decide) ((Sh.onLt (b := 4) (by omega) (by omega)).mpr (by omega)) ?_
        refine Sh.iload d6_13 rfl ?_
        refine Sh.iload_n d6_15 rfl ?_
        refine Sh.icmpF d6_16 (fun z => absurd ((Sh.onLt (a := 0) (by omega) (by omega)).mp z) (by omega)) ?_
        refine Sh.iload_n d6_19 rfl ?_
        refine Sh.iload d6_20 rfl ?_
        refine Sh.icmpF d6_22 (fun z => absurd ((Sh.onLt (b := 4) (by omega) (by omega)).mp z) (by omega)) ?_
        refine Sh.aload_n d6_25 rfl rfl ?_
        refine Sh.getfield hw (i := 21) (j := 2) rfl d6_26 rfl rfl ?_
        refine Sh.iload_n d6_29 rfl ?_
        refine Sh.laload (jn := 1) d6_30 rfl (by decide) rfl rfl ?_
        refine Sh.lload d6_31 rfl ?_
        refine Sh.ladd d6_33 ?_
        refine Sh.ldc2L hw (i := 32) rfl d6_34 ?_
        refine Sh.lload d6_37 rfl ?_
        refine Sh.lsub d6_39 ?_
        refine Sh.lcmpT d6_40 d6_41 (pc' := 48) rfl (by decide) (own_chk M1 ab q (by omega) (by omega) hq (by omega)) ?_
        refine Sh.aload_n d6_48 rfl rfl ?_
        refine Sh.getfield hw (i := 19) (j := 1) rfl d6_49 rfl rfl ?_
        refine Sh.iload_n d6_52 rfl ?_
        refine Sh.dup2 d6_53 rfl rfl ?_
        refine Sh.laload (jn := 1) d6_54 rfl (by decide) rfl rfl ?_
        refine Sh.lload d6_55 rfl ?_
        refine Sh.ladd d6_57 ?_
        refine Sh.lastore (jn := 1) d6_58 rfl (by decide) rfl (Sh.le rfl) (Sh.ls_1) (Sh.ls_1) ?_
        refine Sh.aload_n d6_59 rfl rfl ?_
        refine Sh.getfield hw (i := 21) (j := 2) rfl d6_60 rfl rfl ?_
        refine Sh.iload_n d6_63 rfl ?_
        refine Sh.dup2 d6_64 rfl rfl ?_
        refine Sh.laload (jn := 1) d6_65 rfl (by decide) rfl rfl ?_
        refine Sh.lload d6_66 rfl ?_
        refine Sh.ladd d6_68 ?_
        refine Sh.lastore (jn := 1) d6_69 rfl (by decide) rfl (Sh.le rfl) (Sh.ls_1) (Sh.ls_2) ?_
        refine Sh.goto d6_70 (pc' := 166) rfl (by decide) ?_
        refine Sh.ret0 d6_166 rfl (Sh.le rfl) (Sh.le rfl) ?_
        exact ⟨rfl, A1 + q, A2, A3, A4, A5, A6, A7, M1 + q, M2, M3, M4, M5, M6, M7, rfl, ⟨j2, j3, by omega, by omega⟩, by omega, by omega, by omega, by omega⟩
      · have sA := own_sum ab A1 (by omega) (by omega)
        have go : Sh.WP l Z a0 n0 b6 RC 0 0 73 [.val (.ref 0), .val (.int (Int32.ofNat 1)), .val (.int (Int32.ofNat 0)), .val (.int (Int32.ofNat 4)), .val (.int (Int32.ofNat lo)), .val (.int (Int32.ofNat hi)), .val (.long q), .second, .val (.long ab), .second, .unset] [] (own_H 4 [z, .long A1, .long A2, .long A3, .long A4, .long A5, .long A6, .long A7] [y, .long M1, .long M2, .long M3, .long M4, .long M5, .long M6, .long M7]) (fun v H' => v = none ∧ ∃ B1 B2 B3 B4 B5 B6 B7 N1 N2 N3 N4 N5 N6 N7 : Int64, H' = (own_H 4 [z, .long B1, .long B2, .long B3, .long B4, .long B5, .long B6, .long B7] [y, .long N1, .long N2, .long N3, .long N4, .long N5, .long N6, .long N7]) ∧ (own_I B2 B4 B5 N2 N4 N5 ∧ own_I B3 B6 B7 N3 N6 N7 ∧ 0 ≤ B1.toInt ∧ ((N1.toInt = B1.toInt + N2.toInt ∧ N3.toInt ≤ N2.toInt) ∨ (N1.toInt = B1.toInt + N3.toInt ∧ N2.toInt ≤ N3.toInt))) ∧ B1.toInt + B2.toInt + B4.toInt = A1.toInt + A2.toInt + A4.toInt + own_d lo hi 0 q ∧ B1.toInt + B2.toInt + B5.toInt = A1.toInt + A2.toInt + A5.toInt + own_d lo hi 1 q ∧ B1.toInt + B3.toInt + B6.toInt = A1.toInt + A3.toInt + A6.toInt + own_d lo hi 2 q ∧ B1.toInt + B3.toInt + B7.toInt = A1.toInt + A3.toInt + A7.toInt + own_d lo hi 3 q) := by
          refine Sh.iload_n d6_73 rfl ?_
          refine Sh.iload_n d6_74 rfl ?_
          refine Sh.iaddE (z := 4) d6_75 (by decide) ?_
          refine Sh.iconst d6_76 (x := 1) rfl ?_
          refine Sh.iushrE (z := 2) d6_77 (by decide) ?_
          refine Sh.istore d6_78 (Sh.s1_10 rfl rfl) ?_
          refine Sh.aload_n d6_80 rfl rfl ?_
          refine Sh.iconst d6_81 (x := 2) rfl ?_
          refine Sh.iload_n d6_82 rfl ?_
          refine Sh.imulE (z := 2) d6_83 (by decide) ?_
          refine Sh.iload_n d6_84 rfl ?_
          refine Sh.iload d6_85 rfl ?_
          refine Sh.iload d6_87 rfl ?_
          refine Sh.iload d6_89 rfl ?_
          refine Sh.lload d6_91 rfl ?_
          refine Sh.lload d6_93 rfl ?_
          refine Sh.aload_n d6_95 rfl rfl ?_
          refine Sh.getfield hw (i := 19) (j := 1) rfl d6_96 rfl rfl ?_
          refine Sh.iload_n d6_99 rfl ?_
          refine Sh.laload (jn := 1) d6_100 rfl (by decide) rfl rfl ?_
          refine Sh.ladd d6_101 ?_
          refine Sh.callP hw (i1 := 28) (i2 := 29) (i3 := 9) (i4 := 31) (i5 := 30) (i6 := 8) (k' := 0) (n' := 0) (B' := b6) (R' := RB) rfl rfl rfl rfl rfl rfl (by decide) rfl (mid l Z a0 n0 hw 4 _ _ 2 0 lo hi q (ab + A1) A2 A4 A5 M2 M4 M5 (by decide) (by decide) (by decide) hlo hhi rfl rfl rfl rfl rfl rfl j2 hq (by omega) (by omega)) d6_102 rfl rfl pd6 rfl (Sh.le rfl) (Sh.le rfl) (Sh.le rfl) (Sh.le rfl) rfl rfl ?_
          rintro _ _ ⟨rfl, B2, B4, B5, N2, N4, N5, rfl, r2, s0, s1⟩
          refine Sh.aload_n d6_105 rfl rfl ?_
          refine Sh.iconst d6_106 (x := 2) rfl ?_
          refine Sh.iload_n d6_107 rfl ?_
          refine Sh.imulE (z := 2) d6_108 (by decide) ?_
          refine Sh.iconst d6_109 (x := 1) rfl ?_
          refine Sh.iaddE (z := 3) d6_110 (by decide) ?_
          refine Sh.iload d6_111 rfl ?_
          refine Sh.iload_n d6_113 rfl ?_
          refine Sh.iload d6_114 rfl ?_
          refine Sh.iload d6_116 rfl ?_
          refine Sh.lload d6_118 rfl ?_
          refine Sh.lload d6_120 rfl ?_
          refine Sh.aload_n d6_122 rfl rfl ?_
          refine Sh.getfield hw (i := 19) (j := 1) rfl d6_123 rfl rfl ?_
          refine Sh.iload_n d6_126 rfl ?_
          refine Sh.laload (jn := 1) d6_127 rfl (by decide) rfl rfl ?_
          refine Sh.ladd d6_128 ?_
          refine Sh.callP hw (i1 := 28) (i2 := 29) (i3 := 9) (i4 := 31) (i5 := 30) (i6 := 8) (k' := 0) (n' := 0) (B' := b6) (R' := RB) rfl rfl rfl rfl rfl rfl (by decide) rfl (mid l Z a0 n0 hw 4 _ _ 3 2 lo hi q (ab + A1) A3 A6 A7 M3 M6 M7 (by decide) (by decide) (by decide) hlo hhi rfl rfl rfl rfl rfl rfl j3 hq (by omega) (by omega)) d6_129 rfl rfl pd6 rfl (Sh.le rfl) (Sh.le rfl) (Sh.le rfl) (Sh.le rfl) rfl rfl ?_
          rintro _ _ ⟨rfl, B3, B6, B7, N3, N6, N7, rfl, r3, s2, s3⟩
          have e2 := r2
          have e3 := r3
          obtain ⟨x1, x2, x3, x4, x5, x6⟩ := e2
          obtain ⟨y1, y2, y3, y4, y5, y6⟩ := e3
          have b0 : 0 ≤ own_d lo hi 0 q ∧ own_d lo hi 0 q ≤ q.toInt := by rw [own_d]; split <;> omega
          have b1 : 0 ≤ own_d lo hi 1 q ∧ own_d lo hi 1 q ≤ q.toInt := by rw [own_d]; split <;> omega
          have b2 : 0 ≤ own_d lo hi 2 q ∧ own_d lo hi 2 q ≤ q.toInt := by rw [own_d]; split <;> omega
          have b3 : 0 ≤ own_d lo hi 3 q ∧ own_d lo hi 3 q ≤ q.toInt := by rw [own_d]; split <;> omega
          have s1' : B2.toInt + B5.toInt = A2.toInt + A5.toInt + own_d lo hi 1 q := s1
          have s3' : B3.toInt + B7.toInt = A3.toInt + A7.toInt + own_d lo hi 3 q := s3
          refine Sh.aload_n d6_132 rfl rfl ?_
          refine Sh.getfield hw (i := 21) (j := 2) rfl d6_133 rfl rfl ?_
          refine Sh.iload_n d6_136 rfl ?_
          refine Sh.aload_n d6_137 rfl rfl ?_
          refine Sh.getfield hw (i := 21) (j := 2) rfl d6_138 rfl rfl ?_
          refine Sh.iconst d6_141 (x := 2) rfl ?_
          refine Sh.iload_n d6_142 rfl ?_
          refine Sh.imulE (z := 2) d6_143 (by decide) ?_
          refine Sh.laload (jn := 2) d6_144 rfl (by decide) rfl rfl ?_
          refine Sh.aload_n d6_145 rfl rfl ?_
          refine Sh.getfield hw (i := 21) (j := 2) rfl d6_146 rfl rfl ?_
          refine Sh.iconst d6_149 (x := 2) rfl ?_
          refine Sh.iload_n d6_150 rfl ?_
          refine Sh.imulE (z := 2) d6_151 (by decide) ?_
          refine Sh.iconst d6_152 (x := 1) rfl ?_
          refine Sh.iaddE (z := 3) d6_153 (by decide) ?_
          refine Sh.laload (jn := 3) d6_154 rfl (by decide) rfl rfl ?_
          refine Sh.callS hw (i1 := 42) (i2 := 43) (i3 := 2) (i4 := 44) (k' := 0) (n' := 0) (B' := b9) (R' := R9) rfl rfl rfl rfl (by decide) (maxJ l Z a0 n0 hw N2 N3 _) d6_155 rfl rfl pd9 rfl (Sh.le rfl) (Sh.le rfl) (Sh.le rfl) (Sh.le rfl) rfl rfl ?_
          rintro _ _ ⟨⟨mx, rfl, hx⟩, rfl⟩
          have sX := own_sum mx A1 (by omega) (by omega)
          refine Sh.aload_n d6_158 rfl rfl ?_
          refine Sh.getfield hw (i := 19) (j := 1) rfl d6_159 rfl rfl ?_
          refine Sh.iload_n d6_162 rfl ?_
          refine Sh.laload (jn := 1) d6_163 rfl (by decide) rfl rfl ?_
          refine Sh.ladd d6_164 ?_
          refine Sh.lastore (jn := 1) d6_165 rfl (by decide) rfl (Sh.le rfl) (Sh.ls_1) (Sh.ls_2) ?_
          refine Sh.ret0 d6_166 rfl (Sh.le rfl) (Sh.le rfl) ?_
          exact ⟨rfl, A1, B2, B3, B4, B5, B6, B7, mx + A1, N2, N3, N4, N5, N6, N7, rfl, ⟨r2, r3, j0, by omega⟩, by omega, by omega, by omega, by omega⟩
        by_cases c4 : 0 < lo
        · refine Sh.iload d6_0 rfl ?_
          refine Sh.iload_n d6_2 rfl ?_
          refine Sh.icmpF d6_3 (fun z => z ((Sh.onLt (a := 0) (by omega) (by omega)).mpr (by omega))) ?_
          refine Sh.iload_n d6_6 rfl ?_
          refine Sh.iload d6_7 rfl ?_
          refine Sh.icmpT d6_9 (pc' := 13) rfl (by decide) ((Sh.onLt (b := 4) (by omega) (by omega)).mpr (by omega)) ?_
          refine Sh.iload d6_13 rfl ?_
          refine Sh.iload_n d6_15 rfl ?_
          refine Sh.icmpT d6_16 (pc' := 73) rfl (by decide) ((Sh.onLt (a := 0) (by omega) (by omega)).mpr (by omega)) ?_
          exact go
        · refine Sh.iload d6_0 rfl ?_
          refine Sh.iload_n d6_2 rfl ?_
          refine Sh.icmpF d6_3 (fun z => z ((Sh.onLt (a := 0) (by omega) (by omega)).mpr (by omega))) ?_
          refine Sh.iload_n d6_6 rfl ?_
          refine Sh.iload d6_7 rfl ?_
          refine Sh.icmpT d6_9 (pc' := 13) rfl (by decide) ((Sh.onLt (b := 4) (by omega) (by omega)).mpr (by omega)) ?_
          refine Sh.iload d6_13 rfl ?_
          refine Sh.iload_n d6_15 rfl ?_
          refine Sh.icmpF d6_16 (fun z => absurd ((Sh.onLt (a := 0) (by omega) (by omega)).mp z) (by omega)) ?_
          refine Sh.iload_n d6_19 rfl ?_
          refine Sh.iload d6_20 rfl ?_
          refine Sh.icmpT d6_22 (pc' := 73) rfl (by decide) ((Sh.onLt (b := 4) (by omega) (by omega)).mpr (by omega)) ?_
          exact go
    · have d : ∀ i, i < 4 → own_d lo hi i q = 0 := fun i h => by rw [own_d, if_neg (by omega)]
      have d0 := d 0 (by decide)
      have d1 := d 1 (by decide)
      have d2 := d 2 (by decide)
      have d3 := d 3 (by decide)
      refine Sh.iload d6_0 rfl ?_
      refine Sh.iload_n d6_2 rfl ?_
      refine Sh.icmpF d6_3 (fun z => z ((Sh.onLt (a := 0) (by omega) (by omega)).mpr (by omega))) ?_
      refine Sh.iload_n d6_6 rfl ?_
      refine Sh.iload d6_7 rfl ?_
      refine Sh.icmpF d6_9 (fun z => absurd ((Sh.onLt (b := 4) (by omega) (by omega)).mp z) (by omega)) ?_
      refine Sh.ret0 d6_12 rfl (Sh.le rfl) (Sh.le rfl) ?_
      exact ⟨rfl, A1, A2, A3, A4, A5, A6, A7, M1, M2, M3, M4, M5, M6, M7, rfl, hI', by omega, by omega, by omega, by omega⟩
  · have d : ∀ i, i < 4 → own_d lo hi i q = 0 := fun i h => by rw [own_d, if_neg (by omega)]
    have d0 := d 0 (by decide)
    have d1 := d 1 (by decide)
    have d2 := d 2 (by decide)
    have d3 := d 3 (by decide)
    refine Sh.iload d6_0 rfl ?_
    refine Sh.iload_n d6_2 rfl ?_
    refine Sh.icmpT d6_3 (pc' := 12) rfl (by decide) (fun z => absurd ((Sh.onLt (a := 0) (by omega) (by omega)).mp z) (by omega)) ?_
    refine Sh.ret0 d6_12 rfl (Sh.le rfl) (Sh.le rfl) ?_
    exact ⟨rfl, A1, A2, A3, A4, A5, A6, A7, M1, M2, M3, M4, M5, M6, M7, rfl, hI', by omega, by omega, by omega, by omega⟩
abbrev own_G (lv : Int32) (c1 c2 : Sh.SC) : Sh.SH := [o_ProfitTree (.int lv) (.ref 1) (.ref 2), c1, c2]
def T1 (V : Nat → Int) (c1 c2 : Sh.SC) : Prop := ∃ (z y : Value) (A M : Int64), c1 = .inr (.long, [z, .long A]) ∧ c2 = .inr (.long, [y, .long M]) ∧ 0 ≤ A.toInt ∧ M.toInt = A.toInt ∧ V 0 = A.toInt
def T2 (V : Nat → Int) (c1 c2 : Sh.SC) : Prop := ∃ (z y : Value) (A B C M N P : Int64), c1 = .inr (.long, [z, .long A, .long B, .long C]) ∧ c2 = .inr (.long, [y, .long M, .long N, .long P]) ∧ own_I A B C M N P ∧ V 0 = A.toInt + B.toInt ∧ V 1 = A.toInt + C.toInt
def T4 (V : Nat → Int) (c1 c2 : Sh.SC) : Prop := ∃ (z y : Value) (A1 A2 A3 A4 A5 A6 A7 M1 M2 M3 M4 M5 M6 M7 : Int64), c1 = .inr (.long, [z, .long A1, .long A2, .long A3, .long A4, .long A5, .long A6, .long A7]) ∧ c2 = .inr (.long, [y, .long M1, .long M2, .long M3, .long M4, .long M5, .long M6, .long M7]) ∧ (own_I A2 A4 A5 M2 M4 M5 ∧ own_I A3 A6 A7 M3 M6 M7 ∧ 0 ≤ A1.toInt ∧ ((M1.toInt = A1.toInt + M2.toInt ∧ M3.toInt ≤ M2.toInt) ∨ (M1.toInt = A1.toInt + M3.toInt ∧ M2.toInt ≤ M3.toInt))) ∧ V 0 = A1.toInt + A2.toInt + A4.toInt ∧ V 1 = A1.toInt + A2.toInt + A5.toInt ∧ V 2 = A1.toInt + A3.toInt + A6.toInt ∧ V 3 = A1.toInt + A3.toInt + A7.toInt
theorem own_dle (lo hi i : Nat) (q : Int64) (hq : 0 ≤ q.toInt) : 0 ≤ own_d lo hi i q ∧ own_d lo hi i q ≤ q.toInt := by rw [own_d]; split <;> omega
theorem add_1 (hw : HW Z a0) (V : Nat → Int) (c1 c2 : Sh.SC) (lo hi : Nat) (q : Int64) (hlo : lo < 100) (hhi : hi < 100) (hq : 0 ≤ q.toInt) (hT : T1 V c1 c2) (hb : ∀ i, i < 1 → V i + q.toInt < 9223372036854775808) : Sh.Meth l Z a0 n0 b5 R5 [.ref 0, .int (Int32.ofNat lo), .int (Int32.ofNat hi), .long q] (own_G 1 c1 c2) (fun v H' => v = none ∧ ∃ c1' c2', H' = own_G 1 c1' c2' ∧ T1 (fun i => V i + own_d lo hi i q) c1' c2') := by
  obtain ⟨z, y, A, M, rfl, rfl, hA, hM, hV⟩ := hT
  have z0 : (0 : Int64).toInt = 0 := by decide
  have hb0 := hb 0 (by decide)
  have b0 : 0 ≤ own_d lo hi 0 q ∧ own_d lo hi 0 q ≤ q.toInt := own_dle lo hi 0 q hq
  refine Sh.Meth.of pn5 (L := [.val (.ref 0), .val (.int (Int32.ofNat lo)), .val (.int (Int32.ofNat hi)), .val (.long q), .second]) rfl ?_
  refine Sh.aload_n d5_0 rfl rfl ?_
  refine Sh.iconst d5_1 (x := 1) rfl ?_
  refine Sh.iconst d5_2 (x := 0) rfl ?_
  refine Sh.aload_n d5_3 rfl rfl ?_
  refine Sh.getfield hw (i := 16) (j := 0) rfl d5_4 rfl rfl ?_
  refine Sh.iload_n d5_7 rfl ?_
  refine Sh.iload_n d5_8 rfl ?_
  refine Sh.lload_n d5_9 rfl ?_
  refine Sh.lconst d5_10 (x := 0) rfl ?_
  refine Sh.callP hw (i1 := 28) (i2 := 29) (i3 := 9) (i4 := 31) (i5 := 30) (i6 := 8) (k' := 0) (n' := 0) (B' := b6) (R' := RA) rfl rfl rfl rfl rfl rfl (by decide) rfl (leaf l Z a0 n0 hw 1 [z, .long A] [y, .long M] 1 0 lo hi q 0 A M (by decide) (by decide) hlo hhi rfl rfl hq (by omega) hA (by omega) (by omega) (by omega)) d5_11 rfl rfl pd6 rfl (Sh.le rfl) (Sh.le rfl) (Sh.le rfl) (Sh.le rfl) rfl rfl ?_
  rintro _ _ ⟨rfl, A1, M1, rfl, eA, eM⟩
  refine Sh.ret0 d5_14 rfl (Sh.le rfl) (Sh.le rfl) ?_
  exact ⟨rfl, _, _, rfl, z, y, A1, M1, rfl, rfl, by omega, by omega, show V 0 + own_d lo hi 0 q = _ by omega⟩
theorem add_2 (hw : HW Z a0) (V : Nat → Int) (c1 c2 : Sh.SC) (lo hi : Nat) (q : Int64) (hlo : lo < 100) (hhi : hi < 100) (hq : 0 ≤ q.toInt) (hT : T2 V c1 c2) (hb : ∀ i, i < 2 → V i + q.toInt < 9223372036854775808) : Sh.Meth l Z a0 n0 b5 R5 [.ref 0, .int (Int32.ofNat lo), .int (Int32.ofNat hi), .long q] (own_G 2 c1 c2) (fun v H' => v = none ∧ ∃ c1' c2', H' = own_G 2 c1' c2' ∧ T2 (fun i => V i + own_d lo hi i q) c1' c2') := by
  obtain ⟨z, y, A, B, C, M, N, P, rfl, rfl, hI, hV0, hV1⟩ := hT
  have hI' := hI
  obtain ⟨i1, i2, i3, i4, i5, i6⟩ := hI
  have z0 : (0 : Int64).toInt = 0 := by decide
  have hb0 := hb 0 (by decide)
  have hb1 := hb 1 (by decide)
  refine Sh.Meth.of pn5 (L := [.val (.ref 0), .val (.int (Int32.ofNat lo)), .val (.int (Int32.ofNat hi)), .val (.long q), .second]) rfl ?_
  refine Sh.aload_n d5_0 rfl rfl ?_
  refine Sh.iconst d5_1 (x := 1) rfl ?_
  refine Sh.iconst d5_2 (x := 0) rfl ?_
  refine Sh.aload_n d5_3 rfl rfl ?_
  refine Sh.getfield hw (i := 16) (j := 0) rfl d5_4 rfl rfl ?_
  refine Sh.iload_n d5_7 rfl ?_
  refine Sh.iload_n d5_8 rfl ?_
  refine Sh.lload_n d5_9 rfl ?_
  refine Sh.lconst d5_10 (x := 0) rfl ?_
  refine Sh.callP hw (i1 := 28) (i2 := 29) (i3 := 9) (i4 := 31) (i5 := 30) (i6 := 8) (k' := 0) (n' := 0) (B' := b6) (R' := RB) rfl rfl rfl rfl rfl rfl (by decide) rfl (mid l Z a0 n0 hw 2 [z, .long A, .long B, .long C] [y, .long M, .long N, .long P] 1 0 lo hi q 0 A B C M N P (by decide) (by decide) (by decide) hlo hhi rfl rfl rfl rfl rfl rfl hI' hq (by omega) (by omega)) d5_11 rfl rfl pd6 rfl (Sh.le rfl) (Sh.le rfl) (Sh.le rfl) (Sh.le rfl) rfl rfl ?_
  rintro _ _ ⟨rfl, A1, B1, C1, M1, N1, P1, rfl, r1, s0, s1⟩
  refine Sh.ret0 d5_14 rfl (Sh.le rfl) (Sh.le rfl) ?_
  have s2 : A1.toInt + C1.toInt = A.toInt + C.toInt + own_d lo hi 1 q := s1
  exact ⟨rfl, _, _, rfl, z, y, A1, B1, C1, M1, N1, P1, rfl, rfl, r1, show V 0 + own_d lo hi 0 q = _ by omega, show V 1 + own_d lo hi 1 q = _ by omega⟩
theorem add_4 (hw : HW Z a0) (V : Nat → Int) (c1 c2 : Sh.SC) (lo hi : Nat) (q : Int64) (hlo : lo < 100) (hhi : hi < 100) (hq : 0 ≤ q.toInt) (hT : T4 V c1 c2) (hb : ∀ i, i < 4 → V i + q.toInt < 9223372036854775808) : Sh.Meth l Z a0 n0 b5 R5 [.ref 0, .int (Int32.ofNat lo), .int (Int32.ofNat hi), .long q] (own_G 4 c1 c2) (fun v H' => v = none ∧ ∃ c1' c2', H' = own_G 4 c1' c2' ∧ T4 (fun i => V i + own_d lo hi i q) c1' c2') := by
  obtain ⟨z, y, A1, A2, A3, A4, A5, A6, A7, M1, M2, M3, M4, M5, M6, M7, rfl, rfl, hI, hV0, hV1, hV2, hV3⟩ := hT
  have hI' := hI
  obtain ⟨⟨x1, x2, x3, x4, x5, x6⟩, ⟨y1, y2, y3, y4, y5, y6⟩, j0, j1⟩ := hI
  have z0 : (0 : Int64).toInt = 0 := by decide
  have hb0 := hb 0 (by decide)
  have hb1 := hb 1 (by decide)
  have hb2 := hb 2 (by decide)
  have hb3 := hb 3 (by decide)
  refine Sh.Meth.of pn5 (L := [.val (.ref 0), .val (.int (Int32.ofNat lo)), .val (.int (Int32.ofNat hi)), .val (.long q), .second]) rfl ?_
  refine Sh.aload_n d5_0 rfl rfl ?_
  refine Sh.iconst d5_1 (x := 1) rfl ?_
  refine Sh.iconst d5_2 (x := 0) rfl ?_
  refine Sh.aload_n d5_3 rfl rfl ?_
  refine Sh.getfield hw (i := 16) (j := 0) rfl d5_4 rfl rfl ?_
  refine Sh.iload_n d5_7 rfl ?_
  refine Sh.iload_n d5_8 rfl ?_
  refine Sh.lload_n d5_9 rfl ?_
  refine Sh.lconst d5_10 (x := 0) rfl ?_
  refine Sh.callP hw (i1 := 28) (i2 := 29) (i3 := 9) (i4 := 31) (i5 := 30) (i6 := 8) (k' := 0) (n' := 0) (B' := b6) (R' := RC) rfl rfl rfl rfl rfl rfl (by decide) rfl (root4 l Z a0 n0 hw z y A1 A2 A3 A4 A5 A6 A7 M1 M2 M3 M4 M5 M6 M7 q 0 lo hi hlo hhi hI' hq z0 (by omega)) d5_11 rfl rfl pd6 rfl (Sh.le rfl) (Sh.le rfl) (Sh.le rfl) (Sh.le rfl) rfl rfl ?_
  rintro _ _ ⟨rfl, B1, B2, B3, B4, B5, B6, B7, N1, N2, N3, N4, N5, N6, N7, rfl, r1, s0, s1, s2, s3⟩
  refine Sh.ret0 d5_14 rfl (Sh.le rfl) (Sh.le rfl) ?_
  exact ⟨rfl, _, _, rfl, z, y, B1, B2, B3, B4, B5, B6, B7, N1, N2, N3, N4, N5, N6, N7, rfl, rfl, r1, show V 0 + own_d lo hi 0 q = _ by omega, show V 1 + own_d lo hi 1 q = _ by omega, show V 2 + own_d lo hi 2 q = _ by omega, show V 3 + own_d lo hi 3 q = _ by omega⟩
theorem first_1 (hw : HW Z a0) (V : Nat → Int) (c1 c2 : Sh.SC) (hT : T1 V c1 c2) : Sh.Meth l Z a0 n0 b8 R8 [.ref 0] (own_G 1 c1 c2) (fun v H' => (∃ r : Nat, v = some (.int (Int32.ofNat r)) ∧ r < 1 ∧ ∀ i, i < 1 → V i ≤ V r ∧ (i < r → V i < V r)) ∧ H' = own_G 1 c1 c2) := by
  obtain ⟨z, y, A, M, rfl, rfl, hA, hM, hV⟩ := hT
  refine Sh.Meth.of pn8 (L := [.val (.ref 0), .unset]) rfl ?_
  refine Sh.iconst d8_0 (x := 1) rfl ?_
  refine Sh.istore_n d8_1 (Sh.s1_1 rfl rfl) ?_
  refine Sh.iload_n d8_2 rfl ?_
  refine Sh.aload_n d8_3 rfl rfl ?_
  refine Sh.getfield hw (i := 16) (j := 0) rfl d8_4 rfl rfl ?_
  refine Sh.icmpT d8_7 (pc' := 47) rfl (by decide) (by decide) ?_
  refine Sh.iload_n d8_47 rfl ?_
  refine Sh.aload_n d8_48 rfl rfl ?_
  refine Sh.getfield hw (i := 16) (j := 0) rfl d8_49 rfl rfl ?_
  refine Sh.isubE (z := 0) d8_52 (by decide) ?_
  refine Sh.retI d8_53 rfl (Sh.le rfl) (Sh.le rfl) ?_
  refine ⟨⟨0, rfl, by decide, fun i h => ?_⟩, rfl⟩
  obtain rfl : i = 0 := by omega
  · omega
theorem first_2 (hw : HW Z a0) (V : Nat → Int) (c1 c2 : Sh.SC) (hT : T2 V c1 c2) : Sh.Meth l Z a0 n0 b8 R8 [.ref 0] (own_G 2 c1 c2) (fun v H' => (∃ r : Nat, v = some (.int (Int32.ofNat r)) ∧ r < 2 ∧ ∀ i, i < 2 → V i ≤ V r ∧ (i < r → V i < V r)) ∧ H' = own_G 2 c1 c2) := by
  obtain ⟨z, y, A, B, C, M, N, P, rfl, rfl, ⟨i1, i2, i3, i4, i5, i6⟩, hV0, hV1⟩ := hT
  refine Sh.Meth.of pn8 (L := [.val (.ref 0), .unset]) rfl ?_
  refine Sh.iconst d8_0 (x := 1) rfl ?_
  refine Sh.istore_n d8_1 (Sh.s1_1 rfl rfl) ?_
  refine Sh.iload_n d8_2 rfl ?_
  refine Sh.aload_n d8_3 rfl rfl ?_
  refine Sh.getfield hw (i := 16) (j := 0) rfl d8_4 rfl rfl ?_
  refine Sh.icmpF d8_7 (by decide) ?_
  refine Sh.aload_n d8_10 rfl rfl ?_
  refine Sh.getfield hw (i := 21) (j := 2) rfl d8_11 rfl rfl ?_
  refine Sh.iconst d8_14 (x := 2) rfl ?_
  refine Sh.iload_n d8_15 rfl ?_
  refine Sh.imulE (z := 2) d8_16 (by decide) ?_
  refine Sh.laload (jn := 2) d8_17 rfl (by decide) rfl rfl ?_
  refine Sh.aload_n d8_18 rfl rfl ?_
  refine Sh.getfield hw (i := 21) (j := 2) rfl d8_19 rfl rfl ?_
  refine Sh.iconst d8_22 (x := 2) rfl ?_
  refine Sh.iload_n d8_23 rfl ?_
  refine Sh.imulE (z := 2) d8_24 (by decide) ?_
  refine Sh.iconst d8_25 (x := 1) rfl ?_
  refine Sh.iaddE (z := 3) d8_26 (by decide) ?_
  refine Sh.laload (jn := 3) d8_27 rfl (by decide) rfl rfl ?_
  refine Sh.lcmp_lt d8_28 d8_29 (pc' := 38) rfl (by decide) (fun h29 => ?_) (fun h29 => ?_)
  · rw [Int64.lt_iff_toInt_lt] at h29
    refine Sh.iconst d8_38 (x := 2) rfl ?_
    refine Sh.iload_n d8_39 rfl ?_
    refine Sh.imulE (z := 2) d8_40 (by decide) ?_
    refine Sh.iconst d8_41 (x := 1) rfl ?_
    refine Sh.iaddE (z := 3) d8_42 (by decide) ?_
    refine Sh.istore_n d8_43 (Sh.s1_1 rfl rfl) ?_
    refine Sh.goto d8_44 (pc' := 2) rfl (by decide) ?_
    refine Sh.iload_n d8_2 rfl ?_
    refine Sh.aload_n d8_3 rfl rfl ?_
    refine Sh.getfield hw (i := 16) (j := 0) rfl d8_4 rfl rfl ?_
    refine Sh.icmpT d8_7 (pc' := 47) rfl (by decide) (by decide) ?_
    refine Sh.iload_n d8_47 rfl ?_
    refine Sh.aload_n d8_48 rfl rfl ?_
    refine Sh.getfield hw (i := 16) (j := 0) rfl d8_49 rfl rfl ?_
    refine Sh.isubE (z := 1) d8_52 (by decide) ?_
    refine Sh.retI d8_53 rfl (Sh.le rfl) (Sh.le rfl) ?_
    refine ⟨⟨1, rfl, by decide, fun i h => ?_⟩, rfl⟩
    obtain rfl | rfl : i = 0 ∨ i = 1 := by omega
    · omega
    · omega
  · rw [Int64.lt_iff_toInt_lt] at h29
    refine Sh.iconst d8_32 (x := 2) rfl ?_
    refine Sh.iload_n d8_33 rfl ?_
    refine Sh.imulE (z := 2) d8_34 (by decide) ?_
    refine Sh.goto d8_35 (pc' := 43) rfl (by decide) ?_
    refine Sh.istore_n d8_43 (Sh.s1_1 rfl rfl) ?_
    refine Sh.goto d8_44 (pc' := 2) rfl (by decide) ?_
    refine Sh.iload_n d8_2 rfl ?_
    refine Sh.aload_n d8_3 rfl rfl ?_
    refine Sh.getfield hw (i := 16) (j := 0) rfl d8_4 rfl rfl ?_
    refine Sh.icmpT d8_7 (pc' := 47) rfl (by decide) (by decide) ?_
    refine Sh.iload_n d8_47 rfl ?_
    refine Sh.aload_n d8_48 rfl rfl ?_
    refine Sh.getfield hw (i := 16) (j := 0) rfl d8_49 rfl rfl ?_
    refine Sh.isubE (z := 0) d8_52 (by decide) ?_
    refine Sh.retI d8_53 rfl (Sh.le rfl) (Sh.le rfl) ?_
    refine ⟨⟨0, rfl, by decide, fun i h => ?_⟩, rfl⟩
    obtain rfl | rfl : i = 0 ∨ i = 1 := by omega
    · omega
    · omega
theorem first_4 (hw : HW Z a0) (V : Nat → Int) (c1 c2 : Sh.SC) (hT : T4 V c1 c2) : Sh.Meth l Z a0 n0 b8 R8 [.ref 0] (own_G 4 c1 c2) (fun v H' => (∃ r : Nat, v = some (.int (Int32.ofNat r)) ∧ r < 4 ∧ ∀ i, i < 4 → V i ≤ V r ∧ (i < r → V i < V r)) ∧ H' = own_G 4 c1 c2) := by
  obtain ⟨z, y, A1, A2, A3, A4, A5, A6, A7, M1, M2, M3, M4, M5, M6, M7, rfl, rfl, ⟨⟨x1, x2, x3, x4, x5, x6⟩, ⟨y1, y2, y3, y4, y5, y6⟩, j0, j1⟩, hV0, hV1, hV2, hV3⟩ := hT
  refine Sh.Meth.of pn8 (L := [.val (.ref 0), .unset]) rfl ?_
  refine Sh.iconst d8_0 (x := 1) rfl ?_
  refine Sh.istore_n d8_1 (Sh.s1_1 rfl rfl) ?_
  refine Sh.iload_n d8_2 rfl ?_
  refine Sh.aload_n d8_3 rfl rfl ?_
  refine Sh.getfield hw (i := 16) (j := 0) rfl d8_4 rfl rfl ?_
  refine Sh.icmpF d8_7 (by decide) ?_
  refine Sh.aload_n d8_10 rfl rfl ?_
  refine Sh.getfield hw (i := 21) (j := 2) rfl d8_11 rfl rfl ?_
  refine Sh.iconst d8_14 (x := 2) rfl ?_
  refine Sh.iload_n d8_15 rfl ?_
  refine Sh.imulE (z := 2) d8_16 (by decide) ?_
  refine Sh.laload (jn := 2) d8_17 rfl (by decide) rfl rfl ?_
  refine Sh.aload_n d8_18 rfl rfl ?_
  refine Sh.getfield hw (i := 21) (j := 2) rfl d8_19 rfl rfl ?_
  refine Sh.iconst d8_22 (x := 2) rfl ?_
  refine Sh.iload_n d8_23 rfl ?_
  refine Sh.imulE (z := 2) d8_24 (by decide) ?_
  refine Sh.iconst d8_25 (x := 1) rfl ?_
  refine Sh.iaddE (z := 3) d8_26 (by decide) ?_
  refine Sh.laload (jn := 3) d8_27 rfl (by decide) rfl rfl ?_
  refine Sh.lcmp_lt d8_28 d8_29 (pc' := 38) rfl (by decide) (fun h29 => ?_) (fun h29 => ?_)
  · rw [Int64.lt_iff_toInt_lt] at h29
    have g29 := h29
    clear h29
    refine Sh.iconst d8_38 (x := 2) rfl ?_
    refine Sh.iload_n d8_39 rfl ?_
    refine Sh.imulE (z := 2) d8_40 (by decide) ?_
    refine Sh.iconst d8_41 (x := 1) rfl ?_
    refine Sh.iaddE (z := 3) d8_42 (by decide) ?_
    refine Sh.istore_n d8_43 (Sh.s1_1 rfl rfl) ?_
    refine Sh.goto d8_44 (pc' := 2) rfl (by decide) ?_
    refine Sh.iload_n d8_2 rfl ?_
    refine Sh.aload_n d8_3 rfl rfl ?_
    refine Sh.getfield hw (i := 16) (j := 0) rfl d8_4 rfl rfl ?_
    refine Sh.icmpF d8_7 (by decide) ?_
    refine Sh.aload_n d8_10 rfl rfl ?_
    refine Sh.getfield hw (i := 21) (j := 2) rfl d8_11 rfl rfl ?_
    refine Sh.iconst d8_14 (x := 2) rfl ?_
    refine Sh.iload_n d8_15 rfl ?_
    refine Sh.imulE (z := 6) d8_16 (by decide) ?_
    refine Sh.laload (jn := 6) d8_17 rfl (by decide) rfl rfl ?_
    refine Sh.aload_n d8_18 rfl rfl ?_
    refine Sh.getfield hw (i := 21) (j := 2) rfl d8_19 rfl rfl ?_
    refine Sh.iconst d8_22 (x := 2) rfl ?_
    refine Sh.iload_n d8_23 rfl ?_
    refine Sh.imulE (z := 6) d8_24 (by decide) ?_
    refine Sh.iconst d8_25 (x := 1) rfl ?_
    refine Sh.iaddE (z := 7) d8_26 (by decide) ?_
    refine Sh.laload (jn := 7) d8_27 rfl (by decide) rfl rfl ?_
    refine Sh.lcmp_lt d8_28 d8_29 (pc' := 38) rfl (by decide) (fun h29 => ?_) (fun h29 => ?_)
    · rw [Int64.lt_iff_toInt_lt] at h29
      refine Sh.iconst d8_38 (x := 2) rfl ?_
      refine Sh.iload_n d8_39 rfl ?_
      refine Sh.imulE (z := 6) d8_40 (by decide) ?_
      refine Sh.iconst d8_41 (x := 1) rfl ?_
      refine Sh.iaddE (z := 7) d8_42 (by decide) ?_
      refine Sh.istore_n d8_43 (Sh.s1_1 rfl rfl) ?_
      refine Sh.goto d8_44 (pc' := 2) rfl (by decide) ?_
      refine Sh.iload_n d8_2 rfl ?_
      refine Sh.aload_n d8_3 rfl rfl ?_
      refine Sh.getfield hw (i := 16) (j := 0) rfl d8_4 rfl rfl ?_
      refine Sh.icmpT d8_7 (pc' := 47) rfl (by decide) (by decide) ?_
      refine Sh.iload_n d8_47 rfl ?_
      refine Sh.aload_n d8_48 rfl rfl ?_
      refine Sh.getfield hw (i := 16) (j := 0) rfl d8_49 rfl rfl ?_
      refine Sh.isubE (z := 3) d8_52 (by decide) ?_
      refine Sh.retI d8_53 rfl (Sh.le rfl) (Sh.le rfl) ?_
      refine ⟨⟨3, rfl, by decide, fun i h => ?_⟩, rfl⟩
      obtain rfl | rfl | rfl | rfl : i = 0 ∨ i = 1 ∨ i = 2 ∨ i = 3 := by omega
      · omega
      · omega
      · omega
      · omega
    · rw [Int64.lt_iff_toInt_lt] at h29
      refine Sh.iconst d8_32 (x := 2) rfl ?_
      refine Sh.iload_n d8_33 rfl ?_
      refine Sh.imulE (z := 6) d8_34 (by decide) ?_
      refine Sh.goto d8_35 (pc' := 43) rfl (by decide) ?_
      refine Sh.istore_n d8_43 (Sh.s1_1 rfl rfl) ?_
      refine Sh.goto d8_44 (pc' := 2) rfl (by decide) ?_
      refine Sh.iload_n d8_2 rfl ?_
      refine Sh.aload_n d8_3 rfl rfl ?_
      refine Sh.getfield hw (i := 16) (j := 0) rfl d8_4 rfl rfl ?_
      refine Sh.icmpT d8_7 (pc' := 47) rfl (by decide) (by decide) ?_
      refine Sh.iload_n d8_47 rfl ?_
      refine Sh.aload_n d8_48 rfl rfl ?_
      refine Sh.getfield hw (i := 16) (j := 0) rfl d8_49 rfl rfl ?_
      refine Sh.isubE (z := 2) d8_52 (by decide) ?_
      refine Sh.retI d8_53 rfl (Sh.le rfl) (Sh.le rfl) ?_
      refine ⟨⟨2, rfl, by decide, fun i h => ?_⟩, rfl⟩
      obtain rfl | rfl | rfl | rfl : i = 0 ∨ i = 1 ∨ i = 2 ∨ i = 3 := by omega
      · omega
      · omega
      · omega
      · omega
  · rw [Int64.lt_iff_toInt_lt] at h29
    have g29 := h29
    clear h29
    refine Sh.iconst d8_32 (x := 2) rfl ?_
    refine Sh.iload_n d8_33 rfl ?_
    refine Sh.imulE (z := 2) d8_34 (by decide) ?_
    refine Sh.goto d8_35 (pc' := 43) rfl (by decide) ?_
    refine Sh.istore_n d8_43 (Sh.s1_1 rfl rfl) ?_
    refine Sh.goto d8_44 (pc' := 2) rfl (by decide) ?_
    refine Sh.iload_n d8_2 rfl ?_
    refine Sh.aload_n d8_3 rfl rfl ?_
    refine Sh.getfield hw (i := 16) (j := 0) rfl d8_4 rfl rfl ?_
    refine Sh.icmpF d8_7 (by decide) ?_
    refine Sh.aload_n d8_10 rfl rfl ?_
    refine Sh.getfield hw (i := 21) (j := 2) rfl d8_11 rfl rfl ?_
    refine Sh.iconst d8_14 (x := 2) rfl ?_
    refine Sh.iload_n d8_15 rfl ?_
    refine Sh.imulE (z := 4) d8_16 (by decide) ?_
    refine Sh.laload (jn := 4) d8_17 rfl (by decide) rfl rfl ?_
    refine Sh.aload_n d8_18 rfl rfl ?_
    refine Sh.getfield hw (i := 21) (j := 2) rfl d8_19 rfl rfl ?_
    refine Sh.iconst d8_22 (x := 2) rfl ?_
    refine Sh.iload_n d8_23 rfl ?_
    refine Sh.imulE (z := 4) d8_24 (by decide) ?_
    refine Sh.iconst d8_25 (x := 1) rfl ?_
    refine Sh.iaddE (z := 5) d8_26 (by decide) ?_
    refine Sh.laload (jn := 5) d8_27 rfl (by decide) rfl rfl ?_
    refine Sh.lcmp_lt d8_28 d8_29 (pc' := 38) rfl (by decide) (fun h29 => ?_) (fun h29 => ?_)
    · rw [Int64.lt_iff_toInt_lt] at h29
      refine Sh.iconst d8_38 (x := 2) rfl ?_
      refine Sh.iload_n d8_39 rfl ?_
      refine Sh.imulE (z := 4) d8_40 (by decide) ?_
      refine Sh.iconst d8_41 (x := 1) rfl ?_
      refine Sh.iaddE (z := 5) d8_42 (by decide) ?_
      refine Sh.istore_n d8_43 (Sh.s1_1 rfl rfl) ?_
      refine Sh.goto d8_44 (pc' := 2) rfl (by decide) ?_
      refine Sh.iload_n d8_2 rfl ?_
      refine Sh.aload_n d8_3 rfl rfl ?_
      refine Sh.getfield hw (i := 16) (j := 0) rfl d8_4 rfl rfl ?_
      refine Sh.icmpT d8_7 (pc' := 47) rfl (by decide) (by decide) ?_
      refine Sh.iload_n d8_47 rfl ?_
      refine Sh.aload_n d8_48 rfl rfl ?_
      refine Sh.getfield hw (i := 16) (j := 0) rfl d8_49 rfl rfl ?_
      refine Sh.isubE (z := 1) d8_52 (by decide) ?_
      refine Sh.retI d8_53 rfl (Sh.le rfl) (Sh.le rfl) ?_
      refine ⟨⟨1, rfl, by decide, fun i h => ?_⟩, rfl⟩
      obtain rfl | rfl | rfl | rfl : i = 0 ∨ i = 1 ∨ i = 2 ∨ i = 3 := by omega
      · omega
      · omega
      · omega
      · omega
    · rw [Int64.lt_iff_toInt_lt] at h29
      refine Sh.iconst d8_32 (x := 2) rfl ?_
      refine Sh.iload_n d8_33 rfl ?_
      refine Sh.imulE (z := 4) d8_34 (by decide) ?_
      refine Sh.goto d8_35 (pc' := 43) rfl (by decide) ?_
      refine Sh.istore_n d8_43 (Sh.s1_1 rfl rfl) ?_
      refine Sh.goto d8_44 (pc' := 2) rfl (by decide) ?_
      refine Sh.iload_n d8_2 rfl ?_
      refine Sh.aload_n d8_3 rfl rfl ?_
      refine Sh.getfield hw (i := 16) (j := 0) rfl d8_4 rfl rfl ?_
      refine Sh.icmpT d8_7 (pc' := 47) rfl (by decide) (by decide) ?_
      refine Sh.iload_n d8_47 rfl ?_
      refine Sh.aload_n d8_48 rfl rfl ?_
      refine Sh.getfield hw (i := 16) (j := 0) rfl d8_49 rfl rfl ?_
      refine Sh.isubE (z := 0) d8_52 (by decide) ?_
      refine Sh.retI d8_53 rfl (Sh.le rfl) (Sh.le rfl) ?_
      refine ⟨⟨0, rfl, by decide, fun i h => ?_⟩, rfl⟩
      obtain rfl | rfl | rfl | rfl : i = 0 ∨ i = 1 ∨ i = 2 ∨ i = 3 := by omega
      · omega
      · omega
      · omega
      · omega
def own_W (lo1 hi1 lo2 hi2 lo3 hi3 : Nat) (q1 q2 q3 : Int64) (i : Nat) : Int := ((0 + own_d lo1 hi1 i q1) + own_d lo2 hi2 i q2) + own_d lo3 hi3 i q3
theorem own_arg (W : Nat → Int) (lv r j : Nat) (hlv : lv ≤ 4) (hr : r < lv) (hF : ∀ i, i < lv → W i ≤ W r ∧ (i < r → W i < W r)) (hz : ∀ i, lv ≤ i → W i = 0) (hnn : ∀ i, 0 ≤ W i) (hj : j < 4) (h0 : W 0 ≤ W j ∧ (0 < j → W 0 < W j)) (h1 : W 1 ≤ W j ∧ (1 < j → W 1 < W j)) (h2 : W 2 ≤ W j ∧ (2 < j → W 2 < W j)) (h3 : W 3 ≤ W j ∧ (3 < j → W 3 < W j)) : Int32.ofNat r = Int32.ofNat j := by
  have hP : W r ≤ W j ∧ (r < j → W r < W j) := by
    obtain rfl | rfl | rfl | rfl : r = 0 ∨ r = 1 ∨ r = 2 ∨ r = 3 := by omega
    · exact h0
    · exact h1
    · exact h2
    · exact h3
  have e : r = j := by
    rcases Nat.lt_trichotomy r j with h | h | h
    · have p := hP.2 h
      rcases Nat.lt_or_ge j lv with q | q
      · have := (hF j q).1
        omega
      · have := hz j q
        have := hnn r
        omega
    · exact h
    · have := (hF j (by omega)).2 h
      omega
  rw [e]
theorem bdy (hw : HW Z a0) (lv : Nat) (li : Int32) (T : (Nat → Int) → Sh.SC → Sh.SC → Prop) (hlv : lv ≤ 4)
    (hadd : ∀ (V : Nat → Int) (c1 c2 : Sh.SC) (lo hi : Nat) (q : Int64), lo < 100 → hi < 100 → 0 ≤ q.toInt → T V c1 c2 → (∀ i, i < lv → V i + q.toInt < 9223372036854775808) → Sh.Meth l Z a0 n0 b5 R5 [.ref 0, .int (Int32.ofNat lo), .int (Int32.ofNat hi), .long q] (own_G li c1 c2) (fun v H' => v = none ∧ ∃ c1' c2', H' = own_G li c1' c2' ∧ T (fun i => V i + own_d lo hi i q) c1' c2'))
    (hfirst : ∀ (V : Nat → Int) (c1 c2 : Sh.SC), T V c1 c2 → Sh.Meth l Z a0 n0 b8 R8 [.ref 0] (own_G li c1 c2) (fun v H' => (∃ r : Nat, v = some (.int (Int32.ofNat r)) ∧ r < lv ∧ ∀ i, i < lv → V i ≤ V r ∧ (i < r → V i < V r)) ∧ H' = own_G li c1 c2))
    (c1 c2 : Sh.SC) (hT : T (fun _ => 0) c1 c2) (a b c n : Int32) (p1 p2 p3 q1 q2 q3 : Int64) (f1 t1 f2 t2 f3 t3 lo1 hi1 lo2 hi2 lo3 hi3 : Nat) (l1 : lo1 < 100) (l2 : lo2 < 100) (l3 : lo3 < 100) (g1 : hi1 ≤ lv) (g2 : hi2 ≤ lv) (g3 : hi3 ≤ lv) (k1 : 0 ≤ q1.toInt ∧ q1.toInt < 2305843009213693952) (k2 : 0 ≤ q2.toInt ∧ q2.toInt < 2305843009213693952) (k3 : 0 ≤ q3.toInt ∧ q3.toInt < 2305843009213693952) :
    Sh.WP l Z a0 n0 b0 room_1 3 19 163 [.val (.int a), .val (.int b), .val (.int c), .val (.long p1), .second, .val (.long p2), .second, .val (.long p3), .second, .val (.int n), .val (.int (Int32.ofNat f1)), .val (.int (Int32.ofNat t1)), .val (.int (Int32.ofNat lo1)), .val (.int (Int32.ofNat hi1)), .val (.int (Int32.ofNat f2)), .val (.int (Int32.ofNat t2)), .val (.int (Int32.ofNat lo2)), .val (.int (Int32.ofNat hi2)), .val (.int (Int32.ofNat f3)), .val (.int (Int32.ofNat t3)), .val (.int (Int32.ofNat lo3)), .val (.int (Int32.ofNat hi3)), .val (.long q1), .second, .val (.long q2), .second, .val (.long q3), .second, .val (.ref 0), .unset, .unset, .unset, .unset, .unset, .unset, .unset, .unset, .unset, .unset, .unset] [] (own_G li c1 c2) (fun v _ => v = some (.int 1)) := by
  have d1 := fun i => own_dle lo1 hi1 i q1 k1.1
  have d2 := fun i => own_dle lo2 hi2 i q2 k2.1
  have d3 := fun i => own_dle lo3 hi3 i q3 k3.1
  refine Sh.aload at_163 rfl rfl ?_
  refine Sh.iload at_165 rfl ?_
  refine Sh.iload at_167 rfl ?_
  refine Sh.lload at_169 rfl ?_
  refine Sh.callV hw (i1 := 23) (i2 := 25) (i3 := 9) (i4 := 27) (i5 := 24) (i6 := 26) (k' := 3) (n' := 19) (B' := b5) (R' := R5) rfl rfl rfl rfl rfl rfl (by decide) rfl (hadd _ _ _ lo1 hi1 q1 l1 (by omega) k1.1 hT (fun i _ => by show (0 : Int) + q1.toInt < 9223372036854775808; skip; omega)) at_171 rfl rfl pd5 rfl (Sh.le rfl) (Sh.le rfl) (Sh.le rfl) (Sh.le rfl) rfl rfl ?_
  rintro _ _ ⟨rfl, e1, x1, rfl, hT1⟩
  refine Sh.aload at_174 rfl rfl ?_
  refine Sh.iload at_176 rfl ?_
  refine Sh.iload at_178 rfl ?_
  refine Sh.lload at_180 rfl ?_
  refine Sh.callV hw (i1 := 23) (i2 := 25) (i3 := 9) (i4 := 27) (i5 := 24) (i6 := 26) (k' := 3) (n' := 19) (B' := b5) (R' := R5) rfl rfl rfl rfl rfl rfl (by decide) rfl (hadd _ _ _ lo2 hi2 q2 l2 (by omega) k2.1 hT1 (fun i _ => by show ((0 : Int) + own_d lo1 hi1 i q1) + q2.toInt < 9223372036854775808; have := d1 i; omega)) at_182 rfl rfl pd5 rfl (Sh.le rfl) (Sh.le rfl) (Sh.le rfl) (Sh.le rfl) rfl rfl ?_
  rintro _ _ ⟨rfl, e2, x2, rfl, hT2⟩
  refine Sh.aload at_185 rfl rfl ?_
  refine Sh.iload at_187 rfl ?_
  refine Sh.iload at_189 rfl ?_
  refine Sh.lload at_191 rfl ?_
  refine Sh.callV hw (i1 := 23) (i2 := 25) (i3 := 9) (i4 := 27) (i5 := 24) (i6 := 26) (k' := 3) (n' := 19) (B' := b5) (R' := R5) rfl rfl rfl rfl rfl rfl (by decide) rfl (hadd _ _ _ lo3 hi3 q3 l3 (by omega) k3.1 hT2 (fun i _ => by show (((0 : Int) + own_d lo1 hi1 i q1) + own_d lo2 hi2 i q2) + q3.toInt < 9223372036854775808; have := d1 i; have := d2 i; omega)) at_193 rfl rfl pd5 rfl (Sh.le rfl) (Sh.le rfl) (Sh.le rfl) (Sh.le rfl) rfl rfl ?_
  rintro _ _ ⟨rfl, e3, x3, rfl, hT3⟩
  refine Sh.iconst at_196 (x := 0) rfl ?_
  refine Sh.iload at_197 rfl ?_
  refine Sh.iload at_199 rfl ?_
  refine Sh.lload at_201 rfl ?_
  refine Sh.callS hw (i1 := 33) (i2 := 34) (i3 := 35) (i4 := 36) (k' := 3) (n' := 19) (B' := b7) (R' := R7) rfl rfl rfl rfl (by decide) (cov l Z a0 n0 hw 0 lo1 hi1 q1 (by decide) l1 (by omega) _) at_203 rfl rfl pd7 rfl (Sh.le rfl) (Sh.le rfl) (Sh.le rfl) (Sh.le rfl) rfl rfl ?_
  rintro _ _ ⟨⟨y01, rfl, w01⟩, rfl⟩
  refine Sh.iconst at_206 (x := 0) rfl ?_
  refine Sh.iload at_207 rfl ?_
  refine Sh.iload at_209 rfl ?_
  refine Sh.lload at_211 rfl ?_
  refine Sh.callS hw (i1 := 33) (i2 := 34) (i3 := 35) (i4 := 36) (k' := 3) (n' := 19) (B' := b7) (R' := R7) rfl rfl rfl rfl (by decide) (cov l Z a0 n0 hw 0 lo2 hi2 q2 (by decide) l2 (by omega) _) at_213 rfl rfl pd7 rfl (Sh.le rfl) (Sh.le rfl) (Sh.le rfl) (Sh.le rfl) rfl rfl ?_
  rintro _ _ ⟨⟨y02, rfl, w02⟩, rfl⟩
  refine Sh.ladd at_216 ?_
  refine Sh.iconst at_217 (x := 0) rfl ?_
  refine Sh.iload at_218 rfl ?_
  refine Sh.iload at_220 rfl ?_
  refine Sh.lload at_222 rfl ?_
  refine Sh.callS hw (i1 := 33) (i2 := 34) (i3 := 35) (i4 := 36) (k' := 3) (n' := 19) (B' := b7) (R' := R7) rfl rfl rfl rfl (by decide) (cov l Z a0 n0 hw 0 lo3 hi3 q3 (by decide) l3 (by omega) _) at_224 rfl rfl pd7 rfl (Sh.le rfl) (Sh.le rfl) (Sh.le rfl) (Sh.le rfl) rfl rfl ?_
  rintro _ _ ⟨⟨y03, rfl, w03⟩, rfl⟩
  refine Sh.ladd at_227 ?_
  refine Sh.lstore at_228 (Sh.s2_29 rfl rfl rfl) ?_
  have m01 := d1 0
  have m02 := d2 0
  have m03 := d3 0
  have u0 := own_sum y01 y02 (by omega) (by omega)
  have v0 := own_sum (y01 + y02) y03 (by omega) (by omega)
  have z0 : (y01 + y02 + y03).toInt = (own_W lo1 hi1 lo2 hi2 lo3 hi3 q1 q2 q3) 0 := by rw [own_W]; omega
  generalize y01 + y02 + y03 = r0 at z0 ⊢
  clear u0
  refine Sh.iconst at_230 (x := 1) rfl ?_
  refine Sh.iload at_231 rfl ?_
  refine Sh.iload at_233 rfl ?_
  refine Sh.lload at_235 rfl ?_
  refine Sh.callS hw (i1 := 33) (i2 := 34) (i3 := 35) (i4 := 36) (k' := 3) (n' := 19) (B' := b7) (R' := R7) rfl rfl rfl rfl (by decide) (cov l Z a0 n0 hw 1 lo1 hi1 q1 (by decide) l1 (by omega) _) at_237 rfl rfl pd7 rfl (Sh.le rfl) (Sh.le rfl) (Sh.le rfl) (Sh.le rfl) rfl rfl ?_
  rintro _ _ ⟨⟨y11, rfl, w11⟩, rfl⟩
  refine Sh.iconst at_240 (x := 1) rfl ?_
  refine Sh.iload at_241 rfl ?_
  refine Sh.iload at_243 rfl ?_
  refine Sh.lload at_245 rfl ?_
  refine Sh.callS hw (i1 := 33) (i2 := 34) (i3 := 35) (i4 := 36) (k' := 3) (n' := 19) (B' := b7) (R' := R7) rfl rfl rfl rfl (by decide) (cov l Z a0 n0 hw 1 lo2 hi2 q2 (by decide) l2 (by omega) _) at_247 rfl rfl pd7 rfl (Sh.le rfl) (Sh.le rfl) (Sh.le rfl) (Sh.le rfl) rfl rfl ?_
  rintro _ _ ⟨⟨y12, rfl, w12⟩, rfl⟩
  refine Sh.ladd at_250 ?_
  refine Sh.iconst at_251 (x := 1) rfl ?_
  refine Sh.iload at_252 rfl ?_
  refine Sh.iload at_254 rfl ?_
  refine Sh.lload at_256 rfl ?_
  refine Sh.callS hw (i1 := 33) (i2 := 34) (i3 := 35) (i4 := 36) (k' := 3) (n' := 19) (B' := b7) (R' := R7) rfl rfl rfl rfl (by decide) (cov l Z a0 n0 hw 1 lo3 hi3 q3 (by decide) l3 (by omega) _) at_258 rfl rfl pd7 rfl (Sh.le rfl) (Sh.le rfl) (Sh.le rfl) (Sh.le rfl) rfl rfl ?_
  rintro _ _ ⟨⟨y13, rfl, w13⟩, rfl⟩
  refine Sh.ladd at_261 ?_
  refine Sh.lstore at_262 (Sh.s2_31 rfl rfl rfl) ?_
  have m11 := d1 1
  have m12 := d2 1
  have m13 := d3 1
  have u1 := own_sum y11 y12 (by omega) (by omega)
  have v1 := own_sum (y11 + y12) y13 (by omega) (by omega)
  have z1 : (y11 + y12 + y13).toInt = (own_W lo1 hi1 lo2 hi2 lo3 hi3 q1 q2 q3) 1 := by rw [own_W]; omega
  generalize y11 + y12 + y13 = r1 at z1 ⊢
  clear u1 v1
  refine Sh.iconst at_264 (x := 2) rfl ?_
  refine Sh.iload at_265 rfl ?_
  refine Sh.iload at_267 rfl ?_
  refine Sh.lload at_269 rfl ?_
  refine Sh.callS hw (i1 := 33) (i2 := 34) (i3 := 35) (i4 := 36) (k' := 3) (n' := 19) (B' := b7) (R' := R7) rfl rfl rfl rfl (by decide) (cov l Z a0 n0 hw 2 lo1 hi1 q1 (by decide) l1 (by omega) _) at_271 rfl rfl pd7 rfl (Sh.le rfl) (Sh.le rfl) (Sh.le rfl) (Sh.le rfl) rfl rfl ?_
  rintro _ _ ⟨⟨y21, rfl, w21⟩, rfl⟩
  refine Sh.iconst at_274 (x := 2) rfl ?_
  refine Sh.iload at_275 rfl ?_
  refine Sh.iload at_277 rfl ?_
  refine Sh.lload at_279 rfl ?_
  refine Sh.callS hw (i1 := 33) (i2 := 34) (i3 := 35) (i4 := 36) (k' := 3) (n' := 19) (B' := b7) (R' := R7) rfl rfl rfl rfl (by decide) (cov l Z a0 n0 hw 2 lo2 hi2 q2 (by decide) l2 (by omega) _) at_281 rfl rfl pd7 rfl (Sh.le rfl) (Sh.le rfl) (Sh.le rfl) (Sh.le rfl) rfl rfl ?_
  rintro _ _ ⟨⟨y22, rfl, w22⟩, rfl⟩
  refine Sh.ladd at_284 ?_
  refine Sh.iconst at_285 (x := 2) rfl ?_
  refine Sh.iload at_286 rfl ?_
  refine Sh.iload at_288 rfl ?_
  refine Sh.lload at_290 rfl ?_
  refine Sh.callS hw (i1 := 33) (i2 := 34) (i3 := 35) (i4 := 36) (k' := 3) (n' := 19) (B' := b7) (R' := R7) rfl rfl rfl rfl (by decide) (cov l Z a0 n0 hw 2 lo3 hi3 q3 (by decide) l3 (by omega) _) at_292 rfl rfl pd7 rfl (Sh.le rfl) (Sh.le rfl) (Sh.le rfl) (Sh.le rfl) rfl rfl ?_
  rintro _ _ ⟨⟨y23, rfl, w23⟩, rfl⟩
  refine Sh.ladd at_295 ?_
  refine Sh.lstore at_296 (Sh.s2_33 rfl rfl rfl) ?_
  have m21 := d1 2
  have m22 := d2 2
  have m23 := d3 2
  have u2 := own_sum y21 y22 (by omega) (by omega)
  have v2 := own_sum (y21 + y22) y23 (by omega) (by omega)
  have z2 : (y21 + y22 + y23).toInt = (own_W lo1 hi1 lo2 hi2 lo3 hi3 q1 q2 q3) 2 := by rw [own_W]; omega
  generalize y21 + y22 + y23 = r2 at z2 ⊢
  clear u2 v2
  refine Sh.iconst at_298 (x := 3) rfl ?_
  refine Sh.iload at_299 rfl ?_
  refine Sh.iload at_301 rfl ?_
  refine Sh.lload at_303 rfl ?_
  refine Sh.callS hw (i1 := 33) (i2 := 34) (i3 := 35) (i4 := 36) (k' := 3) (n' := 19) (B' := b7) (R' := R7) rfl rfl rfl rfl (by decide) (cov l Z a0 n0 hw 3 lo1 hi1 q1 (by decide) l1 (by omega) _) at_305 rfl rfl pd7 rfl (Sh.le rfl) (Sh.le rfl) (Sh.le rfl) (Sh.le rfl) rfl rfl ?_
  rintro _ _ ⟨⟨y31, rfl, w31⟩, rfl⟩
  refine Sh.iconst at_308 (x := 3) rfl ?_
  refine Sh.iload at_309 rfl ?_
  refine Sh.iload at_311 rfl ?_
  refine Sh.lload at_313 rfl ?_
  refine Sh.callS hw (i1 := 33) (i2 := 34) (i3 := 35) (i4 := 36) (k' := 3) (n' := 19) (B' := b7) (R' := R7) rfl rfl rfl rfl (by decide) (cov l Z a0 n0 hw 3 lo2 hi2 q2 (by decide) l2 (by omega) _) at_315 rfl rfl pd7 rfl (Sh.le rfl) (Sh.le rfl) (Sh.le rfl) (Sh.le rfl) rfl rfl ?_
  rintro _ _ ⟨⟨y32, rfl, w32⟩, rfl⟩
  refine Sh.ladd at_318 ?_
  refine Sh.iconst at_319 (x := 3) rfl ?_
  refine Sh.iload at_320 rfl ?_
  refine Sh.iload at_322 rfl ?_
  refine Sh.lload at_324 rfl ?_
  refine Sh.callS hw (i1 := 33) (i2 := 34) (i3 := 35) (i4 := 36) (k' := 3) (n' := 19) (B' := b7) (R' := R7) rfl rfl rfl rfl (by decide) (cov l Z a0 n0 hw 3 lo3 hi3 q3 (by decide) l3 (by omega) _) at_326 rfl rfl pd7 rfl (Sh.le rfl) (Sh.le rfl) (Sh.le rfl) (Sh.le rfl) rfl rfl ?_
  rintro _ _ ⟨⟨y33, rfl, w33⟩, rfl⟩
  refine Sh.ladd at_329 ?_
  refine Sh.lstore at_330 (Sh.s2_35 rfl rfl rfl) ?_
  have m31 := d1 3
  have m32 := d2 3
  have m33 := d3 3
  have u3 := own_sum y31 y32 (by omega) (by omega)
  have v3 := own_sum (y31 + y32) y33 (by omega) (by omega)
  have z3 : (y31 + y32 + y33).toInt = (own_W lo1 hi1 lo2 hi2 lo3 hi3 q1 q2 q3) 3 := by rw [own_W]; omega
  generalize y31 + y32 + y33 = r3 at z3 ⊢
  clear u3 v3
  have hz : ∀ i, lv ≤ i → (own_W lo1 hi1 lo2 hi2 lo3 hi3 q1 q2 q3) i = 0 := fun i h => by rw [own_W, own_d, own_d, own_d, if_neg (by omega), if_neg (by omega), if_neg (by omega)]; rfl
  have hnn : ∀ i, 0 ≤ (own_W lo1 hi1 lo2 hi2 lo3 hi3 q1 q2 q3) i := fun i => by rw [own_W]; have := d1 i; have := d2 i; have := d3 i; omega
  refine Sh.iconst at_332 (x := 0) rfl ?_
  refine Sh.istore at_333 (Sh.s1_37 rfl rfl) ?_
  refine Sh.lload at_335 rfl ?_
  refine Sh.lstore at_337 (Sh.s2_38 rfl rfl rfl) ?_
  refine Sh.lload at_339 rfl ?_
  refine Sh.lload at_341 rfl ?_
  refine Sh.lcmp_le at_343 at_344 (pc' := 354) rfl (by decide) (fun h344 => ?_) (fun h344 => ?_)
  · rw [Int64.lt_iff_toInt_lt] at h344
    refine Sh.lload at_354 rfl ?_
    refine Sh.lload at_356 rfl ?_
    refine Sh.lcmp_le at_358 at_359 (pc' := 369) rfl (by decide) (fun h359 => ?_) (fun h359 => ?_)
    · rw [Int64.lt_iff_toInt_lt] at h359
      refine Sh.lload at_369 rfl ?_
      refine Sh.lload at_371 rfl ?_
      refine Sh.lcmp_le at_373 at_374 (pc' := 384) rfl (by decide) (fun h374 => ?_) (fun h374 => ?_)
      · rw [Int64.lt_iff_toInt_lt] at h374
        refine Sh.aload at_384 rfl rfl ?_
        refine Sh.callV hw (i1 := 37) (i2 := 39) (i3 := 9) (i4 := 41) (i5 := 38) (i6 := 40) (k' := 3) (n' := 19) (B' := b8) (R' := R8) rfl rfl rfl rfl rfl rfl (by decide) rfl (hfirst _ _ _ hT3) at_386 rfl rfl pd8 rfl (Sh.le rfl) (Sh.le rfl) (Sh.le rfl) (Sh.le rfl) rfl rfl ?_
        rintro _ _ ⟨⟨r, rfl, hr, hF⟩, rfl⟩
        refine Sh.iload at_389 rfl ?_
        refine Sh.icmpF at_391 (fun z => z (own_arg (own_W lo1 hi1 lo2 hi2 lo3 hi3 q1 q2 q3) lv r 0 hlv hr hF hz hnn (by decide) (by omega) (by omega) (by omega) (by omega))) ?_
        refine Sh.iconst at_394 (x := 1) rfl ?_
        refine Sh.goto at_395 (pc' := 399) rfl (by decide) ?_
        refine Sh.retN at_399 rfl (by simp) rfl (Sh.le rfl) (Sh.le rfl) ?_
        rfl
      · rw [Int64.lt_iff_toInt_lt] at h374
        refine Sh.lload at_377 rfl ?_
        refine Sh.lstore at_379 (Sh.s2_38 rfl rfl rfl) ?_
        refine Sh.iconst at_381 (x := 3) rfl ?_
        refine Sh.istore at_382 (Sh.s1_37 rfl rfl) ?_
        refine Sh.aload at_384 rfl rfl ?_
        refine Sh.callV hw (i1 := 37) (i2 := 39) (i3 := 9) (i4 := 41) (i5 := 38) (i6 := 40) (k' := 3) (n' := 19) (B' := b8) (R' := R8) rfl rfl rfl rfl rfl rfl (by decide) rfl (hfirst _ _ _ hT3) at_386 rfl rfl pd8 rfl (Sh.le rfl) (Sh.le rfl) (Sh.le rfl) (Sh.le rfl) rfl rfl ?_
        rintro _ _ ⟨⟨r, rfl, hr, hF⟩, rfl⟩
        refine Sh.iload at_389 rfl ?_
        refine Sh.icmpF at_391 (fun z => z (own_arg (own_W lo1 hi1 lo2 hi2 lo3 hi3 q1 q2 q3) lv r 3 hlv hr hF hz hnn (by decide) (by omega) (by omega) (by omega) (by omega))) ?_
        refine Sh.iconst at_394 (x := 1) rfl ?_
        refine Sh.goto at_395 (pc' := 399) rfl (by decide) ?_
        refine Sh.retN at_399 rfl (by simp) rfl (Sh.le rfl) (Sh.le rfl) ?_
        rfl
    · rw [Int64.lt_iff_toInt_lt] at h359
      refine Sh.lload at_362 rfl ?_
      refine Sh.lstore at_364 (Sh.s2_38 rfl rfl rfl) ?_
      refine Sh.iconst at_366 (x := 2) rfl ?_
      refine Sh.istore at_367 (Sh.s1_37 rfl rfl) ?_
      refine Sh.lload at_369 rfl ?_
      refine Sh.lload at_371 rfl ?_
      refine Sh.lcmp_le at_373 at_374 (pc' := 384) rfl (by decide) (fun h374 => ?_) (fun h374 => ?_)
      · rw [Int64.lt_iff_toInt_lt] at h374
        refine Sh.aload at_384 rfl rfl ?_
        refine Sh.callV hw (i1 := 37) (i2 := 39) (i3 := 9) (i4 := 41) (i5 := 38) (i6 := 40) (k' := 3) (n' := 19) (B' := b8) (R' := R8) rfl rfl rfl rfl rfl rfl (by decide) rfl (hfirst _ _ _ hT3) at_386 rfl rfl pd8 rfl (Sh.le rfl) (Sh.le rfl) (Sh.le rfl) (Sh.le rfl) rfl rfl ?_
        rintro _ _ ⟨⟨r, rfl, hr, hF⟩, rfl⟩
        refine Sh.iload at_389 rfl ?_
        refine Sh.icmpF at_391 (fun z => z (own_arg (own_W lo1 hi1 lo2 hi2 lo3 hi3 q1 q2 q3) lv r 2 hlv hr hF hz hnn (by decide) (by omega) (by omega) (by omega) (by omega))) ?_
        refine Sh.iconst at_394 (x := 1) rfl ?_
        refine Sh.goto at_395 (pc' := 399) rfl (by decide) ?_
        refine Sh.retN at_399 rfl (by simp) rfl (Sh.le rfl) (Sh.le rfl) ?_
        rfl
      · rw [Int64.lt_iff_toInt_lt] at h374
        refine Sh.lload at_377 rfl ?_
        refine Sh.lstore at_379 (Sh.s2_38 rfl rfl rfl) ?_
        refine Sh.iconst at_381 (x := 3) rfl ?_
        refine Sh.istore at_382 (Sh.s1_37 rfl rfl) ?_
        refine Sh.aload at_384 rfl rfl ?_
        refine Sh.callV hw (i1 := 37) (i2 := 39) (i3 := 9) (i4 := 41) (i5 := 38) (i6 := 40) (k' := 3) (n' := 19) (B' := b8) (R' := R8) rfl rfl rfl rfl rfl rfl (by decide) rfl (hfirst _ _ _ hT3) at_386 rfl rfl pd8 rfl (Sh.le rfl) (Sh.le rfl) (Sh.le rfl) (Sh.le rfl) rfl rfl ?_
        rintro _ _ ⟨⟨r, rfl, hr, hF⟩, rfl⟩
        refine Sh.iload at_389 rfl ?_
        refine Sh.icmpF at_391 (fun z => z (own_arg (own_W lo1 hi1 lo2 hi2 lo3 hi3 q1 q2 q3) lv r 3 hlv hr hF hz hnn (by decide) (by omega) (by omega) (by omega) (by omega))) ?_
        refine Sh.iconst at_394 (x := 1) rfl ?_
        refine Sh.goto at_395 (pc' := 399) rfl (by decide) ?_
        refine Sh.retN at_399 rfl (by simp) rfl (Sh.le rfl) (Sh.le rfl) ?_
        rfl
  · rw [Int64.lt_iff_toInt_lt] at h344
    refine Sh.lload at_347 rfl ?_
    refine Sh.lstore at_349 (Sh.s2_38 rfl rfl rfl) ?_
    refine Sh.iconst at_351 (x := 1) rfl ?_
    refine Sh.istore at_352 (Sh.s1_37 rfl rfl) ?_
    refine Sh.lload at_354 rfl ?_
    refine Sh.lload at_356 rfl ?_
    refine Sh.lcmp_le at_358 at_359 (pc' := 369) rfl (by decide) (fun h359 => ?_) (fun h359 => ?_)
    · rw [Int64.lt_iff_toInt_lt] at h359
      refine Sh.lload at_369 rfl ?_
      refine Sh.lload at_371 rfl ?_
      refine Sh.lcmp_le at_373 at_374 (pc' := 384) rfl (by decide) (fun h374 => ?_) (fun h374 => ?_)
      · rw [Int64.lt_iff_toInt_lt] at h374
        refine Sh.aload at_384 rfl rfl ?_
        refine Sh.callV hw (i1 := 37) (i2 := 39) (i3 := 9) (i4 := 41) (i5 := 38) (i6 := 40) (k' := 3) (n' := 19) (B' := b8) (R' := R8) rfl rfl rfl rfl rfl rfl (by decide) rfl (hfirst _ _ _ hT3) at_386 rfl rfl pd8 rfl (Sh.le rfl) (Sh.le rfl) (Sh.le rfl) (Sh.le rfl) rfl rfl ?_
        rintro _ _ ⟨⟨r, rfl, hr, hF⟩, rfl⟩
        refine Sh.iload at_389 rfl ?_
        refine Sh.icmpF at_391 (fun z => z (own_arg (own_W lo1 hi1 lo2 hi2 lo3 hi3 q1 q2 q3) lv r 1 hlv hr hF hz hnn (by decide) (by omega) (by omega) (by omega) (by omega))) ?_
        refine Sh.iconst at_394 (x := 1) rfl ?_
        refine Sh.goto at_395 (pc' := 399) rfl (by decide) ?_
        refine Sh.retN at_399 rfl (by simp) rfl (Sh.le rfl) (Sh.le rfl) ?_
        rfl
      · rw [Int64.lt_iff_toInt_lt] at h374
        refine Sh.lload at_377 rfl ?_
        refine Sh.lstore at_379 (Sh.s2_38 rfl rfl rfl) ?_
        refine Sh.iconst at_381 (x := 3) rfl ?_
        refine Sh.istore at_382 (Sh.s1_37 rfl rfl) ?_
        refine Sh.aload at_384 rfl rfl ?_
        refine Sh.callV hw (i1 := 37) (i2 := 39) (i3 := 9) (i4 := 41) (i5 := 38) (i6 := 40) (k' := 3) (n' := 19) (B' := b8) (R' := R8) rfl rfl rfl rfl rfl rfl (by decide) rfl (hfirst _ _ _ hT3) at_386 rfl rfl pd8 rfl (Sh.le rfl) (Sh.le rfl) (Sh.le rfl) (Sh.le rfl) rfl rfl ?_
        rintro _ _ ⟨⟨r, rfl, hr, hF⟩, rfl⟩
        refine Sh.iload at_389 rfl ?_
        refine Sh.icmpF at_391 (fun z => z (own_arg (own_W lo1 hi1 lo2 hi2 lo3 hi3 q1 q2 q3) lv r 3 hlv hr hF hz hnn (by decide) (by omega) (by omega) (by omega) (by omega))) ?_
        refine Sh.iconst at_394 (x := 1) rfl ?_
        refine Sh.goto at_395 (pc' := 399) rfl (by decide) ?_
        refine Sh.retN at_399 rfl (by simp) rfl (Sh.le rfl) (Sh.le rfl) ?_
        rfl
    · rw [Int64.lt_iff_toInt_lt] at h359
      refine Sh.lload at_362 rfl ?_
      refine Sh.lstore at_364 (Sh.s2_38 rfl rfl rfl) ?_
      refine Sh.iconst at_366 (x := 2) rfl ?_
      refine Sh.istore at_367 (Sh.s1_37 rfl rfl) ?_
      refine Sh.lload at_369 rfl ?_
      refine Sh.lload at_371 rfl ?_
      refine Sh.lcmp_le at_373 at_374 (pc' := 384) rfl (by decide) (fun h374 => ?_) (fun h374 => ?_)
      · rw [Int64.lt_iff_toInt_lt] at h374
        refine Sh.aload at_384 rfl rfl ?_
        refine Sh.callV hw (i1 := 37) (i2 := 39) (i3 := 9) (i4 := 41) (i5 := 38) (i6 := 40) (k' := 3) (n' := 19) (B' := b8) (R' := R8) rfl rfl rfl rfl rfl rfl (by decide) rfl (hfirst _ _ _ hT3) at_386 rfl rfl pd8 rfl (Sh.le rfl) (Sh.le rfl) (Sh.le rfl) (Sh.le rfl) rfl rfl ?_
        rintro _ _ ⟨⟨r, rfl, hr, hF⟩, rfl⟩
        refine Sh.iload at_389 rfl ?_
        refine Sh.icmpF at_391 (fun z => z (own_arg (own_W lo1 hi1 lo2 hi2 lo3 hi3 q1 q2 q3) lv r 2 hlv hr hF hz hnn (by decide) (by omega) (by omega) (by omega) (by omega))) ?_
        refine Sh.iconst at_394 (x := 1) rfl ?_
        refine Sh.goto at_395 (pc' := 399) rfl (by decide) ?_
        refine Sh.retN at_399 rfl (by simp) rfl (Sh.le rfl) (Sh.le rfl) ?_
        rfl
      · rw [Int64.lt_iff_toInt_lt] at h374
        refine Sh.lload at_377 rfl ?_
        refine Sh.lstore at_379 (Sh.s2_38 rfl rfl rfl) ?_
        refine Sh.iconst at_381 (x := 3) rfl ?_
        refine Sh.istore at_382 (Sh.s1_37 rfl rfl) ?_
        refine Sh.aload at_384 rfl rfl ?_
        refine Sh.callV hw (i1 := 37) (i2 := 39) (i3 := 9) (i4 := 41) (i5 := 38) (i6 := 40) (k' := 3) (n' := 19) (B' := b8) (R' := R8) rfl rfl rfl rfl rfl rfl (by decide) rfl (hfirst _ _ _ hT3) at_386 rfl rfl pd8 rfl (Sh.le rfl) (Sh.le rfl) (Sh.le rfl) (Sh.le rfl) rfl rfl ?_
        rintro _ _ ⟨⟨r, rfl, hr, hF⟩, rfl⟩
        refine Sh.iload at_389 rfl ?_
        refine Sh.icmpF at_391 (fun z => z (own_arg (own_W lo1 hi1 lo2 hi2 lo3 hi3 q1 q2 q3) lv r 3 hlv hr hF hz hnn (by decide) (by omega) (by omega) (by omega) (by omega))) ?_
        refine Sh.iconst at_394 (x := 1) rfl ?_
        refine Sh.goto at_395 (pc' := 399) rfl (by decide) ?_
        refine Sh.retN at_399 rfl (by simp) rfl (Sh.le rfl) (Sh.le rfl) ?_
        rfl
theorem own_q (p : Int64) : 0 ≤ (XT.ushrL p 3).toInt ∧ (XT.ushrL p 3).toInt < 2305843009213693952 := by
  have e : (XT.ushrL p 3).toInt = (p.toInt % 18446744073709551616) / (2 ^ 3 : Nat) := c_lushr p 3 3 (by decide) (by decide)
  rw [e]
  omega
theorem law_ok (hw : HW Z a0) (a b c : Int32) (p1 p2 p3 : Int64) : Sh.Meth l Z a0 n0 b0 room_1 [.int a, .int b, .int c, .long p1, .long p2, .long p3] [] (fun v _ => v = some (.int 1)) := by
  refine Sh.Meth.of pn0 (L := [.val (.int a), .val (.int b), .val (.int c), .val (.long p1), .second, .val (.long p2), .second, .val (.long p3), .second, .unset, .unset, .unset, .unset, .unset, .unset, .unset, .unset, .unset, .unset, .unset, .unset, .unset, .unset, .unset, .unset, .unset, .unset, .unset, .unset, .unset, .unset, .unset, .unset, .unset, .unset, .unset, .unset, .unset, .unset, .unset]) rfl ?_
  obtain ⟨m, hm, em⟩ := Sh.maskNat a 3 2 (by decide) (by decide)
  have hm : m < 4 := hm
  obtain ⟨f1, hf1, ef1⟩ := Sh.remNat' (XT.ushr a 2 &&& 7) (Int32.ofNat (1 + m + 1)) (1 + m + 1) (c_and _ 7 (by decide)).1 (Sh.onToInt (by omega)) (by omega)
  obtain ⟨t1, ht1, et1⟩ := Sh.remNat' (XT.ushr a 5 &&& 7) (Int32.ofNat (1 + m + 1)) (1 + m + 1) (c_and _ 7 (by decide)).1 (Sh.onToInt (by omega)) (by omega)
  obtain ⟨f2, hf2, ef2⟩ := Sh.remNat' (b &&& 7) (Int32.ofNat (1 + m + 1)) (1 + m + 1) (c_and _ 7 (by decide)).1 (Sh.onToInt (by omega)) (by omega)
  obtain ⟨t2, ht2, et2⟩ := Sh.remNat' (XT.ushr b 3 &&& 7) (Int32.ofNat (1 + m + 1)) (1 + m + 1) (c_and _ 7 (by decide)).1 (Sh.onToInt (by omega)) (by omega)
  obtain ⟨f3, hf3, ef3⟩ := Sh.remNat' (c &&& 7) (Int32.ofNat (1 + m + 1)) (1 + m + 1) (c_and _ 7 (by decide)).1 (Sh.onToInt (by omega)) (by omega)
  obtain ⟨t3, ht3, et3⟩ := Sh.remNat' (XT.ushr c 3 &&& 7) (Int32.ofNat (1 + m + 1)) (1 + m + 1) (c_and _ 7 (by decide)).1 (Sh.onToInt (by omega)) (by omega)
  refine Sh.iconst at_0 (x := 1) rfl ?_
  refine Sh.iload_n at_1 rfl ?_
  refine Sh.iconst at_2 (x := 3) rfl ?_
  refine Sh.iand at_3 ?_
  rw [em]
  refine Sh.iaddE at_4 (Sh.onAdd 1 m) ?_
  refine Sh.istore at_5 (Sh.s1_9 rfl rfl) ?_
  refine Sh.iload_n at_7 rfl ?_
  refine Sh.iconst at_8 (x := 2) rfl ?_
  refine Sh.iushr at_9 ?_
  refine Sh.bipush at_10 (x := 7) rfl ?_
  refine Sh.iand at_12 ?_
  refine Sh.iload at_13 rfl ?_
  refine Sh.iconst at_15 (x := 1) rfl ?_
  refine Sh.iaddE at_16 (Sh.onSucc _) ?_
  refine Sh.irem at_17 (fun z => absurd ((Sh.onInj (b := 0) (by omega) (by omega)).mp z) (by omega)) ?_
  rw [ef1]
  refine Sh.istore at_18 (Sh.s1_10 rfl rfl) ?_
  refine Sh.iload_n at_20 rfl ?_
  refine Sh.iconst at_21 (x := 5) rfl ?_
  refine Sh.iushr at_22 ?_
  refine Sh.bipush at_23 (x := 7) rfl ?_
  refine Sh.iand at_25 ?_
  refine Sh.iload at_26 rfl ?_
  refine Sh.iconst at_28 (x := 1) rfl ?_
  refine Sh.iaddE at_29 (Sh.onSucc _) ?_
  refine Sh.irem at_30 (fun z => absurd ((Sh.onInj (b := 0) (by omega) (by omega)).mp z) (by omega)) ?_
  rw [et1]
  refine Sh.istore at_31 (Sh.s1_11 rfl rfl) ?_
  refine Sh.iload at_33 rfl ?_
  refine Sh.iload at_35 rfl ?_
  refine Sh.callS hw (i1 := 0) (i2 := 1) (i3 := 2) (i4 := 3) (k' := 0) (n' := 0) (B' := b1) (R' := R1) rfl rfl rfl rfl (by decide) (mmin l Z a0 n0 hw f1 t1 (by omega) (by omega) _) at_37 rfl rfl pd1 rfl (Sh.le rfl) (Sh.le rfl) (Sh.le rfl) (Sh.le rfl) rfl rfl ?_
  rintro _ _ ⟨rfl, rfl⟩
  refine Sh.istore at_40 (Sh.s1_12 rfl rfl) ?_
  refine Sh.iload at_42 rfl ?_
  refine Sh.iload at_44 rfl ?_
  refine Sh.callS hw (i1 := 4) (i2 := 5) (i3 := 2) (i4 := 6) (k' := 0) (n' := 0) (B' := b2) (R' := R2) rfl rfl rfl rfl (by decide) (mmax l Z a0 n0 hw f1 t1 (by omega) (by omega) _) at_46 rfl rfl pd2 rfl (Sh.le rfl) (Sh.le rfl) (Sh.le rfl) (Sh.le rfl) rfl rfl ?_
  rintro _ _ ⟨rfl, rfl⟩
  refine Sh.istore at_49 (Sh.s1_13 rfl rfl) ?_
  refine Sh.iload_n at_51 rfl ?_
  refine Sh.bipush at_52 (x := 7) rfl ?_
  refine Sh.iand at_54 ?_
  refine Sh.iload at_55 rfl ?_
  refine Sh.iconst at_57 (x := 1) rfl ?_
  refine Sh.iaddE at_58 (Sh.onSucc _) ?_
  refine Sh.irem at_59 (fun z => absurd ((Sh.onInj (b := 0) (by omega) (by omega)).mp z) (by omega)) ?_
  rw [ef2]
  refine Sh.istore at_60 (Sh.s1_14 rfl rfl) ?_
  refine Sh.iload_n at_62 rfl ?_
  refine Sh.iconst at_63 (x := 3) rfl ?_
  refine Sh.iushr at_64 ?_
  refine Sh.bipush at_65 (x := 7) rfl ?_
  refine Sh.iand at_67 ?_
  refine Sh.iload at_68 rfl ?_
  refine Sh.iconst at_70 (x := 1) rfl ?_
  refine Sh.iaddE at_71 (Sh.onSucc _) ?_
  refine Sh.irem at_72 (fun z => absurd ((Sh.onInj (b := 0) (by omega) (by omega)).mp z) (by omega)) ?_
  rw [et2]
  refine Sh.istore at_73 (Sh.s1_15 rfl rfl) ?_
  refine Sh.iload at_75 rfl ?_
  refine Sh.iload at_77 rfl ?_
  refine Sh.callS hw (i1 := 0) (i2 := 1) (i3 := 2) (i4 := 3) (k' := 0) (n' := 0) (B' := b1) (R' := R1) rfl rfl rfl rfl (by decide) (mmin l Z a0 n0 hw f2 t2 (by omega) (by omega) _) at_79 rfl rfl pd1 rfl (Sh.le rfl) (Sh.le rfl) (Sh.le rfl) (Sh.le rfl) rfl rfl ?_
  rintro _ _ ⟨rfl, rfl⟩
  refine Sh.istore at_82 (Sh.s1_16 rfl rfl) ?_
  refine Sh.iload at_84 rfl ?_
  refine Sh.iload at_86 rfl ?_
  refine Sh.callS hw (i1 := 4) (i2 := 5) (i3 := 2) (i4 := 6) (k' := 0) (n' := 0) (B' := b2) (R' := R2) rfl rfl rfl rfl (by decide) (mmax l Z a0 n0 hw f2 t2 (by omega) (by omega) _) at_88 rfl rfl pd2 rfl (Sh.le rfl) (Sh.le rfl) (Sh.le rfl) (Sh.le rfl) rfl rfl ?_
  rintro _ _ ⟨rfl, rfl⟩
  refine Sh.istore at_91 (Sh.s1_17 rfl rfl) ?_
  refine Sh.iload_n at_93 rfl ?_
  refine Sh.bipush at_94 (x := 7) rfl ?_
  refine Sh.iand at_96 ?_
  refine Sh.iload at_97 rfl ?_
  refine Sh.iconst at_99 (x := 1) rfl ?_
  refine Sh.iaddE at_100 (Sh.onSucc _) ?_
  refine Sh.irem at_101 (fun z => absurd ((Sh.onInj (b := 0) (by omega) (by omega)).mp z) (by omega)) ?_
  rw [ef3]
  refine Sh.istore at_102 (Sh.s1_18 rfl rfl) ?_
  refine Sh.iload_n at_104 rfl ?_
  refine Sh.iconst at_105 (x := 3) rfl ?_
  refine Sh.iushr at_106 ?_
  refine Sh.bipush at_107 (x := 7) rfl ?_
  refine Sh.iand at_109 ?_
  refine Sh.iload at_110 rfl ?_
  refine Sh.iconst at_112 (x := 1) rfl ?_
  refine Sh.iaddE at_113 (Sh.onSucc _) ?_
  refine Sh.irem at_114 (fun z => absurd ((Sh.onInj (b := 0) (by omega) (by omega)).mp z) (by omega)) ?_
  rw [et3]
  refine Sh.istore at_115 (Sh.s1_19 rfl rfl) ?_
  refine Sh.iload at_117 rfl ?_
  refine Sh.iload at_119 rfl ?_
  refine Sh.callS hw (i1 := 0) (i2 := 1) (i3 := 2) (i4 := 3) (k' := 0) (n' := 0) (B' := b1) (R' := R1) rfl rfl rfl rfl (by decide) (mmin l Z a0 n0 hw f3 t3 (by omega) (by omega) _) at_121 rfl rfl pd1 rfl (Sh.le rfl) (Sh.le rfl) (Sh.le rfl) (Sh.le rfl) rfl rfl ?_
  rintro _ _ ⟨rfl, rfl⟩
  refine Sh.istore at_124 (Sh.s1_20 rfl rfl) ?_
  refine Sh.iload at_126 rfl ?_
  refine Sh.iload at_128 rfl ?_
  refine Sh.callS hw (i1 := 4) (i2 := 5) (i3 := 2) (i4 := 6) (k' := 0) (n' := 0) (B' := b2) (R' := R2) rfl rfl rfl rfl (by decide) (mmax l Z a0 n0 hw f3 t3 (by omega) (by omega) _) at_130 rfl rfl pd2 rfl (Sh.le rfl) (Sh.le rfl) (Sh.le rfl) (Sh.le rfl) rfl rfl ?_
  rintro _ _ ⟨rfl, rfl⟩
  refine Sh.istore at_133 (Sh.s1_21 rfl rfl) ?_
  refine Sh.lload_n at_135 rfl ?_
  refine Sh.iconst at_136 (x := 3) rfl ?_
  refine Sh.lushr at_137 ?_
  refine Sh.lstore at_138 (Sh.s2_22 rfl rfl rfl) ?_
  refine Sh.lload at_140 rfl ?_
  refine Sh.iconst at_142 (x := 3) rfl ?_
  refine Sh.lushr at_143 ?_
  refine Sh.lstore at_144 (Sh.s2_24 rfl rfl rfl) ?_
  refine Sh.lload at_146 rfl ?_
  refine Sh.iconst at_148 (x := 3) rfl ?_
  refine Sh.lushr at_149 ?_
  refine Sh.lstore at_150 (Sh.s2_26 rfl rfl rfl) ?_
  have k1 := own_q p1
  generalize XT.ushrL p1 3 = q1 at k1 ⊢
  have k2 := own_q p2
  generalize XT.ushrL p2 3 = q2 at k2 ⊢
  have k3 := own_q p3
  generalize XT.ushrL p3 3 = q3 at k3 ⊢
  have a1 : min f1 t1 < 100 := by omega
  have g1 : max f1 t1 ≤ 1 + m := by omega
  generalize min f1 t1 = lo1 at a1 ⊢
  generalize max f1 t1 = hi1 at g1 ⊢
  have a2 : min f2 t2 < 100 := by omega
  have g2 : max f2 t2 ≤ 1 + m := by omega
  generalize min f2 t2 = lo2 at a2 ⊢
  generalize max f2 t2 = hi2 at g2 ⊢
  have a3 : min f3 t3 < 100 := by omega
  have g3 : max f3 t3 ≤ 1 + m := by omega
  generalize min f3 t3 = lo3 at a3 ⊢
  generalize max f3 t3 = hi3 at g3 ⊢
  match m, hm with
  | 0, _ =>
    refine Sh.newobj hw (i1 := 7) (i2 := 8) (i3 := 9) (k' := 1) (n' := 3) (a := 0) rfl rfl rfl at_152 fs_ProfitTree nd_ProfitTree (Sh.le rfl) (Sh.le rfl) rfl rfl rfl (Sh.ap_0) ?_
    refine Sh.dup at_155 rfl ?_
    refine Sh.iload at_156 rfl ?_
    refine Sh.callI hw (i1 := 10) (i2 := 11) (i3 := 9) (i4 := 12) (k' := 3) (n' := 19) (B' := b3) (R' := R3) rfl rfl rfl rfl rfl rfl (by decide) (ctor1 l Z a0 n0 hw _ _) at_158 rfl rfl pd3 rfl (Sh.le rfl) (Sh.le rfl) (Sh.le rfl) (Sh.le rfl) rfl rfl ?_
    rintro _ _ ⟨rfl, rfl⟩
    refine Sh.astore at_161 rfl (Sh.s1_28 rfl rfl) ?_
    exact bdy l Z a0 n0 hw 1 1 T1 (by decide) (add_1 l Z a0 n0 hw) (first_1 l Z a0 n0 hw) _ _ ⟨_, _, 0, 0, rfl, rfl, by decide, rfl, by decide⟩ a b c _ p1 p2 p3 q1 q2 q3 f1 t1 f2 t2 f3 t3 lo1 hi1 lo2 hi2 lo3 hi3 a1 a2 a3 (by omega) (by omega) (by omega) k1 k2 k3
  | 1, _ =>
    refine Sh.newobj hw (i1 := 7) (i2 := 8) (i3 := 9) (k' := 1) (n' := 3) (a := 0) rfl rfl rfl at_152 fs_ProfitTree nd_ProfitTree (Sh.le rfl) (Sh.le rfl) rfl rfl rfl (Sh.ap_0) ?_
    refine Sh.dup at_155 rfl ?_
    refine Sh.iload at_156 rfl ?_
    refine Sh.callI hw (i1 := 10) (i2 := 11) (i3 := 9) (i4 := 12) (k' := 3) (n' := 19) (B' := b3) (R' := R3) rfl rfl rfl rfl rfl rfl (by decide) (ctor2 l Z a0 n0 hw _ _) at_158 rfl rfl pd3 rfl (Sh.le rfl) (Sh.le rfl) (Sh.le rfl) (Sh.le rfl) rfl rfl ?_
    rintro _ _ ⟨rfl, rfl⟩
    refine Sh.astore at_161 rfl (Sh.s1_28 rfl rfl) ?_
    exact bdy l Z a0 n0 hw 2 2 T2 (by decide) (add_2 l Z a0 n0 hw) (first_2 l Z a0 n0 hw) _ _ ⟨_, _, 0, 0, 0, 0, 0, 0, rfl, rfl, by rw [own_I]; decide, by decide, by decide⟩ a b c _ p1 p2 p3 q1 q2 q3 f1 t1 f2 t2 f3 t3 lo1 hi1 lo2 hi2 lo3 hi3 a1 a2 a3 (by omega) (by omega) (by omega) k1 k2 k3
  | 2, _ =>
    refine Sh.newobj hw (i1 := 7) (i2 := 8) (i3 := 9) (k' := 1) (n' := 3) (a := 0) rfl rfl rfl at_152 fs_ProfitTree nd_ProfitTree (Sh.le rfl) (Sh.le rfl) rfl rfl rfl (Sh.ap_0) ?_
    refine Sh.dup at_155 rfl ?_
    refine Sh.iload at_156 rfl ?_
    refine Sh.callI hw (i1 := 10) (i2 := 11) (i3 := 9) (i4 := 12) (k' := 3) (n' := 19) (B' := b3) (R' := R3) rfl rfl rfl rfl rfl rfl (by decide) (ctor3 l Z a0 n0 hw _ _) at_158 rfl rfl pd3 rfl (Sh.le rfl) (Sh.le rfl) (Sh.le rfl) (Sh.le rfl) rfl rfl ?_
    rintro _ _ ⟨rfl, rfl⟩
    refine Sh.astore at_161 rfl (Sh.s1_28 rfl rfl) ?_
    exact bdy l Z a0 n0 hw 4 4 T4 (by decide) (add_4 l Z a0 n0 hw) (first_4 l Z a0 n0 hw) _ _ ⟨_, _, 0, 0, 0, 0, 0, 0, 0, 0, 0, 0, 0, 0, 0, 0, rfl, rfl, by rw [own_I]; decide, by decide, by decide, by decide, by decide⟩ a b c _ p1 p2 p3 q1 q2 q3 f1 t1 f2 t2 f3 t3 lo1 hi1 lo2 hi2 lo3 hi3 a1 a2 a3 (by omega) (by omega) (by omega) k1 k2 k3
  | 3, _ =>
    refine Sh.newobj hw (i1 := 7) (i2 := 8) (i3 := 9) (k' := 1) (n' := 3) (a := 0) rfl rfl rfl at_152 fs_ProfitTree nd_ProfitTree (Sh.le rfl) (Sh.le rfl) rfl rfl rfl (Sh.ap_0) ?_
    refine Sh.dup at_155 rfl ?_
    refine Sh.iload at_156 rfl ?_
    refine Sh.callI hw (i1 := 10) (i2 := 11) (i3 := 9) (i4 := 12) (k' := 3) (n' := 19) (B' := b3) (R' := R3) rfl rfl rfl rfl rfl rfl (by decide) (ctor4 l Z a0 n0 hw _ _) at_158 rfl rfl pd3 rfl (Sh.le rfl) (Sh.le rfl) (Sh.le rfl) (Sh.le rfl) rfl rfl ?_
    rintro _ _ ⟨rfl, rfl⟩
    refine Sh.astore at_161 rfl (Sh.s1_28 rfl rfl) ?_
    exact bdy l Z a0 n0 hw 4 4 T4 (by decide) (add_4 l Z a0 n0 hw) (first_4 l Z a0 n0 hw) _ _ ⟨_, _, 0, 0, 0, 0, 0, 0, 0, 0, 0, 0, 0, 0, 0, 0, rfl, rfl, by rw [own_I]; decide, by decide, by decide, by decide, by decide⟩ a b c _ p1 p2 p3 q1 q2 q3 f1 t1 f2 t2 f3 t3 lo1 hi1 lo2 hi2 lo3 hi3 a1 a2 a3 (by omega) (by omega) (by omega) k1 k2 k3
end
set_option maxRecDepth 65536 in
set_option maxHeartbeats 40000000 in
theorem comes_1 {Post : Tables → Env → Array Value → State → Outcome → State → Prop} (hpost : ∀ tb e args s v u, (limb_1_1.after args s (.returned v) u = true ∧ limb_1_2.after args s (.returned v) u = true ∧ True) → FrameEnd s (.returned v) u (Jvm.fieldLocs frame_1_writes args s ++ Jvm.arrayLocs frame_1_arrays args s ++ Jvm.staticLocs frame_1_statics s) 16 128 → Post tb e args s (.returned v) u) :
    ArmFor flags0 classFile x code maxLocals ret World_1 tables_1 room_1 Calls_1 rest_1 Pre_1 Post := by
  intro l hfl _ _ p e ha hc hk s m args below hf hA hF happ hP
  obtain ⟨hcalls, hrest, hpre⟩ := hP
  obtain ⟨-, -, -, -, -, -, -, hat⟩ := (Spec.applies_iff hf).mp happ
  obtain ⟨hg, hn⟩ := and_e (Cond.before_iff.mp (show (Jvm.Cond.and given_1 narrow_1).before args s = true from hpre))
  obtain ⟨h1, h2⟩ := and_e hg
  obtain ⟨w0, w1, w2, w3, w4, w5, rfl⟩ : ∃ w0 w1 w2 w3 w4 w5 : Value, args = #[w0, w1, w2, w3, w4, w5] := by
    have hs : args.size = 6 := by simpa [Cond.value, given_1] using h1
    obtain ⟨L⟩ := args
    match L, hs with
    | [w0, w1, w2, w3, w4, w5], _ => exact ⟨w0, w1, w2, w3, w4, w5, rfl⟩
  have hw := fun d (hd : d ∈ tables_1) => atoms_spec (ws := Jvm.Cond.code x code maxLocals ret :: tables_1) hat d (List.mem_cons_of_mem _ hd)
  obtain ⟨g0, q0⟩ := and_e h2
  obtain ⟨i0, e0⟩ := is_v g0
  obtain rfl : w0 = (.int i0) := Option.some.inj e0
  obtain ⟨g1, q1⟩ := and_e q0
  obtain ⟨i1, e1⟩ := is_v g1
  obtain rfl : w1 = (.int i1) := Option.some.inj e1
  obtain ⟨g2, q2⟩ := and_e q1
  obtain ⟨i2, e2⟩ := is_v g2
  obtain rfl : w2 = (.int i2) := Option.some.inj e2
  obtain ⟨g3, q3⟩ := and_e q2
  obtain ⟨i3, e3⟩ := isL_v g3
  obtain rfl : w3 = (.long i3) := Option.some.inj e3
  obtain ⟨g4, q4⟩ := and_e q3
  obtain ⟨i4, e4⟩ := isL_v g4
  obtain rfl : w4 = (.long i4) := Option.some.inj e4
  obtain ⟨i5, e5⟩ := isL_v q4
  obtain rfl : w5 = (.long i5) := Option.some.inj e5
  have hM := law_ok l s _ s.heap.size hw i0 i1 i2 i3 i4 i5 s.heap tables_1 ⟨by simp, fun i c h => by simp at h⟩ p e ha hc hk s m _ below hf ((Spec.applies_iff_loose hf).mp happ).1 ⟨by simp [Sh.lf], State.Warmed39.refl s, rfl⟩ trivial
  obtain ⟨n, o, h1, h2, h3, _, L, rfl, ⟨v, H, rfl, rfl, hR, N⟩, hq⟩ := hM
  refine ⟨n, _, h1, h2, h3, hpost _ _ _ _ _ _ ⟨Cond.after_iff.mpr rfl, Cond.after_iff.mpr (eq_i res_at (Term.int_eval (1)) rfl), trivial⟩ ⟨hq.1, hq.2.1, (hq.2.2.sift fun y hy => Or.inr (N y hy)).mono (by decide) (by decide)⟩⟩
theorem main_1_1 : Claimed_1_1 := comes_1 fun _ _ _ _ _ _ h hF => ⟨h.1, hF⟩
theorem main_1_2 : Claimed_1_2 := comes_1 fun _ _ _ _ _ _ h hF => ⟨h.2.1, hF⟩
end Jvm.Pilot.@@N@@
namespace Jvm.Pilot.@@N@@
open Jvm Jvm.ClassFile Sem Op Lib Jvm.Free Jvm.Stand Jvm.Pilot.@@N@@.Jvm.D
/-! MADE BY PROGRAM (witnessworld.py) out of the Statement's table words and the real class files: 12 classes; the members and pool entries that the words name. The judged class is class 1, her method 1. -/
namespace start1
open Jvm.ClassFile
def u (s : String) : CpInfo := .utf8 (stringToUtf16 s)
/-- a pool by its gaps: so many unusable entries, then the entry; so many at the end -/
def gap : Nat → List CpInfo → List CpInfo
  | 0, r => r
  | n + 1, r => .unusable :: gap n r
def poolList (es : List (Nat × CpInfo)) (last : Nat) : List CpInfo := es.foldr (fun e r => gap e.1 (e.2 :: r)) (gap last [])
def pool (es : List (Nat × CpInfo)) (last : Nat) : Array CpInfo := ⟨poolList es last⟩
def fileOf (pool : Array CpInfo) (this : Nat) (attrs : Array Attribute := #[]) (ms : Array MethodInfo := #[]) (fl : Nat := 33) (sup : Nat := 0) (ifs : Array Nat := #[]) (fds : Array FieldInfo := #[]) : ClassFile where
  minorVersion := 0
  majorVersion := 65
  constantPool := pool
  accessFlags := fl
  thisClass := this
  superClass := sup
  interfaces := ifs
  fields := fds
  methods := ms
  attributes := attrs
def plain (name : String) (sup : Option ClassId) : Class where
  name := name
  kind := .ordinary
  loader := none
  accessFlags := 33
  super := sup
  interfaces := #[]
  cf := none
  fields := #[]
  methods := #[]
  instanceTypes := #[]
  staticTypes := #[]
  resolved := #[]
  callSites := []
  init := .initialized
  statics := none
  mirror := none

def pool0 : Array CpInfo := pool [(5, u "<init>"), (0, u "()V"), (1, .class_ 10), (1, u "java/lang/Object")] 113

def k0c0 : Code := { maxStack := 0, maxLocals := 1, code := object_method_1_code, exceptionTable := #[], attributes := #[] }
def k0m0 : Method := { name := "<init>", desc := "()V", sig := { parameters := [], returnType := none }, accessFlags := 1, code := some k0c0 }
/-- java/lang/Object -/
def k0 : Class := { plain "java/lang/Object" none with
  accessFlags := 33
  interfaces := #[]
  cf := some (fileOf pool0 8 #[] #[{ accessFlags := 1, nameIndex := 5, descriptorIndex := 6, attributes := #[] }] 33 0 #[] #[])
  fields := #[]
  methods := #[k0m0]
  instanceTypes := #[]
  staticTypes := #[]
  resolved := Array.replicate 124 none
  statics := none }

def pool1 : Array CpInfo := pool [(2, .class_ 4), (1, u "java/lang/Object"), (0, u "<init>"), (0, u "()V"), (0, .methodref 8 9), (0, .class_ 10), (0, .nameAndType 11 12), (0, u "java/lang/Math"), (0, u "min"), (0, u "(II)I"), (0, .methodref 8 14), (0, .nameAndType 15 12), (0, u "max"), (0, .class_ 17), (0, u "com/example/tideline/tideline/listrounding/ProfitTree"), (0, .methodref 16 19), (0, .nameAndType 5 20), (0, u "(I)V"), (0, .methodref 16 22), (0, .nameAndType 23 24), (0, u "add"), (0, u "(IIJ)V"), (0, .methodref 26 27), (0, .class_ 28), (0, .nameAndType 29 30), (0, u "com/example/tideline/tideline/listrounding/ProfitTreeFirstOfMostPinLaw"), (0, u "cover"), (0, u "(IIIJ)J"), (0, .methodref 16 32), (0, .nameAndType 33 34), (0, u "firstOfMost"), (0, u "()I"), (2, u "law"), (0, u "(IIIJJJ)Z")] 3

def k1m0 : Method := { name := "<init>", desc := "()V", sig := { parameters := [], returnType := none }, accessFlags := 1, code := none }
def k1c1 : Code := { maxStack := 7, maxLocals := 40, code := code, exceptionTable := #[], attributes := #[] }
def k1m1 : Method := { name := "law", desc := "(IIIJJJ)Z", sig := { parameters := [.int, .int, .int, .long, .long, .long], returnType := some .boolean }, accessFlags := 9, code := some k1c1 }
def k1c2 : Code := { maxStack := 2, maxLocals := 5, code := method_3_code, exceptionTable := #[], attributes := #[] }
def k1m2 : Method := { name := "cover", desc := "(IIIJ)J", sig := { parameters := [.int, .int, .int, .long], returnType := some .long }, accessFlags := 10, code := some k1c2 }
/-- com/example/tideline/tideline/listrounding/ProfitTreeFirstOfMostPinLaw -/
def k1 : Class := { plain "com/example/tideline/tideline/listrounding/ProfitTreeFirstOfMostPinLaw" (some 0) with
  accessFlags := 49
  interfaces := #[]
  cf := some (fileOf pool1 26 #[] #[{ accessFlags := 1, nameIndex := 5, descriptorIndex := 6, attributes := #[] }, { accessFlags := 9, nameIndex := 37, descriptorIndex := 38, attributes := #[] }, { accessFlags := 10, nameIndex := 29, descriptorIndex := 30, attributes := #[] }] 49 2 #[] #[])
  fields := #[]
  methods := #[k1m0, k1m1, k1m2]
  instanceTypes := #[]
  staticTypes := #[]
  resolved := Array.replicate 42 none
  statics := none }

def pool2 : Array CpInfo := pool [(1, .class_ 2), (0, u "java/lang/Math"), (1, .class_ 6), (1, u "java/lang/Object"), (0, u "<init>"), (0, u "()V"), (89, .class_ 100), (1, u "java/lang/Math$RandomNumberGeneratorHolder"), (20, u "(JJ)J"), (50, u "negativeZeroFloatBits"), (0, u "J"), (2, u "negativeZeroDoubleBits"), (21, u "max"), (2, u "min"), (43, u "$assertionsDisabled"), (0, u "Z"), (88, u "(II)I"), (2, u "twoToTheDoubleScaleDown"), (0, u "D"), (4, u "twoToTheDoubleScaleUp"), (9, u "E"), (3, u "PI"), (2, u "TAU"), (2, u "DEGREES_TO_RADIANS"), (0, u "RADIANS_TO_DEGREES")] 94

def k2m0 : Method := { name := "<init>", desc := "()V", sig := { parameters := [], returnType := none }, accessFlags := 2, code := none }
def k2c1 : Code := { maxStack := 2, maxLocals := 2, code := jdk_29_method_65_code, exceptionTable := #[], attributes := #[] }
def k2m1 : Method := { name := "max", desc := "(II)I", sig := { parameters := [.int, .int], returnType := some .int }, accessFlags := 9, code := some k2c1 }
def k2c2 : Code := { maxStack := 4, maxLocals := 4, code := jdk_29_method_66_code, exceptionTable := #[], attributes := #[] }
def k2m2 : Method := { name := "max", desc := "(JJ)J", sig := { parameters := [.long, .long], returnType := some .long }, accessFlags := 9, code := some k2c2 }
def k2c3 : Code := { maxStack := 2, maxLocals := 2, code := jdk_29_method_69_code, exceptionTable := #[], attributes := #[] }
def k2m3 : Method := { name := "min", desc := "(II)I", sig := { parameters := [.int, .int], returnType := some .int }, accessFlags := 9, code := some k2c3 }
/-- java/lang/Math -/
def k2 : Class := { plain "java/lang/Math" (some 0) with
  accessFlags := 49
  interfaces := #[]
  cf := some (fileOf pool2 1 #[.nestMembers #[98]] #[{ accessFlags := 2, nameIndex := 7, descriptorIndex := 8, attributes := #[] }, { accessFlags := 9, nameIndex := 198, descriptorIndex := 335, attributes := #[] }, { accessFlags := 9, nameIndex := 198, descriptorIndex := 121, attributes := #[] }, { accessFlags := 9, nameIndex := 201, descriptorIndex := 335, attributes := #[] }] 49 4 #[] #[{ accessFlags := 25, nameIndex := 354, descriptorIndex := 339, attributes := #[] }, { accessFlags := 25, nameIndex := 358, descriptorIndex := 339, attributes := #[] }, { accessFlags := 25, nameIndex := 361, descriptorIndex := 339, attributes := #[] }, { accessFlags := 26, nameIndex := 364, descriptorIndex := 339, attributes := #[] }, { accessFlags := 26, nameIndex := 365, descriptorIndex := 339, attributes := #[] }, { accessFlags := 26, nameIndex := 172, descriptorIndex := 173, attributes := #[] }, { accessFlags := 26, nameIndex := 176, descriptorIndex := 173, attributes := #[] }, { accessFlags := 8, nameIndex := 344, descriptorIndex := 339, attributes := #[] }, { accessFlags := 8, nameIndex := 338, descriptorIndex := 339, attributes := #[] }, { accessFlags := 4120, nameIndex := 245, descriptorIndex := 246, attributes := #[] }])
  fields := #[{ name := "E", type := .double, accessFlags := 25, slot := 0, constantValue := 0 }, { name := "PI", type := .double, accessFlags := 25, slot := 1, constantValue := 0 }, { name := "TAU", type := .double, accessFlags := 25, slot := 2, constantValue := 0 }, { name := "DEGREES_TO_RADIANS", type := .double, accessFlags := 26, slot := 3, constantValue := 0 }, { name := "RADIANS_TO_DEGREES", type := .double, accessFlags := 26, slot := 4, constantValue := 0 }, { name := "negativeZeroFloatBits", type := .long, accessFlags := 26, slot := 5, constantValue := 0 }, { name := "negativeZeroDoubleBits", type := .long, accessFlags := 26, slot := 6, constantValue := 0 }, { name := "twoToTheDoubleScaleUp", type := .double, accessFlags := 8, slot := 7, constantValue := 0 }, { name := "twoToTheDoubleScaleDown", type := .double, accessFlags := 8, slot := 8, constantValue := 0 }, { name := "$assertionsDisabled", type := .boolean, accessFlags := 4120, slot := 9, constantValue := 0 }]
  methods := #[k2m0, k2m1, k2m2, k2m3]
  instanceTypes := #[]
  staticTypes := #[.double, .double, .double, .double, .double, .long, .long, .double, .double, .boolean]
  resolved := Array.replicate 460 none
  statics := none }

def pool3 : Array CpInfo := pool [(1, .methodref 2 3), (0, .class_ 4), (0, .nameAndType 5 6), (0, u "java/lang/Object"), (0, u "<init>"), (0, u "()V"), (0, .fieldref 8 9), (0, .class_ 10), (0, .nameAndType 11 12), (0, u "com/example/tideline/tideline/listrounding/ProfitTree"), (0, u "leaves"), (0, u "I"), (0, .fieldref 8 14), (0, .nameAndType 15 16), (0, u "added"), (0, u "[J"), (0, .fieldref 8 18), (0, .nameAndType 19 16), (0, u "most"), (0, .methodref 8 21), (0, .nameAndType 22 23), (0, u "add"), (0, u "(IIIIIJJ)V"), (2, .long 9223372036854775807), (7, .methodref 35 36), (0, .class_ 37), (0, .nameAndType 38 39), (0, u "java/lang/Math"), (0, u "max"), (0, u "(JJ)J"), (0, u "(I)V"), (3, u "(IIJ)V"), (2, u "firstOfMost"), (0, u "()I")] 2

def k3c0 : Code := { maxStack := 3, maxLocals := 3, code := prog_30_method_1_code, exceptionTable := #[], attributes := #[] }
def k3m0 : Method := { name := "<init>", desc := "(I)V", sig := { parameters := [.int], returnType := none }, accessFlags := 0, code := some k3c0 }
def k3c1 : Code := { maxStack := 10, maxLocals := 5, code := prog_30_method_2_code, exceptionTable := #[], attributes := #[] }
def k3m1 : Method := { name := "add", desc := "(IIJ)V", sig := { parameters := [.int, .int, .long], returnType := none }, accessFlags := 0, code := some k3c1 }
def k3c2 : Code := { maxStack := 5, maxLocals := 2, code := prog_30_method_4_code, exceptionTable := #[], attributes := #[] }
def k3m2 : Method := { name := "firstOfMost", desc := "()I", sig := { parameters := [], returnType := some .int }, accessFlags := 0, code := some k3c2 }
def k3c3 : Code := { maxStack := 12, maxLocals := 11, code := prog_30_method_5_code, exceptionTable := #[], attributes := #[] }
def k3m3 : Method := { name := "add", desc := "(IIIIIJJ)V", sig := { parameters := [.int, .int, .int, .int, .int, .long, .long], returnType := none }, accessFlags := 2, code := some k3c3 }
/-- com/example/tideline/tideline/listrounding/ProfitTree -/
def k3 : Class := { plain "com/example/tideline/tideline/listrounding/ProfitTree" (some 0) with
  accessFlags := 48
  interfaces := #[]
  cf := some (fileOf pool3 8 #[] #[{ accessFlags := 0, nameIndex := 5, descriptorIndex := 40, attributes := #[] }, { accessFlags := 0, nameIndex := 22, descriptorIndex := 44, attributes := #[] }, { accessFlags := 0, nameIndex := 47, descriptorIndex := 48, attributes := #[] }, { accessFlags := 2, nameIndex := 22, descriptorIndex := 23, attributes := #[] }] 48 2 #[] #[{ accessFlags := 18, nameIndex := 11, descriptorIndex := 12, attributes := #[] }, { accessFlags := 18, nameIndex := 15, descriptorIndex := 16, attributes := #[] }, { accessFlags := 18, nameIndex := 19, descriptorIndex := 16, attributes := #[] }])
  fields := #[{ name := "leaves", type := .int, accessFlags := 18, slot := 0, constantValue := 0 }, { name := "added", type := (.array .long), accessFlags := 18, slot := 1, constantValue := 0 }, { name := "most", type := (.array .long), accessFlags := 18, slot := 2, constantValue := 0 }]
  methods := #[k3m0, k3m1, k3m2, k3m3]
  instanceTypes := #[.int, (.array .long), (.array .long)]
  staticTypes := #[]
  resolved := Array.replicate 51 none
  statics := none }

def pool4 : Array CpInfo := pool [(1, u "java/lang/Cloneable"), (0, .class_ 1), (0, u "java/lang/Object"), (0, .class_ 3)] 3

/-- java/lang/Cloneable -/
def k4 : Class := { plain "java/lang/Cloneable" (some 0) with
  accessFlags := 1537
  interfaces := #[]
  cf := some (fileOf pool4 2 #[] #[] 1537 4 #[] #[])
  fields := #[]
  methods := #[]
  instanceTypes := #[]
  staticTypes := #[]
  resolved := Array.replicate 8 none
  statics := none }

def pool5 : Array CpInfo := pool [(1, u "java/io/Serializable"), (0, .class_ 1), (0, u "java/lang/Object"), (0, .class_ 3)] 3

/-- java/io/Serializable -/
def k5 : Class := { plain "java/io/Serializable" (some 0) with
  accessFlags := 1537
  interfaces := #[]
  cf := some (fileOf pool5 2 #[] #[] 1537 4 #[] #[])
  fields := #[]
  methods := #[]
  instanceTypes := #[]
  staticTypes := #[]
  resolved := Array.replicate 8 none
  statics := none }

/-- the primitive byte -/
def k6 : Class := { plain "byte" none with kind := .primitive 'B', accessFlags := 0x411 }
/-- [B -/
def k7 : Class := { plain "[B" (some 0) with kind := .array 6 .byte, interfaces := #[4, 5], accessFlags := 1041 }

/-- the primitive int -/
def k8 : Class := { plain "int" none with kind := .primitive 'I', accessFlags := 0x411 }
/-- [I -/
def k9 : Class := { plain "[I" (some 0) with kind := .array 8 .int, interfaces := #[4, 5], accessFlags := 1041 }

/-- the primitive long -/
def k10 : Class := { plain "long" none with kind := .primitive 'J', accessFlags := 0x411 }
/-- [J -/
def k11 : Class := { plain "[J" (some 0) with kind := .array 10 .long, interfaces := #[4, 5], accessFlags := 1041 }

def heap : Heap := #[]
def classes : Array Class := #[k0, k1, k2, k3, k4, k5, k6, k7, k8, k9, k10, k11]
def interned : List (Array UInt16 × Addr) := []
def slotsUsed : Nat := 0
def theMethod : MethodId := ⟨1, 1⟩
def args0 : Array Value := #[.int 5, .int 5, .int 5, .long 5, .long 5, .long 5]
def aboutOver (below : List Frame) : State where
  vm := { classes := classes, interned := interned.toArray }
  heap := heap
  slotsUsed := slotsUsed
  threads := #[{ frames := .invoking theMethod args0 :: below }]
def below0 : List Frame := [.native { method := ⟨0, 0⟩, args := #[] }]
def about1 : State := aboutOver below0
def p0 : Program := .bare "" "" ""
def e0 : Env := launch0.env 0 0 0
theorem w_frames : about1.frames = Frame.invoking theMethod args0 :: below0 := rfl
set_option maxRecDepth 65536 in
theorem w_args : argsFit about1.vm theMethod args0 = true := by decide +kernel
set_option maxRecDepth 65536 in
theorem w_heap : heapFits about1 = true := by decide +kernel
set_option maxRecDepth 65536 in
theorem w_runnable : about1.curStatus? = some .runnable := by decide +kernel
set_option maxRecDepth 65536 in
theorem w_alone : about1.alone = true := by decide +kernel
set_option maxRecDepth 65536 in
theorem w_named : about1.methodNamed? x = some theMethod := by decide +kernel
set_option maxRecDepth 65536 in
theorem w_hears : about1.hears theMethod below0 = true := by decide +kernel
set_option maxRecDepth 65536 in
theorem w_ripe : about1.ripe theMethod args0 below0 = true := by decide +kernel
theorem w_running : about1.status = .running := rfl
set_option maxRecDepth 65536 in
theorem w_room : about1.hasRoom e0.platform room_1 = true :=
  launch0.hasRoom_least _ room_1 (by decide +kernel) (by decide +kernel) (by decide +kernel) (by decide +kernel) (by decide +kernel) (by decide +kernel)
theorem allAtoms_all (ts : List Jvm.Cond) (a : Array Jvm.Value) (st : Jvm.State) : (allAtoms ts).before a st = ts.all (fun c => c.before a st) := by
  induction ts with
  | nil => rfl
  | cons c t ih =>
    show (Jvm.Cond.and c (allAtoms t)).before a st = _
    rw [Jvm.Cond.before_and, ih, List.all_cons]
def words1 : List Jvm.Cond := Jvm.Cond.code x code maxLocals ret :: tables_1
/-- a 'code' word, met by the world's own term for the bytes: nothing is compared byte by byte -/
theorem code_word {y : MethodName} {bytes : ByteArray} {mx : Nat} {rt : Option FieldType} {a : Array Value} {s : State} {m : MethodId} {meth : Method} {c : Code} (h1 : s.methodNamed? y = some m) (h2 : s.vm.method? m = some meth) (h3 : meth.code = some c) (h4 : c.code = bytes)
    (h5 : (c.maxLocals == mx && c.exceptionTable.isEmpty && decide (c.maxStack ≤ mostOperands) && decide (meth.sig.returnType = rt) && !meth.locks && decide (parseMethodDescriptor y.desc = some meth.sig)) = true) : (Jvm.Cond.code y bytes mx rt).before a s = true := by
  simp only [Bool.and_eq_true, beq_iff_eq, Bool.not_eq_true', decide_eq_true_eq] at h5
  obtain ⟨⟨⟨⟨⟨g1, g2⟩, g3⟩, g4⟩, g5⟩, g6⟩ := h5
  simp [Cond.before, Cond.holds, Cond.value, h1, h2, h3, h4, g1, g2, g3, g4, g5, g6]
def isCode : Jvm.Cond → Bool
  | .code _ _ _ _ => true
  | _ => false
theorem all_split {L : List Jvm.Cond} {P : Jvm.Cond → Bool} (h1 : L.all (fun c => isCode c || P c) = true) (h2 : ∀ c ∈ L.filter isCode, P c = true) : L.all P = true := by
  refine List.all_eq_true.mpr fun c hc => ?_
  have h := List.all_eq_true.mp h1 c hc
  rcases Bool.eq_false_or_eq_true (isCode c) with hi | hi
  · exact h2 c (List.mem_filter.mpr ⟨hc, hi⟩)
  · simpa [hi] using h
set_option maxRecDepth 65536 in
theorem w_c0 : (Jvm.Cond.code x code maxLocals ret).before args0 about1 = true := code_word (m := ⟨1, 1⟩) (meth := k1m1) (c := k1c1) (by decide +kernel) rfl rfl rfl (by decide +kernel)
set_option maxRecDepth 65536 in
theorem w_c1 : (Jvm.Cond.code ({ cls := "java/lang/Math", name := "min", desc := "(II)I" } : Jvm.MethodName) jdk_29_method_69_code (2 : Nat) (Option.some Jvm.ClassFile.FieldType.int)).before args0 about1 = true := code_word (m := ⟨2, 3⟩) (meth := k2m3) (c := k2c3) (by decide +kernel) rfl rfl rfl (by decide +kernel)
set_option maxRecDepth 65536 in
theorem w_c2 : (Jvm.Cond.code ({ cls := "java/lang/Math", name := "max", desc := "(II)I" } : Jvm.MethodName) jdk_29_method_65_code (2 : Nat) (Option.some Jvm.ClassFile.FieldType.int)).before args0 about1 = true := code_word (m := ⟨2, 1⟩) (meth := k2m1) (c := k2c1) (by decide +kernel) rfl rfl rfl (by decide +kernel)
set_option maxRecDepth 65536 in
theorem w_c3 : (Jvm.Cond.code ({ cls := "com/example/tideline/tideline/listrounding/ProfitTree", name := "<init>", desc := "(I)V" } : Jvm.MethodName) prog_30_method_1_code (3 : Nat) (Option.none : Option Jvm.ClassFile.FieldType)).before args0 about1 = true := code_word (m := ⟨3, 0⟩) (meth := k3m0) (c := k3c0) (by decide +kernel) rfl rfl rfl (by decide +kernel)
set_option maxRecDepth 65536 in
theorem w_c4 : (Jvm.Cond.code ({ cls := "java/lang/Object", name := "<init>", desc := "()V" } : Jvm.MethodName) object_method_1_code (1 : Nat) (Option.none : Option Jvm.ClassFile.FieldType)).before args0 about1 = true := code_word (m := ⟨0, 0⟩) (meth := k0m0) (c := k0c0) (by decide +kernel) rfl rfl rfl (by decide +kernel)
set_option maxRecDepth 65536 in
theorem w_c5 : (Jvm.Cond.code ({ cls := "com/example/tideline/tideline/listrounding/ProfitTree", name := "add", desc := "(IIJ)V" } : Jvm.MethodName) prog_30_method_2_code (5 : Nat) (Option.none : Option Jvm.ClassFile.FieldType)).before args0 about1 = true := code_word (m := ⟨3, 1⟩) (meth := k3m1) (c := k3c1) (by decide +kernel) rfl rfl rfl (by decide +kernel)
set_option maxRecDepth 65536 in
theorem w_c6 : (Jvm.Cond.code ({ cls := "com/example/tideline/tideline/listrounding/ProfitTree", name := "add", desc := "(IIIIIJJ)V" } : Jvm.MethodName) prog_30_method_5_code (11 : Nat) (Option.none : Option Jvm.ClassFile.FieldType)).before args0 about1 = true := code_word (m := ⟨3, 3⟩) (meth := k3m3) (c := k3c3) (by decide +kernel) rfl rfl rfl (by decide +kernel)
set_option maxRecDepth 65536 in
theorem w_c7 : (Jvm.Cond.code ({ cls := "com/example/tideline/tideline/listrounding/ProfitTreeFirstOfMostPinLaw", name := "cover", desc := "(IIIJ)J" } : Jvm.MethodName) method_3_code (5 : Nat) (Option.some Jvm.ClassFile.FieldType.long)).before args0 about1 = true := code_word (m := ⟨1, 2⟩) (meth := k1m2) (c := k1c2) (by decide +kernel) rfl rfl rfl (by decide +kernel)
set_option maxRecDepth 65536 in
theorem w_c8 : (Jvm.Cond.code ({ cls := "com/example/tideline/tideline/listrounding/ProfitTree", name := "firstOfMost", desc := "()I" } : Jvm.MethodName) prog_30_method_4_code (2 : Nat) (Option.some Jvm.ClassFile.FieldType.int)).before args0 about1 = true := code_word (m := ⟨3, 2⟩) (meth := k3m2) (c := k3c2) (by decide +kernel) rfl rfl rfl (by decide +kernel)
set_option maxRecDepth 65536 in
theorem w_c9 : (Jvm.Cond.code ({ cls := "java/lang/Math", name := "max", desc := "(JJ)J" } : Jvm.MethodName) jdk_29_method_66_code (4 : Nat) (Option.some Jvm.ClassFile.FieldType.long)).before args0 about1 = true := code_word (m := ⟨2, 2⟩) (meth := k2m2) (c := k2c2) (by decide +kernel) rfl rfl rfl (by decide +kernel)
def codes1 : List Jvm.Cond := [Jvm.Cond.code x code maxLocals ret, Jvm.Cond.code ({ cls := "java/lang/Math", name := "min", desc := "(II)I" } : Jvm.MethodName) jdk_29_method_69_code (2 : Nat) (Option.some Jvm.ClassFile.FieldType.int), Jvm.Cond.code ({ cls := "java/lang/Math", name := "max", desc := "(II)I" } : Jvm.MethodName) jdk_29_method_65_code (2 : Nat) (Option.some Jvm.ClassFile.FieldType.int), Jvm.Cond.code ({ cls := "com/example/tideline/tideline/listrounding/ProfitTree", name := "<init>", desc := "(I)V" } : Jvm.MethodName) prog_30_method_1_code (3 : Nat) (Option.none : Option Jvm.ClassFile.FieldType), Jvm.Cond.code ({ cls := "java/lang/Object", name := "<init>", desc := "()V" } : Jvm.MethodName) object_method_1_code (1 : Nat) (Option.none : Option Jvm.ClassFile.FieldType), Jvm.Cond.code ({ cls := "com/example/tideline/tideline/listrounding/ProfitTree", name := "add", desc := "(IIJ)V" } : Jvm.MethodName) prog_30_method_2_code (5 : Nat) (Option.none : Option Jvm.ClassFile.FieldType), Jvm.Cond.code ({ cls := "com/example/tideline/tideline/listrounding/ProfitTree", name := "add", desc := "(IIIIIJJ)V" } : Jvm.MethodName) prog_30_method_5_code (11 : Nat) (Option.none : Option Jvm.ClassFile.FieldType), Jvm.Cond.code ({ cls := "com/example/tideline/tideline/listrounding/ProfitTreeFirstOfMostPinLaw", name := "cover", desc := "(IIIJ)J" } : Jvm.MethodName) method_3_code (5 : Nat) (Option.some Jvm.ClassFile.FieldType.long), Jvm.Cond.code ({ cls := "com/example/tideline/tideline/listrounding/ProfitTree", name := "firstOfMost", desc := "()I" } : Jvm.MethodName) prog_30_method_4_code (2 : Nat) (Option.some Jvm.ClassFile.FieldType.int), Jvm.Cond.code ({ cls := "java/lang/Math", name := "max", desc := "(JJ)J" } : Jvm.MethodName) jdk_29_method_66_code (4 : Nat) (Option.some Jvm.ClassFile.FieldType.long)]
set_option maxRecDepth 65536 in
theorem codes_eq : words1.filter isCode = codes1 := rfl
theorem w_codes : ∀ c ∈ words1.filter isCode, c.before args0 about1 = true := by
  rw [codes_eq]
  intro c hc
  simp only [codes1, List.mem_cons, List.not_mem_nil, or_false] at hc
  rcases hc with rfl | rfl | rfl | rfl | rfl | rfl | rfl | rfl | rfl | rfl
  · exact w_c0
  · exact w_c1
  · exact w_c2
  · exact w_c3
  · exact w_c4
  · exact w_c5
  · exact w_c6
  · exact w_c7
  · exact w_c8
  · exact w_c9
set_option maxRecDepth 65536 in
theorem w_t1 : (words1.take 24).all (fun c => isCode c || c.before args0 about1) = true := by decide +kernel
set_option maxRecDepth 65536 in
theorem w_t2 : (words1.drop 24).all (fun c => isCode c || c.before args0 about1) = true := by decide +kernel
theorem w_tables : (allAtoms (Jvm.Cond.code x code maxLocals ret :: tables_1)).before args0 about1 = true := by
  rw [allAtoms_all]
  show words1.all (fun c => c.before args0 about1) = true
  refine all_split ?_ w_codes
  rw [← List.take_append_drop 24 words1, List.all_append, w_t1, w_t2]
  rfl
set_option maxRecDepth 65536 in
theorem w_case : (Jvm.Cond.and given_1 narrow_1).before args0 about1 = true := by decide +kernel
theorem w_applies : (headSpec (Jvm.Cond.code x code maxLocals ret :: tables_1) room_1).applies x e0.platform about1 = true :=
  (Spec.applies_iff w_frames).mpr ⟨w_running, w_runnable, w_alone, w_named, w_hears, w_ripe, w_room, w_tables⟩
theorem atStart : AtStart classFile x code maxLocals ret World_1 tables_1 room_1 Calls_1 rest_1 Pre_1 launch0 p0 e0 about1 theMethod args0 below0 :=
  ⟨lists_1, trivial, launch0.admits_env _ _ _, launch0.least_env, fairChoices_fair.cas, fairChoices_fair.clock, w_frames, w_args, w_heap, w_applies, trivial, trivial, w_case⟩
end start1
theorem witness_1 : WitnessClaimed_1 := ⟨start1.p0, start1.e0, start1.about1, start1.theMethod, start1.args0, start1.below0, start1.atStart⟩
end Jvm.Pilot.@@N@@
