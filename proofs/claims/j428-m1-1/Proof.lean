import JvmDerived
import JvmDerived.Pilot.@@N@@Statement
import JvmDerived.Pilot.@@N@@Code
set_option linter.unusedVariables false
set_option linter.unusedSimpArgs false
namespace Jvm.Sh
open Jvm Jvm.ClassFile Sem Op Lib Jvm.Free Jvm.Stand Jvm.LawKit Jvm.RoadKit Bundle
/-! A shadow of what a law makes. A shadow heap H is the list of the cells made since the start: an object (its class, its fields' names, kinds and values) or an array (its component's kind, its values). A shadow reference i stands for the address n0 + i. -/
abbrev SC := (String × List (String × String × Value)) ⊕ (FieldType × List Value)
abbrev SH := List SC
def lf (n0 : Nat) : Value → Value
  | .ref i => .ref (n0 + i)
  | v => v
def lz (n0 : Nat) : Slot → Slot
  | .val v => .val (lf n0 v)
  | x => x
abbrev LL (n0 : Nat) (L : List Slot) : Array Slot := (L.map (lz n0)).toArray
theorem lf_cat (n0 : Nat) (v : Value) : (lf n0 v).category = v.category := by cases v <;> rfl
theorem lf_isRef (n0 : Nat) (v : Value) : (lf n0 v).isRef = v.isRef := by cases v <;> rfl
theorem LL_get {n0 k : Nat} {L : List Slot} {v : Value} (h : L[k]? = some (.val v)) : (LL n0 L)[k]? = some (.val (lf n0 v)) := by simp [h, lz]
/-- an object's or an array's cell, as the shadow says -/
def CellOk (Z : State) (a0 : Array Value) (n0 : Nat) (h : Heap) (a : Addr) : SC → Prop
  | .inl (C, fs) => Exa Z h a C ∧ (∃ k, (Cond.instantiable C k).before a0 Z = true) ∧ (fs.map (·.1)).Nodup ∧
      ∀ f ∈ fs, Laid Z a0 C C f.1 f.2.1 ∧ (∃ ty, parseFieldDescriptor f.2.1 = some ty) ∧ Fld Z h a C f.1 f.2.1 (lf n0 f.2.2)
  | .inr (ty, vs) => ∃ c : Cell, Arr Z h a c ty ∧ c.slots = (vs.map (lf n0)).toArray ∧ vs.length < 2 ^ 31
def Rep (Z : State) (a0 : Array Value) (n0 : Nat) (h : Heap) (H : SH) : Prop :=
  h.size = n0 + H.length ∧ ∀ i c, H[i]? = some c → CellOk Z a0 n0 h (n0 + i) c
theorem CellOk.ext {Z : State} {a0 : Array Value} {n0 : Nat} {h h' : Heap} {a : Addr} {c : SC} (E : Ext h h') (K : CellOk Z a0 n0 h a c) : CellOk Z a0 n0 h' a c := by
  rcases c with ⟨C, fs⟩ | ⟨ty, vs⟩
  · exact ⟨K.1.ext E, K.2.1, K.2.2.1, fun f hf => ⟨(K.2.2.2 f hf).1, (K.2.2.2 f hf).2.1, (K.2.2.2 f hf).2.2.ext E⟩⟩
  · obtain ⟨c, A, r⟩ := K
    exact ⟨c, A.ext E, r⟩
theorem CellOk.other {Z : State} {a0 : Array Value} {n0 : Nat} {h h' : Heap} {a b : Addr} {sl : Nat} {v : Value} {c : SC} (W : Wr h h' a sl v) (K : CellOk Z a0 n0 h b c) (hne : b ≠ a) : CellOk Z a0 n0 h' b c := by
  rcases c with ⟨C, fs⟩ | ⟨ty, vs⟩
  · exact ⟨K.1.wr W, K.2.1, K.2.2.1, fun f hf => ⟨(K.2.2.2 f hf).1, (K.2.2.2 f hf).2.1, (K.2.2.2 f hf).2.2.other W (Or.inl hne)⟩⟩
  · obtain ⟨c, A, r⟩ := K
    exact ⟨c, A.other W hne, r⟩
theorem Rep.set {Z : State} {a0 : Array Value} {n0 i : Nat} {h h' : Heap} {H : SH} {sl : Nat} {v : Value} {c : SC} (K : Rep Z a0 n0 h H) (W : Wr h h' (n0 + i) sl v) (hi : i < H.length) (hc : CellOk Z a0 n0 h' (n0 + i) c) : Rep Z a0 n0 h' (H.set i c) := by
  refine ⟨by rw [W.size, List.length_set]; exact K.1, fun j d hd => ?_⟩
  by_cases e : j = i
  · subst e
    rw [List.getElem?_set_self hi] at hd
    cases hd
    exact hc
  · rw [List.getElem?_set_ne (Ne.symm e)] at hd
    exact (K.2 j d hd).other W (fun q => e (Nat.add_left_cancel q))
theorem Rep.push {Z : State} {a0 : Array Value} {n0 : Nat} {h h' : Heap} {H : SH} {c : SC} (K : Rep Z a0 n0 h H) (E : Ext h h') (hs : h'.size = h.size + 1) (hc : CellOk Z a0 n0 h' h.size c) : Rep Z a0 n0 h' (H ++ [c]) := by
  refine ⟨by rw [hs, K.1, List.length_append]; simp; omega, fun j d hd => ?_⟩
  rcases Nat.lt_trichotomy j H.length with q | q | q
  · rw [List.getElem?_append_left q] at hd
    exact (K.2 j d hd).ext E
  · subst q
    simp at hd
    subst hd
    rw [← K.1]; exact hc
  · rw [List.getElem?_eq_none (by simp; omega)] at hd
    cases hd
abbrev Bdy := MethodName × ByteArray × Nat × Option FieldType
/-- From this place (pc, locals, stack, shadow heap; k cells and n slots made by this call so far) the method comes to its end and returns v over H' such that Q v H'. -/
def WP (l : Launch) (Z : State) (a0 : Array Value) (n0 : Nat) (B : Bdy) (R : Room) (k n pc : Nat) (L : List Slot) (S : List Value) (H : SH) (Q : Option Value → SH → Prop) : Prop :=
  ∀ (p : Program) (e : Env) (s : State) (m : MethodId) (args : Array Value) (below : List Frame) (meth : Method) (c : Code) (T : State) (locs : List Loc),
    Stand p l e R s m args below meth c T locs k n → p.tables.exec = Jvm.exec → c.code = B.2.1 → c.maxLocals = B.2.2.1 → meth.sig.returnType = B.2.2.2 → meth.locks = false → Z.Warmed39 s.vm →
    s.vm.findClass B.1.cls = some m.cls → meth.name = B.1.name → Fr n0 locs → Rep Z a0 n0 T.heap H →
    ∃ t o, Steps p.tables e below (T.setTop (mkF m pc (LL n0 L) (S.map (lf n0)))) t ∧ t.status = .running ∧ Ended t below o ∧
      ∃ v L', o = .returned (v.map (lf n0)) ∧ (∃ H', Q v H' ∧ Rep Z a0 n0 t.heap H') ∧ Fr n0 L' ∧ FrameEnd s o t L' R.cells R.slots
/-- The method, called with these (shadow) values over this shadow heap, returns v over H' such that Q v H'. -/
def Meth (l : Launch) (Z : State) (a0 : Array Value) (n0 : Nat) (B : Bdy) (R : Room) (as : List Value) (H : SH) (Q : Option Value → SH → Prop) : Prop :=
  ∀ (h0 : Heap) (ws : List Jvm.Cond), Rep Z a0 n0 h0 H →
    MetFree l B.1 (head1 (Jvm.Cond.code B.1 B.2.1 B.2.2.1 B.2.2.2 :: ws) R) (fun a U => a = (as.map (lf n0)).toArray ∧ Z.Warmed39 U.vm ∧ U.heap = h0) (fun _ _ _ _ _ => True)
      (fun _ U o U' => ∃ v L, o = .returned v ∧ (∃ v' H', v = v'.map (lf n0) ∧ Q v' H' ∧ Rep Z a0 n0 U'.heap H' ∧ Fr n0 L) ∧ FrameEnd U o U' L R.cells R.slots)
def entryL (as : List Value) (ml : Nat) : List Slot :=
  as.foldr (fun v r => if v.category = 2 then .val v :: .second :: r else .val v :: r) [] ++ List.replicate (ml - (as.foldr (fun v r => v.category + r) 0)) .unset
section
variable {l : Launch} {Z : State} {a0 : Array Value} {n0 : Nat} {B : Bdy} {R : Room} {k n pc : Nat} {L : List Slot} {S : List Value} {H : SH} {Q : Option Value → SH → Prop}
theorem cat_pos (v : Value) : v.category = 1 ∨ v.category = 2 := by cases v <;> simp [Value.category]
theorem entry_acc (n0 : Nat) (as : List Value) (acc : Array Slot) : (as.map (lf n0)).foldl (fun acc v => if v.category = 2 then (acc.push (Slot.val v)).push Slot.second else acc.push (.val v)) acc =
    acc ++ ((as.foldr (fun v r => if v.category = 2 then Slot.val v :: Slot.second :: r else .val v :: r) []).map (lz n0)).toArray := by
  induction as generalizing acc with
  | nil => simp
  | cons v as ih =>
    simp only [List.map_cons, List.foldl_cons, List.foldr_cons, lf_cat]
    rw [ih]
    by_cases q : v.category = 2
    · simp [q, lz]
    · simp [q, lz]
theorem entry_len (as : List Value) : (as.foldr (fun v r => if v.category = 2 then Slot.val v :: Slot.second :: r else .val v :: r) []).length = as.foldr (fun v r => v.category + r) 0 := by
  induction as with
  | nil => rfl
  | cons v as ih =>
    rcases cat_pos v with q | q <;> simp [q] at ih ⊢ <;> omega
theorem entry_eq (n0 : Nat) (m : MethodId) (as : List Value) (ml : Nat) : entryFrame m (as.map (lf n0)).toArray ml = mkF m 0 (LL n0 (entryL as ml)) [] := by
  have e : argsToLocals (as.map (lf n0)).toArray ml = LL n0 (entryL as ml) := by
    simp only [argsToLocals, LL, entryL, List.foldl_toArray']
    rw [entry_acc]
    apply Array.toList_inj.mp
    simp [entry_len, lz]
  simp [entryFrame, e, mkF]
theorem Meth.of {as : List Value} (hp : plainName B.1.cls = true) (hL : entryL as B.2.2.1 = L) (hW : WP l Z a0 n0 B R 0 0 0 L [] H Q) : Meth l Z a0 n0 B R as H Q := by
  intro h0 ws hR
  refine MetFree.of_bodySF (plainFor_of_name hp) hisR ?_
  intro p e s m args below meth c s₁ Bd hml0 hP hK
  obtain ⟨rfl, hZ, hh⟩ := hP
  have e0 : s₁.heap = h0 := by rw [← hh, Bd.state]; rfl
  subst hL
  obtain ⟨t, o, h1, h2, h3, v, L', h4, ⟨H', h5, h6⟩, h7, h8⟩ := hW p e s m _ below meth c s₁ [] (Stand.of_body Bd) Bd.exec Bd.bytes hml0 Bd.returns Bd.notSynchronized hZ (findClass_of_methodNamed Bd.named) (name_of_methodNamed Bd.named Bd.method).1 (Fr.nil n0) (by rw [e0]; exact hR)
  exact ⟨t, o, castTop (entry_eq n0 m as _) h1, h2, h3, _, L', h4, ⟨v, H', rfl, h5, h6, h7⟩, h8⟩
theorem WP.mono {Q' : Option Value → SH → Prop} (hW : WP l Z a0 n0 B R k n pc L S H Q) (hq : ∀ v H', Q v H' → Q' v H') : WP l Z a0 n0 B R k n pc L S H Q' := by
  intro p e s m args below meth c T locs X hx hc hml hret hlk hZ hown hnm hF hR
  obtain ⟨t, o, h1, h2, h3, v, L', h4, ⟨H', h5, h6⟩, h7⟩ := hW p e s m args below meth c T locs X hx hc hml hret hlk hZ hown hnm hF hR
  exact ⟨t, o, h1, h2, h3, v, L', h4, ⟨H', hq _ _ h5, h6⟩, h7⟩
theorem Meth.mono {as : List Value} {Q' : Option Value → SH → Prop} (hM : Meth l Z a0 n0 B R as H Q) (hq : ∀ v H', Q v H' → Q' v H') : Meth l Z a0 n0 B R as H Q' := by
  intro h0 ws hR p e ha hc hk s m args below hf happ hP hK
  obtain ⟨n, o, h1, h2, h3, v, L, h4, ⟨v', H', h5, h6, h7⟩, h8⟩ := hM h0 ws hR p e ha hc hk s m args below hf happ hP hK
  exact ⟨n, o, h1, h2, h3, v, L, h4, ⟨v', H', h5, hq _ _ h6, h7⟩, h8⟩
/-- a step that moves nothing but the frame -/
theorem pure {pc' : Nat} {L' : List Slot} {S' : List Value} (hr : WP l Z a0 n0 B R k n pc' L' S' H Q)
    (f : ∀ {p : Program} {e : Env} {below : List Frame} {T target : State} {m : MethodId} {c : Code}, At T m c below → p.tables.exec = Jvm.exec → c.code = B.2.1 →
      Steps p.tables e below (T.setTop (mkF m pc' (LL n0 L') (S'.map (lf n0)))) target → Steps p.tables e below (T.setTop (mkF m pc (LL n0 L) (S.map (lf n0)))) target) : WP l Z a0 n0 B R k n pc L S H Q := by
  intro p e s m args below meth c T locs X hx hc hml hret hlk hZ hown hnm hF hR
  obtain ⟨t, o, h1, h2⟩ := hr p e s m args below meth c T locs X hx hc hml hret hlk hZ hown hnm hF hR
  exact ⟨t, o, f X.here hx hc h1, h2⟩
/-! ### loads, constants -/
theorem aload_n {j : Fin 4} {v : Value} (d : decode B.2.1 pc = .ok (.aload_n j, 1)) (hl : L[j.val]? = some (.val v)) (hv : v.isRef = true) (hr : WP l Z a0 n0 B R k n (pc + 1) L (v :: S) H Q) : WP l Z a0 n0 B R k n pc L S H Q :=
  pure hr fun h hx hc st => XS.aloadN h hx rfl (hb hc d) (LL_get hl) (by rw [lf_isRef]; exact hv) st
theorem aload {j : Nat} {v : Value} (d : decode B.2.1 pc = .ok (.aload j, 2)) (hl : L[j]? = some (.val v)) (hv : v.isRef = true) (hr : WP l Z a0 n0 B R k n (pc + 2) L (v :: S) H Q) : WP l Z a0 n0 B R k n pc L S H Q :=
  pure hr fun h hx hc st => XS.aload h hx rfl (hb hc d) (LL_get hl) (by rw [lf_isRef]; exact hv) st
theorem iload_n {j : Fin 4} {x : Int32} (d : decode B.2.1 pc = .ok (.iload_n j, 1)) (hl : L[j.val]? = some (.val (.int x))) (hr : WP l Z a0 n0 B R k n (pc + 1) L (.int x :: S) H Q) : WP l Z a0 n0 B R k n pc L S H Q :=
  pure hr fun h hx hc st => XS.iloadN h hx rfl (hb hc d) (LL_get (n0 := n0) hl) st
theorem iload {j : Nat} {x : Int32} (d : decode B.2.1 pc = .ok (.iload j, 2)) (hl : L[j]? = some (.val (.int x))) (hr : WP l Z a0 n0 B R k n (pc + 2) L (.int x :: S) H Q) : WP l Z a0 n0 B R k n pc L S H Q :=
  pure hr fun h hx hc st => XS.iload h hx rfl (hb hc d) (LL_get (n0 := n0) hl) st
theorem lload_n {j : Fin 4} {x : Int64} (d : decode B.2.1 pc = .ok (.lload_n j, 1)) (hl : L[j.val]? = some (.val (.long x))) (hr : WP l Z a0 n0 B R k n (pc + 1) L (.long x :: S) H Q) : WP l Z a0 n0 B R k n pc L S H Q :=
  pure hr fun h hx hc st => XT.lloadN h hx rfl (hb hc d) (LL_get (n0 := n0) hl) st
theorem lload {j : Nat} {x : Int64} (d : decode B.2.1 pc = .ok (.lload j, 2)) (hl : L[j]? = some (.val (.long x))) (hr : WP l Z a0 n0 B R k n (pc + 2) L (.long x :: S) H Q) : WP l Z a0 n0 B R k n pc L S H Q :=
  pure hr fun h hx hc st => XT.lload h hx rfl (hb hc d) (LL_get (n0 := n0) hl) st
theorem iconst {i : Int} {x : Int32} (d : decode B.2.1 pc = .ok (.iconst i, 1)) (hx' : Int32.ofInt i = x) (hr : WP l Z a0 n0 B R k n (pc + 1) L (.int x :: S) H Q) : WP l Z a0 n0 B R k n pc L S H Q :=
  pure (hx' ▸ hr) fun h hx hc st => XS.iconst h hx rfl (hb hc d) st
theorem bipush {i : Int} {x : Int32} (d : decode B.2.1 pc = .ok (.bipush i, 2)) (hx' : (Int8.ofInt i).toInt32 = x) (hr : WP l Z a0 n0 B R k n (pc + 2) L (.int x :: S) H Q) : WP l Z a0 n0 B R k n pc L S H Q :=
  pure (hx' ▸ hr) fun h hx hc st => XS.bipush h hx rfl (hb hc d) st
theorem sipush {i : Int} {x : Int32} (d : decode B.2.1 pc = .ok (.sipush i, 3)) (hx' : (Int16.ofInt i).toInt32 = x) (hr : WP l Z a0 n0 B R k n (pc + 3) L (.int x :: S) H Q) : WP l Z a0 n0 B R k n pc L S H Q :=
  pure (hx' ▸ hr) fun h hx hc st => XS.sipush h hx rfl (hb hc d) st
theorem lconst {i : Fin 2} {x : Int64} (d : decode B.2.1 pc = .ok (.lconst i, 1)) (hx' : Int64.ofNat i = x) (hr : WP l Z a0 n0 B R k n (pc + 1) L (.long x :: S) H Q) : WP l Z a0 n0 B R k n pc L S H Q :=
  pure (hx' ▸ hr) fun h hx hc st => XT.lconst h hx rfl (hb hc d) st
theorem aconst_null (d : decode B.2.1 pc = .ok (.aconst_null, 1)) (hr : WP l Z a0 n0 B R k n (pc + 1) L (.null :: S) H Q) : WP l Z a0 n0 B R k n pc L S H Q :=
  pure hr fun h hx hc st => XS.aconstNull h hx rfl (hb hc d) st
theorem ldcI {W : List Jvm.Cond} (hw : ∀ d ∈ W, d.before a0 Z = true) {i idx : Nat} {x : Int32} (w : W[i]? = some (.constant B.1.cls idx x)) (d : decode B.2.1 pc = .ok (.ldc idx, 2)) (hr : WP l Z a0 n0 B R k n (pc + 2) L (.int x :: S) H Q) : WP l Z a0 n0 B R k n pc L S H Q := by
  intro p e s m args below meth c T locs X hx hc hml hret hlk hZ hown hnm hF hR
  obtain ⟨t, o, h1, h2⟩ := hr p e s m args below meth c T locs X hx hc hml hret hlk hZ hown hnm hF hR
  have v1 := hw _ (List.mem_of_getElem? w)
  exact ⟨t, o, X.ldcInt hx hown (mv hZ v1) (g := mkF m pc (LL n0 L) (S.map (lf n0))) rfl (hb hc d) _ h1, h2⟩
theorem ldc2L {W : List Jvm.Cond} (hw : ∀ d ∈ W, d.before a0 Z = true) {i idx : Nat} {x : Int64} (w : W[i]? = some (.constantLong B.1.cls idx x)) (d : decode B.2.1 pc = .ok (.ldc2_w idx, 3)) (hr : WP l Z a0 n0 B R k n (pc + 3) L (.long x :: S) H Q) : WP l Z a0 n0 B R k n pc L S H Q := by
  intro p e s m args below meth c T locs X hx hc hml hret hlk hZ hown hnm hF hR
  obtain ⟨t, o, h1, h2⟩ := hr p e s m args below meth c T locs X hx hc hml hret hlk hZ hown hnm hF hR
  have v1 := hw _ (List.mem_of_getElem? w)
  exact ⟨t, o, X.ldc2Long hx hown (mv hZ v1) (g := mkF m pc (LL n0 L) (S.map (lf n0))) rfl (hb hc d) _ h1, h2⟩

/-! ### stores -/
def okS : Slot → Bool
  | .unset => true
  | .val w => w.category == 1
  | .second => false
def nS : Slot → Bool
  | .second => false
  | _ => true
def n2 : Slot → Bool
  | .val w => w.category == 1
  | _ => true
def stOK (L : List Slot) (k : Nat) (v : Value) (L' : List Slot) : Prop := ∀ n0, storeLocals (LL n0 L) k (lf n0 v) = some (LL n0 L')
theorem LL_at {n0 j : Nat} {o : Slot} (h : L[j]? = some o) : (LL n0 L)[j]? = some (lz n0 o) := by simp [h]
theorem LL_set {n0 j : Nat} {o : Slot} : (LL n0 L).setIfInBounds j (lz n0 o) = LL n0 (L.set j o) := by
  apply Array.toList_inj.mp; simp [List.map_set]
theorem st1 {L' : List Slot} {j : Nat} {o : Slot} {v : Value} (h : L[j]? = some o) (ho : okS o = true) (hv : v.category = 1) (e : L.set j (.val v) = L') : stOK L j v L' := by
  intro n0
  rw [XS.store1 (LL_at h) (by cases o <;> simp_all [okS, lz, lf_cat]) (by rw [lf_cat]; exact hv), ← e, ← LL_set]
  rfl
theorem LL_size {n0 : Nat} : (LL n0 L).size = L.length := by simp
theorem lt_of_at {α : Type} {l : List α} {j : Nat} {o : α} (h : l[j]? = some o) : j < l.length := (List.getElem?_eq_some_iff.mp h).1
theorem setAt_LL {n0 j : Nat} {o : Slot} (h : j < L.length) : setAt (LL n0 L) j (lz n0 o) = some (LL n0 (L.set j o)) := by
  simp only [setAt, LL_size, h, if_true, LL_set]
theorem self1 {n0 j : Nat} {v : Value} (h : j < L.length) (hv : v.category = 1) : storeSelf (LL n0 L) j (lf n0 v) = some (LL n0 (L.set j (.val v))) := by
  have e := setAt_LL (n0 := n0) (o := .val v) h
  simp only [lz] at e
  simp [storeSelf, e, lf_cat, hv]
theorem self2 {n0 j : Nat} {v : Value} {o : Slot} (h : L[j + 1]? = some o) (ho : n2 o = true) (hv : v.category = 2) : storeSelf (LL n0 L) j (lf n0 v) = some (LL n0 ((L.set j (.val v)).set (j + 1) .second)) := by
  have h1 := lt_of_at h
  have e := setAt_LL (n0 := n0) (o := .val v) (show j < L.length by omega)
  simp only [lz] at e
  have e2 := setAt_LL (n0 := n0) (L := L.set j (.val v)) (o := .second) (j := j + 1) (by simpa using h1)
  simp only [lz] at e2
  have e3 : (LL n0 (L.set j (.val v)))[j + 1]? = some (lz n0 o) := LL_at (by rw [List.getElem?_set_ne (by omega)]; exact h)
  simp only [storeSelf, e, lf_cat, hv, Option.bind_eq_bind, Option.bind_some, if_true, e3]
  cases o with
  | unset => simpa [lz] using e2
  | second => simpa [lz] using e2
  | val w =>
    have hw : w.category = 1 := by simpa [n2] using ho
    simpa [lz, lf_cat, hw] using e2
theorem st1s {L' : List Slot} {j : Nat} {v : Value} (h : L[j + 1]? = some .second) (hv : v.category = 1) (e : (L.set j .unset).set (j + 1) (.val v) = L') : stOK L (j + 1) v L' := by
  intro n0
  subst e
  have h1 := lt_of_at h
  have e1 := LL_at (n0 := n0) h
  have e2 := setAt_LL (n0 := n0) (o := .unset) (show j < L.length by omega)
  simp only [lz] at e1 e2
  have e3 := self1 (n0 := n0) (L := L.set j .unset) (j := j + 1) (by simpa using h1) hv
  simp only [storeLocals, e1, Option.bind_eq_bind, Option.bind_some, Nat.add_sub_cancel, e2, e3]
theorem st1w {L' : List Slot} {j : Nat} {w v : Value} (h : L[j]? = some (.val w)) (hw : w.category = 2) (hl : j + 1 < L.length) (hv : v.category = 1) (e : (L.set (j + 1) .unset).set j (.val v) = L') : stOK L j v L' := by
  intro n0
  subst e
  have h1 := lt_of_at h
  have e1 := LL_at (n0 := n0) h
  have e2 := setAt_LL (n0 := n0) (o := .unset) hl
  simp only [lz] at e1 e2
  have e3 := self1 (n0 := n0) (L := L.set (j + 1) .unset) (j := j) (by simpa using h1) hv
  simp only [storeLocals, e1, lf_cat, hw, if_true, Option.bind_eq_bind, Option.bind_some, e2, e3]
theorem st2 {L' : List Slot} {j : Nat} {o o2 : Slot} {v : Value} (h : L[j]? = some o) (ho : nS o = true) (h2 : L[j + 1]? = some o2) (ho2 : n2 o2 = true) (hv : v.category = 2) (e : (L.set j (.val v)).set (j + 1) .second = L') : stOK L j v L' := by
  intro n0
  subst e
  have e1 := LL_at (n0 := n0) h
  have h3 := lt_of_at h2
  cases o with
  | second => simp [nS] at ho
  | unset =>
    simp only [lz] at e1
    simp only [storeLocals, e1, Option.bind_eq_bind, Option.bind_some, self2 h2 ho2 hv]
  | val w =>
    simp only [lz] at e1
    rcases cat_pos w with q | q
    · simp [storeLocals, e1, lf_cat, q, self2 h2 ho2 hv]
    · have e2 := setAt_LL (n0 := n0) (o := .unset) h3
      simp only [lz] at e2
      have e3 := self2 (n0 := n0) (L := L.set (j + 1) .unset) (j := j) (o := .unset) (v := v) (by rw [List.getElem?_set_self h3]) rfl hv
      have e4 : ((L.set (j + 1) .unset).set j (.val v)).set (j + 1) .second = (L.set j (.val v)).set (j + 1) .second := by
        rw [List.set_comm _ _ (show j + 1 ≠ j by omega), List.set_set]
      rw [e4] at e3
      simp only [storeLocals, e1, lf_cat, q, if_true, Option.bind_eq_bind, Option.bind_some, e2, e3]
theorem istore_n {j : Fin 4} {x : Int32} {L' : List Slot} (d : decode B.2.1 pc = .ok (.istore_n j, 1)) (hs : stOK L j.val (.int x) L') (hr : WP l Z a0 n0 B R k n (pc + 1) L' S H Q) : WP l Z a0 n0 B R k n pc L (.int x :: S) H Q :=
  pure hr fun h hx hc st => XS.istoreN h hx rfl (hb hc d) rfl (hs n0) st
theorem istore {j : Nat} {x : Int32} {L' : List Slot} (d : decode B.2.1 pc = .ok (.istore j, 2)) (hs : stOK L j (.int x) L') (hr : WP l Z a0 n0 B R k n (pc + 2) L' S H Q) : WP l Z a0 n0 B R k n pc L (.int x :: S) H Q :=
  pure hr fun h hx hc st => XS.istore h hx rfl (hb hc d) rfl (hs n0) st
theorem lstore_n {j : Fin 4} {x : Int64} {L' : List Slot} (d : decode B.2.1 pc = .ok (.lstore_n j, 1)) (hs : stOK L j.val (.long x) L') (hr : WP l Z a0 n0 B R k n (pc + 1) L' S H Q) : WP l Z a0 n0 B R k n pc L (.long x :: S) H Q :=
  pure hr fun h hx hc st => XT.lstoreN h hx rfl (hb hc d) rfl (hs n0) st
theorem lstore {j : Nat} {x : Int64} {L' : List Slot} (d : decode B.2.1 pc = .ok (.lstore j, 2)) (hs : stOK L j (.long x) L') (hr : WP l Z a0 n0 B R k n (pc + 2) L' S H Q) : WP l Z a0 n0 B R k n pc L (.long x :: S) H Q :=
  pure hr fun h hx hc st => XT.lstore h hx rfl (hb hc d) rfl (hs n0) st
theorem astore_n {j : Fin 4} {v : Value} {L' : List Slot} (d : decode B.2.1 pc = .ok (.astore_n j, 1)) (hv : v.isRef = true) (hs : stOK L j.val v L') (hr : WP l Z a0 n0 B R k n (pc + 1) L' S H Q) : WP l Z a0 n0 B R k n pc L (v :: S) H Q :=
  pure hr fun h hx hc st => XS.astoreN h hx rfl (hb hc d) rfl (by rw [lf_isRef]; exact hv) (hs n0) st
theorem astore {j : Nat} {v : Value} {L' : List Slot} (d : decode B.2.1 pc = .ok (.astore j, 2)) (hv : v.isRef = true) (hs : stOK L j v L') (hr : WP l Z a0 n0 B R k n (pc + 2) L' S H Q) : WP l Z a0 n0 B R k n pc L (v :: S) H Q :=
  pure hr fun h hx hc st => XS.astore h hx rfl (hb hc d) rfl (by rw [lf_isRef]; exact hv) (hs n0) st
theorem iinc {j : Nat} {cst : Int} {x ci y : Int32} {L' : List Slot} (d : decode B.2.1 pc = .ok (.iinc j cst, 3)) (hl : L[j]? = some (.val (.int x))) (hci : Int32.ofInt cst = ci) (hy : x + ci = y) (hs : stOK L j (.int y) L') (hr : WP l Z a0 n0 B R k n (pc + 3) L' S H Q) : WP l Z a0 n0 B R k n pc L S H Q :=
  pure hr fun h hx hc st => XS.iinc h hx rfl (hb hc d) (LL_get (n0 := n0) hl) (by rw [hci, hy]; exact hs n0) st
/-! ### the stack, arithmetic -/
theorem dup {v : Value} (d : decode B.2.1 pc = .ok (.dup, 1)) (hv : v.category = 1) (hr : WP l Z a0 n0 B R k n (pc + 1) L (v :: v :: S) H Q) : WP l Z a0 n0 B R k n pc L (v :: S) H Q :=
  pure hr fun h hx hc st => XS.dup h hx rfl (hb hc d) rfl (by rw [lf_cat]; exact hv) st
theorem pop {v : Value} (d : decode B.2.1 pc = .ok (.pop, 1)) (hv : v.category = 1) (hr : WP l Z a0 n0 B R k n (pc + 1) L S H Q) : WP l Z a0 n0 B R k n pc L (v :: S) H Q :=
  pure hr fun h hx hc st => XT.pop h hx rfl (hb hc d) rfl (by rw [lf_cat]; exact hv) st
theorem dup_x1 {v w : Value} (d : decode B.2.1 pc = .ok (.dup_x1, 1)) (hv : v.category = 1) (hv' : w.category = 1) (hr : WP l Z a0 n0 B R k n (pc + 1) L (v :: w :: v :: S) H Q) : WP l Z a0 n0 B R k n pc L (v :: w :: S) H Q :=
  pure hr fun h hx hc st => XT.dupX1 h hx rfl (hb hc d) rfl (by rw [lf_cat]; exact hv) (by rw [lf_cat]; exact hv') st
theorem dup2 {v w : Value} (d : decode B.2.1 pc = .ok (.dup2, 1)) (hv : v.category = 1) (hv' : w.category = 1) (hr : WP l Z a0 n0 B R k n (pc + 1) L (v :: w :: v :: w :: S) H Q) : WP l Z a0 n0 B R k n pc L (v :: w :: S) H Q :=
  pure hr fun h hx hc st => XT.dup2 h hx rfl (hb hc d) rfl (by rw [lf_cat]; exact hv) (by rw [lf_cat]; exact hv') st
theorem dup2L {x : Int64} (d : decode B.2.1 pc = .ok (.dup2, 1)) (hr : WP l Z a0 n0 B R k n (pc + 1) L (.long x :: .long x :: S) H Q) : WP l Z a0 n0 B R k n pc L (.long x :: S) H Q :=
  pure hr fun h hx hc st => XT.dup2L h hx rfl (hb hc d) rfl st
theorem iadd {x : Int32} {y : Int32} (d : decode B.2.1 pc = .ok (.iadd, 1)) (hr : WP l Z a0 n0 B R k n (pc + 1) L (.int (x + y) :: S) H Q) : WP l Z a0 n0 B R k n pc L (.int y :: .int x :: S) H Q :=
  pure hr fun h hx hc st => XS.iadd h hx rfl (hb hc d) rfl st
theorem isub {x : Int32} {y : Int32} (d : decode B.2.1 pc = .ok (.isub, 1)) (hr : WP l Z a0 n0 B R k n (pc + 1) L (.int (x - y) :: S) H Q) : WP l Z a0 n0 B R k n pc L (.int y :: .int x :: S) H Q :=
  pure hr fun h hx hc st => XS.isub h hx rfl (hb hc d) rfl st
theorem iand {x : Int32} {y : Int32} (d : decode B.2.1 pc = .ok (.iand, 1)) (hr : WP l Z a0 n0 B R k n (pc + 1) L (.int (x &&& y) :: S) H Q) : WP l Z a0 n0 B R k n pc L (.int y :: .int x :: S) H Q :=
  pure hr fun h hx hc st => XS.iand h hx rfl (hb hc d) rfl st
theorem imul {x : Int32} {y : Int32} (d : decode B.2.1 pc = .ok (.imul, 1)) (hr : WP l Z a0 n0 B R k n (pc + 1) L (.int (x * y) :: S) H Q) : WP l Z a0 n0 B R k n pc L (.int y :: .int x :: S) H Q :=
  pure hr fun h hx hc st => XS.imul h hx rfl (hb hc d) rfl st
theorem ixor {x : Int32} {y : Int32} (d : decode B.2.1 pc = .ok (.ixor, 1)) (hr : WP l Z a0 n0 B R k n (pc + 1) L (.int (x ^^^ y) :: S) H Q) : WP l Z a0 n0 B R k n pc L (.int y :: .int x :: S) H Q :=
  pure hr fun h hx hc st => XT.ixor h hx rfl (hb hc d) rfl st
theorem ior {x : Int32} {y : Int32} (d : decode B.2.1 pc = .ok (.ior, 1)) (hr : WP l Z a0 n0 B R k n (pc + 1) L (.int (x ||| y) :: S) H Q) : WP l Z a0 n0 B R k n pc L (.int y :: .int x :: S) H Q :=
  pure hr fun h hx hc st => XT.ior h hx rfl (hb hc d) rfl st
theorem ishl {x : Int32} {y : Int32} (d : decode B.2.1 pc = .ok (.ishl, 1)) (hr : WP l Z a0 n0 B R k n (pc + 1) L (.int (x <<< (y &&& 31)) :: S) H Q) : WP l Z a0 n0 B R k n pc L (.int y :: .int x :: S) H Q :=
  pure hr fun h hx hc st => XT.ishl h hx rfl (hb hc d) rfl st
theorem ishr {x : Int32} {y : Int32} (d : decode B.2.1 pc = .ok (.ishr, 1)) (hr : WP l Z a0 n0 B R k n (pc + 1) L (.int (x >>> (y &&& 31)) :: S) H Q) : WP l Z a0 n0 B R k n pc L (.int y :: .int x :: S) H Q :=
  pure hr fun h hx hc st => XT.ishr h hx rfl (hb hc d) rfl st
theorem iushr {x : Int32} {y : Int32} (d : decode B.2.1 pc = .ok (.iushr, 1)) (hr : WP l Z a0 n0 B R k n (pc + 1) L (.int (XT.ushr x y) :: S) H Q) : WP l Z a0 n0 B R k n pc L (.int y :: .int x :: S) H Q :=
  pure hr fun h hx hc st => XT.iushr h hx rfl (hb hc d) rfl st
theorem ladd {x : Int64} {y : Int64} (d : decode B.2.1 pc = .ok (.ladd, 1)) (hr : WP l Z a0 n0 B R k n (pc + 1) L (.long (x + y) :: S) H Q) : WP l Z a0 n0 B R k n pc L (.long y :: .long x :: S) H Q :=
  pure hr fun h hx hc st => XT.ladd h hx rfl (hb hc d) rfl st
theorem lsub {x : Int64} {y : Int64} (d : decode B.2.1 pc = .ok (.lsub, 1)) (hr : WP l Z a0 n0 B R k n (pc + 1) L (.long (x - y) :: S) H Q) : WP l Z a0 n0 B R k n pc L (.long y :: .long x :: S) H Q :=
  pure hr fun h hx hc st => XT.lsub h hx rfl (hb hc d) rfl st
theorem lmul {x : Int64} {y : Int64} (d : decode B.2.1 pc = .ok (.lmul, 1)) (hr : WP l Z a0 n0 B R k n (pc + 1) L (.long (x * y) :: S) H Q) : WP l Z a0 n0 B R k n pc L (.long y :: .long x :: S) H Q :=
  pure hr fun h hx hc st => XT.lmul h hx rfl (hb hc d) rfl st
theorem land {x : Int64} {y : Int64} (d : decode B.2.1 pc = .ok (.land, 1)) (hr : WP l Z a0 n0 B R k n (pc + 1) L (.long (x &&& y) :: S) H Q) : WP l Z a0 n0 B R k n pc L (.long y :: .long x :: S) H Q :=
  pure hr fun h hx hc st => XT.land h hx rfl (hb hc d) rfl st
theorem lor {x : Int64} {y : Int64} (d : decode B.2.1 pc = .ok (.lor, 1)) (hr : WP l Z a0 n0 B R k n (pc + 1) L (.long (x ||| y) :: S) H Q) : WP l Z a0 n0 B R k n pc L (.long y :: .long x :: S) H Q :=
  pure hr fun h hx hc st => XT.lor h hx rfl (hb hc d) rfl st
theorem lxor {x : Int64} {y : Int64} (d : decode B.2.1 pc = .ok (.lxor, 1)) (hr : WP l Z a0 n0 B R k n (pc + 1) L (.long (x ^^^ y) :: S) H Q) : WP l Z a0 n0 B R k n pc L (.long y :: .long x :: S) H Q :=
  pure hr fun h hx hc st => XT.lxor h hx rfl (hb hc d) rfl st
theorem lshl {x : Int64} {y : Int32} (d : decode B.2.1 pc = .ok (.lshl, 1)) (hr : WP l Z a0 n0 B R k n (pc + 1) L (.long (x <<< (y.toInt64 &&& 63)) :: S) H Q) : WP l Z a0 n0 B R k n pc L (.int y :: .long x :: S) H Q :=
  pure hr fun h hx hc st => XT.lshl h hx rfl (hb hc d) rfl st
theorem lshr {x : Int64} {y : Int32} (d : decode B.2.1 pc = .ok (.lshr, 1)) (hr : WP l Z a0 n0 B R k n (pc + 1) L (.long (x >>> (y.toInt64 &&& 63)) :: S) H Q) : WP l Z a0 n0 B R k n pc L (.int y :: .long x :: S) H Q :=
  pure hr fun h hx hc st => XT.lshr h hx rfl (hb hc d) rfl st
theorem lushr {x : Int64} {y : Int32} (d : decode B.2.1 pc = .ok (.lushr, 1)) (hr : WP l Z a0 n0 B R k n (pc + 1) L (.long (XT.ushrL x y) :: S) H Q) : WP l Z a0 n0 B R k n pc L (.int y :: .long x :: S) H Q :=
  pure hr fun h hx hc st => XT.lushr h hx rfl (hb hc d) rfl st
theorem ineg {x : Int32} (d : decode B.2.1 pc = .ok (.ineg, 1)) (hr : WP l Z a0 n0 B R k n (pc + 1) L (.int (-x) :: S) H Q) : WP l Z a0 n0 B R k n pc L (.int x :: S) H Q :=
  pure hr fun h hx hc st => XS.ineg h hx rfl (hb hc d) rfl st
theorem lneg {x : Int64} (d : decode B.2.1 pc = .ok (.lneg, 1)) (hr : WP l Z a0 n0 B R k n (pc + 1) L (.long (-x) :: S) H Q) : WP l Z a0 n0 B R k n pc L (.long x :: S) H Q :=
  pure hr fun h hx hc st => XT.lneg h hx rfl (hb hc d) rfl st
theorem i2l {x : Int32} (d : decode B.2.1 pc = .ok (.i2l, 1)) (hr : WP l Z a0 n0 B R k n (pc + 1) L (.long (x.toInt64) :: S) H Q) : WP l Z a0 n0 B R k n pc L (.int x :: S) H Q :=
  pure hr fun h hx hc st => XT.i2l h hx rfl (hb hc d) rfl st
theorem l2i {x : Int64} (d : decode B.2.1 pc = .ok (.l2i, 1)) (hr : WP l Z a0 n0 B R k n (pc + 1) L (.int (x.toInt32) :: S) H Q) : WP l Z a0 n0 B R k n pc L (.long x :: S) H Q :=
  pure hr fun h hx hc st => XT.l2i h hx rfl (hb hc d) rfl st
theorem i2b {x : Int32} (d : decode B.2.1 pc = .ok (.i2b, 1)) (hr : WP l Z a0 n0 B R k n (pc + 1) L (.int (x.toInt8.toInt32) :: S) H Q) : WP l Z a0 n0 B R k n pc L (.int x :: S) H Q :=
  pure hr fun h hx hc st => XT.i2b h hx rfl (hb hc d) rfl st
theorem i2s {x : Int32} (d : decode B.2.1 pc = .ok (.i2s, 1)) (hr : WP l Z a0 n0 B R k n (pc + 1) L (.int (x.toInt16.toInt32) :: S) H Q) : WP l Z a0 n0 B R k n pc L (.int x :: S) H Q :=
  pure hr fun h hx hc st => XT.i2s h hx rfl (hb hc d) rfl st
theorem i2c {x : Int32} (d : decode B.2.1 pc = .ok (.i2c, 1)) (hr : WP l Z a0 n0 B R k n (pc + 1) L (.int (x.toUInt32.toUInt16.toUInt32.toInt32) :: S) H Q) : WP l Z a0 n0 B R k n pc L (.int x :: S) H Q :=
  pure hr fun h hx hc st => XT.i2c h hx rfl (hb hc d) rfl st
theorem iaddE {x y z : Int32} (d : decode B.2.1 pc = .ok (.iadd, 1)) (hz : x + y = z) (hr : WP l Z a0 n0 B R k n (pc + 1) L (.int z :: S) H Q) : WP l Z a0 n0 B R k n pc L (.int y :: .int x :: S) H Q := iadd d (hz ▸ hr)
theorem isubE {x y z : Int32} (d : decode B.2.1 pc = .ok (.isub, 1)) (hz : x - y = z) (hr : WP l Z a0 n0 B R k n (pc + 1) L (.int z :: S) H Q) : WP l Z a0 n0 B R k n pc L (.int y :: .int x :: S) H Q := isub d (hz ▸ hr)
theorem imulE {x y z : Int32} (d : decode B.2.1 pc = .ok (.imul, 1)) (hz : x * y = z) (hr : WP l Z a0 n0 B R k n (pc + 1) L (.int z :: S) H Q) : WP l Z a0 n0 B R k n pc L (.int y :: .int x :: S) H Q := imul d (hz ▸ hr)
theorem idiv {x y : Int32} (d : decode B.2.1 pc = .ok (.idiv, 1)) (hy : y ≠ 0) (hr : WP l Z a0 n0 B R k n (pc + 1) L (.int (x / y) :: S) H Q) : WP l Z a0 n0 B R k n pc L (.int y :: .int x :: S) H Q :=
  pure hr fun h hx hc st => XS.idiv h hx rfl (hb hc d) rfl hy st
theorem irem {x y : Int32} (d : decode B.2.1 pc = .ok (.irem, 1)) (hy : y ≠ 0) (hr : WP l Z a0 n0 B R k n (pc + 1) L (.int (x % y) :: S) H Q) : WP l Z a0 n0 B R k n pc L (.int y :: .int x :: S) H Q :=
  pure hr fun h hx hc st => XS.irem h hx rfl (hb hc d) rfl hy (by rw [irem_eq_mod]; exact st)
theorem idivE {x y z : Int32} (d : decode B.2.1 pc = .ok (.idiv, 1)) (hy : y ≠ 0) (hz : x / y = z) (hr : WP l Z a0 n0 B R k n (pc + 1) L (.int z :: S) H Q) : WP l Z a0 n0 B R k n pc L (.int y :: .int x :: S) H Q := idiv d hy (hz ▸ hr)
theorem iremE {x y z : Int32} (d : decode B.2.1 pc = .ok (.irem, 1)) (hy : y ≠ 0) (hz : x % y = z) (hr : WP l Z a0 n0 B R k n (pc + 1) L (.int z :: S) H Q) : WP l Z a0 n0 B R k n pc L (.int y :: .int x :: S) H Q := irem d hy (hz ▸ hr)
/-! ### branches -/
theorem goto {o : Int} {pc' : Nat} (d : decode B.2.1 pc = .ok (.goto o, 3)) (hp : ((pc : Int) + o).toNat = pc') (ho : 0 ≤ (pc : Int) + o) (hr : WP l Z a0 n0 B R k n pc' L S H Q) : WP l Z a0 n0 B R k n pc L S H Q :=
  pure hr fun h hx hc st => XS.goto h hx rfl (pc0 := pc) rfl (hb hc d) ho hp st
def cP : ClassFile.Cond → Int32 → Int32 → Prop
  | .eq, x, y => x = y
  | .ne, x, y => ¬ x = y
  | .lt, x, y => x < y
  | .ge, x, y => ¬ x < y
  | .gt, x, y => y < x
  | .le, x, y => ¬ y < x
def cPL : ClassFile.Cond → Int64 → Int64 → Prop
  | .eq, x, y => x = y
  | .ne, x, y => ¬ x = y
  | .lt, x, y => x < y
  | .ge, x, y => ¬ x < y
  | .gt, x, y => y < x
  | .le, x, y => ¬ y < x
instance (cd : ClassFile.Cond) (x y : Int32) : Decidable (cP cd x y) := by cases cd <;> simp only [cP] <;> infer_instance
instance (cd : ClassFile.Cond) (x y : Int64) : Decidable (cPL cd x y) := by cases cd <;> simp only [cPL] <;> infer_instance
theorem cP_iff (cd : ClassFile.Cond) (x y : Int32) : if_icmp.holds cd x y = true ↔ cP cd x y := by
  cases cd
  · by_cases h : x = y
    · exact ⟨fun _ => h, fun _ => (teq h).1⟩
    · simp [(feq h).1, cP, h]
  · by_cases h : x = y
    · exact ⟨fun q => (by rw [(teq h).2] at q; cases q), fun q => absurd h q⟩
    · simp [(feq h).2, cP, h]
  · by_cases h : x < y
    · simp [(tlt h).1, cP, h]
    · simp [(flt h).1, cP, h]
  · by_cases h : x < y
    · simp [(tlt h).2.1, cP, h]
    · simp [(flt h).2.1, cP, h]
  · by_cases h : y < x
    · simp [(tlt h).2.2.1, cP, h]
    · simp [(flt h).2.2.1, cP, h]
  · by_cases h : y < x
    · simp [(tlt h).2.2.2, cP, h]
    · simp [(flt h).2.2.2, cP, h]
theorem cPL_iff (cd : ClassFile.Cond) (x y : Int64) : ifCond.holds cd (XT.cmpL x y) = true ↔ cPL cd x y := by
  rw [if0, cP_iff]
  by_cases h : y < x
  · have h1 : ¬ x < y := Int64.not_lt.mpr (Int64.le_of_lt h)
    have h2 : ¬ x = y := fun e => by subst e; exact absurd h Int64.lt_irrefl
    cases cd <;> simp [cP, cPL, XT.cmpL, h, h1, h2]
  · by_cases h2 : x = y
    · subst h2
      cases cd <;> simp [cP, cPL, XT.cmpL, Int64.lt_irrefl]
    · have h1 : x < y := Int64.lt_of_le_of_ne (Int64.not_lt.mp h) h2
      cases cd <;> simp [cP, cPL, XT.cmpL, h, h1, h2]
theorem icmpT {cd : ClassFile.Cond} {x y : Int32} {o : Int} {pc' : Nat} (d : decode B.2.1 pc = .ok (.if_icmp cd o, 3)) (hp : ((pc : Int) + o).toNat = pc') (ho : 0 ≤ (pc : Int) + o) (hc : cP cd x y) (hr : WP l Z a0 n0 B R k n pc' L S H Q) : WP l Z a0 n0 B R k n pc L (.int y :: .int x :: S) H Q :=
  pure hr fun h hx hc' st => XS.icmpYes h hx rfl (pc0 := pc) rfl (hb hc' d) rfl ((cP_iff _ _ _).mpr hc) ho hp st
theorem icmpF {cd : ClassFile.Cond} {x y : Int32} {o : Int} (d : decode B.2.1 pc = .ok (.if_icmp cd o, 3)) (hc : ¬ cP cd x y) (hr : WP l Z a0 n0 B R k n (pc + 3) L S H Q) : WP l Z a0 n0 B R k n pc L (.int y :: .int x :: S) H Q :=
  pure hr fun h hx hc' st => XS.icmpNo h hx rfl (hb hc' d) rfl (Bool.eq_false_iff.mpr fun q => hc ((cP_iff _ _ _).mp q)) st
theorem ifT {cd : ClassFile.Cond} {x : Int32} {o : Int} {pc' : Nat} (d : decode B.2.1 pc = .ok (.ifCond cd o, 3)) (hp : ((pc : Int) + o).toNat = pc') (ho : 0 ≤ (pc : Int) + o) (hc : cP cd x 0) (hr : WP l Z a0 n0 B R k n pc' L S H Q) : WP l Z a0 n0 B R k n pc L (.int x :: S) H Q :=
  pure hr fun h hx hc' st => XS.ifYes h hx rfl (pc0 := pc) rfl (hb hc' d) rfl ((if0 _ _).trans ((cP_iff _ _ _).mpr hc)) ho hp st
theorem ifF {cd : ClassFile.Cond} {x : Int32} {o : Int} (d : decode B.2.1 pc = .ok (.ifCond cd o, 3)) (hc : ¬ cP cd x 0) (hr : WP l Z a0 n0 B R k n (pc + 3) L S H Q) : WP l Z a0 n0 B R k n pc L (.int x :: S) H Q :=
  pure hr fun h hx hc' st => XS.ifNo h hx rfl (hb hc' d) rfl ((if0 _ _).trans (Bool.eq_false_iff.mpr fun q => hc ((cP_iff _ _ _).mp q))) st
theorem lcmp {x y : Int64} (d : decode B.2.1 pc = .ok (.lcmp, 1)) (hr : WP l Z a0 n0 B R k n (pc + 1) L (.int (XT.cmpL x y) :: S) H Q) : WP l Z a0 n0 B R k n pc L (.long y :: .long x :: S) H Q :=
  pure hr fun h hx hc st => XT.lcmp h hx rfl (hb hc d) rfl st
theorem lcmpT {cd : ClassFile.Cond} {x y : Int64} {o : Int} {pc' : Nat} (d1 : decode B.2.1 pc = .ok (.lcmp, 1)) (d : decode B.2.1 (pc + 1) = .ok (.ifCond cd o, 3)) (hp : (((pc + 1 : Nat) : Int) + o).toNat = pc') (ho : 0 ≤ ((pc + 1 : Nat) : Int) + o) (hc : cPL cd x y) (hr : WP l Z a0 n0 B R k n pc' L S H Q) : WP l Z a0 n0 B R k n pc L (.long y :: .long x :: S) H Q :=
  lcmp d1 (pure hr fun h hx hc' st => XS.ifYes h hx rfl (pc0 := pc + 1) rfl (hb hc' d) rfl ((cPL_iff _ _ _).mpr hc) ho hp st)
theorem lcmpF {cd : ClassFile.Cond} {x y : Int64} {o : Int} (d1 : decode B.2.1 pc = .ok (.lcmp, 1)) (d : decode B.2.1 (pc + 1) = .ok (.ifCond cd o, 3)) (hc : ¬ cPL cd x y) (hr : WP l Z a0 n0 B R k n (pc + 4) L S H Q) : WP l Z a0 n0 B R k n pc L (.long y :: .long x :: S) H Q :=
  lcmp d1 (pure hr fun h hx hc' st => XS.ifNo h hx rfl (hb hc' d) rfl (Bool.eq_false_iff.mpr fun q => hc ((cPL_iff _ _ _).mp q)) st)
theorem ifnullF {o : Int} {i : Nat} (d : decode B.2.1 pc = .ok (.ifnull o, 3)) (hr : WP l Z a0 n0 B R k n (pc + 3) L S H Q) : WP l Z a0 n0 B R k n pc L (.ref i :: S) H Q :=
  pure hr fun h hx hc st => XS.ifnullNo h hx rfl (hb hc d) rfl st
theorem ifnonnullT {o : Int} {i pc' : Nat} (d : decode B.2.1 pc = .ok (.ifnonnull o, 3)) (hp : ((pc : Int) + o).toNat = pc') (ho : 0 ≤ (pc : Int) + o) (hr : WP l Z a0 n0 B R k n pc' L S H Q) : WP l Z a0 n0 B R k n pc L (.ref i :: S) H Q :=
  pure hr fun h hx hc st => XT.ifnonnullYes h hx rfl (pc0 := pc) rfl (hb hc d) rfl ho hp st
theorem acmpneT {o : Int} {i j pc' : Nat} (d : decode B.2.1 pc = .ok (.if_acmp .ne o, 3)) (hp : ((pc : Int) + o).toNat = pc') (ho : 0 ≤ (pc : Int) + o) (hij : ¬ i = j) (hr : WP l Z a0 n0 B R k n pc' L S H Q) : WP l Z a0 n0 B R k n pc L (.ref j :: .ref i :: S) H Q :=
  pure hr fun h hx hc st => XT.acmpYes h hx rfl (pc0 := pc) rfl (hb hc d) rfl rfl rfl (by simp [XT.acmp, lf, hij]) ho hp st
theorem icmp_eq {x y : Int32} {o : Int} {pc' : Nat} (d : decode B.2.1 pc = .ok (.if_icmp .eq o, 3)) (hp : ((pc : Int) + o).toNat = pc') (ho : 0 ≤ (pc : Int) + o) (h1 : x = y → WP l Z a0 n0 B R k n pc' L S H Q) (h2 : ¬ x = y → WP l Z a0 n0 B R k n (pc + 3) L S H Q) : WP l Z a0 n0 B R k n pc L (.int y :: .int x :: S) H Q :=
  if q : cP .eq x y then icmpT d hp ho q (h1 q) else icmpF d q (h2 q)
theorem if_eq {x : Int32} {o : Int} {pc' : Nat} (d : decode B.2.1 pc = .ok (.ifCond .eq o, 3)) (hp : ((pc : Int) + o).toNat = pc') (ho : 0 ≤ (pc : Int) + o) (h1 : x = 0 → WP l Z a0 n0 B R k n pc' L S H Q) (h2 : ¬ x = 0 → WP l Z a0 n0 B R k n (pc + 3) L S H Q) : WP l Z a0 n0 B R k n pc L (.int x :: S) H Q :=
  if q : cP .eq x 0 then ifT d hp ho q (h1 q) else ifF d q (h2 q)
theorem lcmp_eq {x y : Int64} {o : Int} {pc' : Nat} (d1 : decode B.2.1 pc = .ok (.lcmp, 1)) (d : decode B.2.1 (pc + 1) = .ok (.ifCond .eq o, 3)) (hp : (((pc + 1 : Nat) : Int) + o).toNat = pc') (ho : 0 ≤ ((pc + 1 : Nat) : Int) + o) (h1 : x = y → WP l Z a0 n0 B R k n pc' L S H Q) (h2 : ¬ x = y → WP l Z a0 n0 B R k n (pc + 4) L S H Q) : WP l Z a0 n0 B R k n pc L (.long y :: .long x :: S) H Q :=
  if q : cPL .eq x y then lcmpT d1 d hp ho q (h1 q) else lcmpF d1 d q (h2 q)
theorem icmp_ne {x y : Int32} {o : Int} {pc' : Nat} (d : decode B.2.1 pc = .ok (.if_icmp .ne o, 3)) (hp : ((pc : Int) + o).toNat = pc') (ho : 0 ≤ (pc : Int) + o) (h1 : ¬ x = y → WP l Z a0 n0 B R k n pc' L S H Q) (h2 : x = y → WP l Z a0 n0 B R k n (pc + 3) L S H Q) : WP l Z a0 n0 B R k n pc L (.int y :: .int x :: S) H Q :=
  if q : cP .ne x y then icmpT d hp ho q (h1 q) else icmpF d q (h2 (Decidable.not_not.mp q))
theorem if_ne {x : Int32} {o : Int} {pc' : Nat} (d : decode B.2.1 pc = .ok (.ifCond .ne o, 3)) (hp : ((pc : Int) + o).toNat = pc') (ho : 0 ≤ (pc : Int) + o) (h1 : ¬ x = 0 → WP l Z a0 n0 B R k n pc' L S H Q) (h2 : x = 0 → WP l Z a0 n0 B R k n (pc + 3) L S H Q) : WP l Z a0 n0 B R k n pc L (.int x :: S) H Q :=
  if q : cP .ne x 0 then ifT d hp ho q (h1 q) else ifF d q (h2 (Decidable.not_not.mp q))
theorem lcmp_ne {x y : Int64} {o : Int} {pc' : Nat} (d1 : decode B.2.1 pc = .ok (.lcmp, 1)) (d : decode B.2.1 (pc + 1) = .ok (.ifCond .ne o, 3)) (hp : (((pc + 1 : Nat) : Int) + o).toNat = pc') (ho : 0 ≤ ((pc + 1 : Nat) : Int) + o) (h1 : ¬ x = y → WP l Z a0 n0 B R k n pc' L S H Q) (h2 : x = y → WP l Z a0 n0 B R k n (pc + 4) L S H Q) : WP l Z a0 n0 B R k n pc L (.long y :: .long x :: S) H Q :=
  if q : cPL .ne x y then lcmpT d1 d hp ho q (h1 q) else lcmpF d1 d q (h2 (Decidable.not_not.mp q))
theorem icmp_lt {x y : Int32} {o : Int} {pc' : Nat} (d : decode B.2.1 pc = .ok (.if_icmp .lt o, 3)) (hp : ((pc : Int) + o).toNat = pc') (ho : 0 ≤ (pc : Int) + o) (h1 : x < y → WP l Z a0 n0 B R k n pc' L S H Q) (h2 : ¬ x < y → WP l Z a0 n0 B R k n (pc + 3) L S H Q) : WP l Z a0 n0 B R k n pc L (.int y :: .int x :: S) H Q :=
  if q : cP .lt x y then icmpT d hp ho q (h1 q) else icmpF d q (h2 q)
theorem if_lt {x : Int32} {o : Int} {pc' : Nat} (d : decode B.2.1 pc = .ok (.ifCond .lt o, 3)) (hp : ((pc : Int) + o).toNat = pc') (ho : 0 ≤ (pc : Int) + o) (h1 : x < 0 → WP l Z a0 n0 B R k n pc' L S H Q) (h2 : ¬ x < 0 → WP l Z a0 n0 B R k n (pc + 3) L S H Q) : WP l Z a0 n0 B R k n pc L (.int x :: S) H Q :=
  if q : cP .lt x 0 then ifT d hp ho q (h1 q) else ifF d q (h2 q)
theorem lcmp_lt {x y : Int64} {o : Int} {pc' : Nat} (d1 : decode B.2.1 pc = .ok (.lcmp, 1)) (d : decode B.2.1 (pc + 1) = .ok (.ifCond .lt o, 3)) (hp : (((pc + 1 : Nat) : Int) + o).toNat = pc') (ho : 0 ≤ ((pc + 1 : Nat) : Int) + o) (h1 : x < y → WP l Z a0 n0 B R k n pc' L S H Q) (h2 : ¬ x < y → WP l Z a0 n0 B R k n (pc + 4) L S H Q) : WP l Z a0 n0 B R k n pc L (.long y :: .long x :: S) H Q :=
  if q : cPL .lt x y then lcmpT d1 d hp ho q (h1 q) else lcmpF d1 d q (h2 q)
theorem icmp_ge {x y : Int32} {o : Int} {pc' : Nat} (d : decode B.2.1 pc = .ok (.if_icmp .ge o, 3)) (hp : ((pc : Int) + o).toNat = pc') (ho : 0 ≤ (pc : Int) + o) (h1 : ¬ x < y → WP l Z a0 n0 B R k n pc' L S H Q) (h2 : x < y → WP l Z a0 n0 B R k n (pc + 3) L S H Q) : WP l Z a0 n0 B R k n pc L (.int y :: .int x :: S) H Q :=
  if q : cP .ge x y then icmpT d hp ho q (h1 q) else icmpF d q (h2 (Decidable.not_not.mp q))
theorem if_ge {x : Int32} {o : Int} {pc' : Nat} (d : decode B.2.1 pc = .ok (.ifCond .ge o, 3)) (hp : ((pc : Int) + o).toNat = pc') (ho : 0 ≤ (pc : Int) + o) (h1 : ¬ x < 0 → WP l Z a0 n0 B R k n pc' L S H Q) (h2 : x < 0 → WP l Z a0 n0 B R k n (pc + 3) L S H Q) : WP l Z a0 n0 B R k n pc L (.int x :: S) H Q :=
  if q : cP .ge x 0 then ifT d hp ho q (h1 q) else ifF d q (h2 (Decidable.not_not.mp q))
theorem lcmp_ge {x y : Int64} {o : Int} {pc' : Nat} (d1 : decode B.2.1 pc = .ok (.lcmp, 1)) (d : decode B.2.1 (pc + 1) = .ok (.ifCond .ge o, 3)) (hp : (((pc + 1 : Nat) : Int) + o).toNat = pc') (ho : 0 ≤ ((pc + 1 : Nat) : Int) + o) (h1 : ¬ x < y → WP l Z a0 n0 B R k n pc' L S H Q) (h2 : x < y → WP l Z a0 n0 B R k n (pc + 4) L S H Q) : WP l Z a0 n0 B R k n pc L (.long y :: .long x :: S) H Q :=
  if q : cPL .ge x y then lcmpT d1 d hp ho q (h1 q) else lcmpF d1 d q (h2 (Decidable.not_not.mp q))
theorem icmp_gt {x y : Int32} {o : Int} {pc' : Nat} (d : decode B.2.1 pc = .ok (.if_icmp .gt o, 3)) (hp : ((pc : Int) + o).toNat = pc') (ho : 0 ≤ (pc : Int) + o) (h1 : y < x → WP l Z a0 n0 B R k n pc' L S H Q) (h2 : ¬ y < x → WP l Z a0 n0 B R k n (pc + 3) L S H Q) : WP l Z a0 n0 B R k n pc L (.int y :: .int x :: S) H Q :=
  if q : cP .gt x y then icmpT d hp ho q (h1 q) else icmpF d q (h2 q)
theorem if_gt {x : Int32} {o : Int} {pc' : Nat} (d : decode B.2.1 pc = .ok (.ifCond .gt o, 3)) (hp : ((pc : Int) + o).toNat = pc') (ho : 0 ≤ (pc : Int) + o) (h1 : 0 < x → WP l Z a0 n0 B R k n pc' L S H Q) (h2 : ¬ 0 < x → WP l Z a0 n0 B R k n (pc + 3) L S H Q) : WP l Z a0 n0 B R k n pc L (.int x :: S) H Q :=
  if q : cP .gt x 0 then ifT d hp ho q (h1 q) else ifF d q (h2 q)
theorem lcmp_gt {x y : Int64} {o : Int} {pc' : Nat} (d1 : decode B.2.1 pc = .ok (.lcmp, 1)) (d : decode B.2.1 (pc + 1) = .ok (.ifCond .gt o, 3)) (hp : (((pc + 1 : Nat) : Int) + o).toNat = pc') (ho : 0 ≤ ((pc + 1 : Nat) : Int) + o) (h1 : y < x → WP l Z a0 n0 B R k n pc' L S H Q) (h2 : ¬ y < x → WP l Z a0 n0 B R k n (pc + 4) L S H Q) : WP l Z a0 n0 B R k n pc L (.long y :: .long x :: S) H Q :=
  if q : cPL .gt x y then lcmpT d1 d hp ho q (h1 q) else lcmpF d1 d q (h2 q)
theorem icmp_le {x y : Int32} {o : Int} {pc' : Nat} (d : decode B.2.1 pc = .ok (.if_icmp .le o, 3)) (hp : ((pc : Int) + o).toNat = pc') (ho : 0 ≤ (pc : Int) + o) (h1 : ¬ y < x → WP l Z a0 n0 B R k n pc' L S H Q) (h2 : y < x → WP l Z a0 n0 B R k n (pc + 3) L S H Q) : WP l Z a0 n0 B R k n pc L (.int y :: .int x :: S) H Q :=
  if q : cP .le x y then icmpT d hp ho q (h1 q) else icmpF d q (h2 (Decidable.not_not.mp q))
theorem if_le {x : Int32} {o : Int} {pc' : Nat} (d : decode B.2.1 pc = .ok (.ifCond .le o, 3)) (hp : ((pc : Int) + o).toNat = pc') (ho : 0 ≤ (pc : Int) + o) (h1 : ¬ 0 < x → WP l Z a0 n0 B R k n pc' L S H Q) (h2 : 0 < x → WP l Z a0 n0 B R k n (pc + 3) L S H Q) : WP l Z a0 n0 B R k n pc L (.int x :: S) H Q :=
  if q : cP .le x 0 then ifT d hp ho q (h1 q) else ifF d q (h2 (Decidable.not_not.mp q))
theorem lcmp_le {x y : Int64} {o : Int} {pc' : Nat} (d1 : decode B.2.1 pc = .ok (.lcmp, 1)) (d : decode B.2.1 (pc + 1) = .ok (.ifCond .le o, 3)) (hp : (((pc + 1 : Nat) : Int) + o).toNat = pc') (ho : 0 ≤ ((pc + 1 : Nat) : Int) + o) (h1 : ¬ y < x → WP l Z a0 n0 B R k n pc' L S H Q) (h2 : y < x → WP l Z a0 n0 B R k n (pc + 4) L S H Q) : WP l Z a0 n0 B R k n pc L (.long y :: .long x :: S) H Q :=
  if q : cPL .le x y then lcmpT d1 d hp ho q (h1 q) else lcmpF d1 d q (h2 (Decidable.not_not.mp q))
end
end Jvm.Sh
namespace Jvm.Sh
open Jvm Jvm.ClassFile Sem Op Lib Jvm.Free Jvm.Stand Jvm.LawKit Jvm.RoadKit Bundle
section
variable {l : Launch} {Z : State} {a0 : Array Value} {n0 : Nat} {B : Bdy} {R : Room} {k n pc : Nat} {L : List Slot} {S : List Value} {H : SH} {Q : Option Value → SH → Prop} {W : List Jvm.Cond}
/-! ### the heap -/
theorem lf_default (n0 : Nat) (ty : FieldType) : lf n0 (defaultValue ty) = defaultValue ty := by cases ty <;> rfl
theorem lf_narrow {n0 : Nat} {ty : FieldType} {v : Value} (h : narrow ty v = v) : narrow ty (lf n0 v) = lf n0 v := by
  cases v <;> first | exact h | (cases ty <;> rfl)
theorem lf_fits {n0 : Nat} {ty : FieldType} {v : Value} (h : fits ty v = true) : fits ty (lf n0 v) = true := by
  cases v <;> first | exact h | (cases ty <;> simp [fits, lf] at h ⊢)
theorem ext_push (h : Heap) (c : Cell) : Ext h (h.push c) :=
  ⟨by simp, fun a d e => by rw [Array.getElem?_push_lt (Array.getElem?_eq_some_iff.mp e).1]; exact (Array.getElem?_eq_getElem _).symm.trans e⟩
theorem getfield (hw : ∀ d ∈ W, d.before a0 Z = true) {i idx a j : Nat} {C nm ds : String} {fs : List (String × String × Value)} {v : Value} (w : W[i]? = some (.fieldLink B.1.cls idx C nm ds)) (d : decode B.2.1 pc = .ok (.getfield idx, 3))
    (hH : H[a]? = some (.inl (C, fs))) (hf : fs[j]? = some (nm, ds, v)) (hr : WP l Z a0 n0 B R k n (pc + 3) L (v :: S) H Q) : WP l Z a0 n0 B R k n pc L (.ref a :: S) H Q := by
  intro p e s m args below meth c T locs X hx hc hml hret hlk hZ hown hnm hF hR
  have K := (hR.2 a _ hH).2.2.2 _ (List.mem_of_getElem? hf)
  obtain ⟨T', X', e', st⟩ := getF X hx hZ hown (host := "") (Or.inl (hw _ (List.mem_of_getElem? w))) Via.refl rfl K.2.2 (g := mkF m pc (LL n0 L) ((Value.ref a :: S).map (lf n0))) rfl rfl (hb hc d)
  obtain ⟨t, o, h1, h2⟩ := hr p e s m args below meth c T' locs X' hx hc hml hret hlk hZ hown hnm hF (by rw [e']; exact hR)
  exact ⟨t, o, st _ h1, h2⟩
theorem put_ok {h h' : Heap} {a : Addr} {C nm ds : String} {fs : List (String × String × Value)} {j : Nat} {old v : Value} (K : CellOk Z a0 n0 h a (.inl (C, fs))) (hf : fs[j]? = some (nm, ds, old)) (W' : Wr h h' a (RoadKit.slotOf Z C nm ds) (lf n0 v)) :
    CellOk Z a0 n0 h' a (.inl (C, fs.set j (nm, ds, v))) := by
  obtain ⟨E, I, N, F⟩ := K
  have hj := lt_of_at hf
  have hfm := List.mem_of_getElem? hf
  refine ⟨E.wr W', I, ?_, fun f hfm' => ?_⟩
  · have : (fs.set j (nm, ds, v)).map (·.1) = fs.map (·.1) := by
      rw [List.map_set]
      apply List.ext_getElem? 
      intro i
      by_cases q : i = j
      · subst q
        rw [List.getElem?_set_self (by simpa using hj)]
        simp [hf]
      · rw [List.getElem?_set_ne (Ne.symm q)]
    rw [this]; exact N
  · obtain ⟨i, hi⟩ := List.getElem?_of_mem hfm'
    by_cases q : i = j
    · subst q
      rw [List.getElem?_set_self hj] at hi
      cases hi
      exact ⟨(F _ hfm).1, (F _ hfm).2.1, (F _ hfm).2.2.same W'⟩
    · rw [List.getElem?_set_ne (Ne.symm q)] at hi
      have hm := List.mem_of_getElem? hi
      obtain ⟨t1, ht1⟩ := (F _ hm).2.1
      obtain ⟨t2, ht2⟩ := (F _ hfm).2.1
      refine ⟨(F _ hm).1, (F _ hm).2.1, (F _ hm).2.2.other W' (Or.inr (slot_ne (F _ hm).1 (F _ hfm).1 (fun e => q ?_) ht1 ht2))⟩
      have n1 : (fs.map (·.1))[i]? = some f.1 := by simp [hi]
      have n2 : (fs.map (·.1))[j]? = some nm := by simp [hf]
      have li := lt_of_at n1
      have lj := lt_of_at n2
      refine (List.getElem_inj (h₀ := li) (h₁ := lj) N).mp ?_
      have e1 := (List.getElem?_eq_some_iff.mp n1).2
      have e2 := (List.getElem?_eq_some_iff.mp n2).2
      rw [e1, e2]; exact e
theorem putfield' (hw : ∀ d ∈ W, d.before a0 Z = true) {i i2 idx a j : Nat} {C nm ds : String} {fs fs' : List (String × String × Value)} {old v : Value} {ty : FieldType} {H' : SH} (w : W[i]? = some (.fieldLink B.1.cls idx C nm ds))
    (w2 : W[i2]? = some (.lays C C nm ds) ∨ (W[i2]? = some (.laysFinal C C nm ds) ∧ B.1.cls = C ∧ B.1.name = "<init>")) (d : decode B.2.1 pc = .ok (.putfield idx, 3))
    (hH : H[a]? = some (.inl (C, fs))) (hf : fs[j]? = some (nm, ds, old)) (hty : parseFieldDescriptor ds = some ty) (hn : narrow ty v = v) (hfit : fits ty v = true) (hset1 : fs.set j (nm, ds, v) = fs') (hset : H.set a (.inl (C, fs')) = H')
    (hr : WP l Z a0 n0 B R k n (pc + 3) L S H' Q) : WP l Z a0 n0 B R k n pc L (v :: .ref a :: S) H Q := by
  intro p e s m args below meth c T locs X hx hc hml hret hlk hZ hown hnm hF hR
  have K0 := hR.2 a _ hH
  have K := K0.2.2.2 _ (List.mem_of_getElem? hf)
  obtain ⟨kk, hk⟩ := K0.2.1
  obtain ⟨T', h', X', e', W', st⟩ := putF X hx hZ hown (host := "") (Or.inl (hw _ (List.mem_of_getElem? w))) Via.refl rfl K.2.2 K0.1 (w2.imp (fun q => hw _ (List.mem_of_getElem? q)) (fun q => ⟨hw _ (List.mem_of_getElem? q.1), q.2.1, hnm.trans q.2.2⟩)) hk hty (lf_narrow hn) (lf_fits hfit) (g := mkF m pc (LL n0 L) ((v :: Value.ref a :: S).map (lf n0))) rfl rfl (hb hc d)
  have hR' : Rep Z a0 n0 T'.heap H' := by
    rw [e', ← hset, ← hset1]
    exact hR.set W' (lt_of_at hH) (put_ok K0 hf W')
  obtain ⟨t, o, h1, h2⟩ := hr p e s m args below meth c T' _ X' hx hc hml hret hlk hZ hown hnm (Fr.snoc X' hF (Nat.le_add_right _ _)) hR'
  exact ⟨t, o, st _ h1, h2⟩
theorem putfield (hw : ∀ d ∈ W, d.before a0 Z = true) {i i2 idx a j : Nat} {C nm ds : String} {fs fs' : List (String × String × Value)} {old v : Value} {ty : FieldType} {H' : SH} (w : W[i]? = some (.fieldLink B.1.cls idx C nm ds))
    (w2 : W[i2]? = some (.lays C C nm ds)) (d : decode B.2.1 pc = .ok (.putfield idx, 3))
    (hH : H[a]? = some (.inl (C, fs))) (hf : fs[j]? = some (nm, ds, old)) (hty : parseFieldDescriptor ds = some ty) (hn : narrow ty v = v) (hfit : fits ty v = true) (hset1 : fs.set j (nm, ds, v) = fs') (hset : H.set a (.inl (C, fs')) = H')
    (hr : WP l Z a0 n0 B R k n (pc + 3) L S H' Q) : WP l Z a0 n0 B R k n pc L (v :: .ref a :: S) H Q := putfield' hw w (Or.inl w2) d hH hf hty hn hfit hset1 hset hr
theorem putfieldF (hw : ∀ d ∈ W, d.before a0 Z = true) {i i2 idx a j : Nat} {C nm ds : String} {fs fs' : List (String × String × Value)} {old v : Value} {ty : FieldType} {H' : SH} (w : W[i]? = some (.fieldLink B.1.cls idx C nm ds))
    (w2 : W[i2]? = some (.laysFinal C C nm ds)) (hC : B.1.cls = C) (hI : B.1.name = "<init>") (d : decode B.2.1 pc = .ok (.putfield idx, 3))
    (hH : H[a]? = some (.inl (C, fs))) (hf : fs[j]? = some (nm, ds, old)) (hty : parseFieldDescriptor ds = some ty) (hn : narrow ty v = v) (hfit : fits ty v = true) (hset1 : fs.set j (nm, ds, v) = fs') (hset : H.set a (.inl (C, fs')) = H')
    (hr : WP l Z a0 n0 B R k n (pc + 3) L S H' Q) : WP l Z a0 n0 B R k n pc L (v :: .ref a :: S) H Q := putfield' hw w (Or.inr ⟨w2, hC, hI⟩) d hH hf hty hn hfit hset1 hset hr
theorem newobj (hw : ∀ d ∈ W, d.before a0 Z = true) {i1 i2 i3 idx cnt a k' n' : Nat} {C : String} {fs : List (String × String × Value)} {H' : SH} (w1 : W[i1]? = some (.classLink B.1.cls idx C)) (w2 : W[i2]? = some (.instantiable C cnt)) (w3 : W[i3]? = some (.initialized C)) (d : decode B.2.1 pc = .ok (.new idx, 3))
    (hfs : ∀ f ∈ fs, (.lays C C f.1 f.2.1 ∈ W ∨ .laysFinal C C f.1 f.2.1 ∈ W) ∧ ∃ ty, parseFieldDescriptor f.2.1 = some ty ∧ defaultValue ty = f.2.2) (hnd : (fs.map (·.1)).Nodup) (hc : k + 1 ≤ R.cells) (hl : n + cnt ≤ R.slots) (hk : k + 1 = k') (hn : n + cnt = n') (hlen : H.length = a) (happ : H ++ [.inl (C, fs)] = H')
    (hr : WP l Z a0 n0 B R k' n' (pc + 3) L (.ref a :: S) H' Q) : WP l Z a0 n0 B R k n pc L S H Q := by
  intro p e s m args below meth c T locs X hx hc' hml hret hlk hZ hown hnm hF hR
  subst hk hn hlen happ
  have v1 := hw _ (List.mem_of_getElem? w1)
  have v2 := hw _ (List.mem_of_getElem? w2)
  have v3 := hw _ (List.mem_of_getElem? w3)
  obtain ⟨vm', cC, kC, h1, h2, h3, h4, X', st⟩ := X.newCold hx hown (mv hZ v1) (mv hZ v2) (mv hZ v3) (g := mkF m pc (LL n0 L) (S.map (lf n0))) rfl (hb hc' d) hc hl
  rw [hZ.alike.findClass] at h1
  obtain ⟨kZ, z1, -⟩ := Vm.findClass_spec h1
  obtain ⟨kx, z2, z3⟩ := hZ.alike.2.2 _ _ z1
  cases h2.symm.trans z2
  have ei : kC.instanceTypes = kZ.instanceTypes := by rw [z3]
  have hN : (T.heap.push { cls := cC, slots := kC.instanceTypes.map defaultValue, vm := .none })[T.heap.size]? = some { cls := cC, slots := kC.instanceTypes.map defaultValue, vm := .none } := by simp
  have E : Exa Z (T.heap.push { cls := cC, slots := kC.instanceTypes.map defaultValue, vm := .none }) T.heap.size C := ⟨_, kZ, hN, h1, z1, rfl, fun _ => by simp [ei]⟩
  have hR' : Rep Z a0 n0 (T.heap.push { cls := cC, slots := kC.instanceTypes.map defaultValue, vm := .none }) (H ++ [.inl (C, fs)]) := by
    refine hR.push (ext_push _ _) (by simp) ⟨E, ⟨_, v2⟩, hnd, fun f hf => ?_⟩
    obtain ⟨hL, ty, ht, hdv⟩ := hfs f hf
    have LD : Laid Z a0 C C f.1 f.2.1 := hL.imp (fun q => hw _ q) (fun q => hw _ q)
    refine ⟨LD, ⟨ty, ht⟩, ?_⟩
    obtain ⟨c1, k1, cf, kf, i, fd, b1, b2, b3, b4, b5, b6, -⟩ := LD.spec
    cases h1.symm.trans b1
    cases z1.symm.trans b2
    rw [← hdv, lf_default]
    exact ⟨_, cf, kf, i, fd, hN, b3, b4, by simp, rfl, b5, by simp [ei, b6, (State.fieldFound?_type b3 ht).2]⟩
  obtain ⟨t, o, g1, g2⟩ := hr p e s m args below meth c _ locs X' hx hc' hml hret hlk hZ hown hnm hF hR'
  refine ⟨t, o, st _ ?_, g2⟩
  rw [hR.1]
  exact g1
theorem newarr (hw : ∀ d ∈ W, d.before a0 Z = true) {i N cap a k' n' : Nat} {aty : ArrayType} {ty : FieldType} {dv : Value} {vs : List Value} {x : Int32} {H' : SH} (w : W[i]? = some (.arrayClass ty)) (hty : newarray.typeOf aty = ty) (d : decode B.2.1 pc = .ok (.newarray aty, 2))
    (hdv : defaultValue ty = dv) (hx0 : ¬ x < 0) (hN : x.toNatClampNeg = N) (hvs : List.replicate N dv = vs) (hcap : N ≤ cap) (hb' : cap * 8 ≤ 536870912) (hc : k + 1 ≤ R.cells) (hl : n + cap ≤ R.slots) (hk : k + 1 = k') (hn : n + cap = n') (hlen : H.length = a) (happ : H ++ [.inr (ty, vs)] = H')
    (hr : WP l Z a0 n0 B R k' n' (pc + 2) L (.ref a :: S) H' Q) : WP l Z a0 n0 B R k n pc L (.int x :: S) H Q := by
  intro p e s m args below meth c T locs X hx hc' hml hret hlk hZ hown hnm hF hR
  subst hk hn hlen happ hty hN hdv hvs
  have v1 := hw _ (List.mem_of_getElem? w)
  have hcb : componentBytes (newarray.typeOf aty) ≤ 8 := by cases aty <;> decide
  obtain ⟨cA, kA, comp, h1, h2, h3, X', st⟩ := X.newarrayPrim hx (mvA hZ v1) (g := mkF m pc (LL n0 L) ((Value.int x :: S).map (lf n0))) rfl (hb hc' d) rfl hx0 (Nat.le_trans (Nat.mul_le_mul hcap hcb) hb') hc (by omega)
  rw [hZ.alike.findClass] at h1
  obtain ⟨kZ, z1, -⟩ := Vm.findClass_spec h1
  obtain ⟨kx, z2, z3⟩ := hZ.alike.2.2 _ _ z1
  cases h2.symm.trans z2
  have hR' : Rep Z a0 n0 (T.heap.push { cls := cA, slots := Array.replicate x.toNatClampNeg (defaultValue (newarray.typeOf aty)), vm := .none }) (H ++ [.inr (newarray.typeOf aty, List.replicate x.toNatClampNeg (defaultValue (newarray.typeOf aty)))]) := by
    refine hR.push (ext_push _ _) (by simp) ⟨_, ⟨by simp; rfl, ⟨by simp, kZ, z1, comp, by rw [← h3, z3]⟩, by simp⟩, ?_, ?_⟩
    · apply Array.toList_inj.mp
      simp [lf_default]
    · have := (back32 hx0).2
      simpa using this
  obtain ⟨t, o, g1, g2⟩ := hr p e s m args below meth c _ locs (X'.more (Nat.le_refl _) (by omega)) hx hc' hml hret hlk hZ hown hnm hF hR'
  refine ⟨t, o, st _ ?_, g2⟩
  rw [hR.1]
  exact g1
theorem arr_at {h : Heap} {a : Nat} {ty : FieldType} {vs : List Value} {j : Int32} {jn : Nat} (hR : Rep Z a0 n0 h H) (hH : H[a]? = some (.inr (ty, vs))) (hj0 : ¬ j < 0) (hj : j.toNatClampNeg = jn) (hlt : jn < vs.length) :
    ∃ c : Cell, Arr Z h (n0 + a) c ty ∧ c.slots = (vs.map (lf n0)).toArray ∧ vs.length < 2 ^ 31 ∧ ¬ (j < 0 ∨ c.slots.size ≤ j.toNatClampNeg) := by
  obtain ⟨c, A, e, hl⟩ := hR.2 a _ hH
  refine ⟨c, A, e, hl, fun q => q.elim hj0 fun q => ?_⟩
  rw [e, hj] at q
  simp at q
  omega
theorem load_at {c : Cell} {vs : List Value} {j : Int32} {jn : Nat} {v : Value} (e : c.slots = (vs.map (lf n0)).toArray) (hj : j.toNatClampNeg = jn) (hv : vs[jn]? = some v) : c.slots[j.toNatClampNeg]? = some (lf n0 v) := by
  rw [e, hj]; simp [hv]
theorem iaload {a jn : Nat} {vs : List Value} {j : Int32} {v : Value} (d : decode B.2.1 pc = .ok (.iaload, 1)) (hH : H[a]? = some (.inr (.int, vs))) (hj0 : ¬ j < 0) (hj : j.toNatClampNeg = jn) (hv : vs[jn]? = some v)
    (hr : WP l Z a0 n0 B R k n (pc + 1) L (v :: S) H Q) : WP l Z a0 n0 B R k n pc L (.int j :: .ref a :: S) H Q := by
  intro p e s m args below meth c T locs X hx hc hml hret hlk hZ hown hnm hF hR
  obtain ⟨cl, A, es, -, hin⟩ := arr_at hR hH hj0 hj (lt_of_at hv)
  obtain ⟨t, o, h1, h2⟩ := hr p e s m args below meth c T locs X hx hc hml hret hlk hZ hown hnm hF hR
  exact ⟨t, o, X.iaload hx A.1 (State.isArrayOf_alike hZ.alike A.2.1) A.2.2 hin (load_at es hj hv) (g := mkF m pc (LL n0 L) ((Value.int j :: Value.ref a :: S).map (lf n0))) rfl rfl (hb hc d) _ h1, h2⟩
theorem laload {a jn : Nat} {vs : List Value} {j : Int32} {v : Value} (d : decode B.2.1 pc = .ok (.laload, 1)) (hH : H[a]? = some (.inr (.long, vs))) (hj0 : ¬ j < 0) (hj : j.toNatClampNeg = jn) (hv : vs[jn]? = some v)
    (hr : WP l Z a0 n0 B R k n (pc + 1) L (v :: S) H Q) : WP l Z a0 n0 B R k n pc L (.int j :: .ref a :: S) H Q := by
  intro p e s m args below meth c T locs X hx hc hml hret hlk hZ hown hnm hF hR
  obtain ⟨cl, A, es, -, hin⟩ := arr_at hR hH hj0 hj (lt_of_at hv)
  obtain ⟨t, o, h1, h2⟩ := hr p e s m args below meth c T locs X hx hc hml hret hlk hZ hown hnm hF hR
  exact ⟨t, o, X.laload hx A.1 (State.isArrayOf_alike hZ.alike A.2.1) A.2.2 hin (load_at es hj hv) (g := mkF m pc (LL n0 L) ((Value.int j :: Value.ref a :: S).map (lf n0))) rfl rfl (hb hc d) _ h1, h2⟩
theorem baload {a jn : Nat} {vs : List Value} {j : Int32} {v : Value} (d : decode B.2.1 pc = .ok (.baload, 1)) (hH : H[a]? = some (.inr (.byte, vs))) (hj0 : ¬ j < 0) (hj : j.toNatClampNeg = jn) (hv : vs[jn]? = some v)
    (hr : WP l Z a0 n0 B R k n (pc + 1) L (v :: S) H Q) : WP l Z a0 n0 B R k n pc L (.int j :: .ref a :: S) H Q := by
  intro p e s m args below meth c T locs X hx hc hml hret hlk hZ hown hnm hF hR
  obtain ⟨cl, A, es, -, hin⟩ := arr_at hR hH hj0 hj (lt_of_at hv)
  obtain ⟨t, o, h1, h2⟩ := hr p e s m args below meth c T locs X hx hc hml hret hlk hZ hown hnm hF hR
  exact ⟨t, o, X.baloadBytes hx A.1 (State.isArrayOf_alike hZ.alike A.2.1) A.2.2 hin (load_at es hj hv) (g := mkF m pc (LL n0 L) ((Value.int j :: Value.ref a :: S).map (lf n0))) rfl rfl (hb hc d) _ h1, h2⟩
theorem set_rep {h h' : Heap} {a jn : Nat} {ty : FieldType} {vs vs' : List Value} {c : Cell} {v : Value} {H' : SH} (hR : Rep Z a0 n0 h H) (hH : H[a]? = some (.inr (ty, vs))) (A : Arr Z h (n0 + a) c ty) (es : c.slots = (vs.map (lf n0)).toArray) (hlen : vs.length < 2 ^ 31) (W' : Wr h h' (n0 + a) jn (lf n0 v))
    (hset : vs.set jn v = vs') (hset2 : H.set a (.inr (ty, vs')) = H') : Rep Z a0 n0 h' H' := by
  subst hset hset2
  refine hR.set W' (lt_of_at hH) ⟨_, A.same W', ?_, by simpa using hlen⟩
  simp only [Cell.setSlot, es]
  apply Array.toList_inj.mp
  simp [List.map_set]
theorem iastore {a jn : Nat} {vs vs' : List Value} {j x : Int32} {H' : SH} (d : decode B.2.1 pc = .ok (.iastore, 1)) (hH : H[a]? = some (.inr (.int, vs))) (hj0 : ¬ j < 0) (hj : j.toNatClampNeg = jn) (hlt : jn < vs.length) (hset : vs.set jn (.int x) = vs') (hset2 : H.set a (.inr (.int, vs')) = H')
    (hr : WP l Z a0 n0 B R k n (pc + 1) L S H' Q) : WP l Z a0 n0 B R k n pc L (.int x :: .int j :: .ref a :: S) H Q := by
  intro p e s m args below meth c T locs X hx hc hml hret hlk hZ hown hnm hF hR
  obtain ⟨cl, A, es, hlen, hin⟩ := arr_at hR hH hj0 hj hlt
  obtain ⟨T', h', X', e', W', st⟩ := stI X hx hZ rfl A hin (g := mkF m pc (LL n0 L) ((Value.int x :: Value.int j :: Value.ref a :: S).map (lf n0))) rfl rfl (hb hc d)
  obtain ⟨t, o, h1, h2⟩ := hr p e s m args below meth c T' _ X' hx hc hml hret hlk hZ hown hnm (Fr.snoc X' hF (Nat.le_add_right _ _)) (by rw [e']; exact set_rep hR hH A es hlen (hj ▸ W') hset hset2)
  exact ⟨t, o, st _ h1, h2⟩
theorem lastore {a jn : Nat} {vs vs' : List Value} {j : Int32} {x : Int64} {H' : SH} (d : decode B.2.1 pc = .ok (.lastore, 1)) (hH : H[a]? = some (.inr (.long, vs))) (hj0 : ¬ j < 0) (hj : j.toNatClampNeg = jn) (hlt : jn < vs.length) (hset : vs.set jn (.long x) = vs') (hset2 : H.set a (.inr (.long, vs')) = H')
    (hr : WP l Z a0 n0 B R k n (pc + 1) L S H' Q) : WP l Z a0 n0 B R k n pc L (.long x :: .int j :: .ref a :: S) H Q := by
  intro p e s m args below meth c T locs X hx hc hml hret hlk hZ hown hnm hF hR
  obtain ⟨cl, A, es, hlen, hin⟩ := arr_at hR hH hj0 hj hlt
  obtain ⟨T', h', X', e', W', st⟩ := stJ X hx hZ rfl A hin (g := mkF m pc (LL n0 L) ((Value.long x :: Value.int j :: Value.ref a :: S).map (lf n0))) rfl rfl (hb hc d)
  obtain ⟨t, o, h1, h2⟩ := hr p e s m args below meth c T' _ X' hx hc hml hret hlk hZ hown hnm (Fr.snoc X' hF (Nat.le_add_right _ _)) (by rw [e']; exact set_rep hR hH A es hlen (hj ▸ W') hset hset2)
  exact ⟨t, o, st _ h1, h2⟩
theorem bastore {a jn : Nat} {vs vs' : List Value} {j x y : Int32} {H' : SH} (d : decode B.2.1 pc = .ok (.bastore, 1)) (hH : H[a]? = some (.inr (.byte, vs))) (hj0 : ¬ j < 0) (hj : j.toNatClampNeg = jn) (hlt : jn < vs.length) (hy : x.toInt8.toInt32 = y) (hset : vs.set jn (.int y) = vs') (hset2 : H.set a (.inr (.byte, vs')) = H')
    (hr : WP l Z a0 n0 B R k n (pc + 1) L S H' Q) : WP l Z a0 n0 B R k n pc L (.int x :: .int j :: .ref a :: S) H Q := by
  intro p e s m args below meth c T locs X hx hc hml hret hlk hZ hown hnm hF hR
  obtain ⟨cl, A, es, hlen, hin⟩ := arr_at hR hH hj0 hj hlt
  obtain ⟨T', h', X', e', W', st⟩ := stB X hx hZ rfl A hin (g := mkF m pc (LL n0 L) ((Value.int x :: Value.int j :: Value.ref a :: S).map (lf n0))) rfl rfl (hb hc d)
  subst hy
  obtain ⟨t, o, h1, h2⟩ := hr p e s m args below meth c T' _ X' hx hc hml hret hlk hZ hown hnm (Fr.snoc X' hF (Nat.le_add_right _ _)) (by rw [e']; exact set_rep (v := .int x.toInt8.toInt32) hR hH A es hlen (hj ▸ W') hset hset2)
  exact ⟨t, o, st _ h1, h2⟩
theorem arraylength {a : Nat} {ty : FieldType} {vs : List Value} {N : Int32} (d : decode B.2.1 pc = .ok (.arraylength, 1)) (hH : H[a]? = some (.inr (ty, vs))) (hN : vs.length.toInt32 = N) (hr : WP l Z a0 n0 B R k n (pc + 1) L (.int N :: S) H Q) : WP l Z a0 n0 B R k n pc L (.ref a :: S) H Q := by
  intro p e s m args below meth c T locs X hx hc hml hret hlk hZ hown hnm hF hR
  obtain ⟨cl, A, es, -⟩ := hR.2 a _ hH
  obtain ⟨t, o, h1, h2⟩ := hr p e s m args below meth c T locs X hx hc hml hret hlk hZ hown hnm hF hR
  refine ⟨t, o, X.arraylength hx A.1 (State.isArrayOf_alike hZ.alike A.2.1) (g := mkF m pc (LL n0 L) ((Value.ref a :: S).map (lf n0))) rfl rfl (hb hc d) _ ?_, h2⟩
  have e1 : cl.slots.size.toInt32 = N := by rw [es, ← hN]; simp
  rw [e1]
  exact h1
/-! ### returns -/
theorem leave' {p : Program} {e : Env} {s : State} {m : MethodId} {args : Array Value} {below : List Frame} {meth : Method} {c : Code} {T : State} {locs : List Loc} (X : Stand p l e R s m args below meth c T locs k n) (hlk : meth.locks = false) {v : Option Value} (hv : meth.sig.returnType = none → v = none) (hF : Fr n0 locs) (hR : Rep Z a0 n0 T.heap H) (hQ : Q v H) (hk : k ≤ R.cells) (hn : n ≤ R.slots) {g : JFrame}
    (st : ∀ fs, (∀ (f : JFrame) (acts : List Action), f.method = m → f.locked = none → f.entered = [] → (doReturn e (T.setTop f) acts (v.map (lf n0))).1 = T.setFrames fs) → Steps p.tables e below (T.setTop g) (T.setFrames fs)) :
    ∃ t o, Steps p.tables e below (T.setTop g) t ∧ t.status = .running ∧ Ended t below o ∧
      ∃ v L', o = .returned (v.map (lf n0)) ∧ (∃ H', Q v H' ∧ Rep Z a0 n0 t.heap H') ∧ Fr n0 L' ∧ FrameEnd s o t L' R.cells R.slots := by
  obtain ⟨fs, hr, hrun, hended, hW, hsame⟩ := X.leave (v := v.map (lf n0)) (fun q => by rw [hv q]; rfl) hlk
  exact ⟨_, _, st fs hr, hrun, hended, v, locs, rfl, ⟨H, hQ, hR⟩, hF, ⟨_, rfl⟩, hW, hsame.mono hk hn⟩
theorem retI {x : Int32} (d : decode B.2.1 pc = .ok (.ireturn, 1)) (hrt : B.2.2.2 = some .int) (hk : k ≤ R.cells) (hn : n ≤ R.slots) (hQ : Q (some (.int x)) H) : WP l Z a0 n0 B R k n pc L (.int x :: S) H Q := by
  intro p e s m args below meth c T locs X hx hc hml hret hlk hZ hown hnm hF hR
  refine leave' X hlk (v := some (.int x)) (fun q => by rw [hret, hrt] at q; cases q) hF hR hQ hk hn fun fs hr => ?_
  exact retOut X hx (hret.trans hrt) rfl (Or.inl ⟨rfl, Or.inl rfl, x, rfl⟩) (hb hc d) hr
theorem retN {x y : Int32} {ty : FieldType} (d : decode B.2.1 pc = .ok (.ireturn, 1)) (hrt : B.2.2.2 = some ty) (ht : ty = .boolean ∨ ty = .byte ∨ ty = .char ∨ ty = .short) (hy : nar ty x = y) (hk : k ≤ R.cells) (hn : n ≤ R.slots) (hQ : Q (some (.int y)) H) : WP l Z a0 n0 B R k n pc L (.int x :: S) H Q := by
  intro p e s m args below meth c T locs X hx hc hml hret hlk hZ hown hnm hF hR
  subst hy
  refine leave' X hlk (v := some (.int (nar ty x))) (fun q => by rw [hret, hrt] at q; cases q) hF hR hQ hk hn fun fs hr => ?_
  exact RoadKit.retN X hx (hret.trans hrt) ht (hb hc d) hr
theorem retL {x : Int64} (d : decode B.2.1 pc = .ok (.lreturn, 1)) (hrt : B.2.2.2 = some .long) (hk : k ≤ R.cells) (hn : n ≤ R.slots) (hQ : Q (some (.long x)) H) : WP l Z a0 n0 B R k n pc L (.long x :: S) H Q := by
  intro p e s m args below meth c T locs X hx hc hml hret hlk hZ hown hnm hF hR
  refine leave' X hlk (v := some (.long x)) (fun q => by rw [hret, hrt] at q; cases q) hF hR hQ hk hn fun fs hr => ?_
  exact retOut X hx (hret.trans hrt) rfl (Or.inr (Or.inl ⟨rfl, rfl, x, rfl⟩)) (hb hc d) hr
theorem retA {v : Value} {ty : FieldType} (d : decode B.2.1 pc = .ok (.areturn, 1)) (hrt : B.2.2.2 = some ty) (ht : ty.isReference = true) (hv : v.isRef = true) (hk : k ≤ R.cells) (hn : n ≤ R.slots) (hQ : Q (some v) H) : WP l Z a0 n0 B R k n pc L (v :: S) H Q := by
  intro p e s m args below meth c T locs X hx hc hml hret hlk hZ hown hnm hF hR
  refine leave' X hlk (v := some v) (fun q => by rw [hret, hrt] at q; cases q) hF hR hQ hk hn fun fs hr => ?_
  refine retOut X hx (hret.trans hrt) ?_ (Or.inr (Or.inr (Or.inr (Or.inr ⟨rfl, ht, by rw [lf_isRef]; exact hv⟩)))) (hb hc d) hr
  cases ty <;> first | (cases ht; done) | rfl
theorem ret0 (d : decode B.2.1 pc = .ok (.return_, 1)) (hrt : B.2.2.2 = none) (hk : k ≤ R.cells) (hn : n ≤ R.slots) (hQ : Q none H) : WP l Z a0 n0 B R k n pc L [] H Q := by
  intro p e s m args below meth c T locs X hx hc hml hret hlk hZ hown hnm hF hR
  refine leave' X hlk (v := none) (fun _ => rfl) hF hR hQ hk hn fun fs hr => ?_
  exact X.returnOut hx (hret.trans hrt) (hb hc d) hr
/-! ### calls -/
theorem cat_sum (n0 : Nat) (S : List Value) : ((S.map (lf n0)).map fun v => v.category).sum = (S.map fun v => v.category).sum := by
  simp [List.map_map, Function.comp_def, lf_cat]
theorem lf_out (n0 : Nat) (v : Option Value) (S : List Value) : (v.map (lf n0)).toList ++ S.map (lf n0) = (v.toList ++ S).map (lf n0) := by cases v <;> simp
theorem rep_plain {h : Heap} {a : Nat} {c : SC} (hR : Rep Z a0 n0 h H) (hH : H[a]? = some c) : ∃ cell : Cell, h[n0 + a]? = some cell ∧ ∀ q, cell.vm ≠ .statics q := by
  have K := hR.2 a _ hH
  rcases c with ⟨C, fs⟩ | ⟨ty, vs⟩
  · exact K.1.cell
  · obtain ⟨c, A, -⟩ := K
    exact ⟨c, A.1, A.2.1.1⟩
variable {B' : Bdy} {R' : Room} {as S' : List Value} {Q' : Option Value → SH → Prop} {ps : List FieldType} {r : Option FieldType} {i1 i2 i3 i4 i5 idx k' n' : Nat}
theorem callS (hw : ∀ d ∈ W, d.before a0 Z = true) (w1 : W[i1]? = some (.methodLink B.1.cls idx B'.1)) (w2 : W[i2]? = some (.static B'.1)) (w3 : W[i3]? = some (.initialized B'.1.cls)) (w4 : W[i4]? = some (.code B'.1 B'.2.1 B'.2.2.1 B'.2.2.2))
    (hy : B'.1.cls ≠ "java/lang/invoke/MethodHandle" ∧ B'.1.cls ≠ "java/lang/invoke/VarHandle") (hM : Meth l Z a0 n0 B' R' as H Q') (d : decode B.2.1 pc = .ok (.invokestatic idx, 3)) (hS : S = as.reverse ++ S') (hL : L.length = B.2.2.1) (hd : parseMethodDescriptor B'.1.desc = some ⟨ps, r⟩) (hps : as.length = ps.length)
    (hf : R'.frames + 1 ≤ R.frames) (hl : (S'.map fun v => v.category).sum + (B'.2.2.1 + 11) + R'.locals ≤ R.locals) (hc : k + R'.cells ≤ R.cells) (hs : n + R'.slots ≤ R.slots) (hk : k + R'.cells = k') (hn : n + R'.slots = n')
    (hr : ∀ v H', Q' v H' → WP l Z a0 n0 B R k' n' (pc + 3) L (v.toList ++ S') H' Q) : WP l Z a0 n0 B R k n pc L S H Q := by
  intro p e s m args below meth c T locs X hx hc' hml hret hlk hZ hown hnm hF hR
  subst hk hn hS
  have v4 := hw _ (List.mem_of_getElem? w4)
  have v3 := hw _ (List.mem_of_getElem? w3)
  obtain ⟨_, _, ⟨T', L1, k1, n1⟩, -, X', ⟨L2, ⟨v, H', rfl, hq, hR', hF'⟩, e1, e2, e3⟩, st⟩ := Jvm.LawKit.callS X hx hown (mvT hZ (hw _ (List.mem_of_getElem? w1))) (mvT hZ (hw _ (List.mem_of_getElem? w2))) (mvT hZ v3) (mvT hZ v4) hy (W := (S'.map fun v => v.category).sum)
    (backOf (h := T.heap) (Q := fun v h L => ∃ v' H', v = v'.map (lf n0) ∧ Q' v' H' ∧ Rep Z a0 n0 h H' ∧ Fr n0 L) (hM T.heap [] hR) hZ v4 v3 hf hl) (g := mkF m pc (LL n0 L) ((as.reverse ++ S').map (lf n0))) rfl (by rw [hml, ← hL]; simp) (argsL := as.map (lf n0)) (rest := S'.map (lf n0)) (lenOf hd (by simpa using hps)) (by simp) (by show 2 * 0 + _ ≤ _; rw [cat_sum]; omega) (hb hc' d) (fun _ _ => ⟨rfl, rfl, hc, hs⟩)
  dsimp only [Pt.U, Pt.locs, Pt.cells, Pt.slots] at X' e1 e2 e3 hR' st
  subst e1 e2 e3
  obtain ⟨t, o, h1, h2⟩ := hr v H' hq p e s m args below meth c T' _ X' hx hc' hml hret hlk hZ hown hnm (Fr.app hF hF') hR'
  refine ⟨t, o, st _ ?_, h2⟩
  rw [lf_out]
  exact h1
theorem callI {a : Nat} (hw : ∀ d ∈ W, d.before a0 Z = true) (hi : B'.1.name = "<init>") (hret' : B'.2.2.2 = none) (w1 : W[i1]? = some (.methodLink B.1.cls idx B'.1)) (w2 : W[i2]? = some (.instanceMethod B'.1)) (w3 : W[i3]? = some (.initialized B'.1.cls)) (w4 : W[i4]? = some (.code B'.1 B'.2.1 B'.2.2.1 B'.2.2.2))
    (hy : B'.1.cls ≠ "java/lang/invoke/MethodHandle" ∧ B'.1.cls ≠ "java/lang/invoke/VarHandle") (hM : Meth l Z a0 n0 B' R' (.ref a :: as) H Q') (d : decode B.2.1 pc = .ok (.invokespecial idx, 3)) (hS : S = as.reverse ++ .ref a :: S') (hL : L.length = B.2.2.1) (hd : parseMethodDescriptor B'.1.desc = some ⟨ps, r⟩) (hps : as.length = ps.length)
    (hf : R'.frames + 1 ≤ R.frames) (hl : (S'.map fun v => v.category).sum + (B'.2.2.1 + 11) + R'.locals ≤ R.locals) (hc : k + R'.cells ≤ R.cells) (hs : n + R'.slots ≤ R.slots) (hk : k + R'.cells = k') (hn : n + R'.slots = n')
    (hr : ∀ v H', Q' v H' → WP l Z a0 n0 B R k' n' (pc + 3) L (v.toList ++ S') H' Q) : WP l Z a0 n0 B R k n pc L S H Q := by
  intro p e s m args below meth c T locs X hx hc' hml hret hlk hZ hown hnm hF hR
  subst hk hn hS
  have v4 := hw _ (List.mem_of_getElem? w4)
  have v3 := hw _ (List.mem_of_getElem? w3)
  obtain ⟨_, _, ⟨T', L1, k1, n1⟩, -, X', ⟨L2, ⟨v, H', rfl, hq, hR', hF'⟩, e1, e2, e3⟩, st⟩ := X.specialBack hx hi hown (mvT hZ (hw _ (List.mem_of_getElem? w1))) (mvT hZ (hw _ (List.mem_of_getElem? w2))) (bytes := B'.2.1) (maxL := B'.2.2.1) (by rw [← hret']; exact mvT hZ v4) hy (W := (S'.map fun v => v.category).sum)
    (backOf (h := T.heap) (Q := fun v h L => ∃ v' H', v = v'.map (lf n0) ∧ Q' v' H' ∧ Rep Z a0 n0 h H' ∧ Fr n0 L) (hM T.heap [] hR) hZ v4 v3 hf hl) (g := mkF m pc (LL n0 L) ((as.reverse ++ Value.ref a :: S').map (lf n0))) rfl (by rw [hml, ← hL]; simp) (Steps.refl _) (a := n0 + a) (argsL := as.map (lf n0)) (rest := S'.map (lf n0)) (lenOf hd (by simpa using hps)) (by simp [lf]) (by show 2 * 0 + _ ≤ _; rw [cat_sum]; omega) (hb hc' d) (fun _ _ => ⟨rfl, rfl, hc, hs⟩)
  dsimp only [Pt.U, Pt.locs, Pt.cells, Pt.slots] at X' e1 e2 e3 hR' st
  subst e1 e2 e3
  obtain ⟨t, o, h1, h2⟩ := hr v H' hq p e s m args below meth c T' _ X' hx hc' hml hret hlk hZ hown hnm (Fr.app hF hF') hR'
  refine ⟨t, o, st.trans ?_, h2⟩
  rw [lf_out]
  exact h1
theorem callV {a : Nat} {fs : List (String × String × Value)} (hw : ∀ d ∈ W, d.before a0 Z = true) (w1 : W[i1]? = some (.methodLink B.1.cls idx B'.1)) (w5 : W[i5]? = some (.declares B'.1)) (w2 : W[i2]? = some (.instanceMethod B'.1)) {i6 : Nat} (w6 : W[i6]? = some (.selects B'.1.cls B'.1 B'.1)) (w3 : W[i3]? = some (.initialized B'.1.cls)) (w4 : W[i4]? = some (.code B'.1 B'.2.1 B'.2.2.1 B'.2.2.2))
    (hy : B'.1.cls ≠ "java/lang/invoke/MethodHandle" ∧ B'.1.cls ≠ "java/lang/invoke/VarHandle") (hH : H[a]? = some (.inl (B'.1.cls, fs))) (hM : Meth l Z a0 n0 B' R' (.ref a :: as) H Q') (d : decode B.2.1 pc = .ok (.invokevirtual idx, 3)) (hS : S = as.reverse ++ .ref a :: S') (hL : L.length = B.2.2.1) (hd : parseMethodDescriptor B'.1.desc = some ⟨ps, r⟩) (hps : as.length = ps.length)
    (hf : R'.frames + 1 ≤ R.frames) (hl : (S'.map fun v => v.category).sum + (B'.2.2.1 + 11) + R'.locals ≤ R.locals) (hc : k + R'.cells ≤ R.cells) (hs : n + R'.slots ≤ R.slots) (hk : k + R'.cells = k') (hn : n + R'.slots = n')
    (hr : ∀ v H', Q' v H' → WP l Z a0 n0 B R k' n' (pc + 3) L (v.toList ++ S') H' Q) : WP l Z a0 n0 B R k n pc L S H Q := by
  intro p e s m args below meth c T locs X hx hc' hml hret hlk hZ hown hnm hF hR
  subst hk hn hS
  have v4 := hw _ (List.mem_of_getElem? w4)
  have v3 := hw _ (List.mem_of_getElem? w3)
  have v6 := hw _ (List.mem_of_getElem? w6)
  obtain ⟨cB, kB, f1, f2, f3⟩ := isOf hZ rfl (hR.2 a _ hH).1
  obtain ⟨_, _, ⟨T', L1, k1, n1⟩, -, X', ⟨L2, ⟨v, H', rfl, hq, hR', hF'⟩, e1, e2, e3⟩, st⟩ := X.virtualBack hx hown (mvT hZ (hw _ (List.mem_of_getElem? w1))) (mvT hZ (hw _ (List.mem_of_getElem? w5))) (notFace_of_selects (args := #[]) (mvT hZ v6)) (mvT hZ v6) (mvT hZ (hw _ (List.mem_of_getElem? w2))) hy (W := (S'.map fun v => v.category).sum)
    (backOf (h := T.heap) (Q := fun v h L => ∃ v' H', v = v'.map (lf n0) ∧ Q' v' H' ∧ Rep Z a0 n0 h H' ∧ Fr n0 L) (hM T.heap [] hR) hZ v4 v3 hf hl) f1 f3 (g := mkF m pc (LL n0 L) ((as.reverse ++ Value.ref a :: S').map (lf n0))) rfl (by rw [hml, ← hL]; simp) (Steps.refl _) (argsL := as.map (lf n0)) (rest := S'.map (lf n0)) (lenOf hd (by simpa using hps)) (by simp [lf]) (by show 2 * 0 + _ ≤ _; rw [cat_sum]; omega) (hb hc' d) (fun _ _ => ⟨rfl, rfl, hc, hs⟩)
  dsimp only [Pt.U, Pt.locs, Pt.cells, Pt.slots] at X' e1 e2 e3 hR' st
  subst e1 e2 e3
  obtain ⟨t, o, h1, h2⟩ := hr v H' hq p e s m args below meth c T' _ X' hx hc' hml hret hlk hZ hown hnm (Fr.app hF hF') hR'
  refine ⟨t, o, st.trans ?_, h2⟩
  rw [lf_out]
  exact h1
/-- a private instance method: its class is no interface, as some 'instantiable' word of it says -/
theorem callP {a : Nat} {fs : List (String × String × Value)} (hw : ∀ d ∈ W, d.before a0 Z = true) (w1 : W[i1]? = some (.methodLink B.1.cls idx B'.1)) (w2 : W[i2]? = some (.instanceMethod B'.1)) (w5 : W[i5]? = some (.privateMethod B'.1)) {i6 cnt : Nat} (w6 : W[i6]? = some (.instantiable B'.1.cls cnt)) (w3 : W[i3]? = some (.initialized B'.1.cls)) (w4 : W[i4]? = some (.code B'.1 B'.2.1 B'.2.2.1 B'.2.2.2))
    (hy : B'.1.cls ≠ "java/lang/invoke/MethodHandle" ∧ B'.1.cls ≠ "java/lang/invoke/VarHandle") (hH : H[a]? = some (.inl (B'.1.cls, fs))) (hM : Meth l Z a0 n0 B' R' (.ref a :: as) H Q') (d : decode B.2.1 pc = .ok (.invokevirtual idx, 3)) (hS : S = as.reverse ++ .ref a :: S') (hL : L.length = B.2.2.1) (hd : parseMethodDescriptor B'.1.desc = some ⟨ps, r⟩) (hps : as.length = ps.length)
    (hf : R'.frames + 1 ≤ R.frames) (hl : (S'.map fun v => v.category).sum + (B'.2.2.1 + 11) + R'.locals ≤ R.locals) (hc : k + R'.cells ≤ R.cells) (hs : n + R'.slots ≤ R.slots) (hk : k + R'.cells = k') (hn : n + R'.slots = n')
    (hr : ∀ v H', Q' v H' → WP l Z a0 n0 B R k' n' (pc + 3) L (v.toList ++ S') H' Q) : WP l Z a0 n0 B R k n pc L S H Q := by
  intro p e s m args below meth c T locs X hx hc' hml hret hlk hZ hown hnm hF hR
  subst hk hn hS
  have v4 := hw _ (List.mem_of_getElem? w4)
  have v3 := hw _ (List.mem_of_getElem? w3)
  have v2 : (Jvm.Cond.instanceMethod B'.1).before args s = true := mvT hZ (hw _ (List.mem_of_getElem? w2))
  have vp := Cond.privateMethod_at (mvP hZ (hw _ (List.mem_of_getElem? w5)) (args := #[]))
  have v6 : (Jvm.Cond.instantiable B'.1.cls cnt).before args s = true := mv hZ (hw _ (List.mem_of_getElem? w6))
  obtain ⟨cI, kI, j1, j2, j3, j4⟩ := Cond.instantiable_spec v6
  have jI : kI.isInterface = false := (Bool.or_eq_false_iff.mp j4.1).1
  obtain ⟨cell, q1, q2⟩ := rep_plain hR hH
  obtain ⟨_, _, ⟨T', L1, k1, n1⟩, -, X', ⟨L2, ⟨v, H', rfl, hq, hR', hF'⟩, e1, e2, e3⟩, st⟩ := X.privateBack hx hown (mvT hZ (hw _ (List.mem_of_getElem? w1))) v2 (selects_self_of_private j1 j2 jI vp v2 hy) vp (mvT hZ v4) hy (W := (S'.map fun v => v.category).sum)
    (backOf (h := T.heap) (Q := fun v h L => ∃ v' H', v = v'.map (lf n0) ∧ Q' v' H' ∧ Rep Z a0 n0 h H' ∧ Fr n0 L) (hM T.heap [] hR) hZ v4 v3 hf hl) (g := mkF m pc (LL n0 L) ((as.reverse ++ Value.ref a :: S').map (lf n0))) rfl (by rw [hml, ← hL]; simp) (Steps.refl _) (a := n0 + a) q1 q2 (argsL := as.map (lf n0)) (rest := S'.map (lf n0)) (lenOf hd (by simpa using hps)) (by simp [lf]) (by show 2 * 0 + _ ≤ _; rw [cat_sum]; omega) (hb hc' d) (fun _ _ => ⟨rfl, rfl, hc, hs⟩)
  dsimp only [Pt.U, Pt.locs, Pt.cells, Pt.slots] at X' e1 e2 e3 hR' st
  subst e1 e2 e3
  obtain ⟨t, o, h1, h2⟩ := hr v H' hq p e s m args below meth c T' _ X' hx hc' hml hret hlk hZ hown hnm (Fr.app hF hF') hR'
  refine ⟨t, o, st.trans ?_, h2⟩
  rw [lf_out]
  exact h1
theorem initObj {a : Nat} (hw : ∀ d ∈ W, d.before a0 Z = true) (w1 : W[i1]? = some (.methodLink B.1.cls idx Lib.objectInit)) (w2 : W[i2]? = some (.instanceMethod Lib.objectInit)) (w3 : W[i3]? = some (.code Lib.objectInit ⟨#[0xb1]⟩ 1 none)) (d : decode B.2.1 pc = .ok (.invokespecial idx, 3)) (hL : L.length = B.2.2.1)
    (hf : 1 ≤ R.frames) (hl : (S.map fun v => v.category).sum + 12 ≤ R.locals) (hr : WP l Z a0 n0 B R k n (pc + 3) L S H Q) : WP l Z a0 n0 B R k n pc L (.ref a :: S) H Q := by
  intro p e s m args below meth c T locs X hx hc hml hret hlk hZ hown hnm hF hR
  obtain ⟨T', X', e', st⟩ := initO X hx hZ hown (hw _ (List.mem_of_getElem? w1)) (hw _ (List.mem_of_getElem? w2)) (hw _ (List.mem_of_getElem? w3)) rfl (g := mkF m pc (LL n0 L) ((Value.ref a :: S).map (lf n0))) rfl (by rw [hml, ← hL]; simp) (a := n0 + a) (rest := S.map (lf n0)) rfl (hb hc d) hf (W := (S.map fun v => v.category).sum) (by show 2 * 0 + _ ≤ _; rw [cat_sum]; omega) hl
  obtain ⟨t, o, h1, h2⟩ := hr p e s m args below meth c T' locs X' hx hc hml hret hlk hZ hown hnm hF (by rw [e']; exact hR)
  exact ⟨t, o, st _ h1, h2⟩
end
end Jvm.Sh
namespace Jvm.Sh
open Jvm Jvm.ClassFile Sem Op Lib
theorem le {a b : Nat} (h : Nat.ble a b = true) : a ≤ b := Nat.le_of_ble_eq_true h
theorem s1_1 {a0 o : Slot} {L : List Slot} {v : Value} (ho : okS o = true) (hv : v.category = 1) : stOK (a0 :: o :: L) 1 v (a0 :: .val v :: L) := st1 (o := o) rfl ho hv rfl
theorem s1_3 {a0 a1 a2 o : Slot} {L : List Slot} {v : Value} (ho : okS o = true) (hv : v.category = 1) : stOK (a0 :: a1 :: a2 :: o :: L) 3 v (a0 :: a1 :: a2 :: .val v :: L) := st1 (o := o) rfl ho hv rfl
theorem s1_4 {a0 a1 a2 a3 o : Slot} {L : List Slot} {v : Value} (ho : okS o = true) (hv : v.category = 1) : stOK (a0 :: a1 :: a2 :: a3 :: o :: L) 4 v (a0 :: a1 :: a2 :: a3 :: .val v :: L) := st1 (o := o) rfl ho hv rfl
theorem s1_5 {a0 a1 a2 a3 a4 o : Slot} {L : List Slot} {v : Value} (ho : okS o = true) (hv : v.category = 1) : stOK (a0 :: a1 :: a2 :: a3 :: a4 :: o :: L) 5 v (a0 :: a1 :: a2 :: a3 :: a4 :: .val v :: L) := st1 (o := o) rfl ho hv rfl
theorem s1_6 {a0 a1 a2 a3 a4 a5 o : Slot} {L : List Slot} {v : Value} (ho : okS o = true) (hv : v.category = 1) : stOK (a0 :: a1 :: a2 :: a3 :: a4 :: a5 :: o :: L) 6 v (a0 :: a1 :: a2 :: a3 :: a4 :: a5 :: .val v :: L) := st1 (o := o) rfl ho hv rfl
theorem s1_7 {a0 a1 a2 a3 a4 a5 a6 o : Slot} {L : List Slot} {v : Value} (ho : okS o = true) (hv : v.category = 1) : stOK (a0 :: a1 :: a2 :: a3 :: a4 :: a5 :: a6 :: o :: L) 7 v (a0 :: a1 :: a2 :: a3 :: a4 :: a5 :: a6 :: .val v :: L) := st1 (o := o) rfl ho hv rfl
theorem s1_8 {a0 a1 a2 a3 a4 a5 a6 a7 o : Slot} {L : List Slot} {v : Value} (ho : okS o = true) (hv : v.category = 1) : stOK (a0 :: a1 :: a2 :: a3 :: a4 :: a5 :: a6 :: a7 :: o :: L) 8 v (a0 :: a1 :: a2 :: a3 :: a4 :: a5 :: a6 :: a7 :: .val v :: L) := st1 (o := o) rfl ho hv rfl
theorem s1_9 {a0 a1 a2 a3 a4 a5 a6 a7 a8 o : Slot} {L : List Slot} {v : Value} (ho : okS o = true) (hv : v.category = 1) : stOK (a0 :: a1 :: a2 :: a3 :: a4 :: a5 :: a6 :: a7 :: a8 :: o :: L) 9 v (a0 :: a1 :: a2 :: a3 :: a4 :: a5 :: a6 :: a7 :: a8 :: .val v :: L) := st1 (o := o) rfl ho hv rfl
theorem s1_10 {a0 a1 a2 a3 a4 a5 a6 a7 a8 a9 o : Slot} {L : List Slot} {v : Value} (ho : okS o = true) (hv : v.category = 1) : stOK (a0 :: a1 :: a2 :: a3 :: a4 :: a5 :: a6 :: a7 :: a8 :: a9 :: o :: L) 10 v (a0 :: a1 :: a2 :: a3 :: a4 :: a5 :: a6 :: a7 :: a8 :: a9 :: .val v :: L) := st1 (o := o) rfl ho hv rfl
theorem s1_11 {a0 a1 a2 a3 a4 a5 a6 a7 a8 a9 a10 o : Slot} {L : List Slot} {v : Value} (ho : okS o = true) (hv : v.category = 1) : stOK (a0 :: a1 :: a2 :: a3 :: a4 :: a5 :: a6 :: a7 :: a8 :: a9 :: a10 :: o :: L) 11 v (a0 :: a1 :: a2 :: a3 :: a4 :: a5 :: a6 :: a7 :: a8 :: a9 :: a10 :: .val v :: L) := st1 (o := o) rfl ho hv rfl
theorem s1_12 {a0 a1 a2 a3 a4 a5 a6 a7 a8 a9 a10 a11 o : Slot} {L : List Slot} {v : Value} (ho : okS o = true) (hv : v.category = 1) : stOK (a0 :: a1 :: a2 :: a3 :: a4 :: a5 :: a6 :: a7 :: a8 :: a9 :: a10 :: a11 :: o :: L) 12 v (a0 :: a1 :: a2 :: a3 :: a4 :: a5 :: a6 :: a7 :: a8 :: a9 :: a10 :: a11 :: .val v :: L) := st1 (o := o) rfl ho hv rfl
theorem s1_13 {a0 a1 a2 a3 a4 a5 a6 a7 a8 a9 a10 a11 a12 o : Slot} {L : List Slot} {v : Value} (ho : okS o = true) (hv : v.category = 1) : stOK (a0 :: a1 :: a2 :: a3 :: a4 :: a5 :: a6 :: a7 :: a8 :: a9 :: a10 :: a11 :: a12 :: o :: L) 13 v (a0 :: a1 :: a2 :: a3 :: a4 :: a5 :: a6 :: a7 :: a8 :: a9 :: a10 :: a11 :: a12 :: .val v :: L) := st1 (o := o) rfl ho hv rfl
theorem s1_14 {a0 a1 a2 a3 a4 a5 a6 a7 a8 a9 a10 a11 a12 a13 o : Slot} {L : List Slot} {v : Value} (ho : okS o = true) (hv : v.category = 1) : stOK (a0 :: a1 :: a2 :: a3 :: a4 :: a5 :: a6 :: a7 :: a8 :: a9 :: a10 :: a11 :: a12 :: a13 :: o :: L) 14 v (a0 :: a1 :: a2 :: a3 :: a4 :: a5 :: a6 :: a7 :: a8 :: a9 :: a10 :: a11 :: a12 :: a13 :: .val v :: L) := st1 (o := o) rfl ho hv rfl
theorem s1_15 {a0 a1 a2 a3 a4 a5 a6 a7 a8 a9 a10 a11 a12 a13 a14 o : Slot} {L : List Slot} {v : Value} (ho : okS o = true) (hv : v.category = 1) : stOK (a0 :: a1 :: a2 :: a3 :: a4 :: a5 :: a6 :: a7 :: a8 :: a9 :: a10 :: a11 :: a12 :: a13 :: a14 :: o :: L) 15 v (a0 :: a1 :: a2 :: a3 :: a4 :: a5 :: a6 :: a7 :: a8 :: a9 :: a10 :: a11 :: a12 :: a13 :: a14 :: .val v :: L) := st1 (o := o) rfl ho hv rfl
theorem s1_16 {a0 a1 a2 a3 a4 a5 a6 a7 a8 a9 a10 a11 a12 a13 a14 a15 o : Slot} {L : List Slot} {v : Value} (ho : okS o = true) (hv : v.category = 1) : stOK (a0 :: a1 :: a2 :: a3 :: a4 :: a5 :: a6 :: a7 :: a8 :: a9 :: a10 :: a11 :: a12 :: a13 :: a14 :: a15 :: o :: L) 16 v (a0 :: a1 :: a2 :: a3 :: a4 :: a5 :: a6 :: a7 :: a8 :: a9 :: a10 :: a11 :: a12 :: a13 :: a14 :: a15 :: .val v :: L) := st1 (o := o) rfl ho hv rfl
section
variable {α : Type}
theorem ls_0 { o v : α} {L : List α} : (o :: L).set 0 v = v :: L := rfl
theorem ls_1 {a0 o v : α} {L : List α} : (a0 :: o :: L).set 1 v = a0 :: v :: L := rfl
theorem ls_2 {a0 a1 o v : α} {L : List α} : (a0 :: a1 :: o :: L).set 2 v = a0 :: a1 :: v :: L := rfl
theorem ls_3 {a0 a1 a2 o v : α} {L : List α} : (a0 :: a1 :: a2 :: o :: L).set 3 v = a0 :: a1 :: a2 :: v :: L := rfl
theorem ls_4 {a0 a1 a2 a3 o v : α} {L : List α} : (a0 :: a1 :: a2 :: a3 :: o :: L).set 4 v = a0 :: a1 :: a2 :: a3 :: v :: L := rfl
theorem ls_5 {a0 a1 a2 a3 a4 o v : α} {L : List α} : (a0 :: a1 :: a2 :: a3 :: a4 :: o :: L).set 5 v = a0 :: a1 :: a2 :: a3 :: a4 :: v :: L := rfl
theorem ls_6 {a0 a1 a2 a3 a4 a5 o v : α} {L : List α} : (a0 :: a1 :: a2 :: a3 :: a4 :: a5 :: o :: L).set 6 v = a0 :: a1 :: a2 :: a3 :: a4 :: a5 :: v :: L := rfl
theorem ls_7 {a0 a1 a2 a3 a4 a5 a6 o v : α} {L : List α} : (a0 :: a1 :: a2 :: a3 :: a4 :: a5 :: a6 :: o :: L).set 7 v = a0 :: a1 :: a2 :: a3 :: a4 :: a5 :: a6 :: v :: L := rfl
theorem ls_8 {a0 a1 a2 a3 a4 a5 a6 a7 o v : α} {L : List α} : (a0 :: a1 :: a2 :: a3 :: a4 :: a5 :: a6 :: a7 :: o :: L).set 8 v = a0 :: a1 :: a2 :: a3 :: a4 :: a5 :: a6 :: a7 :: v :: L := rfl
theorem ls_9 {a0 a1 a2 a3 a4 a5 a6 a7 a8 o v : α} {L : List α} : (a0 :: a1 :: a2 :: a3 :: a4 :: a5 :: a6 :: a7 :: a8 :: o :: L).set 9 v = a0 :: a1 :: a2 :: a3 :: a4 :: a5 :: a6 :: a7 :: a8 :: v :: L := rfl
theorem ls_10 {a0 a1 a2 a3 a4 a5 a6 a7 a8 a9 o v : α} {L : List α} : (a0 :: a1 :: a2 :: a3 :: a4 :: a5 :: a6 :: a7 :: a8 :: a9 :: o :: L).set 10 v = a0 :: a1 :: a2 :: a3 :: a4 :: a5 :: a6 :: a7 :: a8 :: a9 :: v :: L := rfl
theorem ls_11 {a0 a1 a2 a3 a4 a5 a6 a7 a8 a9 a10 o v : α} {L : List α} : (a0 :: a1 :: a2 :: a3 :: a4 :: a5 :: a6 :: a7 :: a8 :: a9 :: a10 :: o :: L).set 11 v = a0 :: a1 :: a2 :: a3 :: a4 :: a5 :: a6 :: a7 :: a8 :: a9 :: a10 :: v :: L := rfl
theorem ap_0 { v : α} : [] ++ [v] = [v] := rfl
theorem ap_1 {a0 v : α} : [a0] ++ [v] = [a0, v] := rfl
theorem rp_0 {v : α} : List.replicate 0 v = [] := rfl
theorem rp_1 {v : α} : List.replicate 1 v = [v] := rfl
theorem rp_2 {v : α} : List.replicate 2 v = [v, v] := rfl
theorem rp_3 {v : α} : List.replicate 3 v = [v, v, v] := rfl
theorem rp_12 {v : α} : List.replicate 12 v = [v, v, v, v, v, v, v, v, v, v, v, v] := rfl
end
end Jvm.Sh
namespace Jvm.Sh
open Jvm Jvm.ClassFile Jvm.RoadKit
/-! small naturals as ints -/
theorem onToInt {a : Nat} (h : a < 2147483648) : (Int32.ofNat a).toInt = a := Int32.toInt_ofNat_of_lt h
theorem onLt {a b : Nat} (ha : a < 2147483648) (hb : b < 2147483648) : Int32.ofNat a < Int32.ofNat b ↔ a < b := by
  rw [Int32.lt_iff_toInt_lt, onToInt ha, onToInt hb]; omega
theorem onInj {a b : Nat} (ha : a < 2147483648) (hb : b < 2147483648) : Int32.ofNat a = Int32.ofNat b ↔ a = b := by
  rw [← Int32.toInt_inj, onToInt ha, onToInt hb]; omega
theorem onNN {a : Nat} (ha : a < 2147483648) : ¬ Int32.ofNat a < 0 := by
  rw [Int32.lt_iff_toInt_lt, onToInt ha, show (0 : Int32).toInt = 0 from by decide]; omega
theorem onCl {a : Nat} (ha : a < 2147483648) : (Int32.ofNat a).toNatClampNeg = a := by
  rw [Int32.toNatClampNeg, onToInt ha]; omega
theorem onAdd (a b : Nat) : Int32.ofNat a + Int32.ofNat b = Int32.ofNat (a + b) := (Int32.ofNat_add a b).symm
theorem onSucc (a : Nat) : Int32.ofNat a + 1 = Int32.ofNat (a + 1) := onAdd a 1
theorem onSub {a b : Nat} (h : b ≤ a) (ha : a < 2147483648) : Int32.ofNat a - Int32.ofNat b = Int32.ofNat (a - b) := by
  apply Int32.toInt_inj.mp
  have q := c_isub (Int32.ofNat a) (Int32.ofNat b)
  have r := rng32 (Int32.ofNat a - Int32.ofNat b)
  rw [onToInt ha, onToInt (show b < 2147483648 by omega)] at q
  rw [onToInt (show a - b < 2147483648 by omega)]
  omega
theorem onMul {a b : Nat} : Int32.ofNat a * Int32.ofNat b = Int32.ofNat (a * b) := (Int32.ofNat_mul a b).symm
theorem isNat (x : Int32) (h0 : 0 ≤ x.toInt) : ∃ r : Nat, (r : Int) = x.toInt ∧ r < 2147483648 ∧ x = Int32.ofNat r := by
  have := rng32 x
  refine ⟨x.toInt.toNat, by omega, by omega, Int32.toInt_inj.mp ?_⟩
  rw [onToInt (by omega)]
  omega
/-- (x & 0x7fffffff) % m is a natural below m -/
theorem remNat (x m : Int32) (M : Nat) (hm : m.toInt = M) (hM : 0 < M) : ∃ r, r < M ∧ (x &&& 2147483647) % m = Int32.ofNat r := by
  have h := (c_iremV (x &&& 2147483647) m).1 (c_and x 2147483647 (by decide)).1 (by omega)
  obtain ⟨r, h1, h2, h3⟩ := isNat _ h.1
  exact ⟨r, by omega, h3⟩
theorem remNat' (x m : Int32) (M : Nat) (hx : 0 ≤ x.toInt) (hm : m.toInt = M) (hM : 0 < M) : ∃ r, r < M ∧ x % m = Int32.ofNat r := by
  have h := (c_iremV x m).1 hx (by omega)
  obtain ⟨r, h1, h2, h3⟩ := isNat _ h.1
  exact ⟨r, by omega, h3⟩
theorem maskNat (x m : Int32) (k : Nat) (hk : k ≤ 31) (hm : m.toBitVec.toNat = 2 ^ k - 1) : ∃ r, r < 2 ^ k ∧ x &&& m = Int32.ofNat r := by
  have h := c_mask x m k hk hm
  have hp : (0 : Int) < (2 ^ k : Nat) := by have := Nat.two_pow_pos k; omega
  have h1 := Int.emod_nonneg x.toInt (Int.ne_of_gt hp)
  have h2 := Int.emod_lt_of_pos x.toInt hp
  obtain ⟨r, g1, g2, g3⟩ := isNat (x &&& m) (by omega)
  exact ⟨r, by omega, g3⟩
theorem ushrNN (x k : Int32) (n : Nat) (hk : k.toBitVec.toNat % 32 = n) (h0 : 0 < n) : 0 ≤ (Jvm.Free.XT.ushr x k).toInt := by
  have e : (Jvm.Free.XT.ushr x k).toInt = (x.toInt % 4294967296) / (2 ^ n : Nat) := c_iushr x k n hk h0
  rw [e]
  exact Int.ediv_nonneg (Int.emod_nonneg _ (by decide)) (Int.natCast_nonneg _)
theorem i8_idem (x : Int32) : x.toInt8.toInt32.toInt8.toInt32 = x.toInt8.toInt32 := by simp
end Jvm.Sh
namespace Jvm.Pilot.@@N@@
open Jvm Jvm.ClassFile Sem Op Lib Jvm.Free Jvm.Stand Jvm.LawKit Jvm.RoadKit Bundle Jvm.Pilot.@@N@@.Jvm.D
abbrev HW (Z : State) (a0 : Array Value) : Prop := ∀ d ∈ tables_1, d.before a0 Z = true
theorem d1_0 : decode prog_10_method_3_code 0 = .ok (.aload_n 2, 1) := by decide +kernel
theorem d1_1 : decode prog_10_method_3_code 1 = .ok (.astore_n 3, 1) := by decide +kernel
theorem d1_2 : decode prog_10_method_3_code 2 = .ok (.aload_n 3, 1) := by decide +kernel
theorem d1_3 : decode prog_10_method_3_code 3 = .ok (.arraylength, 1) := by decide +kernel
theorem d1_4 : decode prog_10_method_3_code 4 = .ok (.istore 4, 2) := by decide +kernel
theorem d1_6 : decode prog_10_method_3_code 6 = .ok (.iconst 0, 1) := by decide +kernel
theorem d1_7 : decode prog_10_method_3_code 7 = .ok (.istore 5, 2) := by decide +kernel
theorem d1_9 : decode prog_10_method_3_code 9 = .ok (.iload 5, 2) := by decide +kernel
theorem d1_11 : decode prog_10_method_3_code 11 = .ok (.iload 4, 2) := by decide +kernel
theorem d1_13 : decode prog_10_method_3_code 13 = .ok (.if_icmp .ge 35, 3) := by decide +kernel
theorem d1_16 : decode prog_10_method_3_code 16 = .ok (.aload_n 3, 1) := by decide +kernel
theorem d1_17 : decode prog_10_method_3_code 17 = .ok (.iload 5, 2) := by decide +kernel
theorem d1_19 : decode prog_10_method_3_code 19 = .ok (.baload, 1) := by decide +kernel
theorem d1_20 : decode prog_10_method_3_code 20 = .ok (.istore 6, 2) := by decide +kernel
theorem d1_22 : decode prog_10_method_3_code 22 = .ok (.aload_n 0, 1) := by decide +kernel
theorem d1_23 : decode prog_10_method_3_code 23 = .ok (.iload_n 1, 1) := by decide +kernel
theorem d1_24 : decode prog_10_method_3_code 24 = .ok (.iinc 1 1, 3) := by decide +kernel
theorem d1_27 : decode prog_10_method_3_code 27 = .ok (.iload 6, 2) := by decide +kernel
theorem d1_29 : decode prog_10_method_3_code 29 = .ok (.bastore, 1) := by decide +kernel
theorem d1_30 : decode prog_10_method_3_code 30 = .ok (.iload 6, 2) := by decide +kernel
theorem d1_32 : decode prog_10_method_3_code 32 = .ok (.ifCond .ne 10, 3) := by decide +kernel
theorem d1_35 : decode prog_10_method_3_code 35 = .ok (.aload_n 0, 1) := by decide +kernel
theorem d1_36 : decode prog_10_method_3_code 36 = .ok (.iload_n 1, 1) := by decide +kernel
theorem d1_37 : decode prog_10_method_3_code 37 = .ok (.iinc 1 1, 3) := by decide +kernel
theorem d1_40 : decode prog_10_method_3_code 40 = .ok (.iconst (-1), 1) := by decide +kernel
theorem d1_41 : decode prog_10_method_3_code 41 = .ok (.bastore, 1) := by decide +kernel
theorem d1_42 : decode prog_10_method_3_code 42 = .ok (.iinc 5 1, 3) := by decide +kernel
theorem d1_45 : decode prog_10_method_3_code 45 = .ok (.goto (-36), 3) := by decide +kernel
theorem d1_48 : decode prog_10_method_3_code 48 = .ok (.aload_n 0, 1) := by decide +kernel
theorem d1_49 : decode prog_10_method_3_code 49 = .ok (.iload_n 1, 1) := by decide +kernel
theorem d1_50 : decode prog_10_method_3_code 50 = .ok (.iinc 1 1, 3) := by decide +kernel
theorem d1_53 : decode prog_10_method_3_code 53 = .ok (.iconst 0, 1) := by decide +kernel
theorem d1_54 : decode prog_10_method_3_code 54 = .ok (.bastore, 1) := by decide +kernel
theorem d1_55 : decode prog_10_method_3_code 55 = .ok (.aload_n 0, 1) := by decide +kernel
theorem d1_56 : decode prog_10_method_3_code 56 = .ok (.iload_n 1, 1) := by decide +kernel
theorem d1_57 : decode prog_10_method_3_code 57 = .ok (.iinc 1 1, 3) := by decide +kernel
theorem d1_60 : decode prog_10_method_3_code 60 = .ok (.iconst 1, 1) := by decide +kernel
theorem d1_61 : decode prog_10_method_3_code 61 = .ok (.bastore, 1) := by decide +kernel
theorem d1_62 : decode prog_10_method_3_code 62 = .ok (.iload_n 1, 1) := by decide +kernel
theorem d1_63 : decode prog_10_method_3_code 63 = .ok (.ireturn, 1) := by decide +kernel
theorem pn1 : plainName "com/example/gap_table/gaptable/codec/KeyComponents" = true := by first | (simp [plainName, overriddenIn]; done) | decide +kernel
theorem pd1 : parseMethodDescriptor "([BI[B)I" = some ⟨[(.array .byte), .int, (.array .byte)], some .int⟩ := by decide +kernel
def b1 : Sh.Bdy := (⟨"com/example/gap_table/gaptable/codec/KeyComponents", "put", "([BI[B)I"⟩, prog_10_method_3_code, 7, some .int)
def R1 : Room := { frames := 0, cells := 0, slots := 0, locals := 0 }
theorem d2_0 : decode method_4_code 0 = .ok (.iload_n 1, 1) := by decide +kernel
theorem d2_1 : decode method_4_code 1 = .ok (.iload_n 2, 1) := by decide +kernel
theorem d2_2 : decode method_4_code 2 = .ok (.if_icmp .lt 8, 3) := by decide +kernel
theorem d2_5 : decode method_4_code 5 = .ok (.iload_n 1, 1) := by decide +kernel
theorem d2_6 : decode method_4_code 6 = .ok (.iload_n 3, 1) := by decide +kernel
theorem d2_7 : decode method_4_code 7 = .ok (.if_icmp .lt 17, 3) := by decide +kernel
theorem d2_10 : decode method_4_code 10 = .ok (.aload_n 0, 1) := by decide +kernel
theorem d2_11 : decode method_4_code 11 = .ok (.iload_n 1, 1) := by decide +kernel
theorem d2_12 : decode method_4_code 12 = .ok (.baload, 1) := by decide +kernel
theorem d2_13 : decode method_4_code 13 = .ok (.iload 4, 2) := by decide +kernel
theorem d2_15 : decode method_4_code 15 = .ok (.if_icmp .ne 7, 3) := by decide +kernel
theorem d2_18 : decode method_4_code 18 = .ok (.iconst 1, 1) := by decide +kernel
theorem d2_19 : decode method_4_code 19 = .ok (.goto 4, 3) := by decide +kernel
theorem d2_22 : decode method_4_code 22 = .ok (.iconst 0, 1) := by decide +kernel
theorem d2_23 : decode method_4_code 23 = .ok (.ireturn, 1) := by decide +kernel
theorem d2_24 : decode method_4_code 24 = .ok (.iconst 1, 1) := by decide +kernel
theorem d2_25 : decode method_4_code 25 = .ok (.ireturn, 1) := by decide +kernel
theorem pn2 : plainName "com/example/gap_table/gaptable/codec/KeyComponentsPutPinLaw" = true := by first | (simp [plainName, overriddenIn]; done) | decide +kernel
theorem pd2 : parseMethodDescriptor "([BIIIB)Z" = some ⟨[(.array .byte), .int, .int, .int, .byte], some .boolean⟩ := by decide +kernel
def b2 : Sh.Bdy := (⟨"com/example/gap_table/gaptable/codec/KeyComponentsPutPinLaw", "same", "([BIIIB)Z"⟩, method_4_code, 5, some .boolean)
def R2 : Room := { frames := 0, cells := 0, slots := 0, locals := 0 }
theorem d3_0 : decode method_3_code 0 = .ok (.aload_n 0, 1) := by decide +kernel
theorem d3_1 : decode method_3_code 1 = .ok (.iload_n 1, 1) := by decide +kernel
theorem d3_2 : decode method_3_code 2 = .ok (.baload, 1) := by decide +kernel
theorem d3_3 : decode method_3_code 3 = .ok (.iload_n 2, 1) := by decide +kernel
theorem d3_4 : decode method_3_code 4 = .ok (.if_icmp .eq 5, 3) := by decide +kernel
theorem d3_7 : decode method_3_code 7 = .ok (.iconst 0, 1) := by decide +kernel
theorem d3_8 : decode method_3_code 8 = .ok (.ireturn, 1) := by decide +kernel
theorem d3_9 : decode method_3_code 9 = .ok (.iload_n 2, 1) := by decide +kernel
theorem d3_10 : decode method_3_code 10 = .ok (.ifCond .ne 18, 3) := by decide +kernel
theorem d3_13 : decode method_3_code 13 = .ok (.aload_n 0, 1) := by decide +kernel
theorem d3_14 : decode method_3_code 14 = .ok (.iload_n 1, 1) := by decide +kernel
theorem d3_15 : decode method_3_code 15 = .ok (.iconst 1, 1) := by decide +kernel
theorem d3_16 : decode method_3_code 16 = .ok (.iadd, 1) := by decide +kernel
theorem d3_17 : decode method_3_code 17 = .ok (.baload, 1) := by decide +kernel
theorem d3_18 : decode method_3_code 18 = .ok (.iconst (-1), 1) := by decide +kernel
theorem d3_19 : decode method_3_code 19 = .ok (.if_icmp .ne 7, 3) := by decide +kernel
theorem d3_22 : decode method_3_code 22 = .ok (.iconst 1, 1) := by decide +kernel
theorem d3_23 : decode method_3_code 23 = .ok (.goto 4, 3) := by decide +kernel
theorem d3_26 : decode method_3_code 26 = .ok (.iconst 0, 1) := by decide +kernel
theorem d3_27 : decode method_3_code 27 = .ok (.ireturn, 1) := by decide +kernel
theorem d3_28 : decode method_3_code 28 = .ok (.iconst 1, 1) := by decide +kernel
theorem d3_29 : decode method_3_code 29 = .ok (.ireturn, 1) := by decide +kernel
theorem pn3 : plainName "com/example/gap_table/gaptable/codec/KeyComponentsPutPinLaw" = true := by first | (simp [plainName, overriddenIn]; done) | decide +kernel
theorem pd3 : parseMethodDescriptor "([BIB)Z" = some ⟨[(.array .byte), .int, .byte], some .boolean⟩ := by decide +kernel
def b3 : Sh.Bdy := (⟨"com/example/gap_table/gaptable/codec/KeyComponentsPutPinLaw", "unit", "([BIB)Z"⟩, method_3_code, 3, some .boolean)
def R3 : Room := { frames := 0, cells := 0, slots := 0, locals := 0 }
theorem pn0 : plainName "com/example/gap_table/gaptable/codec/KeyComponentsPutPinLaw" = true := by first | (simp [plainName, overriddenIn]; done) | decide +kernel
theorem pd0 : parseMethodDescriptor "(IIIIII)Z" = some ⟨[.int, .int, .int, .int, .int, .int], some .boolean⟩ := by decide +kernel
def b0 : Sh.Bdy := (x, code, maxLocals, ret)
def own_enc : List Int32 → List Int32
  | [] => [0, 1]
  | b :: bs => if b = 0 then 0 :: (-1) :: own_enc bs else b :: own_enc bs
def own_wr : List Value → Nat → List Int32 → List Value
  | K, _, [] => K
  | K, p, e :: es => own_wr (K.set p (.int e)) (p + 1) es
theorem own_len (es : List Int32) : ∀ (K : List Value) (p : Nat), (own_wr K p es).length = K.length := by
  induction es with
  | nil => intro K p; rfl
  | cons e es ih => intro K p; rw [own_wr, ih, List.length_set]
theorem own_out (es : List Int32) : ∀ (K : List Value) (p j : Nat), j < p ∨ p + es.length ≤ j → (own_wr K p es)[j]? = K[j]? := by
  induction es with
  | nil => intro K p j _; rfl
  | cons e es ih =>
    intro K p j h
    rw [List.length_cons] at h
    rw [own_wr, ih _ _ _ (by omega), List.getElem?_set_ne (by omega)]
theorem own_in (es : List Int32) : ∀ (K : List Value) (p j : Nat) (e : Int32), es[j]? = some e → p + es.length ≤ K.length → (own_wr K p es)[p + j]? = some (.int e) := by
  induction es with
  | nil => intro K p j e h; simp at h
  | cons a es ih =>
    intro K p j e h hl
    rw [List.length_cons] at hl
    rw [own_wr]
    cases j with
    | zero =>
      have q : a = e := by simpa using h
      subst q
      rw [own_out es _ _ _ (by omega), Nat.add_zero, List.getElem?_set_self (by omega)]
    | succ j =>
      have q : es[j]? = some e := by simpa using h
      have := ih (K.set p (.int a)) (p + 1) j e q (by rw [List.length_set]; omega)
      rw [← this]
      congr 1
      omega
theorem own_rep (n j : Nat) (v : Value) (h : j < n) : (List.replicate n v)[j]? = some v := by simp [h]
section
variable (l : Launch) (Z : State) (a0 : Array Value) (n0 : Nat)
theorem lp (hw : HW Z a0) (bs : List Int32) (ws : List Value) (hws : bs.map Value.int = ws) (hb : ∀ b ∈ bs, b.toInt8.toInt32 = b) (hn : bs.length < 100) : ∀ k i (K : List Value) (p : Nat) (s6 : Slot), i + k = bs.length → Sh.okS s6 = true → p + (own_enc (bs.drop i)).length ≤ K.length → K.length < 100 →
    Sh.WP l Z a0 n0 b1 R1 0 0 9 [.val (.ref 1), .val (.int (Int32.ofNat p)), .val (.ref 0), .val (.ref 0), .val (.int (Int32.ofNat bs.length)), .val (.int (Int32.ofNat i)), s6] [] [.inr (.byte, ws), .inr (.byte, K)]
      (fun v H' => v = some (.int (Int32.ofNat (p + (own_enc (bs.drop i)).length))) ∧ H' = [.inr (.byte, ws), .inr (.byte, own_wr K p (own_enc (bs.drop i)))]) := by
  intro k
  induction k with
  | zero =>
    intro i K p s6 h1 h6 hl hk
    rw [List.drop_eq_nil_of_le (by omega)] at hl ⊢
    simp only [own_enc, List.length_cons, List.length_nil] at hl
    refine Sh.iload d1_9 rfl ?_
    refine Sh.iload d1_11 rfl ?_
    refine Sh.icmpT d1_13 (pc' := 48) rfl (by decide) (fun q => absurd ((Sh.onLt (by omega) (by omega)).mp q) (by omega)) ?_
    refine Sh.aload_n d1_48 rfl rfl ?_
    refine Sh.iload_n d1_49 rfl ?_
    refine Sh.iinc d1_50 rfl (ci := 1) rfl (Sh.onSucc _) (Sh.s1_1 rfl rfl) ?_
    refine Sh.iconst d1_53 (x := 0) rfl ?_
    refine Sh.bastore d1_54 rfl (Sh.onNN (by omega)) (Sh.onCl (by omega)) (by omega) (y := 0) (by decide) rfl (Sh.ls_1) ?_
    refine Sh.aload_n d1_55 rfl rfl ?_
    refine Sh.iload_n d1_56 rfl ?_
    refine Sh.iinc d1_57 rfl (ci := 1) rfl (Sh.onSucc _) (Sh.s1_1 rfl rfl) ?_
    refine Sh.iconst d1_60 (x := 1) rfl ?_
    refine Sh.bastore d1_61 rfl (Sh.onNN (by omega)) (Sh.onCl (by omega)) (by rw [List.length_set]; omega) (y := 1) (by decide) rfl (Sh.ls_1) ?_
    refine Sh.iload_n d1_62 rfl ?_
    refine Sh.retI d1_63 rfl (Sh.le rfl) (Sh.le rfl) ?_
    exact ⟨rfl, rfl⟩
  | succ k ih =>
    intro i K p s6 h1 h6 hl hk
    have hi : i < bs.length := by omega
    have hv : ws[i]? = some (.int bs[i]) := by rw [← hws]; simp [hi]
    have hd : bs.drop i = bs[i] :: bs.drop (i + 1) := List.drop_eq_getElem_cons hi
    have hy := hb bs[i] (List.getElem_mem hi)
    rw [hd] at hl ⊢
    generalize bs[i] = b at hv hd hy hl ⊢
    have hlen : p + 1 ≤ K.length := by
      rw [own_enc] at hl
      split at hl <;> simp only [List.length_cons] at hl <;> omega
    refine Sh.iload d1_9 rfl ?_
    refine Sh.iload d1_11 rfl ?_
    refine Sh.icmpF d1_13 (fun z => z ((Sh.onLt (by omega) (by omega)).mpr hi)) ?_
    refine Sh.aload_n d1_16 rfl rfl ?_
    refine Sh.iload d1_17 rfl ?_
    refine Sh.baload d1_19 rfl (Sh.onNN (by omega)) (Sh.onCl (by omega)) hv ?_
    refine Sh.istore d1_20 (Sh.s1_6 h6 rfl) ?_
    refine Sh.aload_n d1_22 rfl rfl ?_
    refine Sh.iload_n d1_23 rfl ?_
    refine Sh.iinc d1_24 rfl (ci := 1) rfl (Sh.onSucc _) (Sh.s1_1 rfl rfl) ?_
    refine Sh.iload d1_27 rfl ?_
    refine Sh.bastore d1_29 rfl (Sh.onNN (by omega)) (Sh.onCl (by omega)) (by omega) hy rfl (Sh.ls_1) ?_
    refine Sh.iload d1_30 rfl ?_
    refine Sh.if_ne d1_32 (pc' := 42) rfl (by decide) (fun h32 => ?_) (fun h32 => ?_)
    · rw [own_enc, if_neg h32] at hl ⊢
      simp only [List.length_cons] at hl
      refine Sh.iinc d1_42 rfl (ci := 1) rfl (Sh.onSucc _) (Sh.s1_5 rfl rfl) ?_
      refine Sh.goto d1_45 (pc' := 9) rfl (by decide) ?_
      have := ih (i + 1) (K.set p (.int b)) (p + 1) (.val (.int b)) (by omega) rfl (by rw [List.length_set]; omega) (by rw [List.length_set]; omega)
      rw [List.length_cons, own_wr, show p + ((own_enc (bs.drop (i + 1))).length + 1) = p + 1 + (own_enc (bs.drop (i + 1))).length from by omega]
      exact this
    · rw [own_enc, if_pos h32] at hl ⊢
      simp only [List.length_cons] at hl
      subst h32
      refine Sh.aload_n d1_35 rfl rfl ?_
      refine Sh.iload_n d1_36 rfl ?_
      refine Sh.iinc d1_37 rfl (ci := 1) rfl (Sh.onSucc _) (Sh.s1_1 rfl rfl) ?_
      refine Sh.iconst d1_40 (x := (-1)) rfl ?_
      refine Sh.bastore d1_41 rfl (Sh.onNN (by omega)) (Sh.onCl (by omega)) (by rw [List.length_set]; omega) (y := -1) (by decide) rfl (Sh.ls_1) ?_
      refine Sh.iinc d1_42 rfl (ci := 1) rfl (Sh.onSucc _) (Sh.s1_5 rfl rfl) ?_
      refine Sh.goto d1_45 (pc' := 9) rfl (by decide) ?_
      have := ih (i + 1) ((K.set p (.int 0)).set (p + 1) (.int (-1))) (p + 1 + 1) (.val (.int 0)) (by omega) rfl (by rw [List.length_set, List.length_set]; omega) (by rw [List.length_set, List.length_set]; omega)
      rw [List.length_cons, List.length_cons, own_wr, own_wr, show p + ((own_enc (bs.drop (i + 1))).length + 1 + 1) = p + 1 + 1 + (own_enc (bs.drop (i + 1))).length from by omega]
      exact this
theorem m1 (hw : HW Z a0) (bs es : List Int32) (ws K : List Value) (p r : Nat) (hws : bs.map Value.int = ws) (hb : ∀ b ∈ bs, b.toInt8.toInt32 = b) (hn : bs.length < 100) (hes : own_enc bs = es) (hr : p + es.length = r) (hl : r ≤ K.length) (hk : K.length < 100) :
    Sh.Meth l Z a0 n0 b1 R1 [.ref 1, .int (Int32.ofNat p), .ref 0] [.inr (.byte, ws), .inr (.byte, K)] (fun v H' => v = some (.int (Int32.ofNat r)) ∧ H' = [.inr (.byte, ws), .inr (.byte, own_wr K p es)]) := by
  refine Sh.Meth.of pn1 (L := [.val (.ref 1), .val (.int (Int32.ofNat p)), .val (.ref 0), .unset, .unset, .unset, .unset]) rfl ?_
  have hl2 : ws.length.toInt32 = Int32.ofNat bs.length := by rw [← hws, List.length_map]
  subst hes hr
  refine Sh.aload_n d1_0 rfl rfl ?_
  refine Sh.astore_n d1_1 rfl (Sh.s1_3 rfl rfl) ?_
  refine Sh.aload_n d1_2 rfl rfl ?_
  refine Sh.arraylength d1_3 rfl hl2 ?_
  refine Sh.istore d1_4 (Sh.s1_4 rfl rfl) ?_
  refine Sh.iconst d1_6 (x := 0) rfl ?_
  refine Sh.istore d1_7 (Sh.s1_5 rfl rfl) ?_
  exact lp l Z a0 n0 hw bs ws hws hb hn bs.length 0 K p .unset (by omega) rfl hl hk
theorem m2 (hw : HW Z a0) (K ws : List Value) (i p r : Nat) (fb : Int32) (hi : i < 100) (hp : p < 100) (hr : r < 100) (h : i < p ∨ r ≤ i → K[i]? = some (.int fb)) :
    Sh.Meth l Z a0 n0 b2 R2 [.ref 1, .int (Int32.ofNat i), .int (Int32.ofNat p), .int (Int32.ofNat r), .int fb] [.inr (.byte, ws), .inr (.byte, K)] (fun v H' => v = some (.int 1) ∧ H' = [.inr (.byte, ws), .inr (.byte, K)]) := by
  refine Sh.Meth.of pn2 (L := [.val (.ref 1), .val (.int (Int32.ofNat i)), .val (.int (Int32.ofNat p)), .val (.int (Int32.ofNat r)), .val (.int fb)]) rfl ?_
  refine Sh.iload_n d2_0 rfl ?_
  refine Sh.iload_n d2_1 rfl ?_
  refine Sh.icmp_lt d2_2 (pc' := 10) rfl (by decide) (fun h2 => ?_) (fun h2 => ?_)
  · rw [Sh.onLt (by omega) (by omega)] at h2
    refine Sh.aload_n d2_10 rfl rfl ?_
    refine Sh.iload_n d2_11 rfl ?_
    refine Sh.baload d2_12 rfl (Sh.onNN (by omega)) (Sh.onCl (by omega)) (h (Or.inl h2)) ?_
    refine Sh.iload d2_13 rfl ?_
    refine Sh.icmpF d2_15 (fun q => q rfl) ?_
    refine Sh.iconst d2_18 (x := 1) rfl ?_
    refine Sh.goto d2_19 (pc' := 23) rfl (by decide) ?_
    refine Sh.retN d2_23 rfl (by simp) rfl (Sh.le rfl) (Sh.le rfl) ?_
    exact ⟨rfl, rfl⟩
  refine Sh.iload_n d2_5 rfl ?_
  refine Sh.iload_n d2_6 rfl ?_
  refine Sh.icmp_lt d2_7 (pc' := 24) rfl (by decide) (fun h7 => ?_) (fun h7 => ?_)
  · refine Sh.iconst d2_24 (x := 1) rfl ?_
    refine Sh.retN d2_25 rfl (by simp) rfl (Sh.le rfl) (Sh.le rfl) ?_
    exact ⟨rfl, rfl⟩
  rw [Sh.onLt (by omega) (by omega)] at h7
  refine Sh.aload_n d2_10 rfl rfl ?_
  refine Sh.iload_n d2_11 rfl ?_
  refine Sh.baload d2_12 rfl (Sh.onNN (by omega)) (Sh.onCl (by omega)) (h (Or.inr (by omega))) ?_
  refine Sh.iload d2_13 rfl ?_
  refine Sh.icmpF d2_15 (fun q => q rfl) ?_
  refine Sh.iconst d2_18 (x := 1) rfl ?_
  refine Sh.goto d2_19 (pc' := 23) rfl (by decide) ?_
  refine Sh.retN d2_23 rfl (by simp) rfl (Sh.le rfl) (Sh.le rfl) ?_
  exact ⟨rfl, rfl⟩
theorem m3 (hw : HW Z a0) (K ws : List Value) (p : Nat) (b : Int32) (hp : p < 100) (h : K[p]? = some (.int b)) (h2 : b = 0 → K[p + 1]? = some (.int (-1))) :
    Sh.Meth l Z a0 n0 b3 R3 [.ref 1, .int (Int32.ofNat p), .int b] [.inr (.byte, ws), .inr (.byte, K)] (fun v H' => v = some (.int 1) ∧ H' = [.inr (.byte, ws), .inr (.byte, K)]) := by
  refine Sh.Meth.of pn3 (L := [.val (.ref 1), .val (.int (Int32.ofNat p)), .val (.int b)]) rfl ?_
  refine Sh.aload_n d3_0 rfl rfl ?_
  refine Sh.iload_n d3_1 rfl ?_
  refine Sh.baload d3_2 rfl (Sh.onNN (by omega)) (Sh.onCl (by omega)) h ?_
  refine Sh.iload_n d3_3 rfl ?_
  refine Sh.icmpT d3_4 (pc' := 9) rfl (by decide) rfl ?_
  refine Sh.iload_n d3_9 rfl ?_
  refine Sh.if_ne d3_10 (pc' := 28) rfl (by decide) (fun h10 => ?_) (fun h10 => ?_)
  · refine Sh.iconst d3_28 (x := 1) rfl ?_
    refine Sh.retN d3_29 rfl (by simp) rfl (Sh.le rfl) (Sh.le rfl) ?_
    exact ⟨rfl, rfl⟩
  refine Sh.aload_n d3_13 rfl rfl ?_
  refine Sh.iload_n d3_14 rfl ?_
  refine Sh.iconst d3_15 (x := 1) rfl ?_
  refine Sh.iaddE d3_16 (Sh.onSucc _) ?_
  refine Sh.baload d3_17 rfl (Sh.onNN (by omega)) (Sh.onCl (by omega)) (h2 h10) ?_
  refine Sh.iconst d3_18 (x := (-1)) rfl ?_
  refine Sh.icmpF d3_19 (fun q => q rfl) ?_
  refine Sh.iconst d3_22 (x := 1) rfl ?_
  refine Sh.goto d3_23 (pc' := 27) rfl (by decide) ?_
  refine Sh.retN d3_27 rfl (by simp) rfl (Sh.le rfl) (Sh.le rfl) ?_
  exact ⟨rfl, rfl⟩
theorem law_ok (hw : HW Z a0) (n c0 c1 c2 a f : Int32) : Sh.Meth l Z a0 n0 b0 room_1 [.int n, .int c0, .int c1, .int c2, .int a, .int f] [] (fun v _ => v = some (.int 1)) := by
  refine Sh.Meth.of pn0 (L := [.val (.int n), .val (.int c0), .val (.int c1), .val (.int c2), .val (.int a), .val (.int f), .unset, .unset, .unset, .unset, .unset, .unset, .unset, .unset, .unset, .unset, .unset]) rfl ?_
  obtain ⟨len, hlen, elen⟩ := Sh.maskNat n 3 2 (by decide) (by decide)
  obtain ⟨p, hp, ep⟩ := Sh.maskNat a 3 2 (by decide) (by decide)
  have hlen4 : len < 4 := hlen
  have hp4 : p < 4 := hp
  clear hlen hp
  refine Sh.iload_n at_0 rfl ?_
  refine Sh.iconst at_1 (x := 3) rfl ?_
  refine Sh.iand at_2 ?_
  refine Sh.istore at_3 (Sh.s1_6 rfl rfl) ?_
  refine Sh.iload at_5 rfl ?_
  refine Sh.iconst at_7 (x := 3) rfl ?_
  refine Sh.iand at_8 ?_
  refine Sh.istore at_9 (Sh.s1_7 rfl rfl) ?_
  refine Sh.iload_n at_11 rfl ?_
  refine Sh.i2b at_12 ?_
  refine Sh.istore at_13 (Sh.s1_8 rfl rfl) ?_
  refine Sh.iload_n at_15 rfl ?_
  refine Sh.i2b at_16 ?_
  refine Sh.istore at_17 (Sh.s1_9 rfl rfl) ?_
  refine Sh.iload_n at_19 rfl ?_
  refine Sh.i2b at_20 ?_
  refine Sh.istore at_21 (Sh.s1_10 rfl rfl) ?_
  refine Sh.iload at_23 rfl ?_
  refine Sh.i2b at_25 ?_
  refine Sh.istore at_26 (Sh.s1_11 rfl rfl) ?_
  rw [elen, ep]
  have e0 := Sh.i8_idem c0
  have e1 := Sh.i8_idem c1
  have e2 := Sh.i8_idem c2
  have e3 := Sh.i8_idem f
  generalize c0.toInt8.toInt32 = x0 at e0 ⊢
  generalize c1.toInt8.toInt32 = x1 at e1 ⊢
  generalize c2.toInt8.toInt32 = x2 at e2 ⊢
  generalize f.toInt8.toInt32 = fb at e3 ⊢
  match len, hlen4 with
  | 0, _ =>
    refine Sh.iload at_28 rfl ?_
    refine Sh.ifF at_30 (by decide) ?_
    refine Sh.iconst at_33 (x := 0) rfl ?_
    refine Sh.newarr hw (i := 0) (ty := .byte) (dv := .int 0) (N := 0) (cap := 0) (k' := 1) (n' := 0) (a := 0) rfl rfl at_34 rfl (by decide) rfl (Sh.rp_0) (Sh.le rfl) (by decide) (Sh.le rfl) (Sh.le rfl) rfl rfl rfl (Sh.ap_0) ?_
    refine Sh.goto at_36 (pc' := 96) rfl (by decide) ?_
    refine Sh.astore at_96 rfl (Sh.s1_12 rfl rfl) ?_
    refine Sh.bipush at_98 (x := 12) rfl ?_
    refine Sh.newarr hw (i := 0) (ty := .byte) (dv := .int 0) (N := 12) (cap := 12) (k' := 2) (n' := 12) (a := 1) rfl rfl at_100 rfl (by decide) rfl (Sh.rp_12) (Sh.le rfl) (by decide) (Sh.le rfl) (Sh.le rfl) rfl rfl rfl (Sh.ap_1) ?_
    refine Sh.dup at_102 rfl ?_
    refine Sh.iconst at_103 (x := 0) rfl ?_
    refine Sh.iload at_104 rfl ?_
    refine Sh.bastore (jn := 0) at_106 rfl (by decide) rfl (Sh.le rfl) e3 (Sh.ls_0) (Sh.ls_1) ?_
    refine Sh.dup at_107 rfl ?_
    refine Sh.iconst at_108 (x := 1) rfl ?_
    refine Sh.iload at_109 rfl ?_
    refine Sh.bastore (jn := 1) at_111 rfl (by decide) rfl (Sh.le rfl) e3 (Sh.ls_1) (Sh.ls_1) ?_
    refine Sh.dup at_112 rfl ?_
    refine Sh.iconst at_113 (x := 2) rfl ?_
    refine Sh.iload at_114 rfl ?_
    refine Sh.bastore (jn := 2) at_116 rfl (by decide) rfl (Sh.le rfl) e3 (Sh.ls_2) (Sh.ls_1) ?_
    refine Sh.dup at_117 rfl ?_
    refine Sh.iconst at_118 (x := 3) rfl ?_
    refine Sh.iload at_119 rfl ?_
    refine Sh.bastore (jn := 3) at_121 rfl (by decide) rfl (Sh.le rfl) e3 (Sh.ls_3) (Sh.ls_1) ?_
    refine Sh.dup at_122 rfl ?_
    refine Sh.iconst at_123 (x := 4) rfl ?_
    refine Sh.iload at_124 rfl ?_
    refine Sh.bastore (jn := 4) at_126 rfl (by decide) rfl (Sh.le rfl) e3 (Sh.ls_4) (Sh.ls_1) ?_
    refine Sh.dup at_127 rfl ?_
    refine Sh.iconst at_128 (x := 5) rfl ?_
    refine Sh.iload at_129 rfl ?_
    refine Sh.bastore (jn := 5) at_131 rfl (by decide) rfl (Sh.le rfl) e3 (Sh.ls_5) (Sh.ls_1) ?_
    refine Sh.dup at_132 rfl ?_
    refine Sh.bipush at_133 (x := 6) rfl ?_
    refine Sh.iload at_135 rfl ?_
    refine Sh.bastore (jn := 6) at_137 rfl (by decide) rfl (Sh.le rfl) e3 (Sh.ls_6) (Sh.ls_1) ?_
    refine Sh.dup at_138 rfl ?_
    refine Sh.bipush at_139 (x := 7) rfl ?_
    refine Sh.iload at_141 rfl ?_
    refine Sh.bastore (jn := 7) at_143 rfl (by decide) rfl (Sh.le rfl) e3 (Sh.ls_7) (Sh.ls_1) ?_
    refine Sh.dup at_144 rfl ?_
    refine Sh.bipush at_145 (x := 8) rfl ?_
    refine Sh.iload at_147 rfl ?_
    refine Sh.bastore (jn := 8) at_149 rfl (by decide) rfl (Sh.le rfl) e3 (Sh.ls_8) (Sh.ls_1) ?_
    refine Sh.dup at_150 rfl ?_
    refine Sh.bipush at_151 (x := 9) rfl ?_
    refine Sh.iload at_153 rfl ?_
    refine Sh.bastore (jn := 9) at_155 rfl (by decide) rfl (Sh.le rfl) e3 (Sh.ls_9) (Sh.ls_1) ?_
    refine Sh.dup at_156 rfl ?_
    refine Sh.bipush at_157 (x := 10) rfl ?_
    refine Sh.iload at_159 rfl ?_
    refine Sh.bastore (jn := 10) at_161 rfl (by decide) rfl (Sh.le rfl) e3 (Sh.ls_10) (Sh.ls_1) ?_
    refine Sh.dup at_162 rfl ?_
    refine Sh.bipush at_163 (x := 11) rfl ?_
    refine Sh.iload at_165 rfl ?_
    refine Sh.bastore (jn := 11) at_167 rfl (by decide) rfl (Sh.le rfl) e3 (Sh.ls_11) (Sh.ls_1) ?_
    refine Sh.astore at_168 rfl (Sh.s1_13 rfl rfl) ?_
    generalize hK : [Value.int fb, Value.int fb, Value.int fb, Value.int fb, Value.int fb, Value.int fb, Value.int fb, Value.int fb, Value.int fb, Value.int fb, Value.int fb, Value.int fb] = K
    have hl : K.length = 12 := by rw [← hK]; rfl
    have hg : ∀ j, j < 12 → K[j]? = some (.int fb) := by
      intro j hj
      rw [← hK, show [Value.int fb, Value.int fb, Value.int fb, Value.int fb, Value.int fb, Value.int fb, Value.int fb, Value.int fb, Value.int fb, Value.int fb, Value.int fb, Value.int fb] = List.replicate 12 (Value.int fb) from rfl]
      exact own_rep _ _ _ hj
    have hes : own_enc [] = [0, 1] := by simp [own_enc]
    have hi := fun j e h => own_in [0, 1] K p j e h (by rw [hl]; simp; omega)
    have ho : ∀ i, i < 12 → i < p ∨ p + 2 ≤ i → (own_wr K p [0, 1])[i]? = some (.int fb) := fun i h q => by rw [own_out _ _ _ _ (by simpa using q)]; exact hg i h
    have hl2 : (own_wr K p [0, 1]).length = 12 := by rw [own_len, hl]
    refine Sh.aload at_170 rfl rfl ?_
    refine Sh.iload at_172 rfl ?_
    refine Sh.aload at_174 rfl rfl ?_
    refine Sh.callS hw (i1 := 1) (i2 := 2) (i3 := 3) (i4 := 4) (k' := 2) (n' := 12) (B' := b1) (R' := R1) rfl rfl rfl rfl (by decide) (m1 l Z a0 n0 hw [] [0, 1] _ K p (p + 2) rfl (fun b hb => nomatch hb) (Sh.le rfl) hes rfl (by rw [hl]; omega) (by rw [hl]; decide)) at_176 rfl rfl pd1 rfl (Sh.le rfl) (Sh.le rfl) (Sh.le rfl) (Sh.le rfl) rfl rfl ?_
    rintro _ _ ⟨rfl, rfl⟩
    refine Sh.istore at_179 (Sh.s1_14 rfl rfl) ?_
    refine Sh.iload at_181 rfl ?_
    refine Sh.istore at_183 (Sh.s1_15 rfl rfl) ?_
    refine Sh.iconst at_185 (x := 1) rfl ?_
    refine Sh.istore at_186 (Sh.s1_16 rfl rfl) ?_
    refine Sh.iload at_188 rfl ?_
    refine Sh.iconst at_190 (x := 1) rfl ?_
    refine Sh.icmpT at_191 (pc' := 233) rfl (by decide) (by decide) ?_
    refine Sh.iload at_233 rfl ?_
    refine Sh.iconst at_235 (x := 2) rfl ?_
    refine Sh.icmpT at_236 (pc' := 278) rfl (by decide) (by decide) ?_
    refine Sh.iload at_278 rfl ?_
    refine Sh.iconst at_280 (x := 3) rfl ?_
    refine Sh.icmpT at_281 (pc' := 323) rfl (by decide) (by decide) ?_
    refine Sh.iload at_323 rfl ?_
    refine Sh.ifF at_325 (by decide) ?_
    refine Sh.aload at_328 rfl rfl ?_
    refine Sh.iload at_330 rfl ?_
    refine Sh.baload at_332 rfl (Sh.onNN (by omega)) (Sh.onCl (by omega)) (hi 0 0 rfl) ?_
    refine Sh.ifF at_333 (by decide) ?_
    refine Sh.aload at_336 rfl rfl ?_
    refine Sh.iload at_338 rfl ?_
    refine Sh.iconst at_340 (x := 1) rfl ?_
    refine Sh.iaddE at_341 (Sh.onAdd _ 1) ?_
    refine Sh.baload at_342 rfl (Sh.onNN (by omega)) (Sh.onCl (by omega)) (hi 1 1 rfl) ?_
    refine Sh.iconst at_343 (x := 1) rfl ?_
    refine Sh.icmpF at_344 (by decide) ?_
    refine Sh.iload at_347 rfl ?_
    refine Sh.iload at_349 rfl ?_
    refine Sh.iconst at_351 (x := 2) rfl ?_
    refine Sh.iaddE at_352 (Sh.onAdd _ 2) ?_
    refine Sh.icmpF at_353 (fun q => q rfl) ?_
    refine Sh.iconst at_356 (x := 1) rfl ?_
    refine Sh.goto at_357 (pc' := 361) rfl (by decide) ?_
    refine Sh.istore at_361 (Sh.s1_16 rfl rfl) ?_
    refine Sh.iload at_363 rfl ?_
    refine Sh.ifF at_365 (by decide) ?_
    refine Sh.aload at_368 rfl rfl ?_
    refine Sh.iconst at_370 (x := 0) rfl ?_
    refine Sh.iload at_371 rfl ?_
    refine Sh.iload at_373 rfl ?_
    refine Sh.iload at_375 rfl ?_
    refine Sh.callS hw (i1 := 5) (i2 := 6) (i3 := 7) (i4 := 8) (k' := 2) (n' := 12) (B' := b2) (R' := R2) rfl rfl rfl rfl (by decide) (m2 l Z a0 n0 hw _ _ 0 p (p + 2) fb (by omega) (by omega) (by omega) (ho 0 (by decide))) at_377 rfl rfl pd2 rfl (Sh.le rfl) (Sh.le rfl) (Sh.le rfl) (Sh.le rfl) rfl rfl ?_
    rintro _ _ ⟨rfl, rfl⟩
    refine Sh.ifF at_380 (by decide) ?_
    refine Sh.aload at_383 rfl rfl ?_
    refine Sh.iconst at_385 (x := 1) rfl ?_
    refine Sh.iload at_386 rfl ?_
    refine Sh.iload at_388 rfl ?_
    refine Sh.iload at_390 rfl ?_
    refine Sh.callS hw (i1 := 5) (i2 := 6) (i3 := 7) (i4 := 8) (k' := 2) (n' := 12) (B' := b2) (R' := R2) rfl rfl rfl rfl (by decide) (m2 l Z a0 n0 hw _ _ 1 p (p + 2) fb (by omega) (by omega) (by omega) (ho 1 (by decide))) at_392 rfl rfl pd2 rfl (Sh.le rfl) (Sh.le rfl) (Sh.le rfl) (Sh.le rfl) rfl rfl ?_
    rintro _ _ ⟨rfl, rfl⟩
    refine Sh.ifF at_395 (by decide) ?_
    refine Sh.aload at_398 rfl rfl ?_
    refine Sh.iconst at_400 (x := 2) rfl ?_
    refine Sh.iload at_401 rfl ?_
    refine Sh.iload at_403 rfl ?_
    refine Sh.iload at_405 rfl ?_
    refine Sh.callS hw (i1 := 5) (i2 := 6) (i3 := 7) (i4 := 8) (k' := 2) (n' := 12) (B' := b2) (R' := R2) rfl rfl rfl rfl (by decide) (m2 l Z a0 n0 hw _ _ 2 p (p + 2) fb (by omega) (by omega) (by omega) (ho 2 (by decide))) at_407 rfl rfl pd2 rfl (Sh.le rfl) (Sh.le rfl) (Sh.le rfl) (Sh.le rfl) rfl rfl ?_
    rintro _ _ ⟨rfl, rfl⟩
    refine Sh.ifF at_410 (by decide) ?_
    refine Sh.aload at_413 rfl rfl ?_
    refine Sh.iconst at_415 (x := 3) rfl ?_
    refine Sh.iload at_416 rfl ?_
    refine Sh.iload at_418 rfl ?_
    refine Sh.iload at_420 rfl ?_
    refine Sh.callS hw (i1 := 5) (i2 := 6) (i3 := 7) (i4 := 8) (k' := 2) (n' := 12) (B' := b2) (R' := R2) rfl rfl rfl rfl (by decide) (m2 l Z a0 n0 hw _ _ 3 p (p + 2) fb (by omega) (by omega) (by omega) (ho 3 (by decide))) at_422 rfl rfl pd2 rfl (Sh.le rfl) (Sh.le rfl) (Sh.le rfl) (Sh.le rfl) rfl rfl ?_
    rintro _ _ ⟨rfl, rfl⟩
    refine Sh.ifF at_425 (by decide) ?_
    refine Sh.aload at_428 rfl rfl ?_
    refine Sh.iconst at_430 (x := 4) rfl ?_
    refine Sh.iload at_431 rfl ?_
    refine Sh.iload at_433 rfl ?_
    refine Sh.iload at_435 rfl ?_
    refine Sh.callS hw (i1 := 5) (i2 := 6) (i3 := 7) (i4 := 8) (k' := 2) (n' := 12) (B' := b2) (R' := R2) rfl rfl rfl rfl (by decide) (m2 l Z a0 n0 hw _ _ 4 p (p + 2) fb (by omega) (by omega) (by omega) (ho 4 (by decide))) at_437 rfl rfl pd2 rfl (Sh.le rfl) (Sh.le rfl) (Sh.le rfl) (Sh.le rfl) rfl rfl ?_
    rintro _ _ ⟨rfl, rfl⟩
    refine Sh.ifF at_440 (by decide) ?_
    refine Sh.aload at_443 rfl rfl ?_
    refine Sh.iconst at_445 (x := 5) rfl ?_
    refine Sh.iload at_446 rfl ?_
    refine Sh.iload at_448 rfl ?_
    refine Sh.iload at_450 rfl ?_
    refine Sh.callS hw (i1 := 5) (i2 := 6) (i3 := 7) (i4 := 8) (k' := 2) (n' := 12) (B' := b2) (R' := R2) rfl rfl rfl rfl (by decide) (m2 l Z a0 n0 hw _ _ 5 p (p + 2) fb (by omega) (by omega) (by omega) (ho 5 (by decide))) at_452 rfl rfl pd2 rfl (Sh.le rfl) (Sh.le rfl) (Sh.le rfl) (Sh.le rfl) rfl rfl ?_
    rintro _ _ ⟨rfl, rfl⟩
    refine Sh.ifF at_455 (by decide) ?_
    refine Sh.aload at_458 rfl rfl ?_
    refine Sh.bipush at_460 (x := 6) rfl ?_
    refine Sh.iload at_462 rfl ?_
    refine Sh.iload at_464 rfl ?_
    refine Sh.iload at_466 rfl ?_
    refine Sh.callS hw (i1 := 5) (i2 := 6) (i3 := 7) (i4 := 8) (k' := 2) (n' := 12) (B' := b2) (R' := R2) rfl rfl rfl rfl (by decide) (m2 l Z a0 n0 hw _ _ 6 p (p + 2) fb (by omega) (by omega) (by omega) (ho 6 (by decide))) at_468 rfl rfl pd2 rfl (Sh.le rfl) (Sh.le rfl) (Sh.le rfl) (Sh.le rfl) rfl rfl ?_
    rintro _ _ ⟨rfl, rfl⟩
    refine Sh.ifF at_471 (by decide) ?_
    refine Sh.aload at_474 rfl rfl ?_
    refine Sh.bipush at_476 (x := 7) rfl ?_
    refine Sh.iload at_478 rfl ?_
    refine Sh.iload at_480 rfl ?_
    refine Sh.iload at_482 rfl ?_
    refine Sh.callS hw (i1 := 5) (i2 := 6) (i3 := 7) (i4 := 8) (k' := 2) (n' := 12) (B' := b2) (R' := R2) rfl rfl rfl rfl (by decide) (m2 l Z a0 n0 hw _ _ 7 p (p + 2) fb (by omega) (by omega) (by omega) (ho 7 (by decide))) at_484 rfl rfl pd2 rfl (Sh.le rfl) (Sh.le rfl) (Sh.le rfl) (Sh.le rfl) rfl rfl ?_
    rintro _ _ ⟨rfl, rfl⟩
    refine Sh.ifF at_487 (by decide) ?_
    refine Sh.aload at_490 rfl rfl ?_
    refine Sh.bipush at_492 (x := 8) rfl ?_
    refine Sh.iload at_494 rfl ?_
    refine Sh.iload at_496 rfl ?_
    refine Sh.iload at_498 rfl ?_
    refine Sh.callS hw (i1 := 5) (i2 := 6) (i3 := 7) (i4 := 8) (k' := 2) (n' := 12) (B' := b2) (R' := R2) rfl rfl rfl rfl (by decide) (m2 l Z a0 n0 hw _ _ 8 p (p + 2) fb (by omega) (by omega) (by omega) (ho 8 (by decide))) at_500 rfl rfl pd2 rfl (Sh.le rfl) (Sh.le rfl) (Sh.le rfl) (Sh.le rfl) rfl rfl ?_
    rintro _ _ ⟨rfl, rfl⟩
    refine Sh.ifF at_503 (by decide) ?_
    refine Sh.aload at_506 rfl rfl ?_
    refine Sh.bipush at_508 (x := 9) rfl ?_
    refine Sh.iload at_510 rfl ?_
    refine Sh.iload at_512 rfl ?_
    refine Sh.iload at_514 rfl ?_
    refine Sh.callS hw (i1 := 5) (i2 := 6) (i3 := 7) (i4 := 8) (k' := 2) (n' := 12) (B' := b2) (R' := R2) rfl rfl rfl rfl (by decide) (m2 l Z a0 n0 hw _ _ 9 p (p + 2) fb (by omega) (by omega) (by omega) (ho 9 (by decide))) at_516 rfl rfl pd2 rfl (Sh.le rfl) (Sh.le rfl) (Sh.le rfl) (Sh.le rfl) rfl rfl ?_
    rintro _ _ ⟨rfl, rfl⟩
    refine Sh.ifF at_519 (by decide) ?_
    refine Sh.aload at_522 rfl rfl ?_
    refine Sh.bipush at_524 (x := 10) rfl ?_
    refine Sh.iload at_526 rfl ?_
    refine Sh.iload at_528 rfl ?_
    refine Sh.iload at_530 rfl ?_
    refine Sh.callS hw (i1 := 5) (i2 := 6) (i3 := 7) (i4 := 8) (k' := 2) (n' := 12) (B' := b2) (R' := R2) rfl rfl rfl rfl (by decide) (m2 l Z a0 n0 hw _ _ 10 p (p + 2) fb (by omega) (by omega) (by omega) (ho 10 (by decide))) at_532 rfl rfl pd2 rfl (Sh.le rfl) (Sh.le rfl) (Sh.le rfl) (Sh.le rfl) rfl rfl ?_
    rintro _ _ ⟨rfl, rfl⟩
    refine Sh.ifF at_535 (by decide) ?_
    refine Sh.aload at_538 rfl rfl ?_
    refine Sh.bipush at_540 (x := 11) rfl ?_
    refine Sh.iload at_542 rfl ?_
    refine Sh.iload at_544 rfl ?_
    refine Sh.iload at_546 rfl ?_
    refine Sh.callS hw (i1 := 5) (i2 := 6) (i3 := 7) (i4 := 8) (k' := 2) (n' := 12) (B' := b2) (R' := R2) rfl rfl rfl rfl (by decide) (m2 l Z a0 n0 hw _ _ 11 p (p + 2) fb (by omega) (by omega) (by omega) (ho 11 (by decide))) at_548 rfl rfl pd2 rfl (Sh.le rfl) (Sh.le rfl) (Sh.le rfl) (Sh.le rfl) rfl rfl ?_
    rintro _ _ ⟨rfl, rfl⟩
    refine Sh.ifF at_551 (by decide) ?_
    refine Sh.iconst at_554 (x := 1) rfl ?_
    refine Sh.goto at_555 (pc' := 559) rfl (by decide) ?_
    refine Sh.istore at_559 (Sh.s1_16 rfl rfl) ?_
    refine Sh.iload at_561 rfl ?_
    refine Sh.retN at_563 rfl (by simp) rfl (Sh.le rfl) (Sh.le rfl) ?_
    rfl
  | 1, _ =>
    refine Sh.iload at_28 rfl ?_
    refine Sh.ifT at_30 (pc' := 39) rfl (by decide) (by decide) ?_
    refine Sh.iload at_39 rfl ?_
    refine Sh.iconst at_41 (x := 1) rfl ?_
    refine Sh.icmpF at_42 (by decide) ?_
    refine Sh.iconst at_45 (x := 1) rfl ?_
    refine Sh.newarr hw (i := 0) (ty := .byte) (dv := .int 0) (N := 1) (cap := 1) (k' := 1) (n' := 1) (a := 0) rfl rfl at_46 rfl (by decide) rfl (Sh.rp_1) (Sh.le rfl) (by decide) (Sh.le rfl) (Sh.le rfl) rfl rfl rfl (Sh.ap_0) ?_
    refine Sh.dup at_48 rfl ?_
    refine Sh.iconst at_49 (x := 0) rfl ?_
    refine Sh.iload at_50 rfl ?_
    refine Sh.bastore (jn := 0) at_52 rfl (by decide) rfl (Sh.le rfl) e0 (Sh.ls_0) (Sh.ls_0) ?_
    refine Sh.goto at_53 (pc' := 96) rfl (by decide) ?_
    refine Sh.astore at_96 rfl (Sh.s1_12 rfl rfl) ?_
    refine Sh.bipush at_98 (x := 12) rfl ?_
    refine Sh.newarr hw (i := 0) (ty := .byte) (dv := .int 0) (N := 12) (cap := 12) (k' := 2) (n' := 13) (a := 1) rfl rfl at_100 rfl (by decide) rfl (Sh.rp_12) (Sh.le rfl) (by decide) (Sh.le rfl) (Sh.le rfl) rfl rfl rfl (Sh.ap_1) ?_
    refine Sh.dup at_102 rfl ?_
    refine Sh.iconst at_103 (x := 0) rfl ?_
    refine Sh.iload at_104 rfl ?_
    refine Sh.bastore (jn := 0) at_106 rfl (by decide) rfl (Sh.le rfl) e3 (Sh.ls_0) (Sh.ls_1) ?_
    refine Sh.dup at_107 rfl ?_
    refine Sh.iconst at_108 (x := 1) rfl ?_
    refine Sh.iload at_109 rfl ?_
    refine Sh.bastore (jn := 1) at_111 rfl (by decide) rfl (Sh.le rfl) e3 (Sh.ls_1) (Sh.ls_1) ?_
    refine Sh.dup at_112 rfl ?_
    refine Sh.iconst at_113 (x := 2) rfl ?_
    refine Sh.iload at_114 rfl ?_
    refine Sh.bastore (jn := 2) at_116 rfl (by decide) rfl (Sh.le rfl) e3 (Sh.ls_2) (Sh.ls_1) ?_
    refine Sh.dup at_117 rfl ?_
    refine Sh.iconst at_118 (x := 3) rfl ?_
    refine Sh.iload at_119 rfl ?_
    refine Sh.bastore (jn := 3) at_121 rfl (by decide) rfl (Sh.le rfl) e3 (Sh.ls_3) (Sh.ls_1) ?_
    refine Sh.dup at_122 rfl ?_
    refine Sh.iconst at_123 (x := 4) rfl ?_
    refine Sh.iload at_124 rfl ?_
    refine Sh.bastore (jn := 4) at_126 rfl (by decide) rfl (Sh.le rfl) e3 (Sh.ls_4) (Sh.ls_1) ?_
    refine Sh.dup at_127 rfl ?_
    refine Sh.iconst at_128 (x := 5) rfl ?_
    refine Sh.iload at_129 rfl ?_
    refine Sh.bastore (jn := 5) at_131 rfl (by decide) rfl (Sh.le rfl) e3 (Sh.ls_5) (Sh.ls_1) ?_
    refine Sh.dup at_132 rfl ?_
    refine Sh.bipush at_133 (x := 6) rfl ?_
    refine Sh.iload at_135 rfl ?_
    refine Sh.bastore (jn := 6) at_137 rfl (by decide) rfl (Sh.le rfl) e3 (Sh.ls_6) (Sh.ls_1) ?_
    refine Sh.dup at_138 rfl ?_
    refine Sh.bipush at_139 (x := 7) rfl ?_
    refine Sh.iload at_141 rfl ?_
    refine Sh.bastore (jn := 7) at_143 rfl (by decide) rfl (Sh.le rfl) e3 (Sh.ls_7) (Sh.ls_1) ?_
    refine Sh.dup at_144 rfl ?_
    refine Sh.bipush at_145 (x := 8) rfl ?_
    refine Sh.iload at_147 rfl ?_
    refine Sh.bastore (jn := 8) at_149 rfl (by decide) rfl (Sh.le rfl) e3 (Sh.ls_8) (Sh.ls_1) ?_
    refine Sh.dup at_150 rfl ?_
    refine Sh.bipush at_151 (x := 9) rfl ?_
    refine Sh.iload at_153 rfl ?_
    refine Sh.bastore (jn := 9) at_155 rfl (by decide) rfl (Sh.le rfl) e3 (Sh.ls_9) (Sh.ls_1) ?_
    refine Sh.dup at_156 rfl ?_
    refine Sh.bipush at_157 (x := 10) rfl ?_
    refine Sh.iload at_159 rfl ?_
    refine Sh.bastore (jn := 10) at_161 rfl (by decide) rfl (Sh.le rfl) e3 (Sh.ls_10) (Sh.ls_1) ?_
    refine Sh.dup at_162 rfl ?_
    refine Sh.bipush at_163 (x := 11) rfl ?_
    refine Sh.iload at_165 rfl ?_
    refine Sh.bastore (jn := 11) at_167 rfl (by decide) rfl (Sh.le rfl) e3 (Sh.ls_11) (Sh.ls_1) ?_
    refine Sh.astore at_168 rfl (Sh.s1_13 rfl rfl) ?_
    generalize hK : [Value.int fb, Value.int fb, Value.int fb, Value.int fb, Value.int fb, Value.int fb, Value.int fb, Value.int fb, Value.int fb, Value.int fb, Value.int fb, Value.int fb] = K
    have hl : K.length = 12 := by rw [← hK]; rfl
    have hg : ∀ j, j < 12 → K[j]? = some (.int fb) := by
      intro j hj
      rw [← hK, show [Value.int fb, Value.int fb, Value.int fb, Value.int fb, Value.int fb, Value.int fb, Value.int fb, Value.int fb, Value.int fb, Value.int fb, Value.int fb, Value.int fb] = List.replicate 12 (Value.int fb) from rfl]
      exact own_rep _ _ _ hj
    have hbs : ∀ b ∈ [x0], b.toInt8.toInt32 = b := by
      intro b hb
      simp only [List.mem_cons, List.not_mem_nil, or_false] at hb
      rcases hb with rfl
      · exact e0
    rcases Decidable.em (x0 = 0) with rfl | h0
    · skip
      have hes : own_enc [0] = [0, -1, 0, 1] := by simp [own_enc]
      have hi := fun j e h => own_in [0, -1, 0, 1] K p j e h (by rw [hl]; simp; omega)
      have ho : ∀ i, i < 12 → i < p ∨ p + 4 ≤ i → (own_wr K p [0, -1, 0, 1])[i]? = some (.int fb) := fun i h q => by rw [own_out _ _ _ _ (by simpa using q)]; exact hg i h
      have hl2 : (own_wr K p [0, -1, 0, 1]).length = 12 := by rw [own_len, hl]
      refine Sh.aload at_170 rfl rfl ?_
      refine Sh.iload at_172 rfl ?_
      refine Sh.aload at_174 rfl rfl ?_
      refine Sh.callS hw (i1 := 1) (i2 := 2) (i3 := 3) (i4 := 4) (k' := 2) (n' := 13) (B' := b1) (R' := R1) rfl rfl rfl rfl (by decide) (m1 l Z a0 n0 hw [0] [0, -1, 0, 1] _ K p (p + 4) rfl hbs (Sh.le rfl) hes rfl (by rw [hl]; omega) (by rw [hl]; decide)) at_176 rfl rfl pd1 rfl (Sh.le rfl) (Sh.le rfl) (Sh.le rfl) (Sh.le rfl) rfl rfl ?_
      rintro _ _ ⟨rfl, rfl⟩
      refine Sh.istore at_179 (Sh.s1_14 rfl rfl) ?_
      refine Sh.iload at_181 rfl ?_
      refine Sh.istore at_183 (Sh.s1_15 rfl rfl) ?_
      refine Sh.iconst at_185 (x := 1) rfl ?_
      refine Sh.istore at_186 (Sh.s1_16 rfl rfl) ?_
      refine Sh.iload at_188 rfl ?_
      refine Sh.iconst at_190 (x := 1) rfl ?_
      refine Sh.icmpF at_191 (by decide) ?_
      refine Sh.iload at_194 rfl ?_
      refine Sh.ifF at_196 (by decide) ?_
      refine Sh.aload at_199 rfl rfl ?_
      refine Sh.iload at_201 rfl ?_
      refine Sh.iload at_203 rfl ?_
      refine Sh.callS hw (i1 := 9) (i2 := 10) (i3 := 7) (i4 := 11) (k' := 2) (n' := 13) (B' := b3) (R' := R3) rfl rfl rfl rfl (by decide) (m3 l Z a0 n0 hw _ _ (p + 0) 0 (by omega) (hi 0 0 rfl) (fun _ => hi 1 (-1) rfl)) at_205 rfl rfl pd3 rfl (Sh.le rfl) (Sh.le rfl) (Sh.le rfl) (Sh.le rfl) rfl rfl ?_
      rintro _ _ ⟨rfl, rfl⟩
      refine Sh.ifF at_208 (by decide) ?_
      refine Sh.iconst at_211 (x := 1) rfl ?_
      refine Sh.goto at_212 (pc' := 216) rfl (by decide) ?_
      refine Sh.istore at_216 (Sh.s1_16 rfl rfl) ?_
      refine Sh.iload at_218 rfl ?_
      refine Sh.iload at_220 rfl ?_
      refine Sh.ifF at_222 (by decide) ?_
      refine Sh.iconst at_225 (x := 2) rfl ?_
      refine Sh.goto at_226 (pc' := 230) rfl (by decide) ?_
      refine Sh.iaddE at_230 (Sh.onAdd _ 2) ?_
      refine Sh.istore at_231 (Sh.s1_15 rfl rfl) ?_
      refine Sh.iload at_233 rfl ?_
      refine Sh.iconst at_235 (x := 2) rfl ?_
      refine Sh.icmpT at_236 (pc' := 278) rfl (by decide) (by decide) ?_
      refine Sh.iload at_278 rfl ?_
      refine Sh.iconst at_280 (x := 3) rfl ?_
      refine Sh.icmpT at_281 (pc' := 323) rfl (by decide) (by decide) ?_
      refine Sh.iload at_323 rfl ?_
      refine Sh.ifF at_325 (by decide) ?_
      refine Sh.aload at_328 rfl rfl ?_
      refine Sh.iload at_330 rfl ?_
      refine Sh.baload at_332 rfl (Sh.onNN (by omega)) (Sh.onCl (by omega)) (hi 2 0 rfl) ?_
      refine Sh.ifF at_333 (by decide) ?_
      refine Sh.aload at_336 rfl rfl ?_
      refine Sh.iload at_338 rfl ?_
      refine Sh.iconst at_340 (x := 1) rfl ?_
      refine Sh.iaddE at_341 (Sh.onAdd _ 1) ?_
      refine Sh.baload at_342 rfl (Sh.onNN (by omega)) (Sh.onCl (by omega)) (hi 3 1 rfl) ?_
      refine Sh.iconst at_343 (x := 1) rfl ?_
      refine Sh.icmpF at_344 (by decide) ?_
      refine Sh.iload at_347 rfl ?_
      refine Sh.iload at_349 rfl ?_
      refine Sh.iconst at_351 (x := 2) rfl ?_
      refine Sh.iaddE at_352 (Sh.onAdd _ 2) ?_
      refine Sh.icmpF at_353 (fun q => q rfl) ?_
      refine Sh.iconst at_356 (x := 1) rfl ?_
      refine Sh.goto at_357 (pc' := 361) rfl (by decide) ?_
      refine Sh.istore at_361 (Sh.s1_16 rfl rfl) ?_
      refine Sh.iload at_363 rfl ?_
      refine Sh.ifF at_365 (by decide) ?_
      refine Sh.aload at_368 rfl rfl ?_
      refine Sh.iconst at_370 (x := 0) rfl ?_
      refine Sh.iload at_371 rfl ?_
      refine Sh.iload at_373 rfl ?_
      refine Sh.iload at_375 rfl ?_
      refine Sh.callS hw (i1 := 5) (i2 := 6) (i3 := 7) (i4 := 8) (k' := 2) (n' := 13) (B' := b2) (R' := R2) rfl rfl rfl rfl (by decide) (m2 l Z a0 n0 hw _ _ 0 p (p + 4) fb (by omega) (by omega) (by omega) (ho 0 (by decide))) at_377 rfl rfl pd2 rfl (Sh.le rfl) (Sh.le rfl) (Sh.le rfl) (Sh.le rfl) rfl rfl ?_
      rintro _ _ ⟨rfl, rfl⟩
      refine Sh.ifF at_380 (by decide) ?_
      refine Sh.aload at_383 rfl rfl ?_
      refine Sh.iconst at_385 (x := 1) rfl ?_
      refine Sh.iload at_386 rfl ?_
      refine Sh.iload at_388 rfl ?_
      refine Sh.iload at_390 rfl ?_
      refine Sh.callS hw (i1 := 5) (i2 := 6) (i3 := 7) (i4 := 8) (k' := 2) (n' := 13) (B' := b2) (R' := R2) rfl rfl rfl rfl (by decide) (m2 l Z a0 n0 hw _ _ 1 p (p + 4) fb (by omega) (by omega) (by omega) (ho 1 (by decide))) at_392 rfl rfl pd2 rfl (Sh.le rfl) (Sh.le rfl) (Sh.le rfl) (Sh.le rfl) rfl rfl ?_
      rintro _ _ ⟨rfl, rfl⟩
      refine Sh.ifF at_395 (by decide) ?_
      refine Sh.aload at_398 rfl rfl ?_
      refine Sh.iconst at_400 (x := 2) rfl ?_
      refine Sh.iload at_401 rfl ?_
      refine Sh.iload at_403 rfl ?_
      refine Sh.iload at_405 rfl ?_
      refine Sh.callS hw (i1 := 5) (i2 := 6) (i3 := 7) (i4 := 8) (k' := 2) (n' := 13) (B' := b2) (R' := R2) rfl rfl rfl rfl (by decide) (m2 l Z a0 n0 hw _ _ 2 p (p + 4) fb (by omega) (by omega) (by omega) (ho 2 (by decide))) at_407 rfl rfl pd2 rfl (Sh.le rfl) (Sh.le rfl) (Sh.le rfl) (Sh.le rfl) rfl rfl ?_
      rintro _ _ ⟨rfl, rfl⟩
      refine Sh.ifF at_410 (by decide) ?_
      refine Sh.aload at_413 rfl rfl ?_
      refine Sh.iconst at_415 (x := 3) rfl ?_
      refine Sh.iload at_416 rfl ?_
      refine Sh.iload at_418 rfl ?_
      refine Sh.iload at_420 rfl ?_
      refine Sh.callS hw (i1 := 5) (i2 := 6) (i3 := 7) (i4 := 8) (k' := 2) (n' := 13) (B' := b2) (R' := R2) rfl rfl rfl rfl (by decide) (m2 l Z a0 n0 hw _ _ 3 p (p + 4) fb (by omega) (by omega) (by omega) (ho 3 (by decide))) at_422 rfl rfl pd2 rfl (Sh.le rfl) (Sh.le rfl) (Sh.le rfl) (Sh.le rfl) rfl rfl ?_
      rintro _ _ ⟨rfl, rfl⟩
      refine Sh.ifF at_425 (by decide) ?_
      refine Sh.aload at_428 rfl rfl ?_
      refine Sh.iconst at_430 (x := 4) rfl ?_
      refine Sh.iload at_431 rfl ?_
      refine Sh.iload at_433 rfl ?_
      refine Sh.iload at_435 rfl ?_
      refine Sh.callS hw (i1 := 5) (i2 := 6) (i3 := 7) (i4 := 8) (k' := 2) (n' := 13) (B' := b2) (R' := R2) rfl rfl rfl rfl (by decide) (m2 l Z a0 n0 hw _ _ 4 p (p + 4) fb (by omega) (by omega) (by omega) (ho 4 (by decide))) at_437 rfl rfl pd2 rfl (Sh.le rfl) (Sh.le rfl) (Sh.le rfl) (Sh.le rfl) rfl rfl ?_
      rintro _ _ ⟨rfl, rfl⟩
      refine Sh.ifF at_440 (by decide) ?_
      refine Sh.aload at_443 rfl rfl ?_
      refine Sh.iconst at_445 (x := 5) rfl ?_
      refine Sh.iload at_446 rfl ?_
      refine Sh.iload at_448 rfl ?_
      refine Sh.iload at_450 rfl ?_
      refine Sh.callS hw (i1 := 5) (i2 := 6) (i3 := 7) (i4 := 8) (k' := 2) (n' := 13) (B' := b2) (R' := R2) rfl rfl rfl rfl (by decide) (m2 l Z a0 n0 hw _ _ 5 p (p + 4) fb (by omega) (by omega) (by omega) (ho 5 (by decide))) at_452 rfl rfl pd2 rfl (Sh.le rfl) (Sh.le rfl) (Sh.le rfl) (Sh.le rfl) rfl rfl ?_
      rintro _ _ ⟨rfl, rfl⟩
      refine Sh.ifF at_455 (by decide) ?_
      refine Sh.aload at_458 rfl rfl ?_
      refine Sh.bipush at_460 (x := 6) rfl ?_
      refine Sh.iload at_462 rfl ?_
      refine Sh.iload at_464 rfl ?_
      refine Sh.iload at_466 rfl ?_
      refine Sh.callS hw (i1 := 5) (i2 := 6) (i3 := 7) (i4 := 8) (k' := 2) (n' := 13) (B' := b2) (R' := R2) rfl rfl rfl rfl (by decide) (m2 l Z a0 n0 hw _ _ 6 p (p + 4) fb (by omega) (by omega) (by omega) (ho 6 (by decide))) at_468 rfl rfl pd2 rfl (Sh.le rfl) (Sh.le rfl) (Sh.le rfl) (Sh.le rfl) rfl rfl ?_
      rintro _ _ ⟨rfl, rfl⟩
      refine Sh.ifF at_471 (by decide) ?_
      refine Sh.aload at_474 rfl rfl ?_
      refine Sh.bipush at_476 (x := 7) rfl ?_
      refine Sh.iload at_478 rfl ?_
      refine Sh.iload at_480 rfl ?_
      refine Sh.iload at_482 rfl ?_
      refine Sh.callS hw (i1 := 5) (i2 := 6) (i3 := 7) (i4 := 8) (k' := 2) (n' := 13) (B' := b2) (R' := R2) rfl rfl rfl rfl (by decide) (m2 l Z a0 n0 hw _ _ 7 p (p + 4) fb (by omega) (by omega) (by omega) (ho 7 (by decide))) at_484 rfl rfl pd2 rfl (Sh.le rfl) (Sh.le rfl) (Sh.le rfl) (Sh.le rfl) rfl rfl ?_
      rintro _ _ ⟨rfl, rfl⟩
      refine Sh.ifF at_487 (by decide) ?_
      refine Sh.aload at_490 rfl rfl ?_
      refine Sh.bipush at_492 (x := 8) rfl ?_
      refine Sh.iload at_494 rfl ?_
      refine Sh.iload at_496 rfl ?_
      refine Sh.iload at_498 rfl ?_
      refine Sh.callS hw (i1 := 5) (i2 := 6) (i3 := 7) (i4 := 8) (k' := 2) (n' := 13) (B' := b2) (R' := R2) rfl rfl rfl rfl (by decide) (m2 l Z a0 n0 hw _ _ 8 p (p + 4) fb (by omega) (by omega) (by omega) (ho 8 (by decide))) at_500 rfl rfl pd2 rfl (Sh.le rfl) (Sh.le rfl) (Sh.le rfl) (Sh.le rfl) rfl rfl ?_
      rintro _ _ ⟨rfl, rfl⟩
      refine Sh.ifF at_503 (by decide) ?_
      refine Sh.aload at_506 rfl rfl ?_
      refine Sh.bipush at_508 (x := 9) rfl ?_
      refine Sh.iload at_510 rfl ?_
      refine Sh.iload at_512 rfl ?_
      refine Sh.iload at_514 rfl ?_
      refine Sh.callS hw (i1 := 5) (i2 := 6) (i3 := 7) (i4 := 8) (k' := 2) (n' := 13) (B' := b2) (R' := R2) rfl rfl rfl rfl (by decide) (m2 l Z a0 n0 hw _ _ 9 p (p + 4) fb (by omega) (by omega) (by omega) (ho 9 (by decide))) at_516 rfl rfl pd2 rfl (Sh.le rfl) (Sh.le rfl) (Sh.le rfl) (Sh.le rfl) rfl rfl ?_
      rintro _ _ ⟨rfl, rfl⟩
      refine Sh.ifF at_519 (by decide) ?_
      refine Sh.aload at_522 rfl rfl ?_
      refine Sh.bipush at_524 (x := 10) rfl ?_
      refine Sh.iload at_526 rfl ?_
      refine Sh.iload at_528 rfl ?_
      refine Sh.iload at_530 rfl ?_
      refine Sh.callS hw (i1 := 5) (i2 := 6) (i3 := 7) (i4 := 8) (k' := 2) (n' := 13) (B' := b2) (R' := R2) rfl rfl rfl rfl (by decide) (m2 l Z a0 n0 hw _ _ 10 p (p + 4) fb (by omega) (by omega) (by omega) (ho 10 (by decide))) at_532 rfl rfl pd2 rfl (Sh.le rfl) (Sh.le rfl) (Sh.le rfl) (Sh.le rfl) rfl rfl ?_
      rintro _ _ ⟨rfl, rfl⟩
      refine Sh.ifF at_535 (by decide) ?_
      refine Sh.aload at_538 rfl rfl ?_
      refine Sh.bipush at_540 (x := 11) rfl ?_
      refine Sh.iload at_542 rfl ?_
      refine Sh.iload at_544 rfl ?_
      refine Sh.iload at_546 rfl ?_
      refine Sh.callS hw (i1 := 5) (i2 := 6) (i3 := 7) (i4 := 8) (k' := 2) (n' := 13) (B' := b2) (R' := R2) rfl rfl rfl rfl (by decide) (m2 l Z a0 n0 hw _ _ 11 p (p + 4) fb (by omega) (by omega) (by omega) (ho 11 (by decide))) at_548 rfl rfl pd2 rfl (Sh.le rfl) (Sh.le rfl) (Sh.le rfl) (Sh.le rfl) rfl rfl ?_
      rintro _ _ ⟨rfl, rfl⟩
      refine Sh.ifF at_551 (by decide) ?_
      refine Sh.iconst at_554 (x := 1) rfl ?_
      refine Sh.goto at_555 (pc' := 559) rfl (by decide) ?_
      refine Sh.istore at_559 (Sh.s1_16 rfl rfl) ?_
      refine Sh.iload at_561 rfl ?_
      refine Sh.retN at_563 rfl (by simp) rfl (Sh.le rfl) (Sh.le rfl) ?_
      rfl
    · skip
      have hes : own_enc [x0] = [x0, 0, 1] := by simp [own_enc, h0]
      have hi := fun j e h => own_in [x0, 0, 1] K p j e h (by rw [hl]; simp; omega)
      have ho : ∀ i, i < 12 → i < p ∨ p + 3 ≤ i → (own_wr K p [x0, 0, 1])[i]? = some (.int fb) := fun i h q => by rw [own_out _ _ _ _ (by simpa using q)]; exact hg i h
      have hl2 : (own_wr K p [x0, 0, 1]).length = 12 := by rw [own_len, hl]
      refine Sh.aload at_170 rfl rfl ?_
      refine Sh.iload at_172 rfl ?_
      refine Sh.aload at_174 rfl rfl ?_
      refine Sh.callS hw (i1 := 1) (i2 := 2) (i3 := 3) (i4 := 4) (k' := 2) (n' := 13) (B' := b1) (R' := R1) rfl rfl rfl rfl (by decide) (m1 l Z a0 n0 hw [x0] [x0, 0, 1] _ K p (p + 3) rfl hbs (Sh.le rfl) hes rfl (by rw [hl]; omega) (by rw [hl]; decide)) at_176 rfl rfl pd1 rfl (Sh.le rfl) (Sh.le rfl) (Sh.le rfl) (Sh.le rfl) rfl rfl ?_
      rintro _ _ ⟨rfl, rfl⟩
      refine Sh.istore at_179 (Sh.s1_14 rfl rfl) ?_
      refine Sh.iload at_181 rfl ?_
      refine Sh.istore at_183 (Sh.s1_15 rfl rfl) ?_
      refine Sh.iconst at_185 (x := 1) rfl ?_
      refine Sh.istore at_186 (Sh.s1_16 rfl rfl) ?_
      refine Sh.iload at_188 rfl ?_
      refine Sh.iconst at_190 (x := 1) rfl ?_
      refine Sh.icmpF at_191 (by decide) ?_
      refine Sh.iload at_194 rfl ?_
      refine Sh.ifF at_196 (by decide) ?_
      refine Sh.aload at_199 rfl rfl ?_
      refine Sh.iload at_201 rfl ?_
      refine Sh.iload at_203 rfl ?_
      refine Sh.callS hw (i1 := 9) (i2 := 10) (i3 := 7) (i4 := 11) (k' := 2) (n' := 13) (B' := b3) (R' := R3) rfl rfl rfl rfl (by decide) (m3 l Z a0 n0 hw _ _ (p + 0) x0 (by omega) (hi 0 x0 rfl) (fun q => absurd q h0)) at_205 rfl rfl pd3 rfl (Sh.le rfl) (Sh.le rfl) (Sh.le rfl) (Sh.le rfl) rfl rfl ?_
      rintro _ _ ⟨rfl, rfl⟩
      refine Sh.ifF at_208 (by decide) ?_
      refine Sh.iconst at_211 (x := 1) rfl ?_
      refine Sh.goto at_212 (pc' := 216) rfl (by decide) ?_
      refine Sh.istore at_216 (Sh.s1_16 rfl rfl) ?_
      refine Sh.iload at_218 rfl ?_
      refine Sh.iload at_220 rfl ?_
      refine Sh.ifT at_222 (pc' := 229) rfl (by decide) h0 ?_
      refine Sh.iconst at_229 (x := 1) rfl ?_
      refine Sh.iaddE at_230 (Sh.onAdd _ 1) ?_
      refine Sh.istore at_231 (Sh.s1_15 rfl rfl) ?_
      refine Sh.iload at_233 rfl ?_
      refine Sh.iconst at_235 (x := 2) rfl ?_
      refine Sh.icmpT at_236 (pc' := 278) rfl (by decide) (by decide) ?_
      refine Sh.iload at_278 rfl ?_
      refine Sh.iconst at_280 (x := 3) rfl ?_
      refine Sh.icmpT at_281 (pc' := 323) rfl (by decide) (by decide) ?_
      refine Sh.iload at_323 rfl ?_
      refine Sh.ifF at_325 (by decide) ?_
      refine Sh.aload at_328 rfl rfl ?_
      refine Sh.iload at_330 rfl ?_
      refine Sh.baload at_332 rfl (Sh.onNN (by omega)) (Sh.onCl (by omega)) (hi 1 0 rfl) ?_
      refine Sh.ifF at_333 (by decide) ?_
      refine Sh.aload at_336 rfl rfl ?_
      refine Sh.iload at_338 rfl ?_
      refine Sh.iconst at_340 (x := 1) rfl ?_
      refine Sh.iaddE at_341 (Sh.onAdd _ 1) ?_
      refine Sh.baload at_342 rfl (Sh.onNN (by omega)) (Sh.onCl (by omega)) (hi 2 1 rfl) ?_
      refine Sh.iconst at_343 (x := 1) rfl ?_
      refine Sh.icmpF at_344 (by decide) ?_
      refine Sh.iload at_347 rfl ?_
      refine Sh.iload at_349 rfl ?_
      refine Sh.iconst at_351 (x := 2) rfl ?_
      refine Sh.iaddE at_352 (Sh.onAdd _ 2) ?_
      refine Sh.icmpF at_353 (fun q => q rfl) ?_
      refine Sh.iconst at_356 (x := 1) rfl ?_
      refine Sh.goto at_357 (pc' := 361) rfl (by decide) ?_
      refine Sh.istore at_361 (Sh.s1_16 rfl rfl) ?_
      refine Sh.iload at_363 rfl ?_
      refine Sh.ifF at_365 (by decide) ?_
      refine Sh.aload at_368 rfl rfl ?_
      refine Sh.iconst at_370 (x := 0) rfl ?_
      refine Sh.iload at_371 rfl ?_
      refine Sh.iload at_373 rfl ?_
      refine Sh.iload at_375 rfl ?_
      refine Sh.callS hw (i1 := 5) (i2 := 6) (i3 := 7) (i4 := 8) (k' := 2) (n' := 13) (B' := b2) (R' := R2) rfl rfl rfl rfl (by decide) (m2 l Z a0 n0 hw _ _ 0 p (p + 3) fb (by omega) (by omega) (by omega) (ho 0 (by decide))) at_377 rfl rfl pd2 rfl (Sh.le rfl) (Sh.le rfl) (Sh.le rfl) (Sh.le rfl) rfl rfl ?_
      rintro _ _ ⟨rfl, rfl⟩
      refine Sh.ifF at_380 (by decide) ?_
      refine Sh.aload at_383 rfl rfl ?_
      refine Sh.iconst at_385 (x := 1) rfl ?_
      refine Sh.iload at_386 rfl ?_
      refine Sh.iload at_388 rfl ?_
      refine Sh.iload at_390 rfl ?_
      refine Sh.callS hw (i1 := 5) (i2 := 6) (i3 := 7) (i4 := 8) (k' := 2) (n' := 13) (B' := b2) (R' := R2) rfl rfl rfl rfl (by decide) (m2 l Z a0 n0 hw _ _ 1 p (p + 3) fb (by omega) (by omega) (by omega) (ho 1 (by decide))) at_392 rfl rfl pd2 rfl (Sh.le rfl) (Sh.le rfl) (Sh.le rfl) (Sh.le rfl) rfl rfl ?_
      rintro _ _ ⟨rfl, rfl⟩
      refine Sh.ifF at_395 (by decide) ?_
      refine Sh.aload at_398 rfl rfl ?_
      refine Sh.iconst at_400 (x := 2) rfl ?_
      refine Sh.iload at_401 rfl ?_
      refine Sh.iload at_403 rfl ?_
      refine Sh.iload at_405 rfl ?_
      refine Sh.callS hw (i1 := 5) (i2 := 6) (i3 := 7) (i4 := 8) (k' := 2) (n' := 13) (B' := b2) (R' := R2) rfl rfl rfl rfl (by decide) (m2 l Z a0 n0 hw _ _ 2 p (p + 3) fb (by omega) (by omega) (by omega) (ho 2 (by decide))) at_407 rfl rfl pd2 rfl (Sh.le rfl) (Sh.le rfl) (Sh.le rfl) (Sh.le rfl) rfl rfl ?_
      rintro _ _ ⟨rfl, rfl⟩
      refine Sh.ifF at_410 (by decide) ?_
      refine Sh.aload at_413 rfl rfl ?_
      refine Sh.iconst at_415 (x := 3) rfl ?_
      refine Sh.iload at_416 rfl ?_
      refine Sh.iload at_418 rfl ?_
      refine Sh.iload at_420 rfl ?_
      refine Sh.callS hw (i1 := 5) (i2 := 6) (i3 := 7) (i4 := 8) (k' := 2) (n' := 13) (B' := b2) (R' := R2) rfl rfl rfl rfl (by decide) (m2 l Z a0 n0 hw _ _ 3 p (p + 3) fb (by omega) (by omega) (by omega) (ho 3 (by decide))) at_422 rfl rfl pd2 rfl (Sh.le rfl) (Sh.le rfl) (Sh.le rfl) (Sh.le rfl) rfl rfl ?_
      rintro _ _ ⟨rfl, rfl⟩
      refine Sh.ifF at_425 (by decide) ?_
      refine Sh.aload at_428 rfl rfl ?_
      refine Sh.iconst at_430 (x := 4) rfl ?_
      refine Sh.iload at_431 rfl ?_
      refine Sh.iload at_433 rfl ?_
      refine Sh.iload at_435 rfl ?_
      refine Sh.callS hw (i1 := 5) (i2 := 6) (i3 := 7) (i4 := 8) (k' := 2) (n' := 13) (B' := b2) (R' := R2) rfl rfl rfl rfl (by decide) (m2 l Z a0 n0 hw _ _ 4 p (p + 3) fb (by omega) (by omega) (by omega) (ho 4 (by decide))) at_437 rfl rfl pd2 rfl (Sh.le rfl) (Sh.le rfl) (Sh.le rfl) (Sh.le rfl) rfl rfl ?_
      rintro _ _ ⟨rfl, rfl⟩
      refine Sh.ifF at_440 (by decide) ?_
      refine Sh.aload at_443 rfl rfl ?_
      refine Sh.iconst at_445 (x := 5) rfl ?_
      refine Sh.iload at_446 rfl ?_
      refine Sh.iload at_448 rfl ?_
      refine Sh.iload at_450 rfl ?_
      refine Sh.callS hw (i1 := 5) (i2 := 6) (i3 := 7) (i4 := 8) (k' := 2) (n' := 13) (B' := b2) (R' := R2) rfl rfl rfl rfl (by decide) (m2 l Z a0 n0 hw _ _ 5 p (p + 3) fb (by omega) (by omega) (by omega) (ho 5 (by decide))) at_452 rfl rfl pd2 rfl (Sh.le rfl) (Sh.le rfl) (Sh.le rfl) (Sh.le rfl) rfl rfl ?_
      rintro _ _ ⟨rfl, rfl⟩
      refine Sh.ifF at_455 (by decide) ?_
      refine Sh.aload at_458 rfl rfl ?_
      refine Sh.bipush at_460 (x := 6) rfl ?_
      refine Sh.iload at_462 rfl ?_
      refine Sh.iload at_464 rfl ?_
      refine Sh.iload at_466 rfl ?_
      refine Sh.callS hw (i1 := 5) (i2 := 6) (i3 := 7) (i4 := 8) (k' := 2) (n' := 13) (B' := b2) (R' := R2) rfl rfl rfl rfl (by decide) (m2 l Z a0 n0 hw _ _ 6 p (p + 3) fb (by omega) (by omega) (by omega) (ho 6 (by decide))) at_468 rfl rfl pd2 rfl (Sh.le rfl) (Sh.le rfl) (Sh.le rfl) (Sh.le rfl) rfl rfl ?_
      rintro _ _ ⟨rfl, rfl⟩
      refine Sh.ifF at_471 (by decide) ?_
      refine Sh.aload at_474 rfl rfl ?_
      refine Sh.bipush at_476 (x := 7) rfl ?_
      refine Sh.iload at_478 rfl ?_
      refine Sh.iload at_480 rfl ?_
      refine Sh.iload at_482 rfl ?_
      refine Sh.callS hw (i1 := 5) (i2 := 6) (i3 := 7) (i4 := 8) (k' := 2) (n' := 13) (B' := b2) (R' := R2) rfl rfl rfl rfl (by decide) (m2 l Z a0 n0 hw _ _ 7 p (p + 3) fb (by omega) (by omega) (by omega) (ho 7 (by decide))) at_484 rfl rfl pd2 rfl (Sh.le rfl) (Sh.le rfl) (Sh.le rfl) (Sh.le rfl) rfl rfl ?_
      rintro _ _ ⟨rfl, rfl⟩
      refine Sh.ifF at_487 (by decide) ?_
      refine Sh.aload at_490 rfl rfl ?_
      refine Sh.bipush at_492 (x := 8) rfl ?_
      refine Sh.iload at_494 rfl ?_
      refine Sh.iload at_496 rfl ?_
      refine Sh.iload at_498 rfl ?_
      refine Sh.callS hw (i1 := 5) (i2 := 6) (i3 := 7) (i4 := 8) (k' := 2) (n' := 13) (B' := b2) (R' := R2) rfl rfl rfl rfl (by decide) (m2 l Z a0 n0 hw _ _ 8 p (p + 3) fb (by omega) (by omega) (by omega) (ho 8 (by decide))) at_500 rfl rfl pd2 rfl (Sh.le rfl) (Sh.le rfl) (Sh.le rfl) (Sh.le rfl) rfl rfl ?_
      rintro _ _ ⟨rfl, rfl⟩
      refine Sh.ifF at_503 (by decide) ?_
      refine Sh.aload at_506 rfl rfl ?_
      refine Sh.bipush at_508 (x := 9) rfl ?_
      refine Sh.iload at_510 rfl ?_
      refine Sh.iload at_512 rfl ?_
      refine Sh.iload at_514 rfl ?_
      refine Sh.callS hw (i1 := 5) (i2 := 6) (i3 := 7) (i4 := 8) (k' := 2) (n' := 13) (B' := b2) (R' := R2) rfl rfl rfl rfl (by decide) (m2 l Z a0 n0 hw _ _ 9 p (p + 3) fb (by omega) (by omega) (by omega) (ho 9 (by decide))) at_516 rfl rfl pd2 rfl (Sh.le rfl) (Sh.le rfl) (Sh.le rfl) (Sh.le rfl) rfl rfl ?_
      rintro _ _ ⟨rfl, rfl⟩
      refine Sh.ifF at_519 (by decide) ?_
      refine Sh.aload at_522 rfl rfl ?_
      refine Sh.bipush at_524 (x := 10) rfl ?_
      refine Sh.iload at_526 rfl ?_
      refine Sh.iload at_528 rfl ?_
      refine Sh.iload at_530 rfl ?_
      refine Sh.callS hw (i1 := 5) (i2 := 6) (i3 := 7) (i4 := 8) (k' := 2) (n' := 13) (B' := b2) (R' := R2) rfl rfl rfl rfl (by decide) (m2 l Z a0 n0 hw _ _ 10 p (p + 3) fb (by omega) (by omega) (by omega) (ho 10 (by decide))) at_532 rfl rfl pd2 rfl (Sh.le rfl) (Sh.le rfl) (Sh.le rfl) (Sh.le rfl) rfl rfl ?_
      rintro _ _ ⟨rfl, rfl⟩
      refine Sh.ifF at_535 (by decide) ?_
      refine Sh.aload at_538 rfl rfl ?_
      refine Sh.bipush at_540 (x := 11) rfl ?_
      refine Sh.iload at_542 rfl ?_
      refine Sh.iload at_544 rfl ?_
      refine Sh.iload at_546 rfl ?_
      refine Sh.callS hw (i1 := 5) (i2 := 6) (i3 := 7) (i4 := 8) (k' := 2) (n' := 13) (B' := b2) (R' := R2) rfl rfl rfl rfl (by decide) (m2 l Z a0 n0 hw _ _ 11 p (p + 3) fb (by omega) (by omega) (by omega) (ho 11 (by decide))) at_548 rfl rfl pd2 rfl (Sh.le rfl) (Sh.le rfl) (Sh.le rfl) (Sh.le rfl) rfl rfl ?_
      rintro _ _ ⟨rfl, rfl⟩
      refine Sh.ifF at_551 (by decide) ?_
      refine Sh.iconst at_554 (x := 1) rfl ?_
      refine Sh.goto at_555 (pc' := 559) rfl (by decide) ?_
      refine Sh.istore at_559 (Sh.s1_16 rfl rfl) ?_
      refine Sh.iload at_561 rfl ?_
      refine Sh.retN at_563 rfl (by simp) rfl (Sh.le rfl) (Sh.le rfl) ?_
      rfl
  | 2, _ =>
    refine Sh.iload at_28 rfl ?_
    refine Sh.ifT at_30 (pc' := 39) rfl (by decide) (by decide) ?_
    refine Sh.iload at_39 rfl ?_
    refine Sh.iconst at_41 (x := 1) rfl ?_
    refine Sh.icmpT at_42 (pc' := 56) rfl (by decide) (by decide) ?_
    refine Sh.iload at_56 rfl ?_
    refine Sh.iconst at_58 (x := 2) rfl ?_
    refine Sh.icmpF at_59 (by decide) ?_
    refine Sh.iconst at_62 (x := 2) rfl ?_
    refine Sh.newarr hw (i := 0) (ty := .byte) (dv := .int 0) (N := 2) (cap := 2) (k' := 1) (n' := 2) (a := 0) rfl rfl at_63 rfl (by decide) rfl (Sh.rp_2) (Sh.le rfl) (by decide) (Sh.le rfl) (Sh.le rfl) rfl rfl rfl (Sh.ap_0) ?_
    refine Sh.dup at_65 rfl ?_
    refine Sh.iconst at_66 (x := 0) rfl ?_
    refine Sh.iload at_67 rfl ?_
    refine Sh.bastore (jn := 0) at_69 rfl (by decide) rfl (Sh.le rfl) e0 (Sh.ls_0) (Sh.ls_0) ?_
    refine Sh.dup at_70 rfl ?_
    refine Sh.iconst at_71 (x := 1) rfl ?_
    refine Sh.iload at_72 rfl ?_
    refine Sh.bastore (jn := 1) at_74 rfl (by decide) rfl (Sh.le rfl) e1 (Sh.ls_1) (Sh.ls_0) ?_
    refine Sh.goto at_75 (pc' := 96) rfl (by decide) ?_
    refine Sh.astore at_96 rfl (Sh.s1_12 rfl rfl) ?_
    refine Sh.bipush at_98 (x := 12) rfl ?_
    refine Sh.newarr hw (i := 0) (ty := .byte) (dv := .int 0) (N := 12) (cap := 12) (k' := 2) (n' := 14) (a := 1) rfl rfl at_100 rfl (by decide) rfl (Sh.rp_12) (Sh.le rfl) (by decide) (Sh.le rfl) (Sh.le rfl) rfl rfl rfl (Sh.ap_1) ?_
    refine Sh.dup at_102 rfl ?_
    refine Sh.iconst at_103 (x := 0) rfl ?_
    refine Sh.iload at_104 rfl ?_
    refine Sh.bastore (jn := 0) at_106 rfl (by decide) rfl (Sh.le rfl) e3 (Sh.ls_0) (Sh.ls_1) ?_
    refine Sh.dup at_107 rfl ?_
    refine Sh.iconst at_108 (x := 1) rfl ?_
    refine Sh.iload at_109 rfl ?_
    refine Sh.bastore (jn := 1) at_111 rfl (by decide) rfl (Sh.le rfl) e3 (Sh.ls_1) (Sh.ls_1) ?_
    refine Sh.dup at_112 rfl ?_
    refine Sh.iconst at_113 (x := 2) rfl ?_
    refine Sh.iload at_114 rfl ?_
    refine Sh.bastore (jn := 2) at_116 rfl (by decide) rfl (Sh.le rfl) e3 (Sh.ls_2) (Sh.ls_1) ?_
    refine Sh.dup at_117 rfl ?_
    refine Sh.iconst at_118 (x := 3) rfl ?_
    refine Sh.iload at_119 rfl ?_
    refine Sh.bastore (jn := 3) at_121 rfl (by decide) rfl (Sh.le rfl) e3 (Sh.ls_3) (Sh.ls_1) ?_
    refine Sh.dup at_122 rfl ?_
    refine Sh.iconst at_123 (x := 4) rfl ?_
    refine Sh.iload at_124 rfl ?_
    refine Sh.bastore (jn := 4) at_126 rfl (by decide) rfl (Sh.le rfl) e3 (Sh.ls_4) (Sh.ls_1) ?_
    refine Sh.dup at_127 rfl ?_
    refine Sh.iconst at_128 (x := 5) rfl ?_
    refine Sh.iload at_129 rfl ?_
    refine Sh.bastore (jn := 5) at_131 rfl (by decide) rfl (Sh.le rfl) e3 (Sh.ls_5) (Sh.ls_1) ?_
    refine Sh.dup at_132 rfl ?_
    refine Sh.bipush at_133 (x := 6) rfl ?_
    refine Sh.iload at_135 rfl ?_
    refine Sh.bastore (jn := 6) at_137 rfl (by decide) rfl (Sh.le rfl) e3 (Sh.ls_6) (Sh.ls_1) ?_
    refine Sh.dup at_138 rfl ?_
    refine Sh.bipush at_139 (x := 7) rfl ?_
    refine Sh.iload at_141 rfl ?_
    refine Sh.bastore (jn := 7) at_143 rfl (by decide) rfl (Sh.le rfl) e3 (Sh.ls_7) (Sh.ls_1) ?_
    refine Sh.dup at_144 rfl ?_
    refine Sh.bipush at_145 (x := 8) rfl ?_
    refine Sh.iload at_147 rfl ?_
    refine Sh.bastore (jn := 8) at_149 rfl (by decide) rfl (Sh.le rfl) e3 (Sh.ls_8) (Sh.ls_1) ?_
    refine Sh.dup at_150 rfl ?_
    refine Sh.bipush at_151 (x := 9) rfl ?_
    refine Sh.iload at_153 rfl ?_
    refine Sh.bastore (jn := 9) at_155 rfl (by decide) rfl (Sh.le rfl) e3 (Sh.ls_9) (Sh.ls_1) ?_
    refine Sh.dup at_156 rfl ?_
    refine Sh.bipush at_157 (x := 10) rfl ?_
    refine Sh.iload at_159 rfl ?_
    refine Sh.bastore (jn := 10) at_161 rfl (by decide) rfl (Sh.le rfl) e3 (Sh.ls_10) (Sh.ls_1) ?_
    refine Sh.dup at_162 rfl ?_
    refine Sh.bipush at_163 (x := 11) rfl ?_
    refine Sh.iload at_165 rfl ?_
    refine Sh.bastore (jn := 11) at_167 rfl (by decide) rfl (Sh.le rfl) e3 (Sh.ls_11) (Sh.ls_1) ?_
    refine Sh.astore at_168 rfl (Sh.s1_13 rfl rfl) ?_
    generalize hK : [Value.int fb, Value.int fb, Value.int fb, Value.int fb, Value.int fb, Value.int fb, Value.int fb, Value.int fb, Value.int fb, Value.int fb, Value.int fb, Value.int fb] = K
    have hl : K.length = 12 := by rw [← hK]; rfl
    have hg : ∀ j, j < 12 → K[j]? = some (.int fb) := by
      intro j hj
      rw [← hK, show [Value.int fb, Value.int fb, Value.int fb, Value.int fb, Value.int fb, Value.int fb, Value.int fb, Value.int fb, Value.int fb, Value.int fb, Value.int fb, Value.int fb] = List.replicate 12 (Value.int fb) from rfl]
      exact own_rep _ _ _ hj
    have hbs : ∀ b ∈ [x0, x1], b.toInt8.toInt32 = b := by
      intro b hb
      simp only [List.mem_cons, List.not_mem_nil, or_false] at hb
      rcases hb with rfl | rfl
      · exact e0
      · exact e1
    rcases Decidable.em (x0 = 0) with rfl | h0
    · skip
      rcases Decidable.em (x1 = 0) with rfl | h1
      · skip
        have hes : own_enc [0, 0] = [0, -1, 0, -1, 0, 1] := by simp [own_enc]
        have hi := fun j e h => own_in [0, -1, 0, -1, 0, 1] K p j e h (by rw [hl]; simp; omega)
        have ho : ∀ i, i < 12 → i < p ∨ p + 6 ≤ i → (own_wr K p [0, -1, 0, -1, 0, 1])[i]? = some (.int fb) := fun i h q => by rw [own_out _ _ _ _ (by simpa using q)]; exact hg i h
        have hl2 : (own_wr K p [0, -1, 0, -1, 0, 1]).length = 12 := by rw [own_len, hl]
        refine Sh.aload at_170 rfl rfl ?_
        refine Sh.iload at_172 rfl ?_
        refine Sh.aload at_174 rfl rfl ?_
        refine Sh.callS hw (i1 := 1) (i2 := 2) (i3 := 3) (i4 := 4) (k' := 2) (n' := 14) (B' := b1) (R' := R1) rfl rfl rfl rfl (by decide) (m1 l Z a0 n0 hw [0, 0] [0, -1, 0, -1, 0, 1] _ K p (p + 6) rfl hbs (Sh.le rfl) hes rfl (by rw [hl]; omega) (by rw [hl]; decide)) at_176 rfl rfl pd1 rfl (Sh.le rfl) (Sh.le rfl) (Sh.le rfl) (Sh.le rfl) rfl rfl ?_
        rintro _ _ ⟨rfl, rfl⟩
        refine Sh.istore at_179 (Sh.s1_14 rfl rfl) ?_
        refine Sh.iload at_181 rfl ?_
        refine Sh.istore at_183 (Sh.s1_15 rfl rfl) ?_
        refine Sh.iconst at_185 (x := 1) rfl ?_
        refine Sh.istore at_186 (Sh.s1_16 rfl rfl) ?_
        refine Sh.iload at_188 rfl ?_
        refine Sh.iconst at_190 (x := 1) rfl ?_
        refine Sh.icmpF at_191 (by decide) ?_
        refine Sh.iload at_194 rfl ?_
        refine Sh.ifF at_196 (by decide) ?_
        refine Sh.aload at_199 rfl rfl ?_
        refine Sh.iload at_201 rfl ?_
        refine Sh.iload at_203 rfl ?_
        refine Sh.callS hw (i1 := 9) (i2 := 10) (i3 := 7) (i4 := 11) (k' := 2) (n' := 14) (B' := b3) (R' := R3) rfl rfl rfl rfl (by decide) (m3 l Z a0 n0 hw _ _ (p + 0) 0 (by omega) (hi 0 0 rfl) (fun _ => hi 1 (-1) rfl)) at_205 rfl rfl pd3 rfl (Sh.le rfl) (Sh.le rfl) (Sh.le rfl) (Sh.le rfl) rfl rfl ?_
        rintro _ _ ⟨rfl, rfl⟩
        refine Sh.ifF at_208 (by decide) ?_
        refine Sh.iconst at_211 (x := 1) rfl ?_
        refine Sh.goto at_212 (pc' := 216) rfl (by decide) ?_
        refine Sh.istore at_216 (Sh.s1_16 rfl rfl) ?_
        refine Sh.iload at_218 rfl ?_
        refine Sh.iload at_220 rfl ?_
        refine Sh.ifF at_222 (by decide) ?_
        refine Sh.iconst at_225 (x := 2) rfl ?_
        refine Sh.goto at_226 (pc' := 230) rfl (by decide) ?_
        refine Sh.iaddE at_230 (Sh.onAdd _ 2) ?_
        refine Sh.istore at_231 (Sh.s1_15 rfl rfl) ?_
        refine Sh.iload at_233 rfl ?_
        refine Sh.iconst at_235 (x := 2) rfl ?_
        refine Sh.icmpF at_236 (by decide) ?_
        refine Sh.iload at_239 rfl ?_
        refine Sh.ifF at_241 (by decide) ?_
        refine Sh.aload at_244 rfl rfl ?_
        refine Sh.iload at_246 rfl ?_
        refine Sh.iload at_248 rfl ?_
        refine Sh.callS hw (i1 := 9) (i2 := 10) (i3 := 7) (i4 := 11) (k' := 2) (n' := 14) (B' := b3) (R' := R3) rfl rfl rfl rfl (by decide) (m3 l Z a0 n0 hw _ _ (p + 2) 0 (by omega) (hi 2 0 rfl) (fun _ => hi 3 (-1) rfl)) at_250 rfl rfl pd3 rfl (Sh.le rfl) (Sh.le rfl) (Sh.le rfl) (Sh.le rfl) rfl rfl ?_
        rintro _ _ ⟨rfl, rfl⟩
        refine Sh.ifF at_253 (by decide) ?_
        refine Sh.iconst at_256 (x := 1) rfl ?_
        refine Sh.goto at_257 (pc' := 261) rfl (by decide) ?_
        refine Sh.istore at_261 (Sh.s1_16 rfl rfl) ?_
        refine Sh.iload at_263 rfl ?_
        refine Sh.iload at_265 rfl ?_
        refine Sh.ifF at_267 (by decide) ?_
        refine Sh.iconst at_270 (x := 2) rfl ?_
        refine Sh.goto at_271 (pc' := 275) rfl (by decide) ?_
        refine Sh.iaddE at_275 (Sh.onAdd _ 2) ?_
        refine Sh.istore at_276 (Sh.s1_15 rfl rfl) ?_
        refine Sh.iload at_278 rfl ?_
        refine Sh.iconst at_280 (x := 3) rfl ?_
        refine Sh.icmpT at_281 (pc' := 323) rfl (by decide) (by decide) ?_
        refine Sh.iload at_323 rfl ?_
        refine Sh.ifF at_325 (by decide) ?_
        refine Sh.aload at_328 rfl rfl ?_
        refine Sh.iload at_330 rfl ?_
        refine Sh.baload at_332 rfl (Sh.onNN (by omega)) (Sh.onCl (by omega)) (hi 4 0 rfl) ?_
        refine Sh.ifF at_333 (by decide) ?_
        refine Sh.aload at_336 rfl rfl ?_
        refine Sh.iload at_338 rfl ?_
        refine Sh.iconst at_340 (x := 1) rfl ?_
        refine Sh.iaddE at_341 (Sh.onAdd _ 1) ?_
        refine Sh.baload at_342 rfl (Sh.onNN (by omega)) (Sh.onCl (by omega)) (hi 5 1 rfl) ?_
        refine Sh.iconst at_343 (x := 1) rfl ?_
        refine Sh.icmpF at_344 (by decide) ?_
        refine Sh.iload at_347 rfl ?_
        refine Sh.iload at_349 rfl ?_
        refine Sh.iconst at_351 (x := 2) rfl ?_
        refine Sh.iaddE at_352 (Sh.onAdd _ 2) ?_
        refine Sh.icmpF at_353 (fun q => q rfl) ?_
        refine Sh.iconst at_356 (x := 1) rfl ?_
        refine Sh.goto at_357 (pc' := 361) rfl (by decide) ?_
        refine Sh.istore at_361 (Sh.s1_16 rfl rfl) ?_
        refine Sh.iload at_363 rfl ?_
        refine Sh.ifF at_365 (by decide) ?_
        refine Sh.aload at_368 rfl rfl ?_
        refine Sh.iconst at_370 (x := 0) rfl ?_
        refine Sh.iload at_371 rfl ?_
        refine Sh.iload at_373 rfl ?_
        refine Sh.iload at_375 rfl ?_
        refine Sh.callS hw (i1 := 5) (i2 := 6) (i3 := 7) (i4 := 8) (k' := 2) (n' := 14) (B' := b2) (R' := R2) rfl rfl rfl rfl (by decide) (m2 l Z a0 n0 hw _ _ 0 p (p + 6) fb (by omega) (by omega) (by omega) (ho 0 (by decide))) at_377 rfl rfl pd2 rfl (Sh.le rfl) (Sh.le rfl) (Sh.le rfl) (Sh.le rfl) rfl rfl ?_
        rintro _ _ ⟨rfl, rfl⟩
        refine Sh.ifF at_380 (by decide) ?_
        refine Sh.aload at_383 rfl rfl ?_
        refine Sh.iconst at_385 (x := 1) rfl ?_
        refine Sh.iload at_386 rfl ?_
        refine Sh.iload at_388 rfl ?_
        refine Sh.iload at_390 rfl ?_
        refine Sh.callS hw (i1 := 5) (i2 := 6) (i3 := 7) (i4 := 8) (k' := 2) (n' := 14) (B' := b2) (R' := R2) rfl rfl rfl rfl (by decide) (m2 l Z a0 n0 hw _ _ 1 p (p + 6) fb (by omega) (by omega) (by omega) (ho 1 (by decide))) at_392 rfl rfl pd2 rfl (Sh.le rfl) (Sh.le rfl) (Sh.le rfl) (Sh.le rfl) rfl rfl ?_
        rintro _ _ ⟨rfl, rfl⟩
        refine Sh.ifF at_395 (by decide) ?_
        refine Sh.aload at_398 rfl rfl ?_
        refine Sh.iconst at_400 (x := 2) rfl ?_
        refine Sh.iload at_401 rfl ?_
        refine Sh.iload at_403 rfl ?_
        refine Sh.iload at_405 rfl ?_
        refine Sh.callS hw (i1 := 5) (i2 := 6) (i3 := 7) (i4 := 8) (k' := 2) (n' := 14) (B' := b2) (R' := R2) rfl rfl rfl rfl (by decide) (m2 l Z a0 n0 hw _ _ 2 p (p + 6) fb (by omega) (by omega) (by omega) (ho 2 (by decide))) at_407 rfl rfl pd2 rfl (Sh.le rfl) (Sh.le rfl) (Sh.le rfl) (Sh.le rfl) rfl rfl ?_
        rintro _ _ ⟨rfl, rfl⟩
        refine Sh.ifF at_410 (by decide) ?_
        refine Sh.aload at_413 rfl rfl ?_
        refine Sh.iconst at_415 (x := 3) rfl ?_
        refine Sh.iload at_416 rfl ?_
        refine Sh.iload at_418 rfl ?_
        refine Sh.iload at_420 rfl ?_
        refine Sh.callS hw (i1 := 5) (i2 := 6) (i3 := 7) (i4 := 8) (k' := 2) (n' := 14) (B' := b2) (R' := R2) rfl rfl rfl rfl (by decide) (m2 l Z a0 n0 hw _ _ 3 p (p + 6) fb (by omega) (by omega) (by omega) (ho 3 (by decide))) at_422 rfl rfl pd2 rfl (Sh.le rfl) (Sh.le rfl) (Sh.le rfl) (Sh.le rfl) rfl rfl ?_
        rintro _ _ ⟨rfl, rfl⟩
        refine Sh.ifF at_425 (by decide) ?_
        refine Sh.aload at_428 rfl rfl ?_
        refine Sh.iconst at_430 (x := 4) rfl ?_
        refine Sh.iload at_431 rfl ?_
        refine Sh.iload at_433 rfl ?_
        refine Sh.iload at_435 rfl ?_
        refine Sh.callS hw (i1 := 5) (i2 := 6) (i3 := 7) (i4 := 8) (k' := 2) (n' := 14) (B' := b2) (R' := R2) rfl rfl rfl rfl (by decide) (m2 l Z a0 n0 hw _ _ 4 p (p + 6) fb (by omega) (by omega) (by omega) (ho 4 (by decide))) at_437 rfl rfl pd2 rfl (Sh.le rfl) (Sh.le rfl) (Sh.le rfl) (Sh.le rfl) rfl rfl ?_
        rintro _ _ ⟨rfl, rfl⟩
        refine Sh.ifF at_440 (by decide) ?_
        refine Sh.aload at_443 rfl rfl ?_
        refine Sh.iconst at_445 (x := 5) rfl ?_
        refine Sh.iload at_446 rfl ?_
        refine Sh.iload at_448 rfl ?_
        refine Sh.iload at_450 rfl ?_
        refine Sh.callS hw (i1 := 5) (i2 := 6) (i3 := 7) (i4 := 8) (k' := 2) (n' := 14) (B' := b2) (R' := R2) rfl rfl rfl rfl (by decide) (m2 l Z a0 n0 hw _ _ 5 p (p + 6) fb (by omega) (by omega) (by omega) (ho 5 (by decide))) at_452 rfl rfl pd2 rfl (Sh.le rfl) (Sh.le rfl) (Sh.le rfl) (Sh.le rfl) rfl rfl ?_
        rintro _ _ ⟨rfl, rfl⟩
        refine Sh.ifF at_455 (by decide) ?_
        refine Sh.aload at_458 rfl rfl ?_
        refine Sh.bipush at_460 (x := 6) rfl ?_
        refine Sh.iload at_462 rfl ?_
        refine Sh.iload at_464 rfl ?_
        refine Sh.iload at_466 rfl ?_
        refine Sh.callS hw (i1 := 5) (i2 := 6) (i3 := 7) (i4 := 8) (k' := 2) (n' := 14) (B' := b2) (R' := R2) rfl rfl rfl rfl (by decide) (m2 l Z a0 n0 hw _ _ 6 p (p + 6) fb (by omega) (by omega) (by omega) (ho 6 (by decide))) at_468 rfl rfl pd2 rfl (Sh.le rfl) (Sh.le rfl) (Sh.le rfl) (Sh.le rfl) rfl rfl ?_
        rintro _ _ ⟨rfl, rfl⟩
        refine Sh.ifF at_471 (by decide) ?_
        refine Sh.aload at_474 rfl rfl ?_
        refine Sh.bipush at_476 (x := 7) rfl ?_
        refine Sh.iload at_478 rfl ?_
        refine Sh.iload at_480 rfl ?_
        refine Sh.iload at_482 rfl ?_
        refine Sh.callS hw (i1 := 5) (i2 := 6) (i3 := 7) (i4 := 8) (k' := 2) (n' := 14) (B' := b2) (R' := R2) rfl rfl rfl rfl (by decide) (m2 l Z a0 n0 hw _ _ 7 p (p + 6) fb (by omega) (by omega) (by omega) (ho 7 (by decide))) at_484 rfl rfl pd2 rfl (Sh.le rfl) (Sh.le rfl) (Sh.le rfl) (Sh.le rfl) rfl rfl ?_
        rintro _ _ ⟨rfl, rfl⟩
        refine Sh.ifF at_487 (by decide) ?_
        refine Sh.aload at_490 rfl rfl ?_
        refine Sh.bipush at_492 (x := 8) rfl ?_
        refine Sh.iload at_494 rfl ?_
        refine Sh.iload at_496 rfl ?_
        refine Sh.iload at_498 rfl ?_
        refine Sh.callS hw (i1 := 5) (i2 := 6) (i3 := 7) (i4 := 8) (k' := 2) (n' := 14) (B' := b2) (R' := R2) rfl rfl rfl rfl (by decide) (m2 l Z a0 n0 hw _ _ 8 p (p + 6) fb (by omega) (by omega) (by omega) (ho 8 (by decide))) at_500 rfl rfl pd2 rfl (Sh.le rfl) (Sh.le rfl) (Sh.le rfl) (Sh.le rfl) rfl rfl ?_
        rintro _ _ ⟨rfl, rfl⟩
        refine Sh.ifF at_503 (by decide) ?_
        refine Sh.aload at_506 rfl rfl ?_
        refine Sh.bipush at_508 (x := 9) rfl ?_
        refine Sh.iload at_510 rfl ?_
        refine Sh.iload at_512 rfl ?_
        refine Sh.iload at_514 rfl ?_
        refine Sh.callS hw (i1 := 5) (i2 := 6) (i3 := 7) (i4 := 8) (k' := 2) (n' := 14) (B' := b2) (R' := R2) rfl rfl rfl rfl (by decide) (m2 l Z a0 n0 hw _ _ 9 p (p + 6) fb (by omega) (by omega) (by omega) (ho 9 (by decide))) at_516 rfl rfl pd2 rfl (Sh.le rfl) (Sh.le rfl) (Sh.le rfl) (Sh.le rfl) rfl rfl ?_
        rintro _ _ ⟨rfl, rfl⟩
        refine Sh.ifF at_519 (by decide) ?_
        refine Sh.aload at_522 rfl rfl ?_
        refine Sh.bipush at_524 (x := 10) rfl ?_
        refine Sh.iload at_526 rfl ?_
        refine Sh.iload at_528 rfl ?_
        refine Sh.iload at_530 rfl ?_
        refine Sh.callS hw (i1 := 5) (i2 := 6) (i3 := 7) (i4 := 8) (k' := 2) (n' := 14) (B' := b2) (R' := R2) rfl rfl rfl rfl (by decide) (m2 l Z a0 n0 hw _ _ 10 p (p + 6) fb (by omega) (by omega) (by omega) (ho 10 (by decide))) at_532 rfl rfl pd2 rfl (Sh.le rfl) (Sh.le rfl) (Sh.le rfl) (Sh.le rfl) rfl rfl ?_
        rintro _ _ ⟨rfl, rfl⟩
        refine Sh.ifF at_535 (by decide) ?_
        refine Sh.aload at_538 rfl rfl ?_
        refine Sh.bipush at_540 (x := 11) rfl ?_
        refine Sh.iload at_542 rfl ?_
        refine Sh.iload at_544 rfl ?_
        refine Sh.iload at_546 rfl ?_
        refine Sh.callS hw (i1 := 5) (i2 := 6) (i3 := 7) (i4 := 8) (k' := 2) (n' := 14) (B' := b2) (R' := R2) rfl rfl rfl rfl (by decide) (m2 l Z a0 n0 hw _ _ 11 p (p + 6) fb (by omega) (by omega) (by omega) (ho 11 (by decide))) at_548 rfl rfl pd2 rfl (Sh.le rfl) (Sh.le rfl) (Sh.le rfl) (Sh.le rfl) rfl rfl ?_
        rintro _ _ ⟨rfl, rfl⟩
        refine Sh.ifF at_551 (by decide) ?_
        refine Sh.iconst at_554 (x := 1) rfl ?_
        refine Sh.goto at_555 (pc' := 559) rfl (by decide) ?_
        refine Sh.istore at_559 (Sh.s1_16 rfl rfl) ?_
        refine Sh.iload at_561 rfl ?_
        refine Sh.retN at_563 rfl (by simp) rfl (Sh.le rfl) (Sh.le rfl) ?_
        rfl
      · skip
        have hes : own_enc [0, x1] = [0, -1, x1, 0, 1] := by simp [own_enc, h1]
        have hi := fun j e h => own_in [0, -1, x1, 0, 1] K p j e h (by rw [hl]; simp; omega)
        have ho : ∀ i, i < 12 → i < p ∨ p + 5 ≤ i → (own_wr K p [0, -1, x1, 0, 1])[i]? = some (.int fb) := fun i h q => by rw [own_out _ _ _ _ (by simpa using q)]; exact hg i h
        have hl2 : (own_wr K p [0, -1, x1, 0, 1]).length = 12 := by rw [own_len, hl]
        refine Sh.aload at_170 rfl rfl ?_
        refine Sh.iload at_172 rfl ?_
        refine Sh.aload at_174 rfl rfl ?_
        refine Sh.callS hw (i1 := 1) (i2 := 2) (i3 := 3) (i4 := 4) (k' := 2) (n' := 14) (B' := b1) (R' := R1) rfl rfl rfl rfl (by decide) (m1 l Z a0 n0 hw [0, x1] [0, -1, x1, 0, 1] _ K p (p + 5) rfl hbs (Sh.le rfl) hes rfl (by rw [hl]; omega) (by rw [hl]; decide)) at_176 rfl rfl pd1 rfl (Sh.le rfl) (Sh.le rfl) (Sh.le rfl) (Sh.le rfl) rfl rfl ?_
        rintro _ _ ⟨rfl, rfl⟩
        refine Sh.istore at_179 (Sh.s1_14 rfl rfl) ?_
        refine Sh.iload at_181 rfl ?_
        refine Sh.istore at_183 (Sh.s1_15 rfl rfl) ?_
        refine Sh.iconst at_185 (x := 1) rfl ?_
        refine Sh.istore at_186 (Sh.s1_16 rfl rfl) ?_
        refine Sh.iload at_188 rfl ?_
        refine Sh.iconst at_190 (x := 1) rfl ?_
        refine Sh.icmpF at_191 (by decide) ?_
        refine Sh.iload at_194 rfl ?_
        refine Sh.ifF at_196 (by decide) ?_
        refine Sh.aload at_199 rfl rfl ?_
        refine Sh.iload at_201 rfl ?_
        refine Sh.iload at_203 rfl ?_
        refine Sh.callS hw (i1 := 9) (i2 := 10) (i3 := 7) (i4 := 11) (k' := 2) (n' := 14) (B' := b3) (R' := R3) rfl rfl rfl rfl (by decide) (m3 l Z a0 n0 hw _ _ (p + 0) 0 (by omega) (hi 0 0 rfl) (fun _ => hi 1 (-1) rfl)) at_205 rfl rfl pd3 rfl (Sh.le rfl) (Sh.le rfl) (Sh.le rfl) (Sh.le rfl) rfl rfl ?_
        rintro _ _ ⟨rfl, rfl⟩
        refine Sh.ifF at_208 (by decide) ?_
        refine Sh.iconst at_211 (x := 1) rfl ?_
        refine Sh.goto at_212 (pc' := 216) rfl (by decide) ?_
        refine Sh.istore at_216 (Sh.s1_16 rfl rfl) ?_
        refine Sh.iload at_218 rfl ?_
        refine Sh.iload at_220 rfl ?_
        refine Sh.ifF at_222 (by decide) ?_
        refine Sh.iconst at_225 (x := 2) rfl ?_
        refine Sh.goto at_226 (pc' := 230) rfl (by decide) ?_
        refine Sh.iaddE at_230 (Sh.onAdd _ 2) ?_
        refine Sh.istore at_231 (Sh.s1_15 rfl rfl) ?_
        refine Sh.iload at_233 rfl ?_
        refine Sh.iconst at_235 (x := 2) rfl ?_
        refine Sh.icmpF at_236 (by decide) ?_
        refine Sh.iload at_239 rfl ?_
        refine Sh.ifF at_241 (by decide) ?_
        refine Sh.aload at_244 rfl rfl ?_
        refine Sh.iload at_246 rfl ?_
        refine Sh.iload at_248 rfl ?_
        refine Sh.callS hw (i1 := 9) (i2 := 10) (i3 := 7) (i4 := 11) (k' := 2) (n' := 14) (B' := b3) (R' := R3) rfl rfl rfl rfl (by decide) (m3 l Z a0 n0 hw _ _ (p + 2) x1 (by omega) (hi 2 x1 rfl) (fun q => absurd q h1)) at_250 rfl rfl pd3 rfl (Sh.le rfl) (Sh.le rfl) (Sh.le rfl) (Sh.le rfl) rfl rfl ?_
        rintro _ _ ⟨rfl, rfl⟩
        refine Sh.ifF at_253 (by decide) ?_
        refine Sh.iconst at_256 (x := 1) rfl ?_
        refine Sh.goto at_257 (pc' := 261) rfl (by decide) ?_
        refine Sh.istore at_261 (Sh.s1_16 rfl rfl) ?_
        refine Sh.iload at_263 rfl ?_
        refine Sh.iload at_265 rfl ?_
        refine Sh.ifT at_267 (pc' := 274) rfl (by decide) h1 ?_
        refine Sh.iconst at_274 (x := 1) rfl ?_
        refine Sh.iaddE at_275 (Sh.onAdd _ 1) ?_
        refine Sh.istore at_276 (Sh.s1_15 rfl rfl) ?_
        refine Sh.iload at_278 rfl ?_
        refine Sh.iconst at_280 (x := 3) rfl ?_
        refine Sh.icmpT at_281 (pc' := 323) rfl (by decide) (by decide) ?_
        refine Sh.iload at_323 rfl ?_
        refine Sh.ifF at_325 (by decide) ?_
        refine Sh.aload at_328 rfl rfl ?_
        refine Sh.iload at_330 rfl ?_
        refine Sh.baload at_332 rfl (Sh.onNN (by omega)) (Sh.onCl (by omega)) (hi 3 0 rfl) ?_
        refine Sh.ifF at_333 (by decide) ?_
        refine Sh.aload at_336 rfl rfl ?_
        refine Sh.iload at_338 rfl ?_
        refine Sh.iconst at_340 (x := 1) rfl ?_
        refine Sh.iaddE at_341 (Sh.onAdd _ 1) ?_
        refine Sh.baload at_342 rfl (Sh.onNN (by omega)) (Sh.onCl (by omega)) (hi 4 1 rfl) ?_
        refine Sh.iconst at_343 (x := 1) rfl ?_
        refine Sh.icmpF at_344 (by decide) ?_
        refine Sh.iload at_347 rfl ?_
        refine Sh.iload at_349 rfl ?_
        refine Sh.iconst at_351 (x := 2) rfl ?_
        refine Sh.iaddE at_352 (Sh.onAdd _ 2) ?_
        refine Sh.icmpF at_353 (fun q => q rfl) ?_
        refine Sh.iconst at_356 (x := 1) rfl ?_
        refine Sh.goto at_357 (pc' := 361) rfl (by decide) ?_
        refine Sh.istore at_361 (Sh.s1_16 rfl rfl) ?_
        refine Sh.iload at_363 rfl ?_
        refine Sh.ifF at_365 (by decide) ?_
        refine Sh.aload at_368 rfl rfl ?_
        refine Sh.iconst at_370 (x := 0) rfl ?_
        refine Sh.iload at_371 rfl ?_
        refine Sh.iload at_373 rfl ?_
        refine Sh.iload at_375 rfl ?_
        refine Sh.callS hw (i1 := 5) (i2 := 6) (i3 := 7) (i4 := 8) (k' := 2) (n' := 14) (B' := b2) (R' := R2) rfl rfl rfl rfl (by decide) (m2 l Z a0 n0 hw _ _ 0 p (p + 5) fb (by omega) (by omega) (by omega) (ho 0 (by decide))) at_377 rfl rfl pd2 rfl (Sh.le rfl) (Sh.le rfl) (Sh.le rfl) (Sh.le rfl) rfl rfl ?_
        rintro _ _ ⟨rfl, rfl⟩
        refine Sh.ifF at_380 (by decide) ?_
        refine Sh.aload at_383 rfl rfl ?_
        refine Sh.iconst at_385 (x := 1) rfl ?_
        refine Sh.iload at_386 rfl ?_
        refine Sh.iload at_388 rfl ?_
        refine Sh.iload at_390 rfl ?_
        refine Sh.callS hw (i1 := 5) (i2 := 6) (i3 := 7) (i4 := 8) (k' := 2) (n' := 14) (B' := b2) (R' := R2) rfl rfl rfl rfl (by decide) (m2 l Z a0 n0 hw _ _ 1 p (p + 5) fb (by omega) (by omega) (by omega) (ho 1 (by decide))) at_392 rfl rfl pd2 rfl (Sh.le rfl) (Sh.le rfl) (Sh.le rfl) (Sh.le rfl) rfl rfl ?_
        rintro _ _ ⟨rfl, rfl⟩
        refine Sh.ifF at_395 (by decide) ?_
        refine Sh.aload at_398 rfl rfl ?_
        refine Sh.iconst at_400 (x := 2) rfl ?_
        refine Sh.iload at_401 rfl ?_
        refine Sh.iload at_403 rfl ?_
        refine Sh.iload at_405 rfl ?_
        refine Sh.callS hw (i1 := 5) (i2 := 6) (i3 := 7) (i4 := 8) (k' := 2) (n' := 14) (B' := b2) (R' := R2) rfl rfl rfl rfl (by decide) (m2 l Z a0 n0 hw _ _ 2 p (p + 5) fb (by omega) (by omega) (by omega) (ho 2 (by decide))) at_407 rfl rfl pd2 rfl (Sh.le rfl) (Sh.le rfl) (Sh.le rfl) (Sh.le rfl) rfl rfl ?_
        rintro _ _ ⟨rfl, rfl⟩
        refine Sh.ifF at_410 (by decide) ?_
        refine Sh.aload at_413 rfl rfl ?_
        refine Sh.iconst at_415 (x := 3) rfl ?_
        refine Sh.iload at_416 rfl ?_
        refine Sh.iload at_418 rfl ?_
        refine Sh.iload at_420 rfl ?_
        refine Sh.callS hw (i1 := 5) (i2 := 6) (i3 := 7) (i4 := 8) (k' := 2) (n' := 14) (B' := b2) (R' := R2) rfl rfl rfl rfl (by decide) (m2 l Z a0 n0 hw _ _ 3 p (p + 5) fb (by omega) (by omega) (by omega) (ho 3 (by decide))) at_422 rfl rfl pd2 rfl (Sh.le rfl) (Sh.le rfl) (Sh.le rfl) (Sh.le rfl) rfl rfl ?_
        rintro _ _ ⟨rfl, rfl⟩
        refine Sh.ifF at_425 (by decide) ?_
        refine Sh.aload at_428 rfl rfl ?_
        refine Sh.iconst at_430 (x := 4) rfl ?_
        refine Sh.iload at_431 rfl ?_
        refine Sh.iload at_433 rfl ?_
        refine Sh.iload at_435 rfl ?_
        refine Sh.callS hw (i1 := 5) (i2 := 6) (i3 := 7) (i4 := 8) (k' := 2) (n' := 14) (B' := b2) (R' := R2) rfl rfl rfl rfl (by decide) (m2 l Z a0 n0 hw _ _ 4 p (p + 5) fb (by omega) (by omega) (by omega) (ho 4 (by decide))) at_437 rfl rfl pd2 rfl (Sh.le rfl) (Sh.le rfl) (Sh.le rfl) (Sh.le rfl) rfl rfl ?_
        rintro _ _ ⟨rfl, rfl⟩
        refine Sh.ifF at_440 (by decide) ?_
        refine Sh.aload at_443 rfl rfl ?_
        refine Sh.iconst at_445 (x := 5) rfl ?_
        refine Sh.iload at_446 rfl ?_
        refine Sh.iload at_448 rfl ?_
        refine Sh.iload at_450 rfl ?_
        refine Sh.callS hw (i1 := 5) (i2 := 6) (i3 := 7) (i4 := 8) (k' := 2) (n' := 14) (B' := b2) (R' := R2) rfl rfl rfl rfl (by decide) (m2 l Z a0 n0 hw _ _ 5 p (p + 5) fb (by omega) (by omega) (by omega) (ho 5 (by decide))) at_452 rfl rfl pd2 rfl (Sh.le rfl) (Sh.le rfl) (Sh.le rfl) (Sh.le rfl) rfl rfl ?_
        rintro _ _ ⟨rfl, rfl⟩
        refine Sh.ifF at_455 (by decide) ?_
        refine Sh.aload at_458 rfl rfl ?_
        refine Sh.bipush at_460 (x := 6) rfl ?_
        refine Sh.iload at_462 rfl ?_
        refine Sh.iload at_464 rfl ?_
        refine Sh.iload at_466 rfl ?_
        refine Sh.callS hw (i1 := 5) (i2 := 6) (i3 := 7) (i4 := 8) (k' := 2) (n' := 14) (B' := b2) (R' := R2) rfl rfl rfl rfl (by decide) (m2 l Z a0 n0 hw _ _ 6 p (p + 5) fb (by omega) (by omega) (by omega) (ho 6 (by decide))) at_468 rfl rfl pd2 rfl (Sh.le rfl) (Sh.le rfl) (Sh.le rfl) (Sh.le rfl) rfl rfl ?_
        rintro _ _ ⟨rfl, rfl⟩
        refine Sh.ifF at_471 (by decide) ?_
        refine Sh.aload at_474 rfl rfl ?_
        refine Sh.bipush at_476 (x := 7) rfl ?_
        refine Sh.iload at_478 rfl ?_
        refine Sh.iload at_480 rfl ?_
        refine Sh.iload at_482 rfl ?_
        refine Sh.callS hw (i1 := 5) (i2 := 6) (i3 := 7) (i4 := 8) (k' := 2) (n' := 14) (B' := b2) (R' := R2) rfl rfl rfl rfl (by decide) (m2 l Z a0 n0 hw _ _ 7 p (p + 5) fb (by omega) (by omega) (by omega) (ho 7 (by decide))) at_484 rfl rfl pd2 rfl (Sh.le rfl) (Sh.le rfl) (Sh.le rfl) (Sh.le rfl) rfl rfl ?_
        rintro _ _ ⟨rfl, rfl⟩
        refine Sh.ifF at_487 (by decide) ?_
        refine Sh.aload at_490 rfl rfl ?_
        refine Sh.bipush at_492 (x := 8) rfl ?_
        refine Sh.iload at_494 rfl ?_
        refine Sh.iload at_496 rfl ?_
        refine Sh.iload at_498 rfl ?_
        refine Sh.callS hw (i1 := 5) (i2 := 6) (i3 := 7) (i4 := 8) (k' := 2) (n' := 14) (B' := b2) (R' := R2) rfl rfl rfl rfl (by decide) (m2 l Z a0 n0 hw _ _ 8 p (p + 5) fb (by omega) (by omega) (by omega) (ho 8 (by decide))) at_500 rfl rfl pd2 rfl (Sh.le rfl) (Sh.le rfl) (Sh.le rfl) (Sh.le rfl) rfl rfl ?_
        rintro _ _ ⟨rfl, rfl⟩
        refine Sh.ifF at_503 (by decide) ?_
        refine Sh.aload at_506 rfl rfl ?_
        refine Sh.bipush at_508 (x := 9) rfl ?_
        refine Sh.iload at_510 rfl ?_
        refine Sh.iload at_512 rfl ?_
        refine Sh.iload at_514 rfl ?_
        refine Sh.callS hw (i1 := 5) (i2 := 6) (i3 := 7) (i4 := 8) (k' := 2) (n' := 14) (B' := b2) (R' := R2) rfl rfl rfl rfl (by decide) (m2 l Z a0 n0 hw _ _ 9 p (p + 5) fb (by omega) (by omega) (by omega) (ho 9 (by decide))) at_516 rfl rfl pd2 rfl (Sh.le rfl) (Sh.le rfl) (Sh.le rfl) (Sh.le rfl) rfl rfl ?_
        rintro _ _ ⟨rfl, rfl⟩
        refine Sh.ifF at_519 (by decide) ?_
        refine Sh.aload at_522 rfl rfl ?_
        refine Sh.bipush at_524 (x := 10) rfl ?_
        refine Sh.iload at_526 rfl ?_
        refine Sh.iload at_528 rfl ?_
        refine Sh.iload at_530 rfl ?_
        refine Sh.callS hw (i1 := 5) (i2 := 6) (i3 := 7) (i4 := 8) (k' := 2) (n' := 14) (B' := b2) (R' := R2) rfl rfl rfl rfl (by decide) (m2 l Z a0 n0 hw _ _ 10 p (p + 5) fb (by omega) (by omega) (by omega) (ho 10 (by decide))) at_532 rfl rfl pd2 rfl (Sh.le rfl) (Sh.le rfl) (Sh.le rfl) (Sh.le rfl) rfl rfl ?_
        rintro _ _ ⟨rfl, rfl⟩
        refine Sh.ifF at_535 (by decide) ?_
        refine Sh.aload at_538 rfl rfl ?_
        refine Sh.bipush at_540 (x := 11) rfl ?_
        refine Sh.iload at_542 rfl ?_
        refine Sh.iload at_544 rfl ?_
        refine Sh.iload at_546 rfl ?_
        refine Sh.callS hw (i1 := 5) (i2 := 6) (i3 := 7) (i4 := 8) (k' := 2) (n' := 14) (B' := b2) (R' := R2) rfl rfl rfl rfl (by decide) (m2 l Z a0 n0 hw _ _ 11 p (p + 5) fb (by omega) (by omega) (by omega) (ho 11 (by decide))) at_548 rfl rfl pd2 rfl (Sh.le rfl) (Sh.le rfl) (Sh.le rfl) (Sh.le rfl) rfl rfl ?_
        rintro _ _ ⟨rfl, rfl⟩
        refine Sh.ifF at_551 (by decide) ?_
        refine Sh.iconst at_554 (x := 1) rfl ?_
        refine Sh.goto at_555 (pc' := 559) rfl (by decide) ?_
        refine Sh.istore at_559 (Sh.s1_16 rfl rfl) ?_
        refine Sh.iload at_561 rfl ?_
        refine Sh.retN at_563 rfl (by simp) rfl (Sh.le rfl) (Sh.le rfl) ?_
        rfl
    · skip
      rcases Decidable.em (x1 = 0) with rfl | h1
      · skip
        have hes : own_enc [x0, 0] = [x0, 0, -1, 0, 1] := by simp [own_enc, h0]
        have hi := fun j e h => own_in [x0, 0, -1, 0, 1] K p j e h (by rw [hl]; simp; omega)
        have ho : ∀ i, i < 12 → i < p ∨ p + 5 ≤ i → (own_wr K p [x0, 0, -1, 0, 1])[i]? = some (.int fb) := fun i h q => by rw [own_out _ _ _ _ (by simpa using q)]; exact hg i h
        have hl2 : (own_wr K p [x0, 0, -1, 0, 1]).length = 12 := by rw [own_len, hl]
        refine Sh.aload at_170 rfl rfl ?_
        refine Sh.iload at_172 rfl ?_
        refine Sh.aload at_174 rfl rfl ?_
        refine Sh.callS hw (i1 := 1) (i2 := 2) (i3 := 3) (i4 := 4) (k' := 2) (n' := 14) (B' := b1) (R' := R1) rfl rfl rfl rfl (by decide) (m1 l Z a0 n0 hw [x0, 0] [x0, 0, -1, 0, 1] _ K p (p + 5) rfl hbs (Sh.le rfl) hes rfl (by rw [hl]; omega) (by rw [hl]; decide)) at_176 rfl rfl pd1 rfl (Sh.le rfl) (Sh.le rfl) (Sh.le rfl) (Sh.le rfl) rfl rfl ?_
        rintro _ _ ⟨rfl, rfl⟩
        refine Sh.istore at_179 (Sh.s1_14 rfl rfl) ?_
        refine Sh.iload at_181 rfl ?_
        refine Sh.istore at_183 (Sh.s1_15 rfl rfl) ?_
        refine Sh.iconst at_185 (x := 1) rfl ?_
        refine Sh.istore at_186 (Sh.s1_16 rfl rfl) ?_
        refine Sh.iload at_188 rfl ?_
        refine Sh.iconst at_190 (x := 1) rfl ?_
        refine Sh.icmpF at_191 (by decide) ?_
        refine Sh.iload at_194 rfl ?_
        refine Sh.ifF at_196 (by decide) ?_
        refine Sh.aload at_199 rfl rfl ?_
        refine Sh.iload at_201 rfl ?_
        refine Sh.iload at_203 rfl ?_
        refine Sh.callS hw (i1 := 9) (i2 := 10) (i3 := 7) (i4 := 11) (k' := 2) (n' := 14) (B' := b3) (R' := R3) rfl rfl rfl rfl (by decide) (m3 l Z a0 n0 hw _ _ (p + 0) x0 (by omega) (hi 0 x0 rfl) (fun q => absurd q h0)) at_205 rfl rfl pd3 rfl (Sh.le rfl) (Sh.le rfl) (Sh.le rfl) (Sh.le rfl) rfl rfl ?_
        rintro _ _ ⟨rfl, rfl⟩
        refine Sh.ifF at_208 (by decide) ?_
        refine Sh.iconst at_211 (x := 1) rfl ?_
        refine Sh.goto at_212 (pc' := 216) rfl (by decide) ?_
        refine Sh.istore at_216 (Sh.s1_16 rfl rfl) ?_
        refine Sh.iload at_218 rfl ?_
        refine Sh.iload at_220 rfl ?_
        refine Sh.ifT at_222 (pc' := 229) rfl (by decide) h0 ?_
        refine Sh.iconst at_229 (x := 1) rfl ?_
        refine Sh.iaddE at_230 (Sh.onAdd _ 1) ?_
        refine Sh.istore at_231 (Sh.s1_15 rfl rfl) ?_
        refine Sh.iload at_233 rfl ?_
        refine Sh.iconst at_235 (x := 2) rfl ?_
        refine Sh.icmpF at_236 (by decide) ?_
        refine Sh.iload at_239 rfl ?_
        refine Sh.ifF at_241 (by decide) ?_
        refine Sh.aload at_244 rfl rfl ?_
        refine Sh.iload at_246 rfl ?_
        refine Sh.iload at_248 rfl ?_
        refine Sh.callS hw (i1 := 9) (i2 := 10) (i3 := 7) (i4 := 11) (k' := 2) (n' := 14) (B' := b3) (R' := R3) rfl rfl rfl rfl (by decide) (m3 l Z a0 n0 hw _ _ (p + 1) 0 (by omega) (hi 1 0 rfl) (fun _ => hi 2 (-1) rfl)) at_250 rfl rfl pd3 rfl (Sh.le rfl) (Sh.le rfl) (Sh.le rfl) (Sh.le rfl) rfl rfl ?_
        rintro _ _ ⟨rfl, rfl⟩
        refine Sh.ifF at_253 (by decide) ?_
        refine Sh.iconst at_256 (x := 1) rfl ?_
        refine Sh.goto at_257 (pc' := 261) rfl (by decide) ?_
        refine Sh.istore at_261 (Sh.s1_16 rfl rfl) ?_
        refine Sh.iload at_263 rfl ?_
        refine Sh.iload at_265 rfl ?_
        refine Sh.ifF at_267 (by decide) ?_
        refine Sh.iconst at_270 (x := 2) rfl ?_
        refine Sh.goto at_271 (pc' := 275) rfl (by decide) ?_
        refine Sh.iaddE at_275 (Sh.onAdd _ 2) ?_
        refine Sh.istore at_276 (Sh.s1_15 rfl rfl) ?_
        refine Sh.iload at_278 rfl ?_
        refine Sh.iconst at_280 (x := 3) rfl ?_
        refine Sh.icmpT at_281 (pc' := 323) rfl (by decide) (by decide) ?_
        refine Sh.iload at_323 rfl ?_
        refine Sh.ifF at_325 (by decide) ?_
        refine Sh.aload at_328 rfl rfl ?_
        refine Sh.iload at_330 rfl ?_
        refine Sh.baload at_332 rfl (Sh.onNN (by omega)) (Sh.onCl (by omega)) (hi 3 0 rfl) ?_
        refine Sh.ifF at_333 (by decide) ?_
        refine Sh.aload at_336 rfl rfl ?_
        refine Sh.iload at_338 rfl ?_
        refine Sh.iconst at_340 (x := 1) rfl ?_
        refine Sh.iaddE at_341 (Sh.onAdd _ 1) ?_
        refine Sh.baload at_342 rfl (Sh.onNN (by omega)) (Sh.onCl (by omega)) (hi 4 1 rfl) ?_
        refine Sh.iconst at_343 (x := 1) rfl ?_
        refine Sh.icmpF at_344 (by decide) ?_
        refine Sh.iload at_347 rfl ?_
        refine Sh.iload at_349 rfl ?_
        refine Sh.iconst at_351 (x := 2) rfl ?_
        refine Sh.iaddE at_352 (Sh.onAdd _ 2) ?_
        refine Sh.icmpF at_353 (fun q => q rfl) ?_
        refine Sh.iconst at_356 (x := 1) rfl ?_
        refine Sh.goto at_357 (pc' := 361) rfl (by decide) ?_
        refine Sh.istore at_361 (Sh.s1_16 rfl rfl) ?_
        refine Sh.iload at_363 rfl ?_
        refine Sh.ifF at_365 (by decide) ?_
        refine Sh.aload at_368 rfl rfl ?_
        refine Sh.iconst at_370 (x := 0) rfl ?_
        refine Sh.iload at_371 rfl ?_
        refine Sh.iload at_373 rfl ?_
        refine Sh.iload at_375 rfl ?_
        refine Sh.callS hw (i1 := 5) (i2 := 6) (i3 := 7) (i4 := 8) (k' := 2) (n' := 14) (B' := b2) (R' := R2) rfl rfl rfl rfl (by decide) (m2 l Z a0 n0 hw _ _ 0 p (p + 5) fb (by omega) (by omega) (by omega) (ho 0 (by decide))) at_377 rfl rfl pd2 rfl (Sh.le rfl) (Sh.le rfl) (Sh.le rfl) (Sh.le rfl) rfl rfl ?_
        rintro _ _ ⟨rfl, rfl⟩
        refine Sh.ifF at_380 (by decide) ?_
        refine Sh.aload at_383 rfl rfl ?_
        refine Sh.iconst at_385 (x := 1) rfl ?_
        refine Sh.iload at_386 rfl ?_
        refine Sh.iload at_388 rfl ?_
        refine Sh.iload at_390 rfl ?_
        refine Sh.callS hw (i1 := 5) (i2 := 6) (i3 := 7) (i4 := 8) (k' := 2) (n' := 14) (B' := b2) (R' := R2) rfl rfl rfl rfl (by decide) (m2 l Z a0 n0 hw _ _ 1 p (p + 5) fb (by omega) (by omega) (by omega) (ho 1 (by decide))) at_392 rfl rfl pd2 rfl (Sh.le rfl) (Sh.le rfl) (Sh.le rfl) (Sh.le rfl) rfl rfl ?_
        rintro _ _ ⟨rfl, rfl⟩
        refine Sh.ifF at_395 (by decide) ?_
        refine Sh.aload at_398 rfl rfl ?_
        refine Sh.iconst at_400 (x := 2) rfl ?_
        refine Sh.iload at_401 rfl ?_
        refine Sh.iload at_403 rfl ?_
        refine Sh.iload at_405 rfl ?_
        refine Sh.callS hw (i1 := 5) (i2 := 6) (i3 := 7) (i4 := 8) (k' := 2) (n' := 14) (B' := b2) (R' := R2) rfl rfl rfl rfl (by decide) (m2 l Z a0 n0 hw _ _ 2 p (p + 5) fb (by omega) (by omega) (by omega) (ho 2 (by decide))) at_407 rfl rfl pd2 rfl (Sh.le rfl) (Sh.le rfl) (Sh.le rfl) (Sh.le rfl) rfl rfl ?_
        rintro _ _ ⟨rfl, rfl⟩
        refine Sh.ifF at_410 (by decide) ?_
        refine Sh.aload at_413 rfl rfl ?_
        refine Sh.iconst at_415 (x := 3) rfl ?_
        refine Sh.iload at_416 rfl ?_
        refine Sh.iload at_418 rfl ?_
        refine Sh.iload at_420 rfl ?_
        refine Sh.callS hw (i1 := 5) (i2 := 6) (i3 := 7) (i4 := 8) (k' := 2) (n' := 14) (B' := b2) (R' := R2) rfl rfl rfl rfl (by decide) (m2 l Z a0 n0 hw _ _ 3 p (p + 5) fb (by omega) (by omega) (by omega) (ho 3 (by decide))) at_422 rfl rfl pd2 rfl (Sh.le rfl) (Sh.le rfl) (Sh.le rfl) (Sh.le rfl) rfl rfl ?_
        rintro _ _ ⟨rfl, rfl⟩
        refine Sh.ifF at_425 (by decide) ?_
        refine Sh.aload at_428 rfl rfl ?_
        refine Sh.iconst at_430 (x := 4) rfl ?_
        refine Sh.iload at_431 rfl ?_
        refine Sh.iload at_433 rfl ?_
        refine Sh.iload at_435 rfl ?_
        refine Sh.callS hw (i1 := 5) (i2 := 6) (i3 := 7) (i4 := 8) (k' := 2) (n' := 14) (B' := b2) (R' := R2) rfl rfl rfl rfl (by decide) (m2 l Z a0 n0 hw _ _ 4 p (p + 5) fb (by omega) (by omega) (by omega) (ho 4 (by decide))) at_437 rfl rfl pd2 rfl (Sh.le rfl) (Sh.le rfl) (Sh.le rfl) (Sh.le rfl) rfl rfl ?_
        rintro _ _ ⟨rfl, rfl⟩
        refine Sh.ifF at_440 (by decide) ?_
        refine Sh.aload at_443 rfl rfl ?_
        refine Sh.iconst at_445 (x := 5) rfl ?_
        refine Sh.iload at_446 rfl ?_
        refine Sh.iload at_448 rfl ?_
        refine Sh.iload at_450 rfl ?_
        refine Sh.callS hw (i1 := 5) (i2 := 6) (i3 := 7) (i4 := 8) (k' := 2) (n' := 14) (B' := b2) (R' := R2) rfl rfl rfl rfl (by decide) (m2 l Z a0 n0 hw _ _ 5 p (p + 5) fb (by omega) (by omega) (by omega) (ho 5 (by decide))) at_452 rfl rfl pd2 rfl (Sh.le rfl) (Sh.le rfl) (Sh.le rfl) (Sh.le rfl) rfl rfl ?_
        rintro _ _ ⟨rfl, rfl⟩
        refine Sh.ifF at_455 (by decide) ?_
        refine Sh.aload at_458 rfl rfl ?_
        refine Sh.bipush at_460 (x := 6) rfl ?_
        refine Sh.iload at_462 rfl ?_
        refine Sh.iload at_464 rfl ?_
        refine Sh.iload at_466 rfl ?_
        refine Sh.callS hw (i1 := 5) (i2 := 6) (i3 := 7) (i4 := 8) (k' := 2) (n' := 14) (B' := b2) (R' := R2) rfl rfl rfl rfl (by decide) (m2 l Z a0 n0 hw _ _ 6 p (p + 5) fb (by omega) (by omega) (by omega) (ho 6 (by decide))) at_468 rfl rfl pd2 rfl (Sh.le rfl) (Sh.le rfl) (Sh.le rfl) (Sh.le rfl) rfl rfl ?_
        rintro _ _ ⟨rfl, rfl⟩
        refine Sh.ifF at_471 (by decide) ?_
        refine Sh.aload at_474 rfl rfl ?_
        refine Sh.bipush at_476 (x := 7) rfl ?_
        refine Sh.iload at_478 rfl ?_
        refine Sh.iload at_480 rfl ?_
        refine Sh.iload at_482 rfl ?_
        refine Sh.callS hw (i1 := 5) (i2 := 6) (i3 := 7) (i4 := 8) (k' := 2) (n' := 14) (B' := b2) (R' := R2) rfl rfl rfl rfl (by decide) (m2 l Z a0 n0 hw _ _ 7 p (p + 5) fb (by omega) (by omega) (by omega) (ho 7 (by decide))) at_484 rfl rfl pd2 rfl (Sh.le rfl) (Sh.le rfl) (Sh.le rfl) (Sh.le rfl) rfl rfl ?_
        rintro _ _ ⟨rfl, rfl⟩
        refine Sh.ifF at_487 (by decide) ?_
        refine Sh.aload at_490 rfl rfl ?_
        refine Sh.bipush at_492 (x := 8) rfl ?_
        refine Sh.iload at_494 rfl ?_
        refine Sh.iload at_496 rfl ?_
        refine Sh.iload at_498 rfl ?_
        refine Sh.callS hw (i1 := 5) (i2 := 6) (i3 := 7) (i4 := 8) (k' := 2) (n' := 14) (B' := b2) (R' := R2) rfl rfl rfl rfl (by decide) (m2 l Z a0 n0 hw _ _ 8 p (p + 5) fb (by omega) (by omega) (by omega) (ho 8 (by decide))) at_500 rfl rfl pd2 rfl (Sh.le rfl) (Sh.le rfl) (Sh.le rfl) (Sh.le rfl) rfl rfl ?_
        rintro _ _ ⟨rfl, rfl⟩
        refine Sh.ifF at_503 (by decide) ?_
        refine Sh.aload at_506 rfl rfl ?_
        refine Sh.bipush at_508 (x := 9) rfl ?_
        refine Sh.iload at_510 rfl ?_
        refine Sh.iload at_512 rfl ?_
        refine Sh.iload at_514 rfl ?_
        refine Sh.callS hw (i1 := 5) (i2 := 6) (i3 := 7) (i4 := 8) (k' := 2) (n' := 14) (B' := b2) (R' := R2) rfl rfl rfl rfl (by decide) (m2 l Z a0 n0 hw _ _ 9 p (p + 5) fb (by omega) (by omega) (by omega) (ho 9 (by decide))) at_516 rfl rfl pd2 rfl (Sh.le rfl) (Sh.le rfl) (Sh.le rfl) (Sh.le rfl) rfl rfl ?_
        rintro _ _ ⟨rfl, rfl⟩
        refine Sh.ifF at_519 (by decide) ?_
        refine Sh.aload at_522 rfl rfl ?_
        refine Sh.bipush at_524 (x := 10) rfl ?_
        refine Sh.iload at_526 rfl ?_
        refine Sh.iload at_528 rfl ?_
        refine Sh.iload at_530 rfl ?_
        refine Sh.callS hw (i1 := 5) (i2 := 6) (i3 := 7) (i4 := 8) (k' := 2) (n' := 14) (B' := b2) (R' := R2) rfl rfl rfl rfl (by decide) (m2 l Z a0 n0 hw _ _ 10 p (p + 5) fb (by omega) (by omega) (by omega) (ho 10 (by decide))) at_532 rfl rfl pd2 rfl (Sh.le rfl) (Sh.le rfl) (Sh.le rfl) (Sh.le rfl) rfl rfl ?_
        rintro _ _ ⟨rfl, rfl⟩
        refine Sh.ifF at_535 (by decide) ?_
        refine Sh.aload at_538 rfl rfl ?_
        refine Sh.bipush at_540 (x := 11) rfl ?_
        refine Sh.iload at_542 rfl ?_
        refine Sh.iload at_544 rfl ?_
        refine Sh.iload at_546 rfl ?_
        refine Sh.callS hw (i1 := 5) (i2 := 6) (i3 := 7) (i4 := 8) (k' := 2) (n' := 14) (B' := b2) (R' := R2) rfl rfl rfl rfl (by decide) (m2 l Z a0 n0 hw _ _ 11 p (p + 5) fb (by omega) (by omega) (by omega) (ho 11 (by decide))) at_548 rfl rfl pd2 rfl (Sh.le rfl) (Sh.le rfl) (Sh.le rfl) (Sh.le rfl) rfl rfl ?_
        rintro _ _ ⟨rfl, rfl⟩
        refine Sh.ifF at_551 (by decide) ?_
        refine Sh.iconst at_554 (x := 1) rfl ?_
        refine Sh.goto at_555 (pc' := 559) rfl (by decide) ?_
        refine Sh.istore at_559 (Sh.s1_16 rfl rfl) ?_
        refine Sh.iload at_561 rfl ?_
        refine Sh.retN at_563 rfl (by simp) rfl (Sh.le rfl) (Sh.le rfl) ?_
        rfl
      · skip
        have hes : own_enc [x0, x1] = [x0, x1, 0, 1] := by simp [own_enc, h0, h1]
        have hi := fun j e h => own_in [x0, x1, 0, 1] K p j e h (by rw [hl]; simp; omega)
        have ho : ∀ i, i < 12 → i < p ∨ p + 4 ≤ i → (own_wr K p [x0, x1, 0, 1])[i]? = some (.int fb) := fun i h q => by rw [own_out _ _ _ _ (by simpa using q)]; exact hg i h
        have hl2 : (own_wr K p [x0, x1, 0, 1]).length = 12 := by rw [own_len, hl]
        refine Sh.aload at_170 rfl rfl ?_
        refine Sh.iload at_172 rfl ?_
        refine Sh.aload at_174 rfl rfl ?_
        refine Sh.callS hw (i1 := 1) (i2 := 2) (i3 := 3) (i4 := 4) (k' := 2) (n' := 14) (B' := b1) (R' := R1) rfl rfl rfl rfl (by decide) (m1 l Z a0 n0 hw [x0, x1] [x0, x1, 0, 1] _ K p (p + 4) rfl hbs (Sh.le rfl) hes rfl (by rw [hl]; omega) (by rw [hl]; decide)) at_176 rfl rfl pd1 rfl (Sh.le rfl) (Sh.le rfl) (Sh.le rfl) (Sh.le rfl) rfl rfl ?_
        rintro _ _ ⟨rfl, rfl⟩
        refine Sh.istore at_179 (Sh.s1_14 rfl rfl) ?_
        refine Sh.iload at_181 rfl ?_
        refine Sh.istore at_183 (Sh.s1_15 rfl rfl) ?_
        refine Sh.iconst at_185 (x := 1) rfl ?_
        refine Sh.istore at_186 (Sh.s1_16 rfl rfl) ?_
        refine Sh.iload at_188 rfl ?_
        refine Sh.iconst at_190 (x := 1) rfl ?_
        refine Sh.icmpF at_191 (by decide) ?_
        refine Sh.iload at_194 rfl ?_
        refine Sh.ifF at_196 (by decide) ?_
        refine Sh.aload at_199 rfl rfl ?_
        refine Sh.iload at_201 rfl ?_
        refine Sh.iload at_203 rfl ?_
        refine Sh.callS hw (i1 := 9) (i2 := 10) (i3 := 7) (i4 := 11) (k' := 2) (n' := 14) (B' := b3) (R' := R3) rfl rfl rfl rfl (by decide) (m3 l Z a0 n0 hw _ _ (p + 0) x0 (by omega) (hi 0 x0 rfl) (fun q => absurd q h0)) at_205 rfl rfl pd3 rfl (Sh.le rfl) (Sh.le rfl) (Sh.le rfl) (Sh.le rfl) rfl rfl ?_
        rintro _ _ ⟨rfl, rfl⟩
        refine Sh.ifF at_208 (by decide) ?_
        refine Sh.iconst at_211 (x := 1) rfl ?_
        refine Sh.goto at_212 (pc' := 216) rfl (by decide) ?_
        refine Sh.istore at_216 (Sh.s1_16 rfl rfl) ?_
        refine Sh.iload at_218 rfl ?_
        refine Sh.iload at_220 rfl ?_
        refine Sh.ifT at_222 (pc' := 229) rfl (by decide) h0 ?_
        refine Sh.iconst at_229 (x := 1) rfl ?_
        refine Sh.iaddE at_230 (Sh.onAdd _ 1) ?_
        refine Sh.istore at_231 (Sh.s1_15 rfl rfl) ?_
        refine Sh.iload at_233 rfl ?_
        refine Sh.iconst at_235 (x := 2) rfl ?_
        refine Sh.icmpF at_236 (by decide) ?_
        refine Sh.iload at_239 rfl ?_
        refine Sh.ifF at_241 (by decide) ?_
        refine Sh.aload at_244 rfl rfl ?_
        refine Sh.iload at_246 rfl ?_
        refine Sh.iload at_248 rfl ?_
        refine Sh.callS hw (i1 := 9) (i2 := 10) (i3 := 7) (i4 := 11) (k' := 2) (n' := 14) (B' := b3) (R' := R3) rfl rfl rfl rfl (by decide) (m3 l Z a0 n0 hw _ _ (p + 1) x1 (by omega) (hi 1 x1 rfl) (fun q => absurd q h1)) at_250 rfl rfl pd3 rfl (Sh.le rfl) (Sh.le rfl) (Sh.le rfl) (Sh.le rfl) rfl rfl ?_
        rintro _ _ ⟨rfl, rfl⟩
        refine Sh.ifF at_253 (by decide) ?_
        refine Sh.iconst at_256 (x := 1) rfl ?_
        refine Sh.goto at_257 (pc' := 261) rfl (by decide) ?_
        refine Sh.istore at_261 (Sh.s1_16 rfl rfl) ?_
        refine Sh.iload at_263 rfl ?_
        refine Sh.iload at_265 rfl ?_
        refine Sh.ifT at_267 (pc' := 274) rfl (by decide) h1 ?_
        refine Sh.iconst at_274 (x := 1) rfl ?_
        refine Sh.iaddE at_275 (Sh.onAdd _ 1) ?_
        refine Sh.istore at_276 (Sh.s1_15 rfl rfl) ?_
        refine Sh.iload at_278 rfl ?_
        refine Sh.iconst at_280 (x := 3) rfl ?_
        refine Sh.icmpT at_281 (pc' := 323) rfl (by decide) (by decide) ?_
        refine Sh.iload at_323 rfl ?_
        refine Sh.ifF at_325 (by decide) ?_
        refine Sh.aload at_328 rfl rfl ?_
        refine Sh.iload at_330 rfl ?_
        refine Sh.baload at_332 rfl (Sh.onNN (by omega)) (Sh.onCl (by omega)) (hi 2 0 rfl) ?_
        refine Sh.ifF at_333 (by decide) ?_
        refine Sh.aload at_336 rfl rfl ?_
        refine Sh.iload at_338 rfl ?_
        refine Sh.iconst at_340 (x := 1) rfl ?_
        refine Sh.iaddE at_341 (Sh.onAdd _ 1) ?_
        refine Sh.baload at_342 rfl (Sh.onNN (by omega)) (Sh.onCl (by omega)) (hi 3 1 rfl) ?_
        refine Sh.iconst at_343 (x := 1) rfl ?_
        refine Sh.icmpF at_344 (by decide) ?_
        refine Sh.iload at_347 rfl ?_
        refine Sh.iload at_349 rfl ?_
        refine Sh.iconst at_351 (x := 2) rfl ?_
        refine Sh.iaddE at_352 (Sh.onAdd _ 2) ?_
        refine Sh.icmpF at_353 (fun q => q rfl) ?_
        refine Sh.iconst at_356 (x := 1) rfl ?_
        refine Sh.goto at_357 (pc' := 361) rfl (by decide) ?_
        refine Sh.istore at_361 (Sh.s1_16 rfl rfl) ?_
        refine Sh.iload at_363 rfl ?_
        refine Sh.ifF at_365 (by decide) ?_
        refine Sh.aload at_368 rfl rfl ?_
        refine Sh.iconst at_370 (x := 0) rfl ?_
        refine Sh.iload at_371 rfl ?_
        refine Sh.iload at_373 rfl ?_
        refine Sh.iload at_375 rfl ?_
        refine Sh.callS hw (i1 := 5) (i2 := 6) (i3 := 7) (i4 := 8) (k' := 2) (n' := 14) (B' := b2) (R' := R2) rfl rfl rfl rfl (by decide) (m2 l Z a0 n0 hw _ _ 0 p (p + 4) fb (by omega) (by omega) (by omega) (ho 0 (by decide))) at_377 rfl rfl pd2 rfl (Sh.le rfl) (Sh.le rfl) (Sh.le rfl) (Sh.le rfl) rfl rfl ?_
        rintro _ _ ⟨rfl, rfl⟩
        refine Sh.ifF at_380 (by decide) ?_
        refine Sh.aload at_383 rfl rfl ?_
        refine Sh.iconst at_385 (x := 1) rfl ?_
        refine Sh.iload at_386 rfl ?_
        refine Sh.iload at_388 rfl ?_
        refine Sh.iload at_390 rfl ?_
        refine Sh.callS hw (i1 := 5) (i2 := 6) (i3 := 7) (i4 := 8) (k' := 2) (n' := 14) (B' := b2) (R' := R2) rfl rfl rfl rfl (by decide) (m2 l Z a0 n0 hw _ _ 1 p (p + 4) fb (by omega) (by omega) (by omega) (ho 1 (by decide))) at_392 rfl rfl pd2 rfl (Sh.le rfl) (Sh.le rfl) (Sh.le rfl) (Sh.le rfl) rfl rfl ?_
        rintro _ _ ⟨rfl, rfl⟩
        refine Sh.ifF at_395 (by decide) ?_
        refine Sh.aload at_398 rfl rfl ?_
        refine Sh.iconst at_400 (x := 2) rfl ?_
        refine Sh.iload at_401 rfl ?_
        refine Sh.iload at_403 rfl ?_
        refine Sh.iload at_405 rfl ?_
        refine Sh.callS hw (i1 := 5) (i2 := 6) (i3 := 7) (i4 := 8) (k' := 2) (n' := 14) (B' := b2) (R' := R2) rfl rfl rfl rfl (by decide) (m2 l Z a0 n0 hw _ _ 2 p (p + 4) fb (by omega) (by omega) (by omega) (ho 2 (by decide))) at_407 rfl rfl pd2 rfl (Sh.le rfl) (Sh.le rfl) (Sh.le rfl) (Sh.le rfl) rfl rfl ?_
        rintro _ _ ⟨rfl, rfl⟩
        refine Sh.ifF at_410 (by decide) ?_
        refine Sh.aload at_413 rfl rfl ?_
        refine Sh.iconst at_415 (x := 3) rfl ?_
        refine Sh.iload at_416 rfl ?_
        refine Sh.iload at_418 rfl ?_
        refine Sh.iload at_420 rfl ?_
        refine Sh.callS hw (i1 := 5) (i2 := 6) (i3 := 7) (i4 := 8) (k' := 2) (n' := 14) (B' := b2) (R' := R2) rfl rfl rfl rfl (by decide) (m2 l Z a0 n0 hw _ _ 3 p (p + 4) fb (by omega) (by omega) (by omega) (ho 3 (by decide))) at_422 rfl rfl pd2 rfl (Sh.le rfl) (Sh.le rfl) (Sh.le rfl) (Sh.le rfl) rfl rfl ?_
        rintro _ _ ⟨rfl, rfl⟩
        refine Sh.ifF at_425 (by decide) ?_
        refine Sh.aload at_428 rfl rfl ?_
        refine Sh.iconst at_430 (x := 4) rfl ?_
        refine Sh.iload at_431 rfl ?_
        refine Sh.iload at_433 rfl ?_
        refine Sh.iload at_435 rfl ?_
        refine Sh.callS hw (i1 := 5) (i2 := 6) (i3 := 7) (i4 := 8) (k' := 2) (n' := 14) (B' := b2) (R' := R2) rfl rfl rfl rfl (by decide) (m2 l Z a0 n0 hw _ _ 4 p (p + 4) fb (by omega) (by omega) (by omega) (ho 4 (by decide))) at_437 rfl rfl pd2 rfl (Sh.le rfl) (Sh.le rfl) (Sh.le rfl) (Sh.le rfl) rfl rfl ?_
        rintro _ _ ⟨rfl, rfl⟩
        refine Sh.ifF at_440 (by decide) ?_
        refine Sh.aload at_443 rfl rfl ?_
        refine Sh.iconst at_445 (x := 5) rfl ?_
        refine Sh.iload at_446 rfl ?_
        refine Sh.iload at_448 rfl ?_
        refine Sh.iload at_450 rfl ?_
        refine Sh.callS hw (i1 := 5) (i2 := 6) (i3 := 7) (i4 := 8) (k' := 2) (n' := 14) (B' := b2) (R' := R2) rfl rfl rfl rfl (by decide) (m2 l Z a0 n0 hw _ _ 5 p (p + 4) fb (by omega) (by omega) (by omega) (ho 5 (by decide))) at_452 rfl rfl pd2 rfl (Sh.le rfl) (Sh.le rfl) (Sh.le rfl) (Sh.le rfl) rfl rfl ?_
        rintro _ _ ⟨rfl, rfl⟩
        refine Sh.ifF at_455 (by decide) ?_
        refine Sh.aload at_458 rfl rfl ?_
        refine Sh.bipush at_460 (x := 6) rfl ?_
        refine Sh.iload at_462 rfl ?_
        refine Sh.iload at_464 rfl ?_
        refine Sh.iload at_466 rfl ?_
        refine Sh.callS hw (i1 := 5) (i2 := 6) (i3 := 7) (i4 := 8) (k' := 2) (n' := 14) (B' := b2) (R' := R2) rfl rfl rfl rfl (by decide) (m2 l Z a0 n0 hw _ _ 6 p (p + 4) fb (by omega) (by omega) (by omega) (ho 6 (by decide))) at_468 rfl rfl pd2 rfl (Sh.le rfl) (Sh.le rfl) (Sh.le rfl) (Sh.le rfl) rfl rfl ?_
        rintro _ _ ⟨rfl, rfl⟩
        refine Sh.ifF at_471 (by decide) ?_
        refine Sh.aload at_474 rfl rfl ?_
        refine Sh.bipush at_476 (x := 7) rfl ?_
        refine Sh.iload at_478 rfl ?_
        refine Sh.iload at_480 rfl ?_
        refine Sh.iload at_482 rfl ?_
        refine Sh.callS hw (i1 := 5) (i2 := 6) (i3 := 7) (i4 := 8) (k' := 2) (n' := 14) (B' := b2) (R' := R2) rfl rfl rfl rfl (by decide) (m2 l Z a0 n0 hw _ _ 7 p (p + 4) fb (by omega) (by omega) (by omega) (ho 7 (by decide))) at_484 rfl rfl pd2 rfl (Sh.le rfl) (Sh.le rfl) (Sh.le rfl) (Sh.le rfl) rfl rfl ?_
        rintro _ _ ⟨rfl, rfl⟩
        refine Sh.ifF at_487 (by decide) ?_
        refine Sh.aload at_490 rfl rfl ?_
        refine Sh.bipush at_492 (x := 8) rfl ?_
        refine Sh.iload at_494 rfl ?_
        refine Sh.iload at_496 rfl ?_
        refine Sh.iload at_498 rfl ?_
        refine Sh.callS hw (i1 := 5) (i2 := 6) (i3 := 7) (i4 := 8) (k' := 2) (n' := 14) (B' := b2) (R' := R2) rfl rfl rfl rfl (by decide) (m2 l Z a0 n0 hw _ _ 8 p (p + 4) fb (by omega) (by omega) (by omega) (ho 8 (by decide))) at_500 rfl rfl pd2 rfl (Sh.le rfl) (Sh.le rfl) (Sh.le rfl) (Sh.le rfl) rfl rfl ?_
        rintro _ _ ⟨rfl, rfl⟩
        refine Sh.ifF at_503 (by decide) ?_
        refine Sh.aload at_506 rfl rfl ?_
        refine Sh.bipush at_508 (x := 9) rfl ?_
        refine Sh.iload at_510 rfl ?_
        refine Sh.iload at_512 rfl ?_
        refine Sh.iload at_514 rfl ?_
        refine Sh.callS hw (i1 := 5) (i2 := 6) (i3 := 7) (i4 := 8) (k' := 2) (n' := 14) (B' := b2) (R' := R2) rfl rfl rfl rfl (by decide) (m2 l Z a0 n0 hw _ _ 9 p (p + 4) fb (by omega) (by omega) (by omega) (ho 9 (by decide))) at_516 rfl rfl pd2 rfl (Sh.le rfl) (Sh.le rfl) (Sh.le rfl) (Sh.le rfl) rfl rfl ?_
        rintro _ _ ⟨rfl, rfl⟩
        refine Sh.ifF at_519 (by decide) ?_
        refine Sh.aload at_522 rfl rfl ?_
        refine Sh.bipush at_524 (x := 10) rfl ?_
        refine Sh.iload at_526 rfl ?_
        refine Sh.iload at_528 rfl ?_
        refine Sh.iload at_530 rfl ?_
        refine Sh.callS hw (i1 := 5) (i2 := 6) (i3 := 7) (i4 := 8) (k' := 2) (n' := 14) (B' := b2) (R' := R2) rfl rfl rfl rfl (by decide) (m2 l Z a0 n0 hw _ _ 10 p (p + 4) fb (by omega) (by omega) (by omega) (ho 10 (by decide))) at_532 rfl rfl pd2 rfl (Sh.le rfl) (Sh.le rfl) (Sh.le rfl) (Sh.le rfl) rfl rfl ?_
        rintro _ _ ⟨rfl, rfl⟩
        refine Sh.ifF at_535 (by decide) ?_
        refine Sh.aload at_538 rfl rfl ?_
        refine Sh.bipush at_540 (x := 11) rfl ?_
        refine Sh.iload at_542 rfl ?_
        refine Sh.iload at_544 rfl ?_
        refine Sh.iload at_546 rfl ?_
        refine Sh.callS hw (i1 := 5) (i2 := 6) (i3 := 7) (i4 := 8) (k' := 2) (n' := 14) (B' := b2) (R' := R2) rfl rfl rfl rfl (by decide) (m2 l Z a0 n0 hw _ _ 11 p (p + 4) fb (by omega) (by omega) (by omega) (ho 11 (by decide))) at_548 rfl rfl pd2 rfl (Sh.le rfl) (Sh.le rfl) (Sh.le rfl) (Sh.le rfl) rfl rfl ?_
        rintro _ _ ⟨rfl, rfl⟩
        refine Sh.ifF at_551 (by decide) ?_
        refine Sh.iconst at_554 (x := 1) rfl ?_
        refine Sh.goto at_555 (pc' := 559) rfl (by decide) ?_
        refine Sh.istore at_559 (Sh.s1_16 rfl rfl) ?_
        refine Sh.iload at_561 rfl ?_
        refine Sh.retN at_563 rfl (by simp) rfl (Sh.le rfl) (Sh.le rfl) ?_
        rfl
  | 3, _ =>
    refine Sh.iload at_28 rfl ?_
    refine Sh.ifT at_30 (pc' := 39) rfl (by decide) (by decide) ?_
    refine Sh.iload at_39 rfl ?_
    refine Sh.iconst at_41 (x := 1) rfl ?_
    refine Sh.icmpT at_42 (pc' := 56) rfl (by decide) (by decide) ?_
    refine Sh.iload at_56 rfl ?_
    refine Sh.iconst at_58 (x := 2) rfl ?_
    refine Sh.icmpT at_59 (pc' := 78) rfl (by decide) (by decide) ?_
    refine Sh.iconst at_78 (x := 3) rfl ?_
    refine Sh.newarr hw (i := 0) (ty := .byte) (dv := .int 0) (N := 3) (cap := 3) (k' := 1) (n' := 3) (a := 0) rfl rfl at_79 rfl (by decide) rfl (Sh.rp_3) (Sh.le rfl) (by decide) (Sh.le rfl) (Sh.le rfl) rfl rfl rfl (Sh.ap_0) ?_
    refine Sh.dup at_81 rfl ?_
    refine Sh.iconst at_82 (x := 0) rfl ?_
    refine Sh.iload at_83 rfl ?_
    refine Sh.bastore (jn := 0) at_85 rfl (by decide) rfl (Sh.le rfl) e0 (Sh.ls_0) (Sh.ls_0) ?_
    refine Sh.dup at_86 rfl ?_
    refine Sh.iconst at_87 (x := 1) rfl ?_
    refine Sh.iload at_88 rfl ?_
    refine Sh.bastore (jn := 1) at_90 rfl (by decide) rfl (Sh.le rfl) e1 (Sh.ls_1) (Sh.ls_0) ?_
    refine Sh.dup at_91 rfl ?_
    refine Sh.iconst at_92 (x := 2) rfl ?_
    refine Sh.iload at_93 rfl ?_
    refine Sh.bastore (jn := 2) at_95 rfl (by decide) rfl (Sh.le rfl) e2 (Sh.ls_2) (Sh.ls_0) ?_
    refine Sh.astore at_96 rfl (Sh.s1_12 rfl rfl) ?_
    refine Sh.bipush at_98 (x := 12) rfl ?_
    refine Sh.newarr hw (i := 0) (ty := .byte) (dv := .int 0) (N := 12) (cap := 12) (k' := 2) (n' := 15) (a := 1) rfl rfl at_100 rfl (by decide) rfl (Sh.rp_12) (Sh.le rfl) (by decide) (Sh.le rfl) (Sh.le rfl) rfl rfl rfl (Sh.ap_1) ?_
    refine Sh.dup at_102 rfl ?_
    refine Sh.iconst at_103 (x := 0) rfl ?_
    refine Sh.iload at_104 rfl ?_
    refine Sh.bastore (jn := 0) at_106 rfl (by decide) rfl (Sh.le rfl) e3 (Sh.ls_0) (Sh.ls_1) ?_
    refine Sh.dup at_107 rfl ?_
    refine Sh.iconst at_108 (x := 1) rfl ?_
    refine Sh.iload at_109 rfl ?_
    refine Sh.bastore (jn := 1) at_111 rfl (by decide) rfl (Sh.le rfl) e3 (Sh.ls_1) (Sh.ls_1) ?_
    refine Sh.dup at_112 rfl ?_
    refine Sh.iconst at_113 (x := 2) rfl ?_
    refine Sh.iload at_114 rfl ?_
    refine Sh.bastore (jn := 2) at_116 rfl (by decide) rfl (Sh.le rfl) e3 (Sh.ls_2) (Sh.ls_1) ?_
    refine Sh.dup at_117 rfl ?_
    refine Sh.iconst at_118 (x := 3) rfl ?_
    refine Sh.iload at_119 rfl ?_
    refine Sh.bastore (jn := 3) at_121 rfl (by decide) rfl (Sh.le rfl) e3 (Sh.ls_3) (Sh.ls_1) ?_
    refine Sh.dup at_122 rfl ?_
    refine Sh.iconst at_123 (x := 4) rfl ?_
    refine Sh.iload at_124 rfl ?_
    refine Sh.bastore (jn := 4) at_126 rfl (by decide) rfl (Sh.le rfl) e3 (Sh.ls_4) (Sh.ls_1) ?_
    refine Sh.dup at_127 rfl ?_
    refine Sh.iconst at_128 (x := 5) rfl ?_
    refine Sh.iload at_129 rfl ?_
    refine Sh.bastore (jn := 5) at_131 rfl (by decide) rfl (Sh.le rfl) e3 (Sh.ls_5) (Sh.ls_1) ?_
    refine Sh.dup at_132 rfl ?_
    refine Sh.bipush at_133 (x := 6) rfl ?_
    refine Sh.iload at_135 rfl ?_
    refine Sh.bastore (jn := 6) at_137 rfl (by decide) rfl (Sh.le rfl) e3 (Sh.ls_6) (Sh.ls_1) ?_
    refine Sh.dup at_138 rfl ?_
    refine Sh.bipush at_139 (x := 7) rfl ?_
    refine Sh.iload at_141 rfl ?_
    refine Sh.bastore (jn := 7) at_143 rfl (by decide) rfl (Sh.le rfl) e3 (Sh.ls_7) (Sh.ls_1) ?_
    refine Sh.dup at_144 rfl ?_
    refine Sh.bipush at_145 (x := 8) rfl ?_
    refine Sh.iload at_147 rfl ?_
    refine Sh.bastore (jn := 8) at_149 rfl (by decide) rfl (Sh.le rfl) e3 (Sh.ls_8) (Sh.ls_1) ?_
    refine Sh.dup at_150 rfl ?_
    refine Sh.bipush at_151 (x := 9) rfl ?_
    refine Sh.iload at_153 rfl ?_
    refine Sh.bastore (jn := 9) at_155 rfl (by decide) rfl (Sh.le rfl) e3 (Sh.ls_9) (Sh.ls_1) ?_
    refine Sh.dup at_156 rfl ?_
    refine Sh.bipush at_157 (x := 10) rfl ?_
    refine Sh.iload at_159 rfl ?_
    refine Sh.bastore (jn := 10) at_161 rfl (by decide) rfl (Sh.le rfl) e3 (Sh.ls_10) (Sh.ls_1) ?_
    refine Sh.dup at_162 rfl ?_
    refine Sh.bipush at_163 (x := 11) rfl ?_
    refine Sh.iload at_165 rfl ?_
    refine Sh.bastore (jn := 11) at_167 rfl (by decide) rfl (Sh.le rfl) e3 (Sh.ls_11) (Sh.ls_1) ?_
    refine Sh.astore at_168 rfl (Sh.s1_13 rfl rfl) ?_
    generalize hK : [Value.int fb, Value.int fb, Value.int fb, Value.int fb, Value.int fb, Value.int fb, Value.int fb, Value.int fb, Value.int fb, Value.int fb, Value.int fb, Value.int fb] = K
    have hl : K.length = 12 := by rw [← hK]; rfl
    have hg : ∀ j, j < 12 → K[j]? = some (.int fb) := by
      intro j hj
      rw [← hK, show [Value.int fb, Value.int fb, Value.int fb, Value.int fb, Value.int fb, Value.int fb, Value.int fb, Value.int fb, Value.int fb, Value.int fb, Value.int fb, Value.int fb] = List.replicate 12 (Value.int fb) from rfl]
      exact own_rep _ _ _ hj
    have hbs : ∀ b ∈ [x0, x1, x2], b.toInt8.toInt32 = b := by
      intro b hb
      simp only [List.mem_cons, List.not_mem_nil, or_false] at hb
      rcases hb with rfl | rfl | rfl
      · exact e0
      · exact e1
      · exact e2
    rcases Decidable.em (x0 = 0) with rfl | h0
    · skip
      rcases Decidable.em (x1 = 0) with rfl | h1
      · skip
        rcases Decidable.em (x2 = 0) with rfl | h2
        · skip
          have hes : own_enc [0, 0, 0] = [0, -1, 0, -1, 0, -1, 0, 1] := by simp [own_enc]
          have hi := fun j e h => own_in [0, -1, 0, -1, 0, -1, 0, 1] K p j e h (by rw [hl]; simp; omega)
          have ho : ∀ i, i < 12 → i < p ∨ p + 8 ≤ i → (own_wr K p [0, -1, 0, -1, 0, -1, 0, 1])[i]? = some (.int fb) := fun i h q => by rw [own_out _ _ _ _ (by simpa using q)]; exact hg i h
          have hl2 : (own_wr K p [0, -1, 0, -1, 0, -1, 0, 1]).length = 12 := by rw [own_len, hl]
          refine Sh.aload at_170 rfl rfl ?_
          refine Sh.iload at_172 rfl ?_
          refine Sh.aload at_174 rfl rfl ?_
          refine Sh.callS hw (i1 := 1) (i2 := 2) (i3 := 3) (i4 := 4) (k' := 2) (n' := 15) (B' := b1) (R' := R1) rfl rfl rfl rfl (by decide) (m1 l Z a0 n0 hw [0, 0, 0] [0, -1, 0, -1, 0, -1, 0, 1] _ K p (p + 8) rfl hbs (Sh.le rfl) hes rfl (by rw [hl]; omega) (by rw [hl]; decide)) at_176 rfl rfl pd1 rfl (Sh.le rfl) (Sh.le rfl) (Sh.le rfl) (Sh.le rfl) rfl rfl ?_
          rintro _ _ ⟨rfl, rfl⟩
          refine Sh.istore at_179 (Sh.s1_14 rfl rfl) ?_
          refine Sh.iload at_181 rfl ?_
          refine Sh.istore at_183 (Sh.s1_15 rfl rfl) ?_
          refine Sh.iconst at_185 (x := 1) rfl ?_
          refine Sh.istore at_186 (Sh.s1_16 rfl rfl) ?_
          refine Sh.iload at_188 rfl ?_
          refine Sh.iconst at_190 (x := 1) rfl ?_
          refine Sh.icmpF at_191 (by decide) ?_
          refine Sh.iload at_194 rfl ?_
          refine Sh.ifF at_196 (by decide) ?_
          refine Sh.aload at_199 rfl rfl ?_
          refine Sh.iload at_201 rfl ?_
          refine Sh.iload at_203 rfl ?_
          refine Sh.callS hw (i1 := 9) (i2 := 10) (i3 := 7) (i4 := 11) (k' := 2) (n' := 15) (B' := b3) (R' := R3) rfl rfl rfl rfl (by decide) (m3 l Z a0 n0 hw _ _ (p + 0) 0 (by omega) (hi 0 0 rfl) (fun _ => hi 1 (-1) rfl)) at_205 rfl rfl pd3 rfl (Sh.le rfl) (Sh.le rfl) (Sh.le rfl) (Sh.le rfl) rfl rfl ?_
          rintro _ _ ⟨rfl, rfl⟩
          refine Sh.ifF at_208 (by decide) ?_
          refine Sh.iconst at_211 (x := 1) rfl ?_
          refine Sh.goto at_212 (pc' := 216) rfl (by decide) ?_
          refine Sh.istore at_216 (Sh.s1_16 rfl rfl) ?_
          refine Sh.iload at_218 rfl ?_
          refine Sh.iload at_220 rfl ?_
          refine Sh.ifF at_222 (by decide) ?_
          refine Sh.iconst at_225 (x := 2) rfl ?_
          refine Sh.goto at_226 (pc' := 230) rfl (by decide) ?_
          refine Sh.iaddE at_230 (Sh.onAdd _ 2) ?_
          refine Sh.istore at_231 (Sh.s1_15 rfl rfl) ?_
          refine Sh.iload at_233 rfl ?_
          refine Sh.iconst at_235 (x := 2) rfl ?_
          refine Sh.icmpF at_236 (by decide) ?_
          refine Sh.iload at_239 rfl ?_
          refine Sh.ifF at_241 (by decide) ?_
          refine Sh.aload at_244 rfl rfl ?_
          refine Sh.iload at_246 rfl ?_
          refine Sh.iload at_248 rfl ?_
          refine Sh.callS hw (i1 := 9) (i2 := 10) (i3 := 7) (i4 := 11) (k' := 2) (n' := 15) (B' := b3) (R' := R3) rfl rfl rfl rfl (by decide) (m3 l Z a0 n0 hw _ _ (p + 2) 0 (by omega) (hi 2 0 rfl) (fun _ => hi 3 (-1) rfl)) at_250 rfl rfl pd3 rfl (Sh.le rfl) (Sh.le rfl) (Sh.le rfl) (Sh.le rfl) rfl rfl ?_
          rintro _ _ ⟨rfl, rfl⟩
          refine Sh.ifF at_253 (by decide) ?_
          refine Sh.iconst at_256 (x := 1) rfl ?_
          refine Sh.goto at_257 (pc' := 261) rfl (by decide) ?_
          refine Sh.istore at_261 (Sh.s1_16 rfl rfl) ?_
          refine Sh.iload at_263 rfl ?_
          refine Sh.iload at_265 rfl ?_
          refine Sh.ifF at_267 (by decide) ?_
          refine Sh.iconst at_270 (x := 2) rfl ?_
          refine Sh.goto at_271 (pc' := 275) rfl (by decide) ?_
          refine Sh.iaddE at_275 (Sh.onAdd _ 2) ?_
          refine Sh.istore at_276 (Sh.s1_15 rfl rfl) ?_
          refine Sh.iload at_278 rfl ?_
          refine Sh.iconst at_280 (x := 3) rfl ?_
          refine Sh.icmpF at_281 (by decide) ?_
          refine Sh.iload at_284 rfl ?_
          refine Sh.ifF at_286 (by decide) ?_
          refine Sh.aload at_289 rfl rfl ?_
          refine Sh.iload at_291 rfl ?_
          refine Sh.iload at_293 rfl ?_
          refine Sh.callS hw (i1 := 9) (i2 := 10) (i3 := 7) (i4 := 11) (k' := 2) (n' := 15) (B' := b3) (R' := R3) rfl rfl rfl rfl (by decide) (m3 l Z a0 n0 hw _ _ (p + 4) 0 (by omega) (hi 4 0 rfl) (fun _ => hi 5 (-1) rfl)) at_295 rfl rfl pd3 rfl (Sh.le rfl) (Sh.le rfl) (Sh.le rfl) (Sh.le rfl) rfl rfl ?_
          rintro _ _ ⟨rfl, rfl⟩
          refine Sh.ifF at_298 (by decide) ?_
          refine Sh.iconst at_301 (x := 1) rfl ?_
          refine Sh.goto at_302 (pc' := 306) rfl (by decide) ?_
          refine Sh.istore at_306 (Sh.s1_16 rfl rfl) ?_
          refine Sh.iload at_308 rfl ?_
          refine Sh.iload at_310 rfl ?_
          refine Sh.ifF at_312 (by decide) ?_
          refine Sh.iconst at_315 (x := 2) rfl ?_
          refine Sh.goto at_316 (pc' := 320) rfl (by decide) ?_
          refine Sh.iaddE at_320 (Sh.onAdd _ 2) ?_
          refine Sh.istore at_321 (Sh.s1_15 rfl rfl) ?_
          refine Sh.iload at_323 rfl ?_
          refine Sh.ifF at_325 (by decide) ?_
          refine Sh.aload at_328 rfl rfl ?_
          refine Sh.iload at_330 rfl ?_
          refine Sh.baload at_332 rfl (Sh.onNN (by omega)) (Sh.onCl (by omega)) (hi 6 0 rfl) ?_
          refine Sh.ifF at_333 (by decide) ?_
          refine Sh.aload at_336 rfl rfl ?_
          refine Sh.iload at_338 rfl ?_
          refine Sh.iconst at_340 (x := 1) rfl ?_
          refine Sh.iaddE at_341 (Sh.onAdd _ 1) ?_
          refine Sh.baload at_342 rfl (Sh.onNN (by omega)) (Sh.onCl (by omega)) (hi 7 1 rfl) ?_
          refine Sh.iconst at_343 (x := 1) rfl ?_
          refine Sh.icmpF at_344 (by decide) ?_
          refine Sh.iload at_347 rfl ?_
          refine Sh.iload at_349 rfl ?_
          refine Sh.iconst at_351 (x := 2) rfl ?_
          refine Sh.iaddE at_352 (Sh.onAdd _ 2) ?_
          refine Sh.icmpF at_353 (fun q => q rfl) ?_
          refine Sh.iconst at_356 (x := 1) rfl ?_
          refine Sh.goto at_357 (pc' := 361) rfl (by decide) ?_
          refine Sh.istore at_361 (Sh.s1_16 rfl rfl) ?_
          refine Sh.iload at_363 rfl ?_
          refine Sh.ifF at_365 (by decide) ?_
          refine Sh.aload at_368 rfl rfl ?_
          refine Sh.iconst at_370 (x := 0) rfl ?_
          refine Sh.iload at_371 rfl ?_
          refine Sh.iload at_373 rfl ?_
          refine Sh.iload at_375 rfl ?_
          refine Sh.callS hw (i1 := 5) (i2 := 6) (i3 := 7) (i4 := 8) (k' := 2) (n' := 15) (B' := b2) (R' := R2) rfl rfl rfl rfl (by decide) (m2 l Z a0 n0 hw _ _ 0 p (p + 8) fb (by omega) (by omega) (by omega) (ho 0 (by decide))) at_377 rfl rfl pd2 rfl (Sh.le rfl) (Sh.le rfl) (Sh.le rfl) (Sh.le rfl) rfl rfl ?_
          rintro _ _ ⟨rfl, rfl⟩
          refine Sh.ifF at_380 (by decide) ?_
          refine Sh.aload at_383 rfl rfl ?_
          refine Sh.iconst at_385 (x := 1) rfl ?_
          refine Sh.iload at_386 rfl ?_
          refine Sh.iload at_388 rfl ?_
          refine Sh.iload at_390 rfl ?_
          refine Sh.callS hw (i1 := 5) (i2 := 6) (i3 := 7) (i4 := 8) (k' := 2) (n' := 15) (B' := b2) (R' := R2) rfl rfl rfl rfl (by decide) (m2 l Z a0 n0 hw _ _ 1 p (p + 8) fb (by omega) (by omega) (by omega) (ho 1 (by decide))) at_392 rfl rfl pd2 rfl (Sh.le rfl) (Sh.le rfl) (Sh.le rfl) (Sh.le rfl) rfl rfl ?_
          rintro _ _ ⟨rfl, rfl⟩
          refine Sh.ifF at_395 (by decide) ?_
          refine Sh.aload at_398 rfl rfl ?_
          refine Sh.iconst at_400 (x := 2) rfl ?_
          refine Sh.iload at_401 rfl ?_
          refine Sh.iload at_403 rfl ?_
          refine Sh.iload at_405 rfl ?_
          refine Sh.callS hw (i1 := 5) (i2 := 6) (i3 := 7) (i4 := 8) (k' := 2) (n' := 15) (B' := b2) (R' := R2) rfl rfl rfl rfl (by decide) (m2 l Z a0 n0 hw _ _ 2 p (p + 8) fb (by omega) (by omega) (by omega) (ho 2 (by decide))) at_407 rfl rfl pd2 rfl (Sh.le rfl) (Sh.le rfl) (Sh.le rfl) (Sh.le rfl) rfl rfl ?_
          rintro _ _ ⟨rfl, rfl⟩
          refine Sh.ifF at_410 (by decide) ?_
          refine Sh.aload at_413 rfl rfl ?_
          refine Sh.iconst at_415 (x := 3) rfl ?_
          refine Sh.iload at_416 rfl ?_
          refine Sh.iload at_418 rfl ?_
          refine Sh.iload at_420 rfl ?_
          refine Sh.callS hw (i1 := 5) (i2 := 6) (i3 := 7) (i4 := 8) (k' := 2) (n' := 15) (B' := b2) (R' := R2) rfl rfl rfl rfl (by decide) (m2 l Z a0 n0 hw _ _ 3 p (p + 8) fb (by omega) (by omega) (by omega) (ho 3 (by decide))) at_422 rfl rfl pd2 rfl (Sh.le rfl) (Sh.le rfl) (Sh.le rfl) (Sh.le rfl) rfl rfl ?_
          rintro _ _ ⟨rfl, rfl⟩
          refine Sh.ifF at_425 (by decide) ?_
          refine Sh.aload at_428 rfl rfl ?_
          refine Sh.iconst at_430 (x := 4) rfl ?_
          refine Sh.iload at_431 rfl ?_
          refine Sh.iload at_433 rfl ?_
          refine Sh.iload at_435 rfl ?_
          refine Sh.callS hw (i1 := 5) (i2 := 6) (i3 := 7) (i4 := 8) (k' := 2) (n' := 15) (B' := b2) (R' := R2) rfl rfl rfl rfl (by decide) (m2 l Z a0 n0 hw _ _ 4 p (p + 8) fb (by omega) (by omega) (by omega) (ho 4 (by decide))) at_437 rfl rfl pd2 rfl (Sh.le rfl) (Sh.le rfl) (Sh.le rfl) (Sh.le rfl) rfl rfl ?_
          rintro _ _ ⟨rfl, rfl⟩
          refine Sh.ifF at_440 (by decide) ?_
          refine Sh.aload at_443 rfl rfl ?_
          refine Sh.iconst at_445 (x := 5) rfl ?_
          refine Sh.iload at_446 rfl ?_
          refine Sh.iload at_448 rfl ?_
          refine Sh.iload at_450 rfl ?_
          refine Sh.callS hw (i1 := 5) (i2 := 6) (i3 := 7) (i4 := 8) (k' := 2) (n' := 15) (B' := b2) (R' := R2) rfl rfl rfl rfl (by decide) (m2 l Z a0 n0 hw _ _ 5 p (p + 8) fb (by omega) (by omega) (by omega) (ho 5 (by decide))) at_452 rfl rfl pd2 rfl (Sh.le rfl) (Sh.le rfl) (Sh.le rfl) (Sh.le rfl) rfl rfl ?_
          rintro _ _ ⟨rfl, rfl⟩
          refine Sh.ifF at_455 (by decide) ?_
          refine Sh.aload at_458 rfl rfl ?_
          refine Sh.bipush at_460 (x := 6) rfl ?_
          refine Sh.iload at_462 rfl ?_
          refine Sh.iload at_464 rfl ?_
          refine Sh.iload at_466 rfl ?_
          refine Sh.callS hw (i1 := 5) (i2 := 6) (i3 := 7) (i4 := 8) (k' := 2) (n' := 15) (B' := b2) (R' := R2) rfl rfl rfl rfl (by decide) (m2 l Z a0 n0 hw _ _ 6 p (p + 8) fb (by omega) (by omega) (by omega) (ho 6 (by decide))) at_468 rfl rfl pd2 rfl (Sh.le rfl) (Sh.le rfl) (Sh.le rfl) (Sh.le rfl) rfl rfl ?_
          rintro _ _ ⟨rfl, rfl⟩
          refine Sh.ifF at_471 (by decide) ?_
          refine Sh.aload at_474 rfl rfl ?_
          refine Sh.bipush at_476 (x := 7) rfl ?_
          refine Sh.iload at_478 rfl ?_
          refine Sh.iload at_480 rfl ?_
          refine Sh.iload at_482 rfl ?_
          refine Sh.callS hw (i1 := 5) (i2 := 6) (i3 := 7) (i4 := 8) (k' := 2) (n' := 15) (B' := b2) (R' := R2) rfl rfl rfl rfl (by decide) (m2 l Z a0 n0 hw _ _ 7 p (p + 8) fb (by omega) (by omega) (by omega) (ho 7 (by decide))) at_484 rfl rfl pd2 rfl (Sh.le rfl) (Sh.le rfl) (Sh.le rfl) (Sh.le rfl) rfl rfl ?_
          rintro _ _ ⟨rfl, rfl⟩
          refine Sh.ifF at_487 (by decide) ?_
          refine Sh.aload at_490 rfl rfl ?_
          refine Sh.bipush at_492 (x := 8) rfl ?_
          refine Sh.iload at_494 rfl ?_
          refine Sh.iload at_496 rfl ?_
          refine Sh.iload at_498 rfl ?_
          refine Sh.callS hw (i1 := 5) (i2 := 6) (i3 := 7) (i4 := 8) (k' := 2) (n' := 15) (B' := b2) (R' := R2) rfl rfl rfl rfl (by decide) (m2 l Z a0 n0 hw _ _ 8 p (p + 8) fb (by omega) (by omega) (by omega) (ho 8 (by decide))) at_500 rfl rfl pd2 rfl (Sh.le rfl) (Sh.le rfl) (Sh.le rfl) (Sh.le rfl) rfl rfl ?_
          rintro _ _ ⟨rfl, rfl⟩
          refine Sh.ifF at_503 (by decide) ?_
          refine Sh.aload at_506 rfl rfl ?_
          refine Sh.bipush at_508 (x := 9) rfl ?_
          refine Sh.iload at_510 rfl ?_
          refine Sh.iload at_512 rfl ?_
          refine Sh.iload at_514 rfl ?_
          refine Sh.callS hw (i1 := 5) (i2 := 6) (i3 := 7) (i4 := 8) (k' := 2) (n' := 15) (B' := b2) (R' := R2) rfl rfl rfl rfl (by decide) (m2 l Z a0 n0 hw _ _ 9 p (p + 8) fb (by omega) (by omega) (by omega) (ho 9 (by decide))) at_516 rfl rfl pd2 rfl (Sh.le rfl) (Sh.le rfl) (Sh.le rfl) (Sh.le rfl) rfl rfl ?_
          rintro _ _ ⟨rfl, rfl⟩
          refine Sh.ifF at_519 (by decide) ?_
          refine Sh.aload at_522 rfl rfl ?_
          refine Sh.bipush at_524 (x := 10) rfl ?_
          refine Sh.iload at_526 rfl ?_
          refine Sh.iload at_528 rfl ?_
          refine Sh.iload at_530 rfl ?_
          refine Sh.callS hw (i1 := 5) (i2 := 6) (i3 := 7) (i4 := 8) (k' := 2) (n' := 15) (B' := b2) (R' := R2) rfl rfl rfl rfl (by decide) (m2 l Z a0 n0 hw _ _ 10 p (p + 8) fb (by omega) (by omega) (by omega) (ho 10 (by decide))) at_532 rfl rfl pd2 rfl (Sh.le rfl) (Sh.le rfl) (Sh.le rfl) (Sh.le rfl) rfl rfl ?_
          rintro _ _ ⟨rfl, rfl⟩
          refine Sh.ifF at_535 (by decide) ?_
          refine Sh.aload at_538 rfl rfl ?_
          refine Sh.bipush at_540 (x := 11) rfl ?_
          refine Sh.iload at_542 rfl ?_
          refine Sh.iload at_544 rfl ?_
          refine Sh.iload at_546 rfl ?_
          refine Sh.callS hw (i1 := 5) (i2 := 6) (i3 := 7) (i4 := 8) (k' := 2) (n' := 15) (B' := b2) (R' := R2) rfl rfl rfl rfl (by decide) (m2 l Z a0 n0 hw _ _ 11 p (p + 8) fb (by omega) (by omega) (by omega) (ho 11 (by decide))) at_548 rfl rfl pd2 rfl (Sh.le rfl) (Sh.le rfl) (Sh.le rfl) (Sh.le rfl) rfl rfl ?_
          rintro _ _ ⟨rfl, rfl⟩
          refine Sh.ifF at_551 (by decide) ?_
          refine Sh.iconst at_554 (x := 1) rfl ?_
          refine Sh.goto at_555 (pc' := 559) rfl (by decide) ?_
          refine Sh.istore at_559 (Sh.s1_16 rfl rfl) ?_
          refine Sh.iload at_561 rfl ?_
          refine Sh.retN at_563 rfl (by simp) rfl (Sh.le rfl) (Sh.le rfl) ?_
          rfl
        · skip
          have hes : own_enc [0, 0, x2] = [0, -1, 0, -1, x2, 0, 1] := by simp [own_enc, h2]
          have hi := fun j e h => own_in [0, -1, 0, -1, x2, 0, 1] K p j e h (by rw [hl]; simp; omega)
          have ho : ∀ i, i < 12 → i < p ∨ p + 7 ≤ i → (own_wr K p [0, -1, 0, -1, x2, 0, 1])[i]? = some (.int fb) := fun i h q => by rw [own_out _ _ _ _ (by simpa using q)]; exact hg i h
          have hl2 : (own_wr K p [0, -1, 0, -1, x2, 0, 1]).length = 12 := by rw [own_len, hl]
          refine Sh.aload at_170 rfl rfl ?_
          refine Sh.iload at_172 rfl ?_
          refine Sh.aload at_174 rfl rfl ?_
          refine Sh.callS hw (i1 := 1) (i2 := 2) (i3 := 3) (i4 := 4) (k' := 2) (n' := 15) (B' := b1) (R' := R1) rfl rfl rfl rfl (by decide) (m1 l Z a0 n0 hw [0, 0, x2] [0, -1, 0, -1, x2, 0, 1] _ K p (p + 7) rfl hbs (Sh.le rfl) hes rfl (by rw [hl]; omega) (by rw [hl]; decide)) at_176 rfl rfl pd1 rfl (Sh.le rfl) (Sh.le rfl) (Sh.le rfl) (Sh.le rfl) rfl rfl ?_
          rintro _ _ ⟨rfl, rfl⟩
          refine Sh.istore at_179 (Sh.s1_14 rfl rfl) ?_
          refine Sh.iload at_181 rfl ?_
          refine Sh.istore at_183 (Sh.s1_15 rfl rfl) ?_
          refine Sh.iconst at_185 (x := 1) rfl ?_
          refine Sh.istore at_186 (Sh.s1_16 rfl rfl) ?_
          refine Sh.iload at_188 rfl ?_
          refine Sh.iconst at_190 (x := 1) rfl ?_
          refine Sh.icmpF at_191 (by decide) ?_
          refine Sh.iload at_194 rfl ?_
          refine Sh.ifF at_196 (by decide) ?_
          refine Sh.aload at_199 rfl rfl ?_
          refine Sh.iload at_201 rfl ?_
          refine Sh.iload at_203 rfl ?_
          refine Sh.callS hw (i1 := 9) (i2 := 10) (i3 := 7) (i4 := 11) (k' := 2) (n' := 15) (B' := b3) (R' := R3) rfl rfl rfl rfl (by decide) (m3 l Z a0 n0 hw _ _ (p + 0) 0 (by omega) (hi 0 0 rfl) (fun _ => hi 1 (-1) rfl)) at_205 rfl rfl pd3 rfl (Sh.le rfl) (Sh.le rfl) (Sh.le rfl) (Sh.le rfl) rfl rfl ?_
          rintro _ _ ⟨rfl, rfl⟩
          refine Sh.ifF at_208 (by decide) ?_
          refine Sh.iconst at_211 (x := 1) rfl ?_
          refine Sh.goto at_212 (pc' := 216) rfl (by decide) ?_
          refine Sh.istore at_216 (Sh.s1_16 rfl rfl) ?_
          refine Sh.iload at_218 rfl ?_
          refine Sh.iload at_220 rfl ?_
          refine Sh.ifF at_222 (by decide) ?_
          refine Sh.iconst at_225 (x := 2) rfl ?_
          refine Sh.goto at_226 (pc' := 230) rfl (by decide) ?_
          refine Sh.iaddE at_230 (Sh.onAdd _ 2) ?_
          refine Sh.istore at_231 (Sh.s1_15 rfl rfl) ?_
          refine Sh.iload at_233 rfl ?_
          refine Sh.iconst at_235 (x := 2) rfl ?_
          refine Sh.icmpF at_236 (by decide) ?_
          refine Sh.iload at_239 rfl ?_
          refine Sh.ifF at_241 (by decide) ?_
          refine Sh.aload at_244 rfl rfl ?_
          refine Sh.iload at_246 rfl ?_
          refine Sh.iload at_248 rfl ?_
          refine Sh.callS hw (i1 := 9) (i2 := 10) (i3 := 7) (i4 := 11) (k' := 2) (n' := 15) (B' := b3) (R' := R3) rfl rfl rfl rfl (by decide) (m3 l Z a0 n0 hw _ _ (p + 2) 0 (by omega) (hi 2 0 rfl) (fun _ => hi 3 (-1) rfl)) at_250 rfl rfl pd3 rfl (Sh.le rfl) (Sh.le rfl) (Sh.le rfl) (Sh.le rfl) rfl rfl ?_
          rintro _ _ ⟨rfl, rfl⟩
          refine Sh.ifF at_253 (by decide) ?_
          refine Sh.iconst at_256 (x := 1) rfl ?_
          refine Sh.goto at_257 (pc' := 261) rfl (by decide) ?_
          refine Sh.istore at_261 (Sh.s1_16 rfl rfl) ?_
          refine Sh.iload at_263 rfl ?_
          refine Sh.iload at_265 rfl ?_
          refine Sh.ifF at_267 (by decide) ?_
          refine Sh.iconst at_270 (x := 2) rfl ?_
          refine Sh.goto at_271 (pc' := 275) rfl (by decide) ?_
          refine Sh.iaddE at_275 (Sh.onAdd _ 2) ?_
          refine Sh.istore at_276 (Sh.s1_15 rfl rfl) ?_
          refine Sh.iload at_278 rfl ?_
          refine Sh.iconst at_280 (x := 3) rfl ?_
          refine Sh.icmpF at_281 (by decide) ?_
          refine Sh.iload at_284 rfl ?_
          refine Sh.ifF at_286 (by decide) ?_
          refine Sh.aload at_289 rfl rfl ?_
          refine Sh.iload at_291 rfl ?_
          refine Sh.iload at_293 rfl ?_
          refine Sh.callS hw (i1 := 9) (i2 := 10) (i3 := 7) (i4 := 11) (k' := 2) (n' := 15) (B' := b3) (R' := R3) rfl rfl rfl rfl (by decide) (m3 l Z a0 n0 hw _ _ (p + 4) x2 (by omega) (hi 4 x2 rfl) (fun q => absurd q h2)) at_295 rfl rfl pd3 rfl (Sh.le rfl) (Sh.le rfl) (Sh.le rfl) (Sh.le rfl) rfl rfl ?_
          rintro _ _ ⟨rfl, rfl⟩
          refine Sh.ifF at_298 (by decide) ?_
          refine Sh.iconst at_301 (x := 1) rfl ?_
          refine Sh.goto at_302 (pc' := 306) rfl (by decide) ?_
          refine Sh.istore at_306 (Sh.s1_16 rfl rfl) ?_
          refine Sh.iload at_308 rfl ?_
          refine Sh.iload at_310 rfl ?_
          refine Sh.ifT at_312 (pc' := 319) rfl (by decide) h2 ?_
          refine Sh.iconst at_319 (x := 1) rfl ?_
          refine Sh.iaddE at_320 (Sh.onAdd _ 1) ?_
          refine Sh.istore at_321 (Sh.s1_15 rfl rfl) ?_
          refine Sh.iload at_323 rfl ?_
          refine Sh.ifF at_325 (by decide) ?_
          refine Sh.aload at_328 rfl rfl ?_
          refine Sh.iload at_330 rfl ?_
          refine Sh.baload at_332 rfl (Sh.onNN (by omega)) (Sh.onCl (by omega)) (hi 5 0 rfl) ?_
          refine Sh.ifF at_333 (by decide) ?_
          refine Sh.aload at_336 rfl rfl ?_
          refine Sh.iload at_338 rfl ?_
          refine Sh.iconst at_340 (x := 1) rfl ?_
          refine Sh.iaddE at_341 (Sh.onAdd _ 1) ?_
          refine Sh.baload at_342 rfl (Sh.onNN (by omega)) (Sh.onCl (by omega)) (hi 6 1 rfl) ?_
          refine Sh.iconst at_343 (x := 1) rfl ?_
          refine Sh.icmpF at_344 (by decide) ?_
          refine Sh.iload at_347 rfl ?_
          refine Sh.iload at_349 rfl ?_
          refine Sh.iconst at_351 (x := 2) rfl ?_
          refine Sh.iaddE at_352 (Sh.onAdd _ 2) ?_
          refine Sh.icmpF at_353 (fun q => q rfl) ?_
          refine Sh.iconst at_356 (x := 1) rfl ?_
          refine Sh.goto at_357 (pc' := 361) rfl (by decide) ?_
          refine Sh.istore at_361 (Sh.s1_16 rfl rfl) ?_
          refine Sh.iload at_363 rfl ?_
          refine Sh.ifF at_365 (by decide) ?_
          refine Sh.aload at_368 rfl rfl ?_
          refine Sh.iconst at_370 (x := 0) rfl ?_
          refine Sh.iload at_371 rfl ?_
          refine Sh.iload at_373 rfl ?_
          refine Sh.iload at_375 rfl ?_
          refine Sh.callS hw (i1 := 5) (i2 := 6) (i3 := 7) (i4 := 8) (k' := 2) (n' := 15) (B' := b2) (R' := R2) rfl rfl rfl rfl (by decide) (m2 l Z a0 n0 hw _ _ 0 p (p + 7) fb (by omega) (by omega) (by omega) (ho 0 (by decide))) at_377 rfl rfl pd2 rfl (Sh.le rfl) (Sh.le rfl) (Sh.le rfl) (Sh.le rfl) rfl rfl ?_
          rintro _ _ ⟨rfl, rfl⟩
          refine Sh.ifF at_380 (by decide) ?_
          refine Sh.aload at_383 rfl rfl ?_
          refine Sh.iconst at_385 (x := 1) rfl ?_
          refine Sh.iload at_386 rfl ?_
          refine Sh.iload at_388 rfl ?_
          refine Sh.iload at_390 rfl ?_
          refine Sh.callS hw (i1 := 5) (i2 := 6) (i3 := 7) (i4 := 8) (k' := 2) (n' := 15) (B' := b2) (R' := R2) rfl rfl rfl rfl (by decide) (m2 l Z a0 n0 hw _ _ 1 p (p + 7) fb (by omega) (by omega) (by omega) (ho 1 (by decide))) at_392 rfl rfl pd2 rfl (Sh.le rfl) (Sh.le rfl) (Sh.le rfl) (Sh.le rfl) rfl rfl ?_
          rintro _ _ ⟨rfl, rfl⟩
          refine Sh.ifF at_395 (by decide) ?_
          refine Sh.aload at_398 rfl rfl ?_
          refine Sh.iconst at_400 (x := 2) rfl ?_
          refine Sh.iload at_401 rfl ?_
          refine Sh.iload at_403 rfl ?_
          refine Sh.iload at_405 rfl ?_
          refine Sh.callS hw (i1 := 5) (i2 := 6) (i3 := 7) (i4 := 8) (k' := 2) (n' := 15) (B' := b2) (R' := R2) rfl rfl rfl rfl (by decide) (m2 l Z a0 n0 hw _ _ 2 p (p + 7) fb (by omega) (by omega) (by omega) (ho 2 (by decide))) at_407 rfl rfl pd2 rfl (Sh.le rfl) (Sh.le rfl) (Sh.le rfl) (Sh.le rfl) rfl rfl ?_
          rintro _ _ ⟨rfl, rfl⟩
          refine Sh.ifF at_410 (by decide) ?_
          refine Sh.aload at_413 rfl rfl ?_
          refine Sh.iconst at_415 (x := 3) rfl ?_
          refine Sh.iload at_416 rfl ?_
          refine Sh.iload at_418 rfl ?_
          refine Sh.iload at_420 rfl ?_
          refine Sh.callS hw (i1 := 5) (i2 := 6) (i3 := 7) (i4 := 8) (k' := 2) (n' := 15) (B' := b2) (R' := R2) rfl rfl rfl rfl (by decide) (m2 l Z a0 n0 hw _ _ 3 p (p + 7) fb (by omega) (by omega) (by omega) (ho 3 (by decide))) at_422 rfl rfl pd2 rfl (Sh.le rfl) (Sh.le rfl) (Sh.le rfl) (Sh.le rfl) rfl rfl ?_
          rintro _ _ ⟨rfl, rfl⟩
          refine Sh.ifF at_425 (by decide) ?_
          refine Sh.aload at_428 rfl rfl ?_
          refine Sh.iconst at_430 (x := 4) rfl ?_
          refine Sh.iload at_431 rfl ?_
          refine Sh.iload at_433 rfl ?_
          refine Sh.iload at_435 rfl ?_
          refine Sh.callS hw (i1 := 5) (i2 := 6) (i3 := 7) (i4 := 8) (k' := 2) (n' := 15) (B' := b2) (R' := R2) rfl rfl rfl rfl (by decide) (m2 l Z a0 n0 hw _ _ 4 p (p + 7) fb (by omega) (by omega) (by omega) (ho 4 (by decide))) at_437 rfl rfl pd2 rfl (Sh.le rfl) (Sh.le rfl) (Sh.le rfl) (Sh.le rfl) rfl rfl ?_
          rintro _ _ ⟨rfl, rfl⟩
          refine Sh.ifF at_440 (by decide) ?_
          refine Sh.aload at_443 rfl rfl ?_
          refine Sh.iconst at_445 (x := 5) rfl ?_
          refine Sh.iload at_446 rfl ?_
          refine Sh.iload at_448 rfl ?_
          refine Sh.iload at_450 rfl ?_
          refine Sh.callS hw (i1 := 5) (i2 := 6) (i3 := 7) (i4 := 8) (k' := 2) (n' := 15) (B' := b2) (R' := R2) rfl rfl rfl rfl (by decide) (m2 l Z a0 n0 hw _ _ 5 p (p + 7) fb (by omega) (by omega) (by omega) (ho 5 (by decide))) at_452 rfl rfl pd2 rfl (Sh.le rfl) (Sh.le rfl) (Sh.le rfl) (Sh.le rfl) rfl rfl ?_
          rintro _ _ ⟨rfl, rfl⟩
          refine Sh.ifF at_455 (by decide) ?_
          refine Sh.aload at_458 rfl rfl ?_
          refine Sh.bipush at_460 (x := 6) rfl ?_
          refine Sh.iload at_462 rfl ?_
          refine Sh.iload at_464 rfl ?_
          refine Sh.iload at_466 rfl ?_
          refine Sh.callS hw (i1 := 5) (i2 := 6) (i3 := 7) (i4 := 8) (k' := 2) (n' := 15) (B' := b2) (R' := R2) rfl rfl rfl rfl (by decide) (m2 l Z a0 n0 hw _ _ 6 p (p + 7) fb (by omega) (by omega) (by omega) (ho 6 (by decide))) at_468 rfl rfl pd2 rfl (Sh.le rfl) (Sh.le rfl) (Sh.le rfl) (Sh.le rfl) rfl rfl ?_
          rintro _ _ ⟨rfl, rfl⟩
          refine Sh.ifF at_471 (by decide) ?_
          refine Sh.aload at_474 rfl rfl ?_
          refine Sh.bipush at_476 (x := 7) rfl ?_
          refine Sh.iload at_478 rfl ?_
          refine Sh.iload at_480 rfl ?_
          refine Sh.iload at_482 rfl ?_
          refine Sh.callS hw (i1 := 5) (i2 := 6) (i3 := 7) (i4 := 8) (k' := 2) (n' := 15) (B' := b2) (R' := R2) rfl rfl rfl rfl (by decide) (m2 l Z a0 n0 hw _ _ 7 p (p + 7) fb (by omega) (by omega) (by omega) (ho 7 (by decide))) at_484 rfl rfl pd2 rfl (Sh.le rfl) (Sh.le rfl) (Sh.le rfl) (Sh.le rfl) rfl rfl ?_
          rintro _ _ ⟨rfl, rfl⟩
          refine Sh.ifF at_487 (by decide) ?_
          refine Sh.aload at_490 rfl rfl ?_
          refine Sh.bipush at_492 (x := 8) rfl ?_
          refine Sh.iload at_494 rfl ?_
          refine Sh.iload at_496 rfl ?_
          refine Sh.iload at_498 rfl ?_
          refine Sh.callS hw (i1 := 5) (i2 := 6) (i3 := 7) (i4 := 8) (k' := 2) (n' := 15) (B' := b2) (R' := R2) rfl rfl rfl rfl (by decide) (m2 l Z a0 n0 hw _ _ 8 p (p + 7) fb (by omega) (by omega) (by omega) (ho 8 (by decide))) at_500 rfl rfl pd2 rfl (Sh.le rfl) (Sh.le rfl) (Sh.le rfl) (Sh.le rfl) rfl rfl ?_
          rintro _ _ ⟨rfl, rfl⟩
          refine Sh.ifF at_503 (by decide) ?_
          refine Sh.aload at_506 rfl rfl ?_
          refine Sh.bipush at_508 (x := 9) rfl ?_
          refine Sh.iload at_510 rfl ?_
          refine Sh.iload at_512 rfl ?_
          refine Sh.iload at_514 rfl ?_
          refine Sh.callS hw (i1 := 5) (i2 := 6) (i3 := 7) (i4 := 8) (k' := 2) (n' := 15) (B' := b2) (R' := R2) rfl rfl rfl rfl (by decide) (m2 l Z a0 n0 hw _ _ 9 p (p + 7) fb (by omega) (by omega) (by omega) (ho 9 (by decide))) at_516 rfl rfl pd2 rfl (Sh.le rfl) (Sh.le rfl) (Sh.le rfl) (Sh.le rfl) rfl rfl ?_
          rintro _ _ ⟨rfl, rfl⟩
          refine Sh.ifF at_519 (by decide) ?_
          refine Sh.aload at_522 rfl rfl ?_
          refine Sh.bipush at_524 (x := 10) rfl ?_
          refine Sh.iload at_526 rfl ?_
          refine Sh.iload at_528 rfl ?_
          refine Sh.iload at_530 rfl ?_
          refine Sh.callS hw (i1 := 5) (i2 := 6) (i3 := 7) (i4 := 8) (k' := 2) (n' := 15) (B' := b2) (R' := R2) rfl rfl rfl rfl (by decide) (m2 l Z a0 n0 hw _ _ 10 p (p + 7) fb (by omega) (by omega) (by omega) (ho 10 (by decide))) at_532 rfl rfl pd2 rfl (Sh.le rfl) (Sh.le rfl) (Sh.le rfl) (Sh.le rfl) rfl rfl ?_
          rintro _ _ ⟨rfl, rfl⟩
          refine Sh.ifF at_535 (by decide) ?_
          refine Sh.aload at_538 rfl rfl ?_
          refine Sh.bipush at_540 (x := 11) rfl ?_
          refine Sh.iload at_542 rfl ?_
          refine Sh.iload at_544 rfl ?_
          refine Sh.iload at_546 rfl ?_
          refine Sh.callS hw (i1 := 5) (i2 := 6) (i3 := 7) (i4 := 8) (k' := 2) (n' := 15) (B' := b2) (R' := R2) rfl rfl rfl rfl (by decide) (m2 l Z a0 n0 hw _ _ 11 p (p + 7) fb (by omega) (by omega) (by omega) (ho 11 (by decide))) at_548 rfl rfl pd2 rfl (Sh.le rfl) (Sh.le rfl) (Sh.le rfl) (Sh.le rfl) rfl rfl ?_
          rintro _ _ ⟨rfl, rfl⟩
          refine Sh.ifF at_551 (by decide) ?_
          refine Sh.iconst at_554 (x := 1) rfl ?_
          refine Sh.goto at_555 (pc' := 559) rfl (by decide) ?_
          refine Sh.istore at_559 (Sh.s1_16 rfl rfl) ?_
          refine Sh.iload at_561 rfl ?_
          refine Sh.retN at_563 rfl (by simp) rfl (Sh.le rfl) (Sh.le rfl) ?_
          rfl
      · skip
        rcases Decidable.em (x2 = 0) with rfl | h2
        · skip
          have hes : own_enc [0, x1, 0] = [0, -1, x1, 0, -1, 0, 1] := by simp [own_enc, h1]
          have hi := fun j e h => own_in [0, -1, x1, 0, -1, 0, 1] K p j e h (by rw [hl]; simp; omega)
          have ho : ∀ i, i < 12 → i < p ∨ p + 7 ≤ i → (own_wr K p [0, -1, x1, 0, -1, 0, 1])[i]? = some (.int fb) := fun i h q => by rw [own_out _ _ _ _ (by simpa using q)]; exact hg i h
          have hl2 : (own_wr K p [0, -1, x1, 0, -1, 0, 1]).length = 12 := by rw [own_len, hl]
          refine Sh.aload at_170 rfl rfl ?_
          refine Sh.iload at_172 rfl ?_
          refine Sh.aload at_174 rfl rfl ?_
          refine Sh.callS hw (i1 := 1) (i2 := 2) (i3 := 3) (i4 := 4) (k' := 2) (n' := 15) (B' := b1) (R' := R1) rfl rfl rfl rfl (by decide) (m1 l Z a0 n0 hw [0, x1, 0] [0, -1, x1, 0, -1, 0, 1] _ K p (p + 7) rfl hbs (Sh.le rfl) hes rfl (by rw [hl]; omega) (by rw [hl]; decide)) at_176 rfl rfl pd1 rfl (Sh.le rfl) (Sh.le rfl) (Sh.le rfl) (Sh.le rfl) rfl rfl ?_
          rintro _ _ ⟨rfl, rfl⟩
          refine Sh.istore at_179 (Sh.s1_14 rfl rfl) ?_
          refine Sh.iload at_181 rfl ?_
          refine Sh.istore at_183 (Sh.s1_15 rfl rfl) ?_
          refine Sh.iconst at_185 (x := 1) rfl ?_
          refine Sh.istore at_186 (Sh.s1_16 rfl rfl) ?_
          refine Sh.iload at_188 rfl ?_
          refine Sh.iconst at_190 (x := 1) rfl ?_
          refine Sh.icmpF at_191 (by decide) ?_
          refine Sh.iload at_194 rfl ?_
          refine Sh.ifF at_196 (by decide) ?_
          refine Sh.aload at_199 rfl rfl ?_
          refine Sh.iload at_201 rfl ?_
          refine Sh.iload at_203 rfl ?_
          refine Sh.callS hw (i1 := 9) (i2 := 10) (i3 := 7) (i4 := 11) (k' := 2) (n' := 15) (B' := b3) (R' := R3) rfl rfl rfl rfl (by decide) (m3 l Z a0 n0 hw _ _ (p + 0) 0 (by omega) (hi 0 0 rfl) (fun _ => hi 1 (-1) rfl)) at_205 rfl rfl pd3 rfl (Sh.le rfl) (Sh.le rfl) (Sh.le rfl) (Sh.le rfl) rfl rfl ?_
          rintro _ _ ⟨rfl, rfl⟩
          refine Sh.ifF at_208 (by decide) ?_
          refine Sh.iconst at_211 (x := 1) rfl ?_
          refine Sh.goto at_212 (pc' := 216) rfl (by decide) ?_
          refine Sh.istore at_216 (Sh.s1_16 rfl rfl) ?_
          refine Sh.iload at_218 rfl ?_
          refine Sh.iload at_220 rfl ?_
          refine Sh.ifF at_222 (by decide) ?_
          refine Sh.iconst at_225 (x := 2) rfl ?_
          refine Sh.goto at_226 (pc' := 230) rfl (by decide) ?_
          refine Sh.iaddE at_230 (Sh.onAdd _ 2) ?_
          refine Sh.istore at_231 (Sh.s1_15 rfl rfl) ?_
          refine Sh.iload at_233 rfl ?_
          refine Sh.iconst at_235 (x := 2) rfl ?_
          refine Sh.icmpF at_236 (by decide) ?_
          refine Sh.iload at_239 rfl ?_
          refine Sh.ifF at_241 (by decide) ?_
          refine Sh.aload at_244 rfl rfl ?_
          refine Sh.iload at_246 rfl ?_
          refine Sh.iload at_248 rfl ?_
          refine Sh.callS hw (i1 := 9) (i2 := 10) (i3 := 7) (i4 := 11) (k' := 2) (n' := 15) (B' := b3) (R' := R3) rfl rfl rfl rfl (by decide) (m3 l Z a0 n0 hw _ _ (p + 2) x1 (by omega) (hi 2 x1 rfl) (fun q => absurd q h1)) at_250 rfl rfl pd3 rfl (Sh.le rfl) (Sh.le rfl) (Sh.le rfl) (Sh.le rfl) rfl rfl ?_
          rintro _ _ ⟨rfl, rfl⟩
          refine Sh.ifF at_253 (by decide) ?_
          refine Sh.iconst at_256 (x := 1) rfl ?_
          refine Sh.goto at_257 (pc' := 261) rfl (by decide) ?_
          refine Sh.istore at_261 (Sh.s1_16 rfl rfl) ?_
          refine Sh.iload at_263 rfl ?_
          refine Sh.iload at_265 rfl ?_
          refine Sh.ifT at_267 (pc' := 274) rfl (by decide) h1 ?_
          refine Sh.iconst at_274 (x := 1) rfl ?_
          refine Sh.iaddE at_275 (Sh.onAdd _ 1) ?_
          refine Sh.istore at_276 (Sh.s1_15 rfl rfl) ?_
          refine Sh.iload at_278 rfl ?_
          refine Sh.iconst at_280 (x := 3) rfl ?_
          refine Sh.icmpF at_281 (by decide) ?_
          refine Sh.iload at_284 rfl ?_
          refine Sh.ifF at_286 (by decide) ?_
          refine Sh.aload at_289 rfl rfl ?_
          refine Sh.iload at_291 rfl ?_
          refine Sh.iload at_293 rfl ?_
          refine Sh.callS hw (i1 := 9) (i2 := 10) (i3 := 7) (i4 := 11) (k' := 2) (n' := 15) (B' := b3) (R' := R3) rfl rfl rfl rfl (by decide) (m3 l Z a0 n0 hw _ _ (p + 3) 0 (by omega) (hi 3 0 rfl) (fun _ => hi 4 (-1) rfl)) at_295 rfl rfl pd3 rfl (Sh.le rfl) (Sh.le rfl) (Sh.le rfl) (Sh.le rfl) rfl rfl ?_
          rintro _ _ ⟨rfl, rfl⟩
          refine Sh.ifF at_298 (by decide) ?_
          refine Sh.iconst at_301 (x := 1) rfl ?_
          refine Sh.goto at_302 (pc' := 306) rfl (by decide) ?_
          refine Sh.istore at_306 (Sh.s1_16 rfl rfl) ?_
          refine Sh.iload at_308 rfl ?_
          refine Sh.iload at_310 rfl ?_
          refine Sh.ifF at_312 (by decide) ?_
          refine Sh.iconst at_315 (x := 2) rfl ?_
          refine Sh.goto at_316 (pc' := 320) rfl (by decide) ?_
          refine Sh.iaddE at_320 (Sh.onAdd _ 2) ?_
          refine Sh.istore at_321 (Sh.s1_15 rfl rfl) ?_
          refine Sh.iload at_323 rfl ?_
          refine Sh.ifF at_325 (by decide) ?_
          refine Sh.aload at_328 rfl rfl ?_
          refine Sh.iload at_330 rfl ?_
          refine Sh.baload at_332 rfl (Sh.onNN (by omega)) (Sh.onCl (by omega)) (hi 5 0 rfl) ?_
          refine Sh.ifF at_333 (by decide) ?_
          refine Sh.aload at_336 rfl rfl ?_
          refine Sh.iload at_338 rfl ?_
          refine Sh.iconst at_340 (x := 1) rfl ?_
          refine Sh.iaddE at_341 (Sh.onAdd _ 1) ?_
          refine Sh.baload at_342 rfl (Sh.onNN (by omega)) (Sh.onCl (by omega)) (hi 6 1 rfl) ?_
          refine Sh.iconst at_343 (x := 1) rfl ?_
          refine Sh.icmpF at_344 (by decide) ?_
          refine Sh.iload at_347 rfl ?_
          refine Sh.iload at_349 rfl ?_
          refine Sh.iconst at_351 (x := 2) rfl ?_
          refine Sh.iaddE at_352 (Sh.onAdd _ 2) ?_
          refine Sh.icmpF at_353 (fun q => q rfl) ?_
          refine Sh.iconst at_356 (x := 1) rfl ?_
          refine Sh.goto at_357 (pc' := 361) rfl (by decide) ?_
          refine Sh.istore at_361 (Sh.s1_16 rfl rfl) ?_
          refine Sh.iload at_363 rfl ?_
          refine Sh.ifF at_365 (by decide) ?_
          refine Sh.aload at_368 rfl rfl ?_
          refine Sh.iconst at_370 (x := 0) rfl ?_
          refine Sh.iload at_371 rfl ?_
          refine Sh.iload at_373 rfl ?_
          refine Sh.iload at_375 rfl ?_
          refine Sh.callS hw (i1 := 5) (i2 := 6) (i3 := 7) (i4 := 8) (k' := 2) (n' := 15) (B' := b2) (R' := R2) rfl rfl rfl rfl (by decide) (m2 l Z a0 n0 hw _ _ 0 p (p + 7) fb (by omega) (by omega) (by omega) (ho 0 (by decide))) at_377 rfl rfl pd2 rfl (Sh.le rfl) (Sh.le rfl) (Sh.le rfl) (Sh.le rfl) rfl rfl ?_
          rintro _ _ ⟨rfl, rfl⟩
          refine Sh.ifF at_380 (by decide) ?_
          refine Sh.aload at_383 rfl rfl ?_
          refine Sh.iconst at_385 (x := 1) rfl ?_
          refine Sh.iload at_386 rfl ?_
          refine Sh.iload at_388 rfl ?_
          refine Sh.iload at_390 rfl ?_
          refine Sh.callS hw (i1 := 5) (i2 := 6) (i3 := 7) (i4 := 8) (k' := 2) (n' := 15) (B' := b2) (R' := R2) rfl rfl rfl rfl (by decide) (m2 l Z a0 n0 hw _ _ 1 p (p + 7) fb (by omega) (by omega) (by omega) (ho 1 (by decide))) at_392 rfl rfl pd2 rfl (Sh.le rfl) (Sh.le rfl) (Sh.le rfl) (Sh.le rfl) rfl rfl ?_
          rintro _ _ ⟨rfl, rfl⟩
          refine Sh.ifF at_395 (by decide) ?_
          refine Sh.aload at_398 rfl rfl ?_
          refine Sh.iconst at_400 (x := 2) rfl ?_
          refine Sh.iload at_401 rfl ?_
          refine Sh.iload at_403 rfl ?_
          refine Sh.iload at_405 rfl ?_
          refine Sh.callS hw (i1 := 5) (i2 := 6) (i3 := 7) (i4 := 8) (k' := 2) (n' := 15) (B' := b2) (R' := R2) rfl rfl rfl rfl (by decide) (m2 l Z a0 n0 hw _ _ 2 p (p + 7) fb (by omega) (by omega) (by omega) (ho 2 (by decide))) at_407 rfl rfl pd2 rfl (Sh.le rfl) (Sh.le rfl) (Sh.le rfl) (Sh.le rfl) rfl rfl ?_
          rintro _ _ ⟨rfl, rfl⟩
          refine Sh.ifF at_410 (by decide) ?_
          refine Sh.aload at_413 rfl rfl ?_
          refine Sh.iconst at_415 (x := 3) rfl ?_
          refine Sh.iload at_416 rfl ?_
          refine Sh.iload at_418 rfl ?_
          refine Sh.iload at_420 rfl ?_
          refine Sh.callS hw (i1 := 5) (i2 := 6) (i3 := 7) (i4 := 8) (k' := 2) (n' := 15) (B' := b2) (R' := R2) rfl rfl rfl rfl (by decide) (m2 l Z a0 n0 hw _ _ 3 p (p + 7) fb (by omega) (by omega) (by omega) (ho 3 (by decide))) at_422 rfl rfl pd2 rfl (Sh.le rfl) (Sh.le rfl) (Sh.le rfl) (Sh.le rfl) rfl rfl ?_
          rintro _ _ ⟨rfl, rfl⟩
          refine Sh.ifF at_425 (by decide) ?_
          refine Sh.aload at_428 rfl rfl ?_
          refine Sh.iconst at_430 (x := 4) rfl ?_
          refine Sh.iload at_431 rfl ?_
          refine Sh.iload at_433 rfl ?_
          refine Sh.iload at_435 rfl ?_
          refine Sh.callS hw (i1 := 5) (i2 := 6) (i3 := 7) (i4 := 8) (k' := 2) (n' := 15) (B' := b2) (R' := R2) rfl rfl rfl rfl (by decide) (m2 l Z a0 n0 hw _ _ 4 p (p + 7) fb (by omega) (by omega) (by omega) (ho 4 (by decide))) at_437 rfl rfl pd2 rfl (Sh.le rfl) (Sh.le rfl) (Sh.le rfl) (Sh.le rfl) rfl rfl ?_
          rintro _ _ ⟨rfl, rfl⟩
          refine Sh.ifF at_440 (by decide) ?_
          refine Sh.aload at_443 rfl rfl ?_
          refine Sh.iconst at_445 (x := 5) rfl ?_
          refine Sh.iload at_446 rfl ?_
          refine Sh.iload at_448 rfl ?_
          refine Sh.iload at_450 rfl ?_
          refine Sh.callS hw (i1 := 5) (i2 := 6) (i3 := 7) (i4 := 8) (k' := 2) (n' := 15) (B' := b2) (R' := R2) rfl rfl rfl rfl (by decide) (m2 l Z a0 n0 hw _ _ 5 p (p + 7) fb (by omega) (by omega) (by omega) (ho 5 (by decide))) at_452 rfl rfl pd2 rfl (Sh.le rfl) (Sh.le rfl) (Sh.le rfl) (Sh.le rfl) rfl rfl ?_
          rintro _ _ ⟨rfl, rfl⟩
          refine Sh.ifF at_455 (by decide) ?_
          refine Sh.aload at_458 rfl rfl ?_
          refine Sh.bipush at_460 (x := 6) rfl ?_
          refine Sh.iload at_462 rfl ?_
          refine Sh.iload at_464 rfl ?_
          refine Sh.iload at_466 rfl ?_
          refine Sh.callS hw (i1 := 5) (i2 := 6) (i3 := 7) (i4 := 8) (k' := 2) (n' := 15) (B' := b2) (R' := R2) rfl rfl rfl rfl (by decide) (m2 l Z a0 n0 hw _ _ 6 p (p + 7) fb (by omega) (by omega) (by omega) (ho 6 (by decide))) at_468 rfl rfl pd2 rfl (Sh.le rfl) (Sh.le rfl) (Sh.le rfl) (Sh.le rfl) rfl rfl ?_
          rintro _ _ ⟨rfl, rfl⟩
          refine Sh.ifF at_471 (by decide) ?_
          refine Sh.aload at_474 rfl rfl ?_
          refine Sh.bipush at_476 (x := 7) rfl ?_
          refine Sh.iload at_478 rfl ?_
          refine Sh.iload at_480 rfl ?_
          refine Sh.iload at_482 rfl ?_
          refine Sh.callS hw (i1 := 5) (i2 := 6) (i3 := 7) (i4 := 8) (k' := 2) (n' := 15) (B' := b2) (R' := R2) rfl rfl rfl rfl (by decide) (m2 l Z a0 n0 hw _ _ 7 p (p + 7) fb (by omega) (by omega) (by omega) (ho 7 (by decide))) at_484 rfl rfl pd2 rfl (Sh.le rfl) (Sh.le rfl) (Sh.le rfl) (Sh.le rfl) rfl rfl ?_
          rintro _ _ ⟨rfl, rfl⟩
          refine Sh.ifF at_487 (by decide) ?_
          refine Sh.aload at_490 rfl rfl ?_
          refine Sh.bipush at_492 (x := 8) rfl ?_
          refine Sh.iload at_494 rfl ?_
          refine Sh.iload at_496 rfl ?_
          refine Sh.iload at_498 rfl ?_
          refine Sh.callS hw (i1 := 5) (i2 := 6) (i3 := 7) (i4 := 8) (k' := 2) (n' := 15) (B' := b2) (R' := R2) rfl rfl rfl rfl (by decide) (m2 l Z a0 n0 hw _ _ 8 p (p + 7) fb (by omega) (by omega) (by omega) (ho 8 (by decide))) at_500 rfl rfl pd2 rfl (Sh.le rfl) (Sh.le rfl) (Sh.le rfl) (Sh.le rfl) rfl rfl ?_
          rintro _ _ ⟨rfl, rfl⟩
          refine Sh.ifF at_503 (by decide) ?_
          refine Sh.aload at_506 rfl rfl ?_
          refine Sh.bipush at_508 (x := 9) rfl ?_
          refine Sh.iload at_510 rfl ?_
          refine Sh.iload at_512 rfl ?_
          refine Sh.iload at_514 rfl ?_
          refine Sh.callS hw (i1 := 5) (i2 := 6) (i3 := 7) (i4 := 8) (k' := 2) (n' := 15) (B' := b2) (R' := R2) rfl rfl rfl rfl (by decide) (m2 l Z a0 n0 hw _ _ 9 p (p + 7) fb (by omega) (by omega) (by omega) (ho 9 (by decide))) at_516 rfl rfl pd2 rfl (Sh.le rfl) (Sh.le rfl) (Sh.le rfl) (Sh.le rfl) rfl rfl ?_
          rintro _ _ ⟨rfl, rfl⟩
          refine Sh.ifF at_519 (by decide) ?_
          refine Sh.aload at_522 rfl rfl ?_
          refine Sh.bipush at_524 (x := 10) rfl ?_
          refine Sh.iload at_526 rfl ?_
          refine Sh.iload at_528 rfl ?_
          refine Sh.iload at_530 rfl ?_
          refine Sh.callS hw (i1 := 5) (i2 := 6) (i3 := 7) (i4 := 8) (k' := 2) (n' := 15) (B' := b2) (R' := R2) rfl rfl rfl rfl (by decide) (m2 l Z a0 n0 hw _ _ 10 p (p + 7) fb (by omega) (by omega) (by omega) (ho 10 (by decide))) at_532 rfl rfl pd2 rfl (Sh.le rfl) (Sh.le rfl) (Sh.le rfl) (Sh.le rfl) rfl rfl ?_
          rintro _ _ ⟨rfl, rfl⟩
          refine Sh.ifF at_535 (by decide) ?_
          refine Sh.aload at_538 rfl rfl ?_
          refine Sh.bipush at_540 (x := 11) rfl ?_
          refine Sh.iload at_542 rfl ?_
          refine Sh.iload at_544 rfl ?_
          refine Sh.iload at_546 rfl ?_
          refine Sh.callS hw (i1 := 5) (i2 := 6) (i3 := 7) (i4 := 8) (k' := 2) (n' := 15) (B' := b2) (R' := R2) rfl rfl rfl rfl (by decide) (m2 l Z a0 n0 hw _ _ 11 p (p + 7) fb (by omega) (by omega) (by omega) (ho 11 (by decide))) at_548 rfl rfl pd2 rfl (Sh.le rfl) (Sh.le rfl) (Sh.le rfl) (Sh.le rfl) rfl rfl ?_
          rintro _ _ ⟨rfl, rfl⟩
          refine Sh.ifF at_551 (by decide) ?_
          refine Sh.iconst at_554 (x := 1) rfl ?_
          refine Sh.goto at_555 (pc' := 559) rfl (by decide) ?_
          refine Sh.istore at_559 (Sh.s1_16 rfl rfl) ?_
          refine Sh.iload at_561 rfl ?_
          refine Sh.retN at_563 rfl (by simp) rfl (Sh.le rfl) (Sh.le rfl) ?_
          rfl
        · skip
          have hes : own_enc [0, x1, x2] = [0, -1, x1, x2, 0, 1] := by simp [own_enc, h1, h2]
          have hi := fun j e h => own_in [0, -1, x1, x2, 0, 1] K p j e h (by rw [hl]; simp; omega)
          have ho : ∀ i, i < 12 → i < p ∨ p + 6 ≤ i → (own_wr K p [0, -1, x1, x2, 0, 1])[i]? = some (.int fb) := fun i h q => by rw [own_out _ _ _ _ (by simpa using q)]; exact hg i h
          have hl2 : (own_wr K p [0, -1, x1, x2, 0, 1]).length = 12 := by rw [own_len, hl]
          refine Sh.aload at_170 rfl rfl ?_
          refine Sh.iload at_172 rfl ?_
          refine Sh.aload at_174 rfl rfl ?_
          refine Sh.callS hw (i1 := 1) (i2 := 2) (i3 := 3) (i4 := 4) (k' := 2) (n' := 15) (B' := b1) (R' := R1) rfl rfl rfl rfl (by decide) (m1 l Z a0 n0 hw [0, x1, x2] [0, -1, x1, x2, 0, 1] _ K p (p + 6) rfl hbs (Sh.le rfl) hes rfl (by rw [hl]; omega) (by rw [hl]; decide)) at_176 rfl rfl pd1 rfl (Sh.le rfl) (Sh.le rfl) (Sh.le rfl) (Sh.le rfl) rfl rfl ?_
          rintro _ _ ⟨rfl, rfl⟩
          refine Sh.istore at_179 (Sh.s1_14 rfl rfl) ?_
          refine Sh.iload at_181 rfl ?_
          refine Sh.istore at_183 (Sh.s1_15 rfl rfl) ?_
          refine Sh.iconst at_185 (x := 1) rfl ?_
          refine Sh.istore at_186 (Sh.s1_16 rfl rfl) ?_
          refine Sh.iload at_188 rfl ?_
          refine Sh.iconst at_190 (x := 1) rfl ?_
          refine Sh.icmpF at_191 (by decide) ?_
          refine Sh.iload at_194 rfl ?_
          refine Sh.ifF at_196 (by decide) ?_
          refine Sh.aload at_199 rfl rfl ?_
          refine Sh.iload at_201 rfl ?_
          refine Sh.iload at_203 rfl ?_
          refine Sh.callS hw (i1 := 9) (i2 := 10) (i3 := 7) (i4 := 11) (k' := 2) (n' := 15) (B' := b3) (R' := R3) rfl rfl rfl rfl (by decide) (m3 l Z a0 n0 hw _ _ (p + 0) 0 (by omega) (hi 0 0 rfl) (fun _ => hi 1 (-1) rfl)) at_205 rfl rfl pd3 rfl (Sh.le rfl) (Sh.le rfl) (Sh.le rfl) (Sh.le rfl) rfl rfl ?_
          rintro _ _ ⟨rfl, rfl⟩
          refine Sh.ifF at_208 (by decide) ?_
          refine Sh.iconst at_211 (x := 1) rfl ?_
          refine Sh.goto at_212 (pc' := 216) rfl (by decide) ?_
          refine Sh.istore at_216 (Sh.s1_16 rfl rfl) ?_
          refine Sh.iload at_218 rfl ?_
          refine Sh.iload at_220 rfl ?_
          refine Sh.ifF at_222 (by decide) ?_
          refine Sh.iconst at_225 (x := 2) rfl ?_
          refine Sh.goto at_226 (pc' := 230) rfl (by decide) ?_
          refine Sh.iaddE at_230 (Sh.onAdd _ 2) ?_
          refine Sh.istore at_231 (Sh.s1_15 rfl rfl) ?_
          refine Sh.iload at_233 rfl ?_
          refine Sh.iconst at_235 (x := 2) rfl ?_
          refine Sh.icmpF at_236 (by decide) ?_
          refine Sh.iload at_239 rfl ?_
          refine Sh.ifF at_241 (by decide) ?_
          refine Sh.aload at_244 rfl rfl ?_
          refine Sh.iload at_246 rfl ?_
          refine Sh.iload at_248 rfl ?_
          refine Sh.callS hw (i1 := 9) (i2 := 10) (i3 := 7) (i4 := 11) (k' := 2) (n' := 15) (B' := b3) (R' := R3) rfl rfl rfl rfl (by decide) (m3 l Z a0 n0 hw _ _ (p + 2) x1 (by omega) (hi 2 x1 rfl) (fun q => absurd q h1)) at_250 rfl rfl pd3 rfl (Sh.le rfl) (Sh.le rfl) (Sh.le rfl) (Sh.le rfl) rfl rfl ?_
          rintro _ _ ⟨rfl, rfl⟩
          refine Sh.ifF at_253 (by decide) ?_
          refine Sh.iconst at_256 (x := 1) rfl ?_
          refine Sh.goto at_257 (pc' := 261) rfl (by decide) ?_
          refine Sh.istore at_261 (Sh.s1_16 rfl rfl) ?_
          refine Sh.iload at_263 rfl ?_
          refine Sh.iload at_265 rfl ?_
          refine Sh.ifT at_267 (pc' := 274) rfl (by decide) h1 ?_
          refine Sh.iconst at_274 (x := 1) rfl ?_
          refine Sh.iaddE at_275 (Sh.onAdd _ 1) ?_
          refine Sh.istore at_276 (Sh.s1_15 rfl rfl) ?_
          refine Sh.iload at_278 rfl ?_
          refine Sh.iconst at_280 (x := 3) rfl ?_
          refine Sh.icmpF at_281 (by decide) ?_
          refine Sh.iload at_284 rfl ?_
          refine Sh.ifF at_286 (by decide) ?_
          refine Sh.aload at_289 rfl rfl ?_
          refine Sh.iload at_291 rfl ?_
          refine Sh.iload at_293 rfl ?_
          refine Sh.callS hw (i1 := 9) (i2 := 10) (i3 := 7) (i4 := 11) (k' := 2) (n' := 15) (B' := b3) (R' := R3) rfl rfl rfl rfl (by decide) (m3 l Z a0 n0 hw _ _ (p + 3) x2 (by omega) (hi 3 x2 rfl) (fun q => absurd q h2)) at_295 rfl rfl pd3 rfl (Sh.le rfl) (Sh.le rfl) (Sh.le rfl) (Sh.le rfl) rfl rfl ?_
          rintro _ _ ⟨rfl, rfl⟩
          refine Sh.ifF at_298 (by decide) ?_
          refine Sh.iconst at_301 (x := 1) rfl ?_
          refine Sh.goto at_302 (pc' := 306) rfl (by decide) ?_
          refine Sh.istore at_306 (Sh.s1_16 rfl rfl) ?_
          refine Sh.iload at_308 rfl ?_
          refine Sh.iload at_310 rfl ?_
          refine Sh.ifT at_312 (pc' := 319) rfl (by decide) h2 ?_
          refine Sh.iconst at_319 (x := 1) rfl ?_
          refine Sh.iaddE at_320 (Sh.onAdd _ 1) ?_
          refine Sh.istore at_321 (Sh.s1_15 rfl rfl) ?_
          refine Sh.iload at_323 rfl ?_
          refine Sh.ifF at_325 (by decide) ?_
          refine Sh.aload at_328 rfl rfl ?_
          refine Sh.iload at_330 rfl ?_
          refine Sh.baload at_332 rfl (Sh.onNN (by omega)) (Sh.onCl (by omega)) (hi 4 0 rfl) ?_
          refine Sh.ifF at_333 (by decide) ?_
          refine Sh.aload at_336 rfl rfl ?_
          refine Sh.iload at_338 rfl ?_
          refine Sh.iconst at_340 (x := 1) rfl ?_
          refine Sh.iaddE at_341 (Sh.onAdd _ 1) ?_
          refine Sh.baload at_342 rfl (Sh.onNN (by omega)) (Sh.onCl (by omega)) (hi 5 1 rfl) ?_
          refine Sh.iconst at_343 (x := 1) rfl ?_
          refine Sh.icmpF at_344 (by decide) ?_
          refine Sh.iload at_347 rfl ?_
          refine Sh.iload at_349 rfl ?_
          refine Sh.iconst at_351 (x := 2) rfl ?_
          refine Sh.iaddE at_352 (Sh.onAdd _ 2) ?_
          refine Sh.icmpF at_353 (fun q => q rfl) ?_
          refine Sh.iconst at_356 (x := 1) rfl ?_
          refine Sh.goto at_357 (pc' := 361) rfl (by decide) ?_
          refine Sh.istore at_361 (Sh.s1_16 rfl rfl) ?_
          refine Sh.iload at_363 rfl ?_
          refine Sh.ifF at_365 (by decide) ?_
          refine Sh.aload at_368 rfl rfl ?_
          refine Sh.iconst at_370 (x := 0) rfl ?_
          refine Sh.iload at_371 rfl ?_
          refine Sh.iload at_373 rfl ?_
          refine Sh.iload at_375 rfl ?_
          refine Sh.callS hw (i1 := 5) (i2 := 6) (i3 := 7) (i4 := 8) (k' := 2) (n' := 15) (B' := b2) (R' := R2) rfl rfl rfl rfl (by decide) (m2 l Z a0 n0 hw _ _ 0 p (p + 6) fb (by omega) (by omega) (by omega) (ho 0 (by decide))) at_377 rfl rfl pd2 rfl (Sh.le rfl) (Sh.le rfl) (Sh.le rfl) (Sh.le rfl) rfl rfl ?_
          rintro _ _ ⟨rfl, rfl⟩
          refine Sh.ifF at_380 (by decide) ?_
          refine Sh.aload at_383 rfl rfl ?_
          refine Sh.iconst at_385 (x := 1) rfl ?_
          refine Sh.iload at_386 rfl ?_
          refine Sh.iload at_388 rfl ?_
          refine Sh.iload at_390 rfl ?_
          refine Sh.callS hw (i1 := 5) (i2 := 6) (i3 := 7) (i4 := 8) (k' := 2) (n' := 15) (B' := b2) (R' := R2) rfl rfl rfl rfl (by decide) (m2 l Z a0 n0 hw _ _ 1 p (p + 6) fb (by omega) (by omega) (by omega) (ho 1 (by decide))) at_392 rfl rfl pd2 rfl (Sh.le rfl) (Sh.le rfl) (Sh.le rfl) (Sh.le rfl) rfl rfl ?_
          rintro _ _ ⟨rfl, rfl⟩
          refine Sh.ifF at_395 (by decide) ?_
          refine Sh.aload at_398 rfl rfl ?_
          refine Sh.iconst at_400 (x := 2) rfl ?_
          refine Sh.iload at_401 rfl ?_
          refine Sh.iload at_403 rfl ?_
          refine Sh.iload at_405 rfl ?_
          refine Sh.callS hw (i1 := 5) (i2 := 6) (i3 := 7) (i4 := 8) (k' := 2) (n' := 15) (B' := b2) (R' := R2) rfl rfl rfl rfl (by decide) (m2 l Z a0 n0 hw _ _ 2 p (p + 6) fb (by omega) (by omega) (by omega) (ho 2 (by decide))) at_407 rfl rfl pd2 rfl (Sh.le rfl) (Sh.le rfl) (Sh.le rfl) (Sh.le rfl) rfl rfl ?_
          rintro _ _ ⟨rfl, rfl⟩
          refine Sh.ifF at_410 (by decide) ?_
          refine Sh.aload at_413 rfl rfl ?_
          refine Sh.iconst at_415 (x := 3) rfl ?_
          refine Sh.iload at_416 rfl ?_
          refine Sh.iload at_418 rfl ?_
          refine Sh.iload at_420 rfl ?_
          refine Sh.callS hw (i1 := 5) (i2 := 6) (i3 := 7) (i4 := 8) (k' := 2) (n' := 15) (B' := b2) (R' := R2) rfl rfl rfl rfl (by decide) (m2 l Z a0 n0 hw _ _ 3 p (p + 6) fb (by omega) (by omega) (by omega) (ho 3 (by decide))) at_422 rfl rfl pd2 rfl (Sh.le rfl) (Sh.le rfl) (Sh.le rfl) (Sh.le rfl) rfl rfl ?_
          rintro _ _ ⟨rfl, rfl⟩
          refine Sh.ifF at_425 (by decide) ?_
          refine Sh.aload at_428 rfl rfl ?_
          refine Sh.iconst at_430 (x := 4) rfl ?_
          refine Sh.iload at_431 rfl ?_
          refine Sh.iload at_433 rfl ?_
          refine Sh.iload at_435 rfl ?_
          refine Sh.callS hw (i1 := 5) (i2 := 6) (i3 := 7) (i4 := 8) (k' := 2) (n' := 15) (B' := b2) (R' := R2) rfl rfl rfl rfl (by decide) (m2 l Z a0 n0 hw _ _ 4 p (p + 6) fb (by omega) (by omega) (by omega) (ho 4 (by decide))) at_437 rfl rfl pd2 rfl (Sh.le rfl) (Sh.le rfl) (Sh.le rfl) (Sh.le rfl) rfl rfl ?_
          rintro _ _ ⟨rfl, rfl⟩
          refine Sh.ifF at_440 (by decide) ?_
          refine Sh.aload at_443 rfl rfl ?_
          refine Sh.iconst at_445 (x := 5) rfl ?_
          refine Sh.iload at_446 rfl ?_
          refine Sh.iload at_448 rfl ?_
          refine Sh.iload at_450 rfl ?_
          refine Sh.callS hw (i1 := 5) (i2 := 6) (i3 := 7) (i4 := 8) (k' := 2) (n' := 15) (B' := b2) (R' := R2) rfl rfl rfl rfl (by decide) (m2 l Z a0 n0 hw _ _ 5 p (p + 6) fb (by omega) (by omega) (by omega) (ho 5 (by decide))) at_452 rfl rfl pd2 rfl (Sh.le rfl) (Sh.le rfl) (Sh.le rfl) (Sh.le rfl) rfl rfl ?_
          rintro _ _ ⟨rfl, rfl⟩
          refine Sh.ifF at_455 (by decide) ?_
          refine Sh.aload at_458 rfl rfl ?_
          refine Sh.bipush at_460 (x := 6) rfl ?_
          refine Sh.iload at_462 rfl ?_
          refine Sh.iload at_464 rfl ?_
          refine Sh.iload at_466 rfl ?_
          refine Sh.callS hw (i1 := 5) (i2 := 6) (i3 := 7) (i4 := 8) (k' := 2) (n' := 15) (B' := b2) (R' := R2) rfl rfl rfl rfl (by decide) (m2 l Z a0 n0 hw _ _ 6 p (p + 6) fb (by omega) (by omega) (by omega) (ho 6 (by decide))) at_468 rfl rfl pd2 rfl (Sh.le rfl) (Sh.le rfl) (Sh.le rfl) (Sh.le rfl) rfl rfl ?_
          rintro _ _ ⟨rfl, rfl⟩
          refine Sh.ifF at_471 (by decide) ?_
          refine Sh.aload at_474 rfl rfl ?_
          refine Sh.bipush at_476 (x := 7) rfl ?_
          refine Sh.iload at_478 rfl ?_
          refine Sh.iload at_480 rfl ?_
          refine Sh.iload at_482 rfl ?_
          refine Sh.callS hw (i1 := 5) (i2 := 6) (i3 := 7) (i4 := 8) (k' := 2) (n' := 15) (B' := b2) (R' := R2) rfl rfl rfl rfl (by decide) (m2 l Z a0 n0 hw _ _ 7 p (p + 6) fb (by omega) (by omega) (by omega) (ho 7 (by decide))) at_484 rfl rfl pd2 rfl (Sh.le rfl) (Sh.le rfl) (Sh.le rfl) (Sh.le rfl) rfl rfl ?_
          rintro _ _ ⟨rfl, rfl⟩
          refine Sh.ifF at_487 (by decide) ?_
          refine Sh.aload at_490 rfl rfl ?_
          refine Sh.bipush at_492 (x := 8) rfl ?_
          refine Sh.iload at_494 rfl ?_
          refine Sh.iload at_496 rfl ?_
          refine Sh.iload at_498 rfl ?_
          refine Sh.callS hw (i1 := 5) (i2 := 6) (i3 := 7) (i4 := 8) (k' := 2) (n' := 15) (B' := b2) (R' := R2) rfl rfl rfl rfl (by decide) (m2 l Z a0 n0 hw _ _ 8 p (p + 6) fb (by omega) (by omega) (by omega) (ho 8 (by decide))) at_500 rfl rfl pd2 rfl (Sh.le rfl) (Sh.le rfl) (Sh.le rfl) (Sh.le rfl) rfl rfl ?_
          rintro _ _ ⟨rfl, rfl⟩
          refine Sh.ifF at_503 (by decide) ?_
          refine Sh.aload at_506 rfl rfl ?_
          refine Sh.bipush at_508 (x := 9) rfl ?_
          refine Sh.iload at_510 rfl ?_
          refine Sh.iload at_512 rfl ?_
          refine Sh.iload at_514 rfl ?_
          refine Sh.callS hw (i1 := 5) (i2 := 6) (i3 := 7) (i4 := 8) (k' := 2) (n' := 15) (B' := b2) (R' := R2) rfl rfl rfl rfl (by decide) (m2 l Z a0 n0 hw _ _ 9 p (p + 6) fb (by omega) (by omega) (by omega) (ho 9 (by decide))) at_516 rfl rfl pd2 rfl (Sh.le rfl) (Sh.le rfl) (Sh.le rfl) (Sh.le rfl) rfl rfl ?_
          rintro _ _ ⟨rfl, rfl⟩
          refine Sh.ifF at_519 (by decide) ?_
          refine Sh.aload at_522 rfl rfl ?_
          refine Sh.bipush at_524 (x := 10) rfl ?_
          refine Sh.iload at_526 rfl ?_
          refine Sh.iload at_528 rfl ?_
          refine Sh.iload at_530 rfl ?_
          refine Sh.callS hw (i1 := 5) (i2 := 6) (i3 := 7) (i4 := 8) (k' := 2) (n' := 15) (B' := b2) (R' := R2) rfl rfl rfl rfl (by decide) (m2 l Z a0 n0 hw _ _ 10 p (p + 6) fb (by omega) (by omega) (by omega) (ho 10 (by decide))) at_532 rfl rfl pd2 rfl (Sh.le rfl) (Sh.le rfl) (Sh.le rfl) (Sh.le rfl) rfl rfl ?_
          rintro _ _ ⟨rfl, rfl⟩
          refine Sh.ifF at_535 (by decide) ?_
          refine Sh.aload at_538 rfl rfl ?_
          refine Sh.bipush at_540 (x := 11) rfl ?_
          refine Sh.iload at_542 rfl ?_
          refine Sh.iload at_544 rfl ?_
          refine Sh.iload at_546 rfl ?_
          refine Sh.callS hw (i1 := 5) (i2 := 6) (i3 := 7) (i4 := 8) (k' := 2) (n' := 15) (B' := b2) (R' := R2) rfl rfl rfl rfl (by decide) (m2 l Z a0 n0 hw _ _ 11 p (p + 6) fb (by omega) (by omega) (by omega) (ho 11 (by decide))) at_548 rfl rfl pd2 rfl (Sh.le rfl) (Sh.le rfl) (Sh.le rfl) (Sh.le rfl) rfl rfl ?_
          rintro _ _ ⟨rfl, rfl⟩
          refine Sh.ifF at_551 (by decide) ?_
          refine Sh.iconst at_554 (x := 1) rfl ?_
          refine Sh.goto at_555 (pc' := 559) rfl (by decide) ?_
          refine Sh.istore at_559 (Sh.s1_16 rfl rfl) ?_
          refine Sh.iload at_561 rfl ?_
          refine Sh.retN at_563 rfl (by simp) rfl (Sh.le rfl) (Sh.le rfl) ?_
          rfl
    · skip
      rcases Decidable.em (x1 = 0) with rfl | h1
      · skip
        rcases Decidable.em (x2 = 0) with rfl | h2
        · skip
          have hes : own_enc [x0, 0, 0] = [x0, 0, -1, 0, -1, 0, 1] := by simp [own_enc, h0]
          have hi := fun j e h => own_in [x0, 0, -1, 0, -1, 0, 1] K p j e h (by rw [hl]; simp; omega)
          have ho : ∀ i, i < 12 → i < p ∨ p + 7 ≤ i → (own_wr K p [x0, 0, -1, 0, -1, 0, 1])[i]? = some (.int fb) := fun i h q => by rw [own_out _ _ _ _ (by simpa using q)]; exact hg i h
          have hl2 : (own_wr K p [x0, 0, -1, 0, -1, 0, 1]).length = 12 := by rw [own_len, hl]
          refine Sh.aload at_170 rfl rfl ?_
          refine Sh.iload at_172 rfl ?_
          refine Sh.aload at_174 rfl rfl ?_
          refine Sh.callS hw (i1 := 1) (i2 := 2) (i3 := 3) (i4 := 4) (k' := 2) (n' := 15) (B' := b1) (R' := R1) rfl rfl rfl rfl (by decide) (m1 l Z a0 n0 hw [x0, 0, 0] [x0, 0, -1, 0, -1, 0, 1] _ K p (p + 7) rfl hbs (Sh.le rfl) hes rfl (by rw [hl]; omega) (by rw [hl]; decide)) at_176 rfl rfl pd1 rfl (Sh.le rfl) (Sh.le rfl) (Sh.le rfl) (Sh.le rfl) rfl rfl ?_
          rintro _ _ ⟨rfl, rfl⟩
          refine Sh.istore at_179 (Sh.s1_14 rfl rfl) ?_
          refine Sh.iload at_181 rfl ?_
          refine Sh.istore at_183 (Sh.s1_15 rfl rfl) ?_
          refine Sh.iconst at_185 (x := 1) rfl ?_
          refine Sh.istore at_186 (Sh.s1_16 rfl rfl) ?_
          refine Sh.iload at_188 rfl ?_
          refine Sh.iconst at_190 (x := 1) rfl ?_
          refine Sh.icmpF at_191 (by decide) ?_
          refine Sh.iload at_194 rfl ?_
          refine Sh.ifF at_196 (by decide) ?_
          refine Sh.aload at_199 rfl rfl ?_
          refine Sh.iload at_201 rfl ?_
          refine Sh.iload at_203 rfl ?_
          refine Sh.callS hw (i1 := 9) (i2 := 10) (i3 := 7) (i4 := 11) (k' := 2) (n' := 15) (B' := b3) (R' := R3) rfl rfl rfl rfl (by decide) (m3 l Z a0 n0 hw _ _ (p + 0) x0 (by omega) (hi 0 x0 rfl) (fun q => absurd q h0)) at_205 rfl rfl pd3 rfl (Sh.le rfl) (Sh.le rfl) (Sh.le rfl) (Sh.le rfl) rfl rfl ?_
          rintro _ _ ⟨rfl, rfl⟩
          refine Sh.ifF at_208 (by decide) ?_
          refine Sh.iconst at_211 (x := 1) rfl ?_
          refine Sh.goto at_212 (pc' := 216) rfl (by decide) ?_
          refine Sh.istore at_216 (Sh.s1_16 rfl rfl) ?_
          refine Sh.iload at_218 rfl ?_
          refine Sh.iload at_220 rfl ?_
          refine Sh.ifT at_222 (pc' := 229) rfl (by decide) h0 ?_
          refine Sh.iconst at_229 (x := 1) rfl ?_
          refine Sh.iaddE at_230 (Sh.onAdd _ 1) ?_
          refine Sh.istore at_231 (Sh.s1_15 rfl rfl) ?_
          refine Sh.iload at_233 rfl ?_
          refine Sh.iconst at_235 (x := 2) rfl ?_
          refine Sh.icmpF at_236 (by decide) ?_
          refine Sh.iload at_239 rfl ?_
          refine Sh.ifF at_241 (by decide) ?_
          refine Sh.aload at_244 rfl rfl ?_
          refine Sh.iload at_246 rfl ?_
          refine Sh.iload at_248 rfl ?_
          refine Sh.callS hw (i1 := 9) (i2 := 10) (i3 := 7) (i4 := 11) (k' := 2) (n' := 15) (B' := b3) (R' := R3) rfl rfl rfl rfl (by decide) (m3 l Z a0 n0 hw _ _ (p + 1) 0 (by omega) (hi 1 0 rfl) (fun _ => hi 2 (-1) rfl)) at_250 rfl rfl pd3 rfl (Sh.le rfl) (Sh.le rfl) (Sh.le rfl) (Sh.le rfl) rfl rfl ?_
          rintro _ _ ⟨rfl, rfl⟩
          refine Sh.ifF at_253 (by decide) ?_
          refine Sh.iconst at_256 (x := 1) rfl ?_
          refine Sh.goto at_257 (pc' := 261) rfl (by decide) ?_
          refine Sh.istore at_261 (Sh.s1_16 rfl rfl) ?_
          refine Sh.iload at_263 rfl ?_
          refine Sh.iload at_265 rfl ?_
          refine Sh.ifF at_267 (by decide) ?_
          refine Sh.iconst at_270 (x := 2) rfl ?_
          refine Sh.goto at_271 (pc' := 275) rfl (by decide) ?_
          refine Sh.iaddE at_275 (Sh.onAdd _ 2) ?_
          refine Sh.istore at_276 (Sh.s1_15 rfl rfl) ?_
          refine Sh.iload at_278 rfl ?_
          refine Sh.iconst at_280 (x := 3) rfl ?_
          refine Sh.icmpF at_281 (by decide) ?_
          refine Sh.iload at_284 rfl ?_
          refine Sh.ifF at_286 (by decide) ?_
          refine Sh.aload at_289 rfl rfl ?_
          refine Sh.iload at_291 rfl ?_
          refine Sh.iload at_293 rfl ?_
          refine Sh.callS hw (i1 := 9) (i2 := 10) (i3 := 7) (i4 := 11) (k' := 2) (n' := 15) (B' := b3) (R' := R3) rfl rfl rfl rfl (by decide) (m3 l Z a0 n0 hw _ _ (p + 3) 0 (by omega) (hi 3 0 rfl) (fun _ => hi 4 (-1) rfl)) at_295 rfl rfl pd3 rfl (Sh.le rfl) (Sh.le rfl) (Sh.le rfl) (Sh.le rfl) rfl rfl ?_
          rintro _ _ ⟨rfl, rfl⟩
          refine Sh.ifF at_298 (by decide) ?_
          refine Sh.iconst at_301 (x := 1) rfl ?_
          refine Sh.goto at_302 (pc' := 306) rfl (by decide) ?_
          refine Sh.istore at_306 (Sh.s1_16 rfl rfl) ?_
          refine Sh.iload at_308 rfl ?_
          refine Sh.iload at_310 rfl ?_
          refine Sh.ifF at_312 (by decide) ?_
          refine Sh.iconst at_315 (x := 2) rfl ?_
          refine Sh.goto at_316 (pc' := 320) rfl (by decide) ?_
          refine Sh.iaddE at_320 (Sh.onAdd _ 2) ?_
          refine Sh.istore at_321 (Sh.s1_15 rfl rfl) ?_
          refine Sh.iload at_323 rfl ?_
          refine Sh.ifF at_325 (by decide) ?_
          refine Sh.aload at_328 rfl rfl ?_
          refine Sh.iload at_330 rfl ?_
          refine Sh.baload at_332 rfl (Sh.onNN (by omega)) (Sh.onCl (by omega)) (hi 5 0 rfl) ?_
          refine Sh.ifF at_333 (by decide) ?_
          refine Sh.aload at_336 rfl rfl ?_
          refine Sh.iload at_338 rfl ?_
          refine Sh.iconst at_340 (x := 1) rfl ?_
          refine Sh.iaddE at_341 (Sh.onAdd _ 1) ?_
          refine Sh.baload at_342 rfl (Sh.onNN (by omega)) (Sh.onCl (by omega)) (hi 6 1 rfl) ?_
          refine Sh.iconst at_343 (x := 1) rfl ?_
          refine Sh.icmpF at_344 (by decide) ?_
          refine Sh.iload at_347 rfl ?_
          refine Sh.iload at_349 rfl ?_
          refine Sh.iconst at_351 (x := 2) rfl ?_
          refine Sh.iaddE at_352 (Sh.onAdd _ 2) ?_
          refine Sh.icmpF at_353 (fun q => q rfl) ?_
          refine Sh.iconst at_356 (x := 1) rfl ?_
          refine Sh.goto at_357 (pc' := 361) rfl (by decide) ?_
          refine Sh.istore at_361 (Sh.s1_16 rfl rfl) ?_
          refine Sh.iload at_363 rfl ?_
          refine Sh.ifF at_365 (by decide) ?_
          refine Sh.aload at_368 rfl rfl ?_
          refine Sh.iconst at_370 (x := 0) rfl ?_
          refine Sh.iload at_371 rfl ?_
          refine Sh.iload at_373 rfl ?_
          refine Sh.iload at_375 rfl ?_
          refine Sh.callS hw (i1 := 5) (i2 := 6) (i3 := 7) (i4 := 8) (k' := 2) (n' := 15) (B' := b2) (R' := R2) rfl rfl rfl rfl (by decide) (m2 l Z a0 n0 hw _ _ 0 p (p + 7) fb (by omega) (by omega) (by omega) (ho 0 (by decide))) at_377 rfl rfl pd2 rfl (Sh.le rfl) (Sh.le rfl) (Sh.le rfl) (Sh.le rfl) rfl rfl ?_
          rintro _ _ ⟨rfl, rfl⟩
          refine Sh.ifF at_380 (by decide) ?_
          refine Sh.aload at_383 rfl rfl ?_
          refine Sh.iconst at_385 (x := 1) rfl ?_
          refine Sh.iload at_386 rfl ?_
          refine Sh.iload at_388 rfl ?_
          refine Sh.iload at_390 rfl ?_
          refine Sh.callS hw (i1 := 5) (i2 := 6) (i3 := 7) (i4 := 8) (k' := 2) (n' := 15) (B' := b2) (R' := R2) rfl rfl rfl rfl (by decide) (m2 l Z a0 n0 hw _ _ 1 p (p + 7) fb (by omega) (by omega) (by omega) (ho 1 (by decide))) at_392 rfl rfl pd2 rfl (Sh.le rfl) (Sh.le rfl) (Sh.le rfl) (Sh.le rfl) rfl rfl ?_
          rintro _ _ ⟨rfl, rfl⟩
          refine Sh.ifF at_395 (by decide) ?_
          refine Sh.aload at_398 rfl rfl ?_
          refine Sh.iconst at_400 (x := 2) rfl ?_
          refine Sh.iload at_401 rfl ?_
          refine Sh.iload at_403 rfl ?_
          refine Sh.iload at_405 rfl ?_
          refine Sh.callS hw (i1 := 5) (i2 := 6) (i3 := 7) (i4 := 8) (k' := 2) (n' := 15) (B' := b2) (R' := R2) rfl rfl rfl rfl (by decide) (m2 l Z a0 n0 hw _ _ 2 p (p + 7) fb (by omega) (by omega) (by omega) (ho 2 (by decide))) at_407 rfl rfl pd2 rfl (Sh.le rfl) (Sh.le rfl) (Sh.le rfl) (Sh.le rfl) rfl rfl ?_
          rintro _ _ ⟨rfl, rfl⟩
          refine Sh.ifF at_410 (by decide) ?_
          refine Sh.aload at_413 rfl rfl ?_
          refine Sh.iconst at_415 (x := 3) rfl ?_
          refine Sh.iload at_416 rfl ?_
          refine Sh.iload at_418 rfl ?_
          refine Sh.iload at_420 rfl ?_
          refine Sh.callS hw (i1 := 5) (i2 := 6) (i3 := 7) (i4 := 8) (k' := 2) (n' := 15) (B' := b2) (R' := R2) rfl rfl rfl rfl (by decide) (m2 l Z a0 n0 hw _ _ 3 p (p + 7) fb (by omega) (by omega) (by omega) (ho 3 (by decide))) at_422 rfl rfl pd2 rfl (Sh.le rfl) (Sh.le rfl) (Sh.le rfl) (Sh.le rfl) rfl rfl ?_
          rintro _ _ ⟨rfl, rfl⟩
          refine Sh.ifF at_425 (by decide) ?_
          refine Sh.aload at_428 rfl rfl ?_
          refine Sh.iconst at_430 (x := 4) rfl ?_
          refine Sh.iload at_431 rfl ?_
          refine Sh.iload at_433 rfl ?_
          refine Sh.iload at_435 rfl ?_
          refine Sh.callS hw (i1 := 5) (i2 := 6) (i3 := 7) (i4 := 8) (k' := 2) (n' := 15) (B' := b2) (R' := R2) rfl rfl rfl rfl (by decide) (m2 l Z a0 n0 hw _ _ 4 p (p + 7) fb (by omega) (by omega) (by omega) (ho 4 (by decide))) at_437 rfl rfl pd2 rfl (Sh.le rfl) (Sh.le rfl) (Sh.le rfl) (Sh.le rfl) rfl rfl ?_
          rintro _ _ ⟨rfl, rfl⟩
          refine Sh.ifF at_440 (by decide) ?_
          refine Sh.aload at_443 rfl rfl ?_
          refine Sh.iconst at_445 (x := 5) rfl ?_
          refine Sh.iload at_446 rfl ?_
          refine Sh.iload at_448 rfl ?_
          refine Sh.iload at_450 rfl ?_
          refine Sh.callS hw (i1 := 5) (i2 := 6) (i3 := 7) (i4 := 8) (k' := 2) (n' := 15) (B' := b2) (R' := R2) rfl rfl rfl rfl (by decide) (m2 l Z a0 n0 hw _ _ 5 p (p + 7) fb (by omega) (by omega) (by omega) (ho 5 (by decide))) at_452 rfl rfl pd2 rfl (Sh.le rfl) (Sh.le rfl) (Sh.le rfl) (Sh.le rfl) rfl rfl ?_
          rintro _ _ ⟨rfl, rfl⟩
          refine Sh.ifF at_455 (by decide) ?_
          refine Sh.aload at_458 rfl rfl ?_
          refine Sh.bipush at_460 (x := 6) rfl ?_
          refine Sh.iload at_462 rfl ?_
          refine Sh.iload at_464 rfl ?_
          refine Sh.iload at_466 rfl ?_
          refine Sh.callS hw (i1 := 5) (i2 := 6) (i3 := 7) (i4 := 8) (k' := 2) (n' := 15) (B' := b2) (R' := R2) rfl rfl rfl rfl (by decide) (m2 l Z a0 n0 hw _ _ 6 p (p + 7) fb (by omega) (by omega) (by omega) (ho 6 (by decide))) at_468 rfl rfl pd2 rfl (Sh.le rfl) (Sh.le rfl) (Sh.le rfl) (Sh.le rfl) rfl rfl ?_
          rintro _ _ ⟨rfl, rfl⟩
          refine Sh.ifF at_471 (by decide) ?_
          refine Sh.aload at_474 rfl rfl ?_
          refine Sh.bipush at_476 (x := 7) rfl ?_
          refine Sh.iload at_478 rfl ?_
          refine Sh.iload at_480 rfl ?_
          refine Sh.iload at_482 rfl ?_
          refine Sh.callS hw (i1 := 5) (i2 := 6) (i3 := 7) (i4 := 8) (k' := 2) (n' := 15) (B' := b2) (R' := R2) rfl rfl rfl rfl (by decide) (m2 l Z a0 n0 hw _ _ 7 p (p + 7) fb (by omega) (by omega) (by omega) (ho 7 (by decide))) at_484 rfl rfl pd2 rfl (Sh.le rfl) (Sh.le rfl) (Sh.le rfl) (Sh.le rfl) rfl rfl ?_
          rintro _ _ ⟨rfl, rfl⟩
          refine Sh.ifF at_487 (by decide) ?_
          refine Sh.aload at_490 rfl rfl ?_
          refine Sh.bipush at_492 (x := 8) rfl ?_
          refine Sh.iload at_494 rfl ?_
          refine Sh.iload at_496 rfl ?_
          refine Sh.iload at_498 rfl ?_
          refine Sh.callS hw (i1 := 5) (i2 := 6) (i3 := 7) (i4 := 8) (k' := 2) (n' := 15) (B' := b2) (R' := R2) rfl rfl rfl rfl (by decide) (m2 l Z a0 n0 hw _ _ 8 p (p + 7) fb (by omega) (by omega) (by omega) (ho 8 (by decide))) at_500 rfl rfl pd2 rfl (Sh.le rfl) (Sh.le rfl) (Sh.le rfl) (Sh.le rfl) rfl rfl ?_
          rintro _ _ ⟨rfl, rfl⟩
          refine Sh.ifF at_503 (by decide) ?_
          refine Sh.aload at_506 rfl rfl ?_
          refine Sh.bipush at_508 (x := 9) rfl ?_
          refine Sh.iload at_510 rfl ?_
          refine Sh.iload at_512 rfl ?_
          refine Sh.iload at_514 rfl ?_
          refine Sh.callS hw (i1 := 5) (i2 := 6) (i3 := 7) (i4 := 8) (k' := 2) (n' := 15) (B' := b2) (R' := R2) rfl rfl rfl rfl (by decide) (m2 l Z a0 n0 hw _ _ 9 p (p + 7) fb (by omega) (by omega) (by omega) (ho 9 (by decide))) at_516 rfl rfl pd2 rfl (Sh.le rfl) (Sh.le rfl) (Sh.le rfl) (Sh.le rfl) rfl rfl ?_
          rintro _ _ ⟨rfl, rfl⟩
          refine Sh.ifF at_519 (by decide) ?_
          refine Sh.aload at_522 rfl rfl ?_
          refine Sh.bipush at_524 (x := 10) rfl ?_
          refine Sh.iload at_526 rfl ?_
          refine Sh.iload at_528 rfl ?_
          refine Sh.iload at_530 rfl ?_
          refine Sh.callS hw (i1 := 5) (i2 := 6) (i3 := 7) (i4 := 8) (k' := 2) (n' := 15) (B' := b2) (R' := R2) rfl rfl rfl rfl (by decide) (m2 l Z a0 n0 hw _ _ 10 p (p + 7) fb (by omega) (by omega) (by omega) (ho 10 (by decide))) at_532 rfl rfl pd2 rfl (Sh.le rfl) (Sh.le rfl) (Sh.le rfl) (Sh.le rfl) rfl rfl ?_
          rintro _ _ ⟨rfl, rfl⟩
          refine Sh.ifF at_535 (by decide) ?_
          refine Sh.aload at_538 rfl rfl ?_
          refine Sh.bipush at_540 (x := 11) rfl ?_
          refine Sh.iload at_542 rfl ?_
          refine Sh.iload at_544 rfl ?_
          refine Sh.iload at_546 rfl ?_
          refine Sh.callS hw (i1 := 5) (i2 := 6) (i3 := 7) (i4 := 8) (k' := 2) (n' := 15) (B' := b2) (R' := R2) rfl rfl rfl rfl (by decide) (m2 l Z a0 n0 hw _ _ 11 p (p + 7) fb (by omega) (by omega) (by omega) (ho 11 (by decide))) at_548 rfl rfl pd2 rfl (Sh.le rfl) (Sh.le rfl) (Sh.le rfl) (Sh.le rfl) rfl rfl ?_
          rintro _ _ ⟨rfl, rfl⟩
          refine Sh.ifF at_551 (by decide) ?_
          refine Sh.iconst at_554 (x := 1) rfl ?_
          refine Sh.goto at_555 (pc' := 559) rfl (by decide) ?_
          refine Sh.istore at_559 (Sh.s1_16 rfl rfl) ?_
          refine Sh.iload at_561 rfl ?_
          refine Sh.retN at_563 rfl (by simp) rfl (Sh.le rfl) (Sh.le rfl) ?_
          rfl
        · skip
          have hes : own_enc [x0, 0, x2] = [x0, 0, -1, x2, 0, 1] := by simp [own_enc, h0, h2]
          have hi := fun j e h => own_in [x0, 0, -1, x2, 0, 1] K p j e h (by rw [hl]; simp; omega)
          have ho : ∀ i, i < 12 → i < p ∨ p + 6 ≤ i → (own_wr K p [x0, 0, -1, x2, 0, 1])[i]? = some (.int fb) := fun i h q => by rw [own_out _ _ _ _ (by simpa using q)]; exact hg i h
          have hl2 : (own_wr K p [x0, 0, -1, x2, 0, 1]).length = 12 := by rw [own_len, hl]
          refine Sh.aload at_170 rfl rfl ?_
          refine Sh.iload at_172 rfl ?_
          refine Sh.aload at_174 rfl rfl ?_
          refine Sh.callS hw (i1 := 1) (i2 := 2) (i3 := 3) (i4 := 4) (k' := 2) (n' := 15) (B' := b1) (R' := R1) rfl rfl rfl rfl (by decide) (m1 l Z a0 n0 hw [x0, 0, x2] [x0, 0, -1, x2, 0, 1] _ K p (p + 6) rfl hbs (Sh.le rfl) hes rfl (by rw [hl]; omega) (by rw [hl]; decide)) at_176 rfl rfl pd1 rfl (Sh.le rfl) (Sh.le rfl) (Sh.le rfl) (Sh.le rfl) rfl rfl ?_
          rintro _ _ ⟨rfl, rfl⟩
          refine Sh.istore at_179 (Sh.s1_14 rfl rfl) ?_
          refine Sh.iload at_181 rfl ?_
          refine Sh.istore at_183 (Sh.s1_15 rfl rfl) ?_
          refine Sh.iconst at_185 (x := 1) rfl ?_
          refine Sh.istore at_186 (Sh.s1_16 rfl rfl) ?_
          refine Sh.iload at_188 rfl ?_
          refine Sh.iconst at_190 (x := 1) rfl ?_
          refine Sh.icmpF at_191 (by decide) ?_
          refine Sh.iload at_194 rfl ?_
          refine Sh.ifF at_196 (by decide) ?_
          refine Sh.aload at_199 rfl rfl ?_
          refine Sh.iload at_201 rfl ?_
          refine Sh.iload at_203 rfl ?_
          refine Sh.callS hw (i1 := 9) (i2 := 10) (i3 := 7) (i4 := 11) (k' := 2) (n' := 15) (B' := b3) (R' := R3) rfl rfl rfl rfl (by decide) (m3 l Z a0 n0 hw _ _ (p + 0) x0 (by omega) (hi 0 x0 rfl) (fun q => absurd q h0)) at_205 rfl rfl pd3 rfl (Sh.le rfl) (Sh.le rfl) (Sh.le rfl) (Sh.le rfl) rfl rfl ?_
          rintro _ _ ⟨rfl, rfl⟩
          refine Sh.ifF at_208 (by decide) ?_
          refine Sh.iconst at_211 (x := 1) rfl ?_
          refine Sh.goto at_212 (pc' := 216) rfl (by decide) ?_
          refine Sh.istore at_216 (Sh.s1_16 rfl rfl) ?_
          refine Sh.iload at_218 rfl ?_
          refine Sh.iload at_220 rfl ?_
          refine Sh.ifT at_222 (pc' := 229) rfl (by decide) h0 ?_
          refine Sh.iconst at_229 (x := 1) rfl ?_
          refine Sh.iaddE at_230 (Sh.onAdd _ 1) ?_
          refine Sh.istore at_231 (Sh.s1_15 rfl rfl) ?_
          refine Sh.iload at_233 rfl ?_
          refine Sh.iconst at_235 (x := 2) rfl ?_
          refine Sh.icmpF at_236 (by decide) ?_
          refine Sh.iload at_239 rfl ?_
          refine Sh.ifF at_241 (by decide) ?_
          refine Sh.aload at_244 rfl rfl ?_
          refine Sh.iload at_246 rfl ?_
          refine Sh.iload at_248 rfl ?_
          refine Sh.callS hw (i1 := 9) (i2 := 10) (i3 := 7) (i4 := 11) (k' := 2) (n' := 15) (B' := b3) (R' := R3) rfl rfl rfl rfl (by decide) (m3 l Z a0 n0 hw _ _ (p + 1) 0 (by omega) (hi 1 0 rfl) (fun _ => hi 2 (-1) rfl)) at_250 rfl rfl pd3 rfl (Sh.le rfl) (Sh.le rfl) (Sh.le rfl) (Sh.le rfl) rfl rfl ?_
          rintro _ _ ⟨rfl, rfl⟩
          refine Sh.ifF at_253 (by decide) ?_
          refine Sh.iconst at_256 (x := 1) rfl ?_
          refine Sh.goto at_257 (pc' := 261) rfl (by decide) ?_
          refine Sh.istore at_261 (Sh.s1_16 rfl rfl) ?_
          refine Sh.iload at_263 rfl ?_
          refine Sh.iload at_265 rfl ?_
          refine Sh.ifF at_267 (by decide) ?_
          refine Sh.iconst at_270 (x := 2) rfl ?_
          refine Sh.goto at_271 (pc' := 275) rfl (by decide) ?_
          refine Sh.iaddE at_275 (Sh.onAdd _ 2) ?_
          refine Sh.istore at_276 (Sh.s1_15 rfl rfl) ?_
          refine Sh.iload at_278 rfl ?_
          refine Sh.iconst at_280 (x := 3) rfl ?_
          refine Sh.icmpF at_281 (by decide) ?_
          refine Sh.iload at_284 rfl ?_
          refine Sh.ifF at_286 (by decide) ?_
          refine Sh.aload at_289 rfl rfl ?_
          refine Sh.iload at_291 rfl ?_
          refine Sh.iload at_293 rfl ?_
          refine Sh.callS hw (i1 := 9) (i2 := 10) (i3 := 7) (i4 := 11) (k' := 2) (n' := 15) (B' := b3) (R' := R3) rfl rfl rfl rfl (by decide) (m3 l Z a0 n0 hw _ _ (p + 3) x2 (by omega) (hi 3 x2 rfl) (fun q => absurd q h2)) at_295 rfl rfl pd3 rfl (Sh.le rfl) (Sh.le rfl) (Sh.le rfl) (Sh.le rfl) rfl rfl ?_
          rintro _ _ ⟨rfl, rfl⟩
          refine Sh.ifF at_298 (by decide) ?_
          refine Sh.iconst at_301 (x := 1) rfl ?_
          refine Sh.goto at_302 (pc' := 306) rfl (by decide) ?_
          refine Sh.istore at_306 (Sh.s1_16 rfl rfl) ?_
          refine Sh.iload at_308 rfl ?_
          refine Sh.iload at_310 rfl ?_
          refine Sh.ifT at_312 (pc' := 319) rfl (by decide) h2 ?_
          refine Sh.iconst at_319 (x := 1) rfl ?_
          refine Sh.iaddE at_320 (Sh.onAdd _ 1) ?_
          refine Sh.istore at_321 (Sh.s1_15 rfl rfl) ?_
          refine Sh.iload at_323 rfl ?_
          refine Sh.ifF at_325 (by decide) ?_
          refine Sh.aload at_328 rfl rfl ?_
          refine Sh.iload at_330 rfl ?_
          refine Sh.baload at_332 rfl (Sh.onNN (by omega)) (Sh.onCl (by omega)) (hi 4 0 rfl) ?_
          refine Sh.ifF at_333 (by decide) ?_
          refine Sh.aload at_336 rfl rfl ?_
          refine Sh.iload at_338 rfl ?_
          refine Sh.iconst at_340 (x := 1) rfl ?_
          refine Sh.iaddE at_341 (Sh.onAdd _ 1) ?_
          refine Sh.baload at_342 rfl (Sh.onNN (by omega)) (Sh.onCl (by omega)) (hi 5 1 rfl) ?_
          refine Sh.iconst at_343 (x := 1) rfl ?_
          refine Sh.icmpF at_344 (by decide) ?_
          refine Sh.iload at_347 rfl ?_
          refine Sh.iload at_349 rfl ?_
          refine Sh.iconst at_351 (x := 2) rfl ?_
          refine Sh.iaddE at_352 (Sh.onAdd _ 2) ?_
          refine Sh.icmpF at_353 (fun q => q rfl) ?_
          refine Sh.iconst at_356 (x := 1) rfl ?_
          refine Sh.goto at_357 (pc' := 361) rfl (by decide) ?_
          refine Sh.istore at_361 (Sh.s1_16 rfl rfl) ?_
          refine Sh.iload at_363 rfl ?_
          refine Sh.ifF at_365 (by decide) ?_
          refine Sh.aload at_368 rfl rfl ?_
          refine Sh.iconst at_370 (x := 0) rfl ?_
          refine Sh.iload at_371 rfl ?_
          refine Sh.iload at_373 rfl ?_
          refine Sh.iload at_375 rfl ?_
          refine Sh.callS hw (i1 := 5) (i2 := 6) (i3 := 7) (i4 := 8) (k' := 2) (n' := 15) (B' := b2) (R' := R2) rfl rfl rfl rfl (by decide) (m2 l Z a0 n0 hw _ _ 0 p (p + 6) fb (by omega) (by omega) (by omega) (ho 0 (by decide))) at_377 rfl rfl pd2 rfl (Sh.le rfl) (Sh.le rfl) (Sh.le rfl) (Sh.le rfl) rfl rfl ?_
          rintro _ _ ⟨rfl, rfl⟩
          refine Sh.ifF at_380 (by decide) ?_
          refine Sh.aload at_383 rfl rfl ?_
          refine Sh.iconst at_385 (x := 1) rfl ?_
          refine Sh.iload at_386 rfl ?_
          refine Sh.iload at_388 rfl ?_
          refine Sh.iload at_390 rfl ?_
          refine Sh.callS hw (i1 := 5) (i2 := 6) (i3 := 7) (i4 := 8) (k' := 2) (n' := 15) (B' := b2) (R' := R2) rfl rfl rfl rfl (by decide) (m2 l Z a0 n0 hw _ _ 1 p (p + 6) fb (by omega) (by omega) (by omega) (ho 1 (by decide))) at_392 rfl rfl pd2 rfl (Sh.le rfl) (Sh.le rfl) (Sh.le rfl) (Sh.le rfl) rfl rfl ?_
          rintro _ _ ⟨rfl, rfl⟩
          refine Sh.ifF at_395 (by decide) ?_
          refine Sh.aload at_398 rfl rfl ?_
          refine Sh.iconst at_400 (x := 2) rfl ?_
          refine Sh.iload at_401 rfl ?_
          refine Sh.iload at_403 rfl ?_
          refine Sh.iload at_405 rfl ?_
          refine Sh.callS hw (i1 := 5) (i2 := 6) (i3 := 7) (i4 := 8) (k' := 2) (n' := 15) (B' := b2) (R' := R2) rfl rfl rfl rfl (by decide) (m2 l Z a0 n0 hw _ _ 2 p (p + 6) fb (by omega) (by omega) (by omega) (ho 2 (by decide))) at_407 rfl rfl pd2 rfl (Sh.le rfl) (Sh.le rfl) (Sh.le rfl) (Sh.le rfl) rfl rfl ?_
          rintro _ _ ⟨rfl, rfl⟩
          refine Sh.ifF at_410 (by decide) ?_
          refine Sh.aload at_413 rfl rfl ?_
          refine Sh.iconst at_415 (x := 3) rfl ?_
          refine Sh.iload at_416 rfl ?_
          refine Sh.iload at_418 rfl ?_
          refine Sh.iload at_420 rfl ?_
          refine Sh.callS hw (i1 := 5) (i2 := 6) (i3 := 7) (i4 := 8) (k' := 2) (n' := 15) (B' := b2) (R' := R2) rfl rfl rfl rfl (by decide) (m2 l Z a0 n0 hw _ _ 3 p (p + 6) fb (by omega) (by omega) (by omega) (ho 3 (by decide))) at_422 rfl rfl pd2 rfl (Sh.le rfl) (Sh.le rfl) (Sh.le rfl) (Sh.le rfl) rfl rfl ?_
          rintro _ _ ⟨rfl, rfl⟩
          refine Sh.ifF at_425 (by decide) ?_
          refine Sh.aload at_428 rfl rfl ?_
          refine Sh.iconst at_430 (x := 4) rfl ?_
          refine Sh.iload at_431 rfl ?_
          refine Sh.iload at_433 rfl ?_
          refine Sh.iload at_435 rfl ?_
          refine Sh.callS hw (i1 := 5) (i2 := 6) (i3 := 7) (i4 := 8) (k' := 2) (n' := 15) (B' := b2) (R' := R2) rfl rfl rfl rfl (by decide) (m2 l Z a0 n0 hw _ _ 4 p (p + 6) fb (by omega) (by omega) (by omega) (ho 4 (by decide))) at_437 rfl rfl pd2 rfl (Sh.le rfl) (Sh.le rfl) (Sh.le rfl) (Sh.le rfl) rfl rfl ?_
          rintro _ _ ⟨rfl, rfl⟩
          refine Sh.ifF at_440 (by decide) ?_
          refine Sh.aload at_443 rfl rfl ?_
          refine Sh.iconst at_445 (x := 5) rfl ?_
          refine Sh.iload at_446 rfl ?_
          refine Sh.iload at_448 rfl ?_
          refine Sh.iload at_450 rfl ?_
          refine Sh.callS hw (i1 := 5) (i2 := 6) (i3 := 7) (i4 := 8) (k' := 2) (n' := 15) (B' := b2) (R' := R2) rfl rfl rfl rfl (by decide) (m2 l Z a0 n0 hw _ _ 5 p (p + 6) fb (by omega) (by omega) (by omega) (ho 5 (by decide))) at_452 rfl rfl pd2 rfl (Sh.le rfl) (Sh.le rfl) (Sh.le rfl) (Sh.le rfl) rfl rfl ?_
          rintro _ _ ⟨rfl, rfl⟩
          refine Sh.ifF at_455 (by decide) ?_
          refine Sh.aload at_458 rfl rfl ?_
          refine Sh.bipush at_460 (x := 6) rfl ?_
          refine Sh.iload at_462 rfl ?_
          refine Sh.iload at_464 rfl ?_
          refine Sh.iload at_466 rfl ?_
          refine Sh.callS hw (i1 := 5) (i2 := 6) (i3 := 7) (i4 := 8) (k' := 2) (n' := 15) (B' := b2) (R' := R2) rfl rfl rfl rfl (by decide) (m2 l Z a0 n0 hw _ _ 6 p (p + 6) fb (by omega) (by omega) (by omega) (ho 6 (by decide))) at_468 rfl rfl pd2 rfl (Sh.le rfl) (Sh.le rfl) (Sh.le rfl) (Sh.le rfl) rfl rfl ?_
          rintro _ _ ⟨rfl, rfl⟩
          refine Sh.ifF at_471 (by decide) ?_
          refine Sh.aload at_474 rfl rfl ?_
          refine Sh.bipush at_476 (x := 7) rfl ?_
          refine Sh.iload at_478 rfl ?_
          refine Sh.iload at_480 rfl ?_
          refine Sh.iload at_482 rfl ?_
          refine Sh.callS hw (i1 := 5) (i2 := 6) (i3 := 7) (i4 := 8) (k' := 2) (n' := 15) (B' := b2) (R' := R2) rfl rfl rfl rfl (by decide) (m2 l Z a0 n0 hw _ _ 7 p (p + 6) fb (by omega) (by omega) (by omega) (ho 7 (by decide))) at_484 rfl rfl pd2 rfl (Sh.le rfl) (Sh.le rfl) (Sh.le rfl) (Sh.le rfl) rfl rfl ?_
          rintro _ _ ⟨rfl, rfl⟩
          refine Sh.ifF at_487 (by decide) ?_
          refine Sh.aload at_490 rfl rfl ?_
          refine Sh.bipush at_492 (x := 8) rfl ?_
          refine Sh.iload at_494 rfl ?_
          refine Sh.iload at_496 rfl ?_
          refine Sh.iload at_498 rfl ?_
          refine Sh.callS hw (i1 := 5) (i2 := 6) (i3 := 7) (i4 := 8) (k' := 2) (n' := 15) (B' := b2) (R' := R2) rfl rfl rfl rfl (by decide) (m2 l Z a0 n0 hw _ _ 8 p (p + 6) fb (by omega) (by omega) (by omega) (ho 8 (by decide))) at_500 rfl rfl pd2 rfl (Sh.le rfl) (Sh.le rfl) (Sh.le rfl) (Sh.le rfl) rfl rfl ?_
          rintro _ _ ⟨rfl, rfl⟩
          refine Sh.ifF at_503 (by decide) ?_
          refine Sh.aload at_506 rfl rfl ?_
          refine Sh.bipush at_508 (x := 9) rfl ?_
          refine Sh.iload at_510 rfl ?_
          refine Sh.iload at_512 rfl ?_
          refine Sh.iload at_514 rfl ?_
          refine Sh.callS hw (i1 := 5) (i2 := 6) (i3 := 7) (i4 := 8) (k' := 2) (n' := 15) (B' := b2) (R' := R2) rfl rfl rfl rfl (by decide) (m2 l Z a0 n0 hw _ _ 9 p (p + 6) fb (by omega) (by omega) (by omega) (ho 9 (by decide))) at_516 rfl rfl pd2 rfl (Sh.le rfl) (Sh.le rfl) (Sh.le rfl) (Sh.le rfl) rfl rfl ?_
          rintro _ _ ⟨rfl, rfl⟩
          refine Sh.ifF at_519 (by decide) ?_
          refine Sh.aload at_522 rfl rfl ?_
          refine Sh.bipush at_524 (x := 10) rfl ?_
          refine Sh.iload at_526 rfl ?_
          refine Sh.iload at_528 rfl ?_
          refine Sh.iload at_530 rfl ?_
          refine Sh.callS hw (i1 := 5) (i2 := 6) (i3 := 7) (i4 := 8) (k' := 2) (n' := 15) (B' := b2) (R' := R2) rfl rfl rfl rfl (by decide) (m2 l Z a0 n0 hw _ _ 10 p (p + 6) fb (by omega) (by omega) (by omega) (ho 10 (by decide))) at_532 rfl rfl pd2 rfl (Sh.le rfl) (Sh.le rfl) (Sh.le rfl) (Sh.le rfl) rfl rfl ?_
          rintro _ _ ⟨rfl, rfl⟩
          refine Sh.ifF at_535 (by decide) ?_
          refine Sh.aload at_538 rfl rfl ?_
          refine Sh.bipush at_540 (x := 11) rfl ?_
          refine Sh.iload at_542 rfl ?_
          refine Sh.iload at_544 rfl ?_
          refine Sh.iload at_546 rfl ?_
          refine Sh.callS hw (i1 := 5) (i2 := 6) (i3 := 7) (i4 := 8) (k' := 2) (n' := 15) (B' := b2) (R' := R2) rfl rfl rfl rfl (by decide) (m2 l Z a0 n0 hw _ _ 11 p (p + 6) fb (by omega) (by omega) (by omega) (ho 11 (by decide))) at_548 rfl rfl pd2 rfl (Sh.le rfl) (Sh.le rfl) (Sh.le rfl) (Sh.le rfl) rfl rfl ?_
          rintro _ _ ⟨rfl, rfl⟩
          refine Sh.ifF at_551 (by decide) ?_
          refine Sh.iconst at_554 (x := 1) rfl ?_
          refine Sh.goto at_555 (pc' := 559) rfl (by decide) ?_
          refine Sh.istore at_559 (Sh.s1_16 rfl rfl) ?_
          refine Sh.iload at_561 rfl ?_
          refine Sh.retN at_563 rfl (by simp) rfl (Sh.le rfl) (Sh.le rfl) ?_
          rfl
      · skip
        rcases Decidable.em (x2 = 0) with rfl | h2
        · skip
          have hes : own_enc [x0, x1, 0] = [x0, x1, 0, -1, 0, 1] := by simp [own_enc, h0, h1]
          have hi := fun j e h => own_in [x0, x1, 0, -1, 0, 1] K p j e h (by rw [hl]; simp; omega)
          have ho : ∀ i, i < 12 → i < p ∨ p + 6 ≤ i → (own_wr K p [x0, x1, 0, -1, 0, 1])[i]? = some (.int fb) := fun i h q => by rw [own_out _ _ _ _ (by simpa using q)]; exact hg i h
          have hl2 : (own_wr K p [x0, x1, 0, -1, 0, 1]).length = 12 := by rw [own_len, hl]
          refine Sh.aload at_170 rfl rfl ?_
          refine Sh.iload at_172 rfl ?_
          refine Sh.aload at_174 rfl rfl ?_
          refine Sh.callS hw (i1 := 1) (i2 := 2) (i3 := 3) (i4 := 4) (k' := 2) (n' := 15) (B' := b1) (R' := R1) rfl rfl rfl rfl (by decide) (m1 l Z a0 n0 hw [x0, x1, 0] [x0, x1, 0, -1, 0, 1] _ K p (p + 6) rfl hbs (Sh.le rfl) hes rfl (by rw [hl]; omega) (by rw [hl]; decide)) at_176 rfl rfl pd1 rfl (Sh.le rfl) (Sh.le rfl) (Sh.le rfl) (Sh.le rfl) rfl rfl ?_
          rintro _ _ ⟨rfl, rfl⟩
          refine Sh.istore at_179 (Sh.s1_14 rfl rfl) ?_
          refine Sh.iload at_181 rfl ?_
          refine Sh.istore at_183 (Sh.s1_15 rfl rfl) ?_
          refine Sh.iconst at_185 (x := 1) rfl ?_
          refine Sh.istore at_186 (Sh.s1_16 rfl rfl) ?_
          refine Sh.iload at_188 rfl ?_
          refine Sh.iconst at_190 (x := 1) rfl ?_
          refine Sh.icmpF at_191 (by decide) ?_
          refine Sh.iload at_194 rfl ?_
          refine Sh.ifF at_196 (by decide) ?_
          refine Sh.aload at_199 rfl rfl ?_
          refine Sh.iload at_201 rfl ?_
          refine Sh.iload at_203 rfl ?_
          refine Sh.callS hw (i1 := 9) (i2 := 10) (i3 := 7) (i4 := 11) (k' := 2) (n' := 15) (B' := b3) (R' := R3) rfl rfl rfl rfl (by decide) (m3 l Z a0 n0 hw _ _ (p + 0) x0 (by omega) (hi 0 x0 rfl) (fun q => absurd q h0)) at_205 rfl rfl pd3 rfl (Sh.le rfl) (Sh.le rfl) (Sh.le rfl) (Sh.le rfl) rfl rfl ?_
          rintro _ _ ⟨rfl, rfl⟩
          refine Sh.ifF at_208 (by decide) ?_
          refine Sh.iconst at_211 (x := 1) rfl ?_
          refine Sh.goto at_212 (pc' := 216) rfl (by decide) ?_
          refine Sh.istore at_216 (Sh.s1_16 rfl rfl) ?_
          refine Sh.iload at_218 rfl ?_
          refine Sh.iload at_220 rfl ?_
          refine Sh.ifT at_222 (pc' := 229) rfl (by decide) h0 ?_
          refine Sh.iconst at_229 (x := 1) rfl ?_
          refine Sh.iaddE at_230 (Sh.onAdd _ 1) ?_
          refine Sh.istore at_231 (Sh.s1_15 rfl rfl) ?_
          refine Sh.iload at_233 rfl ?_
          refine Sh.iconst at_235 (x := 2) rfl ?_
          refine Sh.icmpF at_236 (by decide) ?_
          refine Sh.iload at_239 rfl ?_
          refine Sh.ifF at_241 (by decide) ?_
          refine Sh.aload at_244 rfl rfl ?_
          refine Sh.iload at_246 rfl ?_
          refine Sh.iload at_248 rfl ?_
          refine Sh.callS hw (i1 := 9) (i2 := 10) (i3 := 7) (i4 := 11) (k' := 2) (n' := 15) (B' := b3) (R' := R3) rfl rfl rfl rfl (by decide) (m3 l Z a0 n0 hw _ _ (p + 1) x1 (by omega) (hi 1 x1 rfl) (fun q => absurd q h1)) at_250 rfl rfl pd3 rfl (Sh.le rfl) (Sh.le rfl) (Sh.le rfl) (Sh.le rfl) rfl rfl ?_
          rintro _ _ ⟨rfl, rfl⟩
          refine Sh.ifF at_253 (by decide) ?_
          refine Sh.iconst at_256 (x := 1) rfl ?_
          refine Sh.goto at_257 (pc' := 261) rfl (by decide) ?_
          refine Sh.istore at_261 (Sh.s1_16 rfl rfl) ?_
          refine Sh.iload at_263 rfl ?_
          refine Sh.iload at_265 rfl ?_
          refine Sh.ifT at_267 (pc' := 274) rfl (by decide) h1 ?_
          refine Sh.iconst at_274 (x := 1) rfl ?_
          refine Sh.iaddE at_275 (Sh.onAdd _ 1) ?_
          refine Sh.istore at_276 (Sh.s1_15 rfl rfl) ?_
          refine Sh.iload at_278 rfl ?_
          refine Sh.iconst at_280 (x := 3) rfl ?_
          refine Sh.icmpF at_281 (by decide) ?_
          refine Sh.iload at_284 rfl ?_
          refine Sh.ifF at_286 (by decide) ?_
          refine Sh.aload at_289 rfl rfl ?_
          refine Sh.iload at_291 rfl ?_
          refine Sh.iload at_293 rfl ?_
          refine Sh.callS hw (i1 := 9) (i2 := 10) (i3 := 7) (i4 := 11) (k' := 2) (n' := 15) (B' := b3) (R' := R3) rfl rfl rfl rfl (by decide) (m3 l Z a0 n0 hw _ _ (p + 2) 0 (by omega) (hi 2 0 rfl) (fun _ => hi 3 (-1) rfl)) at_295 rfl rfl pd3 rfl (Sh.le rfl) (Sh.le rfl) (Sh.le rfl) (Sh.le rfl) rfl rfl ?_
          rintro _ _ ⟨rfl, rfl⟩
          refine Sh.ifF at_298 (by decide) ?_
          refine Sh.iconst at_301 (x := 1) rfl ?_
          refine Sh.goto at_302 (pc' := 306) rfl (by decide) ?_
          refine Sh.istore at_306 (Sh.s1_16 rfl rfl) ?_
          refine Sh.iload at_308 rfl ?_
          refine Sh.iload at_310 rfl ?_
          refine Sh.ifF at_312 (by decide) ?_
          refine Sh.iconst at_315 (x := 2) rfl ?_
          refine Sh.goto at_316 (pc' := 320) rfl (by decide) ?_
          refine Sh.iaddE at_320 (Sh.onAdd _ 2) ?_
          refine Sh.istore at_321 (Sh.s1_15 rfl rfl) ?_
          refine Sh.iload at_323 rfl ?_
          refine Sh.ifF at_325 (by decide) ?_
          refine Sh.aload at_328 rfl rfl ?_
          refine Sh.iload at_330 rfl ?_
          refine Sh.baload at_332 rfl (Sh.onNN (by omega)) (Sh.onCl (by omega)) (hi 4 0 rfl) ?_
          refine Sh.ifF at_333 (by decide) ?_
          refine Sh.aload at_336 rfl rfl ?_
          refine Sh.iload at_338 rfl ?_
          refine Sh.iconst at_340 (x := 1) rfl ?_
          refine Sh.iaddE at_341 (Sh.onAdd _ 1) ?_
          refine Sh.baload at_342 rfl (Sh.onNN (by omega)) (Sh.onCl (by omega)) (hi 5 1 rfl) ?_
          refine Sh.iconst at_343 (x := 1) rfl ?_
          refine Sh.icmpF at_344 (by decide) ?_
          refine Sh.iload at_347 rfl ?_
          refine Sh.iload at_349 rfl ?_
          refine Sh.iconst at_351 (x := 2) rfl ?_
          refine Sh.iaddE at_352 (Sh.onAdd _ 2) ?_
          refine Sh.icmpF at_353 (fun q => q rfl) ?_
          refine Sh.iconst at_356 (x := 1) rfl ?_
          refine Sh.goto at_357 (pc' := 361) rfl (by decide) ?_
          refine Sh.istore at_361 (Sh.s1_16 rfl rfl) ?_
          refine Sh.iload at_363 rfl ?_
          refine Sh.ifF at_365 (by decide) ?_
          refine Sh.aload at_368 rfl rfl ?_
          refine Sh.iconst at_370 (x := 0) rfl ?_
          refine Sh.iload at_371 rfl ?_
          refine Sh.iload at_373 rfl ?_
          refine Sh.iload at_375 rfl ?_
          refine Sh.callS hw (i1 := 5) (i2 := 6) (i3 := 7) (i4 := 8) (k' := 2) (n' := 15) (B' := b2) (R' := R2) rfl rfl rfl rfl (by decide) (m2 l Z a0 n0 hw _ _ 0 p (p + 6) fb (by omega) (by omega) (by omega) (ho 0 (by decide))) at_377 rfl rfl pd2 rfl (Sh.le rfl) (Sh.le rfl) (Sh.le rfl) (Sh.le rfl) rfl rfl ?_
          rintro _ _ ⟨rfl, rfl⟩
          refine Sh.ifF at_380 (by decide) ?_
          refine Sh.aload at_383 rfl rfl ?_
          refine Sh.iconst at_385 (x := 1) rfl ?_
          refine Sh.iload at_386 rfl ?_
          refine Sh.iload at_388 rfl ?_
          refine Sh.iload at_390 rfl ?_
          refine Sh.callS hw (i1 := 5) (i2 := 6) (i3 := 7) (i4 := 8) (k' := 2) (n' := 15) (B' := b2) (R' := R2) rfl rfl rfl rfl (by decide) (m2 l Z a0 n0 hw _ _ 1 p (p + 6) fb (by omega) (by omega) (by omega) (ho 1 (by decide))) at_392 rfl rfl pd2 rfl (Sh.le rfl) (Sh.le rfl) (Sh.le rfl) (Sh.le rfl) rfl rfl ?_
          rintro _ _ ⟨rfl, rfl⟩
          refine Sh.ifF at_395 (by decide) ?_
          refine Sh.aload at_398 rfl rfl ?_
          refine Sh.iconst at_400 (x := 2) rfl ?_
          refine Sh.iload at_401 rfl ?_
          refine Sh.iload at_403 rfl ?_
          refine Sh.iload at_405 rfl ?_
          refine Sh.callS hw (i1 := 5) (i2 := 6) (i3 := 7) (i4 := 8) (k' := 2) (n' := 15) (B' := b2) (R' := R2) rfl rfl rfl rfl (by decide) (m2 l Z a0 n0 hw _ _ 2 p (p + 6) fb (by omega) (by omega) (by omega) (ho 2 (by decide))) at_407 rfl rfl pd2 rfl (Sh.le rfl) (Sh.le rfl) (Sh.le rfl) (Sh.le rfl) rfl rfl ?_
          rintro _ _ ⟨rfl, rfl⟩
          refine Sh.ifF at_410 (by decide) ?_
          refine Sh.aload at_413 rfl rfl ?_
          refine Sh.iconst at_415 (x := 3) rfl ?_
          refine Sh.iload at_416 rfl ?_
          refine Sh.iload at_418 rfl ?_
          refine Sh.iload at_420 rfl ?_
          refine Sh.callS hw (i1 := 5) (i2 := 6) (i3 := 7) (i4 := 8) (k' := 2) (n' := 15) (B' := b2) (R' := R2) rfl rfl rfl rfl (by decide) (m2 l Z a0 n0 hw _ _ 3 p (p + 6) fb (by omega) (by omega) (by omega) (ho 3 (by decide))) at_422 rfl rfl pd2 rfl (Sh.le rfl) (Sh.le rfl) (Sh.le rfl) (Sh.le rfl) rfl rfl ?_
          rintro _ _ ⟨rfl, rfl⟩
          refine Sh.ifF at_425 (by decide) ?_
          refine Sh.aload at_428 rfl rfl ?_
          refine Sh.iconst at_430 (x := 4) rfl ?_
          refine Sh.iload at_431 rfl ?_
          refine Sh.iload at_433 rfl ?_
          refine Sh.iload at_435 rfl ?_
          refine Sh.callS hw (i1 := 5) (i2 := 6) (i3 := 7) (i4 := 8) (k' := 2) (n' := 15) (B' := b2) (R' := R2) rfl rfl rfl rfl (by decide) (m2 l Z a0 n0 hw _ _ 4 p (p + 6) fb (by omega) (by omega) (by omega) (ho 4 (by decide))) at_437 rfl rfl pd2 rfl (Sh.le rfl) (Sh.le rfl) (Sh.le rfl) (Sh.le rfl) rfl rfl ?_
          rintro _ _ ⟨rfl, rfl⟩
          refine Sh.ifF at_440 (by decide) ?_
          refine Sh.aload at_443 rfl rfl ?_
          refine Sh.iconst at_445 (x := 5) rfl ?_
          refine Sh.iload at_446 rfl ?_
          refine Sh.iload at_448 rfl ?_
          refine Sh.iload at_450 rfl ?_
          refine Sh.callS hw (i1 := 5) (i2 := 6) (i3 := 7) (i4 := 8) (k' := 2) (n' := 15) (B' := b2) (R' := R2) rfl rfl rfl rfl (by decide) (m2 l Z a0 n0 hw _ _ 5 p (p + 6) fb (by omega) (by omega) (by omega) (ho 5 (by decide))) at_452 rfl rfl pd2 rfl (Sh.le rfl) (Sh.le rfl) (Sh.le rfl) (Sh.le rfl) rfl rfl ?_
          rintro _ _ ⟨rfl, rfl⟩
          refine Sh.ifF at_455 (by decide) ?_
          refine Sh.aload at_458 rfl rfl ?_
          refine Sh.bipush at_460 (x := 6) rfl ?_
          refine Sh.iload at_462 rfl ?_
          refine Sh.iload at_464 rfl ?_
          refine Sh.iload at_466 rfl ?_
          refine Sh.callS hw (i1 := 5) (i2 := 6) (i3 := 7) (i4 := 8) (k' := 2) (n' := 15) (B' := b2) (R' := R2) rfl rfl rfl rfl (by decide) (m2 l Z a0 n0 hw _ _ 6 p (p + 6) fb (by omega) (by omega) (by omega) (ho 6 (by decide))) at_468 rfl rfl pd2 rfl (Sh.le rfl) (Sh.le rfl) (Sh.le rfl) (Sh.le rfl) rfl rfl ?_
          rintro _ _ ⟨rfl, rfl⟩
          refine Sh.ifF at_471 (by decide) ?_
          refine Sh.aload at_474 rfl rfl ?_
          refine Sh.bipush at_476 (x := 7) rfl ?_
          refine Sh.iload at_478 rfl ?_
          refine Sh.iload at_480 rfl ?_
          refine Sh.iload at_482 rfl ?_
          refine Sh.callS hw (i1 := 5) (i2 := 6) (i3 := 7) (i4 := 8) (k' := 2) (n' := 15) (B' := b2) (R' := R2) rfl rfl rfl rfl (by decide) (m2 l Z a0 n0 hw _ _ 7 p (p + 6) fb (by omega) (by omega) (by omega) (ho 7 (by decide))) at_484 rfl rfl pd2 rfl (Sh.le rfl) (Sh.le rfl) (Sh.le rfl) (Sh.le rfl) rfl rfl ?_
          rintro _ _ ⟨rfl, rfl⟩
          refine Sh.ifF at_487 (by decide) ?_
          refine Sh.aload at_490 rfl rfl ?_
          refine Sh.bipush at_492 (x := 8) rfl ?_
          refine Sh.iload at_494 rfl ?_
          refine Sh.iload at_496 rfl ?_
          refine Sh.iload at_498 rfl ?_
          refine Sh.callS hw (i1 := 5) (i2 := 6) (i3 := 7) (i4 := 8) (k' := 2) (n' := 15) (B' := b2) (R' := R2) rfl rfl rfl rfl (by decide) (m2 l Z a0 n0 hw _ _ 8 p (p + 6) fb (by omega) (by omega) (by omega) (ho 8 (by decide))) at_500 rfl rfl pd2 rfl (Sh.le rfl) (Sh.le rfl) (Sh.le rfl) (Sh.le rfl) rfl rfl ?_
          rintro _ _ ⟨rfl, rfl⟩
          refine Sh.ifF at_503 (by decide) ?_
          refine Sh.aload at_506 rfl rfl ?_
          refine Sh.bipush at_508 (x := 9) rfl ?_
          refine Sh.iload at_510 rfl ?_
          refine Sh.iload at_512 rfl ?_
          refine Sh.iload at_514 rfl ?_
          refine Sh.callS hw (i1 := 5) (i2 := 6) (i3 := 7) (i4 := 8) (k' := 2) (n' := 15) (B' := b2) (R' := R2) rfl rfl rfl rfl (by decide) (m2 l Z a0 n0 hw _ _ 9 p (p + 6) fb (by omega) (by omega) (by omega) (ho 9 (by decide))) at_516 rfl rfl pd2 rfl (Sh.le rfl) (Sh.le rfl) (Sh.le rfl) (Sh.le rfl) rfl rfl ?_
          rintro _ _ ⟨rfl, rfl⟩
          refine Sh.ifF at_519 (by decide) ?_
          refine Sh.aload at_522 rfl rfl ?_
          refine Sh.bipush at_524 (x := 10) rfl ?_
          refine Sh.iload at_526 rfl ?_
          refine Sh.iload at_528 rfl ?_
          refine Sh.iload at_530 rfl ?_
          refine Sh.callS hw (i1 := 5) (i2 := 6) (i3 := 7) (i4 := 8) (k' := 2) (n' := 15) (B' := b2) (R' := R2) rfl rfl rfl rfl (by decide) (m2 l Z a0 n0 hw _ _ 10 p (p + 6) fb (by omega) (by omega) (by omega) (ho 10 (by decide))) at_532 rfl rfl pd2 rfl (Sh.le rfl) (Sh.le rfl) (Sh.le rfl) (Sh.le rfl) rfl rfl ?_
          rintro _ _ ⟨rfl, rfl⟩
          refine Sh.ifF at_535 (by decide) ?_
          refine Sh.aload at_538 rfl rfl ?_
          refine Sh.bipush at_540 (x := 11) rfl ?_
          refine Sh.iload at_542 rfl ?_
          refine Sh.iload at_544 rfl ?_
          refine Sh.iload at_546 rfl ?_
          refine Sh.callS hw (i1 := 5) (i2 := 6) (i3 := 7) (i4 := 8) (k' := 2) (n' := 15) (B' := b2) (R' := R2) rfl rfl rfl rfl (by decide) (m2 l Z a0 n0 hw _ _ 11 p (p + 6) fb (by omega) (by omega) (by omega) (ho 11 (by decide))) at_548 rfl rfl pd2 rfl (Sh.le rfl) (Sh.le rfl) (Sh.le rfl) (Sh.le rfl) rfl rfl ?_
          rintro _ _ ⟨rfl, rfl⟩
          refine Sh.ifF at_551 (by decide) ?_
          refine Sh.iconst at_554 (x := 1) rfl ?_
          refine Sh.goto at_555 (pc' := 559) rfl (by decide) ?_
          refine Sh.istore at_559 (Sh.s1_16 rfl rfl) ?_
          refine Sh.iload at_561 rfl ?_
          refine Sh.retN at_563 rfl (by simp) rfl (Sh.le rfl) (Sh.le rfl) ?_
          rfl
        · skip
          have hes : own_enc [x0, x1, x2] = [x0, x1, x2, 0, 1] := by simp [own_enc, h0, h1, h2]
          have hi := fun j e h => own_in [x0, x1, x2, 0, 1] K p j e h (by rw [hl]; simp; omega)
          have ho : ∀ i, i < 12 → i < p ∨ p + 5 ≤ i → (own_wr K p [x0, x1, x2, 0, 1])[i]? = some (.int fb) := fun i h q => by rw [own_out _ _ _ _ (by simpa using q)]; exact hg i h
          have hl2 : (own_wr K p [x0, x1, x2, 0, 1]).length = 12 := by rw [own_len, hl]
          refine Sh.aload at_170 rfl rfl ?_
          refine Sh.iload at_172 rfl ?_
          refine Sh.aload at_174 rfl rfl ?_
          refine Sh.callS hw (i1 := 1) (i2 := 2) (i3 := 3) (i4 := 4) (k' := 2) (n' := 15) (B' := b1) (R' := R1) rfl rfl rfl rfl (by decide) (m1 l Z a0 n0 hw [x0, x1, x2] [x0, x1, x2, 0, 1] _ K p (p + 5) rfl hbs (Sh.le rfl) hes rfl (by rw [hl]; omega) (by rw [hl]; decide)) at_176 rfl rfl pd1 rfl (Sh.le rfl) (Sh.le rfl) (Sh.le rfl) (Sh.le rfl) rfl rfl ?_
          rintro _ _ ⟨rfl, rfl⟩
          refine Sh.istore at_179 (Sh.s1_14 rfl rfl) ?_
          refine Sh.iload at_181 rfl ?_
          refine Sh.istore at_183 (Sh.s1_15 rfl rfl) ?_
          refine Sh.iconst at_185 (x := 1) rfl ?_
          refine Sh.istore at_186 (Sh.s1_16 rfl rfl) ?_
          refine Sh.iload at_188 rfl ?_
          refine Sh.iconst at_190 (x := 1) rfl ?_
          refine Sh.icmpF at_191 (by decide) ?_
          refine Sh.iload at_194 rfl ?_
          refine Sh.ifF at_196 (by decide) ?_
          refine Sh.aload at_199 rfl rfl ?_
          refine Sh.iload at_201 rfl ?_
          refine Sh.iload at_203 rfl ?_
          refine Sh.callS hw (i1 := 9) (i2 := 10) (i3 := 7) (i4 := 11) (k' := 2) (n' := 15) (B' := b3) (R' := R3) rfl rfl rfl rfl (by decide) (m3 l Z a0 n0 hw _ _ (p + 0) x0 (by omega) (hi 0 x0 rfl) (fun q => absurd q h0)) at_205 rfl rfl pd3 rfl (Sh.le rfl) (Sh.le rfl) (Sh.le rfl) (Sh.le rfl) rfl rfl ?_
          rintro _ _ ⟨rfl, rfl⟩
          refine Sh.ifF at_208 (by decide) ?_
          refine Sh.iconst at_211 (x := 1) rfl ?_
          refine Sh.goto at_212 (pc' := 216) rfl (by decide) ?_
          refine Sh.istore at_216 (Sh.s1_16 rfl rfl) ?_
          refine Sh.iload at_218 rfl ?_
          refine Sh.iload at_220 rfl ?_
          refine Sh.ifT at_222 (pc' := 229) rfl (by decide) h0 ?_
          refine Sh.iconst at_229 (x := 1) rfl ?_
          refine Sh.iaddE at_230 (Sh.onAdd _ 1) ?_
          refine Sh.istore at_231 (Sh.s1_15 rfl rfl) ?_
          refine Sh.iload at_233 rfl ?_
          refine Sh.iconst at_235 (x := 2) rfl ?_
          refine Sh.icmpF at_236 (by decide) ?_
          refine Sh.iload at_239 rfl ?_
          refine Sh.ifF at_241 (by decide) ?_
          refine Sh.aload at_244 rfl rfl ?_
          refine Sh.iload at_246 rfl ?_
          refine Sh.iload at_248 rfl ?_
          refine Sh.callS hw (i1 := 9) (i2 := 10) (i3 := 7) (i4 := 11) (k' := 2) (n' := 15) (B' := b3) (R' := R3) rfl rfl rfl rfl (by decide) (m3 l Z a0 n0 hw _ _ (p + 1) x1 (by omega) (hi 1 x1 rfl) (fun q => absurd q h1)) at_250 rfl rfl pd3 rfl (Sh.le rfl) (Sh.le rfl) (Sh.le rfl) (Sh.le rfl) rfl rfl ?_
          rintro _ _ ⟨rfl, rfl⟩
          refine Sh.ifF at_253 (by decide) ?_
          refine Sh.iconst at_256 (x := 1) rfl ?_
          refine Sh.goto at_257 (pc' := 261) rfl (by decide) ?_
          refine Sh.istore at_261 (Sh.s1_16 rfl rfl) ?_
          refine Sh.iload at_263 rfl ?_
          refine Sh.iload at_265 rfl ?_
          refine Sh.ifT at_267 (pc' := 274) rfl (by decide) h1 ?_
          refine Sh.iconst at_274 (x := 1) rfl ?_
          refine Sh.iaddE at_275 (Sh.onAdd _ 1) ?_
          refine Sh.istore at_276 (Sh.s1_15 rfl rfl) ?_
          refine Sh.iload at_278 rfl ?_
          refine Sh.iconst at_280 (x := 3) rfl ?_
          refine Sh.icmpF at_281 (by decide) ?_
          refine Sh.iload at_284 rfl ?_
          refine Sh.ifF at_286 (by decide) ?_
          refine Sh.aload at_289 rfl rfl ?_
          refine Sh.iload at_291 rfl ?_
          refine Sh.iload at_293 rfl ?_
          refine Sh.callS hw (i1 := 9) (i2 := 10) (i3 := 7) (i4 := 11) (k' := 2) (n' := 15) (B' := b3) (R' := R3) rfl rfl rfl rfl (by decide) (m3 l Z a0 n0 hw _ _ (p + 2) x2 (by omega) (hi 2 x2 rfl) (fun q => absurd q h2)) at_295 rfl rfl pd3 rfl (Sh.le rfl) (Sh.le rfl) (Sh.le rfl) (Sh.le rfl) rfl rfl ?_
          rintro _ _ ⟨rfl, rfl⟩
          refine Sh.ifF at_298 (by decide) ?_
          refine Sh.iconst at_301 (x := 1) rfl ?_
          refine Sh.goto at_302 (pc' := 306) rfl (by decide) ?_
          refine Sh.istore at_306 (Sh.s1_16 rfl rfl) ?_
          refine Sh.iload at_308 rfl ?_
          refine Sh.iload at_310 rfl ?_
          refine Sh.ifT at_312 (pc' := 319) rfl (by decide) h2 ?_
          refine Sh.iconst at_319 (x := 1) rfl ?_
          refine Sh.iaddE at_320 (Sh.onAdd _ 1) ?_
          refine Sh.istore at_321 (Sh.s1_15 rfl rfl) ?_
          refine Sh.iload at_323 rfl ?_
          refine Sh.ifF at_325 (by decide) ?_
          refine Sh.aload at_328 rfl rfl ?_
          refine Sh.iload at_330 rfl ?_
          refine Sh.baload at_332 rfl (Sh.onNN (by omega)) (Sh.onCl (by omega)) (hi 3 0 rfl) ?_
          refine Sh.ifF at_333 (by decide) ?_
          refine Sh.aload at_336 rfl rfl ?_
          refine Sh.iload at_338 rfl ?_
          refine Sh.iconst at_340 (x := 1) rfl ?_
          refine Sh.iaddE at_341 (Sh.onAdd _ 1) ?_
          refine Sh.baload at_342 rfl (Sh.onNN (by omega)) (Sh.onCl (by omega)) (hi 4 1 rfl) ?_
          refine Sh.iconst at_343 (x := 1) rfl ?_
          refine Sh.icmpF at_344 (by decide) ?_
          refine Sh.iload at_347 rfl ?_
          refine Sh.iload at_349 rfl ?_
          refine Sh.iconst at_351 (x := 2) rfl ?_
          refine Sh.iaddE at_352 (Sh.onAdd _ 2) ?_
          refine Sh.icmpF at_353 (fun q => q rfl) ?_
          refine Sh.iconst at_356 (x := 1) rfl ?_
          refine Sh.goto at_357 (pc' := 361) rfl (by decide) ?_
          refine Sh.istore at_361 (Sh.s1_16 rfl rfl) ?_
          refine Sh.iload at_363 rfl ?_
          refine Sh.ifF at_365 (by decide) ?_
          refine Sh.aload at_368 rfl rfl ?_
          refine Sh.iconst at_370 (x := 0) rfl ?_
          refine Sh.iload at_371 rfl ?_
          refine Sh.iload at_373 rfl ?_
          refine Sh.iload at_375 rfl ?_
          refine Sh.callS hw (i1 := 5) (i2 := 6) (i3 := 7) (i4 := 8) (k' := 2) (n' := 15) (B' := b2) (R' := R2) rfl rfl rfl rfl (by decide) (m2 l Z a0 n0 hw _ _ 0 p (p + 5) fb (by omega) (by omega) (by omega) (ho 0 (by decide))) at_377 rfl rfl pd2 rfl (Sh.le rfl) (Sh.le rfl) (Sh.le rfl) (Sh.le rfl) rfl rfl ?_
          rintro _ _ ⟨rfl, rfl⟩
          refine Sh.ifF at_380 (by decide) ?_
          refine Sh.aload at_383 rfl rfl ?_
          refine Sh.iconst at_385 (x := 1) rfl ?_
          refine Sh.iload at_386 rfl ?_
          refine Sh.iload at_388 rfl ?_
          refine Sh.iload at_390 rfl ?_
          refine Sh.callS hw (i1 := 5) (i2 := 6) (i3 := 7) (i4 := 8) (k' := 2) (n' := 15) (B' := b2) (R' := R2) rfl rfl rfl rfl (by decide) (m2 l Z a0 n0 hw _ _ 1 p (p + 5) fb (by omega) (by omega) (by omega) (ho 1 (by decide))) at_392 rfl rfl pd2 rfl (Sh.le rfl) (Sh.le rfl) (Sh.le rfl) (Sh.le rfl) rfl rfl ?_
          rintro _ _ ⟨rfl, rfl⟩
          refine Sh.ifF at_395 (by decide) ?_
          refine Sh.aload at_398 rfl rfl ?_
          refine Sh.iconst at_400 (x := 2) rfl ?_
          refine Sh.iload at_401 rfl ?_
          refine Sh.iload at_403 rfl ?_
          refine Sh.iload at_405 rfl ?_
          refine Sh.callS hw (i1 := 5) (i2 := 6) (i3 := 7) (i4 := 8) (k' := 2) (n' := 15) (B' := b2) (R' := R2) rfl rfl rfl rfl (by decide) (m2 l Z a0 n0 hw _ _ 2 p (p + 5) fb (by omega) (by omega) (by omega) (ho 2 (by decide))) at_407 rfl rfl pd2 rfl (Sh.le rfl) (Sh.le rfl) (Sh.le rfl) (Sh.le rfl) rfl rfl ?_
          rintro _ _ ⟨rfl, rfl⟩
          refine Sh.ifF at_410 (by decide) ?_
          refine Sh.aload at_413 rfl rfl ?_
          refine Sh.iconst at_415 (x := 3) rfl ?_
          refine Sh.iload at_416 rfl ?_
          refine Sh.iload at_418 rfl ?_
          refine Sh.iload at_420 rfl ?_
          refine Sh.callS hw (i1 := 5) (i2 := 6) (i3 := 7) (i4 := 8) (k' := 2) (n' := 15) (B' := b2) (R' := R2) rfl rfl rfl rfl (by decide) (m2 l Z a0 n0 hw _ _ 3 p (p + 5) fb (by omega) (by omega) (by omega) (ho 3 (by decide))) at_422 rfl rfl pd2 rfl (Sh.le rfl) (Sh.le rfl) (Sh.le rfl) (Sh.le rfl) rfl rfl ?_
          rintro _ _ ⟨rfl, rfl⟩
          refine Sh.ifF at_425 (by decide) ?_
          refine Sh.aload at_428 rfl rfl ?_
          refine Sh.iconst at_430 (x := 4) rfl ?_
          refine Sh.iload at_431 rfl ?_
          refine Sh.iload at_433 rfl ?_
          refine Sh.iload at_435 rfl ?_
          refine Sh.callS hw (i1 := 5) (i2 := 6) (i3 := 7) (i4 := 8) (k' := 2) (n' := 15) (B' := b2) (R' := R2) rfl rfl rfl rfl (by decide) (m2 l Z a0 n0 hw _ _ 4 p (p + 5) fb (by omega) (by omega) (by omega) (ho 4 (by decide))) at_437 rfl rfl pd2 rfl (Sh.le rfl) (Sh.le rfl) (Sh.le rfl) (Sh.le rfl) rfl rfl ?_
          rintro _ _ ⟨rfl, rfl⟩
          refine Sh.ifF at_440 (by decide) ?_
          refine Sh.aload at_443 rfl rfl ?_
          refine Sh.iconst at_445 (x := 5) rfl ?_
          refine Sh.iload at_446 rfl ?_
          refine Sh.iload at_448 rfl ?_
          refine Sh.iload at_450 rfl ?_
          refine Sh.callS hw (i1 := 5) (i2 := 6) (i3 := 7) (i4 := 8) (k' := 2) (n' := 15) (B' := b2) (R' := R2) rfl rfl rfl rfl (by decide) (m2 l Z a0 n0 hw _ _ 5 p (p + 5) fb (by omega) (by omega) (by omega) (ho 5 (by decide))) at_452 rfl rfl pd2 rfl (Sh.le rfl) (Sh.le rfl) (Sh.le rfl) (Sh.le rfl) rfl rfl ?_
          rintro _ _ ⟨rfl, rfl⟩
          refine Sh.ifF at_455 (by decide) ?_
          refine Sh.aload at_458 rfl rfl ?_
          refine Sh.bipush at_460 (x := 6) rfl ?_
          refine Sh.iload at_462 rfl ?_
          refine Sh.iload at_464 rfl ?_
          refine Sh.iload at_466 rfl ?_
          refine Sh.callS hw (i1 := 5) (i2 := 6) (i3 := 7) (i4 := 8) (k' := 2) (n' := 15) (B' := b2) (R' := R2) rfl rfl rfl rfl (by decide) (m2 l Z a0 n0 hw _ _ 6 p (p + 5) fb (by omega) (by omega) (by omega) (ho 6 (by decide))) at_468 rfl rfl pd2 rfl (Sh.le rfl) (Sh.le rfl) (Sh.le rfl) (Sh.le rfl) rfl rfl ?_
          rintro _ _ ⟨rfl, rfl⟩
          refine Sh.ifF at_471 (by decide) ?_
          refine Sh.aload at_474 rfl rfl ?_
          refine Sh.bipush at_476 (x := 7) rfl ?_
          refine Sh.iload at_478 rfl ?_
          refine Sh.iload at_480 rfl ?_
          refine Sh.iload at_482 rfl ?_
          refine Sh.callS hw (i1 := 5) (i2 := 6) (i3 := 7) (i4 := 8) (k' := 2) (n' := 15) (B' := b2) (R' := R2) rfl rfl rfl rfl (by decide) (m2 l Z a0 n0 hw _ _ 7 p (p + 5) fb (by omega) (by omega) (by omega) (ho 7 (by decide))) at_484 rfl rfl pd2 rfl (Sh.le rfl) (Sh.le rfl) (Sh.le rfl) (Sh.le rfl) rfl rfl ?_
          rintro _ _ ⟨rfl, rfl⟩
          refine Sh.ifF at_487 (by decide) ?_
          refine Sh.aload at_490 rfl rfl ?_
          refine Sh.bipush at_492 (x := 8) rfl ?_
          refine Sh.iload at_494 rfl ?_
          refine Sh.iload at_496 rfl ?_
          refine Sh.iload at_498 rfl ?_
          refine Sh.callS hw (i1 := 5) (i2 := 6) (i3 := 7) (i4 := 8) (k' := 2) (n' := 15) (B' := b2) (R' := R2) rfl rfl rfl rfl (by decide) (m2 l Z a0 n0 hw _ _ 8 p (p + 5) fb (by omega) (by omega) (by omega) (ho 8 (by decide))) at_500 rfl rfl pd2 rfl (Sh.le rfl) (Sh.le rfl) (Sh.le rfl) (Sh.le rfl) rfl rfl ?_
          rintro _ _ ⟨rfl, rfl⟩
          refine Sh.ifF at_503 (by decide) ?_
          refine Sh.aload at_506 rfl rfl ?_
          refine Sh.bipush at_508 (x := 9) rfl ?_
          refine Sh.iload at_510 rfl ?_
          refine Sh.iload at_512 rfl ?_
          refine Sh.iload at_514 rfl ?_
          refine Sh.callS hw (i1 := 5) (i2 := 6) (i3 := 7) (i4 := 8) (k' := 2) (n' := 15) (B' := b2) (R' := R2) rfl rfl rfl rfl (by decide) (m2 l Z a0 n0 hw _ _ 9 p (p + 5) fb (by omega) (by omega) (by omega) (ho 9 (by decide))) at_516 rfl rfl pd2 rfl (Sh.le rfl) (Sh.le rfl) (Sh.le rfl) (Sh.le rfl) rfl rfl ?_
          rintro _ _ ⟨rfl, rfl⟩
          refine Sh.ifF at_519 (by decide) ?_
          refine Sh.aload at_522 rfl rfl ?_
          refine Sh.bipush at_524 (x := 10) rfl ?_
          refine Sh.iload at_526 rfl ?_
          refine Sh.iload at_528 rfl ?_
          refine Sh.iload at_530 rfl ?_
          refine Sh.callS hw (i1 := 5) (i2 := 6) (i3 := 7) (i4 := 8) (k' := 2) (n' := 15) (B' := b2) (R' := R2) rfl rfl rfl rfl (by decide) (m2 l Z a0 n0 hw _ _ 10 p (p + 5) fb (by omega) (by omega) (by omega) (ho 10 (by decide))) at_532 rfl rfl pd2 rfl (Sh.le rfl) (Sh.le rfl) (Sh.le rfl) (Sh.le rfl) rfl rfl ?_
          rintro _ _ ⟨rfl, rfl⟩
          refine Sh.ifF at_535 (by decide) ?_
          refine Sh.aload at_538 rfl rfl ?_
          refine Sh.bipush at_540 (x := 11) rfl ?_
          refine Sh.iload at_542 rfl ?_
          refine Sh.iload at_544 rfl ?_
          refine Sh.iload at_546 rfl ?_
          refine Sh.callS hw (i1 := 5) (i2 := 6) (i3 := 7) (i4 := 8) (k' := 2) (n' := 15) (B' := b2) (R' := R2) rfl rfl rfl rfl (by decide) (m2 l Z a0 n0 hw _ _ 11 p (p + 5) fb (by omega) (by omega) (by omega) (ho 11 (by decide))) at_548 rfl rfl pd2 rfl (Sh.le rfl) (Sh.le rfl) (Sh.le rfl) (Sh.le rfl) rfl rfl ?_
          rintro _ _ ⟨rfl, rfl⟩
          refine Sh.ifF at_551 (by decide) ?_
          refine Sh.iconst at_554 (x := 1) rfl ?_
          refine Sh.goto at_555 (pc' := 559) rfl (by decide) ?_
          refine Sh.istore at_559 (Sh.s1_16 rfl rfl) ?_
          refine Sh.iload at_561 rfl ?_
          refine Sh.retN at_563 rfl (by simp) rfl (Sh.le rfl) (Sh.le rfl) ?_
          rfl
end
set_option maxRecDepth 65536 in
set_option maxHeartbeats 40000000 in
theorem comes_1 {Post : Tables → Env → Array Value → State → Outcome → State → Prop} (hpost : ∀ tb e args s v u, (limb_1_1.after args s (.returned v) u = true ∧ limb_1_2.after args s (.returned v) u = true ∧ True) → FrameEnd s (.returned v) u (Jvm.fieldLocs frame_1_writes args s ++ Jvm.arrayLocs frame_1_arrays args s ++ Jvm.staticLocs frame_1_statics s) 16 128 → Post tb e args s (.returned v) u) :
    ArmFor flags0 classFile x code maxLocals ret World_1 tables_1 room_1 Calls_1 rest_1 Pre_1 Post := by
  intro l hfl _ _ p e ha hc hk s m args below hf hA hF happ hP
  obtain ⟨hcalls, hrest, hpre⟩ := hP
  obtain ⟨-, -, -, -, -, -, -, hat⟩ := (Spec.applies_iff hf).mp happ
  obtain ⟨hg, hn⟩ := and_e (Cond.before_iff.mp (show (Jvm.Cond.and given_1 narrow_1).before args s = true from hpre))
  obtain ⟨h1, h2⟩ := and_e hg
  obtain ⟨w0, w1, w2, w3, w4, w5, rfl⟩ : ∃ w0 w1 w2 w3 w4 w5 : Value, args = #[w0, w1, w2, w3, w4, w5] := by
    have hs : args.size = 6 := by simpa [Cond.value, given_1] using h1
    obtain ⟨L⟩ := args
    match L, hs with
    | [w0, w1, w2, w3, w4, w5], _ => exact ⟨w0, w1, w2, w3, w4, w5, rfl⟩
  have hw := fun d (hd : d ∈ tables_1) => atoms_spec (ws := Jvm.Cond.code x code maxLocals ret :: tables_1) hat d (List.mem_cons_of_mem _ hd)
  obtain ⟨g0, q0⟩ := and_e h2
  obtain ⟨i0, e0⟩ := is_v g0
  obtain rfl : w0 = (.int i0) := Option.some.inj e0
  obtain ⟨g1, q1⟩ := and_e q0
  obtain ⟨i1, e1⟩ := is_v g1
  obtain rfl : w1 = (.int i1) := Option.some.inj e1
  obtain ⟨g2, q2⟩ := and_e q1
  obtain ⟨i2, e2⟩ := is_v g2
  obtain rfl : w2 = (.int i2) := Option.some.inj e2
  obtain ⟨g3, q3⟩ := and_e q2
  obtain ⟨i3, e3⟩ := is_v g3
  obtain rfl : w3 = (.int i3) := Option.some.inj e3
  obtain ⟨g4, q4⟩ := and_e q3
  obtain ⟨i4, e4⟩ := is_v g4
  obtain rfl : w4 = (.int i4) := Option.some.inj e4
  obtain ⟨i5, e5⟩ := is_v q4
  obtain rfl : w5 = (.int i5) := Option.some.inj e5
  have hM := law_ok l s _ s.heap.size hw i0 i1 i2 i3 i4 i5 s.heap tables_1 ⟨by simp, fun i c h => by simp at h⟩ p e ha hc hk s m _ below hf ((Spec.applies_iff_loose hf).mp happ).1 ⟨by simp [Sh.lf], State.Warmed39.refl s, rfl⟩ trivial
  obtain ⟨n, o, h1, h2, h3, _, L, rfl, ⟨v, H, rfl, rfl, hR, N⟩, hq⟩ := hM
  refine ⟨n, _, h1, h2, h3, hpost _ _ _ _ _ _ ⟨Cond.after_iff.mpr rfl, Cond.after_iff.mpr (eq_i res_at (Term.int_eval (1)) rfl), trivial⟩ ⟨hq.1, hq.2.1, (hq.2.2.sift fun y hy => Or.inr (N y hy)).mono (by decide) (by decide)⟩⟩
theorem main_1_1 : Claimed_1_1 := comes_1 fun _ _ _ _ _ _ h hF => ⟨h.1, hF⟩
theorem main_1_2 : Claimed_1_2 := comes_1 fun _ _ _ _ _ _ h hF => ⟨h.2.1, hF⟩
end Jvm.Pilot.@@N@@
namespace Jvm.Pilot.@@N@@
open Jvm Jvm.ClassFile Sem Op Lib Jvm.Free Jvm.Stand Jvm.Pilot.@@N@@.Jvm.D
/-! MADE BY PROGRAM (witnessworld.py) out of the Statement's table words and the real class files: 9 classes; the members and pool entries that the words name. The judged class is class 1, her method 1. -/
namespace start1
open Jvm.ClassFile
def u (s : String) : CpInfo := .utf8 (stringToUtf16 s)
/-- a pool by its gaps: so many unusable entries, then the entry; so many at the end -/
def gap : Nat → List CpInfo → List CpInfo
  | 0, r => r
  | n + 1, r => .unusable :: gap n r
def poolList (es : List (Nat × CpInfo)) (last : Nat) : List CpInfo := es.foldr (fun e r => gap e.1 (e.2 :: r)) (gap last [])
def pool (es : List (Nat × CpInfo)) (last : Nat) : Array CpInfo := ⟨poolList es last⟩
def fileOf (pool : Array CpInfo) (this : Nat) (attrs : Array Attribute := #[]) (ms : Array MethodInfo := #[]) (fl : Nat := 33) (sup : Nat := 0) (ifs : Array Nat := #[]) (fds : Array FieldInfo := #[]) : ClassFile where
  minorVersion := 0
  majorVersion := 65
  constantPool := pool
  accessFlags := fl
  thisClass := this
  superClass := sup
  interfaces := ifs
  fields := fds
  methods := ms
  attributes := attrs
def plain (name : String) (sup : Option ClassId) : Class where
  name := name
  kind := .ordinary
  loader := none
  accessFlags := 33
  super := sup
  interfaces := #[]
  cf := none
  fields := #[]
  methods := #[]
  instanceTypes := #[]
  staticTypes := #[]
  resolved := #[]
  callSites := []
  init := .initialized
  statics := none
  mirror := none

def pool0 : Array CpInfo := pool [(5, u "<init>"), (0, u "()V"), (1, .class_ 10), (1, u "java/lang/Object")] 113

def k0m0 : Method := { name := "<init>", desc := "()V", sig := { parameters := [], returnType := none }, accessFlags := 1, code := none }
/-- java/lang/Object -/
def k0 : Class := { plain "java/lang/Object" none with
  accessFlags := 33
  interfaces := #[]
  cf := some (fileOf pool0 8 #[] #[{ accessFlags := 1, nameIndex := 5, descriptorIndex := 6, attributes := #[] }] 33 0 #[] #[])
  fields := #[]
  methods := #[k0m0]
  instanceTypes := #[]
  staticTypes := #[]
  resolved := Array.replicate 124 none
  statics := none }

def pool1 : Array CpInfo := pool [(2, .class_ 4), (1, u "java/lang/Object"), (0, u "<init>"), (0, u "()V"), (0, .methodref 8 9), (0, .class_ 10), (0, .nameAndType 11 12), (0, u "com/example/gap_table/gaptable/codec/KeyComponents"), (0, u "put"), (0, u "([BI[B)I"), (0, .methodref 14 15), (0, .class_ 16), (0, .nameAndType 17 18), (0, u "com/example/gap_table/gaptable/codec/KeyComponentsPutPinLaw"), (0, u "unit"), (0, u "([BIB)Z"), (0, .methodref 14 20), (0, .nameAndType 21 22), (0, u "same"), (0, u "([BIIIB)Z"), (2, u "law"), (0, u "(IIIIII)Z")] 5

def k1m0 : Method := { name := "<init>", desc := "()V", sig := { parameters := [], returnType := none }, accessFlags := 1, code := none }
def k1c1 : Code := { maxStack := 5, maxLocals := 17, code := code, exceptionTable := #[], attributes := #[] }
def k1m1 : Method := { name := "law", desc := "(IIIIII)Z", sig := { parameters := [.int, .int, .int, .int, .int, .int], returnType := some .boolean }, accessFlags := 9, code := some k1c1 }
def k1c2 : Code := { maxStack := 3, maxLocals := 3, code := method_3_code, exceptionTable := #[], attributes := #[] }
def k1m2 : Method := { name := "unit", desc := "([BIB)Z", sig := { parameters := [(.array .byte), .int, .byte], returnType := some .boolean }, accessFlags := 10, code := some k1c2 }
def k1c3 : Code := { maxStack := 2, maxLocals := 5, code := method_4_code, exceptionTable := #[], attributes := #[] }
def k1m3 : Method := { name := "same", desc := "([BIIIB)Z", sig := { parameters := [(.array .byte), .int, .int, .int, .byte], returnType := some .boolean }, accessFlags := 10, code := some k1c3 }
/-- com/example/gap_table/gaptable/codec/KeyComponentsPutPinLaw -/
def k1 : Class := { plain "com/example/gap_table/gaptable/codec/KeyComponentsPutPinLaw" (some 0) with
  accessFlags := 49
  interfaces := #[]
  cf := some (fileOf pool1 14 #[] #[{ accessFlags := 1, nameIndex := 5, descriptorIndex := 6, attributes := #[] }, { accessFlags := 9, nameIndex := 25, descriptorIndex := 26, attributes := #[] }, { accessFlags := 10, nameIndex := 17, descriptorIndex := 18, attributes := #[] }, { accessFlags := 10, nameIndex := 21, descriptorIndex := 22, attributes := #[] }] 49 2 #[] #[])
  fields := #[]
  methods := #[k1m0, k1m1, k1m2, k1m3]
  instanceTypes := #[]
  staticTypes := #[]
  resolved := Array.replicate 32 none
  statics := none }

def pool2 : Array CpInfo := pool [(2, .class_ 4), (1, u "java/lang/Object"), (0, u "<init>"), (0, u "()V"), (0, .class_ 8), (0, u "com/example/gap_table/gaptable/codec/KeyComponents"), (6, u "put"), (0, u "([BI[B)I"), (16, u "ESCAPE"), (0, u "B"), (2, u "ESCAPED_ZERO"), (1, u "TERMINATOR"), (1, u "INVERTED"), (0, u "I"), (17, .class_ 61), (0, u "com/example/gap_table/gaptable/codec/KeyComponents$Reader")] 2

def k2m0 : Method := { name := "<init>", desc := "()V", sig := { parameters := [], returnType := none }, accessFlags := 2, code := none }
def k2c1 : Code := { maxStack := 3, maxLocals := 7, code := prog_10_method_3_code, exceptionTable := #[], attributes := #[] }
def k2m1 : Method := { name := "put", desc := "([BI[B)I", sig := { parameters := [(.array .byte), .int, (.array .byte)], returnType := some .int }, accessFlags := 8, code := some k2c1 }
/-- com/example/gap_table/gaptable/codec/KeyComponents -/
def k2 : Class := { plain "com/example/gap_table/gaptable/codec/KeyComponents" (some 0) with
  accessFlags := 48
  interfaces := #[]
  cf := some (fileOf pool2 7 #[.nestMembers #[60]] #[{ accessFlags := 2, nameIndex := 5, descriptorIndex := 6, attributes := #[] }, { accessFlags := 8, nameIndex := 15, descriptorIndex := 16, attributes := #[] }] 48 2 #[] #[{ accessFlags := 26, nameIndex := 33, descriptorIndex := 34, attributes := #[] }, { accessFlags := 26, nameIndex := 37, descriptorIndex := 34, attributes := #[] }, { accessFlags := 26, nameIndex := 39, descriptorIndex := 34, attributes := #[] }, { accessFlags := 26, nameIndex := 41, descriptorIndex := 42, attributes := #[] }])
  fields := #[{ name := "ESCAPE", type := .byte, accessFlags := 26, slot := 0, constantValue := 0 }, { name := "ESCAPED_ZERO", type := .byte, accessFlags := 26, slot := 1, constantValue := 0 }, { name := "TERMINATOR", type := .byte, accessFlags := 26, slot := 2, constantValue := 0 }, { name := "INVERTED", type := .int, accessFlags := 26, slot := 3, constantValue := 0 }]
  methods := #[k2m0, k2m1]
  instanceTypes := #[]
  staticTypes := #[.byte, .byte, .byte, .int]
  resolved := Array.replicate 64 none
  statics := none }

def pool3 : Array CpInfo := pool [(1, u "java/lang/Cloneable"), (0, .class_ 1), (0, u "java/lang/Object"), (0, .class_ 3)] 3

/-- java/lang/Cloneable -/
def k3 : Class := { plain "java/lang/Cloneable" (some 0) with
  accessFlags := 1537
  interfaces := #[]
  cf := some (fileOf pool3 2 #[] #[] 1537 4 #[] #[])
  fields := #[]
  methods := #[]
  instanceTypes := #[]
  staticTypes := #[]
  resolved := Array.replicate 8 none
  statics := none }

def pool4 : Array CpInfo := pool [(1, u "java/io/Serializable"), (0, .class_ 1), (0, u "java/lang/Object"), (0, .class_ 3)] 3

/-- java/io/Serializable -/
def k4 : Class := { plain "java/io/Serializable" (some 0) with
  accessFlags := 1537
  interfaces := #[]
  cf := some (fileOf pool4 2 #[] #[] 1537 4 #[] #[])
  fields := #[]
  methods := #[]
  instanceTypes := #[]
  staticTypes := #[]
  resolved := Array.replicate 8 none
  statics := none }

/-- the primitive byte -/
def k5 : Class := { plain "byte" none with kind := .primitive 'B', accessFlags := 0x411 }
/-- [B -/
def k6 : Class := { plain "[B" (some 0) with kind := .array 5 .byte, interfaces := #[3, 4], accessFlags := 1041 }

/-- the primitive int -/
def k7 : Class := { plain "int" none with kind := .primitive 'I', accessFlags := 0x411 }
/-- [I -/
def k8 : Class := { plain "[I" (some 0) with kind := .array 7 .int, interfaces := #[3, 4], accessFlags := 1041 }

def heap : Heap := #[]
def classes : Array Class := #[k0, k1, k2, k3, k4, k5, k6, k7, k8]
def interned : List (Array UInt16 × Addr) := []
def slotsUsed : Nat := 0
def theMethod : MethodId := ⟨1, 1⟩
def args0 : Array Value := #[.int 5, .int 5, .int 5, .int 5, .int 5, .int 5]
def aboutOver (below : List Frame) : State where
  vm := { classes := classes, interned := interned.toArray }
  heap := heap
  slotsUsed := slotsUsed
  threads := #[{ frames := .invoking theMethod args0 :: below }]
def below0 : List Frame := [.native { method := ⟨0, 0⟩, args := #[] }]
def about1 : State := aboutOver below0
def p0 : Program := .bare "" "" ""
def e0 : Env := launch0.env 0 0 0
theorem w_frames : about1.frames = Frame.invoking theMethod args0 :: below0 := rfl
set_option maxRecDepth 65536 in
theorem w_args : argsFit about1.vm theMethod args0 = true := by decide +kernel
set_option maxRecDepth 65536 in
theorem w_heap : heapFits about1 = true := by decide +kernel
set_option maxRecDepth 65536 in
theorem w_runnable : about1.curStatus? = some .runnable := by decide +kernel
set_option maxRecDepth 65536 in
theorem w_alone : about1.alone = true := by decide +kernel
set_option maxRecDepth 65536 in
theorem w_named : about1.methodNamed? x = some theMethod := by decide +kernel
set_option maxRecDepth 65536 in
theorem w_hears : about1.hears theMethod below0 = true := by decide +kernel
set_option maxRecDepth 65536 in
theorem w_ripe : about1.ripe theMethod args0 below0 = true := by decide +kernel
theorem w_running : about1.status = .running := rfl
set_option maxRecDepth 65536 in
theorem w_room : about1.hasRoom e0.platform room_1 = true :=
  launch0.hasRoom_least _ room_1 (by decide +kernel) (by decide +kernel) (by decide +kernel) (by decide +kernel) (by decide +kernel) (by decide +kernel)
theorem allAtoms_all (ts : List Jvm.Cond) (a : Array Jvm.Value) (st : Jvm.State) : (allAtoms ts).before a st = ts.all (fun c => c.before a st) := by
  induction ts with
  | nil => rfl
  | cons c t ih =>
    show (Jvm.Cond.and c (allAtoms t)).before a st = _
    rw [Jvm.Cond.before_and, ih, List.all_cons]
def words1 : List Jvm.Cond := Jvm.Cond.code x code maxLocals ret :: tables_1
/-- a 'code' word, met by the world's own term for the bytes: nothing is compared byte by byte -/
theorem code_word {y : MethodName} {bytes : ByteArray} {mx : Nat} {rt : Option FieldType} {a : Array Value} {s : State} {m : MethodId} {meth : Method} {c : Code} (h1 : s.methodNamed? y = some m) (h2 : s.vm.method? m = some meth) (h3 : meth.code = some c) (h4 : c.code = bytes)
    (h5 : (c.maxLocals == mx && c.exceptionTable.isEmpty && decide (c.maxStack ≤ mostOperands) && decide (meth.sig.returnType = rt) && !meth.locks && decide (parseMethodDescriptor y.desc = some meth.sig)) = true) : (Jvm.Cond.code y bytes mx rt).before a s = true := by
  simp only [Bool.and_eq_true, beq_iff_eq, Bool.not_eq_true', decide_eq_true_eq] at h5
  obtain ⟨⟨⟨⟨⟨g1, g2⟩, g3⟩, g4⟩, g5⟩, g6⟩ := h5
  simp [Cond.before, Cond.holds, Cond.value, h1, h2, h3, h4, g1, g2, g3, g4, g5, g6]
def isCode : Jvm.Cond → Bool
  | .code _ _ _ _ => true
  | _ => false
theorem all_split {L : List Jvm.Cond} {P : Jvm.Cond → Bool} (h1 : L.all (fun c => isCode c || P c) = true) (h2 : ∀ c ∈ L.filter isCode, P c = true) : L.all P = true := by
  refine List.all_eq_true.mpr fun c hc => ?_
  have h := List.all_eq_true.mp h1 c hc
  rcases Bool.eq_false_or_eq_true (isCode c) with hi | hi
  · exact h2 c (List.mem_filter.mpr ⟨hc, hi⟩)
  · simpa [hi] using h
set_option maxRecDepth 65536 in
theorem w_c0 : (Jvm.Cond.code x code maxLocals ret).before args0 about1 = true := code_word (m := ⟨1, 1⟩) (meth := k1m1) (c := k1c1) (by decide +kernel) rfl rfl rfl (by decide +kernel)
set_option maxRecDepth 65536 in
theorem w_c1 : (Jvm.Cond.code ({ cls := "com/example/gap_table/gaptable/codec/KeyComponents", name := "put", desc := "([BI[B)I" } : Jvm.MethodName) prog_10_method_3_code (7 : Nat) (Option.some Jvm.ClassFile.FieldType.int)).before args0 about1 = true := code_word (m := ⟨2, 1⟩) (meth := k2m1) (c := k2c1) (by decide +kernel) rfl rfl rfl (by decide +kernel)
set_option maxRecDepth 65536 in
theorem w_c2 : (Jvm.Cond.code ({ cls := "com/example/gap_table/gaptable/codec/KeyComponentsPutPinLaw", name := "same", desc := "([BIIIB)Z" } : Jvm.MethodName) method_4_code (5 : Nat) (Option.some Jvm.ClassFile.FieldType.boolean)).before args0 about1 = true := code_word (m := ⟨1, 3⟩) (meth := k1m3) (c := k1c3) (by decide +kernel) rfl rfl rfl (by decide +kernel)
set_option maxRecDepth 65536 in
theorem w_c3 : (Jvm.Cond.code ({ cls := "com/example/gap_table/gaptable/codec/KeyComponentsPutPinLaw", name := "unit", desc := "([BIB)Z" } : Jvm.MethodName) method_3_code (3 : Nat) (Option.some Jvm.ClassFile.FieldType.boolean)).before args0 about1 = true := code_word (m := ⟨1, 2⟩) (meth := k1m2) (c := k1c2) (by decide +kernel) rfl rfl rfl (by decide +kernel)
def codes1 : List Jvm.Cond := [Jvm.Cond.code x code maxLocals ret, Jvm.Cond.code ({ cls := "com/example/gap_table/gaptable/codec/KeyComponents", name := "put", desc := "([BI[B)I" } : Jvm.MethodName) prog_10_method_3_code (7 : Nat) (Option.some Jvm.ClassFile.FieldType.int), Jvm.Cond.code ({ cls := "com/example/gap_table/gaptable/codec/KeyComponentsPutPinLaw", name := "same", desc := "([BIIIB)Z" } : Jvm.MethodName) method_4_code (5 : Nat) (Option.some Jvm.ClassFile.FieldType.boolean), Jvm.Cond.code ({ cls := "com/example/gap_table/gaptable/codec/KeyComponentsPutPinLaw", name := "unit", desc := "([BIB)Z" } : Jvm.MethodName) method_3_code (3 : Nat) (Option.some Jvm.ClassFile.FieldType.boolean)]
set_option maxRecDepth 65536 in
theorem codes_eq : words1.filter isCode = codes1 := rfl
theorem w_codes : ∀ c ∈ words1.filter isCode, c.before args0 about1 = true := by
  rw [codes_eq]
  intro c hc
  simp only [codes1, List.mem_cons, List.not_mem_nil, or_false] at hc
  rcases hc with rfl | rfl | rfl | rfl
  · exact w_c0
  · exact w_c1
  · exact w_c2
  · exact w_c3
set_option maxRecDepth 65536 in
theorem w_t1 : words1.all (fun c => isCode c || c.before args0 about1) = true := by decide +kernel
theorem w_tables : (allAtoms (Jvm.Cond.code x code maxLocals ret :: tables_1)).before args0 about1 = true := by
  rw [allAtoms_all]
  show words1.all (fun c => c.before args0 about1) = true
  refine all_split ?_ w_codes
  rw [w_t1]
set_option maxRecDepth 65536 in
theorem w_case : (Jvm.Cond.and given_1 narrow_1).before args0 about1 = true := by decide +kernel
theorem w_applies : (headSpec (Jvm.Cond.code x code maxLocals ret :: tables_1) room_1).applies x e0.platform about1 = true :=
  (Spec.applies_iff w_frames).mpr ⟨w_running, w_runnable, w_alone, w_named, w_hears, w_ripe, w_room, w_tables⟩
theorem atStart : AtStart classFile x code maxLocals ret World_1 tables_1 room_1 Calls_1 rest_1 Pre_1 launch0 p0 e0 about1 theMethod args0 below0 :=
  ⟨lists_1, trivial, launch0.admits_env _ _ _, launch0.least_env, fairChoices_fair.cas, fairChoices_fair.clock, w_frames, w_args, w_heap, w_applies, trivial, trivial, w_case⟩
end start1
theorem witness_1 : WitnessClaimed_1 := ⟨start1.p0, start1.e0, start1.about1, start1.theMethod, start1.args0, start1.below0, start1.atStart⟩
end Jvm.Pilot.@@N@@
