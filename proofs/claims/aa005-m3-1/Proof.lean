import JvmDerived
import JvmDerived.Pilot.@@N@@Statement
import JvmDerived.Pilot.@@N@@Code
set_option linter.unusedVariables false
set_option linter.unusedSimpArgs false
namespace Jvm.Own
open Jvm Jvm.ClassFile Sem Op Lib Jvm.Free Jvm.Stand Jvm.LawKit Jvm.RoadKit
def OHr (p : Program) (l : Launch) (e : Env) (R : Room) (s : State) (m : MethodId) (args : Array Value) (below : List Frame) (meth : Method) (c : Code) (Z : State) (n0 : Nat) (own nm : String) (code : ByteArray) (maxL : Nat) (ret : Option FieldType) (T : State) (h : Heap) (ce sl : Nat) : Prop :=
  (p.tables.exec = Jvm.exec ∧ Z.Warmed39 s.vm ∧ c.code = code ∧ c.maxLocals = maxL ∧ s.vm.findClass own = some m.cls ∧ meth.name = nm ∧ meth.sig.returnType = ret ∧ meth.locks = false) ∧
  ∃ locs, Stand p l e R s m args below meth c T locs ce sl ∧ T.heap = h ∧ Fr n0 locs ∧ n0 ≤ h.size
def OEnds (p : Program) (e : Env) (below : List Frame) (s : State) (n0 : Nat) (Q : Option Value → Heap → Prop) (C S : Nat) (T : State) (g : JFrame) : Prop :=
  ∃ s₂ o, Steps p.tables e below (T.setTop g) s₂ ∧ s₂.status = .running ∧ Ended s₂ below o ∧ ∃ v L, o = .returned v ∧ (Fr n0 L ∧ Q v s₂.heap) ∧ FrameEnd s o s₂ L C S
def OMet (l : Launch) (Z : State) (n0 : Nat) (y : MethodName) (bytes : ByteArray) (maxL : Nat) (ret : Option FieldType) (rm : Room) (as : Array Value) (h0 : Heap) (Q : Option Value → Heap → Prop) : Prop :=
  ∀ ws, MetFree l y (head1 (Cond.code y bytes maxL ret :: ws) rm) (fun a U => a = as ∧ Z.Warmed39 U.vm ∧ U.heap = h0) (fun _ _ _ _ _ => True) (fun _ U o U' => ∃ v L, o = .returned v ∧ (Fr n0 L ∧ h0.size ≤ U'.heap.size ∧ Q v U'.heap) ∧ FrameEnd U o U' L rm.cells rm.slots)
theorem OMet.of {l : Launch} {Z : State} {n0 : Nat} {y : MethodName} {bytes : ByteArray} {maxL : Nat} {ret : Option FieldType} {rm : Room} {as : Array Value} {h0 : Heap} {Q : Option Value → Heap → Prop} {Ls : Array Slot}
    (pn : plainFor y = true) (Z0 : n0 ≤ h0.size) (ef : ∀ m, entryFrame m as maxL = mkF m 0 Ls [])
    (body : ∀ p e s m below meth c T, OHr p l e rm s m as below meth c Z n0 y.cls y.name bytes maxL ret T h0 0 0 → OEnds p e below s n0 Q rm.cells rm.slots T (mkF m 0 Ls [])) : OMet l Z n0 y bytes maxL ret rm as h0 Q := by
  intro ws
  refine MetFree.of_bodySF pn hisR ?_
  intro p e s m args below meth c s₁ Bd hml0 hP hK
  obtain ⟨rfl, hZ, hh⟩ := hP
  have X0 : Stand p l e rm s m _ below meth c s₁ [] 0 0 := Stand.of_body Bd
  have e0 : s₁.heap = h0 := by rw [← hh, Bd.state]; rfl
  rw [ef]
  obtain ⟨s₂, o, g1, g2, g3, v, L, g4, ⟨g5, g6⟩, g7⟩ := body p e s m below meth c s₁ ⟨⟨Bd.exec, hZ, Bd.bytes, hml0, findClass_of_methodNamed Bd.named, (name_of_methodNamed Bd.named Bd.method).1, Bd.returns, Bd.notSynchronized⟩, [], X0, e0, Fr.nil n0, Z0⟩
  exact ⟨s₂, o, g1, g2, g3, v, L, g4, ⟨g5, by rw [← hh]; exact g7.2.2.2.1, g6⟩, g7⟩
theorem OMet.mono {l : Launch} {Z : State} {n0 : Nat} {y : MethodName} {bytes : ByteArray} {maxL : Nat} {ret : Option FieldType} {rm : Room} {as : Array Value} {h0 : Heap} {Q Q' : Option Value → Heap → Prop}
    (M : OMet l Z n0 y bytes maxL ret rm as h0 Q) (q : ∀ v h, Q v h → Q' v h) : OMet l Z n0 y bytes maxL ret rm as h0 Q' := by
  intro ws p e h1 h2 h3 s m args below h4 h5 h6 h7
  obtain ⟨n, o, k1, k2, k3, v, L, k4, ⟨k5, k5', k6⟩, k7⟩ := M ws p e h1 h2 h3 s m args below h4 h5 h6 h7
  exact ⟨n, o, k1, k2, k3, v, L, k4, ⟨k5, k5', q _ _ k6⟩, k7⟩
/-! arrays by the list of their values -/
def OAry (Z : State) (h : Heap) (a : Addr) (ty : FieldType) (vs : List Value) : Prop := ∃ c : Cell, Arr Z h a c ty ∧ c.slots.toList = vs ∧ vs.length < 2 ^ 31 ∧ ∀ v ∈ vs, fits ty v = true
section Facts
variable {Z : State} {h h' : Heap} {a b : Nat} {ty : FieldType} {vs : List Value} {v : Value} {sl : Nat} {ws : List Addr} {i : Nat}
theorem OAry.lt (A : OAry Z h a ty vs) : a < h.size := by obtain ⟨c, A, -⟩ := A; exact A.lt
theorem OAry.ext (A : OAry Z h a ty vs) (E : Ext h h') : OAry Z h' a ty vs := by obtain ⟨c, A, r⟩ := A; exact ⟨c, A.ext E, r⟩
theorem OAry.other (A : OAry Z h b ty vs) (W : Wr h h' a sl v) (q : b ≠ a) : OAry Z h' b ty vs := by obtain ⟨c, A, r⟩ := A; exact ⟨c, A.other W q, r⟩
theorem OAry.keep (A : OAry Z h a ty vs) (K : Keep h h' ws) (q : a ∉ ws) : OAry Z h' a ty vs := by obtain ⟨c, A, r⟩ := A; exact ⟨c, ⟨K.2.1 _ _ A.1 q, A.2⟩, r⟩
theorem OAry.len (A : OAry Z h a ty vs) : vs.length < 2 ^ 31 := by obtain ⟨c, A, -, r, -⟩ := A; exact r
theorem OAry.fit (A : OAry Z h a ty vs) (q : v ∈ vs) : fits ty v = true := by obtain ⟨c, A, -, -, r⟩ := A; exact r v q
theorem OAry.new {cA : ClassId} {n : Int32} (A : Arr Z h a (newA cA ty n) ty) (hf : fits ty (defaultValue ty) = true) : OAry Z h a ty (List.replicate n.toNatClampNeg (defaultValue ty)) := by
  refine ⟨_, A, by simp [newA], ?_, ?_⟩
  · rw [List.length_replicate]
    have := n.toInt_lt
    have e : n.toNatClampNeg = n.toInt.toNat := rfl
    omega
  · intro v hv
    rw [List.eq_of_mem_replicate hv]
    exact hf
theorem OAry.wr (A : OAry Z h a ty vs) (W : Wr h h' a i v) (hf : fits ty v = true) : OAry Z h' a ty (vs.set i v) := by
  obtain ⟨c, A, r1, r2, r3⟩ := A
  refine ⟨_, A.same W, by simp [Cell.setSlot, r1], by simpa using r2, fun w hw => ?_⟩
  rcases List.mem_or_eq_of_mem_set hw with q | q
  · exact r3 w q
  · rw [q]; exact hf
theorem OAry.uniq {ty' : FieldType} {vs' : List Value} (A : OAry Z h a ty vs) (B : OAry Z h a ty' vs') : vs = vs' := by
  obtain ⟨c, A, r1, -⟩ := A
  obtain ⟨c', B, r1', -⟩ := B
  have e : c = c' := Option.some.inj (A.1.symm.trans B.1)
  subst e
  rw [← r1, ← r1']
theorem nat_idx {j : Int32} {i : Nat} (hj : j.toInt = (i : Int)) : j.toNatClampNeg = i ∧ ¬ j < 0 := by
  have e : j.toNatClampNeg = j.toInt.toNat := rfl
  refine ⟨by omega, ?_⟩
  rw [Int32.lt_iff_toInt_lt]
  have : (0 : Int32).toInt = 0 := rfl
  omega
theorem Fr.one {k : Nat} {L : List Loc} {a : Addr} {i : Nat} (N : Fr k L) (q : k ≤ a) : Fr k (L ++ [⟨a, i⟩]) := Fr.app N (fun y hy => by
  have e : y = ⟨a, i⟩ := List.mem_singleton.mp hy
  subst e; exact q)
theorem ext_size (E : Ext h h') : h.size ≤ h'.size := E.1
end Facts
section Go
variable {p : Program} {l : Launch} {e : Env} {R : Room} {s : State} {m : MethodId} {args : Array Value} {below : List Frame} {meth : Method} {c : Code} {Z : State} {n0 : Nat} {own nm : String} {code : ByteArray} {maxL : Nat} {ret : Option FieldType} {T : State} {h : Heap} {ce sl : Nat} {Q : Option Value → Heap → Prop} {C S : Nat} {pc : Nat} {Ls : Array Slot} {st : List Value} {a0 : Array Value}
theorem OHr.mono (H : OHr p l e R s m args below meth c Z n0 own nm code maxL ret T h ce sl) {ce' sl' : Nat} (q1 : ce ≤ ce') (q2 : sl ≤ sl') : OHr p l e R s m args below meth c Z n0 own nm code maxL ret T h ce' sl' := by
  obtain ⟨K, locs, X, r⟩ := H
  exact ⟨K, locs, { X with same := X.same.mono q1 q2 }, r⟩
theorem OHr.z0 (H : OHr p l e R s m args below meth c Z n0 own nm code maxL ret T h ce sl) : n0 ≤ h.size := by obtain ⟨K, locs, X, r1, r2, r3⟩ := H; exact r3
theorem go {T' : State} {g g' : JFrame} (q : ∀ t, Steps p.tables e below (T'.setTop g') t → Steps p.tables e below (T.setTop g) t) (k : OEnds p e below s n0 Q C S T' (g')) : OEnds p e below s n0 Q C S T (g) := by
  obtain ⟨a, o, h1, h2⟩ := k
  exact ⟨a, o, q _ h1, h2⟩
theorem go1 {T' : State} {g g' : JFrame} (q : Steps p.tables e below (T.setTop g) (T'.setTop g')) (k : OEnds p e below s n0 Q C S T' (g')) : OEnds p e below s n0 Q C S T (g) := by
  obtain ⟨a, o, h1, h2⟩ := k
  exact ⟨a, o, q.trans h1, h2⟩
theorem cut {A : Type} (P : A → Prop) (g : A → JFrame) {g0 : JFrame} (k : ∀ a, P a → OEnds p e below s n0 Q C S T (g a)) (main : (∀ a, P a → OEnds p e below s n0 Q C S T (g a)) → OEnds p e below s n0 Q C S T (g0)) : OEnds p e below s n0 Q C S T (g0) := main k
theorem cast {g g' : JFrame} (q : g = g') (k : OEnds p e below s n0 Q C S T (g')) : OEnds p e below s n0 Q C S T (g) := q ▸ k
theorem iload_n (H : OHr p l e R s m args below meth c Z n0 own nm code maxL ret T h ce sl) {k : Fin 4} {v : Int32} (hd : decode code pc = .ok (.iload_n k, 1)) (hl : Ls[k.val]? = some (.val (.int v))) (k : OEnds p e below s n0 Q C S T (mkF m (pc + 1) Ls (.int v :: st))) : OEnds p e below s n0 Q C S T (mkF m pc Ls (st)) := by
  obtain ⟨⟨hx, hZ, hby, hml, hown, hnm, hrt, hlk⟩, locs, X, eT, N, z0⟩ := H
  exact go (fun t q => XS.iloadN X.here hx rfl (hb hby hd) hl q) k
theorem lload_n (H : OHr p l e R s m args below meth c Z n0 own nm code maxL ret T h ce sl) {k : Fin 4} {v : Int64} (hd : decode code pc = .ok (.lload_n k, 1)) (hl : Ls[k.val]? = some (.val (.long v))) (k : OEnds p e below s n0 Q C S T (mkF m (pc + 1) Ls (.long v :: st))) : OEnds p e below s n0 Q C S T (mkF m pc Ls (st)) := by
  obtain ⟨⟨hx, hZ, hby, hml, hown, hnm, hrt, hlk⟩, locs, X, eT, N, z0⟩ := H
  exact go (fun t q => XT.lloadN X.here hx rfl (hb hby hd) hl q) k
theorem iload (H : OHr p l e R s m args below meth c Z n0 own nm code maxL ret T h ce sl) {k : Nat} {v : Int32} (hd : decode code pc = .ok (.iload k, 2)) (hl : Ls[k]? = some (.val (.int v))) (k : OEnds p e below s n0 Q C S T (mkF m (pc + 2) Ls (.int v :: st))) : OEnds p e below s n0 Q C S T (mkF m pc Ls (st)) := by
  obtain ⟨⟨hx, hZ, hby, hml, hown, hnm, hrt, hlk⟩, locs, X, eT, N, z0⟩ := H
  exact go (fun t q => XS.iload X.here hx rfl (hb hby hd) hl q) k
theorem lload (H : OHr p l e R s m args below meth c Z n0 own nm code maxL ret T h ce sl) {k : Nat} {v : Int64} (hd : decode code pc = .ok (.lload k, 2)) (hl : Ls[k]? = some (.val (.long v))) (k : OEnds p e below s n0 Q C S T (mkF m (pc + 2) Ls (.long v :: st))) : OEnds p e below s n0 Q C S T (mkF m pc Ls (st)) := by
  obtain ⟨⟨hx, hZ, hby, hml, hown, hnm, hrt, hlk⟩, locs, X, eT, N, z0⟩ := H
  exact go (fun t q => XT.lload X.here hx rfl (hb hby hd) hl q) k
theorem aload_n (H : OHr p l e R s m args below meth c Z n0 own nm code maxL ret T h ce sl) {k : Fin 4} {v : Value} (hd : decode code pc = .ok (.aload_n k, 1)) (hl : Ls[k.val]? = some (.val v)) (hv : v.isRef = true) (k : OEnds p e below s n0 Q C S T (mkF m (pc + 1) Ls (v :: st))) : OEnds p e below s n0 Q C S T (mkF m pc Ls (st)) := by
  obtain ⟨⟨hx, hZ, hby, hml, hown, hnm, hrt, hlk⟩, locs, X, eT, N, z0⟩ := H
  exact go (fun t q => XS.aloadN X.here hx rfl (hb hby hd) hl hv q) k
theorem aload (H : OHr p l e R s m args below meth c Z n0 own nm code maxL ret T h ce sl) {k : Nat} {v : Value} (hd : decode code pc = .ok (.aload k, 2)) (hl : Ls[k]? = some (.val v)) (hv : v.isRef = true) (k : OEnds p e below s n0 Q C S T (mkF m (pc + 2) Ls (v :: st))) : OEnds p e below s n0 Q C S T (mkF m pc Ls (st)) := by
  obtain ⟨⟨hx, hZ, hby, hml, hown, hnm, hrt, hlk⟩, locs, X, eT, N, z0⟩ := H
  exact go (fun t q => XS.aload X.here hx rfl (hb hby hd) hl hv q) k
theorem istore_n (H : OHr p l e R s m args below meth c Z n0 own nm code maxL ret T h ce sl) {k : Fin 4} {v : Int32} (l' : Array Slot) (hd : decode code pc = .ok (.istore_n k, 1)) (hl : storeLocals Ls k.val (.int v) = some l') (k : OEnds p e below s n0 Q C S T (mkF m (pc + 1) l' (st))) : OEnds p e below s n0 Q C S T (mkF m pc Ls (.int v :: st)) := by
  obtain ⟨⟨hx, hZ, hby, hml, hown, hnm, hrt, hlk⟩, locs, X, eT, N, z0⟩ := H
  exact go (fun t q => XS.istoreN X.here hx rfl (hb hby hd) rfl hl q) k
theorem istore (H : OHr p l e R s m args below meth c Z n0 own nm code maxL ret T h ce sl) {k : Nat} {v : Int32} (l' : Array Slot) (hd : decode code pc = .ok (.istore k, 2)) (hl : storeLocals Ls k (.int v) = some l') (k : OEnds p e below s n0 Q C S T (mkF m (pc + 2) l' (st))) : OEnds p e below s n0 Q C S T (mkF m pc Ls (.int v :: st)) := by
  obtain ⟨⟨hx, hZ, hby, hml, hown, hnm, hrt, hlk⟩, locs, X, eT, N, z0⟩ := H
  exact go (fun t q => XS.istore X.here hx rfl (hb hby hd) rfl hl q) k
theorem lstore_n (H : OHr p l e R s m args below meth c Z n0 own nm code maxL ret T h ce sl) {k : Fin 4} {v : Int64} (l' : Array Slot) (hd : decode code pc = .ok (.lstore_n k, 1)) (hl : storeLocals Ls k.val (.long v) = some l') (k : OEnds p e below s n0 Q C S T (mkF m (pc + 1) l' (st))) : OEnds p e below s n0 Q C S T (mkF m pc Ls (.long v :: st)) := by
  obtain ⟨⟨hx, hZ, hby, hml, hown, hnm, hrt, hlk⟩, locs, X, eT, N, z0⟩ := H
  exact go (fun t q => XT.lstoreN X.here hx rfl (hb hby hd) rfl hl q) k
theorem lstore (H : OHr p l e R s m args below meth c Z n0 own nm code maxL ret T h ce sl) {k : Nat} {v : Int64} (l' : Array Slot) (hd : decode code pc = .ok (.lstore k, 2)) (hl : storeLocals Ls k (.long v) = some l') (k : OEnds p e below s n0 Q C S T (mkF m (pc + 2) l' (st))) : OEnds p e below s n0 Q C S T (mkF m pc Ls (.long v :: st)) := by
  obtain ⟨⟨hx, hZ, hby, hml, hown, hnm, hrt, hlk⟩, locs, X, eT, N, z0⟩ := H
  exact go (fun t q => XT.lstore X.here hx rfl (hb hby hd) rfl hl q) k
theorem astore_n (H : OHr p l e R s m args below meth c Z n0 own nm code maxL ret T h ce sl) {k : Fin 4} {v : Value} (l' : Array Slot) (hd : decode code pc = .ok (.astore_n k, 1)) (hv : v.isRef = true) (hl : storeLocals Ls k.val v = some l') (k : OEnds p e below s n0 Q C S T (mkF m (pc + 1) l' (st))) : OEnds p e below s n0 Q C S T (mkF m pc Ls (v :: st)) := by
  obtain ⟨⟨hx, hZ, hby, hml, hown, hnm, hrt, hlk⟩, locs, X, eT, N, z0⟩ := H
  exact go (fun t q => XS.astoreN X.here hx rfl (hb hby hd) rfl hv hl q) k
theorem astore (H : OHr p l e R s m args below meth c Z n0 own nm code maxL ret T h ce sl) {k : Nat} {v : Value} (l' : Array Slot) (hd : decode code pc = .ok (.astore k, 2)) (hv : v.isRef = true) (hl : storeLocals Ls k v = some l') (k : OEnds p e below s n0 Q C S T (mkF m (pc + 2) l' (st))) : OEnds p e below s n0 Q C S T (mkF m pc Ls (v :: st)) := by
  obtain ⟨⟨hx, hZ, hby, hml, hown, hnm, hrt, hlk⟩, locs, X, eT, N, z0⟩ := H
  exact go (fun t q => XS.astore X.here hx rfl (hb hby hd) rfl hv hl q) k
theorem iinc (H : OHr p l e R s m args below meth c Z n0 own nm code maxL ret T h ce sl) {k : Nat} {cst : Int} {x : Int32} (d : Int32) (l' : Array Slot) (hd : decode code pc = .ok (.iinc k cst, 3)) (hl : Ls[k]? = some (.val (.int x))) (hv : Int32.ofInt cst = d) (hl' : storeLocals Ls k (.int (x + d)) = some l') (k : OEnds p e below s n0 Q C S T (mkF m (pc + 3) l' (st))) : OEnds p e below s n0 Q C S T (mkF m pc Ls (st)) := by
  obtain ⟨⟨hx, hZ, hby, hml, hown, hnm, hrt, hlk⟩, locs, X, eT, N, z0⟩ := H
  exact go (fun t q => XS.iinc X.here hx rfl (hb hby hd) hl (by rw [hv]; exact hl') q) k
theorem iinc_c (H : OHr p l e R s m args below meth c Z n0 own nm code maxL ret T h ce sl) {k : Nat} {cst : Int} {x : Int32} (r : Int32) (l' : Array Slot) (hd : decode code pc = .ok (.iinc k cst, 3)) (hl : Ls[k]? = some (.val (.int x))) (hr : x + Int32.ofInt cst = r) (hl' : storeLocals Ls k (.int r) = some l') (kk : OEnds p e below s n0 Q C S T (mkF m (pc + 3) l' st)) : OEnds p e below s n0 Q C S T (mkF m pc Ls st) := by
  subst hr
  exact iinc H _ l' hd hl rfl hl' kk
theorem iconst (H : OHr p l e R s m args below meth c Z n0 own nm code maxL ret T h ce sl) {i : Int} (v : Int32) (hd : decode code pc = .ok (.iconst i, 1)) (hv : Int32.ofInt i = v) (k : OEnds p e below s n0 Q C S T (mkF m (pc + 1) Ls (.int v :: st))) : OEnds p e below s n0 Q C S T (mkF m pc Ls st) := by
  obtain ⟨⟨hx, hZ, hby, hml, hown, hnm, hrt, hlk⟩, locs, X, eT, N, z0⟩ := H
  subst hv
  exact go (fun t q => XS.iconst X.here hx rfl (hb hby hd) q) k
theorem bipush (H : OHr p l e R s m args below meth c Z n0 own nm code maxL ret T h ce sl) {i : Int} (v : Int32) (hd : decode code pc = .ok (.bipush i, 2)) (hv : (Int8.ofInt i).toInt32 = v) (k : OEnds p e below s n0 Q C S T (mkF m (pc + 2) Ls (.int v :: st))) : OEnds p e below s n0 Q C S T (mkF m pc Ls st) := by
  obtain ⟨⟨hx, hZ, hby, hml, hown, hnm, hrt, hlk⟩, locs, X, eT, N, z0⟩ := H
  subst hv
  exact go (fun t q => XS.bipush X.here hx rfl (hb hby hd) q) k
theorem sipush (H : OHr p l e R s m args below meth c Z n0 own nm code maxL ret T h ce sl) {i : Int} (v : Int32) (hd : decode code pc = .ok (.sipush i, 3)) (hv : (Int16.ofInt i).toInt32 = v) (k : OEnds p e below s n0 Q C S T (mkF m (pc + 3) Ls (.int v :: st))) : OEnds p e below s n0 Q C S T (mkF m pc Ls st) := by
  obtain ⟨⟨hx, hZ, hby, hml, hown, hnm, hrt, hlk⟩, locs, X, eT, N, z0⟩ := H
  subst hv
  exact go (fun t q => XS.sipush X.here hx rfl (hb hby hd) q) k
theorem lconst (H : OHr p l e R s m args below meth c Z n0 own nm code maxL ret T h ce sl) {i : Fin 2} (v : Int64) (hd : decode code pc = .ok (.lconst i, 1)) (hv : Int64.ofNat i = v) (k : OEnds p e below s n0 Q C S T (mkF m (pc + 1) Ls (.long v :: st))) : OEnds p e below s n0 Q C S T (mkF m pc Ls st) := by
  obtain ⟨⟨hx, hZ, hby, hml, hown, hnm, hrt, hlk⟩, locs, X, eT, N, z0⟩ := H
  subst hv
  exact go (fun t q => XT.lconst X.here hx rfl (hb hby hd) q) k
theorem aconst_null (H : OHr p l e R s m args below meth c Z n0 own nm code maxL ret T h ce sl)  (hd : decode code pc = .ok (.aconst_null, 1))  (k : OEnds p e below s n0 Q C S T (mkF m (pc + 1) Ls (.null :: st))) : OEnds p e below s n0 Q C S T (mkF m pc Ls (st)) := by
  obtain ⟨⟨hx, hZ, hby, hml, hown, hnm, hrt, hlk⟩, locs, X, eT, N, z0⟩ := H
  exact go (fun t q => XS.aconstNull X.here hx rfl (hb hby hd) q) k
theorem ldc (H : OHr p l e R s m args below meth c Z n0 own nm code maxL ret T h ce sl) {i : Nat} {v : Int32} (hd : decode code pc = .ok (.ldc i, 2)) (w : (Cond.constant own i v).before a0 Z = true) (k : OEnds p e below s n0 Q C S T (mkF m (pc + 2) Ls (.int v :: st))) : OEnds p e below s n0 Q C S T (mkF m pc Ls st) := by
  obtain ⟨⟨hx, hZ, hby, hml, hown, hnm, hrt, hlk⟩, locs, X, eT, N, z0⟩ := H
  exact go (X.ldcInt hx hown (mvT hZ w) rfl (hb hby hd)) k
theorem ldc2_w (H : OHr p l e R s m args below meth c Z n0 own nm code maxL ret T h ce sl) {i : Nat} {v : Int64} (hd : decode code pc = .ok (.ldc2_w i, 3)) (w : (Cond.constantLong own i v).before a0 Z = true) (k : OEnds p e below s n0 Q C S T (mkF m (pc + 3) Ls (.long v :: st))) : OEnds p e below s n0 Q C S T (mkF m pc Ls st) := by
  obtain ⟨⟨hx, hZ, hby, hml, hown, hnm, hrt, hlk⟩, locs, X, eT, N, z0⟩ := H
  exact go (X.ldc2Long hx hown (mvT hZ w) rfl (hb hby hd)) k
theorem iadd (H : OHr p l e R s m args below meth c Z n0 own nm code maxL ret T h ce sl) {x y : Int32} (hd : decode code pc = .ok (.iadd, 1))  (k : OEnds p e below s n0 Q C S T (mkF m (pc + 1) Ls (.int (x + y) :: st))) : OEnds p e below s n0 Q C S T (mkF m pc Ls (.int y :: .int x :: st)) := by
  obtain ⟨⟨hx, hZ, hby, hml, hown, hnm, hrt, hlk⟩, locs, X, eT, N, z0⟩ := H
  exact go (fun t q => XS.iadd X.here hx rfl (hb hby hd) rfl q) k
theorem isub (H : OHr p l e R s m args below meth c Z n0 own nm code maxL ret T h ce sl) {x y : Int32} (hd : decode code pc = .ok (.isub, 1))  (k : OEnds p e below s n0 Q C S T (mkF m (pc + 1) Ls (.int (x - y) :: st))) : OEnds p e below s n0 Q C S T (mkF m pc Ls (.int y :: .int x :: st)) := by
  obtain ⟨⟨hx, hZ, hby, hml, hown, hnm, hrt, hlk⟩, locs, X, eT, N, z0⟩ := H
  exact go (fun t q => XS.isub X.here hx rfl (hb hby hd) rfl q) k
theorem imul (H : OHr p l e R s m args below meth c Z n0 own nm code maxL ret T h ce sl) {x y : Int32} (hd : decode code pc = .ok (.imul, 1))  (k : OEnds p e below s n0 Q C S T (mkF m (pc + 1) Ls (.int (x * y) :: st))) : OEnds p e below s n0 Q C S T (mkF m pc Ls (.int y :: .int x :: st)) := by
  obtain ⟨⟨hx, hZ, hby, hml, hown, hnm, hrt, hlk⟩, locs, X, eT, N, z0⟩ := H
  exact go (fun t q => XS.imul X.here hx rfl (hb hby hd) rfl q) k
theorem iand (H : OHr p l e R s m args below meth c Z n0 own nm code maxL ret T h ce sl) {x y : Int32} (hd : decode code pc = .ok (.iand, 1))  (k : OEnds p e below s n0 Q C S T (mkF m (pc + 1) Ls (.int (x &&& y) :: st))) : OEnds p e below s n0 Q C S T (mkF m pc Ls (.int y :: .int x :: st)) := by
  obtain ⟨⟨hx, hZ, hby, hml, hown, hnm, hrt, hlk⟩, locs, X, eT, N, z0⟩ := H
  exact go (fun t q => XS.iand X.here hx rfl (hb hby hd) rfl q) k
theorem ior (H : OHr p l e R s m args below meth c Z n0 own nm code maxL ret T h ce sl) {x y : Int32} (hd : decode code pc = .ok (.ior, 1))  (k : OEnds p e below s n0 Q C S T (mkF m (pc + 1) Ls (.int (x ||| y) :: st))) : OEnds p e below s n0 Q C S T (mkF m pc Ls (.int y :: .int x :: st)) := by
  obtain ⟨⟨hx, hZ, hby, hml, hown, hnm, hrt, hlk⟩, locs, X, eT, N, z0⟩ := H
  exact go (fun t q => XT.ior X.here hx rfl (hb hby hd) rfl q) k
theorem ixor (H : OHr p l e R s m args below meth c Z n0 own nm code maxL ret T h ce sl) {x y : Int32} (hd : decode code pc = .ok (.ixor, 1))  (k : OEnds p e below s n0 Q C S T (mkF m (pc + 1) Ls (.int (x ^^^ y) :: st))) : OEnds p e below s n0 Q C S T (mkF m pc Ls (.int y :: .int x :: st)) := by
  obtain ⟨⟨hx, hZ, hby, hml, hown, hnm, hrt, hlk⟩, locs, X, eT, N, z0⟩ := H
  exact go (fun t q => XT.ixor X.here hx rfl (hb hby hd) rfl q) k
theorem ishl (H : OHr p l e R s m args below meth c Z n0 own nm code maxL ret T h ce sl) {x y : Int32} (hd : decode code pc = .ok (.ishl, 1))  (k : OEnds p e below s n0 Q C S T (mkF m (pc + 1) Ls (.int (x <<< (y &&& 31)) :: st))) : OEnds p e below s n0 Q C S T (mkF m pc Ls (.int y :: .int x :: st)) := by
  obtain ⟨⟨hx, hZ, hby, hml, hown, hnm, hrt, hlk⟩, locs, X, eT, N, z0⟩ := H
  exact go (fun t q => XT.ishl X.here hx rfl (hb hby hd) rfl q) k
theorem ishr (H : OHr p l e R s m args below meth c Z n0 own nm code maxL ret T h ce sl) {x y : Int32} (hd : decode code pc = .ok (.ishr, 1))  (k : OEnds p e below s n0 Q C S T (mkF m (pc + 1) Ls (.int (x >>> (y &&& 31)) :: st))) : OEnds p e below s n0 Q C S T (mkF m pc Ls (.int y :: .int x :: st)) := by
  obtain ⟨⟨hx, hZ, hby, hml, hown, hnm, hrt, hlk⟩, locs, X, eT, N, z0⟩ := H
  exact go (fun t q => XT.ishr X.here hx rfl (hb hby hd) rfl q) k
theorem iushr (H : OHr p l e R s m args below meth c Z n0 own nm code maxL ret T h ce sl) {x y : Int32} (hd : decode code pc = .ok (.iushr, 1))  (k : OEnds p e below s n0 Q C S T (mkF m (pc + 1) Ls (.int (XT.ushr x y) :: st))) : OEnds p e below s n0 Q C S T (mkF m pc Ls (.int y :: .int x :: st)) := by
  obtain ⟨⟨hx, hZ, hby, hml, hown, hnm, hrt, hlk⟩, locs, X, eT, N, z0⟩ := H
  exact go (fun t q => XT.iushr X.here hx rfl (hb hby hd) rfl q) k
theorem idiv (H : OHr p l e R s m args below meth c Z n0 own nm code maxL ret T h ce sl) {x y : Int32} (hd : decode code pc = .ok (.idiv, 1)) (hy : y ≠ 0) (k : OEnds p e below s n0 Q C S T (mkF m (pc + 1) Ls (.int (x / y) :: st))) : OEnds p e below s n0 Q C S T (mkF m pc Ls (.int y :: .int x :: st)) := by
  obtain ⟨⟨hx, hZ, hby, hml, hown, hnm, hrt, hlk⟩, locs, X, eT, N, z0⟩ := H
  exact go (fun t q => XS.idiv X.here hx rfl (hb hby hd) rfl hy q) k
theorem irem (H : OHr p l e R s m args below meth c Z n0 own nm code maxL ret T h ce sl) {x y : Int32} (hd : decode code pc = .ok (.irem, 1)) (hy : y ≠ 0) (k : OEnds p e below s n0 Q C S T (mkF m (pc + 1) Ls (.int (x % y) :: st))) : OEnds p e below s n0 Q C S T (mkF m pc Ls (.int y :: .int x :: st)) := by
  obtain ⟨⟨hx, hZ, hby, hml, hown, hnm, hrt, hlk⟩, locs, X, eT, N, z0⟩ := H
  exact go (fun t q => iremM X hx rfl (hb hby hd) rfl hy q) k
theorem iadd_c (H : OHr p l e R s m args below meth c Z n0 own nm code maxL ret T h ce sl) {x y : Int32} (r : Int32) (hd : decode code pc = .ok (.iadd, 1)) (hr : x + y = r) (k : OEnds p e below s n0 Q C S T (mkF m (pc + 1) Ls (.int r :: st))) : OEnds p e below s n0 Q C S T (mkF m pc Ls (.int y :: .int x :: st)) := by
  subst hr
  exact iadd H hd k
theorem isub_c (H : OHr p l e R s m args below meth c Z n0 own nm code maxL ret T h ce sl) {x y : Int32} (r : Int32) (hd : decode code pc = .ok (.isub, 1)) (hr : x - y = r) (k : OEnds p e below s n0 Q C S T (mkF m (pc + 1) Ls (.int r :: st))) : OEnds p e below s n0 Q C S T (mkF m pc Ls (.int y :: .int x :: st)) := by
  subst hr
  exact isub H hd k
theorem imul_c (H : OHr p l e R s m args below meth c Z n0 own nm code maxL ret T h ce sl) {x y : Int32} (r : Int32) (hd : decode code pc = .ok (.imul, 1)) (hr : x * y = r) (k : OEnds p e below s n0 Q C S T (mkF m (pc + 1) Ls (.int r :: st))) : OEnds p e below s n0 Q C S T (mkF m pc Ls (.int y :: .int x :: st)) := by
  subst hr
  exact imul H hd k
theorem iand_c (H : OHr p l e R s m args below meth c Z n0 own nm code maxL ret T h ce sl) {x y : Int32} (r : Int32) (hd : decode code pc = .ok (.iand, 1)) (hr : x &&& y = r) (k : OEnds p e below s n0 Q C S T (mkF m (pc + 1) Ls (.int r :: st))) : OEnds p e below s n0 Q C S T (mkF m pc Ls (.int y :: .int x :: st)) := by
  subst hr
  exact iand H hd k
theorem ior_c (H : OHr p l e R s m args below meth c Z n0 own nm code maxL ret T h ce sl) {x y : Int32} (r : Int32) (hd : decode code pc = .ok (.ior, 1)) (hr : x ||| y = r) (k : OEnds p e below s n0 Q C S T (mkF m (pc + 1) Ls (.int r :: st))) : OEnds p e below s n0 Q C S T (mkF m pc Ls (.int y :: .int x :: st)) := by
  subst hr
  exact ior H hd k
theorem ixor_c (H : OHr p l e R s m args below meth c Z n0 own nm code maxL ret T h ce sl) {x y : Int32} (r : Int32) (hd : decode code pc = .ok (.ixor, 1)) (hr : x ^^^ y = r) (k : OEnds p e below s n0 Q C S T (mkF m (pc + 1) Ls (.int r :: st))) : OEnds p e below s n0 Q C S T (mkF m pc Ls (.int y :: .int x :: st)) := by
  subst hr
  exact ixor H hd k
theorem ishl_c (H : OHr p l e R s m args below meth c Z n0 own nm code maxL ret T h ce sl) {x y : Int32} (r : Int32) (hd : decode code pc = .ok (.ishl, 1)) (hr : x <<< (y &&& 31) = r) (k : OEnds p e below s n0 Q C S T (mkF m (pc + 1) Ls (.int r :: st))) : OEnds p e below s n0 Q C S T (mkF m pc Ls (.int y :: .int x :: st)) := by
  subst hr
  exact ishl H hd k
theorem ishr_c (H : OHr p l e R s m args below meth c Z n0 own nm code maxL ret T h ce sl) {x y : Int32} (r : Int32) (hd : decode code pc = .ok (.ishr, 1)) (hr : x >>> (y &&& 31) = r) (k : OEnds p e below s n0 Q C S T (mkF m (pc + 1) Ls (.int r :: st))) : OEnds p e below s n0 Q C S T (mkF m pc Ls (.int y :: .int x :: st)) := by
  subst hr
  exact ishr H hd k
theorem iushr_c (H : OHr p l e R s m args below meth c Z n0 own nm code maxL ret T h ce sl) {x y : Int32} (r : Int32) (hd : decode code pc = .ok (.iushr, 1)) (hr : XT.ushr x y = r) (k : OEnds p e below s n0 Q C S T (mkF m (pc + 1) Ls (.int r :: st))) : OEnds p e below s n0 Q C S T (mkF m pc Ls (.int y :: .int x :: st)) := by
  subst hr
  exact iushr H hd k
theorem idiv_c (H : OHr p l e R s m args below meth c Z n0 own nm code maxL ret T h ce sl) {x y : Int32} (r : Int32) (hd : decode code pc = .ok (.idiv, 1)) (hy : y ≠ 0) (hr : x / y = r) (k : OEnds p e below s n0 Q C S T (mkF m (pc + 1) Ls (.int r :: st))) : OEnds p e below s n0 Q C S T (mkF m pc Ls (.int y :: .int x :: st)) := by
  subst hr
  exact idiv H hd hy k
theorem irem_c (H : OHr p l e R s m args below meth c Z n0 own nm code maxL ret T h ce sl) {x y : Int32} (r : Int32) (hd : decode code pc = .ok (.irem, 1)) (hy : y ≠ 0) (hr : x % y = r) (k : OEnds p e below s n0 Q C S T (mkF m (pc + 1) Ls (.int r :: st))) : OEnds p e below s n0 Q C S T (mkF m pc Ls (.int y :: .int x :: st)) := by
  subst hr
  exact irem H hd hy k
theorem ineg (H : OHr p l e R s m args below meth c Z n0 own nm code maxL ret T h ce sl) {x : Int32} (hd : decode code pc = .ok (.ineg, 1))  (k : OEnds p e below s n0 Q C S T (mkF m (pc + 1) Ls (.int (-x) :: st))) : OEnds p e below s n0 Q C S T (mkF m pc Ls (.int x :: st)) := by
  obtain ⟨⟨hx, hZ, hby, hml, hown, hnm, hrt, hlk⟩, locs, X, eT, N, z0⟩ := H
  exact go (fun t q => XS.ineg X.here hx rfl (hb hby hd) rfl q) k
theorem ladd (H : OHr p l e R s m args below meth c Z n0 own nm code maxL ret T h ce sl) {x y : Int64} (hd : decode code pc = .ok (.ladd, 1))  (k : OEnds p e below s n0 Q C S T (mkF m (pc + 1) Ls (.long (x + y) :: st))) : OEnds p e below s n0 Q C S T (mkF m pc Ls (.long y :: .long x :: st)) := by
  obtain ⟨⟨hx, hZ, hby, hml, hown, hnm, hrt, hlk⟩, locs, X, eT, N, z0⟩ := H
  exact go (fun t q => XT.ladd X.here hx rfl (hb hby hd) rfl q) k
theorem lsub (H : OHr p l e R s m args below meth c Z n0 own nm code maxL ret T h ce sl) {x y : Int64} (hd : decode code pc = .ok (.lsub, 1))  (k : OEnds p e below s n0 Q C S T (mkF m (pc + 1) Ls (.long (x - y) :: st))) : OEnds p e below s n0 Q C S T (mkF m pc Ls (.long y :: .long x :: st)) := by
  obtain ⟨⟨hx, hZ, hby, hml, hown, hnm, hrt, hlk⟩, locs, X, eT, N, z0⟩ := H
  exact go (fun t q => XT.lsub X.here hx rfl (hb hby hd) rfl q) k
theorem lmul (H : OHr p l e R s m args below meth c Z n0 own nm code maxL ret T h ce sl) {x y : Int64} (hd : decode code pc = .ok (.lmul, 1))  (k : OEnds p e below s n0 Q C S T (mkF m (pc + 1) Ls (.long (x * y) :: st))) : OEnds p e below s n0 Q C S T (mkF m pc Ls (.long y :: .long x :: st)) := by
  obtain ⟨⟨hx, hZ, hby, hml, hown, hnm, hrt, hlk⟩, locs, X, eT, N, z0⟩ := H
  exact go (fun t q => XT.lmul X.here hx rfl (hb hby hd) rfl q) k
theorem land (H : OHr p l e R s m args below meth c Z n0 own nm code maxL ret T h ce sl) {x y : Int64} (hd : decode code pc = .ok (.land, 1))  (k : OEnds p e below s n0 Q C S T (mkF m (pc + 1) Ls (.long (x &&& y) :: st))) : OEnds p e below s n0 Q C S T (mkF m pc Ls (.long y :: .long x :: st)) := by
  obtain ⟨⟨hx, hZ, hby, hml, hown, hnm, hrt, hlk⟩, locs, X, eT, N, z0⟩ := H
  exact go (fun t q => XT.land X.here hx rfl (hb hby hd) rfl q) k
theorem lor (H : OHr p l e R s m args below meth c Z n0 own nm code maxL ret T h ce sl) {x y : Int64} (hd : decode code pc = .ok (.lor, 1))  (k : OEnds p e below s n0 Q C S T (mkF m (pc + 1) Ls (.long (x ||| y) :: st))) : OEnds p e below s n0 Q C S T (mkF m pc Ls (.long y :: .long x :: st)) := by
  obtain ⟨⟨hx, hZ, hby, hml, hown, hnm, hrt, hlk⟩, locs, X, eT, N, z0⟩ := H
  exact go (fun t q => XT.lor X.here hx rfl (hb hby hd) rfl q) k
theorem lxor (H : OHr p l e R s m args below meth c Z n0 own nm code maxL ret T h ce sl) {x y : Int64} (hd : decode code pc = .ok (.lxor, 1))  (k : OEnds p e below s n0 Q C S T (mkF m (pc + 1) Ls (.long (x ^^^ y) :: st))) : OEnds p e below s n0 Q C S T (mkF m pc Ls (.long y :: .long x :: st)) := by
  obtain ⟨⟨hx, hZ, hby, hml, hown, hnm, hrt, hlk⟩, locs, X, eT, N, z0⟩ := H
  exact go (fun t q => XT.lxor X.here hx rfl (hb hby hd) rfl q) k
theorem lshl (H : OHr p l e R s m args below meth c Z n0 own nm code maxL ret T h ce sl) {x : Int64} {y : Int32} (hd : decode code pc = .ok (.lshl, 1))  (k : OEnds p e below s n0 Q C S T (mkF m (pc + 1) Ls (.long (x <<< (y.toInt64 &&& 63)) :: st))) : OEnds p e below s n0 Q C S T (mkF m pc Ls (.int y :: .long x :: st)) := by
  obtain ⟨⟨hx, hZ, hby, hml, hown, hnm, hrt, hlk⟩, locs, X, eT, N, z0⟩ := H
  exact go (fun t q => XT.lshl X.here hx rfl (hb hby hd) rfl q) k
theorem lshr (H : OHr p l e R s m args below meth c Z n0 own nm code maxL ret T h ce sl) {x : Int64} {y : Int32} (hd : decode code pc = .ok (.lshr, 1))  (k : OEnds p e below s n0 Q C S T (mkF m (pc + 1) Ls (.long (x >>> (y.toInt64 &&& 63)) :: st))) : OEnds p e below s n0 Q C S T (mkF m pc Ls (.int y :: .long x :: st)) := by
  obtain ⟨⟨hx, hZ, hby, hml, hown, hnm, hrt, hlk⟩, locs, X, eT, N, z0⟩ := H
  exact go (fun t q => XT.lshr X.here hx rfl (hb hby hd) rfl q) k
theorem lushr (H : OHr p l e R s m args below meth c Z n0 own nm code maxL ret T h ce sl) {x : Int64} {y : Int32} (hd : decode code pc = .ok (.lushr, 1))  (k : OEnds p e below s n0 Q C S T (mkF m (pc + 1) Ls (.long (XT.ushrL x y) :: st))) : OEnds p e below s n0 Q C S T (mkF m pc Ls (.int y :: .long x :: st)) := by
  obtain ⟨⟨hx, hZ, hby, hml, hown, hnm, hrt, hlk⟩, locs, X, eT, N, z0⟩ := H
  exact go (fun t q => XT.lushr X.here hx rfl (hb hby hd) rfl q) k
theorem lneg (H : OHr p l e R s m args below meth c Z n0 own nm code maxL ret T h ce sl) {x : Int64} (hd : decode code pc = .ok (.lneg, 1))  (k : OEnds p e below s n0 Q C S T (mkF m (pc + 1) Ls (.long (-x) :: st))) : OEnds p e below s n0 Q C S T (mkF m pc Ls (.long x :: st)) := by
  obtain ⟨⟨hx, hZ, hby, hml, hown, hnm, hrt, hlk⟩, locs, X, eT, N, z0⟩ := H
  exact go (fun t q => XT.lneg X.here hx rfl (hb hby hd) rfl q) k
theorem i2l (H : OHr p l e R s m args below meth c Z n0 own nm code maxL ret T h ce sl) {x : Int32} (hd : decode code pc = .ok (.i2l, 1))  (k : OEnds p e below s n0 Q C S T (mkF m (pc + 1) Ls (.long x.toInt64 :: st))) : OEnds p e below s n0 Q C S T (mkF m pc Ls (.int x :: st)) := by
  obtain ⟨⟨hx, hZ, hby, hml, hown, hnm, hrt, hlk⟩, locs, X, eT, N, z0⟩ := H
  exact go (fun t q => XT.i2l X.here hx rfl (hb hby hd) rfl q) k
theorem l2i (H : OHr p l e R s m args below meth c Z n0 own nm code maxL ret T h ce sl) {x : Int64} (hd : decode code pc = .ok (.l2i, 1))  (k : OEnds p e below s n0 Q C S T (mkF m (pc + 1) Ls (.int x.toInt32 :: st))) : OEnds p e below s n0 Q C S T (mkF m pc Ls (.long x :: st)) := by
  obtain ⟨⟨hx, hZ, hby, hml, hown, hnm, hrt, hlk⟩, locs, X, eT, N, z0⟩ := H
  exact go (fun t q => XT.l2i X.here hx rfl (hb hby hd) rfl q) k
theorem i2b (H : OHr p l e R s m args below meth c Z n0 own nm code maxL ret T h ce sl) {x : Int32} (hd : decode code pc = .ok (.i2b, 1))  (k : OEnds p e below s n0 Q C S T (mkF m (pc + 1) Ls (.int x.toInt8.toInt32 :: st))) : OEnds p e below s n0 Q C S T (mkF m pc Ls (.int x :: st)) := by
  obtain ⟨⟨hx, hZ, hby, hml, hown, hnm, hrt, hlk⟩, locs, X, eT, N, z0⟩ := H
  exact go (fun t q => XT.i2b X.here hx rfl (hb hby hd) rfl q) k
theorem i2c (H : OHr p l e R s m args below meth c Z n0 own nm code maxL ret T h ce sl) {x : Int32} (hd : decode code pc = .ok (.i2c, 1))  (k : OEnds p e below s n0 Q C S T (mkF m (pc + 1) Ls (.int x.toUInt32.toUInt16.toUInt32.toInt32 :: st))) : OEnds p e below s n0 Q C S T (mkF m pc Ls (.int x :: st)) := by
  obtain ⟨⟨hx, hZ, hby, hml, hown, hnm, hrt, hlk⟩, locs, X, eT, N, z0⟩ := H
  exact go (fun t q => XT.i2c X.here hx rfl (hb hby hd) rfl q) k
theorem lcmp (H : OHr p l e R s m args below meth c Z n0 own nm code maxL ret T h ce sl) {x y : Int64} (hd : decode code pc = .ok (.lcmp, 1))  (k : OEnds p e below s n0 Q C S T (mkF m (pc + 1) Ls (.int (XT.cmpL x y) :: st))) : OEnds p e below s n0 Q C S T (mkF m pc Ls (.long y :: .long x :: st)) := by
  obtain ⟨⟨hx, hZ, hby, hml, hown, hnm, hrt, hlk⟩, locs, X, eT, N, z0⟩ := H
  exact go (fun t q => XT.lcmp X.here hx rfl (hb hby hd) rfl q) k
theorem dup (H : OHr p l e R s m args below meth c Z n0 own nm code maxL ret T h ce sl) {x : Value} (hd : decode code pc = .ok (.dup, 1)) (hc : x.category = 1) (k : OEnds p e below s n0 Q C S T (mkF m (pc + 1) Ls (x :: x :: st))) : OEnds p e below s n0 Q C S T (mkF m pc Ls (x :: st)) := by
  obtain ⟨⟨hx, hZ, hby, hml, hown, hnm, hrt, hlk⟩, locs, X, eT, N, z0⟩ := H
  exact go (fun t q => XS.dup X.here hx rfl (hb hby hd) rfl hc q) k
theorem pop (H : OHr p l e R s m args below meth c Z n0 own nm code maxL ret T h ce sl) {x : Value} (hd : decode code pc = .ok (.pop, 1)) (hc : x.category = 1) (k : OEnds p e below s n0 Q C S T (mkF m (pc + 1) Ls (st))) : OEnds p e below s n0 Q C S T (mkF m pc Ls (x :: st)) := by
  obtain ⟨⟨hx, hZ, hby, hml, hown, hnm, hrt, hlk⟩, locs, X, eT, N, z0⟩ := H
  exact go (fun t q => XT.pop X.here hx rfl (hb hby hd) rfl hc q) k
theorem dup_x1 (H : OHr p l e R s m args below meth c Z n0 own nm code maxL ret T h ce sl) {x y : Value} (hd : decode code pc = .ok (.dup_x1, 1)) (hc : x.category = 1) (hc' : y.category = 1) (k : OEnds p e below s n0 Q C S T (mkF m (pc + 1) Ls (x :: y :: x :: st))) : OEnds p e below s n0 Q C S T (mkF m pc Ls (x :: y :: st)) := by
  obtain ⟨⟨hx, hZ, hby, hml, hown, hnm, hrt, hlk⟩, locs, X, eT, N, z0⟩ := H
  exact go (fun t q => XT.dupX1 X.here hx rfl (hb hby hd) rfl hc hc' q) k
theorem dup2 (H : OHr p l e R s m args below meth c Z n0 own nm code maxL ret T h ce sl) {x y : Value} (hd : decode code pc = .ok (.dup2, 1)) (hc : x.category = 1) (hc' : y.category = 1) (k : OEnds p e below s n0 Q C S T (mkF m (pc + 1) Ls (x :: y :: x :: y :: st))) : OEnds p e below s n0 Q C S T (mkF m pc Ls (x :: y :: st)) := by
  obtain ⟨⟨hx, hZ, hby, hml, hown, hnm, hrt, hlk⟩, locs, X, eT, N, z0⟩ := H
  exact go (fun t q => XT.dup2 X.here hx rfl (hb hby hd) rfl hc hc' q) k
theorem goto (H : OHr p l e R s m args below meth c Z n0 own nm code maxL ret T h ce sl) {o : Int} (pc' : Nat) (hd : decode code pc = .ok (.goto o, 3)) (ho : 0 ≤ (pc : Int) + o) (hp : ((pc : Int) + o).toNat = pc') (k : OEnds p e below s n0 Q C S T (mkF m pc' Ls st)) : OEnds p e below s n0 Q C S T (mkF m pc Ls st) := by
  obtain ⟨⟨hx, hZ, hby, hml, hown, hnm, hrt, hlk⟩, locs, X, eT, N, z0⟩ := H
  exact go (fun t q => XS.goto X.here hx rfl rfl (hb hby hd) ho hp q) k
theorem icmp_lt (H : OHr p l e R s m args below meth c Z n0 own nm code maxL ret T h ce sl) {x y : Int32} {o : Int} (pc' : Nat) (hd : decode code pc = .ok (.if_icmp .lt o, 3)) (ho : 0 ≤ (pc : Int) + o) (hp : ((pc : Int) + o).toNat = pc') (kt : x < y → OEnds p e below s n0 Q C S T (mkF m pc' Ls st)) (kf : ¬ x < y → OEnds p e below s n0 Q C S T (mkF m (pc + 3) Ls st)) : OEnds p e below s n0 Q C S T (mkF m pc Ls (.int y :: .int x :: st)) := by
  obtain ⟨⟨hx, hZ, hby, hml, hown, hnm, hrt, hlk⟩, locs, X, eT, N, z0⟩ := H
  by_cases q : x < y
  · exact go (fun t r => XS.icmpYes X.here hx rfl rfl (hb hby hd) rfl (tlt q).1 ho hp r) (kt q)
  · exact go (fun t r => XS.icmpNo X.here hx rfl (hb hby hd) rfl (flt q).1 r) (kf q)
theorem if_lt (H : OHr p l e R s m args below meth c Z n0 own nm code maxL ret T h ce sl) {x : Int32} {o : Int} (pc' : Nat) (hd : decode code pc = .ok (.ifCond .lt o, 3)) (ho : 0 ≤ (pc : Int) + o) (hp : ((pc : Int) + o).toNat = pc') (kt : x < (0 : Int32) → OEnds p e below s n0 Q C S T (mkF m pc' Ls st)) (kf : ¬ x < (0 : Int32) → OEnds p e below s n0 Q C S T (mkF m (pc + 3) Ls st)) : OEnds p e below s n0 Q C S T (mkF m pc Ls (.int x :: st)) := by
  obtain ⟨⟨hx, hZ, hby, hml, hown, hnm, hrt, hlk⟩, locs, X, eT, N, z0⟩ := H
  by_cases q : x < (0 : Int32)
  · exact go (fun t r => XS.ifYes X.here hx rfl rfl (hb hby hd) rfl ((if0 _ _).trans (tlt q).1) ho hp r) (kt q)
  · exact go (fun t r => XS.ifNo X.here hx rfl (hb hby hd) rfl ((if0 _ _).trans (flt q).1) r) (kf q)
theorem icmp_ge (H : OHr p l e R s m args below meth c Z n0 own nm code maxL ret T h ce sl) {x y : Int32} {o : Int} (pc' : Nat) (hd : decode code pc = .ok (.if_icmp .ge o, 3)) (ho : 0 ≤ (pc : Int) + o) (hp : ((pc : Int) + o).toNat = pc') (kt : ¬ x < y → OEnds p e below s n0 Q C S T (mkF m pc' Ls st)) (kf : x < y → OEnds p e below s n0 Q C S T (mkF m (pc + 3) Ls st)) : OEnds p e below s n0 Q C S T (mkF m pc Ls (.int y :: .int x :: st)) := by
  obtain ⟨⟨hx, hZ, hby, hml, hown, hnm, hrt, hlk⟩, locs, X, eT, N, z0⟩ := H
  by_cases q : x < y
  · exact go (fun t r => XS.icmpNo X.here hx rfl (hb hby hd) rfl (tlt q).2.1 r) (kf q)
  · exact go (fun t r => XS.icmpYes X.here hx rfl rfl (hb hby hd) rfl (flt q).2.1 ho hp r) (kt q)
theorem if_ge (H : OHr p l e R s m args below meth c Z n0 own nm code maxL ret T h ce sl) {x : Int32} {o : Int} (pc' : Nat) (hd : decode code pc = .ok (.ifCond .ge o, 3)) (ho : 0 ≤ (pc : Int) + o) (hp : ((pc : Int) + o).toNat = pc') (kt : ¬ x < (0 : Int32) → OEnds p e below s n0 Q C S T (mkF m pc' Ls st)) (kf : x < (0 : Int32) → OEnds p e below s n0 Q C S T (mkF m (pc + 3) Ls st)) : OEnds p e below s n0 Q C S T (mkF m pc Ls (.int x :: st)) := by
  obtain ⟨⟨hx, hZ, hby, hml, hown, hnm, hrt, hlk⟩, locs, X, eT, N, z0⟩ := H
  by_cases q : x < (0 : Int32)
  · exact go (fun t r => XS.ifNo X.here hx rfl (hb hby hd) rfl ((if0 _ _).trans (tlt q).2.1) r) (kf q)
  · exact go (fun t r => XS.ifYes X.here hx rfl rfl (hb hby hd) rfl ((if0 _ _).trans (flt q).2.1) ho hp r) (kt q)
theorem icmp_gt (H : OHr p l e R s m args below meth c Z n0 own nm code maxL ret T h ce sl) {x y : Int32} {o : Int} (pc' : Nat) (hd : decode code pc = .ok (.if_icmp .gt o, 3)) (ho : 0 ≤ (pc : Int) + o) (hp : ((pc : Int) + o).toNat = pc') (kt : y < x → OEnds p e below s n0 Q C S T (mkF m pc' Ls st)) (kf : ¬ y < x → OEnds p e below s n0 Q C S T (mkF m (pc + 3) Ls st)) : OEnds p e below s n0 Q C S T (mkF m pc Ls (.int y :: .int x :: st)) := by
  obtain ⟨⟨hx, hZ, hby, hml, hown, hnm, hrt, hlk⟩, locs, X, eT, N, z0⟩ := H
  by_cases q : y < x
  · exact go (fun t r => XS.icmpYes X.here hx rfl rfl (hb hby hd) rfl (tlt q).2.2.1 ho hp r) (kt q)
  · exact go (fun t r => XS.icmpNo X.here hx rfl (hb hby hd) rfl (flt q).2.2.1 r) (kf q)
theorem if_gt (H : OHr p l e R s m args below meth c Z n0 own nm code maxL ret T h ce sl) {x : Int32} {o : Int} (pc' : Nat) (hd : decode code pc = .ok (.ifCond .gt o, 3)) (ho : 0 ≤ (pc : Int) + o) (hp : ((pc : Int) + o).toNat = pc') (kt : (0 : Int32) < x → OEnds p e below s n0 Q C S T (mkF m pc' Ls st)) (kf : ¬ (0 : Int32) < x → OEnds p e below s n0 Q C S T (mkF m (pc + 3) Ls st)) : OEnds p e below s n0 Q C S T (mkF m pc Ls (.int x :: st)) := by
  obtain ⟨⟨hx, hZ, hby, hml, hown, hnm, hrt, hlk⟩, locs, X, eT, N, z0⟩ := H
  by_cases q : (0 : Int32) < x
  · exact go (fun t r => XS.ifYes X.here hx rfl rfl (hb hby hd) rfl ((if0 _ _).trans (tlt q).2.2.1) ho hp r) (kt q)
  · exact go (fun t r => XS.ifNo X.here hx rfl (hb hby hd) rfl ((if0 _ _).trans (flt q).2.2.1) r) (kf q)
theorem icmp_le (H : OHr p l e R s m args below meth c Z n0 own nm code maxL ret T h ce sl) {x y : Int32} {o : Int} (pc' : Nat) (hd : decode code pc = .ok (.if_icmp .le o, 3)) (ho : 0 ≤ (pc : Int) + o) (hp : ((pc : Int) + o).toNat = pc') (kt : ¬ y < x → OEnds p e below s n0 Q C S T (mkF m pc' Ls st)) (kf : y < x → OEnds p e below s n0 Q C S T (mkF m (pc + 3) Ls st)) : OEnds p e below s n0 Q C S T (mkF m pc Ls (.int y :: .int x :: st)) := by
  obtain ⟨⟨hx, hZ, hby, hml, hown, hnm, hrt, hlk⟩, locs, X, eT, N, z0⟩ := H
  by_cases q : y < x
  · exact go (fun t r => XS.icmpNo X.here hx rfl (hb hby hd) rfl (tlt q).2.2.2 r) (kf q)
  · exact go (fun t r => XS.icmpYes X.here hx rfl rfl (hb hby hd) rfl (flt q).2.2.2 ho hp r) (kt q)
theorem if_le (H : OHr p l e R s m args below meth c Z n0 own nm code maxL ret T h ce sl) {x : Int32} {o : Int} (pc' : Nat) (hd : decode code pc = .ok (.ifCond .le o, 3)) (ho : 0 ≤ (pc : Int) + o) (hp : ((pc : Int) + o).toNat = pc') (kt : ¬ (0 : Int32) < x → OEnds p e below s n0 Q C S T (mkF m pc' Ls st)) (kf : (0 : Int32) < x → OEnds p e below s n0 Q C S T (mkF m (pc + 3) Ls st)) : OEnds p e below s n0 Q C S T (mkF m pc Ls (.int x :: st)) := by
  obtain ⟨⟨hx, hZ, hby, hml, hown, hnm, hrt, hlk⟩, locs, X, eT, N, z0⟩ := H
  by_cases q : (0 : Int32) < x
  · exact go (fun t r => XS.ifNo X.here hx rfl (hb hby hd) rfl ((if0 _ _).trans (tlt q).2.2.2) r) (kf q)
  · exact go (fun t r => XS.ifYes X.here hx rfl rfl (hb hby hd) rfl ((if0 _ _).trans (flt q).2.2.2) ho hp r) (kt q)
theorem icmp_eq (H : OHr p l e R s m args below meth c Z n0 own nm code maxL ret T h ce sl) {x y : Int32} {o : Int} (pc' : Nat) (hd : decode code pc = .ok (.if_icmp .eq o, 3)) (ho : 0 ≤ (pc : Int) + o) (hp : ((pc : Int) + o).toNat = pc') (kt : x = y → OEnds p e below s n0 Q C S T (mkF m pc' Ls st)) (kf : ¬ x = y → OEnds p e below s n0 Q C S T (mkF m (pc + 3) Ls st)) : OEnds p e below s n0 Q C S T (mkF m pc Ls (.int y :: .int x :: st)) := by
  obtain ⟨⟨hx, hZ, hby, hml, hown, hnm, hrt, hlk⟩, locs, X, eT, N, z0⟩ := H
  by_cases q : x = y
  · exact go (fun t r => XS.icmpYes X.here hx rfl rfl (hb hby hd) rfl (teq q).1 ho hp r) (kt q)
  · exact go (fun t r => XS.icmpNo X.here hx rfl (hb hby hd) rfl (feq q).1 r) (kf q)
theorem if_eq (H : OHr p l e R s m args below meth c Z n0 own nm code maxL ret T h ce sl) {x : Int32} {o : Int} (pc' : Nat) (hd : decode code pc = .ok (.ifCond .eq o, 3)) (ho : 0 ≤ (pc : Int) + o) (hp : ((pc : Int) + o).toNat = pc') (kt : x = (0 : Int32) → OEnds p e below s n0 Q C S T (mkF m pc' Ls st)) (kf : ¬ x = (0 : Int32) → OEnds p e below s n0 Q C S T (mkF m (pc + 3) Ls st)) : OEnds p e below s n0 Q C S T (mkF m pc Ls (.int x :: st)) := by
  obtain ⟨⟨hx, hZ, hby, hml, hown, hnm, hrt, hlk⟩, locs, X, eT, N, z0⟩ := H
  by_cases q : x = (0 : Int32)
  · exact go (fun t r => XS.ifYes X.here hx rfl rfl (hb hby hd) rfl ((if0 _ _).trans (teq q).1) ho hp r) (kt q)
  · exact go (fun t r => XS.ifNo X.here hx rfl (hb hby hd) rfl ((if0 _ _).trans (feq q).1) r) (kf q)
theorem icmp_ne (H : OHr p l e R s m args below meth c Z n0 own nm code maxL ret T h ce sl) {x y : Int32} {o : Int} (pc' : Nat) (hd : decode code pc = .ok (.if_icmp .ne o, 3)) (ho : 0 ≤ (pc : Int) + o) (hp : ((pc : Int) + o).toNat = pc') (kt : ¬ x = y → OEnds p e below s n0 Q C S T (mkF m pc' Ls st)) (kf : x = y → OEnds p e below s n0 Q C S T (mkF m (pc + 3) Ls st)) : OEnds p e below s n0 Q C S T (mkF m pc Ls (.int y :: .int x :: st)) := by
  obtain ⟨⟨hx, hZ, hby, hml, hown, hnm, hrt, hlk⟩, locs, X, eT, N, z0⟩ := H
  by_cases q : x = y
  · exact go (fun t r => XS.icmpNo X.here hx rfl (hb hby hd) rfl (teq q).2 r) (kf q)
  · exact go (fun t r => XS.icmpYes X.here hx rfl rfl (hb hby hd) rfl (feq q).2 ho hp r) (kt q)
theorem if_ne (H : OHr p l e R s m args below meth c Z n0 own nm code maxL ret T h ce sl) {x : Int32} {o : Int} (pc' : Nat) (hd : decode code pc = .ok (.ifCond .ne o, 3)) (ho : 0 ≤ (pc : Int) + o) (hp : ((pc : Int) + o).toNat = pc') (kt : ¬ x = (0 : Int32) → OEnds p e below s n0 Q C S T (mkF m pc' Ls st)) (kf : x = (0 : Int32) → OEnds p e below s n0 Q C S T (mkF m (pc + 3) Ls st)) : OEnds p e below s n0 Q C S T (mkF m pc Ls (.int x :: st)) := by
  obtain ⟨⟨hx, hZ, hby, hml, hown, hnm, hrt, hlk⟩, locs, X, eT, N, z0⟩ := H
  by_cases q : x = (0 : Int32)
  · exact go (fun t r => XS.ifNo X.here hx rfl (hb hby hd) rfl ((if0 _ _).trans (teq q).2) r) (kf q)
  · exact go (fun t r => XS.ifYes X.here hx rfl rfl (hb hby hd) rfl ((if0 _ _).trans (feq q).2) ho hp r) (kt q)
theorem ifnull_ref (H : OHr p l e R s m args below meth c Z n0 own nm code maxL ret T h ce sl) {o : Int} {b : Addr} (hd : decode code pc = .ok (.ifnull o, 3)) (k : OEnds p e below s n0 Q C S T (mkF m (pc + 3) Ls st)) : OEnds p e below s n0 Q C S T (mkF m pc Ls (.ref b :: st)) := by
  obtain ⟨⟨hx, hZ, hby, hml, hown, hnm, hrt, hlk⟩, locs, X, eT, N, z0⟩ := H
  exact go (fun t q => XS.ifnullNo X.here hx rfl (hb hby hd) rfl q) k
theorem ifnonnull_ref (H : OHr p l e R s m args below meth c Z n0 own nm code maxL ret T h ce sl) {o : Int} {b : Addr} (pc' : Nat) (hd : decode code pc = .ok (.ifnonnull o, 3)) (ho : 0 ≤ (pc : Int) + o) (hp : ((pc : Int) + o).toNat = pc') (k : OEnds p e below s n0 Q C S T (mkF m pc' Ls st)) : OEnds p e below s n0 Q C S T (mkF m pc Ls (.ref b :: st)) := by
  obtain ⟨⟨hx, hZ, hby, hml, hown, hnm, hrt, hlk⟩, locs, X, eT, N, z0⟩ := H
  exact go (fun t q => XT.ifnonnullYes X.here hx rfl rfl (hb hby hd) rfl ho hp q) k
theorem acmp_ne (H : OHr p l e R s m args below meth c Z n0 own nm code maxL ret T h ce sl) {x y : Value} {o : Int} (pc' : Nat) (hd : decode code pc = .ok (.if_acmp .ne o, 3)) (h1 : x.isRef = true) (h2 : y.isRef = true) (ho : 0 ≤ (pc : Int) + o) (hp : ((pc : Int) + o).toNat = pc') (kt : ¬ x = y → OEnds p e below s n0 Q C S T (mkF m pc' Ls st)) (kf : x = y → OEnds p e below s n0 Q C S T (mkF m (pc + 3) Ls st)) : OEnds p e below s n0 Q C S T (mkF m pc Ls (y :: x :: st)) := by
  obtain ⟨⟨hx, hZ, hby, hml, hown, hnm, hrt, hlk⟩, locs, X, eT, N, z0⟩ := H
  by_cases q : x = y
  · exact go (fun t r => XT.acmpNo X.here hx rfl (hb hby hd) rfl h1 h2 (by simp [XT.acmp, q]) r) (kf q)
  · exact go (fun t r => XT.acmpYes X.here hx rfl rfl (hb hby hd) rfl h1 h2 (by simp [XT.acmp, q]) ho hp r) (kt q)
theorem acmp_eq (H : OHr p l e R s m args below meth c Z n0 own nm code maxL ret T h ce sl) {x y : Value} {o : Int} (pc' : Nat) (hd : decode code pc = .ok (.if_acmp .eq o, 3)) (h1 : x.isRef = true) (h2 : y.isRef = true) (ho : 0 ≤ (pc : Int) + o) (hp : ((pc : Int) + o).toNat = pc') (kt : x = y → OEnds p e below s n0 Q C S T (mkF m pc' Ls st)) (kf : ¬ x = y → OEnds p e below s n0 Q C S T (mkF m (pc + 3) Ls st)) : OEnds p e below s n0 Q C S T (mkF m pc Ls (y :: x :: st)) := by
  obtain ⟨⟨hx, hZ, hby, hml, hown, hnm, hrt, hlk⟩, locs, X, eT, N, z0⟩ := H
  by_cases q : x = y
  · exact go (fun t r => XT.acmpYes X.here hx rfl rfl (hb hby hd) rfl h1 h2 (by simp [XT.acmp, q]) ho hp r) (kt q)
  · exact go (fun t r => XT.acmpNo X.here hx rfl (hb hby hd) rfl h1 h2 (by simp [XT.acmp, q]) r) (kf q)
theorem ret_int (H : OHr p l e R s m args below meth c Z n0 own nm code maxL ret T h ce sl) {z : Int32} (hd : decode code pc = .ok (.ireturn, 1)) (hr : ret = some .int) (hC : ce ≤ C) (hS : sl ≤ S) (hq : Q (some (.int z)) h) : OEnds p e below s n0 Q C S T (mkF m pc Ls (.int z :: st)) := by
  obtain ⟨⟨hx, hZ, hby, hml, hown, hnm, hrt, hlk⟩, locs, X, eT, N, z0⟩ := H
  obtain ⟨fs, hrr, hrun, hended, hW, hsame⟩ := X.leave (v := some (.int z)) (fun q => by rw [hrt, hr] at q; cases q) hlk
  refine ⟨_, _, ?_, hrun, hended, _, _, rfl, ⟨N, ?_⟩, ⟨_, rfl⟩, hW, hsame.mono hC hS⟩
  · exact retOut X hx (hrt.trans hr) rfl (Or.inl ⟨rfl, Or.inl rfl, _, rfl⟩) (hb hby hd) hrr
  · show Q _ T.heap
    rw [eT]; exact hq
theorem ret_nar (H : OHr p l e R s m args below meth c Z n0 own nm code maxL ret T h ce sl) {z : Int32} (w : Int32) {t : FieldType} (hd : decode code pc = .ok (.ireturn, 1)) (hr : ret = some t) (ht : t = .boolean ∨ t = .byte ∨ t = .char ∨ t = .short) (hw : nar t z = w) (hC : ce ≤ C) (hS : sl ≤ S) (hq : Q (some (.int w)) h) : OEnds p e below s n0 Q C S T (mkF m pc Ls (.int z :: st)) := by
  obtain ⟨⟨hx, hZ, hby, hml, hown, hnm, hrt, hlk⟩, locs, X, eT, N, z0⟩ := H
  subst hw
  obtain ⟨fs, hrr, hrun, hended, hW, hsame⟩ := X.leave (v := some (.int (nar t z))) (fun q => by rw [hrt, hr] at q; cases q) hlk
  refine ⟨_, _, ?_, hrun, hended, _, _, rfl, ⟨N, ?_⟩, ⟨_, rfl⟩, hW, hsame.mono hC hS⟩
  · exact retN X hx (hrt.trans hr) ht (hb hby hd) hrr
  · show Q _ T.heap
    rw [eT]; exact hq
theorem ret_long (H : OHr p l e R s m args below meth c Z n0 own nm code maxL ret T h ce sl) {z : Int64} (hd : decode code pc = .ok (.lreturn, 1)) (hr : ret = some .long) (hC : ce ≤ C) (hS : sl ≤ S) (hq : Q (some (.long z)) h) : OEnds p e below s n0 Q C S T (mkF m pc Ls (.long z :: st)) := by
  obtain ⟨⟨hx, hZ, hby, hml, hown, hnm, hrt, hlk⟩, locs, X, eT, N, z0⟩ := H
  obtain ⟨fs, hrr, hrun, hended, hW, hsame⟩ := X.leave (v := some (.long z)) (fun q => by rw [hrt, hr] at q; cases q) hlk
  refine ⟨_, _, ?_, hrun, hended, _, _, rfl, ⟨N, ?_⟩, ⟨_, rfl⟩, hW, hsame.mono hC hS⟩
  · exact retOut X hx (hrt.trans hr) rfl (Or.inr (Or.inl ⟨rfl, rfl, _, rfl⟩)) (hb hby hd) hrr
  · show Q _ T.heap
    rw [eT]; exact hq
theorem ret_ref (H : OHr p l e R s m args below meth c Z n0 own nm code maxL ret T h ce sl) {z : Value} {t : FieldType} (hd : decode code pc = .ok (.areturn, 1)) (hr : ret = some t) (ht : t.isReference = true) (hn : narrow t z = z) (hz : z.isRef = true) (hC : ce ≤ C) (hS : sl ≤ S) (hq : Q (some z) h) : OEnds p e below s n0 Q C S T (mkF m pc Ls (z :: st)) := by
  obtain ⟨⟨hx, hZ, hby, hml, hown, hnm, hrt, hlk⟩, locs, X, eT, N, z0⟩ := H
  obtain ⟨fs, hrr, hrun, hended, hW, hsame⟩ := X.leave (v := some z) (fun q => by rw [hrt, hr] at q; cases q) hlk
  refine ⟨_, _, ?_, hrun, hended, _, _, rfl, ⟨N, ?_⟩, ⟨_, rfl⟩, hW, hsame.mono hC hS⟩
  · exact retOut X hx (hrt.trans hr) hn (Or.inr (Or.inr (Or.inr (Or.inr ⟨rfl, ht, hz⟩)))) (hb hby hd) hrr
  · show Q _ T.heap
    rw [eT]; exact hq
theorem ret_void (H : OHr p l e R s m args below meth c Z n0 own nm code maxL ret T h ce sl) (hd : decode code pc = .ok (.return_, 1)) (hr : ret = none) (hC : ce ≤ C) (hS : sl ≤ S) (hq : Q none h) : OEnds p e below s n0 Q C S T (mkF m pc Ls []) := by
  obtain ⟨⟨hx, hZ, hby, hml, hown, hnm, hrt, hlk⟩, locs, X, eT, N, z0⟩ := H
  obtain ⟨fs, hrr, hrun, hended, hW, hsame⟩ := X.leave (v := none) (fun _ => rfl) hlk
  refine ⟨_, _, ?_, hrun, hended, _, _, rfl, ⟨N, ?_⟩, ⟨_, rfl⟩, hW, hsame.mono hC hS⟩
  · exact X.returnOut hx (hrt.trans hr) (hb hby hd) hrr
  · show Q _ T.heap
    rw [eT]; exact hq
theorem getfield (H : OHr p l e R s m args below meth c Z n0 own nm code maxL ret T h ce sl) {O n d : String} {idx : Nat} {a : Addr} {v : Value} (hd : decode code pc = .ok (.getfield idx, 3)) (w : (Cond.fieldLink own idx O n d).before a0 Z = true) (F : Fld Z h a O n d v) (k : ∀ T', OHr p l e R s m args below meth c Z n0 own nm code maxL ret T' h ce sl → OEnds p e below s n0 Q C S T' (mkF m (pc + 3) Ls (v :: st))) : OEnds p e below s n0 Q C S T (mkF m pc Ls (.ref a :: st)) := by
  obtain ⟨⟨hx, hZ, hby, hml, hown, hnm, hrt, hlk⟩, locs, X, eT, N, z0⟩ := H
  obtain ⟨T', X', e', q⟩ := getF X hx hZ hown (host := "") (Or.inl w) Via.refl eT F (g := mkF m pc Ls (.ref a :: st)) rfl rfl (hb hby hd)
  exact go q (k T' ⟨⟨hx, hZ, hby, hml, hown, hnm, hrt, hlk⟩, locs, X', e', N, z0⟩)
theorem putfield (H : OHr p l e R s m args below meth c Z n0 own nm code maxL ret T h ce sl) {O n d CC : String} {idx kk : Nat} {ty : FieldType} {a : Addr} {v old : Value} (hd : decode code pc = .ok (.putfield idx, 3)) (w : (Cond.fieldLink own idx O n d).before a0 Z = true) (F : Fld Z h a O n d old) (E : Exa Z h a CC) (L : (Cond.lays CC O n d).before a0 Z = true ∨ ((Cond.laysFinal CC O n d).before a0 Z = true ∧ own = O ∧ nm = "<init>")) (wi : (Cond.instantiable CC kk).before a0 Z = true) (hty : parseFieldDescriptor d = some ty) (hn : narrow ty v = v) (hf : fits ty v = true) (ge : n0 ≤ a)
    (k : ∀ T' h', OHr p l e R s m args below meth c Z n0 own nm code maxL ret T' h' ce sl → Wr h h' a (Jvm.RoadKit.slotOf Z O n d) v → OEnds p e below s n0 Q C S T' (mkF m (pc + 3) Ls st)) : OEnds p e below s n0 Q C S T (mkF m pc Ls (v :: .ref a :: st)) := by
  obtain ⟨⟨hx, hZ, hby, hml, hown, hnm, hrt, hlk⟩, locs, X, eT, N, z0⟩ := H
  obtain ⟨T', h', X', e', W, q⟩ := putF X hx hZ hown (host := "") (Or.inl w) Via.refl eT F E (by rcases L with q | ⟨q1, q2, q3⟩; exact Or.inl q; exact Or.inr ⟨q1, q2, hnm.trans q3⟩) wi hty hn hf (g := mkF m pc Ls (v :: .ref a :: st)) rfl rfl (hb hby hd)
  exact go q (k T' h' ⟨⟨hx, hZ, hby, hml, hown, hnm, hrt, hlk⟩, _, X', e', Fr.one N ge, by rw [W.size]; exact z0⟩ W)
theorem getstatic (H : OHr p l e R s m args below meth c Z n0 own nm code maxL ret T h ce sl) {O n d : String} {idx : Nat} {v : Value} (hd : decode code pc = .ok (.getstatic idx, 3)) (w : (Cond.fieldLink own idx O n d).before a0 Z = true) (F : Sta Z h O n d v) (k : ∀ T', OHr p l e R s m args below meth c Z n0 own nm code maxL ret T' h ce sl → OEnds p e below s n0 Q C S T' (mkF m (pc + 3) Ls (v :: st))) : OEnds p e below s n0 Q C S T (mkF m pc Ls st) := by
  obtain ⟨⟨hx, hZ, hby, hml, hown, hnm, hrt, hlk⟩, locs, X, eT, N, z0⟩ := H
  obtain ⟨T', X', e', q⟩ := getS (host := "") X hx hZ hown w Via.refl eT F (g := mkF m pc Ls st) rfl (hb hby hd)
  exact go q (k T' ⟨⟨hx, hZ, hby, hml, hown, hnm, hrt, hlk⟩, locs, X', e', N, z0⟩)
theorem new_ (H : OHr p l e R s m args below meth c Z n0 own nm code maxL ret T h ce sl) {CC : String} {idx n : Nat} (hd : decode code pc = .ok (.new idx, 3)) (w : (Cond.classLink own idx CC).before a0 Z = true) (wi : (Cond.instantiable CC n).before a0 Z = true) (wz : (Cond.initialized CC).before a0 Z = true) (hc : ce + 1 ≤ R.cells) (hl : sl + n ≤ R.slots)
    (k : ∀ T' h' a, a = h.size → n0 ≤ a → OHr p l e R s m args below meth c Z n0 own nm code maxL ret T' h' (ce + 1) (sl + n) → Ext h h' → Exa Z h' a CC → (∀ {O nm d : String} {ty : FieldType}, Laid Z a0 CC O nm d → parseFieldDescriptor d = some ty → Fld Z h' a O nm d (defaultValue ty)) → OEnds p e below s n0 Q C S T' (mkF m (pc + 3) Ls (.ref a :: st))) : OEnds p e below s n0 Q C S T (mkF m pc Ls st) := by
  obtain ⟨⟨hx, hZ, hby, hml, hown, hnm, hrt, hlk⟩, locs, X, eT, N, z0⟩ := H
  obtain ⟨T', h', X', e', E', A', D', -, q⟩ := newO X hx hZ hown w wi wz eT (g := mkF m pc Ls st) rfl (hb hby hd) hc hl
  exact go q (k T' h' _ rfl z0 ⟨⟨hx, hZ, hby, hml, hown, hnm, hrt, hlk⟩, locs, X', e', N, Nat.le_trans z0 E'.1⟩ E' A' D')
theorem newarray (H : OHr p l e R s m args below meth c Z n0 own nm code maxL ret T h ce sl) {aty : ArrayType} {n : Int32} {i : Nat} (cap : Nat) (hd : decode code pc = .ok (.newarray aty, 2)) (w : (Cond.arrayClass (newarray.typeOf aty)).before a0 Z = true) (hn : n.toInt = (i : Int)) (hf : fits (newarray.typeOf aty) (defaultValue (newarray.typeOf aty)) = true) (hcap : i ≤ cap) (hb8 : cap * 8 ≤ 536870912) (hc : ce + 1 ≤ R.cells) (hl : sl + cap ≤ R.slots)
    (k : ∀ T' h' a, a = h.size → n0 ≤ a → OHr p l e R s m args below meth c Z n0 own nm code maxL ret T' h' (ce + 1) (sl + cap) → Ext h h' → OAry Z h' a (newarray.typeOf aty) (List.replicate i (defaultValue (newarray.typeOf aty))) → OEnds p e below s n0 Q C S T' (mkF m (pc + 2) Ls (.ref a :: st))) : OEnds p e below s n0 Q C S T (mkF m pc Ls (.int n :: st)) := by
  obtain ⟨⟨hx, hZ, hby, hml, hown, hnm, hrt, hlk⟩, locs, X, eT, N, z0⟩ := H
  obtain ⟨n1, n2⟩ := nat_idx hn
  obtain ⟨T', h', cA, X', e', E', A', q⟩ := newP X hx hZ w eT (g := mkF m pc Ls (.int n :: st)) rfl (hb hby hd) rfl n2 (cap := cap) (by rw [n1]; exact hcap) hb8 hc hl
  exact go q (k T' h' _ rfl z0 ⟨⟨hx, hZ, hby, hml, hown, hnm, hrt, hlk⟩, locs, X', e', N, Nat.le_trans z0 E'.1⟩ E' (by have := OAry.new A' hf; rw [n1] at this; exact this))
theorem arraylength (H : OHr p l e R s m args below meth c Z n0 own nm code maxL ret T h ce sl) {a : Addr} {ty : FieldType} {vs : List Value} (n : Int32) (hd : decode code pc = .ok (.arraylength, 1)) (A : OAry Z h a ty vs) (hn : n.toInt = (vs.length : Int)) (k : OEnds p e below s n0 Q C S T (mkF m (pc + 1) Ls (.int n :: st))) : OEnds p e below s n0 Q C S T (mkF m pc Ls (.ref a :: st)) := by
  obtain ⟨⟨hx, hZ, hby, hml, hown, hnm, hrt, hlk⟩, locs, X, eT, N, z0⟩ := H
  obtain ⟨c1, A, r1, r2, r3⟩ := A
  have hsz : c1.slots.size = vs.length := by rw [← r1]; simp
  obtain ⟨n1, n2⟩ := nat_idx hn
  have e1 : c1.slots.size.toInt32 = n := by rw [hsz, ← n1]; exact (back32 n2).1
  refine go (fun t q => X.arraylength hx (cell := c1) (by rw [eT]; exact A.1) (State.isArrayOf_alike hZ.alike A.2.1) (g := mkF m pc Ls (.ref a :: st)) rfl rfl (hb hby hd) t q) ?_
  rw [e1]
  exact k
theorem iaload (H : OHr p l e R s m args below meth c Z n0 own nm code maxL ret T h ce sl) {a : Addr} {vs : List Value} {j : Int32} {v : Int32} (i : Nat) (hd : decode code pc = .ok (.iaload, 1)) (A : OAry Z h a .int vs) (hj : j.toInt = (i : Int)) (hv : vs[i]? = some (.int v)) (k : OEnds p e below s n0 Q C S T (mkF m (pc + 1) Ls (.int v :: st))) : OEnds p e below s n0 Q C S T (mkF m pc Ls (.int j :: .ref a :: st)) := by
  obtain ⟨⟨hx, hZ, hby, hml, hown, hnm, hrt, hlk⟩, locs, X, eT, N, z0⟩ := H
  obtain ⟨c1, A, r1, r2, r3⟩ := A
  have hsz : c1.slots.size = vs.length := by rw [← r1]; simp
  obtain ⟨n1, n2⟩ := nat_idx hj
  have hi : i < vs.length := by rcases Nat.lt_or_ge i vs.length with q | q; exact q; rw [List.getElem?_eq_none q] at hv; cases hv
  have hat : c1.slots[j.toNatClampNeg]? = some (.int v) := by rw [n1, ← Array.getElem?_toList, r1]; exact hv
  have hin : ¬ (j < 0 ∨ c1.slots.size ≤ j.toNatClampNeg) := by rw [n1, hsz]; intro q; rcases q with q | q; exact n2 q; omega
  exact go (fun t q => X.iaload hx (by rw [eT]; exact A.1) (State.isArrayOf_alike hZ.alike A.2.1) A.2.2 hin hat (g := mkF m pc Ls (.int j :: .ref a :: st)) rfl rfl (hb hby hd) t q) k
theorem laload (H : OHr p l e R s m args below meth c Z n0 own nm code maxL ret T h ce sl) {a : Addr} {vs : List Value} {j : Int32} {v : Int64} (i : Nat) (hd : decode code pc = .ok (.laload, 1)) (A : OAry Z h a .long vs) (hj : j.toInt = (i : Int)) (hv : vs[i]? = some (.long v)) (k : OEnds p e below s n0 Q C S T (mkF m (pc + 1) Ls (.long v :: st))) : OEnds p e below s n0 Q C S T (mkF m pc Ls (.int j :: .ref a :: st)) := by
  obtain ⟨⟨hx, hZ, hby, hml, hown, hnm, hrt, hlk⟩, locs, X, eT, N, z0⟩ := H
  obtain ⟨c1, A, r1, r2, r3⟩ := A
  have hsz : c1.slots.size = vs.length := by rw [← r1]; simp
  obtain ⟨n1, n2⟩ := nat_idx hj
  have hi : i < vs.length := by rcases Nat.lt_or_ge i vs.length with q | q; exact q; rw [List.getElem?_eq_none q] at hv; cases hv
  have hat : c1.slots[j.toNatClampNeg]? = some (.long v) := by rw [n1, ← Array.getElem?_toList, r1]; exact hv
  have hin : ¬ (j < 0 ∨ c1.slots.size ≤ j.toNatClampNeg) := by rw [n1, hsz]; intro q; rcases q with q | q; exact n2 q; omega
  exact go (fun t q => X.laload hx (by rw [eT]; exact A.1) (State.isArrayOf_alike hZ.alike A.2.1) A.2.2 hin hat (g := mkF m pc Ls (.int j :: .ref a :: st)) rfl rfl (hb hby hd) t q) k
theorem caload (H : OHr p l e R s m args below meth c Z n0 own nm code maxL ret T h ce sl) {a : Addr} {vs : List Value} {j : Int32} {v : Int32} (i : Nat) (hd : decode code pc = .ok (.caload, 1)) (A : OAry Z h a .char vs) (hj : j.toInt = (i : Int)) (hv : vs[i]? = some (.int v)) (k : OEnds p e below s n0 Q C S T (mkF m (pc + 1) Ls (.int v :: st))) : OEnds p e below s n0 Q C S T (mkF m pc Ls (.int j :: .ref a :: st)) := by
  obtain ⟨⟨hx, hZ, hby, hml, hown, hnm, hrt, hlk⟩, locs, X, eT, N, z0⟩ := H
  obtain ⟨c1, A, r1, r2, r3⟩ := A
  have hsz : c1.slots.size = vs.length := by rw [← r1]; simp
  obtain ⟨n1, n2⟩ := nat_idx hj
  have hi : i < vs.length := by rcases Nat.lt_or_ge i vs.length with q | q; exact q; rw [List.getElem?_eq_none q] at hv; cases hv
  have hat : c1.slots[j.toNatClampNeg]? = some (.int v) := by rw [n1, ← Array.getElem?_toList, r1]; exact hv
  have hin : ¬ (j < 0 ∨ c1.slots.size ≤ j.toNatClampNeg) := by rw [n1, hsz]; intro q; rcases q with q | q; exact n2 q; omega
  exact go (fun t q => X.caload hx (by rw [eT]; exact A.1) (State.isArrayOf_alike hZ.alike A.2.1) A.2.2 hin hat (g := mkF m pc Ls (.int j :: .ref a :: st)) rfl rfl (hb hby hd) t q) k
theorem baload (H : OHr p l e R s m args below meth c Z n0 own nm code maxL ret T h ce sl) {a : Addr} {vs : List Value} {j : Int32} {v : Int32} (i : Nat) (hd : decode code pc = .ok (.baload, 1)) (A : OAry Z h a .byte vs) (hj : j.toInt = (i : Int)) (hv : vs[i]? = some (.int v)) (k : OEnds p e below s n0 Q C S T (mkF m (pc + 1) Ls (.int v :: st))) : OEnds p e below s n0 Q C S T (mkF m pc Ls (.int j :: .ref a :: st)) := by
  obtain ⟨⟨hx, hZ, hby, hml, hown, hnm, hrt, hlk⟩, locs, X, eT, N, z0⟩ := H
  obtain ⟨c1, A, r1, r2, r3⟩ := A
  have hsz : c1.slots.size = vs.length := by rw [← r1]; simp
  obtain ⟨n1, n2⟩ := nat_idx hj
  have hi : i < vs.length := by rcases Nat.lt_or_ge i vs.length with q | q; exact q; rw [List.getElem?_eq_none q] at hv; cases hv
  have hat : c1.slots[j.toNatClampNeg]? = some (.int v) := by rw [n1, ← Array.getElem?_toList, r1]; exact hv
  have hin : ¬ (j < 0 ∨ c1.slots.size ≤ j.toNatClampNeg) := by rw [n1, hsz]; intro q; rcases q with q | q; exact n2 q; omega
  exact go (fun t q => X.baloadBytes hx (by rw [eT]; exact A.1) (State.isArrayOf_alike hZ.alike A.2.1) A.2.2 hin hat (g := mkF m pc Ls (.int j :: .ref a :: st)) rfl rfl (hb hby hd) t q) k
theorem aaload (H : OHr p l e R s m args below meth c Z n0 own nm code maxL ret T h ce sl) {a : Addr} {ty : FieldType} {vs : List Value} {j : Int32} {v : Value} (i : Nat) (hd : decode code pc = .ok (.aaload, 1)) (A : OAry Z h a ty vs) (ht : ty.isReference = true) (hj : j.toInt = (i : Int)) (hv : vs[i]? = some v) (k : OEnds p e below s n0 Q C S T (mkF m (pc + 1) Ls (v :: st))) : OEnds p e below s n0 Q C S T (mkF m pc Ls (.int j :: .ref a :: st)) := by
  obtain ⟨⟨hx, hZ, hby, hml, hown, hnm, hrt, hlk⟩, locs, X, eT, N, z0⟩ := H
  obtain ⟨c1, A, r1, r2, r3⟩ := A
  have hsz : c1.slots.size = vs.length := by rw [← r1]; simp
  obtain ⟨n1, n2⟩ := nat_idx hj
  have hi : i < vs.length := by rcases Nat.lt_or_ge i vs.length with q | q; exact q; rw [List.getElem?_eq_none q] at hv; cases hv
  have hat : c1.slots[j.toNatClampNeg]? = some v := by rw [n1, ← Array.getElem?_toList, r1]; exact hv
  have hin : ¬ (j < 0 ∨ c1.slots.size ≤ j.toNatClampNeg) := by rw [n1, hsz]; intro q; rcases q with q | q; exact n2 q; omega
  exact go (fun t q => X.aaload hx (by rw [eT]; exact A.1) (State.isArrayOf_alike hZ.alike A.2.1) ht A.2.2 hin hat (g := mkF m pc Ls (.int j :: .ref a :: st)) rfl rfl (hb hby hd) t q) k
theorem iastore (H : OHr p l e R s m args below meth c Z n0 own nm code maxL ret T h ce sl) {a : Addr} {vs : List Value} {j : Int32} {v : Int32} (i : Nat) (hd : decode code pc = .ok (.iastore, 1)) (A : OAry Z h a .int vs) (ge : n0 ≤ a) (hj : j.toInt = (i : Int)) (hi : i < vs.length) (k : ∀ T' h', OHr p l e R s m args below meth c Z n0 own nm code maxL ret T' h' ce sl → Wr h h' a i (.int v) → OAry Z h' a .int (vs.set i (.int v)) → OEnds p e below s n0 Q C S T' (mkF m (pc + 1) Ls st)) : OEnds p e below s n0 Q C S T (mkF m pc Ls (.int v :: .int j :: .ref a :: st)) := by
  obtain ⟨⟨hx, hZ, hby, hml, hown, hnm, hrt, hlk⟩, locs, X, eT, N, z0⟩ := H
  have A0 := A
  obtain ⟨c1, A, r1, r2, r3⟩ := A
  have hsz : c1.slots.size = vs.length := by rw [← r1]; simp
  obtain ⟨n1, n2⟩ := nat_idx hj
  have hin : ¬ (j < 0 ∨ c1.slots.size ≤ j.toNatClampNeg) := by rw [n1, hsz]; intro q; rcases q with q | q; exact n2 q; omega
  obtain ⟨T', h', X', e', W, q⟩ := stI X hx hZ eT A hin (g := mkF m pc Ls (.int v :: .int j :: .ref a :: st)) rfl rfl (hb hby hd)
  rw [n1] at X' W
  exact go q (k T' h' ⟨⟨hx, hZ, hby, hml, hown, hnm, hrt, hlk⟩, _, X', e', Fr.one N ge, by rw [W.size]; exact z0⟩ W (A0.wr W rfl))
theorem lastore (H : OHr p l e R s m args below meth c Z n0 own nm code maxL ret T h ce sl) {a : Addr} {vs : List Value} {j : Int32} {v : Int64} (i : Nat) (hd : decode code pc = .ok (.lastore, 1)) (A : OAry Z h a .long vs) (ge : n0 ≤ a) (hj : j.toInt = (i : Int)) (hi : i < vs.length) (k : ∀ T' h', OHr p l e R s m args below meth c Z n0 own nm code maxL ret T' h' ce sl → Wr h h' a i (.long v) → OAry Z h' a .long (vs.set i (.long v)) → OEnds p e below s n0 Q C S T' (mkF m (pc + 1) Ls st)) : OEnds p e below s n0 Q C S T (mkF m pc Ls (.long v :: .int j :: .ref a :: st)) := by
  obtain ⟨⟨hx, hZ, hby, hml, hown, hnm, hrt, hlk⟩, locs, X, eT, N, z0⟩ := H
  have A0 := A
  obtain ⟨c1, A, r1, r2, r3⟩ := A
  have hsz : c1.slots.size = vs.length := by rw [← r1]; simp
  obtain ⟨n1, n2⟩ := nat_idx hj
  have hin : ¬ (j < 0 ∨ c1.slots.size ≤ j.toNatClampNeg) := by rw [n1, hsz]; intro q; rcases q with q | q; exact n2 q; omega
  obtain ⟨T', h', X', e', W, q⟩ := stJ X hx hZ eT A hin (g := mkF m pc Ls (.long v :: .int j :: .ref a :: st)) rfl rfl (hb hby hd)
  rw [n1] at X' W
  exact go q (k T' h' ⟨⟨hx, hZ, hby, hml, hown, hnm, hrt, hlk⟩, _, X', e', Fr.one N ge, by rw [W.size]; exact z0⟩ W (A0.wr W rfl))
theorem castore (H : OHr p l e R s m args below meth c Z n0 own nm code maxL ret T h ce sl) {a : Addr} {vs : List Value} {j : Int32} {v : Int32} (i : Nat) (hd : decode code pc = .ok (.castore, 1)) (A : OAry Z h a .char vs) (ge : n0 ≤ a) (hj : j.toInt = (i : Int)) (hi : i < vs.length) (k : ∀ T' h', OHr p l e R s m args below meth c Z n0 own nm code maxL ret T' h' ce sl → Wr h h' a i (.int (nar .char v)) → OAry Z h' a .char (vs.set i (.int (nar .char v))) → OEnds p e below s n0 Q C S T' (mkF m (pc + 1) Ls st)) : OEnds p e below s n0 Q C S T (mkF m pc Ls (.int v :: .int j :: .ref a :: st)) := by
  obtain ⟨⟨hx, hZ, hby, hml, hown, hnm, hrt, hlk⟩, locs, X, eT, N, z0⟩ := H
  have A0 := A
  obtain ⟨c1, A, r1, r2, r3⟩ := A
  have hsz : c1.slots.size = vs.length := by rw [← r1]; simp
  obtain ⟨n1, n2⟩ := nat_idx hj
  have hin : ¬ (j < 0 ∨ c1.slots.size ≤ j.toNatClampNeg) := by rw [n1, hsz]; intro q; rcases q with q | q; exact n2 q; omega
  obtain ⟨T', h', X', e', W, q⟩ := stC X hx hZ eT A hin (g := mkF m pc Ls (.int v :: .int j :: .ref a :: st)) rfl rfl (hb hby hd)
  rw [n1] at X' W
  exact go q (k T' h' ⟨⟨hx, hZ, hby, hml, hown, hnm, hrt, hlk⟩, _, X', e', Fr.one N ge, by rw [W.size]; exact z0⟩ W (A0.wr W (fits_nar_char v)))
theorem bastore (H : OHr p l e R s m args below meth c Z n0 own nm code maxL ret T h ce sl) {a : Addr} {vs : List Value} {j : Int32} {v : Int32} (i : Nat) (hd : decode code pc = .ok (.bastore, 1)) (A : OAry Z h a .byte vs) (ge : n0 ≤ a) (hj : j.toInt = (i : Int)) (hi : i < vs.length) (k : ∀ T' h', OHr p l e R s m args below meth c Z n0 own nm code maxL ret T' h' ce sl → Wr h h' a i (.int (nar .byte v)) → OAry Z h' a .byte (vs.set i (.int (nar .byte v))) → OEnds p e below s n0 Q C S T' (mkF m (pc + 1) Ls st)) : OEnds p e below s n0 Q C S T (mkF m pc Ls (.int v :: .int j :: .ref a :: st)) := by
  obtain ⟨⟨hx, hZ, hby, hml, hown, hnm, hrt, hlk⟩, locs, X, eT, N, z0⟩ := H
  have A0 := A
  obtain ⟨c1, A, r1, r2, r3⟩ := A
  have hsz : c1.slots.size = vs.length := by rw [← r1]; simp
  obtain ⟨n1, n2⟩ := nat_idx hj
  have hin : ¬ (j < 0 ∨ c1.slots.size ≤ j.toNatClampNeg) := by rw [n1, hsz]; intro q; rcases q with q | q; exact n2 q; omega
  obtain ⟨T', h', X', e', W, q⟩ := stB X hx hZ eT A hin (g := mkF m pc Ls (.int v :: .int j :: .ref a :: st)) rfl rfl (hb hby hd)
  rw [n1] at X' W
  exact go q (k T' h' ⟨⟨hx, hZ, hby, hml, hown, hnm, hrt, hlk⟩, _, X', e', Fr.one N ge, by rw [W.size]; exact z0⟩ W (A0.wr W (fits_nar_byte v)))
theorem callS (H : OHr p l e R s m args below meth c Z n0 own nm code maxL ret T h ce sl) {y : MethodName} {idx mxL : Nat} {bytes : ByteArray} {rt : Option FieldType} {rm : Room} {Q' : Option Value → Heap → Prop} {ps : List FieldType} {r : Option FieldType} (argsL rest : List Value) (hd : decode code pc = .ok (.invokestatic idx, 3)) (w1 : (Cond.methodLink own idx y).before a0 Z = true) (w2 : (Cond.static y).before a0 Z = true) (w3 : (Cond.initialized y.cls).before a0 Z = true) (w4 : (Cond.code y bytes mxL rt).before a0 Z = true) (hy : y.cls ≠ "java/lang/invoke/MethodHandle" ∧ y.cls ≠ "java/lang/invoke/VarHandle")
    (M : OMet l Z n0 y bytes mxL rt rm argsL.toArray h Q') (hde : parseMethodDescriptor y.desc = some ⟨ps, r⟩) (hlen : argsL.length = ps.length) (hst : st = argsL.reverse ++ rest) (W : Nat) (hW0 : (rest.map fun v => v.category).sum = W) (hfr : rm.frames + 1 ≤ R.frames) (hW : W + (mxL + 11) + rm.locals ≤ R.locals) (hc : ce + rm.cells ≤ R.cells) (hs : sl + rm.slots ≤ R.slots) (hL : Ls.size = maxL)
    (k : ∀ T' v h', OHr p l e R s m args below meth c Z n0 own nm code maxL ret T' h' (ce + rm.cells) (sl + rm.slots) → h.size ≤ h'.size → Q' v h' → OEnds p e below s n0 Q C S T' (mkF m (pc + 3) Ls (v.toList ++ rest))) : OEnds p e below s n0 Q C S T (mkF m pc Ls st) := by
  obtain ⟨⟨hx, hZ, hby, hml, hown, hnm, hrt, hlk⟩, locs, X, eT, N, z0⟩ := H
  obtain ⟨v, _, ⟨T1, L1, k1, n1⟩, -, X1, ⟨Lc, ⟨f1, hle, hQ1⟩, l1, y1, z1⟩, q⟩ := Jvm.LawKit.callS X hx (y := y) hown (mvT hZ w1) (mvT hZ w2) (mvT hZ w3) (mvT hZ w4) hy (backOf (W := W) (Q := fun v h' L => Fr n0 L ∧ h.size ≤ h'.size ∧ Q' v h') (M []) hZ w4 w3 hfr hW) (g := mkF m pc Ls st) rfl (hL.trans hml.symm) (argsL := argsL) (rest := rest) (lenOf hde hlen) hst (by show 2 * 0 + _ ≤ _; rw [hW0]; omega) (hb hby hd) (fun _ _ => ⟨rfl, eT, hc, hs⟩)
  dsimp only [Pt.U, Pt.locs, Pt.cells, Pt.slots] at X1 l1 y1 z1 q hQ1 hle
  subst l1 y1 z1
  exact go q (k T1 v _ ⟨⟨hx, hZ, hby, hml, hown, hnm, hrt, hlk⟩, _, X1, rfl, Fr.app N f1, Nat.le_trans z0 hle⟩ hle hQ1)
theorem callI (H : OHr p l e R s m args below meth c Z n0 own nm code maxL ret T h ce sl) {y : MethodName} {idx mxL : Nat} {bytes : ByteArray} {rm : Room} {Q' : Option Value → Heap → Prop} {ps : List FieldType} {r : Option FieldType} (a : Addr) (argsL rest : List Value) (hd : decode code pc = .ok (.invokespecial idx, 3)) (hy1 : y.name = "<init>") (w1 : (Cond.methodLink own idx y).before a0 Z = true) (w2 : (Cond.instanceMethod y).before a0 Z = true) (w3 : (Cond.initialized y.cls).before a0 Z = true) (w4 : (Cond.code y bytes mxL none).before a0 Z = true) (hy : y.cls ≠ "java/lang/invoke/MethodHandle" ∧ y.cls ≠ "java/lang/invoke/VarHandle")
    (M : OMet l Z n0 y bytes mxL none rm (.ref a :: argsL).toArray h Q') (hde : parseMethodDescriptor y.desc = some ⟨ps, r⟩) (hlen : argsL.length = ps.length) (hst : st = argsL.reverse ++ .ref a :: rest) (W : Nat) (hW0 : (rest.map fun v => v.category).sum = W) (hfr : rm.frames + 1 ≤ R.frames) (hW : W + (mxL + 11) + rm.locals ≤ R.locals) (hc : ce + rm.cells ≤ R.cells) (hs : sl + rm.slots ≤ R.slots) (hL : Ls.size = maxL)
    (k : ∀ T' v h', OHr p l e R s m args below meth c Z n0 own nm code maxL ret T' h' (ce + rm.cells) (sl + rm.slots) → h.size ≤ h'.size → Q' v h' → OEnds p e below s n0 Q C S T' (mkF m (pc + 3) Ls (v.toList ++ rest))) : OEnds p e below s n0 Q C S T (mkF m pc Ls st) := by
  obtain ⟨⟨hx, hZ, hby, hml, hown, hnm, hrt, hlk⟩, locs, X, eT, N, z0⟩ := H
  obtain ⟨v, _, ⟨T1, L1, k1, n1⟩, -, X1, ⟨Lc, ⟨f1, hle, hQ1⟩, l1, y1, z1⟩, q⟩ := X.specialBack hx (y := y) hy1 hown (mvT hZ w1) (mvT hZ w2) (mvT hZ w4) hy (backOf (W := W) (Q := fun v h' L => Fr n0 L ∧ h.size ≤ h'.size ∧ Q' v h') (M []) hZ w4 w3 hfr hW) (g := mkF m pc Ls st) rfl (hL.trans hml.symm) (Steps.refl _) (a := a) (argsL := argsL) (rest := rest) (lenOf hde hlen) hst (by show 2 * 0 + _ ≤ _; rw [hW0]; omega) (hb hby hd) (fun _ _ => ⟨rfl, eT, hc, hs⟩)
  dsimp only [Pt.U, Pt.locs, Pt.cells, Pt.slots] at X1 l1 y1 z1 q hQ1 hle
  subst l1 y1 z1
  exact go1 q (k T1 v _ ⟨⟨hx, hZ, hby, hml, hown, hnm, hrt, hlk⟩, _, X1, rfl, Fr.app N f1, Nat.le_trans z0 hle⟩ hle hQ1)
theorem callV (H : OHr p l e R s m args below meth c Z n0 own nm code maxL ret T h ce sl) {y z : MethodName} {CC : String} {idx mxL : Nat} {bytes : ByteArray} {rt : Option FieldType} {rm : Room} {Q' : Option Value → Heap → Prop} {ps : List FieldType} {r : Option FieldType} (a : Addr) (argsL rest : List Value) (hd : decode code pc = .ok (.invokevirtual idx, 3)) (w1 : (Cond.methodLink own idx y).before a0 Z = true) (w2 : (Cond.declares y).before a0 Z = true) (nf : NotFace s y) (w5 : (Cond.selects CC y z).before a0 Z = true) (w6 : (Cond.instanceMethod z).before a0 Z = true) (w3 : (Cond.initialized z.cls).before a0 Z = true) (w4 : (Cond.code z bytes mxL rt).before a0 Z = true) (hy : y.cls ≠ "java/lang/invoke/MethodHandle" ∧ y.cls ≠ "java/lang/invoke/VarHandle") (E : Exa Z h a CC)
    (M : OMet l Z n0 z bytes mxL rt rm (.ref a :: argsL).toArray h Q') (hde : parseMethodDescriptor y.desc = some ⟨ps, r⟩) (hlen : argsL.length = ps.length) (hst : st = argsL.reverse ++ .ref a :: rest) (W : Nat) (hW0 : (rest.map fun v => v.category).sum = W) (hfr : rm.frames + 1 ≤ R.frames) (hW : W + (mxL + 11) + rm.locals ≤ R.locals) (hc : ce + rm.cells ≤ R.cells) (hs : sl + rm.slots ≤ R.slots) (hL : Ls.size = maxL)
    (k : ∀ T' v h', OHr p l e R s m args below meth c Z n0 own nm code maxL ret T' h' (ce + rm.cells) (sl + rm.slots) → h.size ≤ h'.size → Q' v h' → OEnds p e below s n0 Q C S T' (mkF m (pc + 3) Ls (v.toList ++ rest))) : OEnds p e below s n0 Q C S T (mkF m pc Ls st) := by
  obtain ⟨⟨hx, hZ, hby, hml, hown, hnm, hrt, hlk⟩, locs, X, eT, N, z0⟩ := H
  obtain ⟨cq, kq, qa, qb, qc⟩ := isOf hZ eT E
  obtain ⟨v, _, ⟨T1, L1, k1, n1⟩, -, X1, ⟨Lc, ⟨f1, hle, hQ1⟩, l1, y1, z1⟩, q⟩ := X.virtualBack hx (y := y) (z := z) hown (mvT hZ w1) (mvT hZ w2) nf (mvT hZ w5) (mvT hZ w6) hy (backOf (W := W) (Q := fun v h' L => Fr n0 L ∧ h.size ≤ h'.size ∧ Q' v h') (M []) hZ w4 w3 hfr hW) qa qc (g := mkF m pc Ls st) rfl (hL.trans hml.symm) (Steps.refl _) (argsL := argsL) (rest := rest) (lenOf hde hlen) hst (by show 2 * 0 + _ ≤ _; rw [hW0]; omega) (hb hby hd) (fun _ _ => ⟨rfl, eT, hc, hs⟩)
  dsimp only [Pt.U, Pt.locs, Pt.cells, Pt.slots] at X1 l1 y1 z1 q hQ1 hle
  subst l1 y1 z1
  exact go1 q (k T1 v _ ⟨⟨hx, hZ, hby, hml, hown, hnm, hrt, hlk⟩, _, X1, rfl, Fr.app N f1, Nat.le_trans z0 hle⟩ hle hQ1)
theorem callO (H : OHr p l e R s m args below meth c Z n0 own nm code maxL ret T h ce sl) {idx : Nat} {a : Addr} (hd : decode code pc = .ok (.invokespecial idx, 3)) (w1 : (Cond.methodLink own idx Lib.objectInit).before a0 Z = true) (w2 : (Cond.instanceMethod Lib.objectInit).before a0 Z = true) (w3 : (Cond.code Lib.objectInit ⟨#[0xb1]⟩ 1 none).before a0 Z = true) (W : Nat) (hW0 : (st.map fun v => v.category).sum = W) (hfr : 1 ≤ R.frames) (hW : W + 12 ≤ R.locals) (hL : Ls.size = maxL) (k : ∀ T', OHr p l e R s m args below meth c Z n0 own nm code maxL ret T' h ce sl → OEnds p e below s n0 Q C S T' (mkF m (pc + 3) Ls st)) : OEnds p e below s n0 Q C S T (mkF m pc Ls (.ref a :: st)) := by
  obtain ⟨⟨hx, hZ, hby, hml, hown, hnm, hrt, hlk⟩, locs, X, eT, N, z0⟩ := H
  obtain ⟨T', X', e', q⟩ := initO X hx hZ hown w1 w2 w3 eT (g := mkF m pc Ls (.ref a :: st)) rfl (hL.trans hml.symm) rfl (hb hby hd) hfr (W := W) (by show 2 * 0 + _ ≤ _; rw [hW0]; omega) hW
  exact go q (k T' ⟨⟨hx, hZ, hby, hml, hown, hnm, hrt, hlk⟩, locs, X', e', N, z0⟩)
theorem OHr.nf (H : OHr p l e R s m args below meth c Z n0 own nm code maxL ret T h ce sl) {y : MethodName} {CC : String} (w : (Cond.selects CC y y).before a0 Z = true) : NotFace s y := by
  obtain ⟨⟨hx, hZ, hby, hml, hown, hnm, hrt, hlk⟩, locs, X, eT, N, z0⟩ := H
  exact notFace_of_selects (args := #[]) (mvT hZ w)
theorem clone_ (H : OHr p l e R s m args below meth c Z n0 own nm code maxL ret T h ce sl) {ad : String} {idx : Nat} {a : Addr} {ty : FieldType} {vs : List Value} (cap : Nat) (hd : decode code pc = .ok (.invokevirtual idx, 3)) (w1 : (Cond.methodLink own idx ⟨ad, "clone", "()Ljava/lang/Object;"⟩).before a0 Z = true) (w2 : (Cond.sameMethod ad "java/lang/Object" "clone" "()Ljava/lang/Object;").before a0 Z = true) (w3 : (Cond.native ⟨"java/lang/Object", "clone", "()Ljava/lang/Object;"⟩).before a0 Z = true)
    (w4 : (Cond.instanceMethod ⟨"java/lang/Object", "clone", "()Ljava/lang/Object;"⟩).before a0 Z = true) (w5 : (Cond.selects ad ⟨ad, "clone", "()Ljava/lang/Object;"⟩ ⟨"java/lang/Object", "clone", "()Ljava/lang/Object;"⟩).before a0 Z = true) (w6 : (Cond.castable ad "java/lang/Cloneable").before a0 Z = true) (A : OAry Z h a ty vs) (E : Exa Z h a ad) (W : Nat) (hW0 : (st.map fun v => v.category).sum = W) (hfr : 1 ≤ R.frames) (hW : W + 14 ≤ R.locals) (hcap : vs.length ≤ cap) (hc : ce + 1 ≤ R.cells) (hs : sl + cap ≤ R.slots) (hL : Ls.size = maxL)
    (k : ∀ T' h' b, b = h.size → n0 ≤ b → OHr p l e R s m args below meth c Z n0 own nm code maxL ret T' h' (ce + 1) (sl + cap) → Ext h h' → OAry Z h' b ty vs → Exa Z h' b ad → OEnds p e below s n0 Q C S T' (mkF m (pc + 3) Ls (.ref b :: st))) : OEnds p e below s n0 Q C S T (mkF m pc Ls (.ref a :: st)) := by
  obtain ⟨⟨hx, hZ, hby, hml, hown, hnm, hrt, hlk⟩, locs, X, eT, N, z0⟩ := H
  obtain ⟨c1, A, r1, r2, r3⟩ := A
  have hsz : c1.slots.size = vs.length := by rw [← r1]; simp
  have hF : FitC Z c1 := fitC_of A (fun i hi v hv => r3 v (by rw [← r1]; rw [← Array.getElem?_toList] at hv; exact List.mem_of_getElem? hv))
  obtain ⟨T', h', X', e', E', A', B', q⟩ := cloneA X hx hZ hown w1 w2 w3 w4 w5 w6 eT A E hF (g := mkF m pc Ls (.ref a :: st)) rfl (hL.trans hml.symm) rfl (hb hby hd) hfr (W := W) (by show 2 * 0 + _ ≤ _; rw [hW0]; omega) hW (cap := cap) (by rw [hsz]; exact hcap) hc hs
  exact go q (k T' h' _ rfl z0 ⟨⟨hx, hZ, hby, hml, hown, hnm, hrt, hlk⟩, locs, X', e', N, Nat.le_trans z0 E'.1⟩ E' ⟨_, A', r1, r2, r3⟩ B')
theorem checkcast (H : OHr p l e R s m args below meth c Z n0 own nm code maxL ret T h ce sl) {KK : String} {idx : Nat} {a : Addr} (hd : decode code pc = .ok (.checkcast idx, 3)) (w : (Cond.classLink own idx KK).before a0 Z = true) (F : Ins Z h a KK true) (k : ∀ T', OHr p l e R s m args below meth c Z n0 own nm code maxL ret T' h ce sl → OEnds p e below s n0 Q C S T' (mkF m (pc + 3) Ls (.ref a :: st))) : OEnds p e below s n0 Q C S T (mkF m pc Ls (.ref a :: st)) := by
  obtain ⟨⟨hx, hZ, hby, hml, hown, hnm, hrt, hlk⟩, locs, X, eT, N, z0⟩ := H
  obtain ⟨T', X', e', q⟩ := castY X hx hZ hown w eT F (g := mkF m pc Ls (.ref a :: st)) rfl rfl (hb hby hd)
  exact go q (k T' ⟨⟨hx, hZ, hby, hml, hown, hnm, hrt, hlk⟩, locs, X', e', N, z0⟩)
end Go
end Jvm.Own
namespace Jvm.Pilot.@@N@@
open Jvm Jvm.ClassFile Sem Op Lib Jvm.Free Jvm.Stand Jvm.LawKit Jvm.RoadKit Bundle Jvm.Pilot.@@N@@.Jvm.D
open Jvm.Own (OHr OEnds OMet OAry)

theorem own_rem (x d : Int32) (hd : 0 < d.toInt) : 0 ≤ ((x &&& 2147483647) % d).toInt ∧ ((x &&& 2147483647) % d).toInt < d.toInt := by
  have h0 : 0 ≤ (x &&& 2147483647).toInt := (c_and x 2147483647 (by decide)).1
  have h1 := (c_iremV (x &&& 2147483647) d).1 h0 hd
  exact ⟨h1.1, h1.2.1⟩
theorem own_ne {x y : Int32} (h : x.toInt ≠ y.toInt) : ¬ x = y := fun e => h (by rw [e])
theorem own_eq {x y : Int32} (h : x.toInt = y.toInt) : x = y := Int32.toInt_inj.mp h
theorem own_lt {x y : Int32} : x < y ↔ x.toInt < y.toInt := Int32.lt_iff_toInt_lt


theorem own_eqi {x y : Int32} : x = y ↔ x.toInt = y.toInt := ⟨fun q => by rw [q], own_eq⟩
theorem own_ev {args : Array Value} {s : State} {a b : Term} {v : Value} (h : (Jvm.Cond.eq a b).value args s none s [] = some true) (hb : b.eval args s none [] s = some v) : a.eval args s none [] s = some v := by
  obtain ⟨x, y, e1, e2, k1, k2⟩ := cmp_v (Or.inl h)
  have e3 : y = v := Option.some.inj (e2.symm.trans hb)
  subst e3
  rw [e1]
  congr 1
  cases x <;> cases y <;> simp [Jvm.Cond.value, e1, e2] at h <;> first | rfl | (rw [h])

theorem d1_0 : decode method_2_code 0 = .ok (.iload_n 0, 1) := by decide +kernel
theorem d1_1 : decode method_2_code 1 = .ok (.iconst 1, 1) := by decide +kernel
theorem d1_2 : decode method_2_code 2 = .ok (.if_icmp .ne 7, 3) := by decide +kernel
theorem d1_5 : decode method_2_code 5 = .ok (.getstatic 7, 3) := by decide +kernel
theorem d1_8 : decode method_2_code 8 = .ok (.areturn, 1) := by decide +kernel
theorem d1_9 : decode method_2_code 9 = .ok (.iload_n 0, 1) := by decide +kernel
theorem d1_10 : decode method_2_code 10 = .ok (.iconst 2, 1) := by decide +kernel
theorem d1_11 : decode method_2_code 11 = .ok (.if_icmp .ne 7, 3) := by decide +kernel
theorem d1_14 : decode method_2_code 14 = .ok (.getstatic 13, 3) := by decide +kernel
theorem d1_17 : decode method_2_code 17 = .ok (.areturn, 1) := by decide +kernel
theorem d1_18 : decode method_2_code 18 = .ok (.iload_n 0, 1) := by decide +kernel
theorem d1_19 : decode method_2_code 19 = .ok (.iconst 3, 1) := by decide +kernel
theorem d1_20 : decode method_2_code 20 = .ok (.if_icmp .ne 7, 3) := by decide +kernel
theorem d1_23 : decode method_2_code 23 = .ok (.getstatic 16, 3) := by decide +kernel
theorem d1_26 : decode method_2_code 26 = .ok (.areturn, 1) := by decide +kernel
theorem d1_27 : decode method_2_code 27 = .ok (.getstatic 19, 3) := by decide +kernel
theorem d1_30 : decode method_2_code 30 = .ok (.areturn, 1) := by decide +kernel
theorem d2_0 : decode prog_3_method_5_code 0 = .ok (.invokestatic 39, 3) := by decide +kernel
theorem d2_3 : decode prog_3_method_5_code 3 = .ok (.astore_n 1, 1) := by decide +kernel
theorem d2_4 : decode prog_3_method_5_code 4 = .ok (.aload_n 1, 1) := by decide +kernel
theorem d2_5 : decode prog_3_method_5_code 5 = .ok (.arraylength, 1) := by decide +kernel
theorem d2_6 : decode prog_3_method_5_code 6 = .ok (.istore_n 2, 1) := by decide +kernel
theorem d2_7 : decode prog_3_method_5_code 7 = .ok (.iconst 0, 1) := by decide +kernel
theorem d2_8 : decode prog_3_method_5_code 8 = .ok (.istore_n 3, 1) := by decide +kernel
theorem d2_9 : decode prog_3_method_5_code 9 = .ok (.iload_n 3, 1) := by decide +kernel
theorem d2_10 : decode prog_3_method_5_code 10 = .ok (.iload_n 2, 1) := by decide +kernel
theorem d2_11 : decode prog_3_method_5_code 11 = .ok (.if_icmp .ge 26, 3) := by decide +kernel
theorem d2_14 : decode prog_3_method_5_code 14 = .ok (.aload_n 1, 1) := by decide +kernel
theorem d2_15 : decode prog_3_method_5_code 15 = .ok (.iload_n 3, 1) := by decide +kernel
theorem d2_16 : decode prog_3_method_5_code 16 = .ok (.aaload, 1) := by decide +kernel
theorem d2_17 : decode prog_3_method_5_code 17 = .ok (.astore 4, 2) := by decide +kernel
theorem d2_19 : decode prog_3_method_5_code 19 = .ok (.aload 4, 2) := by decide +kernel
theorem d2_21 : decode prog_3_method_5_code 21 = .ok (.getfield 35, 3) := by decide +kernel
theorem d2_24 : decode prog_3_method_5_code 24 = .ok (.iload_n 0, 1) := by decide +kernel
theorem d2_25 : decode prog_3_method_5_code 25 = .ok (.if_icmp .ne 6, 3) := by decide +kernel
theorem d2_28 : decode prog_3_method_5_code 28 = .ok (.aload 4, 2) := by decide +kernel
theorem d2_30 : decode prog_3_method_5_code 30 = .ok (.areturn, 1) := by decide +kernel
theorem d2_31 : decode prog_3_method_5_code 31 = .ok (.iinc 3 1, 3) := by decide +kernel
theorem d2_34 : decode prog_3_method_5_code 34 = .ok (.goto (-25), 3) := by decide +kernel
theorem d2_37 : decode prog_3_method_5_code 37 = .ok (.new 43, 3) := by decide +kernel
theorem d2_40 : decode prog_3_method_5_code 40 = .ok (.dup, 1) := by decide +kernel
theorem d2_41 : decode prog_3_method_5_code 41 = .ok (.iload_n 0, 1) := by decide +kernel
theorem d2_42 : decode prog_3_method_5_code 42 = .ok (.invokedynamic 45, 5) := by decide +kernel
theorem d2_47 : decode prog_3_method_5_code 47 = .ok (.invokespecial 49, 3) := by decide +kernel
theorem d2_50 : decode prog_3_method_5_code 50 = .ok (.athrow, 1) := by decide +kernel
theorem d3_0 : decode prog_3_method_1_code 0 = .ok (.getstatic 16, 3) := by decide +kernel
theorem d3_3 : decode prog_3_method_1_code 3 = .ok (.invokevirtual 20, 3) := by decide +kernel
theorem d3_6 : decode prog_3_method_1_code 6 = .ok (.checkcast 21, 3) := by decide +kernel
theorem d3_9 : decode prog_3_method_1_code 9 = .ok (.areturn, 1) := by decide +kernel
theorem d4_0 : decode prog_3_method_4_code 0 = .ok (.aload_n 0, 1) := by decide +kernel
theorem d4_1 : decode prog_3_method_4_code 1 = .ok (.getfield 35, 3) := by decide +kernel
theorem d4_4 : decode prog_3_method_4_code 4 = .ok (.ireturn, 1) := by decide +kernel
theorem pn_rm_exp1 : plainFor (⟨"com/example/rowdy/rowdy/TypeOfPinLaw", "expected", "(I)Lcom/example/rowdy/rowdy/Cell$Type;"⟩ : MethodName) = true := by first | exact plainFor_of_name (by first | (simp [plainName, overriddenIn]; done) | decide +kernel) | decide +kernel
theorem ef_rm_exp1 (z : Int32) (m : MethodId) : entryFrame m #[(.int z)] 1 = mkF m 0 #[.val (.int z)] [] := by first | (simp [entryFrame, mkF, argsToLocals, Value.category]; done) | rfl
set_option maxRecDepth 65536 in
set_option maxHeartbeats 40000000 in
theorem rm_exp1 (l : Launch) (Z : State) (a0 : Array Value) (hw : ∀ d ∈ tables_1, d.before a0 Z = true) (z : Int32) (h0 : Heap) (n0 : Nat) (Z0 : n0 ≤ h0.size) (aP aC aF aD av : Nat) (SaP : Sta Z h0 "com/example/rowdy/rowdy/Cell$Type" "PUT" "Lcom/example/rowdy/rowdy/Cell$Type;" (.ref aP)) (SaC : Sta Z h0 "com/example/rowdy/rowdy/Cell$Type" "DELETE_COLUMN" "Lcom/example/rowdy/rowdy/Cell$Type;" (.ref aC)) (SaF : Sta Z h0 "com/example/rowdy/rowdy/Cell$Type" "DELETE_FAMILY" "Lcom/example/rowdy/rowdy/Cell$Type;" (.ref aF)) (SaD : Sta Z h0 "com/example/rowdy/rowdy/Cell$Type" "DELETE" "Lcom/example/rowdy/rowdy/Cell$Type;" (.ref aD)) (hz : z = 1) :
    OMet l Z n0 (⟨"com/example/rowdy/rowdy/TypeOfPinLaw", "expected", "(I)Lcom/example/rowdy/rowdy/Cell$Type;"⟩ : MethodName) method_2_code 1 (some (.object "com/example/rowdy/rowdy/Cell$Type")) ({ frames := 0, cells := 0, slots := 0, locals := 0 } : Room) #[(.int z)] h0 (fun v h => v = some (.ref aP) ∧ h = h0) := by
  refine OMet.of pn_rm_exp1 Z0 (ef_rm_exp1 z) ?_
  intro p e s m below meth c T H
  subst hz
  refine Own.iload_n H (pc := 0) d1_0 rfl ?_
  refine Own.iconst H (pc := 1) (1) d1_1 rfl ?_
  refine Own.icmp_ne H (pc := 2) 9 d1_2 (by decide) (by decide) (fun hc => absurd hc (by decide)) (fun _ => ?_)
  refine Own.getstatic H (pc := 5) d1_5 (hw _ (List.mem_of_getElem? (i := 4) rfl)) SaP (fun T_2 H_1 => ?_)
  exact Own.ret_ref H_1 (pc := 8) d1_8 rfl rfl rfl rfl (by decide) (by decide) (⟨rfl, rfl⟩)
theorem pn_rm_exp2 : plainFor (⟨"com/example/rowdy/rowdy/TypeOfPinLaw", "expected", "(I)Lcom/example/rowdy/rowdy/Cell$Type;"⟩ : MethodName) = true := by first | exact plainFor_of_name (by first | (simp [plainName, overriddenIn]; done) | decide +kernel) | decide +kernel
theorem ef_rm_exp2 (z : Int32) (m : MethodId) : entryFrame m #[(.int z)] 1 = mkF m 0 #[.val (.int z)] [] := by first | (simp [entryFrame, mkF, argsToLocals, Value.category]; done) | rfl
set_option maxRecDepth 65536 in
set_option maxHeartbeats 40000000 in
theorem rm_exp2 (l : Launch) (Z : State) (a0 : Array Value) (hw : ∀ d ∈ tables_1, d.before a0 Z = true) (z : Int32) (h0 : Heap) (n0 : Nat) (Z0 : n0 ≤ h0.size) (aP aC aF aD av : Nat) (SaP : Sta Z h0 "com/example/rowdy/rowdy/Cell$Type" "PUT" "Lcom/example/rowdy/rowdy/Cell$Type;" (.ref aP)) (SaC : Sta Z h0 "com/example/rowdy/rowdy/Cell$Type" "DELETE_COLUMN" "Lcom/example/rowdy/rowdy/Cell$Type;" (.ref aC)) (SaF : Sta Z h0 "com/example/rowdy/rowdy/Cell$Type" "DELETE_FAMILY" "Lcom/example/rowdy/rowdy/Cell$Type;" (.ref aF)) (SaD : Sta Z h0 "com/example/rowdy/rowdy/Cell$Type" "DELETE" "Lcom/example/rowdy/rowdy/Cell$Type;" (.ref aD)) (hz : z = 2) :
    OMet l Z n0 (⟨"com/example/rowdy/rowdy/TypeOfPinLaw", "expected", "(I)Lcom/example/rowdy/rowdy/Cell$Type;"⟩ : MethodName) method_2_code 1 (some (.object "com/example/rowdy/rowdy/Cell$Type")) ({ frames := 0, cells := 0, slots := 0, locals := 0 } : Room) #[(.int z)] h0 (fun v h => v = some (.ref aC) ∧ h = h0) := by
  refine OMet.of pn_rm_exp2 Z0 (ef_rm_exp2 z) ?_
  intro p e s m below meth c T H
  subst hz
  refine Own.iload_n H (pc := 0) d1_0 rfl ?_
  refine Own.iconst H (pc := 1) (1) d1_1 rfl ?_
  refine Own.icmp_ne H (pc := 2) 9 d1_2 (by decide) (by decide) (fun _ => ?_) (fun hc => absurd hc (by decide))
  refine Own.iload_n H (pc := 9) d1_9 rfl ?_
  refine Own.iconst H (pc := 10) (2) d1_10 rfl ?_
  refine Own.icmp_ne H (pc := 11) 18 d1_11 (by decide) (by decide) (fun hc => absurd hc (by decide)) (fun _ => ?_)
  refine Own.getstatic H (pc := 14) d1_14 (hw _ (List.mem_of_getElem? (i := 37) rfl)) SaC (fun T_4 H_3 => ?_)
  exact Own.ret_ref H_3 (pc := 17) d1_17 rfl rfl rfl rfl (by decide) (by decide) (⟨rfl, rfl⟩)
theorem pn_rm_exp3 : plainFor (⟨"com/example/rowdy/rowdy/TypeOfPinLaw", "expected", "(I)Lcom/example/rowdy/rowdy/Cell$Type;"⟩ : MethodName) = true := by first | exact plainFor_of_name (by first | (simp [plainName, overriddenIn]; done) | decide +kernel) | decide +kernel
theorem ef_rm_exp3 (z : Int32) (m : MethodId) : entryFrame m #[(.int z)] 1 = mkF m 0 #[.val (.int z)] [] := by first | (simp [entryFrame, mkF, argsToLocals, Value.category]; done) | rfl
set_option maxRecDepth 65536 in
set_option maxHeartbeats 40000000 in
theorem rm_exp3 (l : Launch) (Z : State) (a0 : Array Value) (hw : ∀ d ∈ tables_1, d.before a0 Z = true) (z : Int32) (h0 : Heap) (n0 : Nat) (Z0 : n0 ≤ h0.size) (aP aC aF aD av : Nat) (SaP : Sta Z h0 "com/example/rowdy/rowdy/Cell$Type" "PUT" "Lcom/example/rowdy/rowdy/Cell$Type;" (.ref aP)) (SaC : Sta Z h0 "com/example/rowdy/rowdy/Cell$Type" "DELETE_COLUMN" "Lcom/example/rowdy/rowdy/Cell$Type;" (.ref aC)) (SaF : Sta Z h0 "com/example/rowdy/rowdy/Cell$Type" "DELETE_FAMILY" "Lcom/example/rowdy/rowdy/Cell$Type;" (.ref aF)) (SaD : Sta Z h0 "com/example/rowdy/rowdy/Cell$Type" "DELETE" "Lcom/example/rowdy/rowdy/Cell$Type;" (.ref aD)) (hz : z = 3) :
    OMet l Z n0 (⟨"com/example/rowdy/rowdy/TypeOfPinLaw", "expected", "(I)Lcom/example/rowdy/rowdy/Cell$Type;"⟩ : MethodName) method_2_code 1 (some (.object "com/example/rowdy/rowdy/Cell$Type")) ({ frames := 0, cells := 0, slots := 0, locals := 0 } : Room) #[(.int z)] h0 (fun v h => v = some (.ref aF) ∧ h = h0) := by
  refine OMet.of pn_rm_exp3 Z0 (ef_rm_exp3 z) ?_
  intro p e s m below meth c T H
  subst hz
  refine Own.iload_n H (pc := 0) d1_0 rfl ?_
  refine Own.iconst H (pc := 1) (1) d1_1 rfl ?_
  refine Own.icmp_ne H (pc := 2) 9 d1_2 (by decide) (by decide) (fun _ => ?_) (fun hc => absurd hc (by decide))
  refine Own.iload_n H (pc := 9) d1_9 rfl ?_
  refine Own.iconst H (pc := 10) (2) d1_10 rfl ?_
  refine Own.icmp_ne H (pc := 11) 18 d1_11 (by decide) (by decide) (fun _ => ?_) (fun hc => absurd hc (by decide))
  refine Own.iload_n H (pc := 18) d1_18 rfl ?_
  refine Own.iconst H (pc := 19) (3) d1_19 rfl ?_
  refine Own.icmp_ne H (pc := 20) 27 d1_20 (by decide) (by decide) (fun hc => absurd hc (by decide)) (fun _ => ?_)
  refine Own.getstatic H (pc := 23) d1_23 (hw _ (List.mem_of_getElem? (i := 36) rfl)) SaF (fun T_6 H_5 => ?_)
  exact Own.ret_ref H_5 (pc := 26) d1_26 rfl rfl rfl rfl (by decide) (by decide) (⟨rfl, rfl⟩)
theorem pn_rm_exp4 : plainFor (⟨"com/example/rowdy/rowdy/TypeOfPinLaw", "expected", "(I)Lcom/example/rowdy/rowdy/Cell$Type;"⟩ : MethodName) = true := by first | exact plainFor_of_name (by first | (simp [plainName, overriddenIn]; done) | decide +kernel) | decide +kernel
theorem ef_rm_exp4 (z : Int32) (m : MethodId) : entryFrame m #[(.int z)] 1 = mkF m 0 #[.val (.int z)] [] := by first | (simp [entryFrame, mkF, argsToLocals, Value.category]; done) | rfl
set_option maxRecDepth 65536 in
set_option maxHeartbeats 40000000 in
theorem rm_exp4 (l : Launch) (Z : State) (a0 : Array Value) (hw : ∀ d ∈ tables_1, d.before a0 Z = true) (z : Int32) (h0 : Heap) (n0 : Nat) (Z0 : n0 ≤ h0.size) (aP aC aF aD av : Nat) (SaP : Sta Z h0 "com/example/rowdy/rowdy/Cell$Type" "PUT" "Lcom/example/rowdy/rowdy/Cell$Type;" (.ref aP)) (SaC : Sta Z h0 "com/example/rowdy/rowdy/Cell$Type" "DELETE_COLUMN" "Lcom/example/rowdy/rowdy/Cell$Type;" (.ref aC)) (SaF : Sta Z h0 "com/example/rowdy/rowdy/Cell$Type" "DELETE_FAMILY" "Lcom/example/rowdy/rowdy/Cell$Type;" (.ref aF)) (SaD : Sta Z h0 "com/example/rowdy/rowdy/Cell$Type" "DELETE" "Lcom/example/rowdy/rowdy/Cell$Type;" (.ref aD)) (hz : z = 4) :
    OMet l Z n0 (⟨"com/example/rowdy/rowdy/TypeOfPinLaw", "expected", "(I)Lcom/example/rowdy/rowdy/Cell$Type;"⟩ : MethodName) method_2_code 1 (some (.object "com/example/rowdy/rowdy/Cell$Type")) ({ frames := 0, cells := 0, slots := 0, locals := 0 } : Room) #[(.int z)] h0 (fun v h => v = some (.ref aD) ∧ h = h0) := by
  refine OMet.of pn_rm_exp4 Z0 (ef_rm_exp4 z) ?_
  intro p e s m below meth c T H
  subst hz
  refine Own.iload_n H (pc := 0) d1_0 rfl ?_
  refine Own.iconst H (pc := 1) (1) d1_1 rfl ?_
  refine Own.icmp_ne H (pc := 2) 9 d1_2 (by decide) (by decide) (fun _ => ?_) (fun hc => absurd hc (by decide))
  refine Own.iload_n H (pc := 9) d1_9 rfl ?_
  refine Own.iconst H (pc := 10) (2) d1_10 rfl ?_
  refine Own.icmp_ne H (pc := 11) 18 d1_11 (by decide) (by decide) (fun _ => ?_) (fun hc => absurd hc (by decide))
  refine Own.iload_n H (pc := 18) d1_18 rfl ?_
  refine Own.iconst H (pc := 19) (3) d1_19 rfl ?_
  refine Own.icmp_ne H (pc := 20) 27 d1_20 (by decide) (by decide) (fun _ => ?_) (fun hc => absurd hc (by decide))
  refine Own.getstatic H (pc := 27) d1_27 (hw _ (List.mem_of_getElem? (i := 35) rfl)) SaD (fun T_8 H_7 => ?_)
  exact Own.ret_ref H_7 (pc := 30) d1_30 rfl rfl rfl rfl (by decide) (by decide) (⟨rfl, rfl⟩)
theorem pn_rm_values : plainFor (⟨"com/example/rowdy/rowdy/Cell$Type", "values", "()[Lcom/example/rowdy/rowdy/Cell$Type;"⟩ : MethodName) = true := by first | exact plainFor_of_name (by first | (simp [plainName, overriddenIn]; done) | decide +kernel) | decide +kernel
theorem ef_rm_values  (m : MethodId) : entryFrame m #[] 0 = mkF m 0 #[] [] := by first | (simp [entryFrame, mkF, argsToLocals, Value.category]; done) | rfl
set_option maxRecDepth 65536 in
set_option maxHeartbeats 40000000 in
theorem rm_values (l : Launch) (Z : State) (a0 : Array Value) (hw : ∀ d ∈ tables_1, d.before a0 Z = true)  (h0 : Heap) (n0 : Nat) (Z0 : n0 ≤ h0.size) (aP aC aF aD av : Nat) (SV : Sta Z h0 "com/example/rowdy/rowdy/Cell$Type" "$VALUES" "[Lcom/example/rowdy/rowdy/Cell$Type;" (.ref av)) (AV : OAry Z h0 av (.object "com/example/rowdy/rowdy/Cell$Type") [.ref aF, .ref aC, .ref aD, .ref aP]) (EV : Exa Z h0 av "[Lcom/example/rowdy/rowdy/Cell$Type;") :
    OMet l Z n0 (⟨"com/example/rowdy/rowdy/Cell$Type", "values", "()[Lcom/example/rowdy/rowdy/Cell$Type;"⟩ : MethodName) prog_3_method_1_code 0 (some (.array (.object "com/example/rowdy/rowdy/Cell$Type"))) ({ frames := 1, cells := 1, slots := 4, locals := 14 } : Room) #[] h0 (fun v h => ∃ b : Nat, v = some (.ref b) ∧ Ext h0 h ∧ OAry Z h b (.object "com/example/rowdy/rowdy/Cell$Type") [.ref aF, .ref aC, .ref aD, .ref aP]) := by
  refine OMet.of pn_rm_values Z0 (ef_rm_values ) ?_
  intro p e s m below meth c T H
  refine Own.getstatic H (pc := 0) d3_0 (hw _ (List.mem_of_getElem? (i := 13) rfl)) SV (fun T_10 H_9 => ?_)
  refine Own.clone_ H_9 (pc := 3) (ad := "[Lcom/example/rowdy/rowdy/Cell$Type;") 4 d3_3 (hw _ (List.mem_of_getElem? (i := 15) rfl)) (hw _ (List.mem_of_getElem? (i := 16) rfl)) (hw _ (List.mem_of_getElem? (i := 20) rfl)) (hw _ (List.mem_of_getElem? (i := 18) rfl)) (hw _ (List.mem_of_getElem? (i := 19) rfl)) (hw _ (List.mem_of_getElem? (i := 21) rfl)) AV EV 0 rfl (by decide) (by decide) (by simp) (by decide) (by decide) rfl (fun T_12 h_13 b eq_b ge_b H_11 Ext_b Ary_b Exa_b => ?_)
  refine Own.checkcast H_11 (pc := 6) d3_6 (hw _ (List.mem_of_getElem? (i := 26) rfl)) (Ins.of_exa Exa_b (hw _ (List.mem_of_getElem? (i := 27) rfl))) (fun T_15 H_14 => ?_)
  exact Own.ret_ref H_14 (pc := 9) d3_9 rfl rfl rfl rfl (by decide) (by decide) (⟨b, rfl, Ext_b, Ary_b⟩)
theorem pn_rm_of1 : plainFor (⟨"com/example/rowdy/rowdy/Cell$Type", "of", "(B)Lcom/example/rowdy/rowdy/Cell$Type;"⟩ : MethodName) = true := by first | exact plainFor_of_name (by first | (simp [plainName, overriddenIn]; done) | decide +kernel) | decide +kernel
theorem ef_rm_of1 (z : Int32) (m : MethodId) : entryFrame m #[(.int z)] 5 = mkF m 0 #[.val (.int z), .unset, .unset, .unset, .unset] [] := by first | (simp [entryFrame, mkF, argsToLocals, Value.category]; done) | rfl
set_option maxRecDepth 65536 in
set_option maxHeartbeats 40000000 in
theorem rm_of1 (l : Launch) (Z : State) (a0 : Array Value) (hw : ∀ d ∈ tables_1, d.before a0 Z = true) (z : Int32) (h0 : Heap) (n0 : Nat) (Z0 : n0 ≤ h0.size) (aP aC aF aD av : Nat) (SV : Sta Z h0 "com/example/rowdy/rowdy/Cell$Type" "$VALUES" "[Lcom/example/rowdy/rowdy/Cell$Type;" (.ref av)) (AV : OAry Z h0 av (.object "com/example/rowdy/rowdy/Cell$Type") [.ref aF, .ref aC, .ref aD, .ref aP]) (EV : Exa Z h0 av "[Lcom/example/rowdy/rowdy/Cell$Type;") (FaF : Fld Z h0 aF "com/example/rowdy/rowdy/Cell$Type" "code" "B" (.int 3)) (FaC : Fld Z h0 aC "com/example/rowdy/rowdy/Cell$Type" "code" "B" (.int 2)) (FaD : Fld Z h0 aD "com/example/rowdy/rowdy/Cell$Type" "code" "B" (.int 4)) (FaP : Fld Z h0 aP "com/example/rowdy/rowdy/Cell$Type" "code" "B" (.int 1)) (hz : z = 1) :
    OMet l Z n0 (⟨"com/example/rowdy/rowdy/Cell$Type", "of", "(B)Lcom/example/rowdy/rowdy/Cell$Type;"⟩ : MethodName) prog_3_method_5_code 5 (some (.object "com/example/rowdy/rowdy/Cell$Type")) ({ frames := 2, cells := 1, slots := 4, locals := 25 } : Room) #[(.int z)] h0 (fun v h => v = some (.ref aP) ∧ Ext h0 h) := by
  refine OMet.of pn_rm_of1 Z0 (ef_rm_of1 z) ?_
  intro p e s m below meth c T H
  subst hz
  refine Own.callS H (pc := 0) (y := (⟨"com/example/rowdy/rowdy/Cell$Type", "values", "()[Lcom/example/rowdy/rowdy/Cell$Type;"⟩ : MethodName)) [] [] d2_0 (hw _ (List.mem_of_getElem? (i := 10) rfl)) (hw _ (List.mem_of_getElem? (i := 11) rfl)) (hw _ (List.mem_of_getElem? (i := 5) rfl)) (hw _ (List.mem_of_getElem? (i := 12) rfl)) (by decide) (rm_values l Z a0 hw h0 n0 Z0 aP aC aF aD av SV AV EV) (r := (some (.array (.object "com/example/rowdy/rowdy/Cell$Type")))) (ps := []) (by decide) rfl rfl 0 rfl (by decide) (by decide) (by decide) (by decide) rfl (fun T_17 v_19 h_18 H_16 z_20 q_21 => ?_)
  obtain ⟨b, rfl, X1, B⟩ := q_21
  show OEnds _ _ _ _ _ _ _ _ _ (mkF _ 3 #[.val (.int (1 : Int32)), .unset, .unset, .unset, .unset] [(.ref b)])
  have GaF := FaF.ext X1
  have GaC := FaC.ext X1
  have GaD := FaD.ext X1
  have GaP := FaP.ext X1
  refine Own.astore_n H_16 (pc := 3) #[.val (.int (1 : Int32)), .val (.ref b), .unset, .unset, .unset] d2_3 rfl rfl ?_
  refine Own.aload_n H_16 (pc := 4) d2_4 rfl rfl ?_
  refine Own.arraylength H_16 (pc := 5) (4) d2_5 B rfl ?_
  show OEnds _ _ _ _ _ _ _ _ _ (mkF _ 6 #[.val (.int (1 : Int32)), .val (.ref b), .unset, .unset, .unset] [(.int (4 : Int32))])
  refine Own.istore_n H_16 (pc := 6) #[.val (.int (1 : Int32)), .val (.ref b), .val (.int (4 : Int32)), .unset, .unset] d2_6 rfl ?_
  refine Own.iconst H_16 (pc := 7) (0) d2_7 rfl ?_
  refine Own.istore_n H_16 (pc := 8) #[.val (.int (1 : Int32)), .val (.ref b), .val (.int (4 : Int32)), .val (.int (0 : Int32)), .unset] d2_8 rfl ?_
  refine Own.iload_n H_16 (pc := 9) d2_9 rfl ?_
  refine Own.iload_n H_16 (pc := 10) d2_10 rfl ?_
  refine Own.icmp_ge H_16 (pc := 11) 37 d2_11 (by decide) (by decide) (fun hc => absurd hc (by decide)) (fun _ => ?_)
  refine Own.aload_n H_16 (pc := 14) d2_14 rfl rfl ?_
  refine Own.iload_n H_16 (pc := 15) d2_15 rfl ?_
  refine Own.aaload H_16 (pc := 16) (v := (.ref aF)) 0 d2_16 B rfl rfl rfl ?_
  refine Own.astore H_16 (pc := 17) #[.val (.int (1 : Int32)), .val (.ref b), .val (.int (4 : Int32)), .val (.int (0 : Int32)), .val (.ref aF)] d2_17 rfl rfl ?_
  refine Own.aload H_16 (pc := 19) d2_19 rfl rfl ?_
  refine Own.getfield H_16 (pc := 21) d2_21 (hw _ (List.mem_of_getElem? (i := 28) rfl)) GaF (fun T_23 H_22 => ?_)
  refine Own.iload_n H_22 (pc := 24) d2_24 rfl ?_
  refine Own.icmp_ne H_22 (pc := 25) 31 d2_25 (by decide) (by decide) (fun _ => ?_) (fun hc => absurd hc (by decide))
  refine Own.iinc_c H_22 (pc := 31) (1) #[.val (.int (1 : Int32)), .val (.ref b), .val (.int (4 : Int32)), .val (.int (1 : Int32)), .val (.ref aF)] d2_31 rfl (by decide) rfl ?_
  refine Own.goto H_22 (pc := 34) 9 d2_34 (by decide) (by decide) ?_
  refine Own.iload_n H_22 (pc := 9) d2_9 rfl ?_
  refine Own.iload_n H_22 (pc := 10) d2_10 rfl ?_
  refine Own.icmp_ge H_22 (pc := 11) 37 d2_11 (by decide) (by decide) (fun hc => absurd hc (by decide)) (fun _ => ?_)
  refine Own.aload_n H_22 (pc := 14) d2_14 rfl rfl ?_
  refine Own.iload_n H_22 (pc := 15) d2_15 rfl ?_
  refine Own.aaload H_22 (pc := 16) (v := (.ref aC)) 1 d2_16 B rfl rfl rfl ?_
  refine Own.astore H_22 (pc := 17) #[.val (.int (1 : Int32)), .val (.ref b), .val (.int (4 : Int32)), .val (.int (1 : Int32)), .val (.ref aC)] d2_17 rfl rfl ?_
  refine Own.aload H_22 (pc := 19) d2_19 rfl rfl ?_
  refine Own.getfield H_22 (pc := 21) d2_21 (hw _ (List.mem_of_getElem? (i := 28) rfl)) GaC (fun T_25 H_24 => ?_)
  refine Own.iload_n H_24 (pc := 24) d2_24 rfl ?_
  refine Own.icmp_ne H_24 (pc := 25) 31 d2_25 (by decide) (by decide) (fun _ => ?_) (fun hc => absurd hc (by decide))
  refine Own.iinc_c H_24 (pc := 31) (2) #[.val (.int (1 : Int32)), .val (.ref b), .val (.int (4 : Int32)), .val (.int (2 : Int32)), .val (.ref aC)] d2_31 rfl (by decide) rfl ?_
  refine Own.goto H_24 (pc := 34) 9 d2_34 (by decide) (by decide) ?_
  refine Own.iload_n H_24 (pc := 9) d2_9 rfl ?_
  refine Own.iload_n H_24 (pc := 10) d2_10 rfl ?_
  refine Own.icmp_ge H_24 (pc := 11) 37 d2_11 (by decide) (by decide) (fun hc => absurd hc (by decide)) (fun _ => ?_)
  refine Own.aload_n H_24 (pc := 14) d2_14 rfl rfl ?_
  refine Own.iload_n H_24 (pc := 15) d2_15 rfl ?_
  refine Own.aaload H_24 (pc := 16) (v := (.ref aD)) 2 d2_16 B rfl rfl rfl ?_
  refine Own.astore H_24 (pc := 17) #[.val (.int (1 : Int32)), .val (.ref b), .val (.int (4 : Int32)), .val (.int (2 : Int32)), .val (.ref aD)] d2_17 rfl rfl ?_
  refine Own.aload H_24 (pc := 19) d2_19 rfl rfl ?_
  refine Own.getfield H_24 (pc := 21) d2_21 (hw _ (List.mem_of_getElem? (i := 28) rfl)) GaD (fun T_27 H_26 => ?_)
  refine Own.iload_n H_26 (pc := 24) d2_24 rfl ?_
  refine Own.icmp_ne H_26 (pc := 25) 31 d2_25 (by decide) (by decide) (fun _ => ?_) (fun hc => absurd hc (by decide))
  refine Own.iinc_c H_26 (pc := 31) (3) #[.val (.int (1 : Int32)), .val (.ref b), .val (.int (4 : Int32)), .val (.int (3 : Int32)), .val (.ref aD)] d2_31 rfl (by decide) rfl ?_
  refine Own.goto H_26 (pc := 34) 9 d2_34 (by decide) (by decide) ?_
  refine Own.iload_n H_26 (pc := 9) d2_9 rfl ?_
  refine Own.iload_n H_26 (pc := 10) d2_10 rfl ?_
  refine Own.icmp_ge H_26 (pc := 11) 37 d2_11 (by decide) (by decide) (fun hc => absurd hc (by decide)) (fun _ => ?_)
  refine Own.aload_n H_26 (pc := 14) d2_14 rfl rfl ?_
  refine Own.iload_n H_26 (pc := 15) d2_15 rfl ?_
  refine Own.aaload H_26 (pc := 16) (v := (.ref aP)) 3 d2_16 B rfl rfl rfl ?_
  refine Own.astore H_26 (pc := 17) #[.val (.int (1 : Int32)), .val (.ref b), .val (.int (4 : Int32)), .val (.int (3 : Int32)), .val (.ref aP)] d2_17 rfl rfl ?_
  refine Own.aload H_26 (pc := 19) d2_19 rfl rfl ?_
  refine Own.getfield H_26 (pc := 21) d2_21 (hw _ (List.mem_of_getElem? (i := 28) rfl)) GaP (fun T_29 H_28 => ?_)
  refine Own.iload_n H_28 (pc := 24) d2_24 rfl ?_
  refine Own.icmp_ne H_28 (pc := 25) 31 d2_25 (by decide) (by decide) (fun hc => absurd hc (by decide)) (fun _ => ?_)
  refine Own.aload H_28 (pc := 28) d2_28 rfl rfl ?_
  exact Own.ret_ref H_28 (pc := 30) d2_30 rfl rfl rfl rfl (by decide) (by decide) (⟨rfl, X1⟩)
theorem pn_rm_of2 : plainFor (⟨"com/example/rowdy/rowdy/Cell$Type", "of", "(B)Lcom/example/rowdy/rowdy/Cell$Type;"⟩ : MethodName) = true := by first | exact plainFor_of_name (by first | (simp [plainName, overriddenIn]; done) | decide +kernel) | decide +kernel
theorem ef_rm_of2 (z : Int32) (m : MethodId) : entryFrame m #[(.int z)] 5 = mkF m 0 #[.val (.int z), .unset, .unset, .unset, .unset] [] := by first | (simp [entryFrame, mkF, argsToLocals, Value.category]; done) | rfl
set_option maxRecDepth 65536 in
set_option maxHeartbeats 40000000 in
theorem rm_of2 (l : Launch) (Z : State) (a0 : Array Value) (hw : ∀ d ∈ tables_1, d.before a0 Z = true) (z : Int32) (h0 : Heap) (n0 : Nat) (Z0 : n0 ≤ h0.size) (aP aC aF aD av : Nat) (SV : Sta Z h0 "com/example/rowdy/rowdy/Cell$Type" "$VALUES" "[Lcom/example/rowdy/rowdy/Cell$Type;" (.ref av)) (AV : OAry Z h0 av (.object "com/example/rowdy/rowdy/Cell$Type") [.ref aF, .ref aC, .ref aD, .ref aP]) (EV : Exa Z h0 av "[Lcom/example/rowdy/rowdy/Cell$Type;") (FaF : Fld Z h0 aF "com/example/rowdy/rowdy/Cell$Type" "code" "B" (.int 3)) (FaC : Fld Z h0 aC "com/example/rowdy/rowdy/Cell$Type" "code" "B" (.int 2)) (FaD : Fld Z h0 aD "com/example/rowdy/rowdy/Cell$Type" "code" "B" (.int 4)) (FaP : Fld Z h0 aP "com/example/rowdy/rowdy/Cell$Type" "code" "B" (.int 1)) (hz : z = 2) :
    OMet l Z n0 (⟨"com/example/rowdy/rowdy/Cell$Type", "of", "(B)Lcom/example/rowdy/rowdy/Cell$Type;"⟩ : MethodName) prog_3_method_5_code 5 (some (.object "com/example/rowdy/rowdy/Cell$Type")) ({ frames := 2, cells := 1, slots := 4, locals := 25 } : Room) #[(.int z)] h0 (fun v h => v = some (.ref aC) ∧ Ext h0 h) := by
  refine OMet.of pn_rm_of2 Z0 (ef_rm_of2 z) ?_
  intro p e s m below meth c T H
  subst hz
  refine Own.callS H (pc := 0) (y := (⟨"com/example/rowdy/rowdy/Cell$Type", "values", "()[Lcom/example/rowdy/rowdy/Cell$Type;"⟩ : MethodName)) [] [] d2_0 (hw _ (List.mem_of_getElem? (i := 10) rfl)) (hw _ (List.mem_of_getElem? (i := 11) rfl)) (hw _ (List.mem_of_getElem? (i := 5) rfl)) (hw _ (List.mem_of_getElem? (i := 12) rfl)) (by decide) (rm_values l Z a0 hw h0 n0 Z0 aP aC aF aD av SV AV EV) (r := (some (.array (.object "com/example/rowdy/rowdy/Cell$Type")))) (ps := []) (by decide) rfl rfl 0 rfl (by decide) (by decide) (by decide) (by decide) rfl (fun T_31 v_33 h_32 H_30 z_34 q_35 => ?_)
  obtain ⟨b, rfl, X1, B⟩ := q_35
  show OEnds _ _ _ _ _ _ _ _ _ (mkF _ 3 #[.val (.int (2 : Int32)), .unset, .unset, .unset, .unset] [(.ref b)])
  have GaF := FaF.ext X1
  have GaC := FaC.ext X1
  have GaD := FaD.ext X1
  have GaP := FaP.ext X1
  refine Own.astore_n H_30 (pc := 3) #[.val (.int (2 : Int32)), .val (.ref b), .unset, .unset, .unset] d2_3 rfl rfl ?_
  refine Own.aload_n H_30 (pc := 4) d2_4 rfl rfl ?_
  refine Own.arraylength H_30 (pc := 5) (4) d2_5 B rfl ?_
  show OEnds _ _ _ _ _ _ _ _ _ (mkF _ 6 #[.val (.int (2 : Int32)), .val (.ref b), .unset, .unset, .unset] [(.int (4 : Int32))])
  refine Own.istore_n H_30 (pc := 6) #[.val (.int (2 : Int32)), .val (.ref b), .val (.int (4 : Int32)), .unset, .unset] d2_6 rfl ?_
  refine Own.iconst H_30 (pc := 7) (0) d2_7 rfl ?_
  refine Own.istore_n H_30 (pc := 8) #[.val (.int (2 : Int32)), .val (.ref b), .val (.int (4 : Int32)), .val (.int (0 : Int32)), .unset] d2_8 rfl ?_
  refine Own.iload_n H_30 (pc := 9) d2_9 rfl ?_
  refine Own.iload_n H_30 (pc := 10) d2_10 rfl ?_
  refine Own.icmp_ge H_30 (pc := 11) 37 d2_11 (by decide) (by decide) (fun hc => absurd hc (by decide)) (fun _ => ?_)
  refine Own.aload_n H_30 (pc := 14) d2_14 rfl rfl ?_
  refine Own.iload_n H_30 (pc := 15) d2_15 rfl ?_
  refine Own.aaload H_30 (pc := 16) (v := (.ref aF)) 0 d2_16 B rfl rfl rfl ?_
  refine Own.astore H_30 (pc := 17) #[.val (.int (2 : Int32)), .val (.ref b), .val (.int (4 : Int32)), .val (.int (0 : Int32)), .val (.ref aF)] d2_17 rfl rfl ?_
  refine Own.aload H_30 (pc := 19) d2_19 rfl rfl ?_
  refine Own.getfield H_30 (pc := 21) d2_21 (hw _ (List.mem_of_getElem? (i := 28) rfl)) GaF (fun T_37 H_36 => ?_)
  refine Own.iload_n H_36 (pc := 24) d2_24 rfl ?_
  refine Own.icmp_ne H_36 (pc := 25) 31 d2_25 (by decide) (by decide) (fun _ => ?_) (fun hc => absurd hc (by decide))
  refine Own.iinc_c H_36 (pc := 31) (1) #[.val (.int (2 : Int32)), .val (.ref b), .val (.int (4 : Int32)), .val (.int (1 : Int32)), .val (.ref aF)] d2_31 rfl (by decide) rfl ?_
  refine Own.goto H_36 (pc := 34) 9 d2_34 (by decide) (by decide) ?_
  refine Own.iload_n H_36 (pc := 9) d2_9 rfl ?_
  refine Own.iload_n H_36 (pc := 10) d2_10 rfl ?_
  refine Own.icmp_ge H_36 (pc := 11) 37 d2_11 (by decide) (by decide) (fun hc => absurd hc (by decide)) (fun _ => ?_)
  refine Own.aload_n H_36 (pc := 14) d2_14 rfl rfl ?_
  refine Own.iload_n H_36 (pc := 15) d2_15 rfl ?_
  refine Own.aaload H_36 (pc := 16) (v := (.ref aC)) 1 d2_16 B rfl rfl rfl ?_
  refine Own.astore H_36 (pc := 17) #[.val (.int (2 : Int32)), .val (.ref b), .val (.int (4 : Int32)), .val (.int (1 : Int32)), .val (.ref aC)] d2_17 rfl rfl ?_
  refine Own.aload H_36 (pc := 19) d2_19 rfl rfl ?_
  refine Own.getfield H_36 (pc := 21) d2_21 (hw _ (List.mem_of_getElem? (i := 28) rfl)) GaC (fun T_39 H_38 => ?_)
  refine Own.iload_n H_38 (pc := 24) d2_24 rfl ?_
  refine Own.icmp_ne H_38 (pc := 25) 31 d2_25 (by decide) (by decide) (fun hc => absurd hc (by decide)) (fun _ => ?_)
  refine Own.aload H_38 (pc := 28) d2_28 rfl rfl ?_
  exact Own.ret_ref H_38 (pc := 30) d2_30 rfl rfl rfl rfl (by decide) (by decide) (⟨rfl, X1⟩)
theorem pn_rm_of3 : plainFor (⟨"com/example/rowdy/rowdy/Cell$Type", "of", "(B)Lcom/example/rowdy/rowdy/Cell$Type;"⟩ : MethodName) = true := by first | exact plainFor_of_name (by first | (simp [plainName, overriddenIn]; done) | decide +kernel) | decide +kernel
theorem ef_rm_of3 (z : Int32) (m : MethodId) : entryFrame m #[(.int z)] 5 = mkF m 0 #[.val (.int z), .unset, .unset, .unset, .unset] [] := by first | (simp [entryFrame, mkF, argsToLocals, Value.category]; done) | rfl
set_option maxRecDepth 65536 in
set_option maxHeartbeats 40000000 in
theorem rm_of3 (l : Launch) (Z : State) (a0 : Array Value) (hw : ∀ d ∈ tables_1, d.before a0 Z = true) (z : Int32) (h0 : Heap) (n0 : Nat) (Z0 : n0 ≤ h0.size) (aP aC aF aD av : Nat) (SV : Sta Z h0 "com/example/rowdy/rowdy/Cell$Type" "$VALUES" "[Lcom/example/rowdy/rowdy/Cell$Type;" (.ref av)) (AV : OAry Z h0 av (.object "com/example/rowdy/rowdy/Cell$Type") [.ref aF, .ref aC, .ref aD, .ref aP]) (EV : Exa Z h0 av "[Lcom/example/rowdy/rowdy/Cell$Type;") (FaF : Fld Z h0 aF "com/example/rowdy/rowdy/Cell$Type" "code" "B" (.int 3)) (FaC : Fld Z h0 aC "com/example/rowdy/rowdy/Cell$Type" "code" "B" (.int 2)) (FaD : Fld Z h0 aD "com/example/rowdy/rowdy/Cell$Type" "code" "B" (.int 4)) (FaP : Fld Z h0 aP "com/example/rowdy/rowdy/Cell$Type" "code" "B" (.int 1)) (hz : z = 3) :
    OMet l Z n0 (⟨"com/example/rowdy/rowdy/Cell$Type", "of", "(B)Lcom/example/rowdy/rowdy/Cell$Type;"⟩ : MethodName) prog_3_method_5_code 5 (some (.object "com/example/rowdy/rowdy/Cell$Type")) ({ frames := 2, cells := 1, slots := 4, locals := 25 } : Room) #[(.int z)] h0 (fun v h => v = some (.ref aF) ∧ Ext h0 h) := by
  refine OMet.of pn_rm_of3 Z0 (ef_rm_of3 z) ?_
  intro p e s m below meth c T H
  subst hz
  refine Own.callS H (pc := 0) (y := (⟨"com/example/rowdy/rowdy/Cell$Type", "values", "()[Lcom/example/rowdy/rowdy/Cell$Type;"⟩ : MethodName)) [] [] d2_0 (hw _ (List.mem_of_getElem? (i := 10) rfl)) (hw _ (List.mem_of_getElem? (i := 11) rfl)) (hw _ (List.mem_of_getElem? (i := 5) rfl)) (hw _ (List.mem_of_getElem? (i := 12) rfl)) (by decide) (rm_values l Z a0 hw h0 n0 Z0 aP aC aF aD av SV AV EV) (r := (some (.array (.object "com/example/rowdy/rowdy/Cell$Type")))) (ps := []) (by decide) rfl rfl 0 rfl (by decide) (by decide) (by decide) (by decide) rfl (fun T_41 v_43 h_42 H_40 z_44 q_45 => ?_)
  obtain ⟨b, rfl, X1, B⟩ := q_45
  show OEnds _ _ _ _ _ _ _ _ _ (mkF _ 3 #[.val (.int (3 : Int32)), .unset, .unset, .unset, .unset] [(.ref b)])
  have GaF := FaF.ext X1
  have GaC := FaC.ext X1
  have GaD := FaD.ext X1
  have GaP := FaP.ext X1
  refine Own.astore_n H_40 (pc := 3) #[.val (.int (3 : Int32)), .val (.ref b), .unset, .unset, .unset] d2_3 rfl rfl ?_
  refine Own.aload_n H_40 (pc := 4) d2_4 rfl rfl ?_
  refine Own.arraylength H_40 (pc := 5) (4) d2_5 B rfl ?_
  show OEnds _ _ _ _ _ _ _ _ _ (mkF _ 6 #[.val (.int (3 : Int32)), .val (.ref b), .unset, .unset, .unset] [(.int (4 : Int32))])
  refine Own.istore_n H_40 (pc := 6) #[.val (.int (3 : Int32)), .val (.ref b), .val (.int (4 : Int32)), .unset, .unset] d2_6 rfl ?_
  refine Own.iconst H_40 (pc := 7) (0) d2_7 rfl ?_
  refine Own.istore_n H_40 (pc := 8) #[.val (.int (3 : Int32)), .val (.ref b), .val (.int (4 : Int32)), .val (.int (0 : Int32)), .unset] d2_8 rfl ?_
  refine Own.iload_n H_40 (pc := 9) d2_9 rfl ?_
  refine Own.iload_n H_40 (pc := 10) d2_10 rfl ?_
  refine Own.icmp_ge H_40 (pc := 11) 37 d2_11 (by decide) (by decide) (fun hc => absurd hc (by decide)) (fun _ => ?_)
  refine Own.aload_n H_40 (pc := 14) d2_14 rfl rfl ?_
  refine Own.iload_n H_40 (pc := 15) d2_15 rfl ?_
  refine Own.aaload H_40 (pc := 16) (v := (.ref aF)) 0 d2_16 B rfl rfl rfl ?_
  refine Own.astore H_40 (pc := 17) #[.val (.int (3 : Int32)), .val (.ref b), .val (.int (4 : Int32)), .val (.int (0 : Int32)), .val (.ref aF)] d2_17 rfl rfl ?_
  refine Own.aload H_40 (pc := 19) d2_19 rfl rfl ?_
  refine Own.getfield H_40 (pc := 21) d2_21 (hw _ (List.mem_of_getElem? (i := 28) rfl)) GaF (fun T_47 H_46 => ?_)
  refine Own.iload_n H_46 (pc := 24) d2_24 rfl ?_
  refine Own.icmp_ne H_46 (pc := 25) 31 d2_25 (by decide) (by decide) (fun hc => absurd hc (by decide)) (fun _ => ?_)
  refine Own.aload H_46 (pc := 28) d2_28 rfl rfl ?_
  exact Own.ret_ref H_46 (pc := 30) d2_30 rfl rfl rfl rfl (by decide) (by decide) (⟨rfl, X1⟩)
theorem pn_rm_of4 : plainFor (⟨"com/example/rowdy/rowdy/Cell$Type", "of", "(B)Lcom/example/rowdy/rowdy/Cell$Type;"⟩ : MethodName) = true := by first | exact plainFor_of_name (by first | (simp [plainName, overriddenIn]; done) | decide +kernel) | decide +kernel
theorem ef_rm_of4 (z : Int32) (m : MethodId) : entryFrame m #[(.int z)] 5 = mkF m 0 #[.val (.int z), .unset, .unset, .unset, .unset] [] := by first | (simp [entryFrame, mkF, argsToLocals, Value.category]; done) | rfl
set_option maxRecDepth 65536 in
set_option maxHeartbeats 40000000 in
theorem rm_of4 (l : Launch) (Z : State) (a0 : Array Value) (hw : ∀ d ∈ tables_1, d.before a0 Z = true) (z : Int32) (h0 : Heap) (n0 : Nat) (Z0 : n0 ≤ h0.size) (aP aC aF aD av : Nat) (SV : Sta Z h0 "com/example/rowdy/rowdy/Cell$Type" "$VALUES" "[Lcom/example/rowdy/rowdy/Cell$Type;" (.ref av)) (AV : OAry Z h0 av (.object "com/example/rowdy/rowdy/Cell$Type") [.ref aF, .ref aC, .ref aD, .ref aP]) (EV : Exa Z h0 av "[Lcom/example/rowdy/rowdy/Cell$Type;") (FaF : Fld Z h0 aF "com/example/rowdy/rowdy/Cell$Type" "code" "B" (.int 3)) (FaC : Fld Z h0 aC "com/example/rowdy/rowdy/Cell$Type" "code" "B" (.int 2)) (FaD : Fld Z h0 aD "com/example/rowdy/rowdy/Cell$Type" "code" "B" (.int 4)) (FaP : Fld Z h0 aP "com/example/rowdy/rowdy/Cell$Type" "code" "B" (.int 1)) (hz : z = 4) :
    OMet l Z n0 (⟨"com/example/rowdy/rowdy/Cell$Type", "of", "(B)Lcom/example/rowdy/rowdy/Cell$Type;"⟩ : MethodName) prog_3_method_5_code 5 (some (.object "com/example/rowdy/rowdy/Cell$Type")) ({ frames := 2, cells := 1, slots := 4, locals := 25 } : Room) #[(.int z)] h0 (fun v h => v = some (.ref aD) ∧ Ext h0 h) := by
  refine OMet.of pn_rm_of4 Z0 (ef_rm_of4 z) ?_
  intro p e s m below meth c T H
  subst hz
  refine Own.callS H (pc := 0) (y := (⟨"com/example/rowdy/rowdy/Cell$Type", "values", "()[Lcom/example/rowdy/rowdy/Cell$Type;"⟩ : MethodName)) [] [] d2_0 (hw _ (List.mem_of_getElem? (i := 10) rfl)) (hw _ (List.mem_of_getElem? (i := 11) rfl)) (hw _ (List.mem_of_getElem? (i := 5) rfl)) (hw _ (List.mem_of_getElem? (i := 12) rfl)) (by decide) (rm_values l Z a0 hw h0 n0 Z0 aP aC aF aD av SV AV EV) (r := (some (.array (.object "com/example/rowdy/rowdy/Cell$Type")))) (ps := []) (by decide) rfl rfl 0 rfl (by decide) (by decide) (by decide) (by decide) rfl (fun T_49 v_51 h_50 H_48 z_52 q_53 => ?_)
  obtain ⟨b, rfl, X1, B⟩ := q_53
  show OEnds _ _ _ _ _ _ _ _ _ (mkF _ 3 #[.val (.int (4 : Int32)), .unset, .unset, .unset, .unset] [(.ref b)])
  have GaF := FaF.ext X1
  have GaC := FaC.ext X1
  have GaD := FaD.ext X1
  have GaP := FaP.ext X1
  refine Own.astore_n H_48 (pc := 3) #[.val (.int (4 : Int32)), .val (.ref b), .unset, .unset, .unset] d2_3 rfl rfl ?_
  refine Own.aload_n H_48 (pc := 4) d2_4 rfl rfl ?_
  refine Own.arraylength H_48 (pc := 5) (4) d2_5 B rfl ?_
  show OEnds _ _ _ _ _ _ _ _ _ (mkF _ 6 #[.val (.int (4 : Int32)), .val (.ref b), .unset, .unset, .unset] [(.int (4 : Int32))])
  refine Own.istore_n H_48 (pc := 6) #[.val (.int (4 : Int32)), .val (.ref b), .val (.int (4 : Int32)), .unset, .unset] d2_6 rfl ?_
  refine Own.iconst H_48 (pc := 7) (0) d2_7 rfl ?_
  refine Own.istore_n H_48 (pc := 8) #[.val (.int (4 : Int32)), .val (.ref b), .val (.int (4 : Int32)), .val (.int (0 : Int32)), .unset] d2_8 rfl ?_
  refine Own.iload_n H_48 (pc := 9) d2_9 rfl ?_
  refine Own.iload_n H_48 (pc := 10) d2_10 rfl ?_
  refine Own.icmp_ge H_48 (pc := 11) 37 d2_11 (by decide) (by decide) (fun hc => absurd hc (by decide)) (fun _ => ?_)
  refine Own.aload_n H_48 (pc := 14) d2_14 rfl rfl ?_
  refine Own.iload_n H_48 (pc := 15) d2_15 rfl ?_
  refine Own.aaload H_48 (pc := 16) (v := (.ref aF)) 0 d2_16 B rfl rfl rfl ?_
  refine Own.astore H_48 (pc := 17) #[.val (.int (4 : Int32)), .val (.ref b), .val (.int (4 : Int32)), .val (.int (0 : Int32)), .val (.ref aF)] d2_17 rfl rfl ?_
  refine Own.aload H_48 (pc := 19) d2_19 rfl rfl ?_
  refine Own.getfield H_48 (pc := 21) d2_21 (hw _ (List.mem_of_getElem? (i := 28) rfl)) GaF (fun T_55 H_54 => ?_)
  refine Own.iload_n H_54 (pc := 24) d2_24 rfl ?_
  refine Own.icmp_ne H_54 (pc := 25) 31 d2_25 (by decide) (by decide) (fun _ => ?_) (fun hc => absurd hc (by decide))
  refine Own.iinc_c H_54 (pc := 31) (1) #[.val (.int (4 : Int32)), .val (.ref b), .val (.int (4 : Int32)), .val (.int (1 : Int32)), .val (.ref aF)] d2_31 rfl (by decide) rfl ?_
  refine Own.goto H_54 (pc := 34) 9 d2_34 (by decide) (by decide) ?_
  refine Own.iload_n H_54 (pc := 9) d2_9 rfl ?_
  refine Own.iload_n H_54 (pc := 10) d2_10 rfl ?_
  refine Own.icmp_ge H_54 (pc := 11) 37 d2_11 (by decide) (by decide) (fun hc => absurd hc (by decide)) (fun _ => ?_)
  refine Own.aload_n H_54 (pc := 14) d2_14 rfl rfl ?_
  refine Own.iload_n H_54 (pc := 15) d2_15 rfl ?_
  refine Own.aaload H_54 (pc := 16) (v := (.ref aC)) 1 d2_16 B rfl rfl rfl ?_
  refine Own.astore H_54 (pc := 17) #[.val (.int (4 : Int32)), .val (.ref b), .val (.int (4 : Int32)), .val (.int (1 : Int32)), .val (.ref aC)] d2_17 rfl rfl ?_
  refine Own.aload H_54 (pc := 19) d2_19 rfl rfl ?_
  refine Own.getfield H_54 (pc := 21) d2_21 (hw _ (List.mem_of_getElem? (i := 28) rfl)) GaC (fun T_57 H_56 => ?_)
  refine Own.iload_n H_56 (pc := 24) d2_24 rfl ?_
  refine Own.icmp_ne H_56 (pc := 25) 31 d2_25 (by decide) (by decide) (fun _ => ?_) (fun hc => absurd hc (by decide))
  refine Own.iinc_c H_56 (pc := 31) (2) #[.val (.int (4 : Int32)), .val (.ref b), .val (.int (4 : Int32)), .val (.int (2 : Int32)), .val (.ref aC)] d2_31 rfl (by decide) rfl ?_
  refine Own.goto H_56 (pc := 34) 9 d2_34 (by decide) (by decide) ?_
  refine Own.iload_n H_56 (pc := 9) d2_9 rfl ?_
  refine Own.iload_n H_56 (pc := 10) d2_10 rfl ?_
  refine Own.icmp_ge H_56 (pc := 11) 37 d2_11 (by decide) (by decide) (fun hc => absurd hc (by decide)) (fun _ => ?_)
  refine Own.aload_n H_56 (pc := 14) d2_14 rfl rfl ?_
  refine Own.iload_n H_56 (pc := 15) d2_15 rfl ?_
  refine Own.aaload H_56 (pc := 16) (v := (.ref aD)) 2 d2_16 B rfl rfl rfl ?_
  refine Own.astore H_56 (pc := 17) #[.val (.int (4 : Int32)), .val (.ref b), .val (.int (4 : Int32)), .val (.int (2 : Int32)), .val (.ref aD)] d2_17 rfl rfl ?_
  refine Own.aload H_56 (pc := 19) d2_19 rfl rfl ?_
  refine Own.getfield H_56 (pc := 21) d2_21 (hw _ (List.mem_of_getElem? (i := 28) rfl)) GaD (fun T_59 H_58 => ?_)
  refine Own.iload_n H_58 (pc := 24) d2_24 rfl ?_
  refine Own.icmp_ne H_58 (pc := 25) 31 d2_25 (by decide) (by decide) (fun hc => absurd hc (by decide)) (fun _ => ?_)
  refine Own.aload H_58 (pc := 28) d2_28 rfl rfl ?_
  exact Own.ret_ref H_58 (pc := 30) d2_30 rfl rfl rfl rfl (by decide) (by decide) (⟨rfl, X1⟩)
theorem pn_rm_code : plainFor (⟨"com/example/rowdy/rowdy/Cell$Type", "code", "()B"⟩ : MethodName) = true := by first | exact plainFor_of_name (by first | (simp [plainName, overriddenIn]; done) | decide +kernel) | decide +kernel
theorem ef_rm_code (a : Nat) (m : MethodId) : entryFrame m #[(.ref a)] 1 = mkF m 0 #[.val (.ref a)] [] := by first | (simp [entryFrame, mkF, argsToLocals, Value.category]; done) | rfl
set_option maxRecDepth 65536 in
set_option maxHeartbeats 40000000 in
theorem rm_code (l : Launch) (Z : State) (a0 : Array Value) (hw : ∀ d ∈ tables_1, d.before a0 Z = true) (a : Nat) (h0 : Heap) (n0 : Nat) (Z0 : n0 ≤ h0.size) (k : Int32) (F : Fld Z h0 a "com/example/rowdy/rowdy/Cell$Type" "code" "B" (.int k)) (hk : nar .byte k = k) :
    OMet l Z n0 (⟨"com/example/rowdy/rowdy/Cell$Type", "code", "()B"⟩ : MethodName) prog_3_method_4_code 1 (some .byte) ({ frames := 0, cells := 0, slots := 0, locals := 0 } : Room) #[(.ref a)] h0 (fun v h => v = some (.int k) ∧ h = h0) := by
  refine OMet.of pn_rm_code Z0 (ef_rm_code a) ?_
  intro p e s m below meth c T H
  refine Own.aload_n H (pc := 0) d4_0 rfl rfl ?_
  refine Own.getfield H (pc := 1) d4_1 (hw _ (List.mem_of_getElem? (i := 28) rfl)) F (fun T_61 H_60 => ?_)
  exact Own.ret_nar H_60 (pc := 4) k d4_4 rfl (by simp) (hk) (by decide) (by decide) (⟨rfl, rfl⟩)
theorem pn_rm_law : plainFor x = true := by first | exact plainFor_of_name (by first | (simp [plainName, overriddenIn]; done) | decide +kernel) | decide +kernel
theorem ef_rm_law (p0 : Int32) (m : MethodId) : entryFrame m #[(.int p0)] maxLocals = mkF m 0 #[.val (.int p0), .unset, .unset, .unset, .unset] [] := by first | (simp [entryFrame, mkF, argsToLocals, Value.category, maxLocals]; done) | rfl
set_option maxRecDepth 65536 in
set_option maxHeartbeats 40000000 in
theorem rm_law (l : Launch) (Z : State) (a0 : Array Value) (hw : ∀ d ∈ tables_1, d.before a0 Z = true) (p0 : Int32) (h0 : Heap) (n0 : Nat) (Z0 : n0 ≤ h0.size) (aP aC aF aD av : Nat) (SaP : Sta Z h0 "com/example/rowdy/rowdy/Cell$Type" "PUT" "Lcom/example/rowdy/rowdy/Cell$Type;" (.ref aP)) (SaC : Sta Z h0 "com/example/rowdy/rowdy/Cell$Type" "DELETE_COLUMN" "Lcom/example/rowdy/rowdy/Cell$Type;" (.ref aC)) (SaF : Sta Z h0 "com/example/rowdy/rowdy/Cell$Type" "DELETE_FAMILY" "Lcom/example/rowdy/rowdy/Cell$Type;" (.ref aF)) (SaD : Sta Z h0 "com/example/rowdy/rowdy/Cell$Type" "DELETE" "Lcom/example/rowdy/rowdy/Cell$Type;" (.ref aD)) (SV : Sta Z h0 "com/example/rowdy/rowdy/Cell$Type" "$VALUES" "[Lcom/example/rowdy/rowdy/Cell$Type;" (.ref av)) (AV : OAry Z h0 av (.object "com/example/rowdy/rowdy/Cell$Type") [.ref aF, .ref aC, .ref aD, .ref aP]) (EV : Exa Z h0 av "[Lcom/example/rowdy/rowdy/Cell$Type;") (FaF : Fld Z h0 aF "com/example/rowdy/rowdy/Cell$Type" "code" "B" (.int 3)) (FaC : Fld Z h0 aC "com/example/rowdy/rowdy/Cell$Type" "code" "B" (.int 2)) (FaD : Fld Z h0 aD "com/example/rowdy/rowdy/Cell$Type" "code" "B" (.int 4)) (FaP : Fld Z h0 aP "com/example/rowdy/rowdy/Cell$Type" "code" "B" (.int 1)) (EaF : Exa Z h0 aF "com/example/rowdy/rowdy/Cell$Type") (EaC : Exa Z h0 aC "com/example/rowdy/rowdy/Cell$Type") (EaD : Exa Z h0 aD "com/example/rowdy/rowdy/Cell$Type") (EaP : Exa Z h0 aP "com/example/rowdy/rowdy/Cell$Type") :
    OMet l Z n0 x code maxLocals ret room_1 #[(.int p0)] h0 (fun v h => v = some (.int 1)) := by
  refine OMet.of pn_rm_law Z0 (ef_rm_law p0) ?_
  intro p e s m below meth c T H
  refine Own.iload_n H (pc := 0) at_0 rfl ?_
  refine Own.iconst H (pc := 1) (3) at_1 rfl ?_
  refine Own.iand H (pc := 2) at_2 ?_
  generalize ey : (p0 &&& (3 : Int32)) = y
  have hy : 0 ≤ y.toInt ∧ y.toInt ≤ 3 := by rw [← ey]; exact c_and p0 3 (by decide)
  clear ey
  have cases : y = 0 ∨ y = 1 ∨ y = 2 ∨ y = 3 := by
    have h0 : y.toInt = 0 ∨ y.toInt = 1 ∨ y.toInt = 2 ∨ y.toInt = 3 := by omega
    rcases h0 with q | q | q | q
    · exact Or.inl (own_eq q)
    · exact Or.inr (Or.inl (own_eq q))
    · exact Or.inr (Or.inr (Or.inl (own_eq q)))
    · exact Or.inr (Or.inr (Or.inr (own_eq q)))
  rcases cases with rfl | rfl | rfl | rfl
  · refine Own.iconst H (pc := 3) (1) at_3 rfl ?_
    refine Own.iadd_c H (pc := 4) (1) at_4 (by decide) ?_
    refine Own.istore_n H (pc := 5) #[.val (.int p0), .val (.int (1 : Int32)), .unset, .unset, .unset] at_5 rfl ?_
    refine Own.iload_n H (pc := 6) at_6 rfl ?_
    refine Own.i2b H (pc := 7) at_7 ?_
    show OEnds _ _ _ _ _ _ _ _ _ (mkF _ 8 #[.val (.int p0), .val (.int (1 : Int32)), .unset, .unset, .unset] [(.int (1 : Int32))])
    refine Own.istore_n H (pc := 8) #[.val (.int p0), .val (.int (1 : Int32)), .val (.int (1 : Int32)), .unset, .unset] at_8 rfl ?_
    refine Own.iload_n H (pc := 9) at_9 rfl ?_
    refine Own.callS H (pc := 10) (y := (⟨"com/example/rowdy/rowdy/TypeOfPinLaw", "expected", "(I)Lcom/example/rowdy/rowdy/Cell$Type;"⟩ : MethodName)) [(.int (1 : Int32))] [] at_10 (hw _ (List.mem_of_getElem? (i := 0) rfl)) (hw _ (List.mem_of_getElem? (i := 1) rfl)) (hw _ (List.mem_of_getElem? (i := 2) rfl)) (hw _ (List.mem_of_getElem? (i := 3) rfl)) (by decide) (rm_exp1 l Z a0 hw (1 : Int32) _ n0 H.z0 aP aC aF aD av SaP SaC SaF SaD rfl) (r := (some (.object "com/example/rowdy/rowdy/Cell$Type"))) (ps := [.int]) (by decide) rfl rfl 0 rfl (by decide) (by decide) (by decide) (by decide) rfl (fun T_63 v_65 h_64 H_62 z_66 q_67 => ?_)
    obtain ⟨rfl, rfl⟩ := q_67
    show OEnds _ _ _ _ _ _ _ _ _ (mkF _ 13 #[.val (.int p0), .val (.int (1 : Int32)), .val (.int (1 : Int32)), .unset, .unset] [(.ref aP)])
    refine Own.astore_n H_62 (pc := 13) #[.val (.int p0), .val (.int (1 : Int32)), .val (.int (1 : Int32)), .val (.ref aP), .unset] at_13 rfl rfl ?_
    refine Own.iload_n H_62 (pc := 14) at_14 rfl ?_
    refine Own.callS H_62 (pc := 15) (y := (⟨"com/example/rowdy/rowdy/Cell$Type", "of", "(B)Lcom/example/rowdy/rowdy/Cell$Type;"⟩ : MethodName)) [(.int (1 : Int32))] [] at_15 (hw _ (List.mem_of_getElem? (i := 7) rfl)) (hw _ (List.mem_of_getElem? (i := 8) rfl)) (hw _ (List.mem_of_getElem? (i := 5) rfl)) (hw _ (List.mem_of_getElem? (i := 9) rfl)) (by decide) (rm_of1 l Z a0 hw (1 : Int32) _ n0 H_62.z0 aP aC aF aD av SV AV EV FaF FaC FaD FaP rfl) (r := (some (.object "com/example/rowdy/rowdy/Cell$Type"))) (ps := [.byte]) (by decide) rfl rfl 0 rfl (by decide) (by decide) (by decide) (by decide) rfl (fun T_69 v_71 h_70 H_68 z_72 q_73 => ?_)
    obtain ⟨rfl, X1⟩ := q_73
    show OEnds _ _ _ _ _ _ _ _ _ (mkF _ 18 #[.val (.int p0), .val (.int (1 : Int32)), .val (.int (1 : Int32)), .val (.ref aP), .unset] [(.ref aP)])
    refine Own.astore H_68 (pc := 18) #[.val (.int p0), .val (.int (1 : Int32)), .val (.int (1 : Int32)), .val (.ref aP), .val (.ref aP)] at_18 rfl rfl ?_
    refine Own.aload H_68 (pc := 20) at_20 rfl rfl ?_
    refine Own.aload_n H_68 (pc := 22) at_22 rfl rfl ?_
    refine Own.acmp_ne H_68 (pc := 23) 39 at_23 rfl rfl (by decide) (by decide) (fun hX => absurd rfl hX) (fun _ => ?_)
    refine Own.aload H_68 (pc := 26) at_26 rfl rfl ?_
    refine Own.callV H_68 (pc := 28) (y := (⟨"com/example/rowdy/rowdy/Cell$Type", "code", "()B"⟩ : MethodName)) (z := (⟨"com/example/rowdy/rowdy/Cell$Type", "code", "()B"⟩ : MethodName)) (CC := "com/example/rowdy/rowdy/Cell$Type") aP [] [] at_28 (hw _ (List.mem_of_getElem? (i := 30) rfl)) (hw _ (List.mem_of_getElem? (i := 31) rfl)) (H_68.nf (hw _ (List.mem_of_getElem? (i := 33) rfl))) (hw _ (List.mem_of_getElem? (i := 33) rfl)) (hw _ (List.mem_of_getElem? (i := 32) rfl)) (hw _ (List.mem_of_getElem? (i := 5) rfl)) (hw _ (List.mem_of_getElem? (i := 34) rfl)) (by decide) (EaP.ext X1) (rm_code l Z a0 hw aP _ n0 H_68.z0 1 (FaP.ext X1) (by decide)) (r := (some .byte)) (ps := []) (by decide) rfl rfl 0 rfl (by decide) (by decide) (by decide) (by decide) rfl (fun T_75 v_77 h_76 H_74 z_78 q_79 => ?_)
    obtain ⟨rfl, rfl⟩ := q_79
    show OEnds _ _ _ _ _ _ _ _ _ (mkF _ 31 #[.val (.int p0), .val (.int (1 : Int32)), .val (.int (1 : Int32)), .val (.ref aP), .val (.ref aP)] [(.int (1 : Int32))])
    refine Own.iload_n H_74 (pc := 31) at_31 rfl ?_
    refine Own.icmp_ne H_74 (pc := 32) 39 at_32 (by decide) (by decide) (fun hc => absurd hc (by decide)) (fun _ => ?_)
    refine Own.iconst H_74 (pc := 35) (1) at_35 rfl ?_
    refine Own.goto H_74 (pc := 36) 40 at_36 (by decide) (by decide) ?_
    exact Own.ret_nar H_74 (pc := 40) (1) at_40 rfl (by simp) (by decide) (by decide) (by decide) (rfl)
  · refine Own.iconst H (pc := 3) (1) at_3 rfl ?_
    refine Own.iadd_c H (pc := 4) (2) at_4 (by decide) ?_
    refine Own.istore_n H (pc := 5) #[.val (.int p0), .val (.int (2 : Int32)), .unset, .unset, .unset] at_5 rfl ?_
    refine Own.iload_n H (pc := 6) at_6 rfl ?_
    refine Own.i2b H (pc := 7) at_7 ?_
    show OEnds _ _ _ _ _ _ _ _ _ (mkF _ 8 #[.val (.int p0), .val (.int (2 : Int32)), .unset, .unset, .unset] [(.int (2 : Int32))])
    refine Own.istore_n H (pc := 8) #[.val (.int p0), .val (.int (2 : Int32)), .val (.int (2 : Int32)), .unset, .unset] at_8 rfl ?_
    refine Own.iload_n H (pc := 9) at_9 rfl ?_
    refine Own.callS H (pc := 10) (y := (⟨"com/example/rowdy/rowdy/TypeOfPinLaw", "expected", "(I)Lcom/example/rowdy/rowdy/Cell$Type;"⟩ : MethodName)) [(.int (2 : Int32))] [] at_10 (hw _ (List.mem_of_getElem? (i := 0) rfl)) (hw _ (List.mem_of_getElem? (i := 1) rfl)) (hw _ (List.mem_of_getElem? (i := 2) rfl)) (hw _ (List.mem_of_getElem? (i := 3) rfl)) (by decide) (rm_exp2 l Z a0 hw (2 : Int32) _ n0 H.z0 aP aC aF aD av SaP SaC SaF SaD rfl) (r := (some (.object "com/example/rowdy/rowdy/Cell$Type"))) (ps := [.int]) (by decide) rfl rfl 0 rfl (by decide) (by decide) (by decide) (by decide) rfl (fun T_81 v_83 h_82 H_80 z_84 q_85 => ?_)
    obtain ⟨rfl, rfl⟩ := q_85
    show OEnds _ _ _ _ _ _ _ _ _ (mkF _ 13 #[.val (.int p0), .val (.int (2 : Int32)), .val (.int (2 : Int32)), .unset, .unset] [(.ref aC)])
    refine Own.astore_n H_80 (pc := 13) #[.val (.int p0), .val (.int (2 : Int32)), .val (.int (2 : Int32)), .val (.ref aC), .unset] at_13 rfl rfl ?_
    refine Own.iload_n H_80 (pc := 14) at_14 rfl ?_
    refine Own.callS H_80 (pc := 15) (y := (⟨"com/example/rowdy/rowdy/Cell$Type", "of", "(B)Lcom/example/rowdy/rowdy/Cell$Type;"⟩ : MethodName)) [(.int (2 : Int32))] [] at_15 (hw _ (List.mem_of_getElem? (i := 7) rfl)) (hw _ (List.mem_of_getElem? (i := 8) rfl)) (hw _ (List.mem_of_getElem? (i := 5) rfl)) (hw _ (List.mem_of_getElem? (i := 9) rfl)) (by decide) (rm_of2 l Z a0 hw (2 : Int32) _ n0 H_80.z0 aP aC aF aD av SV AV EV FaF FaC FaD FaP rfl) (r := (some (.object "com/example/rowdy/rowdy/Cell$Type"))) (ps := [.byte]) (by decide) rfl rfl 0 rfl (by decide) (by decide) (by decide) (by decide) rfl (fun T_87 v_89 h_88 H_86 z_90 q_91 => ?_)
    obtain ⟨rfl, X1⟩ := q_91
    show OEnds _ _ _ _ _ _ _ _ _ (mkF _ 18 #[.val (.int p0), .val (.int (2 : Int32)), .val (.int (2 : Int32)), .val (.ref aC), .unset] [(.ref aC)])
    refine Own.astore H_86 (pc := 18) #[.val (.int p0), .val (.int (2 : Int32)), .val (.int (2 : Int32)), .val (.ref aC), .val (.ref aC)] at_18 rfl rfl ?_
    refine Own.aload H_86 (pc := 20) at_20 rfl rfl ?_
    refine Own.aload_n H_86 (pc := 22) at_22 rfl rfl ?_
    refine Own.acmp_ne H_86 (pc := 23) 39 at_23 rfl rfl (by decide) (by decide) (fun hX => absurd rfl hX) (fun _ => ?_)
    refine Own.aload H_86 (pc := 26) at_26 rfl rfl ?_
    refine Own.callV H_86 (pc := 28) (y := (⟨"com/example/rowdy/rowdy/Cell$Type", "code", "()B"⟩ : MethodName)) (z := (⟨"com/example/rowdy/rowdy/Cell$Type", "code", "()B"⟩ : MethodName)) (CC := "com/example/rowdy/rowdy/Cell$Type") aC [] [] at_28 (hw _ (List.mem_of_getElem? (i := 30) rfl)) (hw _ (List.mem_of_getElem? (i := 31) rfl)) (H_86.nf (hw _ (List.mem_of_getElem? (i := 33) rfl))) (hw _ (List.mem_of_getElem? (i := 33) rfl)) (hw _ (List.mem_of_getElem? (i := 32) rfl)) (hw _ (List.mem_of_getElem? (i := 5) rfl)) (hw _ (List.mem_of_getElem? (i := 34) rfl)) (by decide) (EaC.ext X1) (rm_code l Z a0 hw aC _ n0 H_86.z0 2 (FaC.ext X1) (by decide)) (r := (some .byte)) (ps := []) (by decide) rfl rfl 0 rfl (by decide) (by decide) (by decide) (by decide) rfl (fun T_93 v_95 h_94 H_92 z_96 q_97 => ?_)
    obtain ⟨rfl, rfl⟩ := q_97
    show OEnds _ _ _ _ _ _ _ _ _ (mkF _ 31 #[.val (.int p0), .val (.int (2 : Int32)), .val (.int (2 : Int32)), .val (.ref aC), .val (.ref aC)] [(.int (2 : Int32))])
    refine Own.iload_n H_92 (pc := 31) at_31 rfl ?_
    refine Own.icmp_ne H_92 (pc := 32) 39 at_32 (by decide) (by decide) (fun hc => absurd hc (by decide)) (fun _ => ?_)
    refine Own.iconst H_92 (pc := 35) (1) at_35 rfl ?_
    refine Own.goto H_92 (pc := 36) 40 at_36 (by decide) (by decide) ?_
    exact Own.ret_nar H_92 (pc := 40) (1) at_40 rfl (by simp) (by decide) (by decide) (by decide) (rfl)
  · refine Own.iconst H (pc := 3) (1) at_3 rfl ?_
    refine Own.iadd_c H (pc := 4) (3) at_4 (by decide) ?_
    refine Own.istore_n H (pc := 5) #[.val (.int p0), .val (.int (3 : Int32)), .unset, .unset, .unset] at_5 rfl ?_
    refine Own.iload_n H (pc := 6) at_6 rfl ?_
    refine Own.i2b H (pc := 7) at_7 ?_
    show OEnds _ _ _ _ _ _ _ _ _ (mkF _ 8 #[.val (.int p0), .val (.int (3 : Int32)), .unset, .unset, .unset] [(.int (3 : Int32))])
    refine Own.istore_n H (pc := 8) #[.val (.int p0), .val (.int (3 : Int32)), .val (.int (3 : Int32)), .unset, .unset] at_8 rfl ?_
    refine Own.iload_n H (pc := 9) at_9 rfl ?_
    refine Own.callS H (pc := 10) (y := (⟨"com/example/rowdy/rowdy/TypeOfPinLaw", "expected", "(I)Lcom/example/rowdy/rowdy/Cell$Type;"⟩ : MethodName)) [(.int (3 : Int32))] [] at_10 (hw _ (List.mem_of_getElem? (i := 0) rfl)) (hw _ (List.mem_of_getElem? (i := 1) rfl)) (hw _ (List.mem_of_getElem? (i := 2) rfl)) (hw _ (List.mem_of_getElem? (i := 3) rfl)) (by decide) (rm_exp3 l Z a0 hw (3 : Int32) _ n0 H.z0 aP aC aF aD av SaP SaC SaF SaD rfl) (r := (some (.object "com/example/rowdy/rowdy/Cell$Type"))) (ps := [.int]) (by decide) rfl rfl 0 rfl (by decide) (by decide) (by decide) (by decide) rfl (fun T_99 v_101 h_100 H_98 z_102 q_103 => ?_)
    obtain ⟨rfl, rfl⟩ := q_103
    show OEnds _ _ _ _ _ _ _ _ _ (mkF _ 13 #[.val (.int p0), .val (.int (3 : Int32)), .val (.int (3 : Int32)), .unset, .unset] [(.ref aF)])
    refine Own.astore_n H_98 (pc := 13) #[.val (.int p0), .val (.int (3 : Int32)), .val (.int (3 : Int32)), .val (.ref aF), .unset] at_13 rfl rfl ?_
    refine Own.iload_n H_98 (pc := 14) at_14 rfl ?_
    refine Own.callS H_98 (pc := 15) (y := (⟨"com/example/rowdy/rowdy/Cell$Type", "of", "(B)Lcom/example/rowdy/rowdy/Cell$Type;"⟩ : MethodName)) [(.int (3 : Int32))] [] at_15 (hw _ (List.mem_of_getElem? (i := 7) rfl)) (hw _ (List.mem_of_getElem? (i := 8) rfl)) (hw _ (List.mem_of_getElem? (i := 5) rfl)) (hw _ (List.mem_of_getElem? (i := 9) rfl)) (by decide) (rm_of3 l Z a0 hw (3 : Int32) _ n0 H_98.z0 aP aC aF aD av SV AV EV FaF FaC FaD FaP rfl) (r := (some (.object "com/example/rowdy/rowdy/Cell$Type"))) (ps := [.byte]) (by decide) rfl rfl 0 rfl (by decide) (by decide) (by decide) (by decide) rfl (fun T_105 v_107 h_106 H_104 z_108 q_109 => ?_)
    obtain ⟨rfl, X1⟩ := q_109
    show OEnds _ _ _ _ _ _ _ _ _ (mkF _ 18 #[.val (.int p0), .val (.int (3 : Int32)), .val (.int (3 : Int32)), .val (.ref aF), .unset] [(.ref aF)])
    refine Own.astore H_104 (pc := 18) #[.val (.int p0), .val (.int (3 : Int32)), .val (.int (3 : Int32)), .val (.ref aF), .val (.ref aF)] at_18 rfl rfl ?_
    refine Own.aload H_104 (pc := 20) at_20 rfl rfl ?_
    refine Own.aload_n H_104 (pc := 22) at_22 rfl rfl ?_
    refine Own.acmp_ne H_104 (pc := 23) 39 at_23 rfl rfl (by decide) (by decide) (fun hX => absurd rfl hX) (fun _ => ?_)
    refine Own.aload H_104 (pc := 26) at_26 rfl rfl ?_
    refine Own.callV H_104 (pc := 28) (y := (⟨"com/example/rowdy/rowdy/Cell$Type", "code", "()B"⟩ : MethodName)) (z := (⟨"com/example/rowdy/rowdy/Cell$Type", "code", "()B"⟩ : MethodName)) (CC := "com/example/rowdy/rowdy/Cell$Type") aF [] [] at_28 (hw _ (List.mem_of_getElem? (i := 30) rfl)) (hw _ (List.mem_of_getElem? (i := 31) rfl)) (H_104.nf (hw _ (List.mem_of_getElem? (i := 33) rfl))) (hw _ (List.mem_of_getElem? (i := 33) rfl)) (hw _ (List.mem_of_getElem? (i := 32) rfl)) (hw _ (List.mem_of_getElem? (i := 5) rfl)) (hw _ (List.mem_of_getElem? (i := 34) rfl)) (by decide) (EaF.ext X1) (rm_code l Z a0 hw aF _ n0 H_104.z0 3 (FaF.ext X1) (by decide)) (r := (some .byte)) (ps := []) (by decide) rfl rfl 0 rfl (by decide) (by decide) (by decide) (by decide) rfl (fun T_111 v_113 h_112 H_110 z_114 q_115 => ?_)
    obtain ⟨rfl, rfl⟩ := q_115
    show OEnds _ _ _ _ _ _ _ _ _ (mkF _ 31 #[.val (.int p0), .val (.int (3 : Int32)), .val (.int (3 : Int32)), .val (.ref aF), .val (.ref aF)] [(.int (3 : Int32))])
    refine Own.iload_n H_110 (pc := 31) at_31 rfl ?_
    refine Own.icmp_ne H_110 (pc := 32) 39 at_32 (by decide) (by decide) (fun hc => absurd hc (by decide)) (fun _ => ?_)
    refine Own.iconst H_110 (pc := 35) (1) at_35 rfl ?_
    refine Own.goto H_110 (pc := 36) 40 at_36 (by decide) (by decide) ?_
    exact Own.ret_nar H_110 (pc := 40) (1) at_40 rfl (by simp) (by decide) (by decide) (by decide) (rfl)
  · refine Own.iconst H (pc := 3) (1) at_3 rfl ?_
    refine Own.iadd_c H (pc := 4) (4) at_4 (by decide) ?_
    refine Own.istore_n H (pc := 5) #[.val (.int p0), .val (.int (4 : Int32)), .unset, .unset, .unset] at_5 rfl ?_
    refine Own.iload_n H (pc := 6) at_6 rfl ?_
    refine Own.i2b H (pc := 7) at_7 ?_
    show OEnds _ _ _ _ _ _ _ _ _ (mkF _ 8 #[.val (.int p0), .val (.int (4 : Int32)), .unset, .unset, .unset] [(.int (4 : Int32))])
    refine Own.istore_n H (pc := 8) #[.val (.int p0), .val (.int (4 : Int32)), .val (.int (4 : Int32)), .unset, .unset] at_8 rfl ?_
    refine Own.iload_n H (pc := 9) at_9 rfl ?_
    refine Own.callS H (pc := 10) (y := (⟨"com/example/rowdy/rowdy/TypeOfPinLaw", "expected", "(I)Lcom/example/rowdy/rowdy/Cell$Type;"⟩ : MethodName)) [(.int (4 : Int32))] [] at_10 (hw _ (List.mem_of_getElem? (i := 0) rfl)) (hw _ (List.mem_of_getElem? (i := 1) rfl)) (hw _ (List.mem_of_getElem? (i := 2) rfl)) (hw _ (List.mem_of_getElem? (i := 3) rfl)) (by decide) (rm_exp4 l Z a0 hw (4 : Int32) _ n0 H.z0 aP aC aF aD av SaP SaC SaF SaD rfl) (r := (some (.object "com/example/rowdy/rowdy/Cell$Type"))) (ps := [.int]) (by decide) rfl rfl 0 rfl (by decide) (by decide) (by decide) (by decide) rfl (fun T_117 v_119 h_118 H_116 z_120 q_121 => ?_)
    obtain ⟨rfl, rfl⟩ := q_121
    show OEnds _ _ _ _ _ _ _ _ _ (mkF _ 13 #[.val (.int p0), .val (.int (4 : Int32)), .val (.int (4 : Int32)), .unset, .unset] [(.ref aD)])
    refine Own.astore_n H_116 (pc := 13) #[.val (.int p0), .val (.int (4 : Int32)), .val (.int (4 : Int32)), .val (.ref aD), .unset] at_13 rfl rfl ?_
    refine Own.iload_n H_116 (pc := 14) at_14 rfl ?_
    refine Own.callS H_116 (pc := 15) (y := (⟨"com/example/rowdy/rowdy/Cell$Type", "of", "(B)Lcom/example/rowdy/rowdy/Cell$Type;"⟩ : MethodName)) [(.int (4 : Int32))] [] at_15 (hw _ (List.mem_of_getElem? (i := 7) rfl)) (hw _ (List.mem_of_getElem? (i := 8) rfl)) (hw _ (List.mem_of_getElem? (i := 5) rfl)) (hw _ (List.mem_of_getElem? (i := 9) rfl)) (by decide) (rm_of4 l Z a0 hw (4 : Int32) _ n0 H_116.z0 aP aC aF aD av SV AV EV FaF FaC FaD FaP rfl) (r := (some (.object "com/example/rowdy/rowdy/Cell$Type"))) (ps := [.byte]) (by decide) rfl rfl 0 rfl (by decide) (by decide) (by decide) (by decide) rfl (fun T_123 v_125 h_124 H_122 z_126 q_127 => ?_)
    obtain ⟨rfl, X1⟩ := q_127
    show OEnds _ _ _ _ _ _ _ _ _ (mkF _ 18 #[.val (.int p0), .val (.int (4 : Int32)), .val (.int (4 : Int32)), .val (.ref aD), .unset] [(.ref aD)])
    refine Own.astore H_122 (pc := 18) #[.val (.int p0), .val (.int (4 : Int32)), .val (.int (4 : Int32)), .val (.ref aD), .val (.ref aD)] at_18 rfl rfl ?_
    refine Own.aload H_122 (pc := 20) at_20 rfl rfl ?_
    refine Own.aload_n H_122 (pc := 22) at_22 rfl rfl ?_
    refine Own.acmp_ne H_122 (pc := 23) 39 at_23 rfl rfl (by decide) (by decide) (fun hX => absurd rfl hX) (fun _ => ?_)
    refine Own.aload H_122 (pc := 26) at_26 rfl rfl ?_
    refine Own.callV H_122 (pc := 28) (y := (⟨"com/example/rowdy/rowdy/Cell$Type", "code", "()B"⟩ : MethodName)) (z := (⟨"com/example/rowdy/rowdy/Cell$Type", "code", "()B"⟩ : MethodName)) (CC := "com/example/rowdy/rowdy/Cell$Type") aD [] [] at_28 (hw _ (List.mem_of_getElem? (i := 30) rfl)) (hw _ (List.mem_of_getElem? (i := 31) rfl)) (H_122.nf (hw _ (List.mem_of_getElem? (i := 33) rfl))) (hw _ (List.mem_of_getElem? (i := 33) rfl)) (hw _ (List.mem_of_getElem? (i := 32) rfl)) (hw _ (List.mem_of_getElem? (i := 5) rfl)) (hw _ (List.mem_of_getElem? (i := 34) rfl)) (by decide) (EaD.ext X1) (rm_code l Z a0 hw aD _ n0 H_122.z0 4 (FaD.ext X1) (by decide)) (r := (some .byte)) (ps := []) (by decide) rfl rfl 0 rfl (by decide) (by decide) (by decide) (by decide) rfl (fun T_129 v_131 h_130 H_128 z_132 q_133 => ?_)
    obtain ⟨rfl, rfl⟩ := q_133
    show OEnds _ _ _ _ _ _ _ _ _ (mkF _ 31 #[.val (.int p0), .val (.int (4 : Int32)), .val (.int (4 : Int32)), .val (.ref aD), .val (.ref aD)] [(.int (4 : Int32))])
    refine Own.iload_n H_128 (pc := 31) at_31 rfl ?_
    refine Own.icmp_ne H_128 (pc := 32) 39 at_32 (by decide) (by decide) (fun hc => absurd hc (by decide)) (fun _ => ?_)
    refine Own.iconst H_128 (pc := 35) (1) at_35 rfl ?_
    refine Own.goto H_128 (pc := 36) 40 at_36 (by decide) (by decide) ?_
    exact Own.ret_nar H_128 (pc := 40) (1) at_40 rfl (by simp) (by decide) (by decide) (by decide) (rfl)

theorem own_len {args : Array Value} {s : State} {t : Term} {a : Addr} {cl : Cell} (h : (Jvm.Term.length t).eval args s none [] s = some (.int 4)) (ht : t.eval args s none [] s = some (.ref a)) (ha : s.arrayAt? a = some cl) : cl.slots.size = 4 := by
  by_cases hl : cl.slots.size < 2 ^ 31
  · have e := h.symm.trans (len_f ht ha hl)
    have e2 : (4 : Int32) = cl.slots.size.toInt32 := by injection e with e; injection e
    have e3 := congrArg Int32.toInt e2
    have e4 : (cl.slots.size.toInt32).toInt = (cl.slots.size : Int) := Int32.toInt_ofNat_of_lt hl
    have e5 : (4 : Int32).toInt = 4 := rfl
    omega
  · simp [Term.eval, ht, ha, hl] at h
theorem own_four (xs : Array Value) {v0 v1 v2 v3 : Value} (sz : xs.size = 4) (t0 : xs[((0 : Int32)).toNatClampNeg]? = some v0) (t1 : xs[((1 : Int32)).toNatClampNeg]? = some v1) (t2 : xs[((2 : Int32)).toNatClampNeg]? = some v2) (t3 : xs[((3 : Int32)).toNatClampNeg]? = some v3) : xs.toList = [v0, v1, v2, v3] := by
  obtain ⟨L⟩ := xs
  match L, sz with
  | [w0, w1, w2, w3], _ =>
    have u0 : w0 = v0 := Option.some.inj t0
    have u1 : w1 = v1 := Option.some.inj t1
    have u2 : w2 = v2 := Option.some.inj t2
    have u3 : w3 = v3 := Option.some.inj t3
    rw [← u0, ← u1, ← u2, ← u3]

set_option maxRecDepth 65536 in
set_option maxHeartbeats 40000000 in
theorem comes_1 {Post : Tables → Env → Array Value → State → Outcome → State → Prop} (hpost : ∀ tb e args s v u, (limb_1_1.after args s (.returned v) u = true ∧ limb_1_2.after args s (.returned v) u = true ∧ True) → FrameEnd s (.returned v) u (Jvm.fieldLocs frame_1_writes args s ++ Jvm.arrayLocs frame_1_arrays args s ++ Jvm.staticLocs frame_1_statics s) 16 128 → Post tb e args s (.returned v) u) :
    ArmFor flags0 classFile x code maxLocals ret World_1 tables_1 room_1 Calls_1 rest_1 Pre_1 Post := by
  intro l hfl _ _ p e ha hc hk s m args below hf hA hF happ hP
  obtain ⟨hcalls, hrest, hpre⟩ := hP
  obtain ⟨-, -, -, hnamed, -, -, -, hat⟩ := (Spec.applies_iff hf).mp happ
  obtain ⟨hg, hn⟩ := and_e (Cond.before_iff.mp (show (Jvm.Cond.and given_1 narrow_1).before args s = true from hpre))
  obtain ⟨g0, k0⟩ := and_e hg
  obtain ⟨w0, rfl⟩ : ∃ w0 : Value, args = #[w0] := by
    have hs : args.size = 1 := by simpa [Cond.value, given_1] using g0
    obtain ⟨L⟩ := args
    match L, hs with
    | [w0], _ => exact ⟨w0, rfl⟩
  have hw := fun d (hd : d ∈ tables_1) => atoms_spec (ws := Jvm.Cond.code x code maxLocals ret :: tables_1) hat d (List.mem_cons_of_mem _ hd)
  have hfit : Fit s := fun {y c} hc i hi => by
    obtain ⟨ha, rfl⟩ := Array.getElem?_eq_some_iff.mp hc
    have q := List.all_eq_true.mp ((Array.all_eq_true_iff_forall_mem.mp hF) _ (Array.getElem_mem ha)) i (List.mem_range.mpr hi)
    simpa [Array.getElem?_eq_getElem hi] using q
  obtain ⟨i0, e0⟩ := is_v k0
  obtain rfl : w0 = (.int i0) := Option.some.inj e0
  obtain ⟨exP, r0⟩ := and_e hn
  obtain ⟨arV, r1⟩ := and_e r0
  obtain ⟨exV, r2⟩ := and_e r1
  obtain ⟨lenV, r3⟩ := and_e r2
  obtain ⟨exF, r4⟩ := and_e r3
  obtain ⟨el0, r5⟩ := and_e r4
  obtain ⟨exC, r6⟩ := and_e r5
  obtain ⟨el1, r7⟩ := and_e r6
  obtain ⟨exD, r8⟩ := and_e r7
  obtain ⟨el2, r9⟩ := and_e r8
  obtain ⟨el3, r10⟩ := and_e r9
  obtain ⟨cF, r11⟩ := and_e r10
  obtain ⟨cC, r12⟩ := and_e r11
  obtain ⟨cD, r13⟩ := and_e r12
  have cP := r13
  obtain ⟨aP, eaP⟩ := exa_v exP
  have EaP := Exa.start eaP exP
  have SaP := Sta.start eaP (Or.inr ⟨(hw _ (List.mem_of_getElem? (i := 5) rfl)), (hw _ (List.mem_of_getElem? (i := 6) rfl))⟩)
  obtain ⟨aC, eaC⟩ := exa_v exC
  have EaC := Exa.start eaC exC
  have SaC := Sta.start eaC (Or.inr ⟨(hw _ (List.mem_of_getElem? (i := 5) rfl)), (hw _ (List.mem_of_getElem? (i := 23) rfl))⟩)
  obtain ⟨aF, eaF⟩ := exa_v exF
  have EaF := Exa.start eaF exF
  have SaF := Sta.start eaF (Or.inr ⟨(hw _ (List.mem_of_getElem? (i := 5) rfl)), (hw _ (List.mem_of_getElem? (i := 22) rfl))⟩)
  obtain ⟨aD, eaD⟩ := exa_v exD
  have EaD := Exa.start eaD exD
  have SaD := Sta.start eaD (Or.inr ⟨(hw _ (List.mem_of_getElem? (i := 5) rfl)), (hw _ (List.mem_of_getElem? (i := 24) rfl))⟩)
  obtain ⟨av, eV⟩ := arr_v arV
  obtain ⟨cl, AV0⟩ := Arr.start eV arV
  have EV := Exa.start eV exV
  have SV := Sta.start eV (Or.inr ⟨(hw _ (List.mem_of_getElem? (i := 5) rfl)), (hw _ (List.mem_of_getElem? (i := 14) rfl))⟩)
  have t0 := (elem_in (own_ev el0 eaF) eV (Term.int_eval (0)) AV0.1).2
  have t1 := (elem_in (own_ev el1 eaC) eV (Term.int_eval (1)) AV0.1).2
  have t2 := (elem_in (own_ev el2 eaD) eV (Term.int_eval (2)) AV0.1).2
  have t3 := (elem_in (own_ev el3 eaP) eV (Term.int_eval (3)) AV0.1).2
  have tl := own_ev lenV (Term.int_eval (4))
  have sz : cl.slots.size = 4 := own_len tl eV (AV0.fin (State.Warmed39.refl s).alike)
  have AV : OAry s s.heap av (.object "com/example/rowdy/rowdy/Cell$Type") [.ref aF, .ref aC, .ref aD, .ref aP] := ⟨cl, AV0, own_four cl.slots sz t0 t1 t2 t3, by simp, by
    intro v hv
    simp only [List.mem_cons, List.not_mem_nil, or_false] at hv
    rcases hv with rfl | rfl | rfl | rfl <;> rfl⟩
  have FaF := Fld.start ((fld_at eaF).symm.trans (own_ev cF (Term.int_eval (3))))
  have FaC := Fld.start ((fld_at eaC).symm.trans (own_ev cC (Term.int_eval (2))))
  have FaD := Fld.start ((fld_at eaD).symm.trans (own_ev cD (Term.int_eval (4))))
  have FaP := Fld.start ((fld_at eaP).symm.trans (own_ev cP (Term.int_eval (1))))
  obtain ⟨n, o, h1, h2, h3, _, L, rfl, ⟨N, -, rfl⟩, hq⟩ := rm_law l s _ hw i0 s.heap s.heap.size (Nat.le_refl _) aP aC aF aD av SaP SaC SaF SaD SV AV EV FaF FaC FaD FaP EaF EaC EaD EaP tables_1 p e ha hc hk s m _ below hf ((Spec.applies_iff_loose hf).mp happ).1 ⟨rfl, State.Warmed39.refl s, rfl⟩ trivial
  refine ⟨n, _, h1, h2, h3, hpost _ _ _ _ _ _ ⟨Cond.after_iff.mpr rfl, Cond.after_iff.mpr (eq_i res_at (Term.int_eval (1)) rfl), trivial⟩ ⟨hq.1, hq.2.1, (hq.2.2.sift fun y hy => Or.inr (N y hy)).mono (by decide) (by decide)⟩⟩
theorem main_1_1 : Claimed_1_1 := comes_1 fun _ _ _ _ _ _ h hF => ⟨h.1, hF⟩
theorem main_1_2 : Claimed_1_2 := comes_1 fun _ _ _ _ _ _ h hF => ⟨h.2.1, hF⟩
end Jvm.Pilot.@@N@@
namespace Jvm.Pilot.@@N@@
open Jvm Jvm.ClassFile Sem Op Lib Jvm.Free Jvm.Stand Jvm.Pilot.@@N@@.Jvm.D
/-! MADE BY PROGRAM (witnessworld.py) out of the Statement's table words and the real class files: 13 classes; the members and pool entries that the words name. The judged class is class 1, her method 2. -/
namespace start1
open Jvm.ClassFile
def u (s : String) : CpInfo := .utf8 (stringToUtf16 s)
/-- a pool by its gaps: so many unusable entries, then the entry; so many at the end -/
def gap : Nat → List CpInfo → List CpInfo
  | 0, r => r
  | n + 1, r => .unusable :: gap n r
def poolList (es : List (Nat × CpInfo)) (last : Nat) : List CpInfo := es.foldr (fun e r => gap e.1 (e.2 :: r)) (gap last [])
def pool (es : List (Nat × CpInfo)) (last : Nat) : Array CpInfo := ⟨poolList es last⟩
def fileOf (pool : Array CpInfo) (this : Nat) (attrs : Array Attribute := #[]) (ms : Array MethodInfo := #[]) (fl : Nat := 33) (sup : Nat := 0) (ifs : Array Nat := #[]) (fds : Array FieldInfo := #[]) : ClassFile where
  minorVersion := 0
  majorVersion := 65
  constantPool := pool
  accessFlags := fl
  thisClass := this
  superClass := sup
  interfaces := ifs
  fields := fds
  methods := ms
  attributes := attrs
def plain (name : String) (sup : Option ClassId) : Class where
  name := name
  kind := .ordinary
  loader := none
  accessFlags := 33
  super := sup
  interfaces := #[]
  cf := none
  fields := #[]
  methods := #[]
  instanceTypes := #[]
  staticTypes := #[]
  resolved := #[]
  callSites := []
  init := .initialized
  statics := none
  mirror := none

def pool0 : Array CpInfo := pool [(5, u "<init>"), (0, u "()V"), (1, .class_ 10), (1, u "java/lang/Object"), (85, u "clone"), (0, u "()Ljava/lang/Object;")] 26

def k0m0 : Method := { name := "<init>", desc := "()V", sig := { parameters := [], returnType := none }, accessFlags := 1, code := none }
def k0m1 : Method := { name := "clone", desc := "()Ljava/lang/Object;", sig := { parameters := [], returnType := some (.object "java/lang/Object") }, accessFlags := 260, code := none }
/-- java/lang/Object -/
def k0 : Class := { plain "java/lang/Object" none with
  accessFlags := 33
  interfaces := #[]
  cf := some (fileOf pool0 8 #[] #[{ accessFlags := 1, nameIndex := 5, descriptorIndex := 6, attributes := #[] }, { accessFlags := 260, nameIndex := 96, descriptorIndex := 97, attributes := #[] }] 33 0 #[] #[])
  fields := #[]
  methods := #[k0m0, k0m1]
  instanceTypes := #[]
  staticTypes := #[]
  resolved := Array.replicate 124 none
  statics := none }

def pool1 : Array CpInfo := pool [(2, .class_ 4), (1, u "java/lang/Object"), (0, u "<init>"), (0, u "()V"), (0, .fieldref 8 9), (0, .class_ 10), (0, .nameAndType 11 12), (0, u "com/example/rowdy/rowdy/Cell$Type"), (0, u "PUT"), (0, u "Lcom/example/rowdy/rowdy/Cell$Type;"), (0, .fieldref 8 14), (0, .nameAndType 15 12), (0, u "DELETE_COLUMN"), (0, .fieldref 8 17), (0, .nameAndType 18 12), (0, u "DELETE_FAMILY"), (0, .fieldref 8 20), (0, .nameAndType 21 12), (0, u "DELETE"), (0, .methodref 23 24), (0, .class_ 25), (0, .nameAndType 26 27), (0, u "com/example/rowdy/rowdy/TypeOfPinLaw"), (0, u "expected"), (0, u "(I)Lcom/example/rowdy/rowdy/Cell$Type;"), (0, .methodref 8 29), (0, .nameAndType 30 31), (0, u "of"), (0, u "(B)Lcom/example/rowdy/rowdy/Cell$Type;"), (0, .methodref 8 33), (0, .nameAndType 34 35), (0, u "code"), (0, u "()B"), (3, u "law"), (0, u "(I)Z")] 6

def k1m0 : Method := { name := "<init>", desc := "()V", sig := { parameters := [], returnType := none }, accessFlags := 2, code := none }
def k1c1 : Code := { maxStack := 2, maxLocals := 1, code := method_2_code, exceptionTable := #[], attributes := #[] }
def k1m1 : Method := { name := "expected", desc := "(I)Lcom/example/rowdy/rowdy/Cell$Type;", sig := { parameters := [.int], returnType := some (.object "com/example/rowdy/rowdy/Cell$Type") }, accessFlags := 10, code := some k1c1 }
def k1c2 : Code := { maxStack := 2, maxLocals := 5, code := code, exceptionTable := #[], attributes := #[] }
def k1m2 : Method := { name := "law", desc := "(I)Z", sig := { parameters := [.int], returnType := some .boolean }, accessFlags := 9, code := some k1c2 }
/-- com/example/rowdy/rowdy/TypeOfPinLaw -/
def k1 : Class := { plain "com/example/rowdy/rowdy/TypeOfPinLaw" (some 0) with
  accessFlags := 49
  interfaces := #[]
  cf := some (fileOf pool1 23 #[] #[{ accessFlags := 2, nameIndex := 5, descriptorIndex := 6, attributes := #[] }, { accessFlags := 10, nameIndex := 26, descriptorIndex := 27, attributes := #[] }, { accessFlags := 9, nameIndex := 39, descriptorIndex := 40, attributes := #[] }] 49 2 #[] #[])
  fields := #[]
  methods := #[k1m0, k1m1, k1m2]
  instanceTypes := #[]
  staticTypes := #[]
  resolved := Array.replicate 47 none
  statics := none }

def pool2 : Array CpInfo := pool [(1, .class_ 2), (0, u "java/lang/constant/Constable"), (0, .class_ 4), (0, u "java/lang/Object")] 6

/-- java/lang/constant/Constable -/
def k2 : Class := { plain "java/lang/constant/Constable" (some 0) with
  accessFlags := 1537
  interfaces := #[]
  cf := some (fileOf pool2 1 #[] #[] 1537 3 #[] #[])
  fields := #[]
  methods := #[]
  instanceTypes := #[]
  staticTypes := #[]
  resolved := Array.replicate 11 none
  statics := none }

def pool3 : Array CpInfo := pool [(1, .class_ 2), (0, u "java/lang/Comparable"), (0, .class_ 4), (0, u "java/lang/Object")] 7

/-- java/lang/Comparable -/
def k3 : Class := { plain "java/lang/Comparable" (some 0) with
  accessFlags := 1537
  interfaces := #[]
  cf := some (fileOf pool3 1 #[] #[] 1537 3 #[] #[])
  fields := #[]
  methods := #[]
  instanceTypes := #[]
  staticTypes := #[]
  resolved := Array.replicate 12 none
  statics := none }

def pool4 : Array CpInfo := pool [(1, .class_ 2), (0, u "java/io/Serializable"), (0, .class_ 4), (0, u "java/lang/Object")] 2

/-- java/io/Serializable -/
def k4 : Class := { plain "java/io/Serializable" (some 0) with
  accessFlags := 1537
  interfaces := #[]
  cf := some (fileOf pool4 1 #[] #[] 1537 3 #[] #[])
  fields := #[]
  methods := #[]
  instanceTypes := #[]
  staticTypes := #[]
  resolved := Array.replicate 7 none
  statics := none }

def pool5 : Array CpInfo := pool [(2, .class_ 4), (1, u "java/lang/Enum"), (0, u "name"), (0, u "Ljava/lang/String;"), (2, u "ordinal"), (0, u "I"), (1, .class_ 14), (1, u "java/lang/Object"), (4, u "hash"), (86, .class_ 108), (1, u "java/lang/Enum$EnumDesc"), (2, .class_ 112), (0, u "java/lang/constant/Constable"), (0, .class_ 114), (0, u "java/lang/Comparable"), (0, .class_ 116), (0, u "java/io/Serializable")] 87

/-- java/lang/Enum -/
def k5 : Class := { plain "java/lang/Enum" (some 0) with
  accessFlags := 1057
  interfaces := #[2, 3, 4]
  cf := some (fileOf pool5 2 #[.nestMembers #[106]] #[] 1057 12 #[111, 113, 115] #[{ accessFlags := 18, nameIndex := 5, descriptorIndex := 6, attributes := #[] }, { accessFlags := 18, nameIndex := 9, descriptorIndex := 10, attributes := #[] }, { accessFlags := 2, nameIndex := 19, descriptorIndex := 10, attributes := #[] }])
  fields := #[{ name := "name", type := (.object "java/lang/String"), accessFlags := 18, slot := 0, constantValue := 0 }, { name := "ordinal", type := .int, accessFlags := 18, slot := 1, constantValue := 0 }, { name := "hash", type := .int, accessFlags := 2, slot := 2, constantValue := 0 }]
  methods := #[]
  instanceTypes := #[(.object "java/lang/String"), .int, .int]
  staticTypes := #[]
  resolved := Array.replicate 204 none
  statics := none }

def pool6 : Array CpInfo := pool [(1, .class_ 2), (0, u "com/example/rowdy/rowdy/Cell$Type"), (2, u "DELETE_FAMILY"), (0, u "Lcom/example/rowdy/rowdy/Cell$Type;"), (2, u "DELETE_COLUMN"), (2, u "DELETE"), (2, u "PUT"), (0, .fieldref 1 17), (0, .nameAndType 18 19), (0, u "$VALUES"), (0, u "[Lcom/example/rowdy/rowdy/Cell$Type;"), (0, .methodref 21 22), (0, .class_ 19), (0, .nameAndType 23 24), (0, u "clone"), (0, u "()Ljava/lang/Object;"), (1, .class_ 28), (1, u "java/lang/Enum"), (6, .fieldref 1 36), (0, .nameAndType 37 38), (0, u "code"), (0, u "B"), (0, .methodref 1 40), (0, .nameAndType 41 42), (0, u "values"), (0, u "()[Lcom/example/rowdy/rowdy/Cell$Type;"), (25, u "()B"), (0, u "of"), (0, u "(B)Lcom/example/rowdy/rowdy/Cell$Type;"), (7, .class_ 79), (0, u "com/example/rowdy/rowdy/Cell")] 16

def k6c0 : Code := { maxStack := 1, maxLocals := 0, code := prog_3_method_1_code, exceptionTable := #[], attributes := #[] }
def k6m0 : Method := { name := "values", desc := "()[Lcom/example/rowdy/rowdy/Cell$Type;", sig := { parameters := [], returnType := some (.array (.object "com/example/rowdy/rowdy/Cell$Type")) }, accessFlags := 9, code := some k6c0 }
def k6c1 : Code := { maxStack := 1, maxLocals := 1, code := prog_3_method_4_code, exceptionTable := #[], attributes := #[] }
def k6m1 : Method := { name := "code", desc := "()B", sig := { parameters := [], returnType := some .byte }, accessFlags := 0, code := some k6c1 }
def k6c2 : Code := { maxStack := 3, maxLocals := 5, code := prog_3_method_5_code, exceptionTable := #[], attributes := #[] }
def k6m2 : Method := { name := "of", desc := "(B)Lcom/example/rowdy/rowdy/Cell$Type;", sig := { parameters := [.byte], returnType := some (.object "com/example/rowdy/rowdy/Cell$Type") }, accessFlags := 8, code := some k6c2 }
/-- com/example/rowdy/rowdy/Cell$Type -/
def k6 : Class := { plain "com/example/rowdy/rowdy/Cell$Type" (some 5) with
  accessFlags := 16433
  interfaces := #[]
  cf := some (fileOf pool6 1 #[.nestHost 78] #[{ accessFlags := 9, nameIndex := 41, descriptorIndex := 42, attributes := #[] }, { accessFlags := 0, nameIndex := 37, descriptorIndex := 68, attributes := #[] }, { accessFlags := 8, nameIndex := 69, descriptorIndex := 70, attributes := #[] }] 16433 26 #[] #[{ accessFlags := 16409, nameIndex := 5, descriptorIndex := 6, attributes := #[] }, { accessFlags := 16409, nameIndex := 9, descriptorIndex := 6, attributes := #[] }, { accessFlags := 16409, nameIndex := 12, descriptorIndex := 6, attributes := #[] }, { accessFlags := 16409, nameIndex := 15, descriptorIndex := 6, attributes := #[] }, { accessFlags := 18, nameIndex := 37, descriptorIndex := 38, attributes := #[] }, { accessFlags := 4122, nameIndex := 18, descriptorIndex := 19, attributes := #[] }])
  fields := #[{ name := "DELETE_FAMILY", type := (.object "com/example/rowdy/rowdy/Cell$Type"), accessFlags := 16409, slot := 0, constantValue := 0 }, { name := "DELETE_COLUMN", type := (.object "com/example/rowdy/rowdy/Cell$Type"), accessFlags := 16409, slot := 1, constantValue := 0 }, { name := "DELETE", type := (.object "com/example/rowdy/rowdy/Cell$Type"), accessFlags := 16409, slot := 2, constantValue := 0 }, { name := "PUT", type := (.object "com/example/rowdy/rowdy/Cell$Type"), accessFlags := 16409, slot := 3, constantValue := 0 }, { name := "code", type := .byte, accessFlags := 18, slot := 3, constantValue := 0 }, { name := "$VALUES", type := (.array (.object "com/example/rowdy/rowdy/Cell$Type")), accessFlags := 4122, slot := 4, constantValue := 0 }]
  methods := #[k6m0, k6m1, k6m2]
  instanceTypes := #[(.object "java/lang/String"), .int, .int, .byte]
  staticTypes := #[(.object "com/example/rowdy/rowdy/Cell$Type"), (.object "com/example/rowdy/rowdy/Cell$Type"), (.object "com/example/rowdy/rowdy/Cell$Type"), (.object "com/example/rowdy/rowdy/Cell$Type"), (.array (.object "com/example/rowdy/rowdy/Cell$Type"))]
  resolved := Array.replicate 96 none
  statics := some 0 }

def pool7 : Array CpInfo := pool [(1, .class_ 2), (0, u "java/lang/Cloneable"), (0, .class_ 4), (0, u "java/lang/Object")] 2

/-- java/lang/Cloneable -/
def k7 : Class := { plain "java/lang/Cloneable" (some 0) with
  accessFlags := 1537
  interfaces := #[]
  cf := some (fileOf pool7 1 #[] #[] 1537 3 #[] #[])
  fields := #[]
  methods := #[]
  instanceTypes := #[]
  staticTypes := #[]
  resolved := Array.replicate 7 none
  statics := none }

/-- the primitive byte -/
def k8 : Class := { plain "byte" none with kind := .primitive 'B', accessFlags := 0x411 }
/-- [B -/
def k9 : Class := { plain "[B" (some 0) with kind := .array 8 .byte, interfaces := #[7, 4], accessFlags := 1041 }

/-- the primitive int -/
def k10 : Class := { plain "int" none with kind := .primitive 'I', accessFlags := 0x411 }
/-- [I -/
def k11 : Class := { plain "[I" (some 0) with kind := .array 10 .int, interfaces := #[7, 4], accessFlags := 1041 }

/-- [Lcom/example/rowdy/rowdy/Cell$Type; -/
def k12 : Class := { plain "[Lcom/example/rowdy/rowdy/Cell$Type;" (some 0) with kind := .array 6 (.object "com/example/rowdy/rowdy/Cell$Type"), interfaces := #[7, 4], accessFlags := 1041 }

def heap : Heap := #[{ cls := 6, slots := #[.ref 2, .ref 3, .ref 4, .ref 5, .ref 1], vm := .statics 6 },
  { cls := 12, slots := #[.ref 2, .ref 3, .ref 4, .ref 5], vm := .none },
  { cls := 6, slots := #[.null, .int 0, .int 0, .int 3], vm := .none },
  { cls := 6, slots := #[.null, .int 1, .int 0, .int 2], vm := .none },
  { cls := 6, slots := #[.null, .int 2, .int 0, .int 4], vm := .none },
  { cls := 6, slots := #[.null, .int 3, .int 0, .int 1], vm := .none }]
def classes : Array Class := #[k0, k1, k2, k3, k4, k5, k6, k7, k8, k9, k10, k11, k12]
def interned : List (Array UInt16 × Addr) := []
def slotsUsed : Nat := 25
def theMethod : MethodId := ⟨1, 2⟩
def args0 : Array Value := #[.int 5]
def aboutOver (below : List Frame) : State where
  vm := { classes := classes, interned := interned.toArray }
  heap := heap
  slotsUsed := slotsUsed
  threads := #[{ frames := .invoking theMethod args0 :: below }]
def below0 : List Frame := [.native { method := ⟨0, 0⟩, args := #[] }]
def about1 : State := aboutOver below0
def p0 : Program := .bare "" "" ""
def e0 : Env := launch0.env 0 0 0
theorem w_frames : about1.frames = Frame.invoking theMethod args0 :: below0 := rfl
set_option maxRecDepth 65536 in
theorem w_args : argsFit about1.vm theMethod args0 = true := by decide +kernel
set_option maxRecDepth 65536 in
theorem w_heap : heapFits about1 = true := by decide +kernel
set_option maxRecDepth 65536 in
theorem w_runnable : about1.curStatus? = some .runnable := by decide +kernel
set_option maxRecDepth 65536 in
theorem w_alone : about1.alone = true := by decide +kernel
set_option maxRecDepth 65536 in
theorem w_named : about1.methodNamed? x = some theMethod := by decide +kernel
set_option maxRecDepth 65536 in
theorem w_hears : about1.hears theMethod below0 = true := by decide +kernel
set_option maxRecDepth 65536 in
theorem w_ripe : about1.ripe theMethod args0 below0 = true := by decide +kernel
theorem w_running : about1.status = .running := rfl
set_option maxRecDepth 65536 in
theorem w_room : about1.hasRoom e0.platform room_1 = true :=
  launch0.hasRoom_least _ room_1 (by decide +kernel) (by decide +kernel) (by decide +kernel) (by decide +kernel) (by decide +kernel) (by decide +kernel)
theorem allAtoms_all (ts : List Jvm.Cond) (a : Array Jvm.Value) (st : Jvm.State) : (allAtoms ts).before a st = ts.all (fun c => c.before a st) := by
  induction ts with
  | nil => rfl
  | cons c t ih =>
    show (Jvm.Cond.and c (allAtoms t)).before a st = _
    rw [Jvm.Cond.before_and, ih, List.all_cons]
def words1 : List Jvm.Cond := Jvm.Cond.code x code maxLocals ret :: tables_1
/-- a 'code' word, met by the world's own term for the bytes: nothing is compared byte by byte -/
theorem code_word {y : MethodName} {bytes : ByteArray} {mx : Nat} {rt : Option FieldType} {a : Array Value} {s : State} {m : MethodId} {meth : Method} {c : Code} (h1 : s.methodNamed? y = some m) (h2 : s.vm.method? m = some meth) (h3 : meth.code = some c) (h4 : c.code = bytes)
    (h5 : (c.maxLocals == mx && c.exceptionTable.isEmpty && decide (c.maxStack ≤ mostOperands) && decide (meth.sig.returnType = rt) && !meth.locks && decide (parseMethodDescriptor y.desc = some meth.sig)) = true) : (Jvm.Cond.code y bytes mx rt).before a s = true := by
  simp only [Bool.and_eq_true, beq_iff_eq, Bool.not_eq_true', decide_eq_true_eq] at h5
  obtain ⟨⟨⟨⟨⟨g1, g2⟩, g3⟩, g4⟩, g5⟩, g6⟩ := h5
  simp [Cond.before, Cond.holds, Cond.value, h1, h2, h3, h4, g1, g2, g3, g4, g5, g6]
def isCode : Jvm.Cond → Bool
  | .code _ _ _ _ => true
  | _ => false
theorem all_split {L : List Jvm.Cond} {P : Jvm.Cond → Bool} (h1 : L.all (fun c => isCode c || P c) = true) (h2 : ∀ c ∈ L.filter isCode, P c = true) : L.all P = true := by
  refine List.all_eq_true.mpr fun c hc => ?_
  have h := List.all_eq_true.mp h1 c hc
  rcases Bool.eq_false_or_eq_true (isCode c) with hi | hi
  · exact h2 c (List.mem_filter.mpr ⟨hc, hi⟩)
  · simpa [hi] using h
set_option maxRecDepth 65536 in
theorem w_c0 : (Jvm.Cond.code x code maxLocals ret).before args0 about1 = true := code_word (m := ⟨1, 2⟩) (meth := k1m2) (c := k1c2) (by decide +kernel) rfl rfl rfl (by decide +kernel)
set_option maxRecDepth 65536 in
theorem w_c1 : (Jvm.Cond.code ({ cls := "com/example/rowdy/rowdy/TypeOfPinLaw", name := "expected", desc := "(I)Lcom/example/rowdy/rowdy/Cell$Type;" } : Jvm.MethodName) method_2_code (1 : Nat) (Option.some (Jvm.ClassFile.FieldType.object "com/example/rowdy/rowdy/Cell$Type"))).before args0 about1 = true := code_word (m := ⟨1, 1⟩) (meth := k1m1) (c := k1c1) (by decide +kernel) rfl rfl rfl (by decide +kernel)
set_option maxRecDepth 65536 in
theorem w_c2 : (Jvm.Cond.code ({ cls := "com/example/rowdy/rowdy/Cell$Type", name := "of", desc := "(B)Lcom/example/rowdy/rowdy/Cell$Type;" } : Jvm.MethodName) prog_3_method_5_code (5 : Nat) (Option.some (Jvm.ClassFile.FieldType.object "com/example/rowdy/rowdy/Cell$Type"))).before args0 about1 = true := code_word (m := ⟨6, 2⟩) (meth := k6m2) (c := k6c2) (by decide +kernel) rfl rfl rfl (by decide +kernel)
set_option maxRecDepth 65536 in
theorem w_c3 : (Jvm.Cond.code ({ cls := "com/example/rowdy/rowdy/Cell$Type", name := "values", desc := "()[Lcom/example/rowdy/rowdy/Cell$Type;" } : Jvm.MethodName) prog_3_method_1_code (0 : Nat) (Option.some (Jvm.ClassFile.FieldType.array (Jvm.ClassFile.FieldType.object "com/example/rowdy/rowdy/Cell$Type")))).before args0 about1 = true := code_word (m := ⟨6, 0⟩) (meth := k6m0) (c := k6c0) (by decide +kernel) rfl rfl rfl (by decide +kernel)
set_option maxRecDepth 65536 in
theorem w_c4 : (Jvm.Cond.code ({ cls := "com/example/rowdy/rowdy/Cell$Type", name := "code", desc := "()B" } : Jvm.MethodName) prog_3_method_4_code (1 : Nat) (Option.some Jvm.ClassFile.FieldType.byte)).before args0 about1 = true := code_word (m := ⟨6, 1⟩) (meth := k6m1) (c := k6c1) (by decide +kernel) rfl rfl rfl (by decide +kernel)
def codes1 : List Jvm.Cond := [Jvm.Cond.code x code maxLocals ret, Jvm.Cond.code ({ cls := "com/example/rowdy/rowdy/TypeOfPinLaw", name := "expected", desc := "(I)Lcom/example/rowdy/rowdy/Cell$Type;" } : Jvm.MethodName) method_2_code (1 : Nat) (Option.some (Jvm.ClassFile.FieldType.object "com/example/rowdy/rowdy/Cell$Type")), Jvm.Cond.code ({ cls := "com/example/rowdy/rowdy/Cell$Type", name := "of", desc := "(B)Lcom/example/rowdy/rowdy/Cell$Type;" } : Jvm.MethodName) prog_3_method_5_code (5 : Nat) (Option.some (Jvm.ClassFile.FieldType.object "com/example/rowdy/rowdy/Cell$Type")), Jvm.Cond.code ({ cls := "com/example/rowdy/rowdy/Cell$Type", name := "values", desc := "()[Lcom/example/rowdy/rowdy/Cell$Type;" } : Jvm.MethodName) prog_3_method_1_code (0 : Nat) (Option.some (Jvm.ClassFile.FieldType.array (Jvm.ClassFile.FieldType.object "com/example/rowdy/rowdy/Cell$Type"))), Jvm.Cond.code ({ cls := "com/example/rowdy/rowdy/Cell$Type", name := "code", desc := "()B" } : Jvm.MethodName) prog_3_method_4_code (1 : Nat) (Option.some Jvm.ClassFile.FieldType.byte)]
set_option maxRecDepth 65536 in
theorem codes_eq : words1.filter isCode = codes1 := rfl
theorem w_codes : ∀ c ∈ words1.filter isCode, c.before args0 about1 = true := by
  rw [codes_eq]
  intro c hc
  simp only [codes1, List.mem_cons, List.not_mem_nil, or_false] at hc
  rcases hc with rfl | rfl | rfl | rfl | rfl
  · exact w_c0
  · exact w_c1
  · exact w_c2
  · exact w_c3
  · exact w_c4
set_option maxRecDepth 65536 in
theorem w_t1 : (words1.take 24).all (fun c => isCode c || c.before args0 about1) = true := by decide +kernel
set_option maxRecDepth 65536 in
theorem w_t2 : (words1.drop 24).all (fun c => isCode c || c.before args0 about1) = true := by decide +kernel
theorem w_tables : (allAtoms (Jvm.Cond.code x code maxLocals ret :: tables_1)).before args0 about1 = true := by
  rw [allAtoms_all]
  show words1.all (fun c => c.before args0 about1) = true
  refine all_split ?_ w_codes
  rw [← List.take_append_drop 24 words1, List.all_append, w_t1, w_t2]
  rfl
set_option maxRecDepth 65536 in
theorem w_case : (Jvm.Cond.and given_1 narrow_1).before args0 about1 = true := by decide +kernel
theorem w_applies : (headSpec (Jvm.Cond.code x code maxLocals ret :: tables_1) room_1).applies x e0.platform about1 = true :=
  (Spec.applies_iff w_frames).mpr ⟨w_running, w_runnable, w_alone, w_named, w_hears, w_ripe, w_room, w_tables⟩
theorem atStart : AtStart classFile x code maxLocals ret World_1 tables_1 room_1 Calls_1 rest_1 Pre_1 launch0 p0 e0 about1 theMethod args0 below0 :=
  ⟨lists_1, trivial, launch0.admits_env _ _ _, launch0.least_env, fairChoices_fair.cas, fairChoices_fair.clock, w_frames, w_args, w_heap, w_applies, trivial, trivial, w_case⟩
end start1
theorem witness_1 : WitnessClaimed_1 := ⟨start1.p0, start1.e0, start1.about1, start1.theMethod, start1.args0, start1.below0, start1.atStart⟩
end Jvm.Pilot.@@N@@
