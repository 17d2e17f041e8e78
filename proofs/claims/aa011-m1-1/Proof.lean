import JvmDerived
import JvmDerived.Pilot.@@N@@Statement
import JvmDerived.Pilot.@@N@@Code
set_option linter.unusedVariables false
set_option linter.unusedSimpArgs false
namespace Jvm.Own
open Jvm Jvm.ClassFile Sem Op Lib Jvm.Free Jvm.Stand Jvm.LawKit Jvm.RoadKit
def OHr (p : Program) (l : Launch) (e : Env) (R : Room) (s : State) (m : MethodId) (args : Array Value) (below : List Frame) (meth : Method) (c : Code) (Z : State) (n0 : Nat) (own nm : String) (code : ByteArray) (maxL : Nat) (ret : Option FieldType) (T : State) (h : Heap) (ce sl : Nat) : Prop :=
  (p.tables.exec = Jvm.exec ∧ Z.Warmed39 s.vm ∧ c.code = code ∧ c.maxLocals = maxL ∧ s.vm.findClass own = some m.cls ∧ meth.name = nm ∧ meth.sig.returnType = ret ∧ meth.locks = false) ∧
  ∃ locs, Stand p l e R s m args below meth c T locs ce sl ∧ T.heap = h ∧ Fr n0 locs ∧ n0 ≤ h.size
def OEnds (p : Program) (e : Env) (below : List Frame) (s : State) (n0 : Nat) (Q : Option Value → Heap → Prop) (C S : Nat) (T : State) (g : JFrame) : Prop :=
  ∃ s₂ o, Steps p.tables e below (T.setTop g) s₂ ∧ s₂.status = .running ∧ Ended s₂ below o ∧ ∃ v L, o = .returned v ∧ (Fr n0 L ∧ Q v s₂.heap) ∧ FrameEnd s o s₂ L C S
def OMet (l : Launch) (Z : State) (n0 : Nat) (y : MethodName) (bytes : ByteArray) (maxL : Nat) (ret : Option FieldType) (rm : Room) (as : Array Value) (h0 : Heap) (Q : Option Value → Heap → Prop) : Prop :=
  ∀ ws, MetFree l y (head1 (Cond.code y bytes maxL ret :: ws) rm) (fun a U => a = as ∧ Z.Warmed39 U.vm ∧ U.heap = h0) (fun _ _ _ _ _ => True) (fun _ U o U' => ∃ v L, o = .returned v ∧ (Fr n0 L ∧ h0.size ≤ U'.heap.size ∧ Q v U'.heap) ∧ FrameEnd U o U' L rm.cells rm.slots)
theorem OMet.of {l : Launch} {Z : State} {n0 : Nat} {y : MethodName} {bytes : ByteArray} {maxL : Nat} {ret : Option FieldType} {rm : Room} {as : Array Value} {h0 : Heap} {Q : Option Value → Heap → Prop} {Ls : Array Slot}
    (pn : plainFor y = true) (Z0 : n0 ≤ h0.size) (ef : ∀ m, entryFrame m as maxL = mkF m 0 Ls [])
    (body : ∀ p e s m below meth c T, OHr p l e rm s m as below meth c Z n0 y.cls y.name bytes maxL ret T h0 0 0 → OEnds p e below s n0 Q rm.cells rm.slots T (mkF m 0 Ls [])) : OMet l Z n0 y bytes maxL ret rm as h0 Q := by
  intro ws
  refine MetFree.of_bodySF pn hisR ?_
  intro p e s m args below meth c s₁ Bd hml0 hP hK
  obtain ⟨rfl, hZ, hh⟩ := hP
  have X0 : Stand p l e rm s m _ below meth c s₁ [] 0 0 := Stand.of_body Bd
  have e0 : s₁.heap = h0 := by rw [← hh, Bd.state]; rfl
  rw [ef]
  obtain ⟨s₂, o, g1, g2, g3, v, L, g4, ⟨g5, g6⟩, g7⟩ := body p e s m below meth c s₁ ⟨⟨Bd.exec, hZ, Bd.bytes, hml0, findClass_of_methodNamed Bd.named, (name_of_methodNamed Bd.named Bd.method).1, Bd.returns, Bd.notSynchronized⟩, [], X0, e0, Fr.nil n0, Z0⟩
  exact ⟨s₂, o, g1, g2, g3, v, L, g4, ⟨g5, by rw [← hh]; exact g7.2.2.2.1, g6⟩, g7⟩
theorem OMet.mono {l : Launch} {Z : State} {n0 : Nat} {y : MethodName} {bytes : ByteArray} {maxL : Nat} {ret : Option FieldType} {rm : Room} {as : Array Value} {h0 : Heap} {Q Q' : Option Value → Heap → Prop}
    (M : OMet l Z n0 y bytes maxL ret rm as h0 Q) (q : ∀ v h, Q v h → Q' v h) : OMet l Z n0 y bytes maxL ret rm as h0 Q' := by
  intro ws p e h1 h2 h3 s m args below h4 h5 h6 h7
  obtain ⟨n, o, k1, k2, k3, v, L, k4, ⟨k5, k5', k6⟩, k7⟩ := M ws p e h1 h2 h3 s m args below h4 h5 h6 h7
  exact ⟨n, o, k1, k2, k3, v, L, k4, ⟨k5, k5', q _ _ k6⟩, k7⟩
/-! arrays by the list of their values -/
def OAry (Z : State) (h : Heap) (a : Addr) (ty : FieldType) (vs : List Value) : Prop := ∃ c : Cell, Arr Z h a c ty ∧ c.slots.toList = vs ∧ vs.length < 2 ^ 31 ∧ ∀ v ∈ vs, fits ty v = true
section Facts
variable {Z : State} {h h' : Heap} {a b : Nat} {ty : FieldType} {vs : List Value} {v : Value} {sl : Nat} {ws : List Addr} {i : Nat}
theorem OAry.lt (A : OAry Z h a ty vs) : a < h.size := by obtain ⟨c, A, -⟩ := A; exact A.lt
theorem OAry.ext (A : OAry Z h a ty vs) (E : Ext h h') : OAry Z h' a ty vs := by obtain ⟨c, A, r⟩ := A; exact ⟨c, A.ext E, r⟩
theorem OAry.other (A : OAry Z h b ty vs) (W : Wr h h' a sl v) (q : b ≠ a) : OAry Z h' b ty vs := by obtain ⟨c, A, r⟩ := A; exact ⟨c, A.other W q, r⟩
theorem OAry.keep (A : OAry Z h a ty vs) (K : Keep h h' ws) (q : a ∉ ws) : OAry Z h' a ty vs := by obtain ⟨c, A, r⟩ := A; exact ⟨c, ⟨K.2.1 _ _ A.1 q, A.2⟩, r⟩
theorem OAry.len (A : OAry Z h a ty vs) : vs.length < 2 ^ 31 := by obtain ⟨c, A, -, r, -⟩ := A; exact r
theorem OAry.fit (A : OAry Z h a ty vs) (q : v ∈ vs) : fits ty v = true := by obtain ⟨c, A, -, -, r⟩ := A; exact r v q
theorem OAry.new {cA : ClassId} {n : Int32} (A : Arr Z h a (newA cA ty n) ty) (hf : fits ty (defaultValue ty) = true) : OAry Z h a ty (List.replicate n.toNatClampNeg (defaultValue ty)) := by
  refine ⟨_, A, by simp [newA], ?_, ?_⟩
  · rw [List.length_replicate]
    have := n.toInt_lt
    have e : n.toNatClampNeg = n.toInt.toNat := rfl
    omega
  · intro v hv
    rw [List.eq_of_mem_replicate hv]
    exact hf
theorem OAry.wr (A : OAry Z h a ty vs) (W : Wr h h' a i v) (hf : fits ty v = true) : OAry Z h' a ty (vs.set i v) := by
  obtain ⟨c, A, r1, r2, r3⟩ := A
  refine ⟨_, A.same W, by simp [Cell.setSlot, r1], by simpa using r2, fun w hw => ?_⟩
  rcases List.mem_or_eq_of_mem_set hw with q | q
  · exact r3 w q
  · rw [q]; exact hf
theorem OAry.uniq {ty' : FieldType} {vs' : List Value} (A : OAry Z h a ty vs) (B : OAry Z h a ty' vs') : vs = vs' := by
  obtain ⟨c, A, r1, -⟩ := A
  obtain ⟨c', B, r1', -⟩ := B
  have e : c = c' := Option.some.inj (A.1.symm.trans B.1)
  subst e
  rw [← r1, ← r1']
theorem nat_idx {j : Int32} {i : Nat} (hj : j.toInt = (i : Int)) : j.toNatClampNeg = i ∧ ¬ j < 0 := by
  have e : j.toNatClampNeg = j.toInt.toNat := rfl
  refine ⟨by omega, ?_⟩
  rw [Int32.lt_iff_toInt_lt]
  have : (0 : Int32).toInt = 0 := rfl
  omega
theorem Fr.one {k : Nat} {L : List Loc} {a : Addr} {i : Nat} (N : Fr k L) (q : k ≤ a) : Fr k (L ++ [⟨a, i⟩]) := Fr.app N (fun y hy => by
  have e : y = ⟨a, i⟩ := List.mem_singleton.mp hy
  subst e; exact q)
theorem ext_size (E : Ext h h') : h.size ≤ h'.size := E.1
end Facts
section Go
variable {p : Program} {l : Launch} {e : Env} {R : Room} {s : State} {m : MethodId} {args : Array Value} {below : List Frame} {meth : Method} {c : Code} {Z : State} {n0 : Nat} {own nm : String} {code : ByteArray} {maxL : Nat} {ret : Option FieldType} {T : State} {h : Heap} {ce sl : Nat} {Q : Option Value → Heap → Prop} {C S : Nat} {pc : Nat} {Ls : Array Slot} {st : List Value} {a0 : Array Value}
theorem OHr.mono (H : OHr p l e R s m args below meth c Z n0 own nm code maxL ret T h ce sl) {ce' sl' : Nat} (q1 : ce ≤ ce') (q2 : sl ≤ sl') : OHr p l e R s m args below meth c Z n0 own nm code maxL ret T h ce' sl' := by
  obtain ⟨K, locs, X, r⟩ := H
  exact ⟨K, locs, { X with same := X.same.mono q1 q2 }, r⟩
theorem OHr.z0 (H : OHr p l e R s m args below meth c Z n0 own nm code maxL ret T h ce sl) : n0 ≤ h.size := by obtain ⟨K, locs, X, r1, r2, r3⟩ := H; exact r3
theorem go {T' : State} {g g' : JFrame} (q : ∀ t, Steps p.tables e below (T'.setTop g') t → Steps p.tables e below (T.setTop g) t) (k : OEnds p e below s n0 Q C S T' (g')) : OEnds p e below s n0 Q C S T (g) := by
  obtain ⟨a, o, h1, h2⟩ := k
  exact ⟨a, o, q _ h1, h2⟩
theorem go1 {T' : State} {g g' : JFrame} (q : Steps p.tables e below (T.setTop g) (T'.setTop g')) (k : OEnds p e below s n0 Q C S T' (g')) : OEnds p e below s n0 Q C S T (g) := by
  obtain ⟨a, o, h1, h2⟩ := k
  exact ⟨a, o, q.trans h1, h2⟩
theorem cut {A : Type} (P : A → Prop) (g : A → JFrame) {g0 : JFrame} (k : ∀ a, P a → OEnds p e below s n0 Q C S T (g a)) (main : (∀ a, P a → OEnds p e below s n0 Q C S T (g a)) → OEnds p e below s n0 Q C S T (g0)) : OEnds p e below s n0 Q C S T (g0) := main k
theorem cast {g g' : JFrame} (q : g = g') (k : OEnds p e below s n0 Q C S T (g')) : OEnds p e below s n0 Q C S T (g) := q ▸ k
theorem iload_n (H : OHr p l e R s m args below meth c Z n0 own nm code maxL ret T h ce sl) {k : Fin 4} {v : Int32} (hd : decode code pc = .ok (.iload_n k, 1)) (hl : Ls[k.val]? = some (.val (.int v))) (k : OEnds p e below s n0 Q C S T (mkF m (pc + 1) Ls (.int v :: st))) : OEnds p e below s n0 Q C S T (mkF m pc Ls (st)) := by
  obtain ⟨⟨hx, hZ, hby, hml, hown, hnm, hrt, hlk⟩, locs, X, eT, N, z0⟩ := H
  exact go (fun t q => XS.iloadN X.here hx rfl (hb hby hd) hl q) k
theorem lload_n (H : OHr p l e R s m args below meth c Z n0 own nm code maxL ret T h ce sl) {k : Fin 4} {v : Int64} (hd : decode code pc = .ok (.lload_n k, 1)) (hl : Ls[k.val]? = some (.val (.long v))) (k : OEnds p e below s n0 Q C S T (mkF m (pc + 1) Ls (.long v :: st))) : OEnds p e below s n0 Q C S T (mkF m pc Ls (st)) := by
  obtain ⟨⟨hx, hZ, hby, hml, hown, hnm, hrt, hlk⟩, locs, X, eT, N, z0⟩ := H
  exact go (fun t q => XT.lloadN X.here hx rfl (hb hby hd) hl q) k
theorem iload (H : OHr p l e R s m args below meth c Z n0 own nm code maxL ret T h ce sl) {k : Nat} {v : Int32} (hd : decode code pc = .ok (.iload k, 2)) (hl : Ls[k]? = some (.val (.int v))) (k : OEnds p e below s n0 Q C S T (mkF m (pc + 2) Ls (.int v :: st))) : OEnds p e below s n0 Q C S T (mkF m pc Ls (st)) := by
  obtain ⟨⟨hx, hZ, hby, hml, hown, hnm, hrt, hlk⟩, locs, X, eT, N, z0⟩ := H
  exact go (fun t q => XS.iload X.here hx rfl (hb hby hd) hl q) k
theorem lload (H : OHr p l e R s m args below meth c Z n0 own nm code maxL ret T h ce sl) {k : Nat} {v : Int64} (hd : decode code pc = .ok (.lload k, 2)) (hl : Ls[k]? = some (.val (.long v))) (k : OEnds p e below s n0 Q C S T (mkF m (pc + 2) Ls (.long v :: st))) : OEnds p e below s n0 Q C S T (mkF m pc Ls (st)) := by
  obtain ⟨⟨hx, hZ, hby, hml, hown, hnm, hrt, hlk⟩, locs, X, eT, N, z0⟩ := H
  exact go (fun t q => XT.lload X.here hx rfl (hb hby hd) hl q) k
theorem aload_n (H : OHr p l e R s m args below meth c Z n0 own nm code maxL ret T h ce sl) {k : Fin 4} {v : Value} (hd : decode code pc = .ok (.aload_n k, 1)) (hl : Ls[k.val]? = some (.val v)) (hv : v.isRef = true) (k : OEnds p e below s n0 Q C S T (mkF m (pc + 1) Ls (v :: st))) : OEnds p e below s n0 Q C S T (mkF m pc Ls (st)) := by
  obtain ⟨⟨hx, hZ, hby, hml, hown, hnm, hrt, hlk⟩, locs, X, eT, N, z0⟩ := H
  exact go (fun t q => XS.aloadN X.here hx rfl (hb hby hd) hl hv q) k
theorem aload (H : OHr p l e R s m args below meth c Z n0 own nm code maxL ret T h ce sl) {k : Nat} {v : Value} (hd : decode code pc = .ok (.aload k, 2)) (hl : Ls[k]? = some (.val v)) (hv : v.isRef = true) (k : OEnds p e below s n0 Q C S T (mkF m (pc + 2) Ls (v :: st))) : OEnds p e below s n0 Q C S T (mkF m pc Ls (st)) := by
  obtain ⟨⟨hx, hZ, hby, hml, hown, hnm, hrt, hlk⟩, locs, X, eT, N, z0⟩ := H
  exact go (fun t q => XS.aload X.here hx rfl (hb hby hd) hl hv q) k
theorem istore_n (H : OHr p l e R s m args below meth c Z n0 own nm code maxL ret T h ce sl) {k : Fin 4} {v : Int32} (l' : Array Slot) (hd : decode code pc = .ok (.istore_n k, 1)) (hl : storeLocals Ls k.val (.int v) = some l') (k : OEnds p e below s n0 Q C S T (mkF m (pc + 1) l' (st))) : OEnds p e below s n0 Q C S T (mkF m pc Ls (.int v :: st)) := by
  obtain ⟨⟨hx, hZ, hby, hml, hown, hnm, hrt, hlk⟩, locs, X, eT, N, z0⟩ := H
  exact go (fun t q => XS.istoreN X.here hx rfl (hb hby hd) rfl hl q) k
theorem istore (H : OHr p l e R s m args below meth c Z n0 own nm code maxL ret T h ce sl) {k : Nat} {v : Int32} (l' : Array Slot) (hd : decode code pc = .ok (.istore k, 2)) (hl : storeLocals Ls k (.int v) = some l') (k : OEnds p e below s n0 Q C S T (mkF m (pc + 2) l' (st))) : OEnds p e below s n0 Q C S T (mkF m pc Ls (.int v :: st)) := by
  obtain ⟨⟨hx, hZ, hby, hml, hown, hnm, hrt, hlk⟩, locs, X, eT, N, z0⟩ := H
  exact go (fun t q => XS.istore X.here hx rfl (hb hby hd) rfl hl q) k
theorem lstore_n (H : OHr p l e R s m args below meth c Z n0 own nm code maxL ret T h ce sl) {k : Fin 4} {v : Int64} (l' : Array Slot) (hd : decode code pc = .ok (.lstore_n k, 1)) (hl : storeLocals Ls k.val (.long v) = some l') (k : OEnds p e below s n0 Q C S T (mkF m (pc + 1) l' (st))) : OEnds p e below s n0 Q C S T (mkF m pc Ls (.long v :: st)) := by
  obtain ⟨⟨hx, hZ, hby, hml, hown, hnm, hrt, hlk⟩, locs, X, eT, N, z0⟩ := H
  exact go (fun t q => XT.lstoreN X.here hx rfl (hb hby hd) rfl hl q) k
theorem lstore (H : OHr p l e R s m args below meth c Z n0 own nm code maxL ret T h ce sl) {k : Nat} {v : Int64} (l' : Array Slot) (hd : decode code pc = .ok (.lstore k, 2)) (hl : storeLocals Ls k (.long v) = some l') (k : OEnds p e below s n0 Q C S T (mkF m (pc + 2) l' (st))) : OEnds p e below s n0 Q C S T (mkF m pc Ls (.long v :: st)) := by
  obtain ⟨⟨hx, hZ, hby, hml, hown, hnm, hrt, hlk⟩, locs, X, eT, N, z0⟩ := H
  exact go (fun t q => XT.lstore X.here hx rfl (hb hby hd) rfl hl q) k
theorem astore_n (H : OHr p l e R s m args below meth c Z n0 own nm code maxL ret T h ce sl) {k : Fin 4} {v : Value} (l' : Array Slot) (hd : decode code pc = .ok (.astore_n k, 1)) (hv : v.isRef = true) (hl : storeLocals Ls k.val v = some l') (k : OEnds p e below s n0 Q C S T (mkF m (pc + 1) l' (st))) : OEnds p e below s n0 Q C S T (mkF m pc Ls (v :: st)) := by
  obtain ⟨⟨hx, hZ, hby, hml, hown, hnm, hrt, hlk⟩, locs, X, eT, N, z0⟩ := H
  exact go (fun t q => XS.astoreN X.here hx rfl (hb hby hd) rfl hv hl q) k
theorem astore (H : OHr p l e R s m args below meth c Z n0 own nm code maxL ret T h ce sl) {k : Nat} {v : Value} (l' : Array Slot) (hd : decode code pc = .ok (.astore k, 2)) (hv : v.isRef = true) (hl : storeLocals Ls k v = some l') (k : OEnds p e below s n0 Q C S T (mkF m (pc + 2) l' (st))) : OEnds p e below s n0 Q C S T (mkF m pc Ls (v :: st)) := by
  obtain ⟨⟨hx, hZ, hby, hml, hown, hnm, hrt, hlk⟩, locs, X, eT, N, z0⟩ := H
  exact go (fun t q => XS.astore X.here hx rfl (hb hby hd) rfl hv hl q) k
theorem iinc (H : OHr p l e R s m args below meth c Z n0 own nm code maxL ret T h ce sl) {k : Nat} {cst : Int} {x : Int32} (d : Int32) (l' : Array Slot) (hd : decode code pc = .ok (.iinc k cst, 3)) (hl : Ls[k]? = some (.val (.int x))) (hv : Int32.ofInt cst = d) (hl' : storeLocals Ls k (.int (x + d)) = some l') (k : OEnds p e below s n0 Q C S T (mkF m (pc + 3) l' (st))) : OEnds p e below s n0 Q C S T (mkF m pc Ls (st)) := by
  obtain ⟨⟨hx, hZ, hby, hml, hown, hnm, hrt, hlk⟩, locs, X, eT, N, z0⟩ := H
  exact go (fun t q => XS.iinc X.here hx rfl (hb hby hd) hl (by rw [hv]; exact hl') q) k
theorem iinc_c (H : OHr p l e R s m args below meth c Z n0 own nm code maxL ret T h ce sl) {k : Nat} {cst : Int} {x : Int32} (r : Int32) (l' : Array Slot) (hd : decode code pc = .ok (.iinc k cst, 3)) (hl : Ls[k]? = some (.val (.int x))) (hr : x + Int32.ofInt cst = r) (hl' : storeLocals Ls k (.int r) = some l') (kk : OEnds p e below s n0 Q C S T (mkF m (pc + 3) l' st)) : OEnds p e below s n0 Q C S T (mkF m pc Ls st) := by
  subst hr
  exact iinc H _ l' hd hl rfl hl' kk
theorem iconst (H : OHr p l e R s m args below meth c Z n0 own nm code maxL ret T h ce sl) {i : Int} (v : Int32) (hd : decode code pc = .ok (.iconst i, 1)) (hv : Int32.ofInt i = v) (k : OEnds p e below s n0 Q C S T (mkF m (pc + 1) Ls (.int v :: st))) : OEnds p e below s n0 Q C S T (mkF m pc Ls st) := by
  obtain ⟨⟨hx, hZ, hby, hml, hown, hnm, hrt, hlk⟩, locs, X, eT, N, z0⟩ := H
  subst hv
  exact go (fun t q => XS.iconst X.here hx rfl (hb hby hd) q) k
theorem bipush (H : OHr p l e R s m args below meth c Z n0 own nm code maxL ret T h ce sl) {i : Int} (v : Int32) (hd : decode code pc = .ok (.bipush i, 2)) (hv : (Int8.ofInt i).toInt32 = v) (k : OEnds p e below s n0 Q C S T (mkF m (pc + 2) Ls (.int v :: st))) : OEnds p e below s n0 Q C S T (mkF m pc Ls st) := by
  obtain ⟨⟨hx, hZ, hby, hml, hown, hnm, hrt, hlk⟩, locs, X, eT, N, z0⟩ := H
  subst hv
  exact go (fun t q => XS.bipush X.here hx rfl (hb hby hd) q) k
theorem sipush (H : OHr p l e R s m args below meth c Z n0 own nm code maxL ret T h ce sl) {i : Int} (v : Int32) (hd : decode code pc = .ok (.sipush i, 3)) (hv : (Int16.ofInt i).toInt32 = v) (k : OEnds p e below s n0 Q C S T (mkF m (pc + 3) Ls (.int v :: st))) : OEnds p e below s n0 Q C S T (mkF m pc Ls st) := by
  obtain ⟨⟨hx, hZ, hby, hml, hown, hnm, hrt, hlk⟩, locs, X, eT, N, z0⟩ := H
  subst hv
  exact go (fun t q => XS.sipush X.here hx rfl (hb hby hd) q) k
theorem lconst (H : OHr p l e R s m args below meth c Z n0 own nm code maxL ret T h ce sl) {i : Fin 2} (v : Int64) (hd : decode code pc = .ok (.lconst i, 1)) (hv : Int64.ofNat i = v) (k : OEnds p e below s n0 Q C S T (mkF m (pc + 1) Ls (.long v :: st))) : OEnds p e below s n0 Q C S T (mkF m pc Ls st) := by
  obtain ⟨⟨hx, hZ, hby, hml, hown, hnm, hrt, hlk⟩, locs, X, eT, N, z0⟩ := H
  subst hv
  exact go (fun t q => XT.lconst X.here hx rfl (hb hby hd) q) k
theorem aconst_null (H : OHr p l e R s m args below meth c Z n0 own nm code maxL ret T h ce sl)  (hd : decode code pc = .ok (.aconst_null, 1))  (k : OEnds p e below s n0 Q C S T (mkF m (pc + 1) Ls (.null :: st))) : OEnds p e below s n0 Q C S T (mkF m pc Ls (st)) := by
  obtain ⟨⟨hx, hZ, hby, hml, hown, hnm, hrt, hlk⟩, locs, X, eT, N, z0⟩ := H
  exact go (fun t q => XS.aconstNull X.here hx rfl (hb hby hd) q) k
theorem ldc (H : OHr p l e R s m args below meth c Z n0 own nm code maxL ret T h ce sl) {i : Nat} {v : Int32} (hd : decode code pc = .ok (.ldc i, 2)) (w : (Cond.constant own i v).before a0 Z = true) (k : OEnds p e below s n0 Q C S T (mkF m (pc + 2) Ls (.int v :: st))) : OEnds p e below s n0 Q C S T (mkF m pc Ls st) := by
  obtain ⟨⟨hx, hZ, hby, hml, hown, hnm, hrt, hlk⟩, locs, X, eT, N, z0⟩ := H
  exact go (X.ldcInt hx hown (mvT hZ w) rfl (hb hby hd)) k
theorem ldc2_w (H : OHr p l e R s m args below meth c Z n0 own nm code maxL ret T h ce sl) {i : Nat} {v : Int64} (hd : decode code pc = .ok (.ldc2_w i, 3)) (w : (Cond.constantLong own i v).before a0 Z = true) (k : OEnds p e below s n0 Q C S T (mkF m (pc + 3) Ls (.long v :: st))) : OEnds p e below s n0 Q C S T (mkF m pc Ls st) := by
  obtain ⟨⟨hx, hZ, hby, hml, hown, hnm, hrt, hlk⟩, locs, X, eT, N, z0⟩ := H
  exact go (X.ldc2Long hx hown (mvT hZ w) rfl (hb hby hd)) k
theorem iadd (H : OHr p l e R s m args below meth c Z n0 own nm code maxL ret T h ce sl) {x y : Int32} (hd : decode code pc = .ok (.iadd, 1))  (k : OEnds p e below s n0 Q C S T (mkF m (pc + 1) Ls (.int (x + y) :: st))) : OEnds p e below s n0 Q C S T (mkF m pc Ls (.int y :: .int x :: st)) := by
  obtain ⟨⟨hx, hZ, hby, hml, hown, hnm, hrt, hlk⟩, locs, X, eT, N, z0⟩ := H
  exact go (fun t q => XS.iadd X.here hx rfl (hb hby hd) rfl q) k
theorem isub (H : OHr p l e R s m args below meth c Z n0 own nm code maxL ret T h ce sl) {x y : Int32} (hd : decode code pc = .ok (.isub, 1))  (k : OEnds p e below s n0 Q C S T (mkF m (pc + 1) Ls (.int (x - y) :: st))) : OEnds p e below s n0 Q C S T (mkF m pc Ls (.int y :: .int x :: st)) := by
  obtain ⟨⟨hx, hZ, hby, hml, hown, hnm, hrt, hlk⟩, locs, X, eT, N, z0⟩ := H
  exact go (fun t q => XS.isub X.here hx rfl (hb hby hd) rfl q) k
theorem imul (H : OHr p l e R s m args below meth c Z n0 own nm code maxL ret T h ce sl) {x y : Int32} (hd : decode code pc = .ok (.imul, 1))  (k : OEnds p e below s n0 Q C S T (mkF m (pc + 1) Ls (.int (x * y) :: st))) : OEnds p e below s n0 Q C S T (mkF m pc Ls (.int y :: .int x :: st)) := by
  obtain ⟨⟨hx, hZ, hby, hml, hown, hnm, hrt, hlk⟩, locs, X, eT, N, z0⟩ := H
  exact go (fun t q => XS.imul X.here hx rfl (hb hby hd) rfl q) k
theorem iand (H : OHr p l e R s m args below meth c Z n0 own nm code maxL ret T h ce sl) {x y : Int32} (hd : decode code pc = .ok (.iand, 1))  (k : OEnds p e below s n0 Q C S T (mkF m (pc + 1) Ls (.int (x &&& y) :: st))) : OEnds p e below s n0 Q C S T (mkF m pc Ls (.int y :: .int x :: st)) := by
  obtain ⟨⟨hx, hZ, hby, hml, hown, hnm, hrt, hlk⟩, locs, X, eT, N, z0⟩ := H
  exact go (fun t q => XS.iand X.here hx rfl (hb hby hd) rfl q) k
theorem ior (H : OHr p l e R s m args below meth c Z n0 own nm code maxL ret T h ce sl) {x y : Int32} (hd : decode code pc = .ok (.ior, 1))  (k : OEnds p e below s n0 Q C S T (mkF m (pc + 1) Ls (.int (x ||| y) :: st))) : OEnds p e below s n0 Q C S T (mkF m pc Ls (.int y :: .int x :: st)) := by
  obtain ⟨⟨hx, hZ, hby, hml, hown, hnm, hrt, hlk⟩, locs, X, eT, N, z0⟩ := H
  exact go (fun t q => XT.ior X.here hx rfl (hb hby hd) rfl q) k
theorem ixor (H : OHr p l e R s m args below meth c Z n0 own nm code maxL ret T h ce sl) {x y : Int32} (hd : decode code pc = .ok (.ixor, 1))  (k : OEnds p e below s n0 Q C S T (mkF m (pc + 1) Ls (.int (x ^^^ y) :: st))) : OEnds p e below s n0 Q C S T (mkF m pc Ls (.int y :: .int x :: st)) := by
  obtain ⟨⟨hx, hZ, hby, hml, hown, hnm, hrt, hlk⟩, locs, X, eT, N, z0⟩ := H
  exact go (fun t q => XT.ixor X.here hx rfl (hb hby hd) rfl q) k
theorem ishl (H : OHr p l e R s m args below meth c Z n0 own nm code maxL ret T h ce sl) {x y : Int32} (hd : decode code pc = .ok (.ishl, 1))  (k : OEnds p e below s n0 Q C S T (mkF m (pc + 1) Ls (.int (x <<< (y &&& 31)) :: st))) : OEnds p e below s n0 Q C S T (mkF m pc Ls (.int y :: .int x :: st)) := by
  obtain ⟨⟨hx, hZ, hby, hml, hown, hnm, hrt, hlk⟩, locs, X, eT, N, z0⟩ := H
  exact go (fun t q => XT.ishl X.here hx rfl (hb hby hd) rfl q) k
theorem ishr (H : OHr p l e R s m args below meth c Z n0 own nm code maxL ret T h ce sl) {x y : Int32} (hd : decode code pc = .ok (.ishr, 1))  (k : OEnds p e below s n0 Q C S T (mkF m (pc + 1) Ls (.int (x >>> (y &&& 31)) :: st))) : OEnds p e below s n0 Q C S T (mkF m pc Ls (.int y :: .int x :: st)) := by
  obtain ⟨⟨hx, hZ, hby, hml, hown, hnm, hrt, hlk⟩, locs, X, eT, N, z0⟩ := H
  exact go (fun t q => XT.ishr X.here hx rfl (hb hby hd) rfl q) k
theorem iushr (H : OHr p l e R s m args below meth c Z n0 own nm code maxL ret T h ce sl) {x y : Int32} (hd : decode code pc = .ok (.iushr, 1))  (k : OEnds p e below s n0 Q C S T (mkF m (pc + 1) Ls (.int (XT.ushr x y) :: st))) : OEnds p e below s n0 Q C S T (mkF m pc Ls (.int y :: .int x :: st)) := by
  obtain ⟨⟨hx, hZ, hby, hml, hown, hnm, hrt, hlk⟩, locs, X, eT, N, z0⟩ := H
  exact go (fun t q => XT.iushr X.here hx rfl (hb hby hd) rfl q) k
theorem idiv (H : OHr p l e R s m args below meth c Z n0 own nm code maxL ret T h ce sl) {x y : Int32} (hd : decode code pc = .ok (.idiv, 1)) (hy : y ≠ 0) (k : OEnds p e below s n0 Q C S T (mkF m (pc + 1) Ls (.int (x / y) :: st))) : OEnds p e below s n0 Q C S T (mkF m pc Ls (.int y :: .int x :: st)) := by
  obtain ⟨⟨hx, hZ, hby, hml, hown, hnm, hrt, hlk⟩, locs, X, eT, N, z0⟩ := H
  exact go (fun t q => XS.idiv X.here hx rfl (hb hby hd) rfl hy q) k
theorem irem (H : OHr p l e R s m args below meth c Z n0 own nm code maxL ret T h ce sl) {x y : Int32} (hd : decode code pc = .ok (.irem, 1)) (hy : y ≠ 0) (k : OEnds p e below s n0 Q C S T (mkF m (pc + 1) Ls (.int (x % y) :: st))) : OEnds p e below s n0 Q C S T (mkF m pc Ls (.int y :: .int x :: st)) := by
  obtain ⟨⟨hx, hZ, hby, hml, hown, hnm, hrt, hlk⟩, locs, X, eT, N, z0⟩ := H
  exact go (fun t q => iremM X hx rfl (hb hby hd) rfl hy q) k
theorem iadd_c (H : OHr p l e R s m args below meth c Z n0 own nm code maxL ret T h ce sl) {x y : Int32} (r : Int32) (hd : decode code pc = .ok (.iadd, 1)) (hr : x + y = r) (k : OEnds p e below s n0 Q C S T (mkF m (pc + 1) Ls (.int r :: st))) : OEnds p e below s n0 Q C S T (mkF m pc Ls (.int y :: .int x :: st)) := by
  subst hr
  exact iadd H hd k
theorem isub_c (H : OHr p l e R s m args below meth c Z n0 own nm code maxL ret T h ce sl) {x y : Int32} (r : Int32) (hd : decode code pc = .ok (.isub, 1)) (hr : x - y = r) (k : OEnds p e below s n0 Q C S T (mkF m (pc + 1) Ls (.int r :: st))) : OEnds p e below s n0 Q C S T (mkF m pc Ls (.int y :: .int x :: st)) := by
  subst hr
  exact isub H hd k
theorem imul_c (H : OHr p l e R s m args below meth c Z n0 own nm code maxL ret T h ce sl) {x y : Int32} (r : Int32) (hd : decode code pc = .ok (.imul, 1)) (hr : x * y = r) (k : OEnds p e below s n0 Q C S T (mkF m (pc + 1) Ls (.int r :: st))) : OEnds p e below s n0 Q C S T (mkF m pc Ls (.int y :: .int x :: st)) := by
  subst hr
  exact imul H hd k
theorem iand_c (H : OHr p l e R s m args below meth c Z n0 own nm code maxL ret T h ce sl) {x y : Int32} (r : Int32) (hd : decode code pc = .ok (.iand, 1)) (hr : x &&& y = r) (k : OEnds p e below s n0 Q C S T (mkF m (pc + 1) Ls (.int r :: st))) : OEnds p e below s n0 Q C S T (mkF m pc Ls (.int y :: .int x :: st)) := by
  subst hr
  exact iand H hd k
theorem ior_c (H : OHr p l e R s m args below meth c Z n0 own nm code maxL ret T h ce sl) {x y : Int32} (r : Int32) (hd : decode code pc = .ok (.ior, 1)) (hr : x ||| y = r) (k : OEnds p e below s n0 Q C S T (mkF m (pc + 1) Ls (.int r :: st))) : OEnds p e below s n0 Q C S T (mkF m pc Ls (.int y :: .int x :: st)) := by
  subst hr
  exact ior H hd k
theorem ixor_c (H : OHr p l e R s m args below meth c Z n0 own nm code maxL ret T h ce sl) {x y : Int32} (r : Int32) (hd : decode code pc = .ok (.ixor, 1)) (hr : x ^^^ y = r) (k : OEnds p e below s n0 Q C S T (mkF m (pc + 1) Ls (.int r :: st))) : OEnds p e below s n0 Q C S T (mkF m pc Ls (.int y :: .int x :: st)) := by
  subst hr
  exact ixor H hd k
theorem ishl_c (H : OHr p l e R s m args below meth c Z n0 own nm code maxL ret T h ce sl) {x y : Int32} (r : Int32) (hd : decode code pc = .ok (.ishl, 1)) (hr : x <<< (y &&& 31) = r) (k : OEnds p e below s n0 Q C S T (mkF m (pc + 1) Ls (.int r :: st))) : OEnds p e below s n0 Q C S T (mkF m pc Ls (.int y :: .int x :: st)) := by
  subst hr
  exact ishl H hd k
theorem ishr_c (H : OHr p l e R s m args below meth c Z n0 own nm code maxL ret T h ce sl) {x y : Int32} (r : Int32) (hd : decode code pc = .ok (.ishr, 1)) (hr : x >>> (y &&& 31) = r) (k : OEnds p e below s n0 Q C S T (mkF m (pc + 1) Ls (.int r :: st))) : OEnds p e below s n0 Q C S T (mkF m pc Ls (.int y :: .int x :: st)) := by
  subst hr
  exact ishr H hd k
theorem iushr_c (H : OHr p l e R s m args below meth c Z n0 own nm code maxL ret T h ce sl) {x y : Int32} (r : Int32) (hd : decode code pc = .ok (.iushr, 1)) (hr : XT.ushr x y = r) (k : OEnds p e below s n0 Q C S T (mkF m (pc + 1) Ls (.int r :: st))) : OEnds p e below s n0 Q C S T (mkF m pc Ls (.int y :: .int x :: st)) := by
  subst hr
  exact iushr H hd k
theorem idiv_c (H : OHr p l e R s m args below meth c Z n0 own nm code maxL ret T h ce sl) {x y : Int32} (r : Int32) (hd : decode code pc = .ok (.idiv, 1)) (hy : y ≠ 0) (hr : x / y = r) (k : OEnds p e below s n0 Q C S T (mkF m (pc + 1) Ls (.int r :: st))) : OEnds p e below s n0 Q C S T (mkF m pc Ls (.int y :: .int x :: st)) := by
  subst hr
  exact idiv H hd hy k
theorem irem_c (H : OHr p l e R s m args below meth c Z n0 own nm code maxL ret T h ce sl) {x y : Int32} (r : Int32) (hd : decode code pc = .ok (.irem, 1)) (hy : y ≠ 0) (hr : x % y = r) (k : OEnds p e below s n0 Q C S T (mkF m (pc + 1) Ls (.int r :: st))) : OEnds p e below s n0 Q C S T (mkF m pc Ls (.int y :: .int x :: st)) := by
  subst hr
  exact irem H hd hy k
theorem ineg (H : OHr p l e R s m args below meth c Z n0 own nm code maxL ret T h ce sl) {x : Int32} (hd : decode code pc = .ok (.ineg, 1))  (k : OEnds p e below s n0 Q C S T (mkF m (pc + 1) Ls (.int (-x) :: st))) : OEnds p e below s n0 Q C S T (mkF m pc Ls (.int x :: st)) := by
  obtain ⟨⟨hx, hZ, hby, hml, hown, hnm, hrt, hlk⟩, locs, X, eT, N, z0⟩ := H
  exact go (fun t q => XS.ineg X.here hx rfl (hb hby hd) rfl q) k
theorem ladd (H : OHr p l e R s m args below meth c Z n0 own nm code maxL ret T h ce sl) {x y : Int64} (hd : decode code pc = .ok (.ladd, 1))  (k : OEnds p e below s n0 Q C S T (mkF m (pc + 1) Ls (.long (x + y) :: st))) : OEnds p e below s n0 Q C S T (mkF m pc Ls (.long y :: .long x :: st)) := by
  obtain ⟨⟨hx, hZ, hby, hml, hown, hnm, hrt, hlk⟩, locs, X, eT, N, z0⟩ := H
  exact go (fun t q => XT.ladd X.here hx rfl (hb hby hd) rfl q) k
theorem lsub (H : OHr p l e R s m args below meth c Z n0 own nm code maxL ret T h ce sl) {x y : Int64} (hd : decode code pc = .ok (.lsub, 1))  (k : OEnds p e below s n0 Q C S T (mkF m (pc + 1) Ls (.long (x - y) :: st))) : OEnds p e below s n0 Q C S T (mkF m pc Ls (.long y :: .long x :: st)) := by
  obtain ⟨⟨hx, hZ, hby, hml, hown, hnm, hrt, hlk⟩, locs, X, eT, N, z0⟩ := H
  exact go (fun t q => XT.lsub X.here hx rfl (hb hby hd) rfl q) k
theorem lmul (H : OHr p l e R s m args below meth c Z n0 own nm code maxL ret T h ce sl) {x y : Int64} (hd : decode code pc = .ok (.lmul, 1))  (k : OEnds p e below s n0 Q C S T (mkF m (pc + 1) Ls (.long (x * y) :: st))) : OEnds p e below s n0 Q C S T (mkF m pc Ls (.long y :: .long x :: st)) := by
  obtain ⟨⟨hx, hZ, hby, hml, hown, hnm, hrt, hlk⟩, locs, X, eT, N, z0⟩ := H
  exact go (fun t q => XT.lmul X.here hx rfl (hb hby hd) rfl q) k
theorem land (H : OHr p l e R s m args below meth c Z n0 own nm code maxL ret T h ce sl) {x y : Int64} (hd : decode code pc = .ok (.land, 1))  (k : OEnds p e below s n0 Q C S T (mkF m (pc + 1) Ls (.long (x &&& y) :: st))) : OEnds p e below s n0 Q C S T (mkF m pc Ls (.long y :: .long x :: st)) := by
  obtain ⟨⟨hx, hZ, hby, hml, hown, hnm, hrt, hlk⟩, locs, X, eT, N, z0⟩ := H
  exact go (fun t q => XT.land X.here hx rfl (hb hby hd) rfl q) k
theorem lor (H : OHr p l e R s m args below meth c Z n0 own nm code maxL ret T h ce sl) {x y : Int64} (hd : decode code pc = .ok (.lor, 1))  (k : OEnds p e below s n0 Q C S T (mkF m (pc + 1) Ls (.long (x ||| y) :: st))) : OEnds p e below s n0 Q C S T (mkF m pc Ls (.long y :: .long x :: st)) := by
  obtain ⟨⟨hx, hZ, hby, hml, hown, hnm, hrt, hlk⟩, locs, X, eT, N, z0⟩ := H
  exact go (fun t q => XT.lor X.here hx rfl (hb hby hd) rfl q) k
theorem lxor (H : OHr p l e R s m args below meth c Z n0 own nm code maxL ret T h ce sl) {x y : Int64} (hd : decode code pc = .ok (.lxor, 1))  (k : OEnds p e below s n0 Q C S T (mkF m (pc + 1) Ls (.long (x ^^^ y) :: st))) : OEnds p e below s n0 Q C S T (mkF m pc Ls (.long y :: .long x :: st)) := by
  obtain ⟨⟨hx, hZ, hby, hml, hown, hnm, hrt, hlk⟩, locs, X, eT, N, z0⟩ := H
  exact go (fun t q => XT.lxor X.here hx rfl (hb hby hd) rfl q) k
theorem lshl (H : OHr p l e R s m args below meth c Z n0 own nm code maxL ret T h ce sl) {x : Int64} {y : Int32} (hd : decode code pc = .ok (.lshl, 1))  (k : OEnds p e below s n0 Q C S T (mkF m (pc + 1) Ls (.long (x <<< (y.toInt64 &&& 63)) :: st))) : OEnds p e below s n0 Q C S T (mkF m pc Ls (.int y :: .long x :: st)) := by
  obtain ⟨⟨hx, hZ, hby, hml, hown, hnm, hrt, hlk⟩, locs, X, eT, N, z0⟩ := H
  exact go (fun t q => XT.lshl X.here hx rfl (hb hby hd) rfl q) k
theorem lshr (H : OHr p l e R s m args below meth c Z n0 own nm code maxL ret T h ce sl) {x : Int64} {y : Int32} (hd : decode code pc = .ok (.lshr, 1))  (k : OEnds p e below s n0 Q C S T (mkF m (pc + 1) Ls (.long (x >>> (y.toInt64 &&& 63)) :: st))) : OEnds p e below s n0 Q C S T (mkF m pc Ls (.int y :: .long x :: st)) := by
  obtain ⟨⟨hx, hZ, hby, hml, hown, hnm, hrt, hlk⟩, locs, X, eT, N, z0⟩ := H
  exact go (fun t q => XT.lshr X.here hx rfl (hb hby hd) rfl q) k
theorem lushr (H : OHr p l e R s m args below meth c Z n0 own nm code maxL ret T h ce sl) {x : Int64} {y : Int32} (hd : decode code pc = .ok (.lushr, 1))  (k : OEnds p e below s n0 Q C S T (mkF m (pc + 1) Ls (.long (XT.ushrL x y) :: st))) : OEnds p e below s n0 Q C S T (mkF m pc Ls (.int y :: .long x :: st)) := by
  obtain ⟨⟨hx, hZ, hby, hml, hown, hnm, hrt, hlk⟩, locs, X, eT, N, z0⟩ := H
  exact go (fun t q => XT.lushr X.here hx rfl (hb hby hd) rfl q) k
theorem lneg (H : OHr p l e R s m args below meth c Z n0 own nm code maxL ret T h ce sl) {x : Int64} (hd : decode code pc = .ok (.lneg, 1))  (k : OEnds p e below s n0 Q C S T (mkF m (pc + 1) Ls (.long (-x) :: st))) : OEnds p e below s n0 Q C S T (mkF m pc Ls (.long x :: st)) := by
  obtain ⟨⟨hx, hZ, hby, hml, hown, hnm, hrt, hlk⟩, locs, X, eT, N, z0⟩ := H
  exact go (fun t q => XT.lneg X.here hx rfl (hb hby hd) rfl q) k
theorem i2l (H : OHr p l e R s m args below meth c Z n0 own nm code maxL ret T h ce sl) {x : Int32} (hd : decode code pc = .ok (.i2l, 1))  (k : OEnds p e below s n0 Q C S T (mkF m (pc + 1) Ls (.long x.toInt64 :: st))) : OEnds p e below s n0 Q C S T (mkF m pc Ls (.int x :: st)) := by
  obtain ⟨⟨hx, hZ, hby, hml, hown, hnm, hrt, hlk⟩, locs, X, eT, N, z0⟩ := H
  exact go (fun t q => XT.i2l X.here hx rfl (hb hby hd) rfl q) k
theorem l2i (H : OHr p l e R s m args below meth c Z n0 own nm code maxL ret T h ce sl) {x : Int64} (hd : decode code pc = .ok (.l2i, 1))  (k : OEnds p e below s n0 Q C S T (mkF m (pc + 1) Ls (.int x.toInt32 :: st))) : OEnds p e below s n0 Q C S T (mkF m pc Ls (.long x :: st)) := by
  obtain ⟨⟨hx, hZ, hby, hml, hown, hnm, hrt, hlk⟩, locs, X, eT, N, z0⟩ := H
  exact go (fun t q => XT.l2i X.here hx rfl (hb hby hd) rfl q) k
theorem i2b (H : OHr p l e R s m args below meth c Z n0 own nm code maxL ret T h ce sl) {x : Int32} (hd : decode code pc = .ok (.i2b, 1))  (k : OEnds p e below s n0 Q C S T (mkF m (pc + 1) Ls (.int x.toInt8.toInt32 :: st))) : OEnds p e below s n0 Q C S T (mkF m pc Ls (.int x :: st)) := by
  obtain ⟨⟨hx, hZ, hby, hml, hown, hnm, hrt, hlk⟩, locs, X, eT, N, z0⟩ := H
  exact go (fun t q => XT.i2b X.here hx rfl (hb hby hd) rfl q) k
theorem i2c (H : OHr p l e R s m args below meth c Z n0 own nm code maxL ret T h ce sl) {x : Int32} (hd : decode code pc = .ok (.i2c, 1))  (k : OEnds p e below s n0 Q C S T (mkF m (pc + 1) Ls (.int x.toUInt32.toUInt16.toUInt32.toInt32 :: st))) : OEnds p e below s n0 Q C S T (mkF m pc Ls (.int x :: st)) := by
  obtain ⟨⟨hx, hZ, hby, hml, hown, hnm, hrt, hlk⟩, locs, X, eT, N, z0⟩ := H
  exact go (fun t q => XT.i2c X.here hx rfl (hb hby hd) rfl q) k
theorem lcmp (H : OHr p l e R s m args below meth c Z n0 own nm code maxL ret T h ce sl) {x y : Int64} (hd : decode code pc = .ok (.lcmp, 1))  (k : OEnds p e below s n0 Q C S T (mkF m (pc + 1) Ls (.int (XT.cmpL x y) :: st))) : OEnds p e below s n0 Q C S T (mkF m pc Ls (.long y :: .long x :: st)) := by
  obtain ⟨⟨hx, hZ, hby, hml, hown, hnm, hrt, hlk⟩, locs, X, eT, N, z0⟩ := H
  exact go (fun t q => XT.lcmp X.here hx rfl (hb hby hd) rfl q) k
theorem dup (H : OHr p l e R s m args below meth c Z n0 own nm code maxL ret T h ce sl) {x : Value} (hd : decode code pc = .ok (.dup, 1)) (hc : x.category = 1) (k : OEnds p e below s n0 Q C S T (mkF m (pc + 1) Ls (x :: x :: st))) : OEnds p e below s n0 Q C S T (mkF m pc Ls (x :: st)) := by
  obtain ⟨⟨hx, hZ, hby, hml, hown, hnm, hrt, hlk⟩, locs, X, eT, N, z0⟩ := H
  exact go (fun t q => XS.dup X.here hx rfl (hb hby hd) rfl hc q) k
theorem pop (H : OHr p l e R s m args below meth c Z n0 own nm code maxL ret T h ce sl) {x : Value} (hd : decode code pc = .ok (.pop, 1)) (hc : x.category = 1) (k : OEnds p e below s n0 Q C S T (mkF m (pc + 1) Ls (st))) : OEnds p e below s n0 Q C S T (mkF m pc Ls (x :: st)) := by
  obtain ⟨⟨hx, hZ, hby, hml, hown, hnm, hrt, hlk⟩, locs, X, eT, N, z0⟩ := H
  exact go (fun t q => XT.pop X.here hx rfl (hb hby hd) rfl hc q) k
theorem dup_x1 (H : OHr p l e R s m args below meth c Z n0 own nm code maxL ret T h ce sl) {x y : Value} (hd : decode code pc = .ok (.dup_x1, 1)) (hc : x.category = 1) (hc' : y.category = 1) (k : OEnds p e below s n0 Q C S T (mkF m (pc + 1) Ls (x :: y :: x :: st))) : OEnds p e below s n0 Q C S T (mkF m pc Ls (x :: y :: st)) := by
  obtain ⟨⟨hx, hZ, hby, hml, hown, hnm, hrt, hlk⟩, locs, X, eT, N, z0⟩ := H
  exact go (fun t q => XT.dupX1 X.here hx rfl (hb hby hd) rfl hc hc' q) k
theorem dup2 (H : OHr p l e R s m args below meth c Z n0 own nm code maxL ret T h ce sl) {x y : Value} (hd : decode code pc = .ok (.dup2, 1)) (hc : x.category = 1) (hc' : y.category = 1) (k : OEnds p e below s n0 Q C S T (mkF m (pc + 1) Ls (x :: y :: x :: y :: st))) : OEnds p e below s n0 Q C S T (mkF m pc Ls (x :: y :: st)) := by
  obtain ⟨⟨hx, hZ, hby, hml, hown, hnm, hrt, hlk⟩, locs, X, eT, N, z0⟩ := H
  exact go (fun t q => XT.dup2 X.here hx rfl (hb hby hd) rfl hc hc' q) k
theorem goto (H : OHr p l e R s m args below meth c Z n0 own nm code maxL ret T h ce sl) {o : Int} (pc' : Nat) (hd : decode code pc = .ok (.goto o, 3)) (ho : 0 ≤ (pc : Int) + o) (hp : ((pc : Int) + o).toNat = pc') (k : OEnds p e below s n0 Q C S T (mkF m pc' Ls st)) : OEnds p e below s n0 Q C S T (mkF m pc Ls st) := by
  obtain ⟨⟨hx, hZ, hby, hml, hown, hnm, hrt, hlk⟩, locs, X, eT, N, z0⟩ := H
  exact go (fun t q => XS.goto X.here hx rfl rfl (hb hby hd) ho hp q) k
theorem icmp_lt (H : OHr p l e R s m args below meth c Z n0 own nm code maxL ret T h ce sl) {x y : Int32} {o : Int} (pc' : Nat) (hd : decode code pc = .ok (.if_icmp .lt o, 3)) (ho : 0 ≤ (pc : Int) + o) (hp : ((pc : Int) + o).toNat = pc') (kt : x < y → OEnds p e below s n0 Q C S T (mkF m pc' Ls st)) (kf : ¬ x < y → OEnds p e below s n0 Q C S T (mkF m (pc + 3) Ls st)) : OEnds p e below s n0 Q C S T (mkF m pc Ls (.int y :: .int x :: st)) := by
  obtain ⟨⟨hx, hZ, hby, hml, hown, hnm, hrt, hlk⟩, locs, X, eT, N, z0⟩ := H
  by_cases q : x < y
  · exact go (fun t r => XS.icmpYes X.here hx rfl rfl (hb hby hd) rfl (tlt q).1 ho hp r) (kt q)
  · exact go (fun t r => XS.icmpNo X.here hx rfl (hb hby hd) rfl (flt q).1 r) (kf q)
theorem if_lt (H : OHr p l e R s m args below meth c Z n0 own nm code maxL ret T h ce sl) {x : Int32} {o : Int} (pc' : Nat) (hd : decode code pc = .ok (.ifCond .lt o, 3)) (ho : 0 ≤ (pc : Int) + o) (hp : ((pc : Int) + o).toNat = pc') (kt : x < (0 : Int32) → OEnds p e below s n0 Q C S T (mkF m pc' Ls st)) (kf : ¬ x < (0 : Int32) → OEnds p e below s n0 Q C S T (mkF m (pc + 3) Ls st)) : OEnds p e below s n0 Q C S T (mkF m pc Ls (.int x :: st)) := by
  obtain ⟨⟨hx, hZ, hby, hml, hown, hnm, hrt, hlk⟩, locs, X, eT, N, z0⟩ := H
  by_cases q : x < (0 : Int32)
  · exact go (fun t r => XS.ifYes X.here hx rfl rfl (hb hby hd) rfl ((if0 _ _).trans (tlt q).1) ho hp r) (kt q)
  · exact go (fun t r => XS.ifNo X.here hx rfl (hb hby hd) rfl ((if0 _ _).trans (flt q).1) r) (kf q)
theorem icmp_ge (H : OHr p l e R s m args below meth c Z n0 own nm code maxL ret T h ce sl) {x y : Int32} {o : Int} (pc' : Nat) (hd : decode code pc = .ok (.if_icmp .ge o, 3)) (ho : 0 ≤ (pc : Int) + o) (hp : ((pc : Int) + o).toNat = pc') (kt : ¬ x < y → OEnds p e below s n0 Q C S T (mkF m pc' Ls st)) (kf : x < y → OEnds p e below s n0 Q C S T (mkF m (pc + 3) Ls st)) : OEnds p e below s n0 Q C S T (mkF m pc Ls (.int y :: .int x :: st)) := by
  obtain ⟨⟨hx, hZ, hby, hml, hown, hnm, hrt, hlk⟩, locs, X, eT, N, z0⟩ := H
  by_cases q : x < y
  · exact go (fun t r => XS.icmpNo X.here hx rfl (hb hby hd) rfl (tlt q).2.1 r) (kf q)
  · exact go (fun t r => XS.icmpYes X.here hx rfl rfl (hb hby hd) rfl (flt q).2.1 ho hp r) (kt q)
theorem if_ge (H : OHr p l e R s m args below meth c Z n0 own nm code maxL ret T h ce sl) {x : Int32} {o : Int} (pc' : Nat) (hd : decode code pc = .ok (.ifCond .ge o, 3)) (ho : 0 ≤ (pc : Int) + o) (hp : ((pc : Int) + o).toNat = pc') (kt : ¬ x < (0 : Int32) → OEnds p e below s n0 Q C S T (mkF m pc' Ls st)) (kf : x < (0 : Int32) → OEnds p e below s n0 Q C S T (mkF m (pc + 3) Ls st)) : OEnds p e below s n0 Q C S T (mkF m pc Ls (.int x :: st)) := by
  obtain ⟨⟨hx, hZ, hby, hml, hown, hnm, hrt, hlk⟩, locs, X, eT, N, z0⟩ := H
  by_cases q : x < (0 : Int32)
  · exact go (fun t r => XS.ifNo X.here hx rfl (hb hby hd) rfl ((if0 _ _).trans (tlt q).2.1) r) (kf q)
  · exact go (fun t r => XS.ifYes X.here hx rfl rfl (hb hby hd) rfl ((if0 _ _).trans (flt q).2.1) ho hp r) (kt q)
theorem icmp_gt (H : OHr p l e R s m args below meth c Z n0 own nm code maxL ret T h ce sl) {x y : Int32} {o : Int} (pc' : Nat) (hd : decode code pc = .ok (.if_icmp .gt o, 3)) (ho : 0 ≤ (pc : Int) + o) (hp : ((pc : Int) + o).toNat = pc') (kt : y < x → OEnds p e below s n0 Q C S T (mkF m pc' Ls st)) (kf : ¬ y < x → OEnds p e below s n0 Q C S T (mkF m (pc + 3) Ls st)) : OEnds p e below s n0 Q C S T (mkF m pc Ls (.int y :: .int x :: st)) := by
  obtain ⟨⟨hx, hZ, hby, hml, hown, hnm, hrt, hlk⟩, locs, X, eT, N, z0⟩ := H
  by_cases q : y < x
  · exact go (fun t r => XS.icmpYes X.here hx rfl rfl (hb hby hd) rfl (tlt q).2.2.1 ho hp r) (kt q)
  · exact go (fun t r => XS.icmpNo X.here hx rfl (hb hby hd) rfl (flt q).2.2.1 r) (kf q)
theorem if_gt (H : OHr p l e R s m args below meth c Z n0 own nm code maxL ret T h ce sl) {x : Int32} {o : Int} (pc' : Nat) (hd : decode code pc = .ok (.ifCond .gt o, 3)) (ho : 0 ≤ (pc : Int) + o) (hp : ((pc : Int) + o).toNat = pc') (kt : (0 : Int32) < x → OEnds p e below s n0 Q C S T (mkF m pc' Ls st)) (kf : ¬ (0 : Int32) < x → OEnds p e below s n0 Q C S T (mkF m (pc + 3) Ls st)) : OEnds p e below s n0 Q C S T (mkF m pc Ls (.int x :: st)) := by
  obtain ⟨⟨hx, hZ, hby, hml, hown, hnm, hrt, hlk⟩, locs, X, eT, N, z0⟩ := H
  by_cases q : (0 : Int32) < x
  · exact go (fun t r => XS.ifYes X.here hx rfl rfl (hb hby hd) rfl ((if0 _ _).trans (tlt q).2.2.1) ho hp r) (kt q)
  · exact go (fun t r => XS.ifNo X.here hx rfl (hb hby hd) rfl ((if0 _ _).trans (flt q).2.2.1) r) (kf q)
theorem icmp_le (H : OHr p l e R s m args below meth c Z n0 own nm code maxL ret T h ce sl) {x y : Int32} {o : Int} (pc' : Nat) (hd : decode code pc = .ok (.if_icmp .le o, 3)) (ho : 0 ≤ (pc : Int) + o) (hp : ((pc : Int) + o).toNat = pc') (kt : ¬ y < x → OEnds p e below s n0 Q C S T (mkF m pc' Ls st)) (kf : y < x → OEnds p e below s n0 Q C S T (mkF m (pc + 3) Ls st)) : OEnds p e below s n0 Q C S T (mkF m pc Ls (.int y :: .int x :: st)) := by
  obtain ⟨⟨hx, hZ, hby, hml, hown, hnm, hrt, hlk⟩, locs, X, eT, N, z0⟩ := H
  by_cases q : y < x
  · exact go (fun t r => XS.icmpNo X.here hx rfl (hb hby hd) rfl (tlt q).2.2.2 r) (kf q)
  · exact go (fun t r => XS.icmpYes X.here hx rfl rfl (hb hby hd) rfl (flt q).2.2.2 ho hp r) (kt q)
theorem if_le (H : OHr p l e R s m args below meth c Z n0 own nm code maxL ret T h ce sl) {x : Int32} {o : Int} (pc' : Nat) (hd : decode code pc = .ok (.ifCond .le o, 3)) (ho : 0 ≤ (pc : Int) + o) (hp : ((pc : Int) + o).toNat = pc') (kt : ¬ (0 : Int32) < x → OEnds p e below s n0 Q C S T (mkF m pc' Ls st)) (kf : (0 : Int32) < x → OEnds p e below s n0 Q C S T (mkF m (pc + 3) Ls st)) : OEnds p e below s n0 Q C S T (mkF m pc Ls (.int x :: st)) := by
  obtain ⟨⟨hx, hZ, hby, hml, hown, hnm, hrt, hlk⟩, locs, X, eT, N, z0⟩ := H
  by_cases q : (0 : Int32) < x
  · exact go (fun t r => XS.ifNo X.here hx rfl (hb hby hd) rfl ((if0 _ _).trans (tlt q).2.2.2) r) (kf q)
  · exact go (fun t r => XS.ifYes X.here hx rfl rfl (hb hby hd) rfl ((if0 _ _).trans (flt q).2.2.2) ho hp r) (kt q)
theorem icmp_eq (H : OHr p l e R s m args below meth c Z n0 own nm code maxL ret T h ce sl) {x y : Int32} {o : Int} (pc' : Nat) (hd : decode code pc = .ok (.if_icmp .eq o, 3)) (ho : 0 ≤ (pc : Int) + o) (hp : ((pc : Int) + o).toNat = pc') (kt : x = y → OEnds p e below s n0 Q C S T (mkF m pc' Ls st)) (kf : ¬ x = y → OEnds p e below s n0 Q C S T (mkF m (pc + 3) Ls st)) : OEnds p e below s n0 Q C S T (mkF m pc Ls (.int y :: .int x :: st)) := by
  obtain ⟨⟨hx, hZ, hby, hml, hown, hnm, hrt, hlk⟩, locs, X, eT, N, z0⟩ := H
  by_cases q : x = y
  · exact go (fun t r => XS.icmpYes X.here hx rfl rfl (hb hby hd) rfl (teq q).1 ho hp r) (kt q)
  · exact go (fun t r => XS.icmpNo X.here hx rfl (hb hby hd) rfl (feq q).1 r) (kf q)
theorem if_eq (H : OHr p l e R s m args below meth c Z n0 own nm code maxL ret T h ce sl) {x : Int32} {o : Int} (pc' : Nat) (hd : decode code pc = .ok (.ifCond .eq o, 3)) (ho : 0 ≤ (pc : Int) + o) (hp : ((pc : Int) + o).toNat = pc') (kt : x = (0 : Int32) → OEnds p e below s n0 Q C S T (mkF m pc' Ls st)) (kf : ¬ x = (0 : Int32) → OEnds p e below s n0 Q C S T (mkF m (pc + 3) Ls st)) : OEnds p e below s n0 Q C S T (mkF m pc Ls (.int x :: st)) := by
  obtain ⟨⟨hx, hZ, hby, hml, hown, hnm, hrt, hlk⟩, locs, X, eT, N, z0⟩ := H
  by_cases q : x = (0 : Int32)
  · exact go (fun t r => XS.ifYes X.here hx rfl rfl (hb hby hd) rfl ((if0 _ _).trans (teq q).1) ho hp r) (kt q)
  · exact go (fun t r => XS.ifNo X.here hx rfl (hb hby hd) rfl ((if0 _ _).trans (feq q).1) r) (kf q)
theorem icmp_ne (H : OHr p l e R s m args below meth c Z n0 own nm code maxL ret T h ce sl) {x y : Int32} {o : Int} (pc' : Nat) (hd : decode code pc = .ok (.if_icmp .ne o, 3)) (ho : 0 ≤ (pc : Int) + o) (hp : ((pc : Int) + o).toNat = pc') (kt : ¬ x = y → OEnds p e below s n0 Q C S T (mkF m pc' Ls st)) (kf : x = y → OEnds p e below s n0 Q C S T (mkF m (pc + 3) Ls st)) : OEnds p e below s n0 Q C S T (mkF m pc Ls (.int y :: .int x :: st)) := by
  obtain ⟨⟨hx, hZ, hby, hml, hown, hnm, hrt, hlk⟩, locs, X, eT, N, z0⟩ := H
  by_cases q : x = y
  · exact go (fun t r => XS.icmpNo X.here hx rfl (hb hby hd) rfl (teq q).2 r) (kf q)
  · exact go (fun t r => XS.icmpYes X.here hx rfl rfl (hb hby hd) rfl (feq q).2 ho hp r) (kt q)
theorem if_ne (H : OHr p l e R s m args below meth c Z n0 own nm code maxL ret T h ce sl) {x : Int32} {o : Int} (pc' : Nat) (hd : decode code pc = .ok (.ifCond .ne o, 3)) (ho : 0 ≤ (pc : Int) + o) (hp : ((pc : Int) + o).toNat = pc') (kt : ¬ x = (0 : Int32) → OEnds p e below s n0 Q C S T (mkF m pc' Ls st)) (kf : x = (0 : Int32) → OEnds p e below s n0 Q C S T (mkF m (pc + 3) Ls st)) : OEnds p e below s n0 Q C S T (mkF m pc Ls (.int x :: st)) := by
  obtain ⟨⟨hx, hZ, hby, hml, hown, hnm, hrt, hlk⟩, locs, X, eT, N, z0⟩ := H
  by_cases q : x = (0 : Int32)
  · exact go (fun t r => XS.ifNo X.here hx rfl (hb hby hd) rfl ((if0 _ _).trans (teq q).2) r) (kf q)
  · exact go (fun t r => XS.ifYes X.here hx rfl rfl (hb hby hd) rfl ((if0 _ _).trans (feq q).2) ho hp r) (kt q)
theorem ifnull_ref (H : OHr p l e R s m args below meth c Z n0 own nm code maxL ret T h ce sl) {o : Int} {b : Addr} (hd : decode code pc = .ok (.ifnull o, 3)) (k : OEnds p e below s n0 Q C S T (mkF m (pc + 3) Ls st)) : OEnds p e below s n0 Q C S T (mkF m pc Ls (.ref b :: st)) := by
  obtain ⟨⟨hx, hZ, hby, hml, hown, hnm, hrt, hlk⟩, locs, X, eT, N, z0⟩ := H
  exact go (fun t q => XS.ifnullNo X.here hx rfl (hb hby hd) rfl q) k
theorem ifnonnull_ref (H : OHr p l e R s m args below meth c Z n0 own nm code maxL ret T h ce sl) {o : Int} {b : Addr} (pc' : Nat) (hd : decode code pc = .ok (.ifnonnull o, 3)) (ho : 0 ≤ (pc : Int) + o) (hp : ((pc : Int) + o).toNat = pc') (k : OEnds p e below s n0 Q C S T (mkF m pc' Ls st)) : OEnds p e below s n0 Q C S T (mkF m pc Ls (.ref b :: st)) := by
  obtain ⟨⟨hx, hZ, hby, hml, hown, hnm, hrt, hlk⟩, locs, X, eT, N, z0⟩ := H
  exact go (fun t q => XT.ifnonnullYes X.here hx rfl rfl (hb hby hd) rfl ho hp q) k
theorem acmp_ne (H : OHr p l e R s m args below meth c Z n0 own nm code maxL ret T h ce sl) {x y : Value} {o : Int} (pc' : Nat) (hd : decode code pc = .ok (.if_acmp .ne o, 3)) (h1 : x.isRef = true) (h2 : y.isRef = true) (ho : 0 ≤ (pc : Int) + o) (hp : ((pc : Int) + o).toNat = pc') (kt : ¬ x = y → OEnds p e below s n0 Q C S T (mkF m pc' Ls st)) (kf : x = y → OEnds p e below s n0 Q C S T (mkF m (pc + 3) Ls st)) : OEnds p e below s n0 Q C S T (mkF m pc Ls (y :: x :: st)) := by
  obtain ⟨⟨hx, hZ, hby, hml, hown, hnm, hrt, hlk⟩, locs, X, eT, N, z0⟩ := H
  by_cases q : x = y
  · exact go (fun t r => XT.acmpNo X.here hx rfl (hb hby hd) rfl h1 h2 (by simp [XT.acmp, q]) r) (kf q)
  · exact go (fun t r => XT.acmpYes X.here hx rfl rfl (hb hby hd) rfl h1 h2 (by simp [XT.acmp, q]) ho hp r) (kt q)
theorem acmp_eq (H : OHr p l e R s m args below meth c Z n0 own nm code maxL ret T h ce sl) {x y : Value} {o : Int} (pc' : Nat) (hd : decode code pc = .ok (.if_acmp .eq o, 3)) (h1 : x.isRef = true) (h2 : y.isRef = true) (ho : 0 ≤ (pc : Int) + o) (hp : ((pc : Int) + o).toNat = pc') (kt : x = y → OEnds p e below s n0 Q C S T (mkF m pc' Ls st)) (kf : ¬ x = y → OEnds p e below s n0 Q C S T (mkF m (pc + 3) Ls st)) : OEnds p e below s n0 Q C S T (mkF m pc Ls (y :: x :: st)) := by
  obtain ⟨⟨hx, hZ, hby, hml, hown, hnm, hrt, hlk⟩, locs, X, eT, N, z0⟩ := H
  by_cases q : x = y
  · exact go (fun t r => XT.acmpYes X.here hx rfl rfl (hb hby hd) rfl h1 h2 (by simp [XT.acmp, q]) ho hp r) (kt q)
  · exact go (fun t r => XT.acmpNo X.here hx rfl (hb hby hd) rfl h1 h2 (by simp [XT.acmp, q]) r) (kf q)
theorem ret_int (H : OHr p l e R s m args below meth c Z n0 own nm code maxL ret T h ce sl) {z : Int32} (hd : decode code pc = .ok (.ireturn, 1)) (hr : ret = some .int) (hC : ce ≤ C) (hS : sl ≤ S) (hq : Q (some (.int z)) h) : OEnds p e below s n0 Q C S T (mkF m pc Ls (.int z :: st)) := by
  obtain ⟨⟨hx, hZ, hby, hml, hown, hnm, hrt, hlk⟩, locs, X, eT, N, z0⟩ := H
  obtain ⟨fs, hrr, hrun, hended, hW, hsame⟩ := X.leave (v := some (.int z)) (fun q => by rw [hrt, hr] at q; cases q) hlk
  refine ⟨_, _, ?_, hrun, hended, _, _, rfl, ⟨N, ?_⟩, ⟨_, rfl⟩, hW, hsame.mono hC hS⟩
  · exact retOut X hx (hrt.trans hr) rfl (Or.inl ⟨rfl, Or.inl rfl, _, rfl⟩) (hb hby hd) hrr
  · show Q _ T.heap
    rw [eT]; exact hq
theorem ret_nar (H : OHr p l e R s m args below meth c Z n0 own nm code maxL ret T h ce sl) {z : Int32} (w : Int32) {t : FieldType} (hd : decode code pc = .ok (.ireturn, 1)) (hr : ret = some t) (ht : t = .boolean ∨ t = .byte ∨ t = .char ∨ t = .short) (hw : nar t z = w) (hC : ce ≤ C) (hS : sl ≤ S) (hq : Q (some (.int w)) h) : OEnds p e below s n0 Q C S T (mkF m pc Ls (.int z :: st)) := by
  obtain ⟨⟨hx, hZ, hby, hml, hown, hnm, hrt, hlk⟩, locs, X, eT, N, z0⟩ := H
  subst hw
  obtain ⟨fs, hrr, hrun, hended, hW, hsame⟩ := X.leave (v := some (.int (nar t z))) (fun q => by rw [hrt, hr] at q; cases q) hlk
  refine ⟨_, _, ?_, hrun, hended, _, _, rfl, ⟨N, ?_⟩, ⟨_, rfl⟩, hW, hsame.mono hC hS⟩
  · exact retN X hx (hrt.trans hr) ht (hb hby hd) hrr
  · show Q _ T.heap
    rw [eT]; exact hq
theorem ret_long (H : OHr p l e R s m args below meth c Z n0 own nm code maxL ret T h ce sl) {z : Int64} (hd : decode code pc = .ok (.lreturn, 1)) (hr : ret = some .long) (hC : ce ≤ C) (hS : sl ≤ S) (hq : Q (some (.long z)) h) : OEnds p e below s n0 Q C S T (mkF m pc Ls (.long z :: st)) := by
  obtain ⟨⟨hx, hZ, hby, hml, hown, hnm, hrt, hlk⟩, locs, X, eT, N, z0⟩ := H
  obtain ⟨fs, hrr, hrun, hended, hW, hsame⟩ := X.leave (v := some (.long z)) (fun q => by rw [hrt, hr] at q; cases q) hlk
  refine ⟨_, _, ?_, hrun, hended, _, _, rfl, ⟨N, ?_⟩, ⟨_, rfl⟩, hW, hsame.mono hC hS⟩
  · exact retOut X hx (hrt.trans hr) rfl (Or.inr (Or.inl ⟨rfl, rfl, _, rfl⟩)) (hb hby hd) hrr
  · show Q _ T.heap
    rw [eT]; exact hq
theorem ret_ref (H : OHr p l e R s m args below meth c Z n0 own nm code maxL ret T h ce sl) {z : Value} {t : FieldType} (hd : decode code pc = .ok (.areturn, 1)) (hr : ret = some t) (ht : t.isReference = true) (hn : narrow t z = z) (hz : z.isRef = true) (hC : ce ≤ C) (hS : sl ≤ S) (hq : Q (some z) h) : OEnds p e below s n0 Q C S T (mkF m pc Ls (z :: st)) := by
  obtain ⟨⟨hx, hZ, hby, hml, hown, hnm, hrt, hlk⟩, locs, X, eT, N, z0⟩ := H
  obtain ⟨fs, hrr, hrun, hended, hW, hsame⟩ := X.leave (v := some z) (fun q => by rw [hrt, hr] at q; cases q) hlk
  refine ⟨_, _, ?_, hrun, hended, _, _, rfl, ⟨N, ?_⟩, ⟨_, rfl⟩, hW, hsame.mono hC hS⟩
  · exact retOut X hx (hrt.trans hr) hn (Or.inr (Or.inr (Or.inr (Or.inr ⟨rfl, ht, hz⟩)))) (hb hby hd) hrr
  · show Q _ T.heap
    rw [eT]; exact hq
theorem ret_void (H : OHr p l e R s m args below meth c Z n0 own nm code maxL ret T h ce sl) (hd : decode code pc = .ok (.return_, 1)) (hr : ret = none) (hC : ce ≤ C) (hS : sl ≤ S) (hq : Q none h) : OEnds p e below s n0 Q C S T (mkF m pc Ls []) := by
  obtain ⟨⟨hx, hZ, hby, hml, hown, hnm, hrt, hlk⟩, locs, X, eT, N, z0⟩ := H
  obtain ⟨fs, hrr, hrun, hended, hW, hsame⟩ := X.leave (v := none) (fun _ => rfl) hlk
  refine ⟨_, _, ?_, hrun, hended, _, _, rfl, ⟨N, ?_⟩, ⟨_, rfl⟩, hW, hsame.mono hC hS⟩
  · exact X.returnOut hx (hrt.trans hr) (hb hby hd) hrr
  · show Q _ T.heap
    rw [eT]; exact hq
theorem getfield (H : OHr p l e R s m args below meth c Z n0 own nm code maxL ret T h ce sl) {O n d : String} {idx : Nat} {a : Addr} {v : Value} (hd : decode code pc = .ok (.getfield idx, 3)) (w : (Cond.fieldLink own idx O n d).before a0 Z = true) (F : Fld Z h a O n d v) (k : ∀ T', OHr p l e R s m args below meth c Z n0 own nm code maxL ret T' h ce sl → OEnds p e below s n0 Q C S T' (mkF m (pc + 3) Ls (v :: st))) : OEnds p e below s n0 Q C S T (mkF m pc Ls (.ref a :: st)) := by
  obtain ⟨⟨hx, hZ, hby, hml, hown, hnm, hrt, hlk⟩, locs, X, eT, N, z0⟩ := H
  obtain ⟨T', X', e', q⟩ := getF X hx hZ hown (host := "") (Or.inl w) Via.refl eT F (g := mkF m pc Ls (.ref a :: st)) rfl rfl (hb hby hd)
  exact go q (k T' ⟨⟨hx, hZ, hby, hml, hown, hnm, hrt, hlk⟩, locs, X', e', N, z0⟩)
theorem putfield (H : OHr p l e R s m args below meth c Z n0 own nm code maxL ret T h ce sl) {O n d CC : String} {idx kk : Nat} {ty : FieldType} {a : Addr} {v old : Value} (hd : decode code pc = .ok (.putfield idx, 3)) (w : (Cond.fieldLink own idx O n d).before a0 Z = true) (F : Fld Z h a O n d old) (E : Exa Z h a CC) (L : (Cond.lays CC O n d).before a0 Z = true ∨ ((Cond.laysFinal CC O n d).before a0 Z = true ∧ own = O ∧ nm = "<init>")) (wi : (Cond.instantiable CC kk).before a0 Z = true) (hty : parseFieldDescriptor d = some ty) (hn : narrow ty v = v) (hf : fits ty v = true) (ge : n0 ≤ a)
    (k : ∀ T' h', OHr p l e R s m args below meth c Z n0 own nm code maxL ret T' h' ce sl → Wr h h' a (Jvm.RoadKit.slotOf Z O n d) v → OEnds p e below s n0 Q C S T' (mkF m (pc + 3) Ls st)) : OEnds p e below s n0 Q C S T (mkF m pc Ls (v :: .ref a :: st)) := by
  obtain ⟨⟨hx, hZ, hby, hml, hown, hnm, hrt, hlk⟩, locs, X, eT, N, z0⟩ := H
  obtain ⟨T', h', X', e', W, q⟩ := putF X hx hZ hown (host := "") (Or.inl w) Via.refl eT F E (by rcases L with q | ⟨q1, q2, q3⟩; exact Or.inl q; exact Or.inr ⟨q1, q2, hnm.trans q3⟩) wi hty hn hf (g := mkF m pc Ls (v :: .ref a :: st)) rfl rfl (hb hby hd)
  exact go q (k T' h' ⟨⟨hx, hZ, hby, hml, hown, hnm, hrt, hlk⟩, _, X', e', Fr.one N ge, by rw [W.size]; exact z0⟩ W)
theorem getstatic (H : OHr p l e R s m args below meth c Z n0 own nm code maxL ret T h ce sl) {O n d : String} {idx : Nat} {v : Value} (hd : decode code pc = .ok (.getstatic idx, 3)) (w : (Cond.fieldLink own idx O n d).before a0 Z = true) (F : Sta Z h O n d v) (k : ∀ T', OHr p l e R s m args below meth c Z n0 own nm code maxL ret T' h ce sl → OEnds p e below s n0 Q C S T' (mkF m (pc + 3) Ls (v :: st))) : OEnds p e below s n0 Q C S T (mkF m pc Ls st) := by
  obtain ⟨⟨hx, hZ, hby, hml, hown, hnm, hrt, hlk⟩, locs, X, eT, N, z0⟩ := H
  obtain ⟨T', X', e', q⟩ := getS (host := "") X hx hZ hown w Via.refl eT F (g := mkF m pc Ls st) rfl (hb hby hd)
  exact go q (k T' ⟨⟨hx, hZ, hby, hml, hown, hnm, hrt, hlk⟩, locs, X', e', N, z0⟩)
theorem new_ (H : OHr p l e R s m args below meth c Z n0 own nm code maxL ret T h ce sl) {CC : String} {idx n : Nat} (hd : decode code pc = .ok (.new idx, 3)) (w : (Cond.classLink own idx CC).before a0 Z = true) (wi : (Cond.instantiable CC n).before a0 Z = true) (wz : (Cond.initialized CC).before a0 Z = true) (hc : ce + 1 ≤ R.cells) (hl : sl + n ≤ R.slots)
    (k : ∀ T' h' a, a = h.size → n0 ≤ a → OHr p l e R s m args below meth c Z n0 own nm code maxL ret T' h' (ce + 1) (sl + n) → Ext h h' → Exa Z h' a CC → (∀ {O nm d : String} {ty : FieldType}, Laid Z a0 CC O nm d → parseFieldDescriptor d = some ty → Fld Z h' a O nm d (defaultValue ty)) → OEnds p e below s n0 Q C S T' (mkF m (pc + 3) Ls (.ref a :: st))) : OEnds p e below s n0 Q C S T (mkF m pc Ls st) := by
  obtain ⟨⟨hx, hZ, hby, hml, hown, hnm, hrt, hlk⟩, locs, X, eT, N, z0⟩ := H
  obtain ⟨T', h', X', e', E', A', D', -, q⟩ := newO X hx hZ hown w wi wz eT (g := mkF m pc Ls st) rfl (hb hby hd) hc hl
  exact go q (k T' h' _ rfl z0 ⟨⟨hx, hZ, hby, hml, hown, hnm, hrt, hlk⟩, locs, X', e', N, Nat.le_trans z0 E'.1⟩ E' A' D')
theorem newarray (H : OHr p l e R s m args below meth c Z n0 own nm code maxL ret T h ce sl) {aty : ArrayType} {n : Int32} {i : Nat} (cap : Nat) (hd : decode code pc = .ok (.newarray aty, 2)) (w : (Cond.arrayClass (newarray.typeOf aty)).before a0 Z = true) (hn : n.toInt = (i : Int)) (hf : fits (newarray.typeOf aty) (defaultValue (newarray.typeOf aty)) = true) (hcap : i ≤ cap) (hb8 : cap * 8 ≤ 536870912) (hc : ce + 1 ≤ R.cells) (hl : sl + cap ≤ R.slots)
    (k : ∀ T' h' a, a = h.size → n0 ≤ a → OHr p l e R s m args below meth c Z n0 own nm code maxL ret T' h' (ce + 1) (sl + cap) → Ext h h' → OAry Z h' a (newarray.typeOf aty) (List.replicate i (defaultValue (newarray.typeOf aty))) → OEnds p e below s n0 Q C S T' (mkF m (pc + 2) Ls (.ref a :: st))) : OEnds p e below s n0 Q C S T (mkF m pc Ls (.int n :: st)) := by
  obtain ⟨⟨hx, hZ, hby, hml, hown, hnm, hrt, hlk⟩, locs, X, eT, N, z0⟩ := H
  obtain ⟨n1, n2⟩ := nat_idx hn
  obtain ⟨T', h', cA, X', e', E', A', q⟩ := newP X hx hZ w eT (g := mkF m pc Ls (.int n :: st)) rfl (hb hby hd) rfl n2 (cap := cap) (by rw [n1]; exact hcap) hb8 hc hl
  exact go q (k T' h' _ rfl z0 ⟨⟨hx, hZ, hby, hml, hown, hnm, hrt, hlk⟩, locs, X', e', N, Nat.le_trans z0 E'.1⟩ E' (by have := OAry.new A' hf; rw [n1] at this; exact this))
theorem arraylength (H : OHr p l e R s m args below meth c Z n0 own nm code maxL ret T h ce sl) {a : Addr} {ty : FieldType} {vs : List Value} (n : Int32) (hd : decode code pc = .ok (.arraylength, 1)) (A : OAry Z h a ty vs) (hn : n.toInt = (vs.length : Int)) (k : OEnds p e below s n0 Q C S T (mkF m (pc + 1) Ls (.int n :: st))) : OEnds p e below s n0 Q C S T (mkF m pc Ls (.ref a :: st)) := by
  obtain ⟨⟨hx, hZ, hby, hml, hown, hnm, hrt, hlk⟩, locs, X, eT, N, z0⟩ := H
  obtain ⟨c1, A, r1, r2, r3⟩ := A
  have hsz : c1.slots.size = vs.length := by rw [← r1]; simp
  obtain ⟨n1, n2⟩ := nat_idx hn
  have e1 : c1.slots.size.toInt32 = n := by rw [hsz, ← n1]; exact (back32 n2).1
  refine go (fun t q => X.arraylength hx (cell := c1) (by rw [eT]; exact A.1) (State.isArrayOf_alike hZ.alike A.2.1) (g := mkF m pc Ls (.ref a :: st)) rfl rfl (hb hby hd) t q) ?_
  rw [e1]
  exact k
theorem iaload (H : OHr p l e R s m args below meth c Z n0 own nm code maxL ret T h ce sl) {a : Addr} {vs : List Value} {j : Int32} {v : Int32} (i : Nat) (hd : decode code pc = .ok (.iaload, 1)) (A : OAry Z h a .int vs) (hj : j.toInt = (i : Int)) (hv : vs[i]? = some (.int v)) (k : OEnds p e below s n0 Q C S T (mkF m (pc + 1) Ls (.int v :: st))) : OEnds p e below s n0 Q C S T (mkF m pc Ls (.int j :: .ref a :: st)) := by
  obtain ⟨⟨hx, hZ, hby, hml, hown, hnm, hrt, hlk⟩, locs, X, eT, N, z0⟩ := H
  obtain ⟨c1, A, r1, r2, r3⟩ := A
  have hsz : c1.slots.size = vs.length := by rw [← r1]; simp
  obtain ⟨n1, n2⟩ := nat_idx hj
  have hi : i < vs.length := by rcases Nat.lt_or_ge i vs.length with q | q; exact q; rw [List.getElem?_eq_none q] at hv; cases hv
  have hat : c1.slots[j.toNatClampNeg]? = some (.int v) := by rw [n1, ← Array.getElem?_toList, r1]; exact hv
  have hin : ¬ (j < 0 ∨ c1.slots.size ≤ j.toNatClampNeg) := by rw [n1, hsz]; intro q; rcases q with q | q; exact n2 q; omega
  exact go (fun t q => X.iaload hx (by rw [eT]; exact A.1) (State.isArrayOf_alike hZ.alike A.2.1) A.2.2 hin hat (g := mkF m pc Ls (.int j :: .ref a :: st)) rfl rfl (hb hby hd) t q) k
theorem laload (H : OHr p l e R s m args below meth c Z n0 own nm code maxL ret T h ce sl) {a : Addr} {vs : List Value} {j : Int32} {v : Int64} (i : Nat) (hd : decode code pc = .ok (.laload, 1)) (A : OAry Z h a .long vs) (hj : j.toInt = (i : Int)) (hv : vs[i]? = some (.long v)) (k : OEnds p e below s n0 Q C S T (mkF m (pc + 1) Ls (.long v :: st))) : OEnds p e below s n0 Q C S T (mkF m pc Ls (.int j :: .ref a :: st)) := by
  obtain ⟨⟨hx, hZ, hby, hml, hown, hnm, hrt, hlk⟩, locs, X, eT, N, z0⟩ := H
  obtain ⟨c1, A, r1, r2, r3⟩ := A
  have hsz : c1.slots.size = vs.length := by rw [← r1]; simp
  obtain ⟨n1, n2⟩ := nat_idx hj
  have hi : i < vs.length := by rcases Nat.lt_or_ge i vs.length with q | q; exact q; rw [List.getElem?_eq_none q] at hv; cases hv
  have hat : c1.slots[j.toNatClampNeg]? = some (.long v) := by rw [n1, ← Array.getElem?_toList, r1]; exact hv
  have hin : ¬ (j < 0 ∨ c1.slots.size ≤ j.toNatClampNeg) := by rw [n1, hsz]; intro q; rcases q with q | q; exact n2 q; omega
  exact go (fun t q => X.laload hx (by rw [eT]; exact A.1) (State.isArrayOf_alike hZ.alike A.2.1) A.2.2 hin hat (g := mkF m pc Ls (.int j :: .ref a :: st)) rfl rfl (hb hby hd) t q) k
theorem caload (H : OHr p l e R s m args below meth c Z n0 own nm code maxL ret T h ce sl) {a : Addr} {vs : List Value} {j : Int32} {v : Int32} (i : Nat) (hd : decode code pc = .ok (.caload, 1)) (A : OAry Z h a .char vs) (hj : j.toInt = (i : Int)) (hv : vs[i]? = some (.int v)) (k : OEnds p e below s n0 Q C S T (mkF m (pc + 1) Ls (.int v :: st))) : OEnds p e below s n0 Q C S T (mkF m pc Ls (.int j :: .ref a :: st)) := by
  obtain ⟨⟨hx, hZ, hby, hml, hown, hnm, hrt, hlk⟩, locs, X, eT, N, z0⟩ := H
  obtain ⟨c1, A, r1, r2, r3⟩ := A
  have hsz : c1.slots.size = vs.length := by rw [← r1]; simp
  obtain ⟨n1, n2⟩ := nat_idx hj
  have hi : i < vs.length := by rcases Nat.lt_or_ge i vs.length with q | q; exact q; rw [List.getElem?_eq_none q] at hv; cases hv
  have hat : c1.slots[j.toNatClampNeg]? = some (.int v) := by rw [n1, ← Array.getElem?_toList, r1]; exact hv
  have hin : ¬ (j < 0 ∨ c1.slots.size ≤ j.toNatClampNeg) := by rw [n1, hsz]; intro q; rcases q with q | q; exact n2 q; omega
  exact go (fun t q => X.caload hx (by rw [eT]; exact A.1) (State.isArrayOf_alike hZ.alike A.2.1) A.2.2 hin hat (g := mkF m pc Ls (.int j :: .ref a :: st)) rfl rfl (hb hby hd) t q) k
theorem baload (H : OHr p l e R s m args below meth c Z n0 own nm code maxL ret T h ce sl) {a : Addr} {vs : List Value} {j : Int32} {v : Int32} (i : Nat) (hd : decode code pc = .ok (.baload, 1)) (A : OAry Z h a .byte vs) (hj : j.toInt = (i : Int)) (hv : vs[i]? = some (.int v)) (k : OEnds p e below s n0 Q C S T (mkF m (pc + 1) Ls (.int v :: st))) : OEnds p e below s n0 Q C S T (mkF m pc Ls (.int j :: .ref a :: st)) := by
  obtain ⟨⟨hx, hZ, hby, hml, hown, hnm, hrt, hlk⟩, locs, X, eT, N, z0⟩ := H
  obtain ⟨c1, A, r1, r2, r3⟩ := A
  have hsz : c1.slots.size = vs.length := by rw [← r1]; simp
  obtain ⟨n1, n2⟩ := nat_idx hj
  have hi : i < vs.length := by rcases Nat.lt_or_ge i vs.length with q | q; exact q; rw [List.getElem?_eq_none q] at hv; cases hv
  have hat : c1.slots[j.toNatClampNeg]? = some (.int v) := by rw [n1, ← Array.getElem?_toList, r1]; exact hv
  have hin : ¬ (j < 0 ∨ c1.slots.size ≤ j.toNatClampNeg) := by rw [n1, hsz]; intro q; rcases q with q | q; exact n2 q; omega
  exact go (fun t q => X.baloadBytes hx (by rw [eT]; exact A.1) (State.isArrayOf_alike hZ.alike A.2.1) A.2.2 hin hat (g := mkF m pc Ls (.int j :: .ref a :: st)) rfl rfl (hb hby hd) t q) k
theorem aaload (H : OHr p l e R s m args below meth c Z n0 own nm code maxL ret T h ce sl) {a : Addr} {ty : FieldType} {vs : List Value} {j : Int32} {v : Value} (i : Nat) (hd : decode code pc = .ok (.aaload, 1)) (A : OAry Z h a ty vs) (ht : ty.isReference = true) (hj : j.toInt = (i : Int)) (hv : vs[i]? = some v) (k : OEnds p e below s n0 Q C S T (mkF m (pc + 1) Ls (v :: st))) : OEnds p e below s n0 Q C S T (mkF m pc Ls (.int j :: .ref a :: st)) := by
  obtain ⟨⟨hx, hZ, hby, hml, hown, hnm, hrt, hlk⟩, locs, X, eT, N, z0⟩ := H
  obtain ⟨c1, A, r1, r2, r3⟩ := A
  have hsz : c1.slots.size = vs.length := by rw [← r1]; simp
  obtain ⟨n1, n2⟩ := nat_idx hj
  have hi : i < vs.length := by rcases Nat.lt_or_ge i vs.length with q | q; exact q; rw [List.getElem?_eq_none q] at hv; cases hv
  have hat : c1.slots[j.toNatClampNeg]? = some v := by rw [n1, ← Array.getElem?_toList, r1]; exact hv
  have hin : ¬ (j < 0 ∨ c1.slots.size ≤ j.toNatClampNeg) := by rw [n1, hsz]; intro q; rcases q with q | q; exact n2 q; omega
  exact go (fun t q => X.aaload hx (by rw [eT]; exact A.1) (State.isArrayOf_alike hZ.alike A.2.1) ht A.2.2 hin hat (g := mkF m pc Ls (.int j :: .ref a :: st)) rfl rfl (hb hby hd) t q) k
theorem iastore (H : OHr p l e R s m args below meth c Z n0 own nm code maxL ret T h ce sl) {a : Addr} {vs : List Value} {j : Int32} {v : Int32} (i : Nat) (hd : decode code pc = .ok (.iastore, 1)) (A : OAry Z h a .int vs) (ge : n0 ≤ a) (hj : j.toInt = (i : Int)) (hi : i < vs.length) (k : ∀ T' h', OHr p l e R s m args below meth c Z n0 own nm code maxL ret T' h' ce sl → Wr h h' a i (.int v) → OAry Z h' a .int (vs.set i (.int v)) → OEnds p e below s n0 Q C S T' (mkF m (pc + 1) Ls st)) : OEnds p e below s n0 Q C S T (mkF m pc Ls (.int v :: .int j :: .ref a :: st)) := by
  obtain ⟨⟨hx, hZ, hby, hml, hown, hnm, hrt, hlk⟩, locs, X, eT, N, z0⟩ := H
  have A0 := A
  obtain ⟨c1, A, r1, r2, r3⟩ := A
  have hsz : c1.slots.size = vs.length := by rw [← r1]; simp
  obtain ⟨n1, n2⟩ := nat_idx hj
  have hin : ¬ (j < 0 ∨ c1.slots.size ≤ j.toNatClampNeg) := by rw [n1, hsz]; intro q; rcases q with q | q; exact n2 q; omega
  obtain ⟨T', h', X', e', W, q⟩ := stI X hx hZ eT A hin (g := mkF m pc Ls (.int v :: .int j :: .ref a :: st)) rfl rfl (hb hby hd)
  rw [n1] at X' W
  exact go q (k T' h' ⟨⟨hx, hZ, hby, hml, hown, hnm, hrt, hlk⟩, _, X', e', Fr.one N ge, by rw [W.size]; exact z0⟩ W (A0.wr W rfl))
theorem lastore (H : OHr p l e R s m args below meth c Z n0 own nm code maxL ret T h ce sl) {a : Addr} {vs : List Value} {j : Int32} {v : Int64} (i : Nat) (hd : decode code pc = .ok (.lastore, 1)) (A : OAry Z h a .long vs) (ge : n0 ≤ a) (hj : j.toInt = (i : Int)) (hi : i < vs.length) (k : ∀ T' h', OHr p l e R s m args below meth c Z n0 own nm code maxL ret T' h' ce sl → Wr h h' a i (.long v) → OAry Z h' a .long (vs.set i (.long v)) → OEnds p e below s n0 Q C S T' (mkF m (pc + 1) Ls st)) : OEnds p e below s n0 Q C S T (mkF m pc Ls (.long v :: .int j :: .ref a :: st)) := by
  obtain ⟨⟨hx, hZ, hby, hml, hown, hnm, hrt, hlk⟩, locs, X, eT, N, z0⟩ := H
  have A0 := A
  obtain ⟨c1, A, r1, r2, r3⟩ := A
  have hsz : c1.slots.size = vs.length := by rw [← r1]; simp
  obtain ⟨n1, n2⟩ := nat_idx hj
  have hin : ¬ (j < 0 ∨ c1.slots.size ≤ j.toNatClampNeg) := by rw [n1, hsz]; intro q; rcases q with q | q; exact n2 q; omega
  obtain ⟨T', h', X', e', W, q⟩ := stJ X hx hZ eT A hin (g := mkF m pc Ls (.long v :: .int j :: .ref a :: st)) rfl rfl (hb hby hd)
  rw [n1] at X' W
  exact go q (k T' h' ⟨⟨hx, hZ, hby, hml, hown, hnm, hrt, hlk⟩, _, X', e', Fr.one N ge, by rw [W.size]; exact z0⟩ W (A0.wr W rfl))
theorem castore (H : OHr p l e R s m args below meth c Z n0 own nm code maxL ret T h ce sl) {a : Addr} {vs : List Value} {j : Int32} {v : Int32} (i : Nat) (hd : decode code pc = .ok (.castore, 1)) (A : OAry Z h a .char vs) (ge : n0 ≤ a) (hj : j.toInt = (i : Int)) (hi : i < vs.length) (k : ∀ T' h', OHr p l e R s m args below meth c Z n0 own nm code maxL ret T' h' ce sl → Wr h h' a i (.int (nar .char v)) → OAry Z h' a .char (vs.set i (.int (nar .char v))) → OEnds p e below s n0 Q C S T' (mkF m (pc + 1) Ls st)) : OEnds p e below s n0 Q C S T (mkF m pc Ls (.int v :: .int j :: .ref a :: st)) := by
  obtain ⟨⟨hx, hZ, hby, hml, hown, hnm, hrt, hlk⟩, locs, X, eT, N, z0⟩ := H
  have A0 := A
  obtain ⟨c1, A, r1, r2, r3⟩ := A
  have hsz : c1.slots.size = vs.length := by rw [← r1]; simp
  obtain ⟨n1, n2⟩ := nat_idx hj
  have hin : ¬ (j < 0 ∨ c1.slots.size ≤ j.toNatClampNeg) := by rw [n1, hsz]; intro q; rcases q with q | q; exact n2 q; omega
  obtain ⟨T', h', X', e', W, q⟩ := stC X hx hZ eT A hin (g := mkF m pc Ls (.int v :: .int j :: .ref a :: st)) rfl rfl (hb hby hd)
  rw [n1] at X' W
  exact go q (k T' h' ⟨⟨hx, hZ, hby, hml, hown, hnm, hrt, hlk⟩, _, X', e', Fr.one N ge, by rw [W.size]; exact z0⟩ W (A0.wr W (fits_nar_char v)))
theorem bastore (H : OHr p l e R s m args below meth c Z n0 own nm code maxL ret T h ce sl) {a : Addr} {vs : List Value} {j : Int32} {v : Int32} (i : Nat) (hd : decode code pc = .ok (.bastore, 1)) (A : OAry Z h a .byte vs) (ge : n0 ≤ a) (hj : j.toInt = (i : Int)) (hi : i < vs.length) (k : ∀ T' h', OHr p l e R s m args below meth c Z n0 own nm code maxL ret T' h' ce sl → Wr h h' a i (.int (nar .byte v)) → OAry Z h' a .byte (vs.set i (.int (nar .byte v))) → OEnds p e below s n0 Q C S T' (mkF m (pc + 1) Ls st)) : OEnds p e below s n0 Q C S T (mkF m pc Ls (.int v :: .int j :: .ref a :: st)) := by
  obtain ⟨⟨hx, hZ, hby, hml, hown, hnm, hrt, hlk⟩, locs, X, eT, N, z0⟩ := H
  have A0 := A
  obtain ⟨c1, A, r1, r2, r3⟩ := A
  have hsz : c1.slots.size = vs.length := by rw [← r1]; simp
  obtain ⟨n1, n2⟩ := nat_idx hj
  have hin : ¬ (j < 0 ∨ c1.slots.size ≤ j.toNatClampNeg) := by rw [n1, hsz]; intro q; rcases q with q | q; exact n2 q; omega
  obtain ⟨T', h', X', e', W, q⟩ := stB X hx hZ eT A hin (g := mkF m pc Ls (.int v :: .int j :: .ref a :: st)) rfl rfl (hb hby hd)
  rw [n1] at X' W
  exact go q (k T' h' ⟨⟨hx, hZ, hby, hml, hown, hnm, hrt, hlk⟩, _, X', e', Fr.one N ge, by rw [W.size]; exact z0⟩ W (A0.wr W (fits_nar_byte v)))
theorem callS (H : OHr p l e R s m args below meth c Z n0 own nm code maxL ret T h ce sl) {y : MethodName} {idx mxL : Nat} {bytes : ByteArray} {rt : Option FieldType} {rm : Room} {Q' : Option Value → Heap → Prop} {ps : List FieldType} {r : Option FieldType} (argsL rest : List Value) (hd : decode code pc = .ok (.invokestatic idx, 3)) (w1 : (Cond.methodLink own idx y).before a0 Z = true) (w2 : (Cond.static y).before a0 Z = true) (w3 : (Cond.initialized y.cls).before a0 Z = true) (w4 : (Cond.code y bytes mxL rt).before a0 Z = true) (hy : y.cls ≠ "java/lang/invoke/MethodHandle" ∧ y.cls ≠ "java/lang/invoke/VarHandle")
    (M : OMet l Z n0 y bytes mxL rt rm argsL.toArray h Q') (hde : parseMethodDescriptor y.desc = some ⟨ps, r⟩) (hlen : argsL.length = ps.length) (hst : st = argsL.reverse ++ rest) (W : Nat) (hW0 : (rest.map fun v => v.category).sum = W) (hfr : rm.frames + 1 ≤ R.frames) (hW : W + (mxL + 11) + rm.locals ≤ R.locals) (hc : ce + rm.cells ≤ R.cells) (hs : sl + rm.slots ≤ R.slots) (hL : Ls.size = maxL)
    (k : ∀ T' v h', OHr p l e R s m args below meth c Z n0 own nm code maxL ret T' h' (ce + rm.cells) (sl + rm.slots) → h.size ≤ h'.size → Q' v h' → OEnds p e below s n0 Q C S T' (mkF m (pc + 3) Ls (v.toList ++ rest))) : OEnds p e below s n0 Q C S T (mkF m pc Ls st) := by
  obtain ⟨⟨hx, hZ, hby, hml, hown, hnm, hrt, hlk⟩, locs, X, eT, N, z0⟩ := H
  obtain ⟨v, _, ⟨T1, L1, k1, n1⟩, -, X1, ⟨Lc, ⟨f1, hle, hQ1⟩, l1, y1, z1⟩, q⟩ := Jvm.LawKit.callS X hx (y := y) hown (mvT hZ w1) (mvT hZ w2) (mvT hZ w3) (mvT hZ w4) hy (backOf (W := W) (Q := fun v h' L => Fr n0 L ∧ h.size ≤ h'.size ∧ Q' v h') (M []) hZ w4 w3 hfr hW) (g := mkF m pc Ls st) rfl (hL.trans hml.symm) (argsL := argsL) (rest := rest) (lenOf hde hlen) hst (by show 2 * 0 + _ ≤ _; rw [hW0]; omega) (hb hby hd) (fun _ _ => ⟨rfl, eT, hc, hs⟩)
  dsimp only [Pt.U, Pt.locs, Pt.cells, Pt.slots] at X1 l1 y1 z1 q hQ1 hle
  subst l1 y1 z1
  exact go q (k T1 v _ ⟨⟨hx, hZ, hby, hml, hown, hnm, hrt, hlk⟩, _, X1, rfl, Fr.app N f1, Nat.le_trans z0 hle⟩ hle hQ1)
theorem callI (H : OHr p l e R s m args below meth c Z n0 own nm code maxL ret T h ce sl) {y : MethodName} {idx mxL : Nat} {bytes : ByteArray} {rm : Room} {Q' : Option Value → Heap → Prop} {ps : List FieldType} {r : Option FieldType} (a : Addr) (argsL rest : List Value) (hd : decode code pc = .ok (.invokespecial idx, 3)) (hy1 : y.name = "<init>") (w1 : (Cond.methodLink own idx y).before a0 Z = true) (w2 : (Cond.instanceMethod y).before a0 Z = true) (w3 : (Cond.initialized y.cls).before a0 Z = true) (w4 : (Cond.code y bytes mxL none).before a0 Z = true) (hy : y.cls ≠ "java/lang/invoke/MethodHandle" ∧ y.cls ≠ "java/lang/invoke/VarHandle")
    (M : OMet l Z n0 y bytes mxL none rm (.ref a :: argsL).toArray h Q') (hde : parseMethodDescriptor y.desc = some ⟨ps, r⟩) (hlen : argsL.length = ps.length) (hst : st = argsL.reverse ++ .ref a :: rest) (W : Nat) (hW0 : (rest.map fun v => v.category).sum = W) (hfr : rm.frames + 1 ≤ R.frames) (hW : W + (mxL + 11) + rm.locals ≤ R.locals) (hc : ce + rm.cells ≤ R.cells) (hs : sl + rm.slots ≤ R.slots) (hL : Ls.size = maxL)
    (k : ∀ T' v h', OHr p l e R s m args below meth c Z n0 own nm code maxL ret T' h' (ce + rm.cells) (sl + rm.slots) → h.size ≤ h'.size → Q' v h' → OEnds p e below s n0 Q C S T' (mkF m (pc + 3) Ls (v.toList ++ rest))) : OEnds p e below s n0 Q C S T (mkF m pc Ls st) := by
  obtain ⟨⟨hx, hZ, hby, hml, hown, hnm, hrt, hlk⟩, locs, X, eT, N, z0⟩ := H
  obtain ⟨v, _, ⟨T1, L1, k1, n1⟩, -, X1, ⟨Lc, ⟨f1, hle, hQ1⟩, l1, y1, z1⟩, q⟩ := X.specialBack hx (y := y) hy1 hown (mvT hZ w1) (mvT hZ w2) (mvT hZ w4) hy (backOf (W := W) (Q := fun v h' L => Fr n0 L ∧ h.size ≤ h'.size ∧ Q' v h') (M []) hZ w4 w3 hfr hW) (g := mkF m pc Ls st) rfl (hL.trans hml.symm) (Steps.refl _) (a := a) (argsL := argsL) (rest := rest) (lenOf hde hlen) hst (by show 2 * 0 + _ ≤ _; rw [hW0]; omega) (hb hby hd) (fun _ _ => ⟨rfl, eT, hc, hs⟩)
  dsimp only [Pt.U, Pt.locs, Pt.cells, Pt.slots] at X1 l1 y1 z1 q hQ1 hle
  subst l1 y1 z1
  exact go1 q (k T1 v _ ⟨⟨hx, hZ, hby, hml, hown, hnm, hrt, hlk⟩, _, X1, rfl, Fr.app N f1, Nat.le_trans z0 hle⟩ hle hQ1)
theorem callV (H : OHr p l e R s m args below meth c Z n0 own nm code maxL ret T h ce sl) {y z : MethodName} {CC : String} {idx mxL : Nat} {bytes : ByteArray} {rt : Option FieldType} {rm : Room} {Q' : Option Value → Heap → Prop} {ps : List FieldType} {r : Option FieldType} (a : Addr) (argsL rest : List Value) (hd : decode code pc = .ok (.invokevirtual idx, 3)) (w1 : (Cond.methodLink own idx y).before a0 Z = true) (w2 : (Cond.declares y).before a0 Z = true) (nf : NotFace s y) (w5 : (Cond.selects CC y z).before a0 Z = true) (w6 : (Cond.instanceMethod z).before a0 Z = true) (w3 : (Cond.initialized z.cls).before a0 Z = true) (w4 : (Cond.code z bytes mxL rt).before a0 Z = true) (hy : y.cls ≠ "java/lang/invoke/MethodHandle" ∧ y.cls ≠ "java/lang/invoke/VarHandle") (E : Exa Z h a CC)
    (M : OMet l Z n0 z bytes mxL rt rm (.ref a :: argsL).toArray h Q') (hde : parseMethodDescriptor y.desc = some ⟨ps, r⟩) (hlen : argsL.length = ps.length) (hst : st = argsL.reverse ++ .ref a :: rest) (W : Nat) (hW0 : (rest.map fun v => v.category).sum = W) (hfr : rm.frames + 1 ≤ R.frames) (hW : W + (mxL + 11) + rm.locals ≤ R.locals) (hc : ce + rm.cells ≤ R.cells) (hs : sl + rm.slots ≤ R.slots) (hL : Ls.size = maxL)
    (k : ∀ T' v h', OHr p l e R s m args below meth c Z n0 own nm code maxL ret T' h' (ce + rm.cells) (sl + rm.slots) → h.size ≤ h'.size → Q' v h' → OEnds p e below s n0 Q C S T' (mkF m (pc + 3) Ls (v.toList ++ rest))) : OEnds p e below s n0 Q C S T (mkF m pc Ls st) := by
  obtain ⟨⟨hx, hZ, hby, hml, hown, hnm, hrt, hlk⟩, locs, X, eT, N, z0⟩ := H
  obtain ⟨cq, kq, qa, qb, qc⟩ := isOf hZ eT E
  obtain ⟨v, _, ⟨T1, L1, k1, n1⟩, -, X1, ⟨Lc, ⟨f1, hle, hQ1⟩, l1, y1, z1⟩, q⟩ := X.virtualBack hx (y := y) (z := z) hown (mvT hZ w1) (mvT hZ w2) nf (mvT hZ w5) (mvT hZ w6) hy (backOf (W := W) (Q := fun v h' L => Fr n0 L ∧ h.size ≤ h'.size ∧ Q' v h') (M []) hZ w4 w3 hfr hW) qa qc (g := mkF m pc Ls st) rfl (hL.trans hml.symm) (Steps.refl _) (argsL := argsL) (rest := rest) (lenOf hde hlen) hst (by show 2 * 0 + _ ≤ _; rw [hW0]; omega) (hb hby hd) (fun _ _ => ⟨rfl, eT, hc, hs⟩)
  dsimp only [Pt.U, Pt.locs, Pt.cells, Pt.slots] at X1 l1 y1 z1 q hQ1 hle
  subst l1 y1 z1
  exact go1 q (k T1 v _ ⟨⟨hx, hZ, hby, hml, hown, hnm, hrt, hlk⟩, _, X1, rfl, Fr.app N f1, Nat.le_trans z0 hle⟩ hle hQ1)
theorem callO (H : OHr p l e R s m args below meth c Z n0 own nm code maxL ret T h ce sl) {idx : Nat} {a : Addr} (hd : decode code pc = .ok (.invokespecial idx, 3)) (w1 : (Cond.methodLink own idx Lib.objectInit).before a0 Z = true) (w2 : (Cond.instanceMethod Lib.objectInit).before a0 Z = true) (w3 : (Cond.code Lib.objectInit ⟨#[0xb1]⟩ 1 none).before a0 Z = true) (W : Nat) (hW0 : (st.map fun v => v.category).sum = W) (hfr : 1 ≤ R.frames) (hW : W + 12 ≤ R.locals) (hL : Ls.size = maxL) (k : ∀ T', OHr p l e R s m args below meth c Z n0 own nm code maxL ret T' h ce sl → OEnds p e below s n0 Q C S T' (mkF m (pc + 3) Ls st)) : OEnds p e below s n0 Q C S T (mkF m pc Ls (.ref a :: st)) := by
  obtain ⟨⟨hx, hZ, hby, hml, hown, hnm, hrt, hlk⟩, locs, X, eT, N, z0⟩ := H
  obtain ⟨T', X', e', q⟩ := initO X hx hZ hown w1 w2 w3 eT (g := mkF m pc Ls (.ref a :: st)) rfl (hL.trans hml.symm) rfl (hb hby hd) hfr (W := W) (by show 2 * 0 + _ ≤ _; rw [hW0]; omega) hW
  exact go q (k T' ⟨⟨hx, hZ, hby, hml, hown, hnm, hrt, hlk⟩, locs, X', e', N, z0⟩)
theorem OHr.nf (H : OHr p l e R s m args below meth c Z n0 own nm code maxL ret T h ce sl) {y : MethodName} {CC : String} (w : (Cond.selects CC y y).before a0 Z = true) : NotFace s y := by
  obtain ⟨⟨hx, hZ, hby, hml, hown, hnm, hrt, hlk⟩, locs, X, eT, N, z0⟩ := H
  exact notFace_of_selects (args := #[]) (mvT hZ w)
theorem clone_ (H : OHr p l e R s m args below meth c Z n0 own nm code maxL ret T h ce sl) {ad : String} {idx : Nat} {a : Addr} {ty : FieldType} {vs : List Value} (cap : Nat) (hd : decode code pc = .ok (.invokevirtual idx, 3)) (w1 : (Cond.methodLink own idx ⟨ad, "clone", "()Ljava/lang/Object;"⟩).before a0 Z = true) (w2 : (Cond.sameMethod ad "java/lang/Object" "clone" "()Ljava/lang/Object;").before a0 Z = true) (w3 : (Cond.native ⟨"java/lang/Object", "clone", "()Ljava/lang/Object;"⟩).before a0 Z = true)
    (w4 : (Cond.instanceMethod ⟨"java/lang/Object", "clone", "()Ljava/lang/Object;"⟩).before a0 Z = true) (w5 : (Cond.selects ad ⟨ad, "clone", "()Ljava/lang/Object;"⟩ ⟨"java/lang/Object", "clone", "()Ljava/lang/Object;"⟩).before a0 Z = true) (w6 : (Cond.castable ad "java/lang/Cloneable").before a0 Z = true) (A : OAry Z h a ty vs) (E : Exa Z h a ad) (W : Nat) (hW0 : (st.map fun v => v.category).sum = W) (hfr : 1 ≤ R.frames) (hW : W + 14 ≤ R.locals) (hcap : vs.length ≤ cap) (hc : ce + 1 ≤ R.cells) (hs : sl + cap ≤ R.slots) (hL : Ls.size = maxL)
    (k : ∀ T' h' b, b = h.size → n0 ≤ b → OHr p l e R s m args below meth c Z n0 own nm code maxL ret T' h' (ce + 1) (sl + cap) → Ext h h' → OAry Z h' b ty vs → Exa Z h' b ad → OEnds p e below s n0 Q C S T' (mkF m (pc + 3) Ls (.ref b :: st))) : OEnds p e below s n0 Q C S T (mkF m pc Ls (.ref a :: st)) := by
  obtain ⟨⟨hx, hZ, hby, hml, hown, hnm, hrt, hlk⟩, locs, X, eT, N, z0⟩ := H
  obtain ⟨c1, A, r1, r2, r3⟩ := A
  have hsz : c1.slots.size = vs.length := by rw [← r1]; simp
  have hF : FitC Z c1 := fitC_of A (fun i hi v hv => r3 v (by rw [← r1]; rw [← Array.getElem?_toList] at hv; exact List.mem_of_getElem? hv))
  obtain ⟨T', h', X', e', E', A', B', q⟩ := cloneA X hx hZ hown w1 w2 w3 w4 w5 w6 eT A E hF (g := mkF m pc Ls (.ref a :: st)) rfl (hL.trans hml.symm) rfl (hb hby hd) hfr (W := W) (by show 2 * 0 + _ ≤ _; rw [hW0]; omega) hW (cap := cap) (by rw [hsz]; exact hcap) hc hs
  exact go q (k T' h' _ rfl z0 ⟨⟨hx, hZ, hby, hml, hown, hnm, hrt, hlk⟩, locs, X', e', N, Nat.le_trans z0 E'.1⟩ E' ⟨_, A', r1, r2, r3⟩ B')
theorem checkcast (H : OHr p l e R s m args below meth c Z n0 own nm code maxL ret T h ce sl) {KK : String} {idx : Nat} {a : Addr} (hd : decode code pc = .ok (.checkcast idx, 3)) (w : (Cond.classLink own idx KK).before a0 Z = true) (F : Ins Z h a KK true) (k : ∀ T', OHr p l e R s m args below meth c Z n0 own nm code maxL ret T' h ce sl → OEnds p e below s n0 Q C S T' (mkF m (pc + 3) Ls (.ref a :: st))) : OEnds p e below s n0 Q C S T (mkF m pc Ls (.ref a :: st)) := by
  obtain ⟨⟨hx, hZ, hby, hml, hown, hnm, hrt, hlk⟩, locs, X, eT, N, z0⟩ := H
  obtain ⟨T', X', e', q⟩ := castY X hx hZ hown w eT F (g := mkF m pc Ls (.ref a :: st)) rfl rfl (hb hby hd)
  exact go q (k T' ⟨⟨hx, hZ, hby, hml, hown, hnm, hrt, hlk⟩, locs, X', e', N, z0⟩)
end Go
end Jvm.Own
namespace Jvm.Pilot.@@N@@
open Jvm Jvm.ClassFile Sem Op Lib Jvm.Free Jvm.Stand Jvm.LawKit Jvm.RoadKit Bundle Jvm.Pilot.@@N@@.Jvm.D
open Jvm.Own (OHr OEnds OMet OAry)

theorem own_rem (x d : Int32) (hd : 0 < d.toInt) : 0 ≤ ((x &&& 2147483647) % d).toInt ∧ ((x &&& 2147483647) % d).toInt < d.toInt := by
  have h0 : 0 ≤ (x &&& 2147483647).toInt := (c_and x 2147483647 (by decide)).1
  have h1 := (c_iremV (x &&& 2147483647) d).1 h0 hd
  exact ⟨h1.1, h1.2.1⟩
theorem own_ne {x y : Int32} (h : x.toInt ≠ y.toInt) : ¬ x = y := fun e => h (by rw [e])
theorem own_eq {x y : Int32} (h : x.toInt = y.toInt) : x = y := Int32.toInt_inj.mp h
theorem own_lt {x y : Int32} : x < y ↔ x.toInt < y.toInt := Int32.lt_iff_toInt_lt


theorem own_cg (x y : Int64) : 0 < XT.cmpL x y ↔ y < x := lw_gt x y
theorem own_cl (x y : Int64) : XT.cmpL x y < 0 ↔ x < y := lw_lt x y
theorem own_ce (x y : Int64) : XT.cmpL x y = 0 ↔ x = y := lw_eq x y
theorem own_ltL {x y : Int64} : x < y ↔ x.toInt < y.toInt := Int64.lt_iff_toInt_lt
theorem own_eqL {x y : Int64} (h : x.toInt = y.toInt) : x = y := Int64.toInt_inj.mp h


theorem own_map {cs : List Int32} {i : Nat} (h : i < cs.length) : (cs.map Value.int)[i]? = some (.int (cs.getD i 0)) := by
  simp [List.getElem?_map, List.getD_eq_getElem?_getD, List.getElem?_eq_getElem h]
theorem own_fill {L : List Value} {d v : Value} {i : Nat} (h : L[i]? = some v) : (L.take i ++ List.replicate (L.length - i) d).set i v = L.take (i + 1) ++ List.replicate (L.length - (i + 1)) d := by
  have hi : i < L.length := by rcases Nat.lt_or_ge i L.length with q | q; exact q; rw [List.getElem?_eq_none q] at h; cases h
  have e : L.length - i = (L.length - (i + 1)) + 1 := by omega
  rw [e, List.replicate_succ, List.set_append_right _ _ (by simp; omega)]
  have e2 : i - (L.take i).length = 0 := by simp; omega
  rw [e2, List.set_cons_zero, List.take_add_one, h]
  simp
theorem own_ofNat {i : Nat} (h : i < 2147483648) : (Int32.ofNat i).toInt = (i : Int) := Int32.toInt_ofNat_of_lt h
theorem own_one (i : Nat) : Int32.ofNat i + (1 : Int32) = Int32.ofNat (i + 1) := (Int32.ofNat_add i 1).symm


def own_f (cs : List Int32) (st j : Nat) : Int64 := ((cs.getD (st + j) 0) &&& (255 : Int32)).toInt64
def own_gr (f : Nat → Int64) : Nat → Int64 → Int64
  | 0, acc => acc
  | k + 1, acc => own_gr f k ((acc <<< (((8 : Int32)).toInt64 &&& 63)) ||| f k)
def own_b (cs : List Int32) (st : Nat) (q j : Int32) (jn : Nat) : Int64 := if j < q then own_f cs st jn <<< (((8 : Int32) * j).toInt64 &&& 63) else 0
theorem own_sh (x : Int64) (k : Nat) (y : Int64) (hy : y.toBitVec = BitVec.ofNat 64 k) (hk : k < 64) : (x <<< y).toBitVec = x.toBitVec <<< k := by
  have e : (x <<< y).toBitVec = x.toBitVec <<< (y.toBitVec.smod 64) := rfl
  rw [e, hy, BitVec.shiftLeft_eq']
  congr 1
  exact smod64 k hk
theorem own_s8 (x : Int64) : (x <<< (((8 : Int32)).toInt64 &&& 63)).toBitVec = x.toBitVec <<< 8 := own_sh x 8 _ (by decide) (by decide)
def own_or (f : Nat → BitVec 64) : Nat → BitVec 64
  | 0 => 0#64
  | k + 1 => own_or f k ||| (f k <<< (8 * k))
theorem own_gr_eq (f : Nat → Int64) : ∀ (k : Nat) (acc : Int64), (own_gr f k acc).toBitVec = (acc.toBitVec <<< (8 * k)) ||| own_or (fun j => (f j).toBitVec) k
  | 0, acc => by simp [own_gr, own_or]
  | k + 1, acc => by
    rw [own_gr, own_gr_eq f k, Int64.toBitVec_or, own_s8, BitVec.shiftLeft_or_distrib, ← BitVec.shiftLeft_add, own_or, BitVec.or_assoc, BitVec.or_comm ((f k).toBitVec <<< (8 * k))]
    have e : 8 + 8 * k = 8 * (k + 1) := by omega
    rw [e]
theorem own_gram (f : Nat → Int64) (q : Nat) (hq : q ≤ 8) (g : Nat → Int64) (hg : ∀ j, j < 8 → (g j).toBitVec = if j < q then (f j).toBitVec <<< (8 * j) else 0#64) :
    own_gr f q 0 = ((((((g 0 ||| g 1) ||| g 2) ||| g 3) ||| g 4) ||| g 5) ||| g 6) ||| g 7 := by
  apply Int64.toBitVec_inj.mp
  rw [own_gr_eq]
  have z : (0 : Int64).toBitVec = 0#64 := rfl
  rw [z, BitVec.zero_shiftLeft, BitVec.zero_or]
  simp only [Int64.toBitVec_or, hg 0 (by decide), hg 1 (by decide), hg 2 (by decide), hg 3 (by decide), hg 4 (by decide), hg 5 (by decide), hg 6 (by decide), hg 7 (by decide)]
  have hcase : q = 0 ∨ q = 1 ∨ q = 2 ∨ q = 3 ∨ q = 4 ∨ q = 5 ∨ q = 6 ∨ q = 7 ∨ q = 8 := by omega
  rcases hcase with rfl | rfl | rfl | rfl | rfl | rfl | rfl | rfl | rfl <;>
    simp only [own_or, Nat.reduceLT, if_true, if_false, BitVec.zero_or, BitVec.or_zero]


theorem own_bb (cs : List Int32) (st : Nat) (q : Int32) (j : Nat) (hj : j < 8) (hq : 0 ≤ q.toInt ∧ q.toInt < 9) : (own_b cs st q (Int32.ofNat j) j).toBitVec = if j < q.toInt.toNat then (own_f cs st j).toBitVec <<< (8 * j) else 0#64 := by
  have hlt : (Int32.ofNat j < q) ↔ j < q.toInt.toNat := by rw [own_lt, own_ofNat (by omega)]; omega
  unfold own_b
  by_cases h : j < q.toInt.toNat
  · rw [if_pos (hlt.mpr h), if_pos h]
    have hc : j = 0 ∨ j = 1 ∨ j = 2 ∨ j = 3 ∨ j = 4 ∨ j = 5 ∨ j = 6 ∨ j = 7 := by omega
    rcases hc with rfl | rfl | rfl | rfl | rfl | rfl | rfl | rfl <;> exact own_sh _ _ _ (by decide) (by decide)
  · rw [if_neg (fun q => h (hlt.mp q)), if_neg h]
    rfl


theorem own_m1 : (-1 : Int32).toInt = -1 := by decide
theorem own_dec (i : Int32) (k : Int) (h : i.toInt = k) (hk : -2147483648 < k) : (i + (-1 : Int32)).toInt = k - 1 := by
  have a1 := c_iadd i (-1)
  have r := rng32 (i + (-1))
  have r2 := rng32 i
  rw [own_m1] at a1
  omega

theorem d1_0 : decode prog_30_method_17_code 0 = .ok (.lconst 0, 1) := by decide +kernel
theorem d1_1 : decode prog_30_method_17_code 1 = .ok (.lstore_n 3, 1) := by decide +kernel
theorem d1_2 : decode prog_30_method_17_code 2 = .ok (.iload_n 1, 1) := by decide +kernel
theorem d1_3 : decode prog_30_method_17_code 3 = .ok (.istore 5, 2) := by decide +kernel
theorem d1_5 : decode prog_30_method_17_code 5 = .ok (.iload 5, 2) := by decide +kernel
theorem d1_7 : decode prog_30_method_17_code 7 = .ok (.iload_n 1, 1) := by decide +kernel
theorem d1_8 : decode prog_30_method_17_code 8 = .ok (.iload_n 2, 1) := by decide +kernel
theorem d1_9 : decode prog_30_method_17_code 9 = .ok (.isub, 1) := by decide +kernel
theorem d1_10 : decode prog_30_method_17_code 10 = .ok (.if_icmp .le 24, 3) := by decide +kernel
theorem d1_13 : decode prog_30_method_17_code 13 = .ok (.lload_n 3, 1) := by decide +kernel
theorem d1_14 : decode prog_30_method_17_code 14 = .ok (.bipush 8, 2) := by decide +kernel
theorem d1_16 : decode prog_30_method_17_code 16 = .ok (.lshl, 1) := by decide +kernel
theorem d1_17 : decode prog_30_method_17_code 17 = .ok (.aload_n 0, 1) := by decide +kernel
theorem d1_18 : decode prog_30_method_17_code 18 = .ok (.iload 5, 2) := by decide +kernel
theorem d1_20 : decode prog_30_method_17_code 20 = .ok (.caload, 1) := by decide +kernel
theorem d1_21 : decode prog_30_method_17_code 21 = .ok (.sipush 255, 3) := by decide +kernel
theorem d1_24 : decode prog_30_method_17_code 24 = .ok (.iand, 1) := by decide +kernel
theorem d1_25 : decode prog_30_method_17_code 25 = .ok (.i2l, 1) := by decide +kernel
theorem d1_26 : decode prog_30_method_17_code 26 = .ok (.lor, 1) := by decide +kernel
theorem d1_27 : decode prog_30_method_17_code 27 = .ok (.lstore_n 3, 1) := by decide +kernel
theorem d1_28 : decode prog_30_method_17_code 28 = .ok (.iinc 5 (-1), 3) := by decide +kernel
theorem d1_31 : decode prog_30_method_17_code 31 = .ok (.goto (-26), 3) := by decide +kernel
theorem d1_34 : decode prog_30_method_17_code 34 = .ok (.lload_n 3, 1) := by decide +kernel
theorem d1_35 : decode prog_30_method_17_code 35 = .ok (.lreturn, 1) := by decide +kernel
theorem d2_0 : decode method_2_code 0 = .ok (.iload_n 3, 1) := by decide +kernel
theorem d2_1 : decode method_2_code 1 = .ok (.iload_n 2, 1) := by decide +kernel
theorem d2_2 : decode method_2_code 2 = .ok (.if_icmp .ge 19, 3) := by decide +kernel
theorem d2_5 : decode method_2_code 5 = .ok (.aload_n 0, 1) := by decide +kernel
theorem d2_6 : decode method_2_code 6 = .ok (.iload_n 1, 1) := by decide +kernel
theorem d2_7 : decode method_2_code 7 = .ok (.iload_n 3, 1) := by decide +kernel
theorem d2_8 : decode method_2_code 8 = .ok (.iadd, 1) := by decide +kernel
theorem d2_9 : decode method_2_code 9 = .ok (.caload, 1) := by decide +kernel
theorem d2_10 : decode method_2_code 10 = .ok (.sipush 255, 3) := by decide +kernel
theorem d2_13 : decode method_2_code 13 = .ok (.iand, 1) := by decide +kernel
theorem d2_14 : decode method_2_code 14 = .ok (.i2l, 1) := by decide +kernel
theorem d2_15 : decode method_2_code 15 = .ok (.bipush 8, 2) := by decide +kernel
theorem d2_17 : decode method_2_code 17 = .ok (.iload_n 3, 1) := by decide +kernel
theorem d2_18 : decode method_2_code 18 = .ok (.imul, 1) := by decide +kernel
theorem d2_19 : decode method_2_code 19 = .ok (.lshl, 1) := by decide +kernel
theorem d2_20 : decode method_2_code 20 = .ok (.lreturn, 1) := by decide +kernel
theorem d2_21 : decode method_2_code 21 = .ok (.lconst 0, 1) := by decide +kernel
theorem d2_22 : decode method_2_code 22 = .ok (.lreturn, 1) := by decide +kernel
theorem pn_rm_gram : plainFor (⟨"com/example/firecrest/firecrest/FilteredCursor", "gram", "([CII)J"⟩ : MethodName) = true := by first | exact plainFor_of_name (by first | (simp [plainName, overriddenIn]; done) | decide +kernel) | decide +kernel
theorem ef_rm_gram (a : Nat) (en : Int32) (q : Int32) (m : MethodId) : entryFrame m #[(.ref a), (.int en), (.int q)] 6 = mkF m 0 #[.val (.ref a), .val (.int en), .val (.int q), .unset, .unset, .unset] [] := by first | (simp [entryFrame, mkF, argsToLocals, Value.category]; done) | rfl
set_option maxRecDepth 65536 in
set_option maxHeartbeats 40000000 in
theorem rm_gram (l : Launch) (Z : State) (a0 : Array Value) (hw : ∀ d ∈ tables_1, d.before a0 Z = true) (a : Nat) (en : Int32) (q : Int32) (h0 : Heap) (n0 : Nat) (Z0 : n0 ≤ h0.size) (cs : List Int32) (A : OAry Z h0 a .char (cs.map Value.int)) (st qn : Nat) (hq : q.toInt = (qn : Int)) (he : en.toInt = (st : Int) + qn - 1) (hle : st + qn ≤ cs.length) (h8 : cs.length ≤ 8) :
    OMet l Z n0 (⟨"com/example/firecrest/firecrest/FilteredCursor", "gram", "([CII)J"⟩ : MethodName) prog_30_method_17_code 6 (some .long) ({ frames := 0, cells := 0, slots := 0, locals := 0 } : Room) #[(.ref a), (.int en), (.int q)] h0 (fun v h => v = some (.long (own_gr (own_f cs st) qn 0)) ∧ h = h0) := by
  refine OMet.of pn_rm_gram Z0 (ef_rm_gram a en q) ?_
  intro p e s m below meth c T H
  refine Own.lconst H (pc := 0) (0) d1_0 rfl ?_
  refine Own.lstore_n H (pc := 1) #[.val (.ref a), .val (.int en), .val (.int q), .val (.long (0 : Int64)), .second, .unset] d1_1 rfl ?_
  refine Own.iload_n H (pc := 2) d1_2 rfl ?_
  refine Own.istore H (pc := 3) #[.val (.ref a), .val (.int en), .val (.int q), .val (.long (0 : Int64)), .second, .val (.int en)] d1_3 rfl ?_
  have hlo : (en - q).toInt = (st : Int) - 1 := by
    have a1 := c_isub en q
    have r := rng32 (en - q)
    omega
  have loop : ∀ (k : Nat) (i : Int32) (acc : Int64) (T : State), i.toInt = (st : Int) + k - 1 → k ≤ qn → OHr p l e ({ frames := 0, cells := 0, slots := 0, locals := 0 } : Room) s m #[(.ref a), (.int en), (.int q)] below meth c Z n0 "com/example/firecrest/firecrest/FilteredCursor" "gram" prog_30_method_17_code 6 (some .long) T h0 0 0 → own_gr (own_f cs st) k acc = own_gr (own_f cs st) qn 0 → OEnds p e below s n0 (fun v h => v = some (.long (own_gr (own_f cs st) qn 0)) ∧ h = h0) ({ frames := 0, cells := 0, slots := 0, locals := 0 } : Room).cells ({ frames := 0, cells := 0, slots := 0, locals := 0 } : Room).slots T (mkF m 5 #[.val (.ref a), .val (.int en), .val (.int q), .val (.long acc), .second, .val (.int i)] []) := by
    intro k
    induction k with
    | zero =>
      intro i acc T hi hk H hr
      refine Own.iload H (pc := 5) d1_5 rfl ?_
      refine Own.iload_n H (pc := 7) d1_7 rfl ?_
      refine Own.iload_n H (pc := 8) d1_8 rfl ?_
      refine Own.isub H (pc := 9) d1_9 ?_
      refine Own.icmp_le H (pc := 10) 34 d1_10 (by decide) (by decide) (fun _ => ?_) (fun hX => absurd hX (by rw [own_lt, hlo, hi]; omega))
      refine Own.lload_n H (pc := 34) d1_34 rfl ?_
      exact Own.ret_long H (pc := 35) d1_35 rfl (by decide) (by decide) (⟨by rw [← hr]; rfl, rfl⟩)
    | succ k ih =>
      intro i acc T hi hk H hr
      refine Own.iload H (pc := 5) d1_5 rfl ?_
      refine Own.iload_n H (pc := 7) d1_7 rfl ?_
      refine Own.iload_n H (pc := 8) d1_8 rfl ?_
      refine Own.isub H (pc := 9) d1_9 ?_
      refine Own.icmp_le H (pc := 10) 34 d1_10 (by decide) (by decide) (fun hX => absurd (by rw [own_lt, hlo, hi]; omega) hX) (fun _ => ?_)
      refine Own.lload_n H (pc := 13) d1_13 rfl ?_
      refine Own.bipush H (pc := 14) (8) d1_14 rfl ?_
      refine Own.lshl H (pc := 16) d1_16 ?_
      refine Own.aload_n H (pc := 17) d1_17 rfl rfl ?_
      refine Own.iload H (pc := 18) d1_18 rfl ?_
      refine Own.caload H (pc := 20) (v := (cs.getD (st + k) 0)) (st + k) d1_20 A (by omega) (own_map (by omega)) ?_
      refine Own.sipush H (pc := 21) (255) d1_21 rfl ?_
      refine Own.iand H (pc := 24) d1_24 ?_
      refine Own.i2l H (pc := 25) d1_25 ?_
      refine Own.lor H (pc := 26) d1_26 ?_
      refine Own.lstore_n H (pc := 27) #[.val (.ref a), .val (.int en), .val (.int q), .val (.long ((acc <<< (((8 : Int32)).toInt64 &&& 63)) ||| (((cs.getD (st + k) 0) &&& (255 : Int32))).toInt64)), .second, .val (.int i)] d1_27 rfl ?_
      refine Own.iinc H (pc := 28) (-1) #[.val (.ref a), .val (.int en), .val (.int q), .val (.long ((acc <<< (((8 : Int32)).toInt64 &&& 63)) ||| (((cs.getD (st + k) 0) &&& (255 : Int32))).toInt64)), .second, .val (.int (i + (-1 : Int32)))] d1_28 rfl rfl rfl ?_
      refine Own.goto H (pc := 31) 5 d1_31 (by decide) (by decide) ?_
      exact ih _ _ _ (by rw [own_dec i _ hi (by omega)]; omega) (by omega) H hr
  exact loop qn _ _ _ he (Nat.le_refl _) H rfl
theorem pn_rm_b : plainFor (⟨"com/example/firecrest/firecrest/FilteredCursorGramPinLaw", "b", "([CIII)J"⟩ : MethodName) = true := by first | exact plainFor_of_name (by first | (simp [plainName, overriddenIn]; done) | decide +kernel) | decide +kernel
theorem ef_rm_b (a : Nat) (s0 : Int32) (q : Int32) (j : Int32) (m : MethodId) : entryFrame m #[(.ref a), (.int s0), (.int q), (.int j)] 4 = mkF m 0 #[.val (.ref a), .val (.int s0), .val (.int q), .val (.int j)] [] := by first | (simp [entryFrame, mkF, argsToLocals, Value.category]; done) | rfl
set_option maxRecDepth 65536 in
set_option maxHeartbeats 40000000 in
theorem rm_b (l : Launch) (Z : State) (a0 : Array Value) (hw : ∀ d ∈ tables_1, d.before a0 Z = true) (a : Nat) (s0 : Int32) (q : Int32) (j : Int32) (h0 : Heap) (n0 : Nat) (Z0 : n0 ≤ h0.size) (cs : List Int32) (A : OAry Z h0 a .char (cs.map Value.int)) (st qn jn : Nat) (hs : s0.toInt = (st : Int)) (hq : q.toInt = (qn : Int)) (hj : j.toInt = (jn : Int)) (hle : st + qn ≤ cs.length) (h8 : cs.length ≤ 8) :
    OMet l Z n0 (⟨"com/example/firecrest/firecrest/FilteredCursorGramPinLaw", "b", "([CIII)J"⟩ : MethodName) method_2_code 4 (some .long) ({ frames := 0, cells := 0, slots := 0, locals := 0 } : Room) #[(.ref a), (.int s0), (.int q), (.int j)] h0 (fun v h => v = some (.long (own_b cs st q j jn)) ∧ h = h0) := by
  refine OMet.of pn_rm_b Z0 (ef_rm_b a s0 q j) ?_
  intro p e s m below meth c T H
  refine Own.iload_n H (pc := 0) d2_0 rfl ?_
  refine Own.iload_n H (pc := 1) d2_1 rfl ?_
  refine Own.icmp_ge H (pc := 2) 21 d2_2 (by decide) (by decide) (fun hc => ?_) (fun hc => ?_)
  · refine Own.lconst H (pc := 21) (0) d2_21 rfl ?_
    exact Own.ret_long H (pc := 22) d2_22 rfl (by decide) (by decide) (⟨by simp [own_b, hc], rfl⟩)
  · refine Own.aload_n H (pc := 5) d2_5 rfl rfl ?_
    refine Own.iload_n H (pc := 6) d2_6 rfl ?_
    refine Own.iload_n H (pc := 7) d2_7 rfl ?_
    refine Own.iadd H (pc := 8) d2_8 ?_
    have hc' := own_lt.mp hc
    refine Own.caload H (pc := 9) (v := (cs.getD (st + jn) 0)) (st + jn) d2_9 A (by have a1 := c_iadd s0 j; have r := rng32 (s0 + j); omega) (own_map (by omega)) ?_
    refine Own.sipush H (pc := 10) (255) d2_10 rfl ?_
    refine Own.iand H (pc := 13) d2_13 ?_
    refine Own.i2l H (pc := 14) d2_14 ?_
    refine Own.bipush H (pc := 15) (8) d2_15 rfl ?_
    refine Own.iload_n H (pc := 17) d2_17 rfl ?_
    refine Own.imul H (pc := 18) d2_18 ?_
    refine Own.lshl H (pc := 19) d2_19 ?_
    exact Own.ret_long H (pc := 20) d2_20 rfl (by decide) (by decide) (⟨by simp [own_b, hc, own_f], rfl⟩)
theorem pn_rm_law : plainFor x = true := by first | exact plainFor_of_name (by first | (simp [plainName, overriddenIn]; done) | decide +kernel) | decide +kernel
theorem ef_rm_law (p0 : Int32) (p1 : Int32) (p2 : Int32) (p3 : Int32) (p4 : Int32) (p5 : Int32) (m : MethodId) : entryFrame m #[(.int p0), (.int p1), (.int p2), (.int p3), (.int p4), (.int p5)] maxLocals = mkF m 0 #[.val (.int p0), .val (.int p1), .val (.int p2), .val (.int p3), .val (.int p4), .val (.int p5), .unset, .unset, .unset, .unset, .unset, .unset, .unset, .unset] [] := by first | (simp [entryFrame, mkF, argsToLocals, Value.category, maxLocals]; done) | rfl
set_option maxRecDepth 65536 in
set_option maxHeartbeats 40000000 in
theorem rm_law (l : Launch) (Z : State) (a0 : Array Value) (hw : ∀ d ∈ tables_1, d.before a0 Z = true) (p0 : Int32) (p1 : Int32) (p2 : Int32) (p3 : Int32) (p4 : Int32) (p5 : Int32) (h0 : Heap) (n0 : Nat) (Z0 : n0 ≤ h0.size)  :
    OMet l Z n0 x code maxLocals ret room_1 #[(.int p0), (.int p1), (.int p2), (.int p3), (.int p4), (.int p5)] h0 (fun v h => v = some (.int 1)) := by
  refine OMet.of pn_rm_law Z0 (ef_rm_law p0 p1 p2 p3 p4 p5) ?_
  intro p e s m below meth c T H
  refine Own.bipush H (pc := 0) (8) at_0 rfl ?_
  refine Own.newarray H (pc := 2) (i := 8) 8 at_2 (hw _ (List.mem_of_getElem? (i := 0) rfl)) rfl (by decide) (by decide) (by decide) (by decide) (by decide) (fun T_2 h_3 a eq_a ge_a H_1 Ext_a Ary_a => ?_)
  refine Own.astore H_1 (pc := 4) #[.val (.int p0), .val (.int p1), .val (.int p2), .val (.int p3), .val (.int p4), .val (.int p5), .val (.ref a), .unset, .unset, .unset, .unset, .unset, .unset, .unset] at_4 rfl rfl ?_
  refine Own.aload H_1 (pc := 6) at_6 rfl rfl ?_
  refine Own.iconst H_1 (pc := 8) (0) at_8 rfl ?_
  refine Own.iload_n H_1 (pc := 9) at_9 rfl ?_
  refine Own.i2c H_1 (pc := 10) at_10 ?_
  refine Own.castore H_1 (pc := 11) 0 at_11 Ary_a ge_a rfl (by simp) (fun T_5 h_6 H_4 W_7 A_8 => ?_)
  refine Own.aload H_4 (pc := 12) at_12 rfl rfl ?_
  refine Own.iconst H_4 (pc := 14) (1) at_14 rfl ?_
  refine Own.iload_n H_4 (pc := 15) at_15 rfl ?_
  refine Own.bipush H_4 (pc := 16) (16) at_16 rfl ?_
  refine Own.iushr H_4 (pc := 18) at_18 ?_
  refine Own.i2c H_4 (pc := 19) at_19 ?_
  refine Own.castore H_4 (pc := 20) 1 at_20 A_8 ge_a rfl (by simp) (fun T_10 h_11 H_9 W_12 A_13 => ?_)
  refine Own.aload H_9 (pc := 21) at_21 rfl rfl ?_
  refine Own.iconst H_9 (pc := 23) (2) at_23 rfl ?_
  refine Own.iload_n H_9 (pc := 24) at_24 rfl ?_
  refine Own.i2c H_9 (pc := 25) at_25 ?_
  refine Own.castore H_9 (pc := 26) 2 at_26 A_13 ge_a rfl (by simp) (fun T_15 h_16 H_14 W_17 A_18 => ?_)
  refine Own.aload H_14 (pc := 27) at_27 rfl rfl ?_
  refine Own.iconst H_14 (pc := 29) (3) at_29 rfl ?_
  refine Own.iload_n H_14 (pc := 30) at_30 rfl ?_
  refine Own.bipush H_14 (pc := 31) (16) at_31 rfl ?_
  refine Own.iushr H_14 (pc := 33) at_33 ?_
  refine Own.i2c H_14 (pc := 34) at_34 ?_
  refine Own.castore H_14 (pc := 35) 3 at_35 A_18 ge_a rfl (by simp) (fun T_20 h_21 H_19 W_22 A_23 => ?_)
  refine Own.aload H_19 (pc := 36) at_36 rfl rfl ?_
  refine Own.iconst H_19 (pc := 38) (4) at_38 rfl ?_
  refine Own.iload_n H_19 (pc := 39) at_39 rfl ?_
  refine Own.i2c H_19 (pc := 40) at_40 ?_
  refine Own.castore H_19 (pc := 41) 4 at_41 A_23 ge_a rfl (by simp) (fun T_25 h_26 H_24 W_27 A_28 => ?_)
  refine Own.aload H_24 (pc := 42) at_42 rfl rfl ?_
  refine Own.iconst H_24 (pc := 44) (5) at_44 rfl ?_
  refine Own.iload_n H_24 (pc := 45) at_45 rfl ?_
  refine Own.bipush H_24 (pc := 46) (16) at_46 rfl ?_
  refine Own.iushr H_24 (pc := 48) at_48 ?_
  refine Own.i2c H_24 (pc := 49) at_49 ?_
  refine Own.castore H_24 (pc := 50) 5 at_50 A_28 ge_a rfl (by simp) (fun T_30 h_31 H_29 W_32 A_33 => ?_)
  refine Own.aload H_29 (pc := 51) at_51 rfl rfl ?_
  refine Own.bipush H_29 (pc := 53) (6) at_53 rfl ?_
  refine Own.iload_n H_29 (pc := 55) at_55 rfl ?_
  refine Own.i2c H_29 (pc := 56) at_56 ?_
  refine Own.castore H_29 (pc := 57) 6 at_57 A_33 ge_a rfl (by simp) (fun T_35 h_36 H_34 W_37 A_38 => ?_)
  refine Own.aload H_34 (pc := 58) at_58 rfl rfl ?_
  refine Own.bipush H_34 (pc := 60) (7) at_60 rfl ?_
  refine Own.iload_n H_34 (pc := 62) at_62 rfl ?_
  refine Own.bipush H_34 (pc := 63) (16) at_63 rfl ?_
  refine Own.iushr H_34 (pc := 65) at_65 ?_
  refine Own.i2c H_34 (pc := 66) at_66 ?_
  refine Own.castore H_34 (pc := 67) 7 at_67 A_38 ge_a rfl (by simp) (fun T_40 h_41 H_39 W_42 A_43 => ?_)
  obtain ⟨cs, hcs, B⟩ : ∃ cs : List Int32, cs.length = 8 ∧ OAry Z h_41 a .char (cs.map Value.int) := ⟨[_, _, _, _, _, _, _, _], rfl, A_43⟩
  refine Own.iload H_39 (pc := 68) at_68 rfl ?_
  refine Own.ldc H_39 (pc := 70) at_70 (hw _ (List.mem_of_getElem? (i := 1) rfl)) ?_
  refine Own.iand H_39 (pc := 72) at_72 ?_
  refine Own.bipush H_39 (pc := 73) (9) at_73 rfl ?_
  refine Own.irem H_39 (pc := 75) at_75 (by decide) ?_
  generalize eq0 : ((p4 &&& (2147483647 : Int32)) % (9 : Int32)) = q
  have hq : 0 ≤ q.toInt ∧ q.toInt < 9 := by rw [← eq0]; exact own_rem p4 9 (by decide)
  refine Own.istore H_39 (pc := 76) #[.val (.int p0), .val (.int p1), .val (.int p2), .val (.int p3), .val (.int p4), .val (.int p5), .val (.ref a), .val (.int q), .unset, .unset, .unset, .unset, .unset, .unset] at_76 rfl ?_
  refine Own.iload H_39 (pc := 78) at_78 rfl ?_
  refine Own.ldc H_39 (pc := 80) at_80 (hw _ (List.mem_of_getElem? (i := 1) rfl)) ?_
  refine Own.iand H_39 (pc := 82) at_82 ?_
  refine Own.bipush H_39 (pc := 83) (9) at_83 rfl ?_
  refine Own.iload H_39 (pc := 85) at_85 rfl ?_
  refine Own.isub H_39 (pc := 87) at_87 ?_
  have h9 : ((9 : Int32) - q).toInt = 9 - q.toInt := by
    have a1 := c_isub 9 q
    have r := rng32 ((9 : Int32) - q)
    have e9 : (9 : Int32).toInt = 9 := rfl
    omega
  refine Own.irem H_39 (pc := 88) at_88 (own_ne (by rw [h9]; show _ ≠ (0 : Int); omega)) ?_
  generalize es0 : ((p5 &&& (2147483647 : Int32)) % ((9 : Int32) - q)) = s0
  have hs : 0 ≤ s0.toInt ∧ s0.toInt < ((9 : Int32) - q).toInt := by rw [← es0]; exact own_rem p5 ((9 : Int32) - q) (by omega)
  refine Own.istore H_39 (pc := 89) #[.val (.int p0), .val (.int p1), .val (.int p2), .val (.int p3), .val (.int p4), .val (.int p5), .val (.ref a), .val (.int q), .val (.int s0), .unset, .unset, .unset, .unset, .unset] at_89 rfl ?_
  refine Own.iload H_39 (pc := 91) at_91 rfl ?_
  refine Own.iload H_39 (pc := 93) at_93 rfl ?_
  refine Own.iadd H_39 (pc := 95) at_95 ?_
  refine Own.iconst H_39 (pc := 96) (1) at_96 rfl ?_
  refine Own.isub H_39 (pc := 97) at_97 ?_
  refine Own.istore H_39 (pc := 98) #[.val (.int p0), .val (.int p1), .val (.int p2), .val (.int p3), .val (.int p4), .val (.int p5), .val (.ref a), .val (.int q), .val (.int s0), .val (.int ((s0 + q) - (1 : Int32))), .unset, .unset, .unset, .unset] at_98 rfl ?_
  refine Own.aload H_39 (pc := 100) at_100 rfl rfl ?_
  refine Own.iload H_39 (pc := 102) at_102 rfl ?_
  refine Own.iload H_39 (pc := 104) at_104 rfl ?_
  have he : (((s0 + q) - (1 : Int32))).toInt = (s0.toInt.toNat : Int) + q.toInt.toNat - 1 := by
    have a1 := c_iadd s0 q
    have a2 := c_isub (s0 + q) 1
    have r1 := rng32 (s0 + q)
    have r2 := rng32 ((s0 + q) - 1)
    have e1 : (1 : Int32).toInt = 1 := rfl
    omega
  refine Own.callS H_39 (pc := 106) (y := (⟨"com/example/firecrest/firecrest/FilteredCursor", "gram", "([CII)J"⟩ : MethodName)) [(.ref a), (.int ((s0 + q) - (1 : Int32))), (.int q)] [] at_106 (hw _ (List.mem_of_getElem? (i := 2) rfl)) (hw _ (List.mem_of_getElem? (i := 3) rfl)) (hw _ (List.mem_of_getElem? (i := 4) rfl)) (hw _ (List.mem_of_getElem? (i := 5) rfl)) (by decide) (rm_gram l Z a0 hw a ((s0 + q) - (1 : Int32)) q _ n0 H_39.z0 cs B s0.toInt.toNat q.toInt.toNat (by omega) he (by omega) (by omega)) (r := (some .long)) (ps := [(.array .char), .int, .int]) (by decide) rfl rfl 0 rfl (by decide) (by decide) (by decide) (by decide) rfl (fun T_45 v_47 h_46 H_44 z_48 q_49 => ?_)
  obtain ⟨rfl, rfl⟩ := q_49
  show OEnds _ _ _ _ _ _ _ _ _ (mkF _ 109 #[.val (.int p0), .val (.int p1), .val (.int p2), .val (.int p3), .val (.int p4), .val (.int p5), .val (.ref a), .val (.int q), .val (.int s0), .val (.int ((s0 + q) - (1 : Int32))), .unset, .unset, .unset, .unset] [(.long (own_gr (own_f cs s0.toInt.toNat) q.toInt.toNat 0))])
  generalize egv : (own_gr (own_f cs s0.toInt.toNat) q.toInt.toNat 0) = gv
  refine Own.lstore H_44 (pc := 109) #[.val (.int p0), .val (.int p1), .val (.int p2), .val (.int p3), .val (.int p4), .val (.int p5), .val (.ref a), .val (.int q), .val (.int s0), .val (.int ((s0 + q) - (1 : Int32))), .val (.long gv), .second, .unset, .unset] at_109 rfl ?_
  refine Own.aload H_44 (pc := 111) at_111 rfl rfl ?_
  refine Own.iload H_44 (pc := 113) at_113 rfl ?_
  refine Own.iload H_44 (pc := 115) at_115 rfl ?_
  refine Own.iconst H_44 (pc := 117) (0) at_117 rfl ?_
  refine Own.callS H_44 (pc := 118) (y := (⟨"com/example/firecrest/firecrest/FilteredCursorGramPinLaw", "b", "([CIII)J"⟩ : MethodName)) [(.ref a), (.int s0), (.int q), (.int (0 : Int32))] [] at_118 (hw _ (List.mem_of_getElem? (i := 6) rfl)) (hw _ (List.mem_of_getElem? (i := 7) rfl)) (hw _ (List.mem_of_getElem? (i := 8) rfl)) (hw _ (List.mem_of_getElem? (i := 9) rfl)) (by decide) (rm_b l Z a0 hw a s0 q (0 : Int32) _ n0 H_44.z0 cs B s0.toInt.toNat q.toInt.toNat 0 (by omega) (by omega) rfl (by omega) (by omega)) (r := (some .long)) (ps := [(.array .char), .int, .int, .int]) (by decide) rfl rfl 0 rfl (by decide) (by decide) (by decide) (by decide) rfl (fun T_51 v_53 h_52 H_50 z_54 q_55 => ?_)
  obtain ⟨rfl, rfl⟩ := q_55
  show OEnds _ _ _ _ _ _ _ _ _ (mkF _ 121 #[.val (.int p0), .val (.int p1), .val (.int p2), .val (.int p3), .val (.int p4), .val (.int p5), .val (.ref a), .val (.int q), .val (.int s0), .val (.int ((s0 + q) - (1 : Int32))), .val (.long gv), .second, .unset, .unset] [(.long (own_b cs s0.toInt.toNat q (0 : Int32) 0))])
  refine Own.aload H_50 (pc := 121) at_121 rfl rfl ?_
  refine Own.iload H_50 (pc := 123) at_123 rfl ?_
  refine Own.iload H_50 (pc := 125) at_125 rfl ?_
  refine Own.iconst H_50 (pc := 127) (1) at_127 rfl ?_
  refine Own.callS H_50 (pc := 128) (y := (⟨"com/example/firecrest/firecrest/FilteredCursorGramPinLaw", "b", "([CIII)J"⟩ : MethodName)) [(.ref a), (.int s0), (.int q), (.int (1 : Int32))] [(.long (own_b cs s0.toInt.toNat q (0 : Int32) 0))] at_128 (hw _ (List.mem_of_getElem? (i := 6) rfl)) (hw _ (List.mem_of_getElem? (i := 7) rfl)) (hw _ (List.mem_of_getElem? (i := 8) rfl)) (hw _ (List.mem_of_getElem? (i := 9) rfl)) (by decide) (rm_b l Z a0 hw a s0 q (1 : Int32) _ n0 H_50.z0 cs B s0.toInt.toNat q.toInt.toNat 1 (by omega) (by omega) rfl (by omega) (by omega)) (r := (some .long)) (ps := [(.array .char), .int, .int, .int]) (by decide) rfl rfl 2 rfl (by decide) (by decide) (by decide) (by decide) rfl (fun T_57 v_59 h_58 H_56 z_60 q_61 => ?_)
  obtain ⟨rfl, rfl⟩ := q_61
  show OEnds _ _ _ _ _ _ _ _ _ (mkF _ 131 #[.val (.int p0), .val (.int p1), .val (.int p2), .val (.int p3), .val (.int p4), .val (.int p5), .val (.ref a), .val (.int q), .val (.int s0), .val (.int ((s0 + q) - (1 : Int32))), .val (.long gv), .second, .unset, .unset] [(.long (own_b cs s0.toInt.toNat q (1 : Int32) 1)), (.long (own_b cs s0.toInt.toNat q (0 : Int32) 0))])
  refine Own.lor H_56 (pc := 131) at_131 ?_
  refine Own.aload H_56 (pc := 132) at_132 rfl rfl ?_
  refine Own.iload H_56 (pc := 134) at_134 rfl ?_
  refine Own.iload H_56 (pc := 136) at_136 rfl ?_
  refine Own.iconst H_56 (pc := 138) (2) at_138 rfl ?_
  refine Own.callS H_56 (pc := 139) (y := (⟨"com/example/firecrest/firecrest/FilteredCursorGramPinLaw", "b", "([CIII)J"⟩ : MethodName)) [(.ref a), (.int s0), (.int q), (.int (2 : Int32))] [(.long ((own_b cs s0.toInt.toNat q (0 : Int32) 0) ||| (own_b cs s0.toInt.toNat q (1 : Int32) 1)))] at_139 (hw _ (List.mem_of_getElem? (i := 6) rfl)) (hw _ (List.mem_of_getElem? (i := 7) rfl)) (hw _ (List.mem_of_getElem? (i := 8) rfl)) (hw _ (List.mem_of_getElem? (i := 9) rfl)) (by decide) (rm_b l Z a0 hw a s0 q (2 : Int32) _ n0 H_56.z0 cs B s0.toInt.toNat q.toInt.toNat 2 (by omega) (by omega) rfl (by omega) (by omega)) (r := (some .long)) (ps := [(.array .char), .int, .int, .int]) (by decide) rfl rfl 2 rfl (by decide) (by decide) (by decide) (by decide) rfl (fun T_63 v_65 h_64 H_62 z_66 q_67 => ?_)
  obtain ⟨rfl, rfl⟩ := q_67
  show OEnds _ _ _ _ _ _ _ _ _ (mkF _ 142 #[.val (.int p0), .val (.int p1), .val (.int p2), .val (.int p3), .val (.int p4), .val (.int p5), .val (.ref a), .val (.int q), .val (.int s0), .val (.int ((s0 + q) - (1 : Int32))), .val (.long gv), .second, .unset, .unset] [(.long (own_b cs s0.toInt.toNat q (2 : Int32) 2)), (.long ((own_b cs s0.toInt.toNat q (0 : Int32) 0) ||| (own_b cs s0.toInt.toNat q (1 : Int32) 1)))])
  refine Own.lor H_62 (pc := 142) at_142 ?_
  refine Own.aload H_62 (pc := 143) at_143 rfl rfl ?_
  refine Own.iload H_62 (pc := 145) at_145 rfl ?_
  refine Own.iload H_62 (pc := 147) at_147 rfl ?_
  refine Own.iconst H_62 (pc := 149) (3) at_149 rfl ?_
  refine Own.callS H_62 (pc := 150) (y := (⟨"com/example/firecrest/firecrest/FilteredCursorGramPinLaw", "b", "([CIII)J"⟩ : MethodName)) [(.ref a), (.int s0), (.int q), (.int (3 : Int32))] [(.long (((own_b cs s0.toInt.toNat q (0 : Int32) 0) ||| (own_b cs s0.toInt.toNat q (1 : Int32) 1)) ||| (own_b cs s0.toInt.toNat q (2 : Int32) 2)))] at_150 (hw _ (List.mem_of_getElem? (i := 6) rfl)) (hw _ (List.mem_of_getElem? (i := 7) rfl)) (hw _ (List.mem_of_getElem? (i := 8) rfl)) (hw _ (List.mem_of_getElem? (i := 9) rfl)) (by decide) (rm_b l Z a0 hw a s0 q (3 : Int32) _ n0 H_62.z0 cs B s0.toInt.toNat q.toInt.toNat 3 (by omega) (by omega) rfl (by omega) (by omega)) (r := (some .long)) (ps := [(.array .char), .int, .int, .int]) (by decide) rfl rfl 2 rfl (by decide) (by decide) (by decide) (by decide) rfl (fun T_69 v_71 h_70 H_68 z_72 q_73 => ?_)
  obtain ⟨rfl, rfl⟩ := q_73
  show OEnds _ _ _ _ _ _ _ _ _ (mkF _ 153 #[.val (.int p0), .val (.int p1), .val (.int p2), .val (.int p3), .val (.int p4), .val (.int p5), .val (.ref a), .val (.int q), .val (.int s0), .val (.int ((s0 + q) - (1 : Int32))), .val (.long gv), .second, .unset, .unset] [(.long (own_b cs s0.toInt.toNat q (3 : Int32) 3)), (.long (((own_b cs s0.toInt.toNat q (0 : Int32) 0) ||| (own_b cs s0.toInt.toNat q (1 : Int32) 1)) ||| (own_b cs s0.toInt.toNat q (2 : Int32) 2)))])
  refine Own.lor H_68 (pc := 153) at_153 ?_
  refine Own.aload H_68 (pc := 154) at_154 rfl rfl ?_
  refine Own.iload H_68 (pc := 156) at_156 rfl ?_
  refine Own.iload H_68 (pc := 158) at_158 rfl ?_
  refine Own.iconst H_68 (pc := 160) (4) at_160 rfl ?_
  refine Own.callS H_68 (pc := 161) (y := (⟨"com/example/firecrest/firecrest/FilteredCursorGramPinLaw", "b", "([CIII)J"⟩ : MethodName)) [(.ref a), (.int s0), (.int q), (.int (4 : Int32))] [(.long ((((own_b cs s0.toInt.toNat q (0 : Int32) 0) ||| (own_b cs s0.toInt.toNat q (1 : Int32) 1)) ||| (own_b cs s0.toInt.toNat q (2 : Int32) 2)) ||| (own_b cs s0.toInt.toNat q (3 : Int32) 3)))] at_161 (hw _ (List.mem_of_getElem? (i := 6) rfl)) (hw _ (List.mem_of_getElem? (i := 7) rfl)) (hw _ (List.mem_of_getElem? (i := 8) rfl)) (hw _ (List.mem_of_getElem? (i := 9) rfl)) (by decide) (rm_b l Z a0 hw a s0 q (4 : Int32) _ n0 H_68.z0 cs B s0.toInt.toNat q.toInt.toNat 4 (by omega) (by omega) rfl (by omega) (by omega)) (r := (some .long)) (ps := [(.array .char), .int, .int, .int]) (by decide) rfl rfl 2 rfl (by decide) (by decide) (by decide) (by decide) rfl (fun T_75 v_77 h_76 H_74 z_78 q_79 => ?_)
  obtain ⟨rfl, rfl⟩ := q_79
  show OEnds _ _ _ _ _ _ _ _ _ (mkF _ 164 #[.val (.int p0), .val (.int p1), .val (.int p2), .val (.int p3), .val (.int p4), .val (.int p5), .val (.ref a), .val (.int q), .val (.int s0), .val (.int ((s0 + q) - (1 : Int32))), .val (.long gv), .second, .unset, .unset] [(.long (own_b cs s0.toInt.toNat q (4 : Int32) 4)), (.long ((((own_b cs s0.toInt.toNat q (0 : Int32) 0) ||| (own_b cs s0.toInt.toNat q (1 : Int32) 1)) ||| (own_b cs s0.toInt.toNat q (2 : Int32) 2)) ||| (own_b cs s0.toInt.toNat q (3 : Int32) 3)))])
  refine Own.lor H_74 (pc := 164) at_164 ?_
  refine Own.aload H_74 (pc := 165) at_165 rfl rfl ?_
  refine Own.iload H_74 (pc := 167) at_167 rfl ?_
  refine Own.iload H_74 (pc := 169) at_169 rfl ?_
  refine Own.iconst H_74 (pc := 171) (5) at_171 rfl ?_
  refine Own.callS H_74 (pc := 172) (y := (⟨"com/example/firecrest/firecrest/FilteredCursorGramPinLaw", "b", "([CIII)J"⟩ : MethodName)) [(.ref a), (.int s0), (.int q), (.int (5 : Int32))] [(.long (((((own_b cs s0.toInt.toNat q (0 : Int32) 0) ||| (own_b cs s0.toInt.toNat q (1 : Int32) 1)) ||| (own_b cs s0.toInt.toNat q (2 : Int32) 2)) ||| (own_b cs s0.toInt.toNat q (3 : Int32) 3)) ||| (own_b cs s0.toInt.toNat q (4 : Int32) 4)))] at_172 (hw _ (List.mem_of_getElem? (i := 6) rfl)) (hw _ (List.mem_of_getElem? (i := 7) rfl)) (hw _ (List.mem_of_getElem? (i := 8) rfl)) (hw _ (List.mem_of_getElem? (i := 9) rfl)) (by decide) (rm_b l Z a0 hw a s0 q (5 : Int32) _ n0 H_74.z0 cs B s0.toInt.toNat q.toInt.toNat 5 (by omega) (by omega) rfl (by omega) (by omega)) (r := (some .long)) (ps := [(.array .char), .int, .int, .int]) (by decide) rfl rfl 2 rfl (by decide) (by decide) (by decide) (by decide) rfl (fun T_81 v_83 h_82 H_80 z_84 q_85 => ?_)
  obtain ⟨rfl, rfl⟩ := q_85
  show OEnds _ _ _ _ _ _ _ _ _ (mkF _ 175 #[.val (.int p0), .val (.int p1), .val (.int p2), .val (.int p3), .val (.int p4), .val (.int p5), .val (.ref a), .val (.int q), .val (.int s0), .val (.int ((s0 + q) - (1 : Int32))), .val (.long gv), .second, .unset, .unset] [(.long (own_b cs s0.toInt.toNat q (5 : Int32) 5)), (.long (((((own_b cs s0.toInt.toNat q (0 : Int32) 0) ||| (own_b cs s0.toInt.toNat q (1 : Int32) 1)) ||| (own_b cs s0.toInt.toNat q (2 : Int32) 2)) ||| (own_b cs s0.toInt.toNat q (3 : Int32) 3)) ||| (own_b cs s0.toInt.toNat q (4 : Int32) 4)))])
  refine Own.lor H_80 (pc := 175) at_175 ?_
  refine Own.aload H_80 (pc := 176) at_176 rfl rfl ?_
  refine Own.iload H_80 (pc := 178) at_178 rfl ?_
  refine Own.iload H_80 (pc := 180) at_180 rfl ?_
  refine Own.bipush H_80 (pc := 182) (6) at_182 rfl ?_
  refine Own.callS H_80 (pc := 184) (y := (⟨"com/example/firecrest/firecrest/FilteredCursorGramPinLaw", "b", "([CIII)J"⟩ : MethodName)) [(.ref a), (.int s0), (.int q), (.int (6 : Int32))] [(.long ((((((own_b cs s0.toInt.toNat q (0 : Int32) 0) ||| (own_b cs s0.toInt.toNat q (1 : Int32) 1)) ||| (own_b cs s0.toInt.toNat q (2 : Int32) 2)) ||| (own_b cs s0.toInt.toNat q (3 : Int32) 3)) ||| (own_b cs s0.toInt.toNat q (4 : Int32) 4)) ||| (own_b cs s0.toInt.toNat q (5 : Int32) 5)))] at_184 (hw _ (List.mem_of_getElem? (i := 6) rfl)) (hw _ (List.mem_of_getElem? (i := 7) rfl)) (hw _ (List.mem_of_getElem? (i := 8) rfl)) (hw _ (List.mem_of_getElem? (i := 9) rfl)) (by decide) (rm_b l Z a0 hw a s0 q (6 : Int32) _ n0 H_80.z0 cs B s0.toInt.toNat q.toInt.toNat 6 (by omega) (by omega) rfl (by omega) (by omega)) (r := (some .long)) (ps := [(.array .char), .int, .int, .int]) (by decide) rfl rfl 2 rfl (by decide) (by decide) (by decide) (by decide) rfl (fun T_87 v_89 h_88 H_86 z_90 q_91 => ?_)
  obtain ⟨rfl, rfl⟩ := q_91
  show OEnds _ _ _ _ _ _ _ _ _ (mkF _ 187 #[.val (.int p0), .val (.int p1), .val (.int p2), .val (.int p3), .val (.int p4), .val (.int p5), .val (.ref a), .val (.int q), .val (.int s0), .val (.int ((s0 + q) - (1 : Int32))), .val (.long gv), .second, .unset, .unset] [(.long (own_b cs s0.toInt.toNat q (6 : Int32) 6)), (.long ((((((own_b cs s0.toInt.toNat q (0 : Int32) 0) ||| (own_b cs s0.toInt.toNat q (1 : Int32) 1)) ||| (own_b cs s0.toInt.toNat q (2 : Int32) 2)) ||| (own_b cs s0.toInt.toNat q (3 : Int32) 3)) ||| (own_b cs s0.toInt.toNat q (4 : Int32) 4)) ||| (own_b cs s0.toInt.toNat q (5 : Int32) 5)))])
  refine Own.lor H_86 (pc := 187) at_187 ?_
  refine Own.aload H_86 (pc := 188) at_188 rfl rfl ?_
  refine Own.iload H_86 (pc := 190) at_190 rfl ?_
  refine Own.iload H_86 (pc := 192) at_192 rfl ?_
  refine Own.bipush H_86 (pc := 194) (7) at_194 rfl ?_
  refine Own.callS H_86 (pc := 196) (y := (⟨"com/example/firecrest/firecrest/FilteredCursorGramPinLaw", "b", "([CIII)J"⟩ : MethodName)) [(.ref a), (.int s0), (.int q), (.int (7 : Int32))] [(.long (((((((own_b cs s0.toInt.toNat q (0 : Int32) 0) ||| (own_b cs s0.toInt.toNat q (1 : Int32) 1)) ||| (own_b cs s0.toInt.toNat q (2 : Int32) 2)) ||| (own_b cs s0.toInt.toNat q (3 : Int32) 3)) ||| (own_b cs s0.toInt.toNat q (4 : Int32) 4)) ||| (own_b cs s0.toInt.toNat q (5 : Int32) 5)) ||| (own_b cs s0.toInt.toNat q (6 : Int32) 6)))] at_196 (hw _ (List.mem_of_getElem? (i := 6) rfl)) (hw _ (List.mem_of_getElem? (i := 7) rfl)) (hw _ (List.mem_of_getElem? (i := 8) rfl)) (hw _ (List.mem_of_getElem? (i := 9) rfl)) (by decide) (rm_b l Z a0 hw a s0 q (7 : Int32) _ n0 H_86.z0 cs B s0.toInt.toNat q.toInt.toNat 7 (by omega) (by omega) rfl (by omega) (by omega)) (r := (some .long)) (ps := [(.array .char), .int, .int, .int]) (by decide) rfl rfl 2 rfl (by decide) (by decide) (by decide) (by decide) rfl (fun T_93 v_95 h_94 H_92 z_96 q_97 => ?_)
  obtain ⟨rfl, rfl⟩ := q_97
  show OEnds _ _ _ _ _ _ _ _ _ (mkF _ 199 #[.val (.int p0), .val (.int p1), .val (.int p2), .val (.int p3), .val (.int p4), .val (.int p5), .val (.ref a), .val (.int q), .val (.int s0), .val (.int ((s0 + q) - (1 : Int32))), .val (.long gv), .second, .unset, .unset] [(.long (own_b cs s0.toInt.toNat q (7 : Int32) 7)), (.long (((((((own_b cs s0.toInt.toNat q (0 : Int32) 0) ||| (own_b cs s0.toInt.toNat q (1 : Int32) 1)) ||| (own_b cs s0.toInt.toNat q (2 : Int32) 2)) ||| (own_b cs s0.toInt.toNat q (3 : Int32) 3)) ||| (own_b cs s0.toInt.toNat q (4 : Int32) 4)) ||| (own_b cs s0.toInt.toNat q (5 : Int32) 5)) ||| (own_b cs s0.toInt.toNat q (6 : Int32) 6)))])
  refine Own.lor H_92 (pc := 199) at_199 ?_
  refine Own.lstore H_92 (pc := 200) #[.val (.int p0), .val (.int p1), .val (.int p2), .val (.int p3), .val (.int p4), .val (.int p5), .val (.ref a), .val (.int q), .val (.int s0), .val (.int ((s0 + q) - (1 : Int32))), .val (.long gv), .second, .val (.long ((((((((own_b cs s0.toInt.toNat q (0 : Int32) 0) ||| (own_b cs s0.toInt.toNat q (1 : Int32) 1)) ||| (own_b cs s0.toInt.toNat q (2 : Int32) 2)) ||| (own_b cs s0.toInt.toNat q (3 : Int32) 3)) ||| (own_b cs s0.toInt.toNat q (4 : Int32) 4)) ||| (own_b cs s0.toInt.toNat q (5 : Int32) 5)) ||| (own_b cs s0.toInt.toNat q (6 : Int32) 6)) ||| (own_b cs s0.toInt.toNat q (7 : Int32) 7))), .second] at_200 rfl ?_
  refine Own.lload H_92 (pc := 202) at_202 rfl ?_
  refine Own.lload H_92 (pc := 204) at_204 rfl ?_
  have fin : gv = ((((((((own_b cs s0.toInt.toNat q (0 : Int32) 0) ||| (own_b cs s0.toInt.toNat q (1 : Int32) 1)) ||| (own_b cs s0.toInt.toNat q (2 : Int32) 2)) ||| (own_b cs s0.toInt.toNat q (3 : Int32) 3)) ||| (own_b cs s0.toInt.toNat q (4 : Int32) 4)) ||| (own_b cs s0.toInt.toNat q (5 : Int32) 5)) ||| (own_b cs s0.toInt.toNat q (6 : Int32) 6)) ||| (own_b cs s0.toInt.toNat q (7 : Int32) 7)) := by
    rw [← egv]
    exact own_gram (own_f cs s0.toInt.toNat) q.toInt.toNat (by omega) (fun j => own_b cs s0.toInt.toNat q (Int32.ofNat j) j) (fun j hj => own_bb cs s0.toInt.toNat q j hj hq)
  refine Own.lcmp H_92 (pc := 206) at_206 ?_
  refine Own.if_ne H_92 (pc := 207) 214 at_207 (by decide) (by decide) (fun hX => absurd ((own_ce _ _).mpr fin) hX) (fun _ => ?_)
  refine Own.iconst H_92 (pc := 210) (1) at_210 rfl ?_
  refine Own.goto H_92 (pc := 211) 215 at_211 (by decide) (by decide) ?_
  exact Own.ret_nar H_92 (pc := 215) (1) at_215 rfl (by simp) (by decide) (by decide) (by decide) (rfl)
set_option maxRecDepth 65536 in
set_option maxHeartbeats 40000000 in
theorem comes_1 {Post : Tables → Env → Array Value → State → Outcome → State → Prop} (hpost : ∀ tb e args s v u, (limb_1_1.after args s (.returned v) u = true ∧ limb_1_2.after args s (.returned v) u = true ∧ True) → FrameEnd s (.returned v) u (Jvm.fieldLocs frame_1_writes args s ++ Jvm.arrayLocs frame_1_arrays args s ++ Jvm.staticLocs frame_1_statics s) 16 128 → Post tb e args s (.returned v) u) :
    ArmFor flags0 classFile x code maxLocals ret World_1 tables_1 room_1 Calls_1 rest_1 Pre_1 Post := by
  intro l hfl _ _ p e ha hc hk s m args below hf hA hF happ hP
  obtain ⟨hcalls, hrest, hpre⟩ := hP
  obtain ⟨-, -, -, hnamed, -, -, -, hat⟩ := (Spec.applies_iff hf).mp happ
  obtain ⟨hg, hn⟩ := and_e (Cond.before_iff.mp (show (Jvm.Cond.and given_1 narrow_1).before args s = true from hpre))
  obtain ⟨g0, k0⟩ := and_e hg
  obtain ⟨g1, k1⟩ := and_e k0
  obtain ⟨g2, k2⟩ := and_e k1
  obtain ⟨g3, k3⟩ := and_e k2
  obtain ⟨g4, k4⟩ := and_e k3
  obtain ⟨g5, k5⟩ := and_e k4
  obtain ⟨w0, w1, w2, w3, w4, w5, rfl⟩ : ∃ w0 w1 w2 w3 w4 w5 : Value, args = #[w0, w1, w2, w3, w4, w5] := by
    have hs : args.size = 6 := by simpa [Cond.value, given_1] using g0
    obtain ⟨L⟩ := args
    match L, hs with
    | [w0, w1, w2, w3, w4, w5], _ => exact ⟨w0, w1, w2, w3, w4, w5, rfl⟩
  have hw := fun d (hd : d ∈ tables_1) => atoms_spec (ws := Jvm.Cond.code x code maxLocals ret :: tables_1) hat d (List.mem_cons_of_mem _ hd)
  have hfit : Fit s := fun {y c} hc i hi => by
    obtain ⟨ha, rfl⟩ := Array.getElem?_eq_some_iff.mp hc
    have q := List.all_eq_true.mp ((Array.all_eq_true_iff_forall_mem.mp hF) _ (Array.getElem_mem ha)) i (List.mem_range.mpr hi)
    simpa [Array.getElem?_eq_getElem hi] using q
  obtain ⟨i0, e0⟩ := is_v g1
  obtain rfl : w0 = (.int i0) := Option.some.inj e0
  obtain ⟨i1, e1⟩ := is_v g2
  obtain rfl : w1 = (.int i1) := Option.some.inj e1
  obtain ⟨i2, e2⟩ := is_v g3
  obtain rfl : w2 = (.int i2) := Option.some.inj e2
  obtain ⟨i3, e3⟩ := is_v g4
  obtain rfl : w3 = (.int i3) := Option.some.inj e3
  obtain ⟨i4, e4⟩ := is_v g5
  obtain rfl : w4 = (.int i4) := Option.some.inj e4
  obtain ⟨i5, e5⟩ := is_v k5
  obtain rfl : w5 = (.int i5) := Option.some.inj e5
  obtain ⟨n, o, h1, h2, h3, _, L, rfl, ⟨N, -, rfl⟩, hq⟩ := rm_law l s _ hw i0 i1 i2 i3 i4 i5 s.heap s.heap.size (Nat.le_refl _)  tables_1 p e ha hc hk s m _ below hf ((Spec.applies_iff_loose hf).mp happ).1 ⟨rfl, State.Warmed39.refl s, rfl⟩ trivial
  refine ⟨n, _, h1, h2, h3, hpost _ _ _ _ _ _ ⟨Cond.after_iff.mpr rfl, Cond.after_iff.mpr (eq_i res_at (Term.int_eval (1)) rfl), trivial⟩ ⟨hq.1, hq.2.1, (hq.2.2.sift fun y hy => Or.inr (N y hy)).mono (by decide) (by decide)⟩⟩
theorem main_1_1 : Claimed_1_1 := comes_1 fun _ _ _ _ _ _ h hF => ⟨h.1, hF⟩
theorem main_1_2 : Claimed_1_2 := comes_1 fun _ _ _ _ _ _ h hF => ⟨h.2.1, hF⟩
end Jvm.Pilot.@@N@@
namespace Jvm.Pilot.@@N@@
open Jvm Jvm.ClassFile Sem Op Lib Jvm.Free Jvm.Stand Jvm.Pilot.@@N@@.Jvm.D
/-! MADE BY PROGRAM (witnessworld.py) out of the Statement's table words and the real class files: 15 classes; the members and pool entries that the words name. The judged class is class 1, her method 2. -/
namespace start1
open Jvm.ClassFile
def u (s : String) : CpInfo := .utf8 (stringToUtf16 s)
/-- a pool by its gaps: so many unusable entries, then the entry; so many at the end -/
def gap : Nat → List CpInfo → List CpInfo
  | 0, r => r
  | n + 1, r => .unusable :: gap n r
def poolList (es : List (Nat × CpInfo)) (last : Nat) : List CpInfo := es.foldr (fun e r => gap e.1 (e.2 :: r)) (gap last [])
def pool (es : List (Nat × CpInfo)) (last : Nat) : Array CpInfo := ⟨poolList es last⟩
def fileOf (pool : Array CpInfo) (this : Nat) (attrs : Array Attribute := #[]) (ms : Array MethodInfo := #[]) (fl : Nat := 33) (sup : Nat := 0) (ifs : Array Nat := #[]) (fds : Array FieldInfo := #[]) : ClassFile where
  minorVersion := 0
  majorVersion := 65
  constantPool := pool
  accessFlags := fl
  thisClass := this
  superClass := sup
  interfaces := ifs
  fields := fds
  methods := ms
  attributes := attrs
def plain (name : String) (sup : Option ClassId) : Class where
  name := name
  kind := .ordinary
  loader := none
  accessFlags := 33
  super := sup
  interfaces := #[]
  cf := none
  fields := #[]
  methods := #[]
  instanceTypes := #[]
  staticTypes := #[]
  resolved := #[]
  callSites := []
  init := .initialized
  statics := none
  mirror := none

def pool0 : Array CpInfo := pool [(5, u "<init>"), (0, u "()V"), (1, .class_ 10), (1, u "java/lang/Object")] 113

def k0m0 : Method := { name := "<init>", desc := "()V", sig := { parameters := [], returnType := none }, accessFlags := 1, code := none }
/-- java/lang/Object -/
def k0 : Class := { plain "java/lang/Object" none with
  accessFlags := 33
  interfaces := #[]
  cf := some (fileOf pool0 8 #[] #[{ accessFlags := 1, nameIndex := 5, descriptorIndex := 6, attributes := #[] }] 33 0 #[] #[])
  fields := #[]
  methods := #[k0m0]
  instanceTypes := #[]
  staticTypes := #[]
  resolved := Array.replicate 124 none
  statics := none }

def pool1 : Array CpInfo := pool [(2, .class_ 4), (1, u "java/lang/Object"), (0, u "<init>"), (0, u "()V"), (0, .integer 2147483647), (0, .methodref 9 10), (0, .class_ 11), (0, .nameAndType 12 13), (0, u "com/example/firecrest/firecrest/FilteredCursor"), (0, u "gram"), (0, u "([CII)J"), (0, .methodref 15 16), (0, .class_ 17), (0, .nameAndType 18 19), (0, u "com/example/firecrest/firecrest/FilteredCursorGramPinLaw"), (0, u "b"), (0, u "([CIII)J"), (3, u "law"), (0, u "(IIIIII)Z")] 4

def k1m0 : Method := { name := "<init>", desc := "()V", sig := { parameters := [], returnType := none }, accessFlags := 1, code := none }
def k1c1 : Code := { maxStack := 4, maxLocals := 4, code := method_2_code, exceptionTable := #[], attributes := #[] }
def k1m1 : Method := { name := "b", desc := "([CIII)J", sig := { parameters := [(.array .char), .int, .int, .int], returnType := some .long }, accessFlags := 10, code := some k1c1 }
def k1c2 : Code := { maxStack := 6, maxLocals := 14, code := code, exceptionTable := #[], attributes := #[] }
def k1m2 : Method := { name := "law", desc := "(IIIIII)Z", sig := { parameters := [.int, .int, .int, .int, .int, .int], returnType := some .boolean }, accessFlags := 9, code := some k1c2 }
/-- com/example/firecrest/firecrest/FilteredCursorGramPinLaw -/
def k1 : Class := { plain "com/example/firecrest/firecrest/FilteredCursorGramPinLaw" (some 0) with
  accessFlags := 49
  interfaces := #[]
  cf := some (fileOf pool1 15 #[] #[{ accessFlags := 1, nameIndex := 5, descriptorIndex := 6, attributes := #[] }, { accessFlags := 10, nameIndex := 18, descriptorIndex := 19, attributes := #[] }, { accessFlags := 9, nameIndex := 23, descriptorIndex := 24, attributes := #[] }] 49 2 #[] #[])
  fields := #[]
  methods := #[k1m0, k1m1, k1m2]
  instanceTypes := #[]
  staticTypes := #[]
  resolved := Array.replicate 29 none
  statics := none }

def pool2 : Array CpInfo := pool [(16, .class_ 18), (1, u "java/util/Iterator"), (12, .class_ 32), (0, u "java/lang/Object")] 20

/-- java/util/Iterator -/
def k2 : Class := { plain "java/util/Iterator" (some 0) with
  accessFlags := 1537
  interfaces := #[]
  cf := some (fileOf pool2 16 #[] #[] 1537 31 #[] #[])
  fields := #[]
  methods := #[]
  instanceTypes := #[]
  staticTypes := #[]
  resolved := Array.replicate 53 none
  statics := none }

def pool3 : Array CpInfo := pool [(1, .class_ 2), (0, u "java/util/PrimitiveIterator"), (0, .class_ 4), (0, u "java/lang/Object"), (0, .class_ 6), (0, u "java/util/Iterator"), (8, .class_ 16), (0, u "java/util/PrimitiveIterator$OfDouble"), (0, .class_ 18), (0, u "java/util/PrimitiveIterator$OfLong"), (0, .class_ 20), (0, u "java/util/PrimitiveIterator$OfInt")] 4

/-- java/util/PrimitiveIterator -/
def k3 : Class := { plain "java/util/PrimitiveIterator" (some 0) with
  accessFlags := 1537
  interfaces := #[2]
  cf := some (fileOf pool3 1 #[.nestMembers #[15, 17, 19]] #[] 1537 3 #[5] #[])
  fields := #[]
  methods := #[]
  instanceTypes := #[]
  staticTypes := #[]
  resolved := Array.replicate 25 none
  statics := none }

def pool4 : Array CpInfo := pool [(8, .class_ 10), (1, u "java/util/PrimitiveIterator$OfLong"), (48, .class_ 60), (0, u "java/lang/Object"), (0, .class_ 62), (0, u "java/util/PrimitiveIterator")] 42

/-- java/util/PrimitiveIterator$OfLong -/
def k4 : Class := { plain "java/util/PrimitiveIterator$OfLong" (some 0) with
  accessFlags := 1537
  interfaces := #[3]
  cf := some (fileOf pool4 8 #[.nestHost 61] #[] 1537 59 #[61] #[])
  fields := #[]
  methods := #[]
  instanceTypes := #[]
  staticTypes := #[]
  resolved := Array.replicate 105 none
  statics := none }

def pool5 : Array CpInfo := pool [(4, .class_ 6), (1, u "java/lang/Object"), (2, .class_ 10), (0, u "com/example/firecrest/firecrest/Cursor"), (4, u "pending"), (0, u "J"), (2, u "text"), (0, u "Lcom/example/firecrest/firecrest/Text;"), (8, u "position"), (0, u "I"), (49, u "batch"), (0, u "[I"), (4, .class_ 88), (1, u "com/example/firecrest/firecrest/Cursor$Batches"), (40, .class_ 130), (0, u "com/example/firecrest/firecrest/Cursor$IntOffsets"), (13, .class_ 145), (0, u "java/util/PrimitiveIterator$OfLong"), (0, u "NONE"), (2, u "BATCH"), (1, u "FIRST_BATCH"), (1, u "OFFSETS"), (1, u "UNKNOWN"), (0, u "WAITING"), (23, .class_ 181), (0, u "com/example/firecrest/firecrest/Cursor$Keeper")] 29

/-- com/example/firecrest/firecrest/Cursor -/
def k5 : Class := { plain "com/example/firecrest/firecrest/Cursor" (some 0) with
  accessFlags := 1056
  interfaces := #[4]
  cf := some (fileOf pool5 9 #[.nestMembers #[129, 86, 180]] #[] 1056 4 #[144] #[{ accessFlags := 24, nameIndex := 146, descriptorIndex := 30, attributes := #[] }, { accessFlags := 26, nameIndex := 149, descriptorIndex := 30, attributes := #[] }, { accessFlags := 26, nameIndex := 151, descriptorIndex := 30, attributes := #[] }, { accessFlags := 24, nameIndex := 153, descriptorIndex := 30, attributes := #[] }, { accessFlags := 26, nameIndex := 155, descriptorIndex := 16, attributes := #[] }, { accessFlags := 26, nameIndex := 156, descriptorIndex := 16, attributes := #[] }, { accessFlags := 16, nameIndex := 19, descriptorIndex := 20, attributes := #[] }, { accessFlags := 4, nameIndex := 29, descriptorIndex := 30, attributes := #[] }, { accessFlags := 2, nameIndex := 15, descriptorIndex := 16, attributes := #[] }, { accessFlags := 2, nameIndex := 80, descriptorIndex := 81, attributes := #[] }])
  fields := #[{ name := "NONE", type := .int, accessFlags := 24, slot := 0, constantValue := 0 }, { name := "BATCH", type := .int, accessFlags := 26, slot := 1, constantValue := 0 }, { name := "FIRST_BATCH", type := .int, accessFlags := 26, slot := 2, constantValue := 0 }, { name := "OFFSETS", type := .int, accessFlags := 24, slot := 3, constantValue := 0 }, { name := "UNKNOWN", type := .long, accessFlags := 26, slot := 4, constantValue := 0 }, { name := "WAITING", type := .long, accessFlags := 26, slot := 5, constantValue := 0 }, { name := "text", type := (.object "com/example/firecrest/firecrest/Text"), accessFlags := 16, slot := 0, constantValue := 0 }, { name := "position", type := .int, accessFlags := 4, slot := 1, constantValue := 0 }, { name := "pending", type := .long, accessFlags := 2, slot := 2, constantValue := 0 }, { name := "batch", type := (.array .int), accessFlags := 2, slot := 3, constantValue := 0 }]
  methods := #[]
  instanceTypes := #[(.object "com/example/firecrest/firecrest/Text"), .int, .long, (.array .int)]
  staticTypes := #[.int, .int, .int, .int, .long, .long]
  resolved := Array.replicate 211 none
  statics := none }

def pool6 : Array CpInfo := pool [(2, .class_ 4), (1, u "com/example/firecrest/firecrest/Cursor"), (3, .class_ 10), (1, u "com/example/firecrest/firecrest/FilteredCursor"), (0, u "comparisons"), (0, u "Lcom/example/firecrest/firecrest/ComparisonCounter;"), (2, u "prepared"), (0, u "Lcom/example/firecrest/firecrest/FilteredCursor$Prepared;"), (1, .class_ 20), (1, u "com/example/firecrest/firecrest/FilteredCursor$Prepared"), (0, u "pattern"), (0, u "[C"), (3, u "fallback"), (0, u "Lcom/example/firecrest/firecrest/Cursor;"), (11, u "I"), (10, u "counting"), (0, u "Z"), (2, u "counted"), (6, u "collected"), (0, u "[I"), (10, u "verified"), (0, u "J"), (65, u "HANDED_OVER"), (2, u "HIGHS"), (17, u "gram"), (0, u "([CII)J")] 7

def k6c0 : Code := { maxStack := 4, maxLocals := 6, code := prog_30_method_17_code, exceptionTable := #[], attributes := #[] }
def k6m0 : Method := { name := "gram", desc := "([CII)J", sig := { parameters := [(.array .char), .int, .int], returnType := some .long }, accessFlags := 8, code := some k6c0 }
/-- com/example/firecrest/firecrest/FilteredCursor -/
def k6 : Class := { plain "com/example/firecrest/firecrest/FilteredCursor" (some 5) with
  accessFlags := 1056
  interfaces := #[]
  cf := some (fileOf pool6 8 #[.nestMembers #[18]] #[{ accessFlags := 8, nameIndex := 161, descriptorIndex := 162, attributes := #[] }] 1056 2 #[] #[{ accessFlags := 24, nameIndex := 140, descriptorIndex := 39, attributes := #[] }, { accessFlags := 24, nameIndex := 143, descriptorIndex := 74, attributes := #[] }, { accessFlags := 0, nameIndex := 11, descriptorIndex := 12, attributes := #[] }, { accessFlags := 16, nameIndex := 15, descriptorIndex := 16, attributes := #[] }, { accessFlags := 16, nameIndex := 21, descriptorIndex := 22, attributes := #[] }, { accessFlags := 2, nameIndex := 73, descriptorIndex := 74, attributes := #[] }, { accessFlags := 2, nameIndex := 26, descriptorIndex := 27, attributes := #[] }, { accessFlags := 2, nameIndex := 50, descriptorIndex := 51, attributes := #[] }, { accessFlags := 2, nameIndex := 61, descriptorIndex := 62, attributes := #[] }, { accessFlags := 2, nameIndex := 54, descriptorIndex := 39, attributes := #[] }])
  fields := #[{ name := "HANDED_OVER", type := .int, accessFlags := 24, slot := 0, constantValue := 0 }, { name := "HIGHS", type := .long, accessFlags := 24, slot := 1, constantValue := 0 }, { name := "comparisons", type := (.object "com/example/firecrest/firecrest/ComparisonCounter"), accessFlags := 0, slot := 4, constantValue := 0 }, { name := "prepared", type := (.object "com/example/firecrest/firecrest/FilteredCursor$Prepared"), accessFlags := 16, slot := 5, constantValue := 0 }, { name := "pattern", type := (.array .char), accessFlags := 16, slot := 6, constantValue := 0 }, { name := "verified", type := .long, accessFlags := 2, slot := 7, constantValue := 0 }, { name := "fallback", type := (.object "com/example/firecrest/firecrest/Cursor"), accessFlags := 2, slot := 8, constantValue := 0 }, { name := "counting", type := .boolean, accessFlags := 2, slot := 9, constantValue := 0 }, { name := "collected", type := (.array .int), accessFlags := 2, slot := 10, constantValue := 0 }, { name := "counted", type := .int, accessFlags := 2, slot := 11, constantValue := 0 }]
  methods := #[k6m0]
  instanceTypes := #[(.object "com/example/firecrest/firecrest/Text"), .int, .long, (.array .int), (.object "com/example/firecrest/firecrest/ComparisonCounter"), (.object "com/example/firecrest/firecrest/FilteredCursor$Prepared"), (.array .char), .long, (.object "com/example/firecrest/firecrest/Cursor"), .boolean, (.array .int), .int]
  staticTypes := #[.int, .long]
  resolved := Array.replicate 170 none
  statics := none }

def pool7 : Array CpInfo := pool [(1, u "java/lang/Cloneable"), (0, .class_ 1), (0, u "java/lang/Object"), (0, .class_ 3)] 3

/-- java/lang/Cloneable -/
def k7 : Class := { plain "java/lang/Cloneable" (some 0) with
  accessFlags := 1537
  interfaces := #[]
  cf := some (fileOf pool7 2 #[] #[] 1537 4 #[] #[])
  fields := #[]
  methods := #[]
  instanceTypes := #[]
  staticTypes := #[]
  resolved := Array.replicate 8 none
  statics := none }

def pool8 : Array CpInfo := pool [(1, u "java/io/Serializable"), (0, .class_ 1), (0, u "java/lang/Object"), (0, .class_ 3)] 3

/-- java/io/Serializable -/
def k8 : Class := { plain "java/io/Serializable" (some 0) with
  accessFlags := 1537
  interfaces := #[]
  cf := some (fileOf pool8 2 #[] #[] 1537 4 #[] #[])
  fields := #[]
  methods := #[]
  instanceTypes := #[]
  staticTypes := #[]
  resolved := Array.replicate 8 none
  statics := none }

/-- the primitive byte -/
def k9 : Class := { plain "byte" none with kind := .primitive 'B', accessFlags := 0x411 }
/-- [B -/
def k10 : Class := { plain "[B" (some 0) with kind := .array 9 .byte, interfaces := #[7, 8], accessFlags := 1041 }

/-- the primitive char -/
def k11 : Class := { plain "char" none with kind := .primitive 'C', accessFlags := 0x411 }
/-- [C -/
def k12 : Class := { plain "[C" (some 0) with kind := .array 11 .char, interfaces := #[7, 8], accessFlags := 1041 }

/-- the primitive int -/
def k13 : Class := { plain "int" none with kind := .primitive 'I', accessFlags := 0x411 }
/-- [I -/
def k14 : Class := { plain "[I" (some 0) with kind := .array 13 .int, interfaces := #[7, 8], accessFlags := 1041 }

def heap : Heap := #[]
def classes : Array Class := #[k0, k1, k2, k3, k4, k5, k6, k7, k8, k9, k10, k11, k12, k13, k14]
def interned : List (Array UInt16 × Addr) := []
def slotsUsed : Nat := 0
def theMethod : MethodId := ⟨1, 2⟩
def args0 : Array Value := #[.int 5, .int 7, .int 9, .int 11, .int 3, .int 2]
def aboutOver (below : List Frame) : State where
  vm := { classes := classes, interned := interned.toArray }
  heap := heap
  slotsUsed := slotsUsed
  threads := #[{ frames := .invoking theMethod args0 :: below }]
def below0 : List Frame := [.native { method := ⟨0, 0⟩, args := #[] }]
def about1 : State := aboutOver below0
def p0 : Program := .bare "" "" ""
def e0 : Env := launch0.env 0 0 0
theorem w_frames : about1.frames = Frame.invoking theMethod args0 :: below0 := rfl
set_option maxRecDepth 65536 in
theorem w_args : argsFit about1.vm theMethod args0 = true := by decide +kernel
set_option maxRecDepth 65536 in
theorem w_heap : heapFits about1 = true := by decide +kernel
set_option maxRecDepth 65536 in
theorem w_runnable : about1.curStatus? = some .runnable := by decide +kernel
set_option maxRecDepth 65536 in
theorem w_alone : about1.alone = true := by decide +kernel
set_option maxRecDepth 65536 in
theorem w_named : about1.methodNamed? x = some theMethod := by decide +kernel
set_option maxRecDepth 65536 in
theorem w_hears : about1.hears theMethod below0 = true := by decide +kernel
set_option maxRecDepth 65536 in
theorem w_ripe : about1.ripe theMethod args0 below0 = true := by decide +kernel
theorem w_running : about1.status = .running := rfl
set_option maxRecDepth 65536 in
theorem w_room : about1.hasRoom e0.platform room_1 = true :=
  launch0.hasRoom_least _ room_1 (by decide +kernel) (by decide +kernel) (by decide +kernel) (by decide +kernel) (by decide +kernel) (by decide +kernel)
theorem allAtoms_all (ts : List Jvm.Cond) (a : Array Jvm.Value) (st : Jvm.State) : (allAtoms ts).before a st = ts.all (fun c => c.before a st) := by
  induction ts with
  | nil => rfl
  | cons c t ih =>
    show (Jvm.Cond.and c (allAtoms t)).before a st = _
    rw [Jvm.Cond.before_and, ih, List.all_cons]
def words1 : List Jvm.Cond := Jvm.Cond.code x code maxLocals ret :: tables_1
/-- a 'code' word, met by the world's own term for the bytes: nothing is compared byte by byte -/
theorem code_word {y : MethodName} {bytes : ByteArray} {mx : Nat} {rt : Option FieldType} {a : Array Value} {s : State} {m : MethodId} {meth : Method} {c : Code} (h1 : s.methodNamed? y = some m) (h2 : s.vm.method? m = some meth) (h3 : meth.code = some c) (h4 : c.code = bytes)
    (h5 : (c.maxLocals == mx && c.exceptionTable.isEmpty && decide (c.maxStack ≤ mostOperands) && decide (meth.sig.returnType = rt) && !meth.locks && decide (parseMethodDescriptor y.desc = some meth.sig)) = true) : (Jvm.Cond.code y bytes mx rt).before a s = true := by
  simp only [Bool.and_eq_true, beq_iff_eq, Bool.not_eq_true', decide_eq_true_eq] at h5
  obtain ⟨⟨⟨⟨⟨g1, g2⟩, g3⟩, g4⟩, g5⟩, g6⟩ := h5
  simp [Cond.before, Cond.holds, Cond.value, h1, h2, h3, h4, g1, g2, g3, g4, g5, g6]
def isCode : Jvm.Cond → Bool
  | .code _ _ _ _ => true
  | _ => false
theorem all_split {L : List Jvm.Cond} {P : Jvm.Cond → Bool} (h1 : L.all (fun c => isCode c || P c) = true) (h2 : ∀ c ∈ L.filter isCode, P c = true) : L.all P = true := by
  refine List.all_eq_true.mpr fun c hc => ?_
  have h := List.all_eq_true.mp h1 c hc
  rcases Bool.eq_false_or_eq_true (isCode c) with hi | hi
  · exact h2 c (List.mem_filter.mpr ⟨hc, hi⟩)
  · simpa [hi] using h
set_option maxRecDepth 65536 in
theorem w_c0 : (Jvm.Cond.code x code maxLocals ret).before args0 about1 = true := code_word (m := ⟨1, 2⟩) (meth := k1m2) (c := k1c2) (by decide +kernel) rfl rfl rfl (by decide +kernel)
set_option maxRecDepth 65536 in
theorem w_c1 : (Jvm.Cond.code ({ cls := "com/example/firecrest/firecrest/FilteredCursor", name := "gram", desc := "([CII)J" } : Jvm.MethodName) prog_30_method_17_code (6 : Nat) (Option.some Jvm.ClassFile.FieldType.long)).before args0 about1 = true := code_word (m := ⟨6, 0⟩) (meth := k6m0) (c := k6c0) (by decide +kernel) rfl rfl rfl (by decide +kernel)
set_option maxRecDepth 65536 in
theorem w_c2 : (Jvm.Cond.code ({ cls := "com/example/firecrest/firecrest/FilteredCursorGramPinLaw", name := "b", desc := "([CIII)J" } : Jvm.MethodName) method_2_code (4 : Nat) (Option.some Jvm.ClassFile.FieldType.long)).before args0 about1 = true := code_word (m := ⟨1, 1⟩) (meth := k1m1) (c := k1c1) (by decide +kernel) rfl rfl rfl (by decide +kernel)
def codes1 : List Jvm.Cond := [Jvm.Cond.code x code maxLocals ret, Jvm.Cond.code ({ cls := "com/example/firecrest/firecrest/FilteredCursor", name := "gram", desc := "([CII)J" } : Jvm.MethodName) prog_30_method_17_code (6 : Nat) (Option.some Jvm.ClassFile.FieldType.long), Jvm.Cond.code ({ cls := "com/example/firecrest/firecrest/FilteredCursorGramPinLaw", name := "b", desc := "([CIII)J" } : Jvm.MethodName) method_2_code (4 : Nat) (Option.some Jvm.ClassFile.FieldType.long)]
set_option maxRecDepth 65536 in
theorem codes_eq : words1.filter isCode = codes1 := rfl
theorem w_codes : ∀ c ∈ words1.filter isCode, c.before args0 about1 = true := by
  rw [codes_eq]
  intro c hc
  simp only [codes1, List.mem_cons, List.not_mem_nil, or_false] at hc
  rcases hc with rfl | rfl | rfl
  · exact w_c0
  · exact w_c1
  · exact w_c2
set_option maxRecDepth 65536 in
theorem w_t1 : words1.all (fun c => isCode c || c.before args0 about1) = true := by decide +kernel
theorem w_tables : (allAtoms (Jvm.Cond.code x code maxLocals ret :: tables_1)).before args0 about1 = true := by
  rw [allAtoms_all]
  show words1.all (fun c => c.before args0 about1) = true
  refine all_split ?_ w_codes
  rw [w_t1]
set_option maxRecDepth 65536 in
theorem w_case : (Jvm.Cond.and given_1 narrow_1).before args0 about1 = true := by decide +kernel
theorem w_applies : (headSpec (Jvm.Cond.code x code maxLocals ret :: tables_1) room_1).applies x e0.platform about1 = true :=
  (Spec.applies_iff w_frames).mpr ⟨w_running, w_runnable, w_alone, w_named, w_hears, w_ripe, w_room, w_tables⟩
theorem atStart : AtStart classFile x code maxLocals ret World_1 tables_1 room_1 Calls_1 rest_1 Pre_1 launch0 p0 e0 about1 theMethod args0 below0 :=
  ⟨lists_1, trivial, launch0.admits_env _ _ _, launch0.least_env, fairChoices_fair.cas, fairChoices_fair.clock, w_frames, w_args, w_heap, w_applies, trivial, trivial, w_case⟩
end start1
theorem witness_1 : WitnessClaimed_1 := ⟨start1.p0, start1.e0, start1.about1, start1.theMethod, start1.args0, start1.below0, start1.atStart⟩
end Jvm.Pilot.@@N@@
