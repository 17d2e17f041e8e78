import JvmDerived
import JvmDerived.Pilot.@@N@@Statement
import JvmDerived.Pilot.@@N@@Code
set_option linter.unusedVariables false
set_option linter.unusedSimpArgs false
namespace Jvm.Own
open Jvm Jvm.ClassFile Sem Op Lib Jvm.Free Jvm.Stand Jvm.LawKit Jvm.RoadKit
def OHr (p : Program) (l : Launch) (e : Env) (R : Room) (s : State) (m : MethodId) (args : Array Value) (below : List Frame) (meth : Method) (c : Code) (Z : State) (n0 : Nat) (own nm : String) (code : ByteArray) (maxL : Nat) (ret : Option FieldType) (T : State) (h : Heap) (ce sl : Nat) : Prop :=
  (p.tables.exec = Jvm.exec ∧ Z.Warmed39 s.vm ∧ c.code = code ∧ c.maxLocals = maxL ∧ s.vm.findClass own = some m.cls ∧ meth.name = nm ∧ meth.sig.returnType = ret ∧ meth.locks = false) ∧
  ∃ locs, Stand p l e R s m args below meth c T locs ce sl ∧ T.heap = h ∧ Fr n0 locs ∧ n0 ≤ h.size
def OEnds (p : Program) (e : Env) (below : List Frame) (s : State) (n0 : Nat) (Q : Option Value → Heap → Prop) (C S : Nat) (T : State) (g : JFrame) : Prop :=
  ∃ s₂ o, Steps p.tables e below (T.setTop g) s₂ ∧ s₂.status = .running ∧ Ended s₂ below o ∧ ∃ v L, o = .returned v ∧ (Fr n0 L ∧ Q v s₂.heap) ∧ FrameEnd s o s₂ L C S
def OMet (l : Launch) (Z : State) (n0 : Nat) (y : MethodName) (bytes : ByteArray) (maxL : Nat) (ret : Option FieldType) (rm : Room) (as : Array Value) (h0 : Heap) (Q : Option Value → Heap → Prop) : Prop :=
  ∀ ws, MetFree l y (head1 (Cond.code y bytes maxL ret :: ws) rm) (fun a U => a = as ∧ Z.Warmed39 U.vm ∧ U.heap = h0) (fun _ _ _ _ _ => True) (fun _ U o U' => ∃ v L, o = .returned v ∧ (Fr n0 L ∧ h0.size ≤ U'.heap.size ∧ Q v U'.heap) ∧ FrameEnd U o U' L rm.cells rm.slots)
theorem OMet.of {l : Launch} {Z : State} {n0 : Nat} {y : MethodName} {bytes : ByteArray} {maxL : Nat} {ret : Option FieldType} {rm : Room} {as : Array Value} {h0 : Heap} {Q : Option Value → Heap → Prop} {Ls : Array Slot}
    (pn : plainFor y = true) (Z0 : n0 ≤ h0.size) (ef : ∀ m, entryFrame m as maxL = mkF m 0 Ls [])
    (body : ∀ p e s m below meth c T, OHr p l e rm s m as below meth c Z n0 y.cls y.name bytes maxL ret T h0 0 0 → OEnds p e below s n0 Q rm.cells rm.slots T (mkF m 0 Ls [])) : OMet l Z n0 y bytes maxL ret rm as h0 Q := by
  intro ws
  refine MetFree.of_bodySF pn hisR ?_
  intro p e s m args below meth c s₁ Bd hml0 hP hK
  obtain ⟨rfl, hZ, hh⟩ := hP
  have X0 : Stand p l e rm s m _ below meth c s₁ [] 0 0 := Stand.of_body Bd
  have e0 : s₁.heap = h0 := by rw [← hh, Bd.state]; rfl
  rw [ef]
  obtain ⟨s₂, o, g1, g2, g3, v, L, g4, ⟨g5, g6⟩, g7⟩ := body p e s m below meth c s₁ ⟨⟨Bd.exec, hZ, Bd.bytes, hml0, findClass_of_methodNamed Bd.named, (name_of_methodNamed Bd.named Bd.method).1, Bd.returns, Bd.notSynchronized⟩, [], X0, e0, Fr.nil n0, Z0⟩
  exact ⟨s₂, o, g1, g2, g3, v, L, g4, ⟨g5, by rw [← hh]; exact g7.2.2.2.1, g6⟩, g7⟩
theorem OMet.mono {l : Launch} {Z : State} {n0 : Nat} {y : MethodName} {bytes : ByteArray} {maxL : Nat} {ret : Option FieldType} {rm : Room} {as : Array Value} {h0 : Heap} {Q Q' : Option Value → Heap → Prop}
    (M : OMet l Z n0 y bytes maxL ret rm as h0 Q) (q : ∀ v h, Q v h → Q' v h) : OMet l Z n0 y bytes maxL ret rm as h0 Q' := by
  intro ws p e h1 h2 h3 s m args below h4 h5 h6 h7
  obtain ⟨n, o, k1, k2, k3, v, L, k4, ⟨k5, k5', k6⟩, k7⟩ := M ws p e h1 h2 h3 s m args below h4 h5 h6 h7
  exact ⟨n, o, k1, k2, k3, v, L, k4, ⟨k5, k5', q _ _ k6⟩, k7⟩
/-! arrays by the list of their values -/
def OAry (Z : State) (h : Heap) (a : Addr) (ty : FieldType) (vs : List Value) : Prop := ∃ c : Cell, Arr Z h a c ty ∧ c.slots.toList = vs ∧ vs.length < 2 ^ 31 ∧ ∀ v ∈ vs, fits ty v = true
section Facts
variable {Z : State} {h h' : Heap} {a b : Nat} {ty : FieldType} {vs : List Value} {v : Value} {sl : Nat} {ws : List Addr} {i : Nat}
theorem OAry.lt (A : OAry Z h a ty vs) : a < h.size := by obtain ⟨c, A, -⟩ := A; exact A.lt
theorem OAry.ext (A : OAry Z h a ty vs) (E : Ext h h') : OAry Z h' a ty vs := by obtain ⟨c, A, r⟩ := A; exact ⟨c, A.ext E, r⟩
theorem OAry.other (A : OAry Z h b ty vs) (W : Wr h h' a sl v) (q : b ≠ a) : OAry Z h' b ty vs := by obtain ⟨c, A, r⟩ := A; exact ⟨c, A.other W q, r⟩
theorem OAry.keep (A : OAry Z h a ty vs) (K : Keep h h' ws) (q : a ∉ ws) : OAry Z h' a ty vs := by obtain ⟨c, A, r⟩ := A; exact ⟨c, ⟨K.2.1 _ _ A.1 q, A.2⟩, r⟩
theorem OAry.len (A : OAry Z h a ty vs) : vs.length < 2 ^ 31 := by obtain ⟨c, A, -, r, -⟩ := A; exact r
theorem OAry.fit (A : OAry Z h a ty vs) (q : v ∈ vs) : fits ty v = true := by obtain ⟨c, A, -, -, r⟩ := A; exact r v q
theorem OAry.new {cA : ClassId} {n : Int32} (A : Arr Z h a (newA cA ty n) ty) (hf : fits ty (defaultValue ty) = true) : OAry Z h a ty (List.replicate n.toNatClampNeg (defaultValue ty)) := by
  refine ⟨_, A, by simp [newA], ?_, ?_⟩
  · rw [List.length_replicate]
    have := n.toInt_lt
    have e : n.toNatClampNeg = n.toInt.toNat := rfl
    omega
  · intro v hv
    rw [List.eq_of_mem_replicate hv]
    exact hf
theorem OAry.wr (A : OAry Z h a ty vs) (W : Wr h h' a i v) (hf : fits ty v = true) : OAry Z h' a ty (vs.set i v) := by
  obtain ⟨c, A, r1, r2, r3⟩ := A
  refine ⟨_, A.same W, by simp [Cell.setSlot, r1], by simpa using r2, fun w hw => ?_⟩
  rcases List.mem_or_eq_of_mem_set hw with q | q
  · exact r3 w q
  · rw [q]; exact hf
theorem OAry.uniq {ty' : FieldType} {vs' : List Value} (A : OAry Z h a ty vs) (B : OAry Z h a ty' vs') : vs = vs' := by
  obtain ⟨c, A, r1, -⟩ := A
  obtain ⟨c', B, r1', -⟩ := B
  have e : c = c' := Option.some.inj (A.1.symm.trans B.1)
  subst e
  rw [← r1, ← r1']
theorem nat_idx {j : Int32} {i : Nat} (hj : j.toInt = (i : Int)) : j.toNatClampNeg = i ∧ ¬ j < 0 := by
  have e : j.toNatClampNeg = j.toInt.toNat := rfl
  refine ⟨by omega, ?_⟩
  rw [Int32.lt_iff_toInt_lt]
  have : (0 : Int32).toInt = 0 := rfl
  omega
theorem Fr.one {k : Nat} {L : List Loc} {a : Addr} {i : Nat} (N : Fr k L) (q : k ≤ a) : Fr k (L ++ [⟨a, i⟩]) := Fr.app N (fun y hy => by
  have e : y = ⟨a, i⟩ := List.mem_singleton.mp hy
  subst e; exact q)
theorem ext_size (E : Ext h h') : h.size ≤ h'.size := E.1
end Facts
section Go
variable {p : Program} {l : Launch} {e : Env} {R : Room} {s : State} {m : MethodId} {args : Array Value} {below : List Frame} {meth : Method} {c : Code} {Z : State} {n0 : Nat} {own nm : String} {code : ByteArray} {maxL : Nat} {ret : Option FieldType} {T : State} {h : Heap} {ce sl : Nat} {Q : Option Value → Heap → Prop} {C S : Nat} {pc : Nat} {Ls : Array Slot} {st : List Value} {a0 : Array Value}
theorem OHr.mono (H : OHr p l e R s m args below meth c Z n0 own nm code maxL ret T h ce sl) {ce' sl' : Nat} (q1 : ce ≤ ce') (q2 : sl ≤ sl') : OHr p l e R s m args below meth c Z n0 own nm code maxL ret T h ce' sl' := by
  obtain ⟨K, locs, X, r⟩ := H
  exact ⟨K, locs, { X with same := X.same.mono q1 q2 }, r⟩
theorem OHr.z0 (H : OHr p l e R s m args below meth c Z n0 own nm code maxL ret T h ce sl) : n0 ≤ h.size := by obtain ⟨K, locs, X, r1, r2, r3⟩ := H; exact r3
theorem go {T' : State} {g g' : JFrame} (q : ∀ t, Steps p.tables e below (T'.setTop g') t → Steps p.tables e below (T.setTop g) t) (k : OEnds p e below s n0 Q C S T' (g')) : OEnds p e below s n0 Q C S T (g) := by
  obtain ⟨a, o, h1, h2⟩ := k
  exact ⟨a, o, q _ h1, h2⟩
theorem go1 {T' : State} {g g' : JFrame} (q : Steps p.tables e below (T.setTop g) (T'.setTop g')) (k : OEnds p e below s n0 Q C S T' (g')) : OEnds p e below s n0 Q C S T (g) := by
  obtain ⟨a, o, h1, h2⟩ := k
  exact ⟨a, o, q.trans h1, h2⟩
theorem cast {g g' : JFrame} (q : g = g') (k : OEnds p e below s n0 Q C S T (g')) : OEnds p e below s n0 Q C S T (g) := q ▸ k
theorem iload_n (H : OHr p l e R s m args below meth c Z n0 own nm code maxL ret T h ce sl) {k : Fin 4} {v : Int32} (hd : decode code pc = .ok (.iload_n k, 1)) (hl : Ls[k.val]? = some (.val (.int v))) (k : OEnds p e below s n0 Q C S T (mkF m (pc + 1) Ls (.int v :: st))) : OEnds p e below s n0 Q C S T (mkF m pc Ls (st)) := by
  obtain ⟨⟨hx, hZ, hby, hml, hown, hnm, hrt, hlk⟩, locs, X, eT, N, z0⟩ := H
  exact go (fun t q => XS.iloadN X.here hx rfl (hb hby hd) hl q) k
theorem lload_n (H : OHr p l e R s m args below meth c Z n0 own nm code maxL ret T h ce sl) {k : Fin 4} {v : Int64} (hd : decode code pc = .ok (.lload_n k, 1)) (hl : Ls[k.val]? = some (.val (.long v))) (k : OEnds p e below s n0 Q C S T (mkF m (pc + 1) Ls (.long v :: st))) : OEnds p e below s n0 Q C S T (mkF m pc Ls (st)) := by
  obtain ⟨⟨hx, hZ, hby, hml, hown, hnm, hrt, hlk⟩, locs, X, eT, N, z0⟩ := H
  exact go (fun t q => XT.lloadN X.here hx rfl (hb hby hd) hl q) k
theorem iload (H : OHr p l e R s m args below meth c Z n0 own nm code maxL ret T h ce sl) {k : Nat} {v : Int32} (hd : decode code pc = .ok (.iload k, 2)) (hl : Ls[k]? = some (.val (.int v))) (k : OEnds p e below s n0 Q C S T (mkF m (pc + 2) Ls (.int v :: st))) : OEnds p e below s n0 Q C S T (mkF m pc Ls (st)) := by
  obtain ⟨⟨hx, hZ, hby, hml, hown, hnm, hrt, hlk⟩, locs, X, eT, N, z0⟩ := H
  exact go (fun t q => XS.iload X.here hx rfl (hb hby hd) hl q) k
theorem lload (H : OHr p l e R s m args below meth c Z n0 own nm code maxL ret T h ce sl) {k : Nat} {v : Int64} (hd : decode code pc = .ok (.lload k, 2)) (hl : Ls[k]? = some (.val (.long v))) (k : OEnds p e below s n0 Q C S T (mkF m (pc + 2) Ls (.long v :: st))) : OEnds p e below s n0 Q C S T (mkF m pc Ls (st)) := by
  obtain ⟨⟨hx, hZ, hby, hml, hown, hnm, hrt, hlk⟩, locs, X, eT, N, z0⟩ := H
  exact go (fun t q => XT.lload X.here hx rfl (hb hby hd) hl q) k
theorem aload_n (H : OHr p l e R s m args below meth c Z n0 own nm code maxL ret T h ce sl) {k : Fin 4} {v : Value} (hd : decode code pc = .ok (.aload_n k, 1)) (hl : Ls[k.val]? = some (.val v)) (hv : v.isRef = true) (k : OEnds p e below s n0 Q C S T (mkF m (pc + 1) Ls (v :: st))) : OEnds p e below s n0 Q C S T (mkF m pc Ls (st)) := by
  obtain ⟨⟨hx, hZ, hby, hml, hown, hnm, hrt, hlk⟩, locs, X, eT, N, z0⟩ := H
  exact go (fun t q => XS.aloadN X.here hx rfl (hb hby hd) hl hv q) k
theorem aload (H : OHr p l e R s m args below meth c Z n0 own nm code maxL ret T h ce sl) {k : Nat} {v : Value} (hd : decode code pc = .ok (.aload k, 2)) (hl : Ls[k]? = some (.val v)) (hv : v.isRef = true) (k : OEnds p e below s n0 Q C S T (mkF m (pc + 2) Ls (v :: st))) : OEnds p e below s n0 Q C S T (mkF m pc Ls (st)) := by
  obtain ⟨⟨hx, hZ, hby, hml, hown, hnm, hrt, hlk⟩, locs, X, eT, N, z0⟩ := H
  exact go (fun t q => XS.aload X.here hx rfl (hb hby hd) hl hv q) k
theorem istore_n (H : OHr p l e R s m args below meth c Z n0 own nm code maxL ret T h ce sl) {k : Fin 4} {v : Int32} (l' : Array Slot) (hd : decode code pc = .ok (.istore_n k, 1)) (hl : storeLocals Ls k.val (.int v) = some l') (k : OEnds p e below s n0 Q C S T (mkF m (pc + 1) l' (st))) : OEnds p e below s n0 Q C S T (mkF m pc Ls (.int v :: st)) := by
  obtain ⟨⟨hx, hZ, hby, hml, hown, hnm, hrt, hlk⟩, locs, X, eT, N, z0⟩ := H
  exact go (fun t q => XS.istoreN X.here hx rfl (hb hby hd) rfl hl q) k
theorem istore (H : OHr p l e R s m args below meth c Z n0 own nm code maxL ret T h ce sl) {k : Nat} {v : Int32} (l' : Array Slot) (hd : decode code pc = .ok (.istore k, 2)) (hl : storeLocals Ls k (.int v) = some l') (k : OEnds p e below s n0 Q C S T (mkF m (pc + 2) l' (st))) : OEnds p e below s n0 Q C S T (mkF m pc Ls (.int v :: st)) := by
  obtain ⟨⟨hx, hZ, hby, hml, hown, hnm, hrt, hlk⟩, locs, X, eT, N, z0⟩ := H
  exact go (fun t q => XS.istore X.here hx rfl (hb hby hd) rfl hl q) k
theorem lstore_n (H : OHr p l e R s m args below meth c Z n0 own nm code maxL ret T h ce sl) {k : Fin 4} {v : Int64} (l' : Array Slot) (hd : decode code pc = .ok (.lstore_n k, 1)) (hl : storeLocals Ls k.val (.long v) = some l') (k : OEnds p e below s n0 Q C S T (mkF m (pc + 1) l' (st))) : OEnds p e below s n0 Q C S T (mkF m pc Ls (.long v :: st)) := by
  obtain ⟨⟨hx, hZ, hby, hml, hown, hnm, hrt, hlk⟩, locs, X, eT, N, z0⟩ := H
  exact go (fun t q => XT.lstoreN X.here hx rfl (hb hby hd) rfl hl q) k
theorem lstore (H : OHr p l e R s m args below meth c Z n0 own nm code maxL ret T h ce sl) {k : Nat} {v : Int64} (l' : Array Slot) (hd : decode code pc = .ok (.lstore k, 2)) (hl : storeLocals Ls k (.long v) = some l') (k : OEnds p e below s n0 Q C S T (mkF m (pc + 2) l' (st))) : OEnds p e below s n0 Q C S T (mkF m pc Ls (.long v :: st)) := by
  obtain ⟨⟨hx, hZ, hby, hml, hown, hnm, hrt, hlk⟩, locs, X, eT, N, z0⟩ := H
  exact go (fun t q => XT.lstore X.here hx rfl (hb hby hd) rfl hl q) k
theorem astore_n (H : OHr p l e R s m args below meth c Z n0 own nm code maxL ret T h ce sl) {k : Fin 4} {v : Value} (l' : Array Slot) (hd : decode code pc = .ok (.astore_n k, 1)) (hv : v.isRef = true) (hl : storeLocals Ls k.val v = some l') (k : OEnds p e below s n0 Q C S T (mkF m (pc + 1) l' (st))) : OEnds p e below s n0 Q C S T (mkF m pc Ls (v :: st)) := by
  obtain ⟨⟨hx, hZ, hby, hml, hown, hnm, hrt, hlk⟩, locs, X, eT, N, z0⟩ := H
  exact go (fun t q => XS.astoreN X.here hx rfl (hb hby hd) rfl hv hl q) k
theorem astore (H : OHr p l e R s m args below meth c Z n0 own nm code maxL ret T h ce sl) {k : Nat} {v : Value} (l' : Array Slot) (hd : decode code pc = .ok (.astore k, 2)) (hv : v.isRef = true) (hl : storeLocals Ls k v = some l') (k : OEnds p e below s n0 Q C S T (mkF m (pc + 2) l' (st))) : OEnds p e below s n0 Q C S T (mkF m pc Ls (v :: st)) := by
  obtain ⟨⟨hx, hZ, hby, hml, hown, hnm, hrt, hlk⟩, locs, X, eT, N, z0⟩ := H
  exact go (fun t q => XS.astore X.here hx rfl (hb hby hd) rfl hv hl q) k
theorem iinc (H : OHr p l e R s m args below meth c Z n0 own nm code maxL ret T h ce sl) {k : Nat} {cst : Int} {x : Int32} (d : Int32) (l' : Array Slot) (hd : decode code pc = .ok (.iinc k cst, 3)) (hl : Ls[k]? = some (.val (.int x))) (hv : Int32.ofInt cst = d) (hl' : storeLocals Ls k (.int (x + d)) = some l') (k : OEnds p e below s n0 Q C S T (mkF m (pc + 3) l' (st))) : OEnds p e below s n0 Q C S T (mkF m pc Ls (st)) := by
  obtain ⟨⟨hx, hZ, hby, hml, hown, hnm, hrt, hlk⟩, locs, X, eT, N, z0⟩ := H
  exact go (fun t q => XS.iinc X.here hx rfl (hb hby hd) hl (by rw [hv]; exact hl') q) k
theorem iinc_c (H : OHr p l e R s m args below meth c Z n0 own nm code maxL ret T h ce sl) {k : Nat} {cst : Int} {x : Int32} (r : Int32) (l' : Array Slot) (hd : decode code pc = .ok (.iinc k cst, 3)) (hl : Ls[k]? = some (.val (.int x))) (hr : x + Int32.ofInt cst = r) (hl' : storeLocals Ls k (.int r) = some l') (kk : OEnds p e below s n0 Q C S T (mkF m (pc + 3) l' st)) : OEnds p e below s n0 Q C S T (mkF m pc Ls st) := by
  subst hr
  exact iinc H _ l' hd hl rfl hl' kk
theorem iconst (H : OHr p l e R s m args below meth c Z n0 own nm code maxL ret T h ce sl) {i : Int} (v : Int32) (hd : decode code pc = .ok (.iconst i, 1)) (hv : Int32.ofInt i = v) (k : OEnds p e below s n0 Q C S T (mkF m (pc + 1) Ls (.int v :: st))) : OEnds p e below s n0 Q C S T (mkF m pc Ls st) := by
  obtain ⟨⟨hx, hZ, hby, hml, hown, hnm, hrt, hlk⟩, locs, X, eT, N, z0⟩ := H
  subst hv
  exact go (fun t q => XS.iconst X.here hx rfl (hb hby hd) q) k
theorem bipush (H : OHr p l e R s m args below meth c Z n0 own nm code maxL ret T h ce sl) {i : Int} (v : Int32) (hd : decode code pc = .ok (.bipush i, 2)) (hv : (Int8.ofInt i).toInt32 = v) (k : OEnds p e below s n0 Q C S T (mkF m (pc + 2) Ls (.int v :: st))) : OEnds p e below s n0 Q C S T (mkF m pc Ls st) := by
  obtain ⟨⟨hx, hZ, hby, hml, hown, hnm, hrt, hlk⟩, locs, X, eT, N, z0⟩ := H
  subst hv
  exact go (fun t q => XS.bipush X.here hx rfl (hb hby hd) q) k
theorem sipush (H : OHr p l e R s m args below meth c Z n0 own nm code maxL ret T h ce sl) {i : Int} (v : Int32) (hd : decode code pc = .ok (.sipush i, 3)) (hv : (Int16.ofInt i).toInt32 = v) (k : OEnds p e below s n0 Q C S T (mkF m (pc + 3) Ls (.int v :: st))) : OEnds p e below s n0 Q C S T (mkF m pc Ls st) := by
  obtain ⟨⟨hx, hZ, hby, hml, hown, hnm, hrt, hlk⟩, locs, X, eT, N, z0⟩ := H
  subst hv
  exact go (fun t q => XS.sipush X.here hx rfl (hb hby hd) q) k
theorem lconst (H : OHr p l e R s m args below meth c Z n0 own nm code maxL ret T h ce sl) {i : Fin 2} (v : Int64) (hd : decode code pc = .ok (.lconst i, 1)) (hv : Int64.ofNat i = v) (k : OEnds p e below s n0 Q C S T (mkF m (pc + 1) Ls (.long v :: st))) : OEnds p e below s n0 Q C S T (mkF m pc Ls st) := by
  obtain ⟨⟨hx, hZ, hby, hml, hown, hnm, hrt, hlk⟩, locs, X, eT, N, z0⟩ := H
  subst hv
  exact go (fun t q => XT.lconst X.here hx rfl (hb hby hd) q) k
theorem aconst_null (H : OHr p l e R s m args below meth c Z n0 own nm code maxL ret T h ce sl)  (hd : decode code pc = .ok (.aconst_null, 1))  (k : OEnds p e below s n0 Q C S T (mkF m (pc + 1) Ls (.null :: st))) : OEnds p e below s n0 Q C S T (mkF m pc Ls (st)) := by
  obtain ⟨⟨hx, hZ, hby, hml, hown, hnm, hrt, hlk⟩, locs, X, eT, N, z0⟩ := H
  exact go (fun t q => XS.aconstNull X.here hx rfl (hb hby hd) q) k
theorem ldc (H : OHr p l e R s m args below meth c Z n0 own nm code maxL ret T h ce sl) {i : Nat} {v : Int32} (hd : decode code pc = .ok (.ldc i, 2)) (w : (Cond.constant own i v).before a0 Z = true) (k : OEnds p e below s n0 Q C S T (mkF m (pc + 2) Ls (.int v :: st))) : OEnds p e below s n0 Q C S T (mkF m pc Ls st) := by
  obtain ⟨⟨hx, hZ, hby, hml, hown, hnm, hrt, hlk⟩, locs, X, eT, N, z0⟩ := H
  exact go (X.ldcInt hx hown (mvT hZ w) rfl (hb hby hd)) k
theorem ldc2_w (H : OHr p l e R s m args below meth c Z n0 own nm code maxL ret T h ce sl) {i : Nat} {v : Int64} (hd : decode code pc = .ok (.ldc2_w i, 3)) (w : (Cond.constantLong own i v).before a0 Z = true) (k : OEnds p e below s n0 Q C S T (mkF m (pc + 3) Ls (.long v :: st))) : OEnds p e below s n0 Q C S T (mkF m pc Ls st) := by
  obtain ⟨⟨hx, hZ, hby, hml, hown, hnm, hrt, hlk⟩, locs, X, eT, N, z0⟩ := H
  exact go (X.ldc2Long hx hown (mvT hZ w) rfl (hb hby hd)) k
theorem iadd (H : OHr p l e R s m args below meth c Z n0 own nm code maxL ret T h ce sl) {x y : Int32} (hd : decode code pc = .ok (.iadd, 1))  (k : OEnds p e below s n0 Q C S T (mkF m (pc + 1) Ls (.int (x + y) :: st))) : OEnds p e below s n0 Q C S T (mkF m pc Ls (.int y :: .int x :: st)) := by
  obtain ⟨⟨hx, hZ, hby, hml, hown, hnm, hrt, hlk⟩, locs, X, eT, N, z0⟩ := H
  exact go (fun t q => XS.iadd X.here hx rfl (hb hby hd) rfl q) k
theorem isub (H : OHr p l e R s m args below meth c Z n0 own nm code maxL ret T h ce sl) {x y : Int32} (hd : decode code pc = .ok (.isub, 1))  (k : OEnds p e below s n0 Q C S T (mkF m (pc + 1) Ls (.int (x - y) :: st))) : OEnds p e below s n0 Q C S T (mkF m pc Ls (.int y :: .int x :: st)) := by
  obtain ⟨⟨hx, hZ, hby, hml, hown, hnm, hrt, hlk⟩, locs, X, eT, N, z0⟩ := H
  exact go (fun t q => XS.isub X.here hx rfl (hb hby hd) rfl q) k
theorem imul (H : OHr p l e R s m args below meth c Z n0 own nm code maxL ret T h ce sl) {x y : Int32} (hd : decode code pc = .ok (.imul, 1))  (k : OEnds p e below s n0 Q C S T (mkF m (pc + 1) Ls (.int (x * y) :: st))) : OEnds p e below s n0 Q C S T (mkF m pc Ls (.int y :: .int x :: st)) := by
  obtain ⟨⟨hx, hZ, hby, hml, hown, hnm, hrt, hlk⟩, locs, X, eT, N, z0⟩ := H
  exact go (fun t q => XS.imul X.here hx rfl (hb hby hd) rfl q) k
theorem iand (H : OHr p l e R s m args below meth c Z n0 own nm code maxL ret T h ce sl) {x y : Int32} (hd : decode code pc = .ok (.iand, 1))  (k : OEnds p e below s n0 Q C S T (mkF m (pc + 1) Ls (.int (x &&& y) :: st))) : OEnds p e below s n0 Q C S T (mkF m pc Ls (.int y :: .int x :: st)) := by
  obtain ⟨⟨hx, hZ, hby, hml, hown, hnm, hrt, hlk⟩, locs, X, eT, N, z0⟩ := H
  exact go (fun t q => XS.iand X.here hx rfl (hb hby hd) rfl q) k
theorem ior (H : OHr p l e R s m args below meth c Z n0 own nm code maxL ret T h ce sl) {x y : Int32} (hd : decode code pc = .ok (.ior, 1))  (k : OEnds p e below s n0 Q C S T (mkF m (pc + 1) Ls (.int (x ||| y) :: st))) : OEnds p e below s n0 Q C S T (mkF m pc Ls (.int y :: .int x :: st)) := by
  obtain ⟨⟨hx, hZ, hby, hml, hown, hnm, hrt, hlk⟩, locs, X, eT, N, z0⟩ := H
  exact go (fun t q => XT.ior X.here hx rfl (hb hby hd) rfl q) k
theorem ixor (H : OHr p l e R s m args below meth c Z n0 own nm code maxL ret T h ce sl) {x y : Int32} (hd : decode code pc = .ok (.ixor, 1))  (k : OEnds p e below s n0 Q C S T (mkF m (pc + 1) Ls (.int (x ^^^ y) :: st))) : OEnds p e below s n0 Q C S T (mkF m pc Ls (.int y :: .int x :: st)) := by
  obtain ⟨⟨hx, hZ, hby, hml, hown, hnm, hrt, hlk⟩, locs, X, eT, N, z0⟩ := H
  exact go (fun t q => XT.ixor X.here hx rfl (hb hby hd) rfl q) k
theorem ishl (H : OHr p l e R s m args below meth c Z n0 own nm code maxL ret T h ce sl) {x y : Int32} (hd : decode code pc = .ok (.ishl, 1))  (k : OEnds p e below s n0 Q C S T (mkF m (pc + 1) Ls (.int (x <<< (y &&& 31)) :: st))) : OEnds p e below s n0 Q C S T (mkF m pc Ls (.int y :: .int x :: st)) := by
  obtain ⟨⟨hx, hZ, hby, hml, hown, hnm, hrt, hlk⟩, locs, X, eT, N, z0⟩ := H
  exact go (fun t q => XT.ishl X.here hx rfl (hb hby hd) rfl q) k
theorem ishr (H : OHr p l e R s m args below meth c Z n0 own nm code maxL ret T h ce sl) {x y : Int32} (hd : decode code pc = .ok (.ishr, 1))  (k : OEnds p e below s n0 Q C S T (mkF m (pc + 1) Ls (.int (x >>> (y &&& 31)) :: st))) : OEnds p e below s n0 Q C S T (mkF m pc Ls (.int y :: .int x :: st)) := by
  obtain ⟨⟨hx, hZ, hby, hml, hown, hnm, hrt, hlk⟩, locs, X, eT, N, z0⟩ := H
  exact go (fun t q => XT.ishr X.here hx rfl (hb hby hd) rfl q) k
theorem iushr (H : OHr p l e R s m args below meth c Z n0 own nm code maxL ret T h ce sl) {x y : Int32} (hd : decode code pc = .ok (.iushr, 1))  (k : OEnds p e below s n0 Q C S T (mkF m (pc + 1) Ls (.int (XT.ushr x y) :: st))) : OEnds p e below s n0 Q C S T (mkF m pc Ls (.int y :: .int x :: st)) := by
  obtain ⟨⟨hx, hZ, hby, hml, hown, hnm, hrt, hlk⟩, locs, X, eT, N, z0⟩ := H
  exact go (fun t q => XT.iushr X.here hx rfl (hb hby hd) rfl q) k
theorem idiv (H : OHr p l e R s m args below meth c Z n0 own nm code maxL ret T h ce sl) {x y : Int32} (hd : decode code pc = .ok (.idiv, 1)) (hy : y ≠ 0) (k : OEnds p e below s n0 Q C S T (mkF m (pc + 1) Ls (.int (x / y) :: st))) : OEnds p e below s n0 Q C S T (mkF m pc Ls (.int y :: .int x :: st)) := by
  obtain ⟨⟨hx, hZ, hby, hml, hown, hnm, hrt, hlk⟩, locs, X, eT, N, z0⟩ := H
  exact go (fun t q => XS.idiv X.here hx rfl (hb hby hd) rfl hy q) k
theorem irem (H : OHr p l e R s m args below meth c Z n0 own nm code maxL ret T h ce sl) {x y : Int32} (hd : decode code pc = .ok (.irem, 1)) (hy : y ≠ 0) (k : OEnds p e below s n0 Q C S T (mkF m (pc + 1) Ls (.int (x % y) :: st))) : OEnds p e below s n0 Q C S T (mkF m pc Ls (.int y :: .int x :: st)) := by
  obtain ⟨⟨hx, hZ, hby, hml, hown, hnm, hrt, hlk⟩, locs, X, eT, N, z0⟩ := H
  exact go (fun t q => iremM X hx rfl (hb hby hd) rfl hy q) k
theorem iadd_c (H : OHr p l e R s m args below meth c Z n0 own nm code maxL ret T h ce sl) {x y : Int32} (r : Int32) (hd : decode code pc = .ok (.iadd, 1)) (hr : x + y = r) (k : OEnds p e below s n0 Q C S T (mkF m (pc + 1) Ls (.int r :: st))) : OEnds p e below s n0 Q C S T (mkF m pc Ls (.int y :: .int x :: st)) := by
  subst hr
  exact iadd H hd k
theorem isub_c (H : OHr p l e R s m args below meth c Z n0 own nm code maxL ret T h ce sl) {x y : Int32} (r : Int32) (hd : decode code pc = .ok (.isub, 1)) (hr : x - y = r) (k : OEnds p e below s n0 Q C S T (mkF m (pc + 1) Ls (.int r :: st))) : OEnds p e below s n0 Q C S T (mkF m pc Ls (.int y :: .int x :: st)) := by
  subst hr
  exact isub H hd k
theorem imul_c (H : OHr p l e R s m args below meth c Z n0 own nm code maxL ret T h ce sl) {x y : Int32} (r : Int32) (hd : decode code pc = .ok (.imul, 1)) (hr : x * y = r) (k : OEnds p e below s n0 Q C S T (mkF m (pc + 1) Ls (.int r :: st))) : OEnds p e below s n0 Q C S T (mkF m pc Ls (.int y :: .int x :: st)) := by
  subst hr
  exact imul H hd k
theorem iand_c (H : OHr p l e R s m args below meth c Z n0 own nm code maxL ret T h ce sl) {x y : Int32} (r : Int32) (hd : decode code pc = .ok (.iand, 1)) (hr : x &&& y = r) (k : OEnds p e below s n0 Q C S T (mkF m (pc + 1) Ls (.int r :: st))) : OEnds p e below s n0 Q C S T (mkF m pc Ls (.int y :: .int x :: st)) := by
  subst hr
  exact iand H hd k
theorem ior_c (H : OHr p l e R s m args below meth c Z n0 own nm code maxL ret T h ce sl) {x y : Int32} (r : Int32) (hd : decode code pc = .ok (.ior, 1)) (hr : x ||| y = r) (k : OEnds p e below s n0 Q C S T (mkF m (pc + 1) Ls (.int r :: st))) : OEnds p e below s n0 Q C S T (mkF m pc Ls (.int y :: .int x :: st)) := by
  subst hr
  exact ior H hd k
theorem ixor_c (H : OHr p l e R s m args below meth c Z n0 own nm code maxL ret T h ce sl) {x y : Int32} (r : Int32) (hd : decode code pc = .ok (.ixor, 1)) (hr : x ^^^ y = r) (k : OEnds p e below s n0 Q C S T (mkF m (pc + 1) Ls (.int r :: st))) : OEnds p e below s n0 Q C S T (mkF m pc Ls (.int y :: .int x :: st)) := by
  subst hr
  exact ixor H hd k
theorem ishl_c (H : OHr p l e R s m args below meth c Z n0 own nm code maxL ret T h ce sl) {x y : Int32} (r : Int32) (hd : decode code pc = .ok (.ishl, 1)) (hr : x <<< (y &&& 31) = r) (k : OEnds p e below s n0 Q C S T (mkF m (pc + 1) Ls (.int r :: st))) : OEnds p e below s n0 Q C S T (mkF m pc Ls (.int y :: .int x :: st)) := by
  subst hr
  exact ishl H hd k
theorem ishr_c (H : OHr p l e R s m args below meth c Z n0 own nm code maxL ret T h ce sl) {x y : Int32} (r : Int32) (hd : decode code pc = .ok (.ishr, 1)) (hr : x >>> (y &&& 31) = r) (k : OEnds p e below s n0 Q C S T (mkF m (pc + 1) Ls (.int r :: st))) : OEnds p e below s n0 Q C S T (mkF m pc Ls (.int y :: .int x :: st)) := by
  subst hr
  exact ishr H hd k
theorem iushr_c (H : OHr p l e R s m args below meth c Z n0 own nm code maxL ret T h ce sl) {x y : Int32} (r : Int32) (hd : decode code pc = .ok (.iushr, 1)) (hr : XT.ushr x y = r) (k : OEnds p e below s n0 Q C S T (mkF m (pc + 1) Ls (.int r :: st))) : OEnds p e below s n0 Q C S T (mkF m pc Ls (.int y :: .int x :: st)) := by
  subst hr
  exact iushr H hd k
theorem idiv_c (H : OHr p l e R s m args below meth c Z n0 own nm code maxL ret T h ce sl) {x y : Int32} (r : Int32) (hd : decode code pc = .ok (.idiv, 1)) (hy : y ≠ 0) (hr : x / y = r) (k : OEnds p e below s n0 Q C S T (mkF m (pc + 1) Ls (.int r :: st))) : OEnds p e below s n0 Q C S T (mkF m pc Ls (.int y :: .int x :: st)) := by
  subst hr
  exact idiv H hd hy k
theorem irem_c (H : OHr p l e R s m args below meth c Z n0 own nm code maxL ret T h ce sl) {x y : Int32} (r : Int32) (hd : decode code pc = .ok (.irem, 1)) (hy : y ≠ 0) (hr : x % y = r) (k : OEnds p e below s n0 Q C S T (mkF m (pc + 1) Ls (.int r :: st))) : OEnds p e below s n0 Q C S T (mkF m pc Ls (.int y :: .int x :: st)) := by
  subst hr
  exact irem H hd hy k
theorem ineg (H : OHr p l e R s m args below meth c Z n0 own nm code maxL ret T h ce sl) {x : Int32} (hd : decode code pc = .ok (.ineg, 1))  (k : OEnds p e below s n0 Q C S T (mkF m (pc + 1) Ls (.int (-x) :: st))) : OEnds p e below s n0 Q C S T (mkF m pc Ls (.int x :: st)) := by
  obtain ⟨⟨hx, hZ, hby, hml, hown, hnm, hrt, hlk⟩, locs, X, eT, N, z0⟩ := H
  exact go (fun t q => XS.ineg X.here hx rfl (hb hby hd) rfl q) k
theorem ladd (H : OHr p l e R s m args below meth c Z n0 own nm code maxL ret T h ce sl) {x y : Int64} (hd : decode code pc = .ok (.ladd, 1))  (k : OEnds p e below s n0 Q C S T (mkF m (pc + 1) Ls (.long (x + y) :: st))) : OEnds p e below s n0 Q C S T (mkF m pc Ls (.long y :: .long x :: st)) := by
  obtain ⟨⟨hx, hZ, hby, hml, hown, hnm, hrt, hlk⟩, locs, X, eT, N, z0⟩ := H
  exact go (fun t q => XT.ladd X.here hx rfl (hb hby hd) rfl q) k
theorem lsub (H : OHr p l e R s m args below meth c Z n0 own nm code maxL ret T h ce sl) {x y : Int64} (hd : decode code pc = .ok (.lsub, 1))  (k : OEnds p e below s n0 Q C S T (mkF m (pc + 1) Ls (.long (x - y) :: st))) : OEnds p e below s n0 Q C S T (mkF m pc Ls (.long y :: .long x :: st)) := by
  obtain ⟨⟨hx, hZ, hby, hml, hown, hnm, hrt, hlk⟩, locs, X, eT, N, z0⟩ := H
  exact go (fun t q => XT.lsub X.here hx rfl (hb hby hd) rfl q) k
theorem lmul (H : OHr p l e R s m args below meth c Z n0 own nm code maxL ret T h ce sl) {x y : Int64} (hd : decode code pc = .ok (.lmul, 1))  (k : OEnds p e below s n0 Q C S T (mkF m (pc + 1) Ls (.long (x * y) :: st))) : OEnds p e below s n0 Q C S T (mkF m pc Ls (.long y :: .long x :: st)) := by
  obtain ⟨⟨hx, hZ, hby, hml, hown, hnm, hrt, hlk⟩, locs, X, eT, N, z0⟩ := H
  exact go (fun t q => XT.lmul X.here hx rfl (hb hby hd) rfl q) k
theorem land (H : OHr p l e R s m args below meth c Z n0 own nm code maxL ret T h ce sl) {x y : Int64} (hd : decode code pc = .ok (.land, 1))  (k : OEnds p e below s n0 Q C S T (mkF m (pc + 1) Ls (.long (x &&& y) :: st))) : OEnds p e below s n0 Q C S T (mkF m pc Ls (.long y :: .long x :: st)) := by
  obtain ⟨⟨hx, hZ, hby, hml, hown, hnm, hrt, hlk⟩, locs, X, eT, N, z0⟩ := H
  exact go (fun t q => XT.land X.here hx rfl (hb hby hd) rfl q) k
theorem lor (H : OHr p l e R s m args below meth c Z n0 own nm code maxL ret T h ce sl) {x y : Int64} (hd : decode code pc = .ok (.lor, 1))  (k : OEnds p e below s n0 Q C S T (mkF m (pc + 1) Ls (.long (x ||| y) :: st))) : OEnds p e below s n0 Q C S T (mkF m pc Ls (.long y :: .long x :: st)) := by
  obtain ⟨⟨hx, hZ, hby, hml, hown, hnm, hrt, hlk⟩, locs, X, eT, N, z0⟩ := H
  exact go (fun t q => XT.lor X.here hx rfl (hb hby hd) rfl q) k
theorem lxor (H : OHr p l e R s m args below meth c Z n0 own nm code maxL ret T h ce sl) {x y : Int64} (hd : decode code pc = .ok (.lxor, 1))  (k : OEnds p e below s n0 Q C S T (mkF m (pc + 1) Ls (.long (x ^^^ y) :: st))) : OEnds p e below s n0 Q C S T (mkF m pc Ls (.long y :: .long x :: st)) := by
  obtain ⟨⟨hx, hZ, hby, hml, hown, hnm, hrt, hlk⟩, locs, X, eT, N, z0⟩ := H
  exact go (fun t q => XT.lxor X.here hx rfl (hb hby hd) rfl q) k
theorem lshl (H : OHr p l e R s m args below meth c Z n0 own nm code maxL ret T h ce sl) {x : Int64} {y : Int32} (hd : decode code pc = .ok (.lshl, 1))  (k : OEnds p e below s n0 Q C S T (mkF m (pc + 1) Ls (.long (x <<< (y.toInt64 &&& 63)) :: st))) : OEnds p e below s n0 Q C S T (mkF m pc Ls (.int y :: .long x :: st)) := by
  obtain ⟨⟨hx, hZ, hby, hml, hown, hnm, hrt, hlk⟩, locs, X, eT, N, z0⟩ := H
  exact go (fun t q => XT.lshl X.here hx rfl (hb hby hd) rfl q) k
theorem lshr (H : OHr p l e R s m args below meth c Z n0 own nm code maxL ret T h ce sl) {x : Int64} {y : Int32} (hd : decode code pc = .ok (.lshr, 1))  (k : OEnds p e below s n0 Q C S T (mkF m (pc + 1) Ls (.long (x >>> (y.toInt64 &&& 63)) :: st))) : OEnds p e below s n0 Q C S T (mkF m pc Ls (.int y :: .long x :: st)) := by
  obtain ⟨⟨hx, hZ, hby, hml, hown, hnm, hrt, hlk⟩, locs, X, eT, N, z0⟩ := H
  exact go (fun t q => XT.lshr X.here hx rfl (hb hby hd) rfl q) k
theorem lushr (H : OHr p l e R s m args below meth c Z n0 own nm code maxL ret T h ce sl) {x : Int64} {y : Int32} (hd : decode code pc = .ok (.lushr, 1))  (k : OEnds p e below s n0 Q C S T (mkF m (pc + 1) Ls (.long (XT.ushrL x y) :: st))) : OEnds p e below s n0 Q C S T (mkF m pc Ls (.int y :: .long x :: st)) := by
  obtain ⟨⟨hx, hZ, hby, hml, hown, hnm, hrt, hlk⟩, locs, X, eT, N, z0⟩ := H
  exact go (fun t q => XT.lushr X.here hx rfl (hb hby hd) rfl q) k
theorem lneg (H : OHr p l e R s m args below meth c Z n0 own nm code maxL ret T h ce sl) {x : Int64} (hd : decode code pc = .ok (.lneg, 1))  (k : OEnds p e below s n0 Q C S T (mkF m (pc + 1) Ls (.long (-x) :: st))) : OEnds p e below s n0 Q C S T (mkF m pc Ls (.long x :: st)) := by
  obtain ⟨⟨hx, hZ, hby, hml, hown, hnm, hrt, hlk⟩, locs, X, eT, N, z0⟩ := H
  exact go (fun t q => XT.lneg X.here hx rfl (hb hby hd) rfl q) k
theorem i2l (H : OHr p l e R s m args below meth c Z n0 own nm code maxL ret T h ce sl) {x : Int32} (hd : decode code pc = .ok (.i2l, 1))  (k : OEnds p e below s n0 Q C S T (mkF m (pc + 1) Ls (.long x.toInt64 :: st))) : OEnds p e below s n0 Q C S T (mkF m pc Ls (.int x :: st)) := by
  obtain ⟨⟨hx, hZ, hby, hml, hown, hnm, hrt, hlk⟩, locs, X, eT, N, z0⟩ := H
  exact go (fun t q => XT.i2l X.here hx rfl (hb hby hd) rfl q) k
theorem l2i (H : OHr p l e R s m args below meth c Z n0 own nm code maxL ret T h ce sl) {x : Int64} (hd : decode code pc = .ok (.l2i, 1))  (k : OEnds p e below s n0 Q C S T (mkF m (pc + 1) Ls (.int x.toInt32 :: st))) : OEnds p e below s n0 Q C S T (mkF m pc Ls (.long x :: st)) := by
  obtain ⟨⟨hx, hZ, hby, hml, hown, hnm, hrt, hlk⟩, locs, X, eT, N, z0⟩ := H
  exact go (fun t q => XT.l2i X.here hx rfl (hb hby hd) rfl q) k
theorem i2b (H : OHr p l e R s m args below meth c Z n0 own nm code maxL ret T h ce sl) {x : Int32} (hd : decode code pc = .ok (.i2b, 1))  (k : OEnds p e below s n0 Q C S T (mkF m (pc + 1) Ls (.int x.toInt8.toInt32 :: st))) : OEnds p e below s n0 Q C S T (mkF m pc Ls (.int x :: st)) := by
  obtain ⟨⟨hx, hZ, hby, hml, hown, hnm, hrt, hlk⟩, locs, X, eT, N, z0⟩ := H
  exact go (fun t q => XT.i2b X.here hx rfl (hb hby hd) rfl q) k
theorem i2c (H : OHr p l e R s m args below meth c Z n0 own nm code maxL ret T h ce sl) {x : Int32} (hd : decode code pc = .ok (.i2c, 1))  (k : OEnds p e below s n0 Q C S T (mkF m (pc + 1) Ls (.int x.toUInt32.toUInt16.toUInt32.toInt32 :: st))) : OEnds p e below s n0 Q C S T (mkF m pc Ls (.int x :: st)) := by
  obtain ⟨⟨hx, hZ, hby, hml, hown, hnm, hrt, hlk⟩, locs, X, eT, N, z0⟩ := H
  exact go (fun t q => XT.i2c X.here hx rfl (hb hby hd) rfl q) k
theorem lcmp (H : OHr p l e R s m args below meth c Z n0 own nm code maxL ret T h ce sl) {x y : Int64} (hd : decode code pc = .ok (.lcmp, 1))  (k : OEnds p e below s n0 Q C S T (mkF m (pc + 1) Ls (.int (XT.cmpL x y) :: st))) : OEnds p e below s n0 Q C S T (mkF m pc Ls (.long y :: .long x :: st)) := by
  obtain ⟨⟨hx, hZ, hby, hml, hown, hnm, hrt, hlk⟩, locs, X, eT, N, z0⟩ := H
  exact go (fun t q => XT.lcmp X.here hx rfl (hb hby hd) rfl q) k
theorem dup (H : OHr p l e R s m args below meth c Z n0 own nm code maxL ret T h ce sl) {x : Value} (hd : decode code pc = .ok (.dup, 1)) (hc : x.category = 1) (k : OEnds p e below s n0 Q C S T (mkF m (pc + 1) Ls (x :: x :: st))) : OEnds p e below s n0 Q C S T (mkF m pc Ls (x :: st)) := by
  obtain ⟨⟨hx, hZ, hby, hml, hown, hnm, hrt, hlk⟩, locs, X, eT, N, z0⟩ := H
  exact go (fun t q => XS.dup X.here hx rfl (hb hby hd) rfl hc q) k
theorem pop (H : OHr p l e R s m args below meth c Z n0 own nm code maxL ret T h ce sl) {x : Value} (hd : decode code pc = .ok (.pop, 1)) (hc : x.category = 1) (k : OEnds p e below s n0 Q C S T (mkF m (pc + 1) Ls (st))) : OEnds p e below s n0 Q C S T (mkF m pc Ls (x :: st)) := by
  obtain ⟨⟨hx, hZ, hby, hml, hown, hnm, hrt, hlk⟩, locs, X, eT, N, z0⟩ := H
  exact go (fun t q => XT.pop X.here hx rfl (hb hby hd) rfl hc q) k
theorem dup_x1 (H : OHr p l e R s m args below meth c Z n0 own nm code maxL ret T h ce sl) {x y : Value} (hd : decode code pc = .ok (.dup_x1, 1)) (hc : x.category = 1) (hc' : y.category = 1) (k : OEnds p e below s n0 Q C S T (mkF m (pc + 1) Ls (x :: y :: x :: st))) : OEnds p e below s n0 Q C S T (mkF m pc Ls (x :: y :: st)) := by
  obtain ⟨⟨hx, hZ, hby, hml, hown, hnm, hrt, hlk⟩, locs, X, eT, N, z0⟩ := H
  exact go (fun t q => XT.dupX1 X.here hx rfl (hb hby hd) rfl hc hc' q) k
theorem dup2 (H : OHr p l e R s m args below meth c Z n0 own nm code maxL ret T h ce sl) {x y : Value} (hd : decode code pc = .ok (.dup2, 1)) (hc : x.category = 1) (hc' : y.category = 1) (k : OEnds p e below s n0 Q C S T (mkF m (pc + 1) Ls (x :: y :: x :: y :: st))) : OEnds p e below s n0 Q C S T (mkF m pc Ls (x :: y :: st)) := by
  obtain ⟨⟨hx, hZ, hby, hml, hown, hnm, hrt, hlk⟩, locs, X, eT, N, z0⟩ := H
  exact go (fun t q => XT.dup2 X.here hx rfl (hb hby hd) rfl hc hc' q) k
theorem goto (H : OHr p l e R s m args below meth c Z n0 own nm code maxL ret T h ce sl) {o : Int} (pc' : Nat) (hd : decode code pc = .ok (.goto o, 3)) (ho : 0 ≤ (pc : Int) + o) (hp : ((pc : Int) + o).toNat = pc') (k : OEnds p e below s n0 Q C S T (mkF m pc' Ls st)) : OEnds p e below s n0 Q C S T (mkF m pc Ls st) := by
  obtain ⟨⟨hx, hZ, hby, hml, hown, hnm, hrt, hlk⟩, locs, X, eT, N, z0⟩ := H
  exact go (fun t q => XS.goto X.here hx rfl rfl (hb hby hd) ho hp q) k
theorem icmp_lt (H : OHr p l e R s m args below meth c Z n0 own nm code maxL ret T h ce sl) {x y : Int32} {o : Int} (pc' : Nat) (hd : decode code pc = .ok (.if_icmp .lt o, 3)) (ho : 0 ≤ (pc : Int) + o) (hp : ((pc : Int) + o).toNat = pc') (kt : x < y → OEnds p e below s n0 Q C S T (mkF m pc' Ls st)) (kf : ¬ x < y → OEnds p e below s n0 Q C S T (mkF m (pc + 3) Ls st)) : OEnds p e below s n0 Q C S T (mkF m pc Ls (.int y :: .int x :: st)) := by
  obtain ⟨⟨hx, hZ, hby, hml, hown, hnm, hrt, hlk⟩, locs, X, eT, N, z0⟩ := H
  by_cases q : x < y
  · exact go (fun t r => XS.icmpYes X.here hx rfl rfl (hb hby hd) rfl (tlt q).1 ho hp r) (kt q)
  · exact go (fun t r => XS.icmpNo X.here hx rfl (hb hby hd) rfl (flt q).1 r) (kf q)
theorem if_lt (H : OHr p l e R s m args below meth c Z n0 own nm code maxL ret T h ce sl) {x : Int32} {o : Int} (pc' : Nat) (hd : decode code pc = .ok (.ifCond .lt o, 3)) (ho : 0 ≤ (pc : Int) + o) (hp : ((pc : Int) + o).toNat = pc') (kt : x < (0 : Int32) → OEnds p e below s n0 Q C S T (mkF m pc' Ls st)) (kf : ¬ x < (0 : Int32) → OEnds p e below s n0 Q C S T (mkF m (pc + 3) Ls st)) : OEnds p e below s n0 Q C S T (mkF m pc Ls (.int x :: st)) := by
  obtain ⟨⟨hx, hZ, hby, hml, hown, hnm, hrt, hlk⟩, locs, X, eT, N, z0⟩ := H
  by_cases q : x < (0 : Int32)
  · exact go (fun t r => XS.ifYes X.here hx rfl rfl (hb hby hd) rfl ((if0 _ _).trans (tlt q).1) ho hp r) (kt q)
  · exact go (fun t r => XS.ifNo X.here hx rfl (hb hby hd) rfl ((if0 _ _).trans (flt q).1) r) (kf q)
theorem icmp_ge (H : OHr p l e R s m args below meth c Z n0 own nm code maxL ret T h ce sl) {x y : Int32} {o : Int} (pc' : Nat) (hd : decode code pc = .ok (.if_icmp .ge o, 3)) (ho : 0 ≤ (pc : Int) + o) (hp : ((pc : Int) + o).toNat = pc') (kt : ¬ x < y → OEnds p e below s n0 Q C S T (mkF m pc' Ls st)) (kf : x < y → OEnds p e below s n0 Q C S T (mkF m (pc + 3) Ls st)) : OEnds p e below s n0 Q C S T (mkF m pc Ls (.int y :: .int x :: st)) := by
  obtain ⟨⟨hx, hZ, hby, hml, hown, hnm, hrt, hlk⟩, locs, X, eT, N, z0⟩ := H
  by_cases q : x < y
  · exact go (fun t r => XS.icmpNo X.here hx rfl (hb hby hd) rfl (tlt q).2.1 r) (kf q)
  · exact go (fun t r => XS.icmpYes X.here hx rfl rfl (hb hby hd) rfl (flt q).2.1 ho hp r) (kt q)
theorem if_ge (H : OHr p l e R s m args below meth c Z n0 own nm code maxL ret T h ce sl) {x : Int32} {o : Int} (pc' : Nat) (hd : decode code pc = .ok (.ifCond .ge o, 3)) (ho : 0 ≤ (pc : Int) + o) (hp : ((pc : Int) + o).toNat = pc') (kt : ¬ x < (0 : Int32) → OEnds p e below s n0 Q C S T (mkF m pc' Ls st)) (kf : x < (0 : Int32) → OEnds p e below s n0 Q C S T (mkF m (pc + 3) Ls st)) : OEnds p e below s n0 Q C S T (mkF m pc Ls (.int x :: st)) := by
  obtain ⟨⟨hx, hZ, hby, hml, hown, hnm, hrt, hlk⟩, locs, X, eT, N, z0⟩ := H
  by_cases q : x < (0 : Int32)
  · exact go (fun t r => XS.ifNo X.here hx rfl (hb hby hd) rfl ((if0 _ _).trans (tlt q).2.1) r) (kf q)
  · exact go (fun t r => XS.ifYes X.here hx rfl rfl (hb hby hd) rfl ((if0 _ _).trans (flt q).2.1) ho hp r) (kt q)
theorem icmp_gt (H : OHr p l e R s m args below meth c Z n0 own nm code maxL ret T h ce sl) {x y : Int32} {o : Int} (pc' : Nat) (hd : decode code pc = .ok (.if_icmp .gt o, 3)) (ho : 0 ≤ (pc : Int) + o) (hp : ((pc : Int) + o).toNat = pc') (kt : y < x → OEnds p e below s n0 Q C S T (mkF m pc' Ls st)) (kf : ¬ y < x → OEnds p e below s n0 Q C S T (mkF m (pc + 3) Ls st)) : OEnds p e below s n0 Q C S T (mkF m pc Ls (.int y :: .int x :: st)) := by
  obtain ⟨⟨hx, hZ, hby, hml, hown, hnm, hrt, hlk⟩, locs, X, eT, N, z0⟩ := H
  by_cases q : y < x
  · exact go (fun t r => XS.icmpYes X.here hx rfl rfl (hb hby hd) rfl (tlt q).2.2.1 ho hp r) (kt q)
  · exact go (fun t r => XS.icmpNo X.here hx rfl (hb hby hd) rfl (flt q).2.2.1 r) (kf q)
theorem if_gt (H : OHr p l e R s m args below meth c Z n0 own nm code maxL ret T h ce sl) {x : Int32} {o : Int} (pc' : Nat) (hd : decode code pc = .ok (.ifCond .gt o, 3)) (ho : 0 ≤ (pc : Int) + o) (hp : ((pc : Int) + o).toNat = pc') (kt : (0 : Int32) < x → OEnds p e below s n0 Q C S T (mkF m pc' Ls st)) (kf : ¬ (0 : Int32) < x → OEnds p e below s n0 Q C S T (mkF m (pc + 3) Ls st)) : OEnds p e below s n0 Q C S T (mkF m pc Ls (.int x :: st)) := by
  obtain ⟨⟨hx, hZ, hby, hml, hown, hnm, hrt, hlk⟩, locs, X, eT, N, z0⟩ := H
  by_cases q : (0 : Int32) < x
  · exact go (fun t r => XS.ifYes X.here hx rfl rfl (hb hby hd) rfl ((if0 _ _).trans (tlt q).2.2.1) ho hp r) (kt q)
  · exact go (fun t r => XS.ifNo X.here hx rfl (hb hby hd) rfl ((if0 _ _).trans (flt q).2.2.1) r) (kf q)
theorem icmp_le (H : OHr p l e R s m args below meth c Z n0 own nm code maxL ret T h ce sl) {x y : Int32} {o : Int} (pc' : Nat) (hd : decode code pc = .ok (.if_icmp .le o, 3)) (ho : 0 ≤ (pc : Int) + o) (hp : ((pc : Int) + o).toNat = pc') (kt : ¬ y < x → OEnds p e below s n0 Q C S T (mkF m pc' Ls st)) (kf : y < x → OEnds p e below s n0 Q C S T (mkF m (pc + 3) Ls st)) : OEnds p e below s n0 Q C S T (mkF m pc Ls (.int y :: .int x :: st)) := by
  obtain ⟨⟨hx, hZ, hby, hml, hown, hnm, hrt, hlk⟩, locs, X, eT, N, z0⟩ := H
  by_cases q : y < x
  · exact go (fun t r => XS.icmpNo X.here hx rfl (hb hby hd) rfl (tlt q).2.2.2 r) (kf q)
  · exact go (fun t r => XS.icmpYes X.here hx rfl rfl (hb hby hd) rfl (flt q).2.2.2 ho hp r) (kt q)
theorem if_le (H : OHr p l e R s m args below meth c Z n0 own nm code maxL ret T h ce sl) {x : Int32} {o : Int} (pc' : Nat) (hd : decode code pc = .ok (.ifCond .le o, 3)) (ho : 0 ≤ (pc : Int) + o) (hp : ((pc : Int) + o).toNat = pc') (kt : ¬ (0 : Int32) < x → OEnds p e below s n0 Q C S T (mkF m pc' Ls st)) (kf : (0 : Int32) < x → OEnds p e below s n0 Q C S T (mkF m (pc + 3) Ls st)) : OEnds p e below s n0 Q C S T (mkF m pc Ls (.int x :: st)) := by
  obtain ⟨⟨hx, hZ, hby, hml, hown, hnm, hrt, hlk⟩, locs, X, eT, N, z0⟩ := H
  by_cases q : (0 : Int32) < x
  · exact go (fun t r => XS.ifNo X.here hx rfl (hb hby hd) rfl ((if0 _ _).trans (tlt q).2.2.2) r) (kf q)
  · exact go (fun t r => XS.ifYes X.here hx rfl rfl (hb hby hd) rfl ((if0 _ _).trans (flt q).2.2.2) ho hp r) (kt q)
theorem icmp_eq (H : OHr p l e R s m args below meth c Z n0 own nm code maxL ret T h ce sl) {x y : Int32} {o : Int} (pc' : Nat) (hd : decode code pc = .ok (.if_icmp .eq o, 3)) (ho : 0 ≤ (pc : Int) + o) (hp : ((pc : Int) + o).toNat = pc') (kt : x = y → OEnds p e below s n0 Q C S T (mkF m pc' Ls st)) (kf : ¬ x = y → OEnds p e below s n0 Q C S T (mkF m (pc + 3) Ls st)) : OEnds p e below s n0 Q C S T (mkF m pc Ls (.int y :: .int x :: st)) := by
  obtain ⟨⟨hx, hZ, hby, hml, hown, hnm, hrt, hlk⟩, locs, X, eT, N, z0⟩ := H
  by_cases q : x = y
  · exact go (fun t r => XS.icmpYes X.here hx rfl rfl (hb hby hd) rfl (teq q).1 ho hp r) (kt q)
  · exact go (fun t r => XS.icmpNo X.here hx rfl (hb hby hd) rfl (feq q).1 r) (kf q)
theorem if_eq (H : OHr p l e R s m args below meth c Z n0 own nm code maxL ret T h ce sl) {x : Int32} {o : Int} (pc' : Nat) (hd : decode code pc = .ok (.ifCond .eq o, 3)) (ho : 0 ≤ (pc : Int) + o) (hp : ((pc : Int) + o).toNat = pc') (kt : x = (0 : Int32) → OEnds p e below s n0 Q C S T (mkF m pc' Ls st)) (kf : ¬ x = (0 : Int32) → OEnds p e below s n0 Q C S T (mkF m (pc + 3) Ls st)) : OEnds p e below s n0 Q C S T (mkF m pc Ls (.int x :: st)) := by
  obtain ⟨⟨hx, hZ, hby, hml, hown, hnm, hrt, hlk⟩, locs, X, eT, N, z0⟩ := H
  by_cases q : x = (0 : Int32)
  · exact go (fun t r => XS.ifYes X.here hx rfl rfl (hb hby hd) rfl ((if0 _ _).trans (teq q).1) ho hp r) (kt q)
  · exact go (fun t r => XS.ifNo X.here hx rfl (hb hby hd) rfl ((if0 _ _).trans (feq q).1) r) (kf q)
theorem icmp_ne (H : OHr p l e R s m args below meth c Z n0 own nm code maxL ret T h ce sl) {x y : Int32} {o : Int} (pc' : Nat) (hd : decode code pc = .ok (.if_icmp .ne o, 3)) (ho : 0 ≤ (pc : Int) + o) (hp : ((pc : Int) + o).toNat = pc') (kt : ¬ x = y → OEnds p e below s n0 Q C S T (mkF m pc' Ls st)) (kf : x = y → OEnds p e below s n0 Q C S T (mkF m (pc + 3) Ls st)) : OEnds p e below s n0 Q C S T (mkF m pc Ls (.int y :: .int x :: st)) := by
  obtain ⟨⟨hx, hZ, hby, hml, hown, hnm, hrt, hlk⟩, locs, X, eT, N, z0⟩ := H
  by_cases q : x = y
  · exact go (fun t r => XS.icmpNo X.here hx rfl (hb hby hd) rfl (teq q).2 r) (kf q)
  · exact go (fun t r => XS.icmpYes X.here hx rfl rfl (hb hby hd) rfl (feq q).2 ho hp r) (kt q)
theorem if_ne (H : OHr p l e R s m args below meth c Z n0 own nm code maxL ret T h ce sl) {x : Int32} {o : Int} (pc' : Nat) (hd : decode code pc = .ok (.ifCond .ne o, 3)) (ho : 0 ≤ (pc : Int) + o) (hp : ((pc : Int) + o).toNat = pc') (kt : ¬ x = (0 : Int32) → OEnds p e below s n0 Q C S T (mkF m pc' Ls st)) (kf : x = (0 : Int32) → OEnds p e below s n0 Q C S T (mkF m (pc + 3) Ls st)) : OEnds p e below s n0 Q C S T (mkF m pc Ls (.int x :: st)) := by
  obtain ⟨⟨hx, hZ, hby, hml, hown, hnm, hrt, hlk⟩, locs, X, eT, N, z0⟩ := H
  by_cases q : x = (0 : Int32)
  · exact go (fun t r => XS.ifNo X.here hx rfl (hb hby hd) rfl ((if0 _ _).trans (teq q).2) r) (kf q)
  · exact go (fun t r => XS.ifYes X.here hx rfl rfl (hb hby hd) rfl ((if0 _ _).trans (feq q).2) ho hp r) (kt q)
theorem ifnull_ref (H : OHr p l e R s m args below meth c Z n0 own nm code maxL ret T h ce sl) {o : Int} {b : Addr} (hd : decode code pc = .ok (.ifnull o, 3)) (k : OEnds p e below s n0 Q C S T (mkF m (pc + 3) Ls st)) : OEnds p e below s n0 Q C S T (mkF m pc Ls (.ref b :: st)) := by
  obtain ⟨⟨hx, hZ, hby, hml, hown, hnm, hrt, hlk⟩, locs, X, eT, N, z0⟩ := H
  exact go (fun t q => XS.ifnullNo X.here hx rfl (hb hby hd) rfl q) k
theorem ifnonnull_ref (H : OHr p l e R s m args below meth c Z n0 own nm code maxL ret T h ce sl) {o : Int} {b : Addr} (pc' : Nat) (hd : decode code pc = .ok (.ifnonnull o, 3)) (ho : 0 ≤ (pc : Int) + o) (hp : ((pc : Int) + o).toNat = pc') (k : OEnds p e below s n0 Q C S T (mkF m pc' Ls st)) : OEnds p e below s n0 Q C S T (mkF m pc Ls (.ref b :: st)) := by
  obtain ⟨⟨hx, hZ, hby, hml, hown, hnm, hrt, hlk⟩, locs, X, eT, N, z0⟩ := H
  exact go (fun t q => XT.ifnonnullYes X.here hx rfl rfl (hb hby hd) rfl ho hp q) k
theorem acmp_ne (H : OHr p l e R s m args below meth c Z n0 own nm code maxL ret T h ce sl) {x y : Value} {o : Int} (pc' : Nat) (hd : decode code pc = .ok (.if_acmp .ne o, 3)) (h1 : x.isRef = true) (h2 : y.isRef = true) (ho : 0 ≤ (pc : Int) + o) (hp : ((pc : Int) + o).toNat = pc') (kt : ¬ x = y → OEnds p e below s n0 Q C S T (mkF m pc' Ls st)) (kf : x = y → OEnds p e below s n0 Q C S T (mkF m (pc + 3) Ls st)) : OEnds p e below s n0 Q C S T (mkF m pc Ls (y :: x :: st)) := by
  obtain ⟨⟨hx, hZ, hby, hml, hown, hnm, hrt, hlk⟩, locs, X, eT, N, z0⟩ := H
  by_cases q : x = y
  · exact go (fun t r => XT.acmpNo X.here hx rfl (hb hby hd) rfl h1 h2 (by simp [XT.acmp, q]) r) (kf q)
  · exact go (fun t r => XT.acmpYes X.here hx rfl rfl (hb hby hd) rfl h1 h2 (by simp [XT.acmp, q]) ho hp r) (kt q)
theorem acmp_eq (H : OHr p l e R s m args below meth c Z n0 own nm code maxL ret T h ce sl) {x y : Value} {o : Int} (pc' : Nat) (hd : decode code pc = .ok (.if_acmp .eq o, 3)) (h1 : x.isRef = true) (h2 : y.isRef = true) (ho : 0 ≤ (pc : Int) + o) (hp : ((pc : Int) + o).toNat = pc') (kt : x = y → OEnds p e below s n0 Q C S T (mkF m pc' Ls st)) (kf : ¬ x = y → OEnds p e below s n0 Q C S T (mkF m (pc + 3) Ls st)) : OEnds p e below s n0 Q C S T (mkF m pc Ls (y :: x :: st)) := by
  obtain ⟨⟨hx, hZ, hby, hml, hown, hnm, hrt, hlk⟩, locs, X, eT, N, z0⟩ := H
  by_cases q : x = y
  · exact go (fun t r => XT.acmpYes X.here hx rfl rfl (hb hby hd) rfl h1 h2 (by simp [XT.acmp, q]) ho hp r) (kt q)
  · exact go (fun t r => XT.acmpNo X.here hx rfl (hb hby hd) rfl h1 h2 (by simp [XT.acmp, q]) r) (kf q)
theorem ret_int (H : OHr p l e R s m args below meth c Z n0 own nm code maxL ret T h ce sl) {z : Int32} (hd : decode code pc = .ok (.ireturn, 1)) (hr : ret = some .int) (hC : ce ≤ C) (hS : sl ≤ S) (hq : Q (some (.int z)) h) : OEnds p e below s n0 Q C S T (mkF m pc Ls (.int z :: st)) := by
  obtain ⟨⟨hx, hZ, hby, hml, hown, hnm, hrt, hlk⟩, locs, X, eT, N, z0⟩ := H
  obtain ⟨fs, hrr, hrun, hended, hW, hsame⟩ := X.leave (v := some (.int z)) (fun q => by rw [hrt, hr] at q; cases q) hlk
  refine ⟨_, _, ?_, hrun, hended, _, _, rfl, ⟨N, ?_⟩, ⟨_, rfl⟩, hW, hsame.mono hC hS⟩
  · exact retOut X hx (hrt.trans hr) rfl (Or.inl ⟨rfl, Or.inl rfl, _, rfl⟩) (hb hby hd) hrr
  · show Q _ T.heap
    rw [eT]; exact hq
theorem ret_nar (H : OHr p l e R s m args below meth c Z n0 own nm code maxL ret T h ce sl) {z : Int32} (w : Int32) {t : FieldType} (hd : decode code pc = .ok (.ireturn, 1)) (hr : ret = some t) (ht : t = .boolean ∨ t = .byte ∨ t = .char ∨ t = .short) (hw : nar t z = w) (hC : ce ≤ C) (hS : sl ≤ S) (hq : Q (some (.int w)) h) : OEnds p e below s n0 Q C S T (mkF m pc Ls (.int z :: st)) := by
  obtain ⟨⟨hx, hZ, hby, hml, hown, hnm, hrt, hlk⟩, locs, X, eT, N, z0⟩ := H
  subst hw
  obtain ⟨fs, hrr, hrun, hended, hW, hsame⟩ := X.leave (v := some (.int (nar t z))) (fun q => by rw [hrt, hr] at q; cases q) hlk
  refine ⟨_, _, ?_, hrun, hended, _, _, rfl, ⟨N, ?_⟩, ⟨_, rfl⟩, hW, hsame.mono hC hS⟩
  · exact retN X hx (hrt.trans hr) ht (hb hby hd) hrr
  · show Q _ T.heap
    rw [eT]; exact hq
theorem ret_long (H : OHr p l e R s m args below meth c Z n0 own nm code maxL ret T h ce sl) {z : Int64} (hd : decode code pc = .ok (.lreturn, 1)) (hr : ret = some .long) (hC : ce ≤ C) (hS : sl ≤ S) (hq : Q (some (.long z)) h) : OEnds p e below s n0 Q C S T (mkF m pc Ls (.long z :: st)) := by
  obtain ⟨⟨hx, hZ, hby, hml, hown, hnm, hrt, hlk⟩, locs, X, eT, N, z0⟩ := H
  obtain ⟨fs, hrr, hrun, hended, hW, hsame⟩ := X.leave (v := some (.long z)) (fun q => by rw [hrt, hr] at q; cases q) hlk
  refine ⟨_, _, ?_, hrun, hended, _, _, rfl, ⟨N, ?_⟩, ⟨_, rfl⟩, hW, hsame.mono hC hS⟩
  · exact retOut X hx (hrt.trans hr) rfl (Or.inr (Or.inl ⟨rfl, rfl, _, rfl⟩)) (hb hby hd) hrr
  · show Q _ T.heap
    rw [eT]; exact hq
theorem ret_ref (H : OHr p l e R s m args below meth c Z n0 own nm code maxL ret T h ce sl) {z : Value} {t : FieldType} (hd : decode code pc = .ok (.areturn, 1)) (hr : ret = some t) (ht : t.isReference = true) (hn : narrow t z = z) (hz : z.isRef = true) (hC : ce ≤ C) (hS : sl ≤ S) (hq : Q (some z) h) : OEnds p e below s n0 Q C S T (mkF m pc Ls (z :: st)) := by
  obtain ⟨⟨hx, hZ, hby, hml, hown, hnm, hrt, hlk⟩, locs, X, eT, N, z0⟩ := H
  obtain ⟨fs, hrr, hrun, hended, hW, hsame⟩ := X.leave (v := some z) (fun q => by rw [hrt, hr] at q; cases q) hlk
  refine ⟨_, _, ?_, hrun, hended, _, _, rfl, ⟨N, ?_⟩, ⟨_, rfl⟩, hW, hsame.mono hC hS⟩
  · exact retOut X hx (hrt.trans hr) hn (Or.inr (Or.inr (Or.inr (Or.inr ⟨rfl, ht, hz⟩)))) (hb hby hd) hrr
  · show Q _ T.heap
    rw [eT]; exact hq
theorem ret_void (H : OHr p l e R s m args below meth c Z n0 own nm code maxL ret T h ce sl) (hd : decode code pc = .ok (.return_, 1)) (hr : ret = none) (hC : ce ≤ C) (hS : sl ≤ S) (hq : Q none h) : OEnds p e below s n0 Q C S T (mkF m pc Ls []) := by
  obtain ⟨⟨hx, hZ, hby, hml, hown, hnm, hrt, hlk⟩, locs, X, eT, N, z0⟩ := H
  obtain ⟨fs, hrr, hrun, hended, hW, hsame⟩ := X.leave (v := none) (fun _ => rfl) hlk
  refine ⟨_, _, ?_, hrun, hended, _, _, rfl, ⟨N, ?_⟩, ⟨_, rfl⟩, hW, hsame.mono hC hS⟩
  · exact X.returnOut hx (hrt.trans hr) (hb hby hd) hrr
  · show Q _ T.heap
    rw [eT]; exact hq
theorem getfield (H : OHr p l e R s m args below meth c Z n0 own nm code maxL ret T h ce sl) {O n d : String} {idx : Nat} {a : Addr} {v : Value} (hd : decode code pc = .ok (.getfield idx, 3)) (w : (Cond.fieldLink own idx O n d).before a0 Z = true) (F : Fld Z h a O n d v) (k : ∀ T', OHr p l e R s m args below meth c Z n0 own nm code maxL ret T' h ce sl → OEnds p e below s n0 Q C S T' (mkF m (pc + 3) Ls (v :: st))) : OEnds p e below s n0 Q C S T (mkF m pc Ls (.ref a :: st)) := by
  obtain ⟨⟨hx, hZ, hby, hml, hown, hnm, hrt, hlk⟩, locs, X, eT, N, z0⟩ := H
  obtain ⟨T', X', e', q⟩ := getF X hx hZ hown (host := "") (Or.inl w) Via.refl eT F (g := mkF m pc Ls (.ref a :: st)) rfl rfl (hb hby hd)
  exact go q (k T' ⟨⟨hx, hZ, hby, hml, hown, hnm, hrt, hlk⟩, locs, X', e', N, z0⟩)
theorem putfield (H : OHr p l e R s m args below meth c Z n0 own nm code maxL ret T h ce sl) {O n d CC : String} {idx kk : Nat} {ty : FieldType} {a : Addr} {v old : Value} (hd : decode code pc = .ok (.putfield idx, 3)) (w : (Cond.fieldLink own idx O n d).before a0 Z = true) (F : Fld Z h a O n d old) (E : Exa Z h a CC) (L : (Cond.lays CC O n d).before a0 Z = true ∨ ((Cond.laysFinal CC O n d).before a0 Z = true ∧ own = O ∧ nm = "<init>")) (wi : (Cond.instantiable CC kk).before a0 Z = true) (hty : parseFieldDescriptor d = some ty) (hn : narrow ty v = v) (hf : fits ty v = true) (ge : n0 ≤ a)
    (k : ∀ T' h', OHr p l e R s m args below meth c Z n0 own nm code maxL ret T' h' ce sl → Wr h h' a (Jvm.RoadKit.slotOf Z O n d) v → OEnds p e below s n0 Q C S T' (mkF m (pc + 3) Ls st)) : OEnds p e below s n0 Q C S T (mkF m pc Ls (v :: .ref a :: st)) := by
  obtain ⟨⟨hx, hZ, hby, hml, hown, hnm, hrt, hlk⟩, locs, X, eT, N, z0⟩ := H
  obtain ⟨T', h', X', e', W, q⟩ := putF X hx hZ hown (host := "") (Or.inl w) Via.refl eT F E (by rcases L with q | ⟨q1, q2, q3⟩; exact Or.inl q; exact Or.inr ⟨q1, q2, hnm.trans q3⟩) wi hty hn hf (g := mkF m pc Ls (v :: .ref a :: st)) rfl rfl (hb hby hd)
  exact go q (k T' h' ⟨⟨hx, hZ, hby, hml, hown, hnm, hrt, hlk⟩, _, X', e', Fr.one N ge, by rw [W.size]; exact z0⟩ W)
theorem getstatic (H : OHr p l e R s m args below meth c Z n0 own nm code maxL ret T h ce sl) {O n d : String} {idx : Nat} {v : Value} (hd : decode code pc = .ok (.getstatic idx, 3)) (w : (Cond.fieldLink own idx O n d).before a0 Z = true) (F : Sta Z h O n d v) (k : ∀ T', OHr p l e R s m args below meth c Z n0 own nm code maxL ret T' h ce sl → OEnds p e below s n0 Q C S T' (mkF m (pc + 3) Ls (v :: st))) : OEnds p e below s n0 Q C S T (mkF m pc Ls st) := by
  obtain ⟨⟨hx, hZ, hby, hml, hown, hnm, hrt, hlk⟩, locs, X, eT, N, z0⟩ := H
  obtain ⟨T', X', e', q⟩ := getS (host := "") X hx hZ hown w Via.refl eT F (g := mkF m pc Ls st) rfl (hb hby hd)
  exact go q (k T' ⟨⟨hx, hZ, hby, hml, hown, hnm, hrt, hlk⟩, locs, X', e', N, z0⟩)
theorem new_ (H : OHr p l e R s m args below meth c Z n0 own nm code maxL ret T h ce sl) {CC : String} {idx n : Nat} (hd : decode code pc = .ok (.new idx, 3)) (w : (Cond.classLink own idx CC).before a0 Z = true) (wi : (Cond.instantiable CC n).before a0 Z = true) (wz : (Cond.initialized CC).before a0 Z = true) (hc : ce + 1 ≤ R.cells) (hl : sl + n ≤ R.slots)
    (k : ∀ T' h' a, a = h.size → n0 ≤ a → OHr p l e R s m args below meth c Z n0 own nm code maxL ret T' h' (ce + 1) (sl + n) → Ext h h' → Exa Z h' a CC → (∀ {O nm d : String} {ty : FieldType}, Laid Z a0 CC O nm d → parseFieldDescriptor d = some ty → Fld Z h' a O nm d (defaultValue ty)) → OEnds p e below s n0 Q C S T' (mkF m (pc + 3) Ls (.ref a :: st))) : OEnds p e below s n0 Q C S T (mkF m pc Ls st) := by
  obtain ⟨⟨hx, hZ, hby, hml, hown, hnm, hrt, hlk⟩, locs, X, eT, N, z0⟩ := H
  obtain ⟨T', h', X', e', E', A', D', -, q⟩ := newO X hx hZ hown w wi wz eT (g := mkF m pc Ls st) rfl (hb hby hd) hc hl
  exact go q (k T' h' _ rfl z0 ⟨⟨hx, hZ, hby, hml, hown, hnm, hrt, hlk⟩, locs, X', e', N, Nat.le_trans z0 E'.1⟩ E' A' D')
theorem newarray (H : OHr p l e R s m args below meth c Z n0 own nm code maxL ret T h ce sl) {aty : ArrayType} {n : Int32} {i : Nat} (cap : Nat) (hd : decode code pc = .ok (.newarray aty, 2)) (w : (Cond.arrayClass (newarray.typeOf aty)).before a0 Z = true) (hn : n.toInt = (i : Int)) (hf : fits (newarray.typeOf aty) (defaultValue (newarray.typeOf aty)) = true) (hcap : i ≤ cap) (hb8 : cap * 8 ≤ 536870912) (hc : ce + 1 ≤ R.cells) (hl : sl + cap ≤ R.slots)
    (k : ∀ T' h' a, a = h.size → n0 ≤ a → OHr p l e R s m args below meth c Z n0 own nm code maxL ret T' h' (ce + 1) (sl + cap) → Ext h h' → OAry Z h' a (newarray.typeOf aty) (List.replicate i (defaultValue (newarray.typeOf aty))) → OEnds p e below s n0 Q C S T' (mkF m (pc + 2) Ls (.ref a :: st))) : OEnds p e below s n0 Q C S T (mkF m pc Ls (.int n :: st)) := by
  obtain ⟨⟨hx, hZ, hby, hml, hown, hnm, hrt, hlk⟩, locs, X, eT, N, z0⟩ := H
  obtain ⟨n1, n2⟩ := nat_idx hn
  obtain ⟨T', h', cA, X', e', E', A', q⟩ := newP X hx hZ w eT (g := mkF m pc Ls (.int n :: st)) rfl (hb hby hd) rfl n2 (cap := cap) (by rw [n1]; exact hcap) hb8 hc hl
  exact go q (k T' h' _ rfl z0 ⟨⟨hx, hZ, hby, hml, hown, hnm, hrt, hlk⟩, locs, X', e', N, Nat.le_trans z0 E'.1⟩ E' (by have := OAry.new A' hf; rw [n1] at this; exact this))
theorem arraylength (H : OHr p l e R s m args below meth c Z n0 own nm code maxL ret T h ce sl) {a : Addr} {ty : FieldType} {vs : List Value} (n : Int32) (hd : decode code pc = .ok (.arraylength, 1)) (A : OAry Z h a ty vs) (hn : n.toInt = (vs.length : Int)) (k : OEnds p e below s n0 Q C S T (mkF m (pc + 1) Ls (.int n :: st))) : OEnds p e below s n0 Q C S T (mkF m pc Ls (.ref a :: st)) := by
  obtain ⟨⟨hx, hZ, hby, hml, hown, hnm, hrt, hlk⟩, locs, X, eT, N, z0⟩ := H
  obtain ⟨c1, A, r1, r2, r3⟩ := A
  have hsz : c1.slots.size = vs.length := by rw [← r1]; simp
  obtain ⟨n1, n2⟩ := nat_idx hn
  have e1 : c1.slots.size.toInt32 = n := by rw [hsz, ← n1]; exact (back32 n2).1
  refine go (fun t q => X.arraylength hx (cell := c1) (by rw [eT]; exact A.1) (State.isArrayOf_alike hZ.alike A.2.1) (g := mkF m pc Ls (.ref a :: st)) rfl rfl (hb hby hd) t q) ?_
  rw [e1]
  exact k
theorem iaload (H : OHr p l e R s m args below meth c Z n0 own nm code maxL ret T h ce sl) {a : Addr} {vs : List Value} {j : Int32} {v : Int32} (i : Nat) (hd : decode code pc = .ok (.iaload, 1)) (A : OAry Z h a .int vs) (hj : j.toInt = (i : Int)) (hv : vs[i]? = some (.int v)) (k : OEnds p e below s n0 Q C S T (mkF m (pc + 1) Ls (.int v :: st))) : OEnds p e below s n0 Q C S T (mkF m pc Ls (.int j :: .ref a :: st)) := by
  obtain ⟨⟨hx, hZ, hby, hml, hown, hnm, hrt, hlk⟩, locs, X, eT, N, z0⟩ := H
  obtain ⟨c1, A, r1, r2, r3⟩ := A
  have hsz : c1.slots.size = vs.length := by rw [← r1]; simp
  obtain ⟨n1, n2⟩ := nat_idx hj
  have hi : i < vs.length := by rcases Nat.lt_or_ge i vs.length with q | q; exact q; rw [List.getElem?_eq_none q] at hv; cases hv
  have hat : c1.slots[j.toNatClampNeg]? = some (.int v) := by rw [n1, ← Array.getElem?_toList, r1]; exact hv
  have hin : ¬ (j < 0 ∨ c1.slots.size ≤ j.toNatClampNeg) := by rw [n1, hsz]; intro q; rcases q with q | q; exact n2 q; omega
  exact go (fun t q => X.iaload hx (by rw [eT]; exact A.1) (State.isArrayOf_alike hZ.alike A.2.1) A.2.2 hin hat (g := mkF m pc Ls (.int j :: .ref a :: st)) rfl rfl (hb hby hd) t q) k
theorem laload (H : OHr p l e R s m args below meth c Z n0 own nm code maxL ret T h ce sl) {a : Addr} {vs : List Value} {j : Int32} {v : Int64} (i : Nat) (hd : decode code pc = .ok (.laload, 1)) (A : OAry Z h a .long vs) (hj : j.toInt = (i : Int)) (hv : vs[i]? = some (.long v)) (k : OEnds p e below s n0 Q C S T (mkF m (pc + 1) Ls (.long v :: st))) : OEnds p e below s n0 Q C S T (mkF m pc Ls (.int j :: .ref a :: st)) := by
  obtain ⟨⟨hx, hZ, hby, hml, hown, hnm, hrt, hlk⟩, locs, X, eT, N, z0⟩ := H
  obtain ⟨c1, A, r1, r2, r3⟩ := A
  have hsz : c1.slots.size = vs.length := by rw [← r1]; simp
  obtain ⟨n1, n2⟩ := nat_idx hj
  have hi : i < vs.length := by rcases Nat.lt_or_ge i vs.length with q | q; exact q; rw [List.getElem?_eq_none q] at hv; cases hv
  have hat : c1.slots[j.toNatClampNeg]? = some (.long v) := by rw [n1, ← Array.getElem?_toList, r1]; exact hv
  have hin : ¬ (j < 0 ∨ c1.slots.size ≤ j.toNatClampNeg) := by rw [n1, hsz]; intro q; rcases q with q | q; exact n2 q; omega
  exact go (fun t q => X.laload hx (by rw [eT]; exact A.1) (State.isArrayOf_alike hZ.alike A.2.1) A.2.2 hin hat (g := mkF m pc Ls (.int j :: .ref a :: st)) rfl rfl (hb hby hd) t q) k
theorem caload (H : OHr p l e R s m args below meth c Z n0 own nm code maxL ret T h ce sl) {a : Addr} {vs : List Value} {j : Int32} {v : Int32} (i : Nat) (hd : decode code pc = .ok (.caload, 1)) (A : OAry Z h a .char vs) (hj : j.toInt = (i : Int)) (hv : vs[i]? = some (.int v)) (k : OEnds p e below s n0 Q C S T (mkF m (pc + 1) Ls (.int v :: st))) : OEnds p e below s n0 Q C S T (mkF m pc Ls (.int j :: .ref a :: st)) := by
  obtain ⟨⟨hx, hZ, hby, hml, hown, hnm, hrt, hlk⟩, locs, X, eT, N, z0⟩ := H
  obtain ⟨c1, A, r1, r2, r3⟩ := A
  have hsz : c1.slots.size = vs.length := by rw [← r1]; simp
  obtain ⟨n1, n2⟩ := nat_idx hj
  have hi : i < vs.length := by rcases Nat.lt_or_ge i vs.length with q | q; exact q; rw [List.getElem?_eq_none q] at hv; cases hv
  have hat : c1.slots[j.toNatClampNeg]? = some (.int v) := by rw [n1, ← Array.getElem?_toList, r1]; exact hv
  have hin : ¬ (j < 0 ∨ c1.slots.size ≤ j.toNatClampNeg) := by rw [n1, hsz]; intro q; rcases q with q | q; exact n2 q; omega
  exact go (fun t q => X.caload hx (by rw [eT]; exact A.1) (State.isArrayOf_alike hZ.alike A.2.1) A.2.2 hin hat (g := mkF m pc Ls (.int j :: .ref a :: st)) rfl rfl (hb hby hd) t q) k
theorem baload (H : OHr p l e R s m args below meth c Z n0 own nm code maxL ret T h ce sl) {a : Addr} {vs : List Value} {j : Int32} {v : Int32} (i : Nat) (hd : decode code pc = .ok (.baload, 1)) (A : OAry Z h a .byte vs) (hj : j.toInt = (i : Int)) (hv : vs[i]? = some (.int v)) (k : OEnds p e below s n0 Q C S T (mkF m (pc + 1) Ls (.int v :: st))) : OEnds p e below s n0 Q C S T (mkF m pc Ls (.int j :: .ref a :: st)) := by
  obtain ⟨⟨hx, hZ, hby, hml, hown, hnm, hrt, hlk⟩, locs, X, eT, N, z0⟩ := H
  obtain ⟨c1, A, r1, r2, r3⟩ := A
  have hsz : c1.slots.size = vs.length := by rw [← r1]; simp
  obtain ⟨n1, n2⟩ := nat_idx hj
  have hi : i < vs.length := by rcases Nat.lt_or_ge i vs.length with q | q; exact q; rw [List.getElem?_eq_none q] at hv; cases hv
  have hat : c1.slots[j.toNatClampNeg]? = some (.int v) := by rw [n1, ← Array.getElem?_toList, r1]; exact hv
  have hin : ¬ (j < 0 ∨ c1.slots.size ≤ j.toNatClampNeg) := by rw [n1, hsz]; intro q; rcases q with q | q; exact n2 q; omega
  exact go (fun t q => X.baloadBytes hx (by rw [eT]; exact A.1) (State.isArrayOf_alike hZ.alike A.2.1) A.2.2 hin hat (g := mkF m pc Ls (.int j :: .ref a :: st)) rfl rfl (hb hby hd) t q) k
theorem aaload (H : OHr p l e R s m args below meth c Z n0 own nm code maxL ret T h ce sl) {a : Addr} {ty : FieldType} {vs : List Value} {j : Int32} {v : Value} (i : Nat) (hd : decode code pc = .ok (.aaload, 1)) (A : OAry Z h a ty vs) (ht : ty.isReference = true) (hj : j.toInt = (i : Int)) (hv : vs[i]? = some v) (k : OEnds p e below s n0 Q C S T (mkF m (pc + 1) Ls (v :: st))) : OEnds p e below s n0 Q C S T (mkF m pc Ls (.int j :: .ref a :: st)) := by
  obtain ⟨⟨hx, hZ, hby, hml, hown, hnm, hrt, hlk⟩, locs, X, eT, N, z0⟩ := H
  obtain ⟨c1, A, r1, r2, r3⟩ := A
  have hsz : c1.slots.size = vs.length := by rw [← r1]; simp
  obtain ⟨n1, n2⟩ := nat_idx hj
  have hi : i < vs.length := by rcases Nat.lt_or_ge i vs.length with q | q; exact q; rw [List.getElem?_eq_none q] at hv; cases hv
  have hat : c1.slots[j.toNatClampNeg]? = some v := by rw [n1, ← Array.getElem?_toList, r1]; exact hv
  have hin : ¬ (j < 0 ∨ c1.slots.size ≤ j.toNatClampNeg) := by rw [n1, hsz]; intro q; rcases q with q | q; exact n2 q; omega
  exact go (fun t q => X.aaload hx (by rw [eT]; exact A.1) (State.isArrayOf_alike hZ.alike A.2.1) ht A.2.2 hin hat (g := mkF m pc Ls (.int j :: .ref a :: st)) rfl rfl (hb hby hd) t q) k
theorem iastore (H : OHr p l e R s m args below meth c Z n0 own nm code maxL ret T h ce sl) {a : Addr} {vs : List Value} {j : Int32} {v : Int32} (i : Nat) (hd : decode code pc = .ok (.iastore, 1)) (A : OAry Z h a .int vs) (ge : n0 ≤ a) (hj : j.toInt = (i : Int)) (hi : i < vs.length) (k : ∀ T' h', OHr p l e R s m args below meth c Z n0 own nm code maxL ret T' h' ce sl → Wr h h' a i (.int v) → OAry Z h' a .int (vs.set i (.int v)) → OEnds p e below s n0 Q C S T' (mkF m (pc + 1) Ls st)) : OEnds p e below s n0 Q C S T (mkF m pc Ls (.int v :: .int j :: .ref a :: st)) := by
  obtain ⟨⟨hx, hZ, hby, hml, hown, hnm, hrt, hlk⟩, locs, X, eT, N, z0⟩ := H
  have A0 := A
  obtain ⟨c1, A, r1, r2, r3⟩ := A
  have hsz : c1.slots.size = vs.length := by rw [← r1]; simp
  obtain ⟨n1, n2⟩ := nat_idx hj
  have hin : ¬ (j < 0 ∨ c1.slots.size ≤ j.toNatClampNeg) := by rw [n1, hsz]; intro q; rcases q with q | q; exact n2 q; omega
  obtain ⟨T', h', X', e', W, q⟩ := stI X hx hZ eT A hin (g := mkF m pc Ls (.int v :: .int j :: .ref a :: st)) rfl rfl (hb hby hd)
  rw [n1] at X' W
  exact go q (k T' h' ⟨⟨hx, hZ, hby, hml, hown, hnm, hrt, hlk⟩, _, X', e', Fr.one N ge, by rw [W.size]; exact z0⟩ W (A0.wr W rfl))
theorem lastore (H : OHr p l e R s m args below meth c Z n0 own nm code maxL ret T h ce sl) {a : Addr} {vs : List Value} {j : Int32} {v : Int64} (i : Nat) (hd : decode code pc = .ok (.lastore, 1)) (A : OAry Z h a .long vs) (ge : n0 ≤ a) (hj : j.toInt = (i : Int)) (hi : i < vs.length) (k : ∀ T' h', OHr p l e R s m args below meth c Z n0 own nm code maxL ret T' h' ce sl → Wr h h' a i (.long v) → OAry Z h' a .long (vs.set i (.long v)) → OEnds p e below s n0 Q C S T' (mkF m (pc + 1) Ls st)) : OEnds p e below s n0 Q C S T (mkF m pc Ls (.long v :: .int j :: .ref a :: st)) := by
  obtain ⟨⟨hx, hZ, hby, hml, hown, hnm, hrt, hlk⟩, locs, X, eT, N, z0⟩ := H
  have A0 := A
  obtain ⟨c1, A, r1, r2, r3⟩ := A
  have hsz : c1.slots.size = vs.length := by rw [← r1]; simp
  obtain ⟨n1, n2⟩ := nat_idx hj
  have hin : ¬ (j < 0 ∨ c1.slots.size ≤ j.toNatClampNeg) := by rw [n1, hsz]; intro q; rcases q with q | q; exact n2 q; omega
  obtain ⟨T', h', X', e', W, q⟩ := stJ X hx hZ eT A hin (g := mkF m pc Ls (.long v :: .int j :: .ref a :: st)) rfl rfl (hb hby hd)
  rw [n1] at X' W
  exact go q (k T' h' ⟨⟨hx, hZ, hby, hml, hown, hnm, hrt, hlk⟩, _, X', e', Fr.one N ge, by rw [W.size]; exact z0⟩ W (A0.wr W rfl))
theorem castore (H : OHr p l e R s m args below meth c Z n0 own nm code maxL ret T h ce sl) {a : Addr} {vs : List Value} {j : Int32} {v : Int32} (i : Nat) (hd : decode code pc = .ok (.castore, 1)) (A : OAry Z h a .char vs) (ge : n0 ≤ a) (hj : j.toInt = (i : Int)) (hi : i < vs.length) (k : ∀ T' h', OHr p l e R s m args below meth c Z n0 own nm code maxL ret T' h' ce sl → Wr h h' a i (.int (nar .char v)) → OAry Z h' a .char (vs.set i (.int (nar .char v))) → OEnds p e below s n0 Q C S T' (mkF m (pc + 1) Ls st)) : OEnds p e below s n0 Q C S T (mkF m pc Ls (.int v :: .int j :: .ref a :: st)) := by
  obtain ⟨⟨hx, hZ, hby, hml, hown, hnm, hrt, hlk⟩, locs, X, eT, N, z0⟩ := H
  have A0 := A
  obtain ⟨c1, A, r1, r2, r3⟩ := A
  have hsz : c1.slots.size = vs.length := by rw [← r1]; simp
  obtain ⟨n1, n2⟩ := nat_idx hj
  have hin : ¬ (j < 0 ∨ c1.slots.size ≤ j.toNatClampNeg) := by rw [n1, hsz]; intro q; rcases q with q | q; exact n2 q; omega
  obtain ⟨T', h', X', e', W, q⟩ := stC X hx hZ eT A hin (g := mkF m pc Ls (.int v :: .int j :: .ref a :: st)) rfl rfl (hb hby hd)
  rw [n1] at X' W
  exact go q (k T' h' ⟨⟨hx, hZ, hby, hml, hown, hnm, hrt, hlk⟩, _, X', e', Fr.one N ge, by rw [W.size]; exact z0⟩ W (A0.wr W (fits_nar_char v)))
theorem bastore (H : OHr p l e R s m args below meth c Z n0 own nm code maxL ret T h ce sl) {a : Addr} {vs : List Value} {j : Int32} {v : Int32} (i : Nat) (hd : decode code pc = .ok (.bastore, 1)) (A : OAry Z h a .byte vs) (ge : n0 ≤ a) (hj : j.toInt = (i : Int)) (hi : i < vs.length) (k : ∀ T' h', OHr p l e R s m args below meth c Z n0 own nm code maxL ret T' h' ce sl → Wr h h' a i (.int (nar .byte v)) → OAry Z h' a .byte (vs.set i (.int (nar .byte v))) → OEnds p e below s n0 Q C S T' (mkF m (pc + 1) Ls st)) : OEnds p e below s n0 Q C S T (mkF m pc Ls (.int v :: .int j :: .ref a :: st)) := by
  obtain ⟨⟨hx, hZ, hby, hml, hown, hnm, hrt, hlk⟩, locs, X, eT, N, z0⟩ := H
  have A0 := A
  obtain ⟨c1, A, r1, r2, r3⟩ := A
  have hsz : c1.slots.size = vs.length := by rw [← r1]; simp
  obtain ⟨n1, n2⟩ := nat_idx hj
  have hin : ¬ (j < 0 ∨ c1.slots.size ≤ j.toNatClampNeg) := by rw [n1, hsz]; intro q; rcases q with q | q; exact n2 q; omega
  obtain ⟨T', h', X', e', W, q⟩ := stB X hx hZ eT A hin (g := mkF m pc Ls (.int v :: .int j :: .ref a :: st)) rfl rfl (hb hby hd)
  rw [n1] at X' W
  exact go q (k T' h' ⟨⟨hx, hZ, hby, hml, hown, hnm, hrt, hlk⟩, _, X', e', Fr.one N ge, by rw [W.size]; exact z0⟩ W (A0.wr W (fits_nar_byte v)))
theorem callS (H : OHr p l e R s m args below meth c Z n0 own nm code maxL ret T h ce sl) {y : MethodName} {idx mxL : Nat} {bytes : ByteArray} {rt : Option FieldType} {rm : Room} {Q' : Option Value → Heap → Prop} {ps : List FieldType} {r : Option FieldType} (argsL rest : List Value) (hd : decode code pc = .ok (.invokestatic idx, 3)) (w1 : (Cond.methodLink own idx y).before a0 Z = true) (w2 : (Cond.static y).before a0 Z = true) (w3 : (Cond.initialized y.cls).before a0 Z = true) (w4 : (Cond.code y bytes mxL rt).before a0 Z = true) (hy : y.cls ≠ "java/lang/invoke/MethodHandle" ∧ y.cls ≠ "java/lang/invoke/VarHandle")
    (M : OMet l Z n0 y bytes mxL rt rm argsL.toArray h Q') (hde : parseMethodDescriptor y.desc = some ⟨ps, r⟩) (hlen : argsL.length = ps.length) (hst : st = argsL.reverse ++ rest) (W : Nat) (hW0 : (rest.map fun v => v.category).sum = W) (hfr : rm.frames + 1 ≤ R.frames) (hW : W + (mxL + 11) + rm.locals ≤ R.locals) (hc : ce + rm.cells ≤ R.cells) (hs : sl + rm.slots ≤ R.slots) (hL : Ls.size = maxL)
    (k : ∀ T' v h', OHr p l e R s m args below meth c Z n0 own nm code maxL ret T' h' (ce + rm.cells) (sl + rm.slots) → h.size ≤ h'.size → Q' v h' → OEnds p e below s n0 Q C S T' (mkF m (pc + 3) Ls (v.toList ++ rest))) : OEnds p e below s n0 Q C S T (mkF m pc Ls st) := by
  obtain ⟨⟨hx, hZ, hby, hml, hown, hnm, hrt, hlk⟩, locs, X, eT, N, z0⟩ := H
  obtain ⟨v, _, ⟨T1, L1, k1, n1⟩, -, X1, ⟨Lc, ⟨f1, hle, hQ1⟩, l1, y1, z1⟩, q⟩ := Jvm.LawKit.callS X hx (y := y) hown (mvT hZ w1) (mvT hZ w2) (mvT hZ w3) (mvT hZ w4) hy (backOf (W := W) (Q := fun v h' L => Fr n0 L ∧ h.size ≤ h'.size ∧ Q' v h') (M []) hZ w4 w3 hfr hW) (g := mkF m pc Ls st) rfl (hL.trans hml.symm) (argsL := argsL) (rest := rest) (lenOf hde hlen) hst (by show 2 * 0 + _ ≤ _; rw [hW0]; omega) (hb hby hd) (fun _ _ => ⟨rfl, eT, hc, hs⟩)
  dsimp only [Pt.U, Pt.locs, Pt.cells, Pt.slots] at X1 l1 y1 z1 q hQ1 hle
  subst l1 y1 z1
  exact go q (k T1 v _ ⟨⟨hx, hZ, hby, hml, hown, hnm, hrt, hlk⟩, _, X1, rfl, Fr.app N f1, Nat.le_trans z0 hle⟩ hle hQ1)
theorem callI (H : OHr p l e R s m args below meth c Z n0 own nm code maxL ret T h ce sl) {y : MethodName} {idx mxL : Nat} {bytes : ByteArray} {rm : Room} {Q' : Option Value → Heap → Prop} {ps : List FieldType} {r : Option FieldType} (a : Addr) (argsL rest : List Value) (hd : decode code pc = .ok (.invokespecial idx, 3)) (hy1 : y.name = "<init>") (w1 : (Cond.methodLink own idx y).before a0 Z = true) (w2 : (Cond.instanceMethod y).before a0 Z = true) (w3 : (Cond.initialized y.cls).before a0 Z = true) (w4 : (Cond.code y bytes mxL none).before a0 Z = true) (hy : y.cls ≠ "java/lang/invoke/MethodHandle" ∧ y.cls ≠ "java/lang/invoke/VarHandle")
    (M : OMet l Z n0 y bytes mxL none rm (.ref a :: argsL).toArray h Q') (hde : parseMethodDescriptor y.desc = some ⟨ps, r⟩) (hlen : argsL.length = ps.length) (hst : st = argsL.reverse ++ .ref a :: rest) (W : Nat) (hW0 : (rest.map fun v => v.category).sum = W) (hfr : rm.frames + 1 ≤ R.frames) (hW : W + (mxL + 11) + rm.locals ≤ R.locals) (hc : ce + rm.cells ≤ R.cells) (hs : sl + rm.slots ≤ R.slots) (hL : Ls.size = maxL)
    (k : ∀ T' v h', OHr p l e R s m args below meth c Z n0 own nm code maxL ret T' h' (ce + rm.cells) (sl + rm.slots) → h.size ≤ h'.size → Q' v h' → OEnds p e below s n0 Q C S T' (mkF m (pc + 3) Ls (v.toList ++ rest))) : OEnds p e below s n0 Q C S T (mkF m pc Ls st) := by
  obtain ⟨⟨hx, hZ, hby, hml, hown, hnm, hrt, hlk⟩, locs, X, eT, N, z0⟩ := H
  obtain ⟨v, _, ⟨T1, L1, k1, n1⟩, -, X1, ⟨Lc, ⟨f1, hle, hQ1⟩, l1, y1, z1⟩, q⟩ := X.specialBack hx (y := y) hy1 hown (mvT hZ w1) (mvT hZ w2) (mvT hZ w4) hy (backOf (W := W) (Q := fun v h' L => Fr n0 L ∧ h.size ≤ h'.size ∧ Q' v h') (M []) hZ w4 w3 hfr hW) (g := mkF m pc Ls st) rfl (hL.trans hml.symm) (Steps.refl _) (a := a) (argsL := argsL) (rest := rest) (lenOf hde hlen) hst (by show 2 * 0 + _ ≤ _; rw [hW0]; omega) (hb hby hd) (fun _ _ => ⟨rfl, eT, hc, hs⟩)
  dsimp only [Pt.U, Pt.locs, Pt.cells, Pt.slots] at X1 l1 y1 z1 q hQ1 hle
  subst l1 y1 z1
  exact go1 q (k T1 v _ ⟨⟨hx, hZ, hby, hml, hown, hnm, hrt, hlk⟩, _, X1, rfl, Fr.app N f1, Nat.le_trans z0 hle⟩ hle hQ1)
theorem callV (H : OHr p l e R s m args below meth c Z n0 own nm code maxL ret T h ce sl) {y z : MethodName} {CC : String} {idx mxL : Nat} {bytes : ByteArray} {rt : Option FieldType} {rm : Room} {Q' : Option Value → Heap → Prop} {ps : List FieldType} {r : Option FieldType} (a : Addr) (argsL rest : List Value) (hd : decode code pc = .ok (.invokevirtual idx, 3)) (w1 : (Cond.methodLink own idx y).before a0 Z = true) (w2 : (Cond.declares y).before a0 Z = true) (nf : NotFace s y) (w5 : (Cond.selects CC y z).before a0 Z = true) (w6 : (Cond.instanceMethod z).before a0 Z = true) (w3 : (Cond.initialized z.cls).before a0 Z = true) (w4 : (Cond.code z bytes mxL rt).before a0 Z = true) (hy : y.cls ≠ "java/lang/invoke/MethodHandle" ∧ y.cls ≠ "java/lang/invoke/VarHandle") (E : Exa Z h a CC)
    (M : OMet l Z n0 z bytes mxL rt rm (.ref a :: argsL).toArray h Q') (hde : parseMethodDescriptor y.desc = some ⟨ps, r⟩) (hlen : argsL.length = ps.length) (hst : st = argsL.reverse ++ .ref a :: rest) (W : Nat) (hW0 : (rest.map fun v => v.category).sum = W) (hfr : rm.frames + 1 ≤ R.frames) (hW : W + (mxL + 11) + rm.locals ≤ R.locals) (hc : ce + rm.cells ≤ R.cells) (hs : sl + rm.slots ≤ R.slots) (hL : Ls.size = maxL)
    (k : ∀ T' v h', OHr p l e R s m args below meth c Z n0 own nm code maxL ret T' h' (ce + rm.cells) (sl + rm.slots) → h.size ≤ h'.size → Q' v h' → OEnds p e below s n0 Q C S T' (mkF m (pc + 3) Ls (v.toList ++ rest))) : OEnds p e below s n0 Q C S T (mkF m pc Ls st) := by
  obtain ⟨⟨hx, hZ, hby, hml, hown, hnm, hrt, hlk⟩, locs, X, eT, N, z0⟩ := H
  obtain ⟨cq, kq, qa, qb, qc⟩ := isOf hZ eT E
  obtain ⟨v, _, ⟨T1, L1, k1, n1⟩, -, X1, ⟨Lc, ⟨f1, hle, hQ1⟩, l1, y1, z1⟩, q⟩ := X.virtualBack hx (y := y) (z := z) hown (mvT hZ w1) (mvT hZ w2) nf (mvT hZ w5) (mvT hZ w6) hy (backOf (W := W) (Q := fun v h' L => Fr n0 L ∧ h.size ≤ h'.size ∧ Q' v h') (M []) hZ w4 w3 hfr hW) qa qc (g := mkF m pc Ls st) rfl (hL.trans hml.symm) (Steps.refl _) (argsL := argsL) (rest := rest) (lenOf hde hlen) hst (by show 2 * 0 + _ ≤ _; rw [hW0]; omega) (hb hby hd) (fun _ _ => ⟨rfl, eT, hc, hs⟩)
  dsimp only [Pt.U, Pt.locs, Pt.cells, Pt.slots] at X1 l1 y1 z1 q hQ1 hle
  subst l1 y1 z1
  exact go1 q (k T1 v _ ⟨⟨hx, hZ, hby, hml, hown, hnm, hrt, hlk⟩, _, X1, rfl, Fr.app N f1, Nat.le_trans z0 hle⟩ hle hQ1)
theorem callO (H : OHr p l e R s m args below meth c Z n0 own nm code maxL ret T h ce sl) {idx : Nat} {a : Addr} (hd : decode code pc = .ok (.invokespecial idx, 3)) (w1 : (Cond.methodLink own idx Lib.objectInit).before a0 Z = true) (w2 : (Cond.instanceMethod Lib.objectInit).before a0 Z = true) (w3 : (Cond.code Lib.objectInit ⟨#[0xb1]⟩ 1 none).before a0 Z = true) (W : Nat) (hW0 : (st.map fun v => v.category).sum = W) (hfr : 1 ≤ R.frames) (hW : W + 12 ≤ R.locals) (hL : Ls.size = maxL) (k : ∀ T', OHr p l e R s m args below meth c Z n0 own nm code maxL ret T' h ce sl → OEnds p e below s n0 Q C S T' (mkF m (pc + 3) Ls st)) : OEnds p e below s n0 Q C S T (mkF m pc Ls (.ref a :: st)) := by
  obtain ⟨⟨hx, hZ, hby, hml, hown, hnm, hrt, hlk⟩, locs, X, eT, N, z0⟩ := H
  obtain ⟨T', X', e', q⟩ := initO X hx hZ hown w1 w2 w3 eT (g := mkF m pc Ls (.ref a :: st)) rfl (hL.trans hml.symm) rfl (hb hby hd) hfr (W := W) (by show 2 * 0 + _ ≤ _; rw [hW0]; omega) hW
  exact go q (k T' ⟨⟨hx, hZ, hby, hml, hown, hnm, hrt, hlk⟩, locs, X', e', N, z0⟩)
theorem OHr.nf (H : OHr p l e R s m args below meth c Z n0 own nm code maxL ret T h ce sl) {y : MethodName} {CC : String} (w : (Cond.selects CC y y).before a0 Z = true) : NotFace s y := by
  obtain ⟨⟨hx, hZ, hby, hml, hown, hnm, hrt, hlk⟩, locs, X, eT, N, z0⟩ := H
  exact notFace_of_selects (args := #[]) (mvT hZ w)
theorem clone_ (H : OHr p l e R s m args below meth c Z n0 own nm code maxL ret T h ce sl) {ad : String} {idx : Nat} {a : Addr} {ty : FieldType} {vs : List Value} (cap : Nat) (hd : decode code pc = .ok (.invokevirtual idx, 3)) (w1 : (Cond.methodLink own idx ⟨ad, "clone", "()Ljava/lang/Object;"⟩).before a0 Z = true) (w2 : (Cond.sameMethod ad "java/lang/Object" "clone" "()Ljava/lang/Object;").before a0 Z = true) (w3 : (Cond.native ⟨"java/lang/Object", "clone", "()Ljava/lang/Object;"⟩).before a0 Z = true)
    (w4 : (Cond.instanceMethod ⟨"java/lang/Object", "clone", "()Ljava/lang/Object;"⟩).before a0 Z = true) (w5 : (Cond.selects ad ⟨ad, "clone", "()Ljava/lang/Object;"⟩ ⟨"java/lang/Object", "clone", "()Ljava/lang/Object;"⟩).before a0 Z = true) (w6 : (Cond.castable ad "java/lang/Cloneable").before a0 Z = true) (A : OAry Z h a ty vs) (E : Exa Z h a ad) (W : Nat) (hW0 : (st.map fun v => v.category).sum = W) (hfr : 1 ≤ R.frames) (hW : W + 14 ≤ R.locals) (hcap : vs.length ≤ cap) (hc : ce + 1 ≤ R.cells) (hs : sl + cap ≤ R.slots) (hL : Ls.size = maxL)
    (k : ∀ T' h' b, b = h.size → n0 ≤ b → OHr p l e R s m args below meth c Z n0 own nm code maxL ret T' h' (ce + 1) (sl + cap) → Ext h h' → OAry Z h' b ty vs → Exa Z h' b ad → OEnds p e below s n0 Q C S T' (mkF m (pc + 3) Ls (.ref b :: st))) : OEnds p e below s n0 Q C S T (mkF m pc Ls (.ref a :: st)) := by
  obtain ⟨⟨hx, hZ, hby, hml, hown, hnm, hrt, hlk⟩, locs, X, eT, N, z0⟩ := H
  obtain ⟨c1, A, r1, r2, r3⟩ := A
  have hsz : c1.slots.size = vs.length := by rw [← r1]; simp
  have hF : FitC Z c1 := fitC_of A (fun i hi v hv => r3 v (by rw [← r1]; rw [← Array.getElem?_toList] at hv; exact List.mem_of_getElem? hv))
  obtain ⟨T', h', X', e', E', A', B', q⟩ := cloneA X hx hZ hown w1 w2 w3 w4 w5 w6 eT A E hF (g := mkF m pc Ls (.ref a :: st)) rfl (hL.trans hml.symm) rfl (hb hby hd) hfr (W := W) (by show 2 * 0 + _ ≤ _; rw [hW0]; omega) hW (cap := cap) (by rw [hsz]; exact hcap) hc hs
  exact go q (k T' h' _ rfl z0 ⟨⟨hx, hZ, hby, hml, hown, hnm, hrt, hlk⟩, locs, X', e', N, Nat.le_trans z0 E'.1⟩ E' ⟨_, A', r1, r2, r3⟩ B')
theorem checkcast (H : OHr p l e R s m args below meth c Z n0 own nm code maxL ret T h ce sl) {KK : String} {idx : Nat} {a : Addr} (hd : decode code pc = .ok (.checkcast idx, 3)) (w : (Cond.classLink own idx KK).before a0 Z = true) (F : Ins Z h a KK true) (k : ∀ T', OHr p l e R s m args below meth c Z n0 own nm code maxL ret T' h ce sl → OEnds p e below s n0 Q C S T' (mkF m (pc + 3) Ls (.ref a :: st))) : OEnds p e below s n0 Q C S T (mkF m pc Ls (.ref a :: st)) := by
  obtain ⟨⟨hx, hZ, hby, hml, hown, hnm, hrt, hlk⟩, locs, X, eT, N, z0⟩ := H
  obtain ⟨T', X', e', q⟩ := castY X hx hZ hown w eT F (g := mkF m pc Ls (.ref a :: st)) rfl rfl (hb hby hd)
  exact go q (k T' ⟨⟨hx, hZ, hby, hml, hown, hnm, hrt, hlk⟩, locs, X', e', N, z0⟩)
end Go
end Jvm.Own
namespace Jvm.Pilot.@@N@@
open Jvm Jvm.ClassFile Sem Op Lib Jvm.Free Jvm.Stand Jvm.LawKit Jvm.RoadKit Bundle Jvm.Pilot.@@N@@.Jvm.D
open Jvm.Own (OHr OEnds OMet OAry)

theorem own_rem (x d : Int32) (hd : 0 < d.toInt) : 0 ≤ ((x &&& 2147483647) % d).toInt ∧ ((x &&& 2147483647) % d).toInt < d.toInt := by
  have h0 : 0 ≤ (x &&& 2147483647).toInt := (c_and x 2147483647 (by decide)).1
  have h1 := (c_iremV (x &&& 2147483647) d).1 h0 hd
  exact ⟨h1.1, h1.2.1⟩
theorem own_ne {x y : Int32} (h : x.toInt ≠ y.toInt) : ¬ x = y := fun e => h (by rw [e])
theorem own_eq {x y : Int32} (h : x.toInt = y.toInt) : x = y := Int32.toInt_inj.mp h
theorem own_lt {x y : Int32} : x < y ↔ x.toInt < y.toInt := Int32.lt_iff_toInt_lt


theorem own_cg (x y : Int64) : 0 < XT.cmpL x y ↔ y < x := lw_gt x y
theorem own_cl (x y : Int64) : XT.cmpL x y < 0 ↔ x < y := lw_lt x y
theorem own_ce (x y : Int64) : XT.cmpL x y = 0 ↔ x = y := lw_eq x y
theorem own_ltL {x y : Int64} : x < y ↔ x.toInt < y.toInt := Int64.lt_iff_toInt_lt
theorem own_eqL {x y : Int64} (h : x.toInt = y.toInt) : x = y := Int64.toInt_inj.mp h


theorem own_map {cs : List Int32} {i : Nat} (h : i < cs.length) : (cs.map Value.int)[i]? = some (.int (cs.getD i 0)) := by
  simp [List.getElem?_map, List.getD_eq_getElem?_getD, List.getElem?_eq_getElem h]
theorem own_fill {L : List Value} {d v : Value} {i : Nat} (h : L[i]? = some v) : (L.take i ++ List.replicate (L.length - i) d).set i v = L.take (i + 1) ++ List.replicate (L.length - (i + 1)) d := by
  have hi : i < L.length := by rcases Nat.lt_or_ge i L.length with q | q; exact q; rw [List.getElem?_eq_none q] at h; cases h
  have e : L.length - i = (L.length - (i + 1)) + 1 := by omega
  rw [e, List.replicate_succ, List.set_append_right _ _ (by simp; omega)]
  have e2 : i - (L.take i).length = 0 := by simp; omega
  rw [e2, List.set_cons_zero, List.take_add_one, h]
  simp
theorem own_ofNat {i : Nat} (h : i < 2147483648) : (Int32.ofNat i).toInt = (i : Int) := Int32.toInt_ofNat_of_lt h
theorem own_one (i : Nat) : Int32.ofNat i + (1 : Int32) = Int32.ofNat (i + 1) := (Int32.ofNat_add i 1).symm


def own_sp (x : Int32) : Int64 := (72340172838076673 : Int64) * (x &&& (255 : Int32)).toInt64
def own_wd (b : Int64) : Int64 := (((((((b ||| (b <<< (((8 : Int32)).toInt64 &&& 63))) ||| (b <<< (((16 : Int32)).toInt64 &&& 63))) ||| (b <<< (((24 : Int32)).toInt64 &&& 63))) ||| (b <<< (((32 : Int32)).toInt64 &&& 63))) ||| (b <<< (((40 : Int32)).toInt64 &&& 63))) ||| (b <<< (((48 : Int32)).toInt64 &&& 63))) ||| (b <<< (((56 : Int32)).toInt64 &&& 63)))
theorem own_all : ∀ n : Fin 256, own_wd (Int32.ofNat n.val).toInt64 = (72340172838076673 : Int64) * (Int32.ofNat n.val).toInt64 := by decide +kernel
theorem own_same (x : Int32) : own_wd (x &&& 255).toInt64 = own_sp x := by
  have h := c_and x 255 (by decide)
  have e255 : (255 : Int32).toInt = 255 := rfl
  have e : x &&& 255 = Int32.ofNat (x &&& 255).toInt.toNat := by
    apply own_eq
    rw [own_ofNat (by omega)]
    omega
  have := own_all ⟨(x &&& 255).toInt.toNat, by omega⟩
  rw [← e] at this
  exact this
theorem own_nar (x : Int32) : nar .char (x.toUInt32.toUInt16.toUInt32.toInt32) = x.toUInt32.toUInt16.toUInt32.toInt32 := by
  have h1 := c_i2c x
  have h2 := c_i2c (x.toUInt32.toUInt16.toUInt32.toInt32)
  apply own_eq
  show (x.toUInt32.toUInt16.toUInt32.toInt32).toUInt32.toUInt16.toUInt32.toInt32.toInt = _
  omega

theorem d1_0 : decode prog_54_method_2_code 0 = .ok (.aload_n 0, 1) := by decide +kernel
theorem d1_1 : decode prog_54_method_2_code 1 = .ok (.arraylength, 1) := by decide +kernel
theorem d1_2 : decode prog_54_method_2_code 2 = .ok (.newarray .long, 2) := by decide +kernel
theorem d1_4 : decode prog_54_method_2_code 4 = .ok (.astore_n 1, 1) := by decide +kernel
theorem d1_5 : decode prog_54_method_2_code 5 = .ok (.iconst 0, 1) := by decide +kernel
theorem d1_6 : decode prog_54_method_2_code 6 = .ok (.istore_n 2, 1) := by decide +kernel
theorem d1_7 : decode prog_54_method_2_code 7 = .ok (.iload_n 2, 1) := by decide +kernel
theorem d1_8 : decode prog_54_method_2_code 8 = .ok (.aload_n 0, 1) := by decide +kernel
theorem d1_9 : decode prog_54_method_2_code 9 = .ok (.arraylength, 1) := by decide +kernel
theorem d1_10 : decode prog_54_method_2_code 10 = .ok (.if_icmp .ge 24, 3) := by decide +kernel
theorem d1_13 : decode prog_54_method_2_code 13 = .ok (.aload_n 1, 1) := by decide +kernel
theorem d1_14 : decode prog_54_method_2_code 14 = .ok (.iload_n 2, 1) := by decide +kernel
theorem d1_15 : decode prog_54_method_2_code 15 = .ok (.ldc2_w 30, 3) := by decide +kernel
theorem d1_18 : decode prog_54_method_2_code 18 = .ok (.aload_n 0, 1) := by decide +kernel
theorem d1_19 : decode prog_54_method_2_code 19 = .ok (.iload_n 2, 1) := by decide +kernel
theorem d1_20 : decode prog_54_method_2_code 20 = .ok (.caload, 1) := by decide +kernel
theorem d1_21 : decode prog_54_method_2_code 21 = .ok (.sipush 255, 3) := by decide +kernel
theorem d1_24 : decode prog_54_method_2_code 24 = .ok (.iand, 1) := by decide +kernel
theorem d1_25 : decode prog_54_method_2_code 25 = .ok (.i2l, 1) := by decide +kernel
theorem d1_26 : decode prog_54_method_2_code 26 = .ok (.lmul, 1) := by decide +kernel
theorem d1_27 : decode prog_54_method_2_code 27 = .ok (.lastore, 1) := by decide +kernel
theorem d1_28 : decode prog_54_method_2_code 28 = .ok (.iinc 2 1, 3) := by decide +kernel
theorem d1_31 : decode prog_54_method_2_code 31 = .ok (.goto (-24), 3) := by decide +kernel
theorem d1_34 : decode prog_54_method_2_code 34 = .ok (.aload_n 1, 1) := by decide +kernel
theorem d1_35 : decode prog_54_method_2_code 35 = .ok (.areturn, 1) := by decide +kernel
theorem d2_0 : decode method_2_code 0 = .ok (.iload_n 2, 1) := by decide +kernel
theorem d2_1 : decode method_2_code 1 = .ok (.sipush 255, 3) := by decide +kernel
theorem d2_4 : decode method_2_code 4 = .ok (.iand, 1) := by decide +kernel
theorem d2_5 : decode method_2_code 5 = .ok (.i2l, 1) := by decide +kernel
theorem d2_6 : decode method_2_code 6 = .ok (.lstore_n 3, 1) := by decide +kernel
theorem d2_7 : decode method_2_code 7 = .ok (.lload_n 3, 1) := by decide +kernel
theorem d2_8 : decode method_2_code 8 = .ok (.lload_n 3, 1) := by decide +kernel
theorem d2_9 : decode method_2_code 9 = .ok (.bipush 8, 2) := by decide +kernel
theorem d2_11 : decode method_2_code 11 = .ok (.lshl, 1) := by decide +kernel
theorem d2_12 : decode method_2_code 12 = .ok (.lor, 1) := by decide +kernel
theorem d2_13 : decode method_2_code 13 = .ok (.lload_n 3, 1) := by decide +kernel
theorem d2_14 : decode method_2_code 14 = .ok (.bipush 16, 2) := by decide +kernel
theorem d2_16 : decode method_2_code 16 = .ok (.lshl, 1) := by decide +kernel
theorem d2_17 : decode method_2_code 17 = .ok (.lor, 1) := by decide +kernel
theorem d2_18 : decode method_2_code 18 = .ok (.lload_n 3, 1) := by decide +kernel
theorem d2_19 : decode method_2_code 19 = .ok (.bipush 24, 2) := by decide +kernel
theorem d2_21 : decode method_2_code 21 = .ok (.lshl, 1) := by decide +kernel
theorem d2_22 : decode method_2_code 22 = .ok (.lor, 1) := by decide +kernel
theorem d2_23 : decode method_2_code 23 = .ok (.lload_n 3, 1) := by decide +kernel
theorem d2_24 : decode method_2_code 24 = .ok (.bipush 32, 2) := by decide +kernel
theorem d2_26 : decode method_2_code 26 = .ok (.lshl, 1) := by decide +kernel
theorem d2_27 : decode method_2_code 27 = .ok (.lor, 1) := by decide +kernel
theorem d2_28 : decode method_2_code 28 = .ok (.lload_n 3, 1) := by decide +kernel
theorem d2_29 : decode method_2_code 29 = .ok (.bipush 40, 2) := by decide +kernel
theorem d2_31 : decode method_2_code 31 = .ok (.lshl, 1) := by decide +kernel
theorem d2_32 : decode method_2_code 32 = .ok (.lor, 1) := by decide +kernel
theorem d2_33 : decode method_2_code 33 = .ok (.lload_n 3, 1) := by decide +kernel
theorem d2_34 : decode method_2_code 34 = .ok (.bipush 48, 2) := by decide +kernel
theorem d2_36 : decode method_2_code 36 = .ok (.lshl, 1) := by decide +kernel
theorem d2_37 : decode method_2_code 37 = .ok (.lor, 1) := by decide +kernel
theorem d2_38 : decode method_2_code 38 = .ok (.lload_n 3, 1) := by decide +kernel
theorem d2_39 : decode method_2_code 39 = .ok (.bipush 56, 2) := by decide +kernel
theorem d2_41 : decode method_2_code 41 = .ok (.lshl, 1) := by decide +kernel
theorem d2_42 : decode method_2_code 42 = .ok (.lor, 1) := by decide +kernel
theorem d2_43 : decode method_2_code 43 = .ok (.lstore 5, 2) := by decide +kernel
theorem d2_45 : decode method_2_code 45 = .ok (.lload_n 0, 1) := by decide +kernel
theorem d2_46 : decode method_2_code 46 = .ok (.lload 5, 2) := by decide +kernel
theorem d2_48 : decode method_2_code 48 = .ok (.lcmp, 1) := by decide +kernel
theorem d2_49 : decode method_2_code 49 = .ok (.ifCond .ne 7, 3) := by decide +kernel
theorem d2_52 : decode method_2_code 52 = .ok (.iconst 1, 1) := by decide +kernel
theorem d2_53 : decode method_2_code 53 = .ok (.goto 4, 3) := by decide +kernel
theorem d2_56 : decode method_2_code 56 = .ok (.iconst 0, 1) := by decide +kernel
theorem d2_57 : decode method_2_code 57 = .ok (.ireturn, 1) := by decide +kernel
theorem pn_rm_spread : plainFor (⟨"com/example/firecrest/firecrest/ProbeFilter", "spread", "([C)[J"⟩ : MethodName) = true := by first | exact plainFor_of_name (by first | (simp [plainName, overriddenIn]; done) | decide +kernel) | decide +kernel
theorem ef_rm_spread (a : Nat) (m : MethodId) : entryFrame m #[(.ref a)] 3 = mkF m 0 #[.val (.ref a), .unset, .unset] [] := by first | (simp [entryFrame, mkF, argsToLocals, Value.category]; done) | rfl
set_option maxRecDepth 65536 in
set_option maxHeartbeats 40000000 in
theorem rm_spread (l : Launch) (Z : State) (a0 : Array Value) (hw : ∀ d ∈ tables_1, d.before a0 Z = true) (a : Nat) (h0 : Heap) (n0 : Nat) (Z0 : n0 ≤ h0.size) (cs : List Int32) (hcs : cs.length ≤ 4) (A : OAry Z h0 a .char (cs.map Value.int)) :
    OMet l Z n0 (⟨"com/example/firecrest/firecrest/ProbeFilter", "spread", "([C)[J"⟩ : MethodName) prog_54_method_2_code 3 (some (.array .long)) ({ frames := 0, cells := 1, slots := 4, locals := 0 } : Room) #[(.ref a)] h0 (fun v h => ∃ b, v = some (.ref b) ∧ Keep h0 h [] ∧ OAry Z h b .long (cs.map fun x => Value.long (own_sp x))) := by
  refine OMet.of pn_rm_spread Z0 (ef_rm_spread a) ?_
  intro p e s m below meth c T H
  refine Own.aload_n H (pc := 0) d1_0 rfl rfl ?_
  have hN : (Int32.ofNat cs.length).toInt = (cs.length : Int) := own_ofNat (by omega)
  have hN' : (Int32.ofNat cs.length).toInt = ((cs.map Value.int).length : Int) := by rw [List.length_map]; exact hN
  refine Own.arraylength H (pc := 1) (Int32.ofNat cs.length) d1_1 A hN' ?_
  refine Own.newarray H (pc := 2) (i := cs.length) 4 d1_2 (hw _ (List.mem_of_getElem? (i := 6) rfl)) hN (by decide) hcs (by decide) (by decide) (by decide) (fun T2 h3 b eq_b ge_b H1 Ext_b Ary_b => ?_)
  refine Own.astore_n H1 (pc := 4) #[.val (.ref a), .val (.ref b), .unset] d1_4 rfl rfl ?_
  refine Own.iconst H1 (pc := 5) (0) d1_5 rfl ?_
  refine Own.istore_n H1 (pc := 6) #[.val (.ref a), .val (.ref b), .val (.int (0 : Int32))] d1_6 rfl ?_
  have A0 := A
  have loop : ∀ (k i : Nat) (T : State) (h : Heap), i + k = cs.length → OHr p l e ({ frames := 0, cells := 1, slots := 4, locals := 0 } : Room) s m #[(.ref a)] below meth c Z n0 "com/example/firecrest/firecrest/ProbeFilter" "spread" prog_54_method_2_code 3 (some (.array .long)) T h (0 + 1) (0 + 4) → Keep h0 h [] → OAry Z h a .char (cs.map Value.int) → OAry Z h b .long ((cs.map fun x => Value.long (own_sp x)).take i ++ List.replicate ((cs.map fun x => Value.long (own_sp x)).length - i) (.long 0)) → OEnds p e below s n0 (fun v h => ∃ b, v = some (.ref b) ∧ Keep h0 h [] ∧ OAry Z h b .long (cs.map fun x => Value.long (own_sp x))) ({ frames := 0, cells := 1, slots := 4, locals := 0 } : Room).cells ({ frames := 0, cells := 1, slots := 4, locals := 0 } : Room).slots T (mkF m 7 #[.val (.ref a), .val (.ref b), .val (.int (Int32.ofNat i))] []) := by
    intro k
    induction k with
    | zero =>
      intro i T h hi H K A B
      refine Own.iload_n H (pc := 7) d1_7 rfl ?_
      refine Own.aload_n H (pc := 8) d1_8 rfl rfl ?_
      refine Own.arraylength H (pc := 9) (Int32.ofNat cs.length) d1_9 A hN' ?_
      refine Own.icmp_ge H (pc := 10) 34 d1_10 (by decide) (by decide) (fun _ => ?_) (fun hc => absurd hc (by rw [own_lt, hN, own_ofNat (by omega)]; omega))
      refine Own.aload_n H (pc := 34) d1_34 rfl rfl ?_
      have e1 : i = (cs.map fun x => Value.long (own_sp x)).length := by simp; omega
      rw [e1] at B
      rw [List.take_length, Nat.sub_self, List.replicate_zero, List.append_nil] at B
      exact Own.ret_ref H (pc := 35) d1_35 rfl rfl rfl rfl (by decide) (by decide) (⟨b, rfl, K, B⟩)
    | succ k ih =>
      intro i T h hi H K A B
      have hi' : i < cs.length := by omega
      refine Own.iload_n H (pc := 7) d1_7 rfl ?_
      refine Own.aload_n H (pc := 8) d1_8 rfl rfl ?_
      refine Own.arraylength H (pc := 9) (Int32.ofNat cs.length) d1_9 A hN' ?_
      refine Own.icmp_ge H (pc := 10) 34 d1_10 (by decide) (by decide) (fun hc => absurd (by rw [own_lt, hN, own_ofNat (by omega)]; omega) hc) (fun _ => ?_)
      refine Own.aload_n H (pc := 13) d1_13 rfl rfl ?_
      refine Own.iload_n H (pc := 14) d1_14 rfl ?_
      refine Own.ldc2_w H (pc := 15) d1_15 (hw _ (List.mem_of_getElem? (i := 7) rfl)) ?_
      refine Own.aload_n H (pc := 18) d1_18 rfl rfl ?_
      refine Own.iload_n H (pc := 19) d1_19 rfl ?_
      refine Own.caload H (pc := 20) (v := (cs.getD i 0)) i d1_20 A (own_ofNat (by omega)) (own_map hi') ?_
      refine Own.sipush H (pc := 21) (255) d1_21 rfl ?_
      refine Own.iand H (pc := 24) d1_24 ?_
      refine Own.i2l H (pc := 25) d1_25 ?_
      refine Own.lmul H (pc := 26) d1_26 ?_
      refine Own.lastore H (pc := 27) i d1_27 B ge_b (own_ofNat (by omega)) (by simp; omega) (fun T5 h6 H4 W7 A8 => ?_)
      rw [own_fill (v := .long ((72340172838076673 : Int64) * ((cs.getD i 0) &&& (255 : Int32)).toInt64)) (by rw [List.getElem?_map]; simp [List.getElem?_eq_getElem hi', List.getD_eq_getElem?_getD, own_sp])] at A8
      refine Own.iinc H4 (pc := 28) (1) #[.val (.ref a), .val (.ref b), .val (.int ((Int32.ofNat i) + (1 : Int32)))] d1_28 rfl rfl rfl ?_
      rw [own_one]
      refine Own.goto H4 (pc := 31) 7 d1_31 (by decide) (by decide) ?_
      exact ih (i + 1) _ _ (by omega) H4 (K.wr W7 (Or.inr (by rw [eq_b]; exact Nat.le_refl _))) (A.other W7 (by have := A0.lt; omega)) A8
  exact loop cs.length 0 _ _ (by omega) H1 ((Keep.refl _ _).ext Ext_b) (A.ext Ext_b) (by rw [List.take_zero, List.nil_append, Nat.sub_zero, List.length_map]; exact Ary_b)
theorem pn_rm_word : plainFor (⟨"com/example/firecrest/firecrest/ProbeFilterSpreadPinLaw", "word", "(JC)Z"⟩ : MethodName) = true := by first | exact plainFor_of_name (by first | (simp [plainName, overriddenIn]; done) | decide +kernel) | decide +kernel
theorem ef_rm_word (u : Int64) (ch : Int32) (m : MethodId) : entryFrame m #[(.long u), (.int ch)] 7 = mkF m 0 #[.val (.long u), .second, .val (.int ch), .unset, .unset, .unset, .unset] [] := by first | (simp [entryFrame, mkF, argsToLocals, Value.category]; done) | rfl
set_option maxRecDepth 65536 in
set_option maxHeartbeats 40000000 in
theorem rm_word (l : Launch) (Z : State) (a0 : Array Value) (hw : ∀ d ∈ tables_1, d.before a0 Z = true) (u : Int64) (ch : Int32) (h0 : Heap) (n0 : Nat) (Z0 : n0 ≤ h0.size)  :
    OMet l Z n0 (⟨"com/example/firecrest/firecrest/ProbeFilterSpreadPinLaw", "word", "(JC)Z"⟩ : MethodName) method_2_code 7 (some .boolean) ({ frames := 0, cells := 0, slots := 0, locals := 0 } : Room) #[(.long u), (.int ch)] h0 (fun v h => v = some (.int (if u = own_wd (ch &&& 255).toInt64 then 1 else 0)) ∧ h = h0) := by
  refine OMet.of pn_rm_word Z0 (ef_rm_word u ch) ?_
  intro p e s m below meth c T H
  refine Own.iload_n H (pc := 0) d2_0 rfl ?_
  refine Own.sipush H (pc := 1) (255) d2_1 rfl ?_
  refine Own.iand H (pc := 4) d2_4 ?_
  refine Own.i2l H (pc := 5) d2_5 ?_
  refine Own.lstore_n H (pc := 6) #[.val (.long u), .second, .val (.int ch), .val (.long ((ch &&& (255 : Int32))).toInt64), .second, .unset, .unset] d2_6 rfl ?_
  refine Own.lload_n H (pc := 7) d2_7 rfl ?_
  refine Own.lload_n H (pc := 8) d2_8 rfl ?_
  refine Own.bipush H (pc := 9) (8) d2_9 rfl ?_
  refine Own.lshl H (pc := 11) d2_11 ?_
  refine Own.lor H (pc := 12) d2_12 ?_
  refine Own.lload_n H (pc := 13) d2_13 rfl ?_
  refine Own.bipush H (pc := 14) (16) d2_14 rfl ?_
  refine Own.lshl H (pc := 16) d2_16 ?_
  refine Own.lor H (pc := 17) d2_17 ?_
  refine Own.lload_n H (pc := 18) d2_18 rfl ?_
  refine Own.bipush H (pc := 19) (24) d2_19 rfl ?_
  refine Own.lshl H (pc := 21) d2_21 ?_
  refine Own.lor H (pc := 22) d2_22 ?_
  refine Own.lload_n H (pc := 23) d2_23 rfl ?_
  refine Own.bipush H (pc := 24) (32) d2_24 rfl ?_
  refine Own.lshl H (pc := 26) d2_26 ?_
  refine Own.lor H (pc := 27) d2_27 ?_
  refine Own.lload_n H (pc := 28) d2_28 rfl ?_
  refine Own.bipush H (pc := 29) (40) d2_29 rfl ?_
  refine Own.lshl H (pc := 31) d2_31 ?_
  refine Own.lor H (pc := 32) d2_32 ?_
  refine Own.lload_n H (pc := 33) d2_33 rfl ?_
  refine Own.bipush H (pc := 34) (48) d2_34 rfl ?_
  refine Own.lshl H (pc := 36) d2_36 ?_
  refine Own.lor H (pc := 37) d2_37 ?_
  refine Own.lload_n H (pc := 38) d2_38 rfl ?_
  refine Own.bipush H (pc := 39) (56) d2_39 rfl ?_
  refine Own.lshl H (pc := 41) d2_41 ?_
  refine Own.lor H (pc := 42) d2_42 ?_
  refine Own.lstore H (pc := 43) #[.val (.long u), .second, .val (.int ch), .val (.long ((ch &&& (255 : Int32))).toInt64), .second, .val (.long (((((((((ch &&& (255 : Int32))).toInt64 ||| (((ch &&& (255 : Int32))).toInt64 <<< (((8 : Int32)).toInt64 &&& 63))) ||| (((ch &&& (255 : Int32))).toInt64 <<< (((16 : Int32)).toInt64 &&& 63))) ||| (((ch &&& (255 : Int32))).toInt64 <<< (((24 : Int32)).toInt64 &&& 63))) ||| (((ch &&& (255 : Int32))).toInt64 <<< (((32 : Int32)).toInt64 &&& 63))) ||| (((ch &&& (255 : Int32))).toInt64 <<< (((40 : Int32)).toInt64 &&& 63))) ||| (((ch &&& (255 : Int32))).toInt64 <<< (((48 : Int32)).toInt64 &&& 63))) ||| (((ch &&& (255 : Int32))).toInt64 <<< (((56 : Int32)).toInt64 &&& 63)))), .second] d2_43 rfl ?_
  refine Own.lload_n H (pc := 45) d2_45 rfl ?_
  refine Own.lload H (pc := 46) d2_46 rfl ?_
  refine Own.lcmp H (pc := 48) d2_48 ?_
  refine Own.if_ne H (pc := 49) 56 d2_49 (by decide) (by decide) (fun hc => ?_) (fun hc => ?_)
  · rw [own_ce] at hc
    refine Own.iconst H (pc := 56) (0) d2_56 rfl ?_
    exact Own.ret_nar H (pc := 57) (0) d2_57 rfl (by simp) (by decide) (by decide) (by decide) (⟨by have e1 : ¬ u = own_wd (ch &&& 255).toInt64 := hc; rw [if_neg e1], rfl⟩)
  · rw [own_ce] at hc
    refine Own.iconst H (pc := 52) (1) d2_52 rfl ?_
    refine Own.goto H (pc := 53) 57 d2_53 (by decide) (by decide) ?_
    exact Own.ret_nar H (pc := 57) (1) d2_57 rfl (by simp) (by decide) (by decide) (by decide) (⟨by have e1 : u = own_wd (ch &&& 255).toInt64 := hc; rw [if_pos e1], rfl⟩)
theorem pn_rm_law : plainFor x = true := by first | exact plainFor_of_name (by first | (simp [plainName, overriddenIn]; done) | decide +kernel) | decide +kernel
theorem ef_rm_law (p0 : Int32) (p1 : Int32) (p2 : Int32) (p3 : Int32) (p4 : Int32) (m : MethodId) : entryFrame m #[(.int p0), (.int p1), (.int p2), (.int p3), (.int p4)] maxLocals = mkF m 0 #[.val (.int p0), .val (.int p1), .val (.int p2), .val (.int p3), .val (.int p4), .unset, .unset, .unset, .unset, .unset, .unset, .unset, .unset] [] := by first | (simp [entryFrame, mkF, argsToLocals, Value.category, maxLocals]; done) | rfl
set_option maxRecDepth 65536 in
set_option maxHeartbeats 40000000 in
theorem rm_law (l : Launch) (Z : State) (a0 : Array Value) (hw : ∀ d ∈ tables_1, d.before a0 Z = true) (p0 : Int32) (p1 : Int32) (p2 : Int32) (p3 : Int32) (p4 : Int32) (h0 : Heap) (n0 : Nat) (Z0 : n0 ≤ h0.size)  :
    OMet l Z n0 x code maxLocals ret room_1 #[(.int p0), (.int p1), (.int p2), (.int p3), (.int p4)] h0 (fun v h => v = some (.int 1)) := by
  refine OMet.of pn_rm_law Z0 (ef_rm_law p0 p1 p2 p3 p4) ?_
  intro p e s m below meth c T H
  refine Own.iload H (pc := 0) at_0 rfl ?_
  refine Own.ldc H (pc := 2) at_2 (hw _ (List.mem_of_getElem? (i := 0) rfl)) ?_
  refine Own.iand H (pc := 4) at_4 ?_
  refine Own.iconst H (pc := 5) (5) at_5 rfl ?_
  refine Own.irem H (pc := 6) at_6 (by decide) ?_
  generalize en : ((p4 &&& (2147483647 : Int32)) % (5 : Int32)) = n
  have hn : 0 ≤ n.toInt ∧ n.toInt < 5 := by rw [← en]; exact own_rem p4 5 (by decide)
  refine Own.istore H (pc := 7) #[.val (.int p0), .val (.int p1), .val (.int p2), .val (.int p3), .val (.int p4), .val (.int n), .unset, .unset, .unset, .unset, .unset, .unset, .unset] at_7 rfl ?_
  refine Own.iload_n H (pc := 9) at_9 rfl ?_
  refine Own.i2c H (pc := 10) at_10 ?_
  generalize ec0 : (p0).toUInt32.toUInt16.toUInt32.toInt32 = c0
  have hc0 : nar .char c0 = c0 := by rw [← ec0]; exact own_nar p0
  refine Own.istore H (pc := 11) #[.val (.int p0), .val (.int p1), .val (.int p2), .val (.int p3), .val (.int p4), .val (.int n), .val (.int c0), .unset, .unset, .unset, .unset, .unset, .unset] at_11 rfl ?_
  refine Own.iload_n H (pc := 13) at_13 rfl ?_
  refine Own.i2c H (pc := 14) at_14 ?_
  generalize ec1 : (p1).toUInt32.toUInt16.toUInt32.toInt32 = c1
  have hc1 : nar .char c1 = c1 := by rw [← ec1]; exact own_nar p1
  refine Own.istore H (pc := 15) #[.val (.int p0), .val (.int p1), .val (.int p2), .val (.int p3), .val (.int p4), .val (.int n), .val (.int c0), .val (.int c1), .unset, .unset, .unset, .unset, .unset] at_15 rfl ?_
  refine Own.iload_n H (pc := 17) at_17 rfl ?_
  refine Own.i2c H (pc := 18) at_18 ?_
  generalize ec2 : (p2).toUInt32.toUInt16.toUInt32.toInt32 = c2
  have hc2 : nar .char c2 = c2 := by rw [← ec2]; exact own_nar p2
  refine Own.istore H (pc := 19) #[.val (.int p0), .val (.int p1), .val (.int p2), .val (.int p3), .val (.int p4), .val (.int n), .val (.int c0), .val (.int c1), .val (.int c2), .unset, .unset, .unset, .unset] at_19 rfl ?_
  refine Own.iload_n H (pc := 21) at_21 rfl ?_
  refine Own.i2c H (pc := 22) at_22 ?_
  generalize ec3 : (p3).toUInt32.toUInt16.toUInt32.toInt32 = c3
  have hc3 : nar .char c3 = c3 := by rw [← ec3]; exact own_nar p3
  refine Own.istore H (pc := 23) #[.val (.int p0), .val (.int p1), .val (.int p2), .val (.int p3), .val (.int p4), .val (.int n), .val (.int c0), .val (.int c1), .val (.int c2), .val (.int c3), .unset, .unset, .unset] at_23 rfl ?_
  refine Own.iload H (pc := 25) at_25 rfl ?_
  have cases : n = 0 ∨ n = 1 ∨ n = 2 ∨ n = 3 ∨ n = 4 := by
    have h0 : n.toInt = 0 ∨ n.toInt = 1 ∨ n.toInt = 2 ∨ n.toInt = 3 ∨ n.toInt = 4 := by omega
    rcases h0 with q | q | q | q | q
    · exact Or.inl (own_eq q)
    · exact Or.inr (Or.inl (own_eq q))
    · exact Or.inr (Or.inr (Or.inl (own_eq q)))
    · exact Or.inr (Or.inr (Or.inr (Or.inl (own_eq q))))
    · exact Or.inr (Or.inr (Or.inr (Or.inr (own_eq q))))
  rcases cases with rfl | rfl | rfl | rfl | rfl
  · refine Own.newarray H (pc := 27) (i := 0) 4 at_27 (hw _ (List.mem_of_getElem? (i := 1) rfl)) rfl (by decide) (by decide) (by decide) (by decide) (by decide) (fun T10 h11 a eq_a ge_a H9 Ext_a Ary_a => ?_)
    refine Own.astore H9 (pc := 29) #[.val (.int p0), .val (.int p1), .val (.int p2), .val (.int p3), .val (.int p4), .val (.int (0 : Int32)), .val (.int c0), .val (.int c1), .val (.int c2), .val (.int c3), .val (.ref a), .unset, .unset] at_29 rfl rfl ?_
    refine Own.iload H9 (pc := 31) at_31 rfl ?_
    refine Own.if_le H9 (pc := 33) 42 at_33 (by decide) (by decide) (fun _ => ?_) (fun hc => absurd hc (by decide))
    refine Own.iload H9 (pc := 42) at_42 rfl ?_
    refine Own.iconst H9 (pc := 44) (1) at_44 rfl ?_
    refine Own.icmp_le H9 (pc := 45) 54 at_45 (by decide) (by decide) (fun _ => ?_) (fun hc => absurd hc (by decide))
    refine Own.iload H9 (pc := 54) at_54 rfl ?_
    refine Own.iconst H9 (pc := 56) (2) at_56 rfl ?_
    refine Own.icmp_le H9 (pc := 57) 66 at_57 (by decide) (by decide) (fun _ => ?_) (fun hc => absurd hc (by decide))
    refine Own.iload H9 (pc := 66) at_66 rfl ?_
    refine Own.iconst H9 (pc := 68) (3) at_68 rfl ?_
    refine Own.icmp_le H9 (pc := 69) 78 at_69 (by decide) (by decide) (fun _ => ?_) (fun hc => absurd hc (by decide))
    refine Own.aload H9 (pc := 78) at_78 rfl rfl ?_
    have B : OAry Z h11 a .char (([] : List Int32).map Value.int) := Ary_a
    refine Own.callS H9 (pc := 80) (y := (⟨"com/example/firecrest/firecrest/ProbeFilter", "spread", "([C)[J"⟩ : MethodName)) [(.ref a)] [] at_80 (hw _ (List.mem_of_getElem? (i := 2) rfl)) (hw _ (List.mem_of_getElem? (i := 3) rfl)) (hw _ (List.mem_of_getElem? (i := 4) rfl)) (hw _ (List.mem_of_getElem? (i := 5) rfl)) (by decide) (rm_spread l Z a0 hw a _ n0 H9.z0 [] (by simp) B) (r := (some (.array .long))) (ps := [(.array .char)]) (by decide) rfl rfl 0 rfl (by decide) (by decide) (by decide) (by decide) rfl (fun T13 v15 h14 H12 z16 q17 => ?_)
    obtain ⟨b, rfl, K1, B1⟩ := q17
    show OEnds _ _ _ _ _ _ _ _ _ (mkF _ 83 #[.val (.int p0), .val (.int p1), .val (.int p2), .val (.int p3), .val (.int p4), .val (.int (0 : Int32)), .val (.int c0), .val (.int c1), .val (.int c2), .val (.int c3), .val (.ref a), .unset, .unset] [(.ref b)])
    have B' := B.keep K1 nin0
    refine Own.astore H12 (pc := 83) #[.val (.int p0), .val (.int p1), .val (.int p2), .val (.int p3), .val (.int p4), .val (.int (0 : Int32)), .val (.int c0), .val (.int c1), .val (.int c2), .val (.int c3), .val (.ref a), .val (.ref b), .unset] at_83 rfl rfl ?_
    refine Own.aload H12 (pc := 85) at_85 rfl rfl ?_
    refine Own.ifnull_ref H12 (pc := 87) at_87 ?_
    refine Own.aload H12 (pc := 90) at_90 rfl rfl ?_
    refine Own.arraylength H12 (pc := 92) (0) at_92 B1 rfl ?_
    refine Own.iload H12 (pc := 93) at_93 rfl ?_
    refine Own.icmp_eq H12 (pc := 95) 100 at_95 (by decide) (by decide) (fun _ => ?_) (fun hc => absurd hc (by decide))
    refine Own.iconst H12 (pc := 100) (1) at_100 rfl ?_
    refine Own.istore H12 (pc := 101) #[.val (.int p0), .val (.int p1), .val (.int p2), .val (.int p3), .val (.int p4), .val (.int (0 : Int32)), .val (.int c0), .val (.int c1), .val (.int c2), .val (.int c3), .val (.ref a), .val (.ref b), .val (.int (1 : Int32))] at_101 rfl ?_
    refine Own.iload H12 (pc := 103) at_103 rfl ?_
    refine Own.if_le H12 (pc := 105) 141 at_105 (by decide) (by decide) (fun _ => ?_) (fun hc => absurd hc (by decide))
    refine Own.iload H12 (pc := 141) at_141 rfl ?_
    refine Own.iconst H12 (pc := 143) (1) at_143 rfl ?_
    refine Own.icmp_le H12 (pc := 144) 180 at_144 (by decide) (by decide) (fun _ => ?_) (fun hc => absurd hc (by decide))
    refine Own.iload H12 (pc := 180) at_180 rfl ?_
    refine Own.iconst H12 (pc := 182) (2) at_182 rfl ?_
    refine Own.icmp_le H12 (pc := 183) 219 at_183 (by decide) (by decide) (fun _ => ?_) (fun hc => absurd hc (by decide))
    refine Own.iload H12 (pc := 219) at_219 rfl ?_
    refine Own.iconst H12 (pc := 221) (3) at_221 rfl ?_
    refine Own.icmp_le H12 (pc := 222) 258 at_222 (by decide) (by decide) (fun _ => ?_) (fun hc => absurd hc (by decide))
    refine Own.iload H12 (pc := 258) at_258 rfl ?_
    exact Own.ret_nar H12 (pc := 260) (1) at_260 rfl (by simp) (by decide) (by decide) (by decide) (rfl)
  · refine Own.newarray H (pc := 27) (i := 1) 4 at_27 (hw _ (List.mem_of_getElem? (i := 1) rfl)) rfl (by decide) (by decide) (by decide) (by decide) (by decide) (fun T19 h20 a eq_a ge_a H18 Ext_a Ary_a => ?_)
    refine Own.astore H18 (pc := 29) #[.val (.int p0), .val (.int p1), .val (.int p2), .val (.int p3), .val (.int p4), .val (.int (1 : Int32)), .val (.int c0), .val (.int c1), .val (.int c2), .val (.int c3), .val (.ref a), .unset, .unset] at_29 rfl rfl ?_
    refine Own.iload H18 (pc := 31) at_31 rfl ?_
    refine Own.if_le H18 (pc := 33) 42 at_33 (by decide) (by decide) (fun hc => absurd hc (by decide)) (fun _ => ?_)
    refine Own.aload H18 (pc := 36) at_36 rfl rfl ?_
    refine Own.iconst H18 (pc := 38) (0) at_38 rfl ?_
    refine Own.iload H18 (pc := 39) at_39 rfl ?_
    refine Own.castore H18 (pc := 41) 0 at_41 Ary_a ge_a rfl (by simp) (fun T22 h23 H21 W24 A25 => ?_)
    rw [hc0] at A25
    refine Own.iload H21 (pc := 42) at_42 rfl ?_
    refine Own.iconst H21 (pc := 44) (1) at_44 rfl ?_
    refine Own.icmp_le H21 (pc := 45) 54 at_45 (by decide) (by decide) (fun _ => ?_) (fun hc => absurd hc (by decide))
    refine Own.iload H21 (pc := 54) at_54 rfl ?_
    refine Own.iconst H21 (pc := 56) (2) at_56 rfl ?_
    refine Own.icmp_le H21 (pc := 57) 66 at_57 (by decide) (by decide) (fun _ => ?_) (fun hc => absurd hc (by decide))
    refine Own.iload H21 (pc := 66) at_66 rfl ?_
    refine Own.iconst H21 (pc := 68) (3) at_68 rfl ?_
    refine Own.icmp_le H21 (pc := 69) 78 at_69 (by decide) (by decide) (fun _ => ?_) (fun hc => absurd hc (by decide))
    refine Own.aload H21 (pc := 78) at_78 rfl rfl ?_
    have B : OAry Z h23 a .char (([c0] : List Int32).map Value.int) := A25
    refine Own.callS H21 (pc := 80) (y := (⟨"com/example/firecrest/firecrest/ProbeFilter", "spread", "([C)[J"⟩ : MethodName)) [(.ref a)] [] at_80 (hw _ (List.mem_of_getElem? (i := 2) rfl)) (hw _ (List.mem_of_getElem? (i := 3) rfl)) (hw _ (List.mem_of_getElem? (i := 4) rfl)) (hw _ (List.mem_of_getElem? (i := 5) rfl)) (by decide) (rm_spread l Z a0 hw a _ n0 H21.z0 [c0] (by simp) B) (r := (some (.array .long))) (ps := [(.array .char)]) (by decide) rfl rfl 0 rfl (by decide) (by decide) (by decide) (by decide) rfl (fun T27 v29 h28 H26 z30 q31 => ?_)
    obtain ⟨b, rfl, K1, B1⟩ := q31
    show OEnds _ _ _ _ _ _ _ _ _ (mkF _ 83 #[.val (.int p0), .val (.int p1), .val (.int p2), .val (.int p3), .val (.int p4), .val (.int (1 : Int32)), .val (.int c0), .val (.int c1), .val (.int c2), .val (.int c3), .val (.ref a), .unset, .unset] [(.ref b)])
    have B' := B.keep K1 nin0
    refine Own.astore H26 (pc := 83) #[.val (.int p0), .val (.int p1), .val (.int p2), .val (.int p3), .val (.int p4), .val (.int (1 : Int32)), .val (.int c0), .val (.int c1), .val (.int c2), .val (.int c3), .val (.ref a), .val (.ref b), .unset] at_83 rfl rfl ?_
    refine Own.aload H26 (pc := 85) at_85 rfl rfl ?_
    refine Own.ifnull_ref H26 (pc := 87) at_87 ?_
    refine Own.aload H26 (pc := 90) at_90 rfl rfl ?_
    refine Own.arraylength H26 (pc := 92) (1) at_92 B1 rfl ?_
    refine Own.iload H26 (pc := 93) at_93 rfl ?_
    refine Own.icmp_eq H26 (pc := 95) 100 at_95 (by decide) (by decide) (fun _ => ?_) (fun hc => absurd hc (by decide))
    refine Own.iconst H26 (pc := 100) (1) at_100 rfl ?_
    refine Own.istore H26 (pc := 101) #[.val (.int p0), .val (.int p1), .val (.int p2), .val (.int p3), .val (.int p4), .val (.int (1 : Int32)), .val (.int c0), .val (.int c1), .val (.int c2), .val (.int c3), .val (.ref a), .val (.ref b), .val (.int (1 : Int32))] at_101 rfl ?_
    refine Own.iload H26 (pc := 103) at_103 rfl ?_
    refine Own.if_le H26 (pc := 105) 141 at_105 (by decide) (by decide) (fun hc => absurd hc (by decide)) (fun _ => ?_)
    refine Own.iload H26 (pc := 108) at_108 rfl ?_
    refine Own.if_eq H26 (pc := 110) 138 at_110 (by decide) (by decide) (fun hc => absurd hc (by decide)) (fun _ => ?_)
    refine Own.aload H26 (pc := 113) at_113 rfl rfl ?_
    refine Own.iconst H26 (pc := 115) (0) at_115 rfl ?_
    refine Own.laload H26 (pc := 116) (v := own_sp c0) 0 at_116 B1 rfl rfl ?_
    refine Own.iload H26 (pc := 117) at_117 rfl ?_
    refine Own.callS H26 (pc := 119) (y := (⟨"com/example/firecrest/firecrest/ProbeFilterSpreadPinLaw", "word", "(JC)Z"⟩ : MethodName)) [(.long (own_sp c0)), (.int c0)] [] at_119 (hw _ (List.mem_of_getElem? (i := 8) rfl)) (hw _ (List.mem_of_getElem? (i := 9) rfl)) (hw _ (List.mem_of_getElem? (i := 10) rfl)) (hw _ (List.mem_of_getElem? (i := 11) rfl)) (by decide) (rm_word l Z a0 hw (own_sp c0) c0 _ n0 H26.z0) (r := (some .boolean)) (ps := [.long, .char]) (by decide) rfl rfl 0 rfl (by decide) (by decide) (by decide) (by decide) rfl (fun T33 v35 h34 H32 z36 q37 => ?_)
    obtain ⟨rfl, rfl⟩ := q37
    show OEnds _ _ _ _ _ _ _ _ _ (mkF _ 122 #[.val (.int p0), .val (.int p1), .val (.int p2), .val (.int p3), .val (.int p4), .val (.int (1 : Int32)), .val (.int c0), .val (.int c1), .val (.int c2), .val (.int c3), .val (.ref a), .val (.ref b), .val (.int (1 : Int32))] [(.int (if own_sp c0 = own_wd (c0 &&& 255).toInt64 then (1 : Int32) else 0))])
    rw [if_pos (own_same c0).symm]
    refine Own.if_eq H32 (pc := 122) 138 at_122 (by decide) (by decide) (fun hc => absurd hc (by decide)) (fun _ => ?_)
    refine Own.aload H32 (pc := 125) at_125 rfl rfl ?_
    refine Own.iconst H32 (pc := 127) (0) at_127 rfl ?_
    refine Own.caload H32 (pc := 128) (v := c0) 0 at_128 B' rfl rfl ?_
    refine Own.iload H32 (pc := 129) at_129 rfl ?_
    refine Own.icmp_ne H32 (pc := 131) 138 at_131 (by decide) (by decide) (fun hc => absurd rfl hc) (fun _ => ?_)
    refine Own.iconst H32 (pc := 134) (1) at_134 rfl ?_
    refine Own.goto H32 (pc := 135) 139 at_135 (by decide) (by decide) ?_
    refine Own.istore H32 (pc := 139) #[.val (.int p0), .val (.int p1), .val (.int p2), .val (.int p3), .val (.int p4), .val (.int (1 : Int32)), .val (.int c0), .val (.int c1), .val (.int c2), .val (.int c3), .val (.ref a), .val (.ref b), .val (.int (1 : Int32))] at_139 rfl ?_
    refine Own.iload H32 (pc := 141) at_141 rfl ?_
    refine Own.iconst H32 (pc := 143) (1) at_143 rfl ?_
    refine Own.icmp_le H32 (pc := 144) 180 at_144 (by decide) (by decide) (fun _ => ?_) (fun hc => absurd hc (by decide))
    refine Own.iload H32 (pc := 180) at_180 rfl ?_
    refine Own.iconst H32 (pc := 182) (2) at_182 rfl ?_
    refine Own.icmp_le H32 (pc := 183) 219 at_183 (by decide) (by decide) (fun _ => ?_) (fun hc => absurd hc (by decide))
    refine Own.iload H32 (pc := 219) at_219 rfl ?_
    refine Own.iconst H32 (pc := 221) (3) at_221 rfl ?_
    refine Own.icmp_le H32 (pc := 222) 258 at_222 (by decide) (by decide) (fun _ => ?_) (fun hc => absurd hc (by decide))
    refine Own.iload H32 (pc := 258) at_258 rfl ?_
    exact Own.ret_nar H32 (pc := 260) (1) at_260 rfl (by simp) (by decide) (by decide) (by decide) (rfl)
  · refine Own.newarray H (pc := 27) (i := 2) 4 at_27 (hw _ (List.mem_of_getElem? (i := 1) rfl)) rfl (by decide) (by decide) (by decide) (by decide) (by decide) (fun T39 h40 a eq_a ge_a H38 Ext_a Ary_a => ?_)
    refine Own.astore H38 (pc := 29) #[.val (.int p0), .val (.int p1), .val (.int p2), .val (.int p3), .val (.int p4), .val (.int (2 : Int32)), .val (.int c0), .val (.int c1), .val (.int c2), .val (.int c3), .val (.ref a), .unset, .unset] at_29 rfl rfl ?_
    refine Own.iload H38 (pc := 31) at_31 rfl ?_
    refine Own.if_le H38 (pc := 33) 42 at_33 (by decide) (by decide) (fun hc => absurd hc (by decide)) (fun _ => ?_)
    refine Own.aload H38 (pc := 36) at_36 rfl rfl ?_
    refine Own.iconst H38 (pc := 38) (0) at_38 rfl ?_
    refine Own.iload H38 (pc := 39) at_39 rfl ?_
    refine Own.castore H38 (pc := 41) 0 at_41 Ary_a ge_a rfl (by simp) (fun T42 h43 H41 W44 A45 => ?_)
    rw [hc0] at A45
    refine Own.iload H41 (pc := 42) at_42 rfl ?_
    refine Own.iconst H41 (pc := 44) (1) at_44 rfl ?_
    refine Own.icmp_le H41 (pc := 45) 54 at_45 (by decide) (by decide) (fun hc => absurd hc (by decide)) (fun _ => ?_)
    refine Own.aload H41 (pc := 48) at_48 rfl rfl ?_
    refine Own.iconst H41 (pc := 50) (1) at_50 rfl ?_
    refine Own.iload H41 (pc := 51) at_51 rfl ?_
    refine Own.castore H41 (pc := 53) 1 at_53 A45 ge_a rfl (by simp) (fun T47 h48 H46 W49 A50 => ?_)
    rw [hc1] at A50
    refine Own.iload H46 (pc := 54) at_54 rfl ?_
    refine Own.iconst H46 (pc := 56) (2) at_56 rfl ?_
    refine Own.icmp_le H46 (pc := 57) 66 at_57 (by decide) (by decide) (fun _ => ?_) (fun hc => absurd hc (by decide))
    refine Own.iload H46 (pc := 66) at_66 rfl ?_
    refine Own.iconst H46 (pc := 68) (3) at_68 rfl ?_
    refine Own.icmp_le H46 (pc := 69) 78 at_69 (by decide) (by decide) (fun _ => ?_) (fun hc => absurd hc (by decide))
    refine Own.aload H46 (pc := 78) at_78 rfl rfl ?_
    have B : OAry Z h48 a .char (([c0, c1] : List Int32).map Value.int) := A50
    refine Own.callS H46 (pc := 80) (y := (⟨"com/example/firecrest/firecrest/ProbeFilter", "spread", "([C)[J"⟩ : MethodName)) [(.ref a)] [] at_80 (hw _ (List.mem_of_getElem? (i := 2) rfl)) (hw _ (List.mem_of_getElem? (i := 3) rfl)) (hw _ (List.mem_of_getElem? (i := 4) rfl)) (hw _ (List.mem_of_getElem? (i := 5) rfl)) (by decide) (rm_spread l Z a0 hw a _ n0 H46.z0 [c0, c1] (by simp) B) (r := (some (.array .long))) (ps := [(.array .char)]) (by decide) rfl rfl 0 rfl (by decide) (by decide) (by decide) (by decide) rfl (fun T52 v54 h53 H51 z55 q56 => ?_)
    obtain ⟨b, rfl, K1, B1⟩ := q56
    show OEnds _ _ _ _ _ _ _ _ _ (mkF _ 83 #[.val (.int p0), .val (.int p1), .val (.int p2), .val (.int p3), .val (.int p4), .val (.int (2 : Int32)), .val (.int c0), .val (.int c1), .val (.int c2), .val (.int c3), .val (.ref a), .unset, .unset] [(.ref b)])
    have B' := B.keep K1 nin0
    refine Own.astore H51 (pc := 83) #[.val (.int p0), .val (.int p1), .val (.int p2), .val (.int p3), .val (.int p4), .val (.int (2 : Int32)), .val (.int c0), .val (.int c1), .val (.int c2), .val (.int c3), .val (.ref a), .val (.ref b), .unset] at_83 rfl rfl ?_
    refine Own.aload H51 (pc := 85) at_85 rfl rfl ?_
    refine Own.ifnull_ref H51 (pc := 87) at_87 ?_
    refine Own.aload H51 (pc := 90) at_90 rfl rfl ?_
    refine Own.arraylength H51 (pc := 92) (2) at_92 B1 rfl ?_
    refine Own.iload H51 (pc := 93) at_93 rfl ?_
    refine Own.icmp_eq H51 (pc := 95) 100 at_95 (by decide) (by decide) (fun _ => ?_) (fun hc => absurd hc (by decide))
    refine Own.iconst H51 (pc := 100) (1) at_100 rfl ?_
    refine Own.istore H51 (pc := 101) #[.val (.int p0), .val (.int p1), .val (.int p2), .val (.int p3), .val (.int p4), .val (.int (2 : Int32)), .val (.int c0), .val (.int c1), .val (.int c2), .val (.int c3), .val (.ref a), .val (.ref b), .val (.int (1 : Int32))] at_101 rfl ?_
    refine Own.iload H51 (pc := 103) at_103 rfl ?_
    refine Own.if_le H51 (pc := 105) 141 at_105 (by decide) (by decide) (fun hc => absurd hc (by decide)) (fun _ => ?_)
    refine Own.iload H51 (pc := 108) at_108 rfl ?_
    refine Own.if_eq H51 (pc := 110) 138 at_110 (by decide) (by decide) (fun hc => absurd hc (by decide)) (fun _ => ?_)
    refine Own.aload H51 (pc := 113) at_113 rfl rfl ?_
    refine Own.iconst H51 (pc := 115) (0) at_115 rfl ?_
    refine Own.laload H51 (pc := 116) (v := own_sp c0) 0 at_116 B1 rfl rfl ?_
    refine Own.iload H51 (pc := 117) at_117 rfl ?_
    refine Own.callS H51 (pc := 119) (y := (⟨"com/example/firecrest/firecrest/ProbeFilterSpreadPinLaw", "word", "(JC)Z"⟩ : MethodName)) [(.long (own_sp c0)), (.int c0)] [] at_119 (hw _ (List.mem_of_getElem? (i := 8) rfl)) (hw _ (List.mem_of_getElem? (i := 9) rfl)) (hw _ (List.mem_of_getElem? (i := 10) rfl)) (hw _ (List.mem_of_getElem? (i := 11) rfl)) (by decide) (rm_word l Z a0 hw (own_sp c0) c0 _ n0 H51.z0) (r := (some .boolean)) (ps := [.long, .char]) (by decide) rfl rfl 0 rfl (by decide) (by decide) (by decide) (by decide) rfl (fun T58 v60 h59 H57 z61 q62 => ?_)
    obtain ⟨rfl, rfl⟩ := q62
    show OEnds _ _ _ _ _ _ _ _ _ (mkF _ 122 #[.val (.int p0), .val (.int p1), .val (.int p2), .val (.int p3), .val (.int p4), .val (.int (2 : Int32)), .val (.int c0), .val (.int c1), .val (.int c2), .val (.int c3), .val (.ref a), .val (.ref b), .val (.int (1 : Int32))] [(.int (if own_sp c0 = own_wd (c0 &&& 255).toInt64 then (1 : Int32) else 0))])
    rw [if_pos (own_same c0).symm]
    refine Own.if_eq H57 (pc := 122) 138 at_122 (by decide) (by decide) (fun hc => absurd hc (by decide)) (fun _ => ?_)
    refine Own.aload H57 (pc := 125) at_125 rfl rfl ?_
    refine Own.iconst H57 (pc := 127) (0) at_127 rfl ?_
    refine Own.caload H57 (pc := 128) (v := c0) 0 at_128 B' rfl rfl ?_
    refine Own.iload H57 (pc := 129) at_129 rfl ?_
    refine Own.icmp_ne H57 (pc := 131) 138 at_131 (by decide) (by decide) (fun hc => absurd rfl hc) (fun _ => ?_)
    refine Own.iconst H57 (pc := 134) (1) at_134 rfl ?_
    refine Own.goto H57 (pc := 135) 139 at_135 (by decide) (by decide) ?_
    refine Own.istore H57 (pc := 139) #[.val (.int p0), .val (.int p1), .val (.int p2), .val (.int p3), .val (.int p4), .val (.int (2 : Int32)), .val (.int c0), .val (.int c1), .val (.int c2), .val (.int c3), .val (.ref a), .val (.ref b), .val (.int (1 : Int32))] at_139 rfl ?_
    refine Own.iload H57 (pc := 141) at_141 rfl ?_
    refine Own.iconst H57 (pc := 143) (1) at_143 rfl ?_
    refine Own.icmp_le H57 (pc := 144) 180 at_144 (by decide) (by decide) (fun hc => absurd hc (by decide)) (fun _ => ?_)
    refine Own.iload H57 (pc := 147) at_147 rfl ?_
    refine Own.if_eq H57 (pc := 149) 177 at_149 (by decide) (by decide) (fun hc => absurd hc (by decide)) (fun _ => ?_)
    refine Own.aload H57 (pc := 152) at_152 rfl rfl ?_
    refine Own.iconst H57 (pc := 154) (1) at_154 rfl ?_
    refine Own.laload H57 (pc := 155) (v := own_sp c1) 1 at_155 B1 rfl rfl ?_
    refine Own.iload H57 (pc := 156) at_156 rfl ?_
    refine Own.callS H57 (pc := 158) (y := (⟨"com/example/firecrest/firecrest/ProbeFilterSpreadPinLaw", "word", "(JC)Z"⟩ : MethodName)) [(.long (own_sp c1)), (.int c1)] [] at_158 (hw _ (List.mem_of_getElem? (i := 8) rfl)) (hw _ (List.mem_of_getElem? (i := 9) rfl)) (hw _ (List.mem_of_getElem? (i := 10) rfl)) (hw _ (List.mem_of_getElem? (i := 11) rfl)) (by decide) (rm_word l Z a0 hw (own_sp c1) c1 _ n0 H57.z0) (r := (some .boolean)) (ps := [.long, .char]) (by decide) rfl rfl 0 rfl (by decide) (by decide) (by decide) (by decide) rfl (fun T64 v66 h65 H63 z67 q68 => ?_)
    obtain ⟨rfl, rfl⟩ := q68
    show OEnds _ _ _ _ _ _ _ _ _ (mkF _ 161 #[.val (.int p0), .val (.int p1), .val (.int p2), .val (.int p3), .val (.int p4), .val (.int (2 : Int32)), .val (.int c0), .val (.int c1), .val (.int c2), .val (.int c3), .val (.ref a), .val (.ref b), .val (.int (1 : Int32))] [(.int (if own_sp c1 = own_wd (c1 &&& 255).toInt64 then (1 : Int32) else 0))])
    rw [if_pos (own_same c1).symm]
    refine Own.if_eq H63 (pc := 161) 177 at_161 (by decide) (by decide) (fun hc => absurd hc (by decide)) (fun _ => ?_)
    refine Own.aload H63 (pc := 164) at_164 rfl rfl ?_
    refine Own.iconst H63 (pc := 166) (1) at_166 rfl ?_
    refine Own.caload H63 (pc := 167) (v := c1) 1 at_167 B' rfl rfl ?_
    refine Own.iload H63 (pc := 168) at_168 rfl ?_
    refine Own.icmp_ne H63 (pc := 170) 177 at_170 (by decide) (by decide) (fun hc => absurd rfl hc) (fun _ => ?_)
    refine Own.iconst H63 (pc := 173) (1) at_173 rfl ?_
    refine Own.goto H63 (pc := 174) 178 at_174 (by decide) (by decide) ?_
    refine Own.istore H63 (pc := 178) #[.val (.int p0), .val (.int p1), .val (.int p2), .val (.int p3), .val (.int p4), .val (.int (2 : Int32)), .val (.int c0), .val (.int c1), .val (.int c2), .val (.int c3), .val (.ref a), .val (.ref b), .val (.int (1 : Int32))] at_178 rfl ?_
    refine Own.iload H63 (pc := 180) at_180 rfl ?_
    refine Own.iconst H63 (pc := 182) (2) at_182 rfl ?_
    refine Own.icmp_le H63 (pc := 183) 219 at_183 (by decide) (by decide) (fun _ => ?_) (fun hc => absurd hc (by decide))
    refine Own.iload H63 (pc := 219) at_219 rfl ?_
    refine Own.iconst H63 (pc := 221) (3) at_221 rfl ?_
    refine Own.icmp_le H63 (pc := 222) 258 at_222 (by decide) (by decide) (fun _ => ?_) (fun hc => absurd hc (by decide))
    refine Own.iload H63 (pc := 258) at_258 rfl ?_
    exact Own.ret_nar H63 (pc := 260) (1) at_260 rfl (by simp) (by decide) (by decide) (by decide) (rfl)
  · refine Own.newarray H (pc := 27) (i := 3) 4 at_27 (hw _ (List.mem_of_getElem? (i := 1) rfl)) rfl (by decide) (by decide) (by decide) (by decide) (by decide) (fun T70 h71 a eq_a ge_a H69 Ext_a Ary_a => ?_)
    refine Own.astore H69 (pc := 29) #[.val (.int p0), .val (.int p1), .val (.int p2), .val (.int p3), .val (.int p4), .val (.int (3 : Int32)), .val (.int c0), .val (.int c1), .val (.int c2), .val (.int c3), .val (.ref a), .unset, .unset] at_29 rfl rfl ?_
    refine Own.iload H69 (pc := 31) at_31 rfl ?_
    refine Own.if_le H69 (pc := 33) 42 at_33 (by decide) (by decide) (fun hc => absurd hc (by decide)) (fun _ => ?_)
    refine Own.aload H69 (pc := 36) at_36 rfl rfl ?_
    refine Own.iconst H69 (pc := 38) (0) at_38 rfl ?_
    refine Own.iload H69 (pc := 39) at_39 rfl ?_
    refine Own.castore H69 (pc := 41) 0 at_41 Ary_a ge_a rfl (by simp) (fun T73 h74 H72 W75 A76 => ?_)
    rw [hc0] at A76
    refine Own.iload H72 (pc := 42) at_42 rfl ?_
    refine Own.iconst H72 (pc := 44) (1) at_44 rfl ?_
    refine Own.icmp_le H72 (pc := 45) 54 at_45 (by decide) (by decide) (fun hc => absurd hc (by decide)) (fun _ => ?_)
    refine Own.aload H72 (pc := 48) at_48 rfl rfl ?_
    refine Own.iconst H72 (pc := 50) (1) at_50 rfl ?_
    refine Own.iload H72 (pc := 51) at_51 rfl ?_
    refine Own.castore H72 (pc := 53) 1 at_53 A76 ge_a rfl (by simp) (fun T78 h79 H77 W80 A81 => ?_)
    rw [hc1] at A81
    refine Own.iload H77 (pc := 54) at_54 rfl ?_
    refine Own.iconst H77 (pc := 56) (2) at_56 rfl ?_
    refine Own.icmp_le H77 (pc := 57) 66 at_57 (by decide) (by decide) (fun hc => absurd hc (by decide)) (fun _ => ?_)
    refine Own.aload H77 (pc := 60) at_60 rfl rfl ?_
    refine Own.iconst H77 (pc := 62) (2) at_62 rfl ?_
    refine Own.iload H77 (pc := 63) at_63 rfl ?_
    refine Own.castore H77 (pc := 65) 2 at_65 A81 ge_a rfl (by simp) (fun T83 h84 H82 W85 A86 => ?_)
    rw [hc2] at A86
    refine Own.iload H82 (pc := 66) at_66 rfl ?_
    refine Own.iconst H82 (pc := 68) (3) at_68 rfl ?_
    refine Own.icmp_le H82 (pc := 69) 78 at_69 (by decide) (by decide) (fun _ => ?_) (fun hc => absurd hc (by decide))
    refine Own.aload H82 (pc := 78) at_78 rfl rfl ?_
    have B : OAry Z h84 a .char (([c0, c1, c2] : List Int32).map Value.int) := A86
    refine Own.callS H82 (pc := 80) (y := (⟨"com/example/firecrest/firecrest/ProbeFilter", "spread", "([C)[J"⟩ : MethodName)) [(.ref a)] [] at_80 (hw _ (List.mem_of_getElem? (i := 2) rfl)) (hw _ (List.mem_of_getElem? (i := 3) rfl)) (hw _ (List.mem_of_getElem? (i := 4) rfl)) (hw _ (List.mem_of_getElem? (i := 5) rfl)) (by decide) (rm_spread l Z a0 hw a _ n0 H82.z0 [c0, c1, c2] (by simp) B) (r := (some (.array .long))) (ps := [(.array .char)]) (by decide) rfl rfl 0 rfl (by decide) (by decide) (by decide) (by decide) rfl (fun T88 v90 h89 H87 z91 q92 => ?_)
    obtain ⟨b, rfl, K1, B1⟩ := q92
    show OEnds _ _ _ _ _ _ _ _ _ (mkF _ 83 #[.val (.int p0), .val (.int p1), .val (.int p2), .val (.int p3), .val (.int p4), .val (.int (3 : Int32)), .val (.int c0), .val (.int c1), .val (.int c2), .val (.int c3), .val (.ref a), .unset, .unset] [(.ref b)])
    have B' := B.keep K1 nin0
    refine Own.astore H87 (pc := 83) #[.val (.int p0), .val (.int p1), .val (.int p2), .val (.int p3), .val (.int p4), .val (.int (3 : Int32)), .val (.int c0), .val (.int c1), .val (.int c2), .val (.int c3), .val (.ref a), .val (.ref b), .unset] at_83 rfl rfl ?_
    refine Own.aload H87 (pc := 85) at_85 rfl rfl ?_
    refine Own.ifnull_ref H87 (pc := 87) at_87 ?_
    refine Own.aload H87 (pc := 90) at_90 rfl rfl ?_
    refine Own.arraylength H87 (pc := 92) (3) at_92 B1 rfl ?_
    refine Own.iload H87 (pc := 93) at_93 rfl ?_
    refine Own.icmp_eq H87 (pc := 95) 100 at_95 (by decide) (by decide) (fun _ => ?_) (fun hc => absurd hc (by decide))
    refine Own.iconst H87 (pc := 100) (1) at_100 rfl ?_
    refine Own.istore H87 (pc := 101) #[.val (.int p0), .val (.int p1), .val (.int p2), .val (.int p3), .val (.int p4), .val (.int (3 : Int32)), .val (.int c0), .val (.int c1), .val (.int c2), .val (.int c3), .val (.ref a), .val (.ref b), .val (.int (1 : Int32))] at_101 rfl ?_
    refine Own.iload H87 (pc := 103) at_103 rfl ?_
    refine Own.if_le H87 (pc := 105) 141 at_105 (by decide) (by decide) (fun hc => absurd hc (by decide)) (fun _ => ?_)
    refine Own.iload H87 (pc := 108) at_108 rfl ?_
    refine Own.if_eq H87 (pc := 110) 138 at_110 (by decide) (by decide) (fun hc => absurd hc (by decide)) (fun _ => ?_)
    refine Own.aload H87 (pc := 113) at_113 rfl rfl ?_
    refine Own.iconst H87 (pc := 115) (0) at_115 rfl ?_
    refine Own.laload H87 (pc := 116) (v := own_sp c0) 0 at_116 B1 rfl rfl ?_
    refine Own.iload H87 (pc := 117) at_117 rfl ?_
    refine Own.callS H87 (pc := 119) (y := (⟨"com/example/firecrest/firecrest/ProbeFilterSpreadPinLaw", "word", "(JC)Z"⟩ : MethodName)) [(.long (own_sp c0)), (.int c0)] [] at_119 (hw _ (List.mem_of_getElem? (i := 8) rfl)) (hw _ (List.mem_of_getElem? (i := 9) rfl)) (hw _ (List.mem_of_getElem? (i := 10) rfl)) (hw _ (List.mem_of_getElem? (i := 11) rfl)) (by decide) (rm_word l Z a0 hw (own_sp c0) c0 _ n0 H87.z0) (r := (some .boolean)) (ps := [.long, .char]) (by decide) rfl rfl 0 rfl (by decide) (by decide) (by decide) (by decide) rfl (fun T94 v96 h95 H93 z97 q98 => ?_)
    obtain ⟨rfl, rfl⟩ := q98
    show OEnds _ _ _ _ _ _ _ _ _ (mkF _ 122 #[.val (.int p0), .val (.int p1), .val (.int p2), .val (.int p3), .val (.int p4), .val (.int (3 : Int32)), .val (.int c0), .val (.int c1), .val (.int c2), .val (.int c3), .val (.ref a), .val (.ref b), .val (.int (1 : Int32))] [(.int (if own_sp c0 = own_wd (c0 &&& 255).toInt64 then (1 : Int32) else 0))])
    rw [if_pos (own_same c0).symm]
    refine Own.if_eq H93 (pc := 122) 138 at_122 (by decide) (by decide) (fun hc => absurd hc (by decide)) (fun _ => ?_)
    refine Own.aload H93 (pc := 125) at_125 rfl rfl ?_
    refine Own.iconst H93 (pc := 127) (0) at_127 rfl ?_
    refine Own.caload H93 (pc := 128) (v := c0) 0 at_128 B' rfl rfl ?_
    refine Own.iload H93 (pc := 129) at_129 rfl ?_
    refine Own.icmp_ne H93 (pc := 131) 138 at_131 (by decide) (by decide) (fun hc => absurd rfl hc) (fun _ => ?_)
    refine Own.iconst H93 (pc := 134) (1) at_134 rfl ?_
    refine Own.goto H93 (pc := 135) 139 at_135 (by decide) (by decide) ?_
    refine Own.istore H93 (pc := 139) #[.val (.int p0), .val (.int p1), .val (.int p2), .val (.int p3), .val (.int p4), .val (.int (3 : Int32)), .val (.int c0), .val (.int c1), .val (.int c2), .val (.int c3), .val (.ref a), .val (.ref b), .val (.int (1 : Int32))] at_139 rfl ?_
    refine Own.iload H93 (pc := 141) at_141 rfl ?_
    refine Own.iconst H93 (pc := 143) (1) at_143 rfl ?_
    refine Own.icmp_le H93 (pc := 144) 180 at_144 (by decide) (by decide) (fun hc => absurd hc (by decide)) (fun _ => ?_)
    refine Own.iload H93 (pc := 147) at_147 rfl ?_
    refine Own.if_eq H93 (pc := 149) 177 at_149 (by decide) (by decide) (fun hc => absurd hc (by decide)) (fun _ => ?_)
    refine Own.aload H93 (pc := 152) at_152 rfl rfl ?_
    refine Own.iconst H93 (pc := 154) (1) at_154 rfl ?_
    refine Own.laload H93 (pc := 155) (v := own_sp c1) 1 at_155 B1 rfl rfl ?_
    refine Own.iload H93 (pc := 156) at_156 rfl ?_
    refine Own.callS H93 (pc := 158) (y := (⟨"com/example/firecrest/firecrest/ProbeFilterSpreadPinLaw", "word", "(JC)Z"⟩ : MethodName)) [(.long (own_sp c1)), (.int c1)] [] at_158 (hw _ (List.mem_of_getElem? (i := 8) rfl)) (hw _ (List.mem_of_getElem? (i := 9) rfl)) (hw _ (List.mem_of_getElem? (i := 10) rfl)) (hw _ (List.mem_of_getElem? (i := 11) rfl)) (by decide) (rm_word l Z a0 hw (own_sp c1) c1 _ n0 H93.z0) (r := (some .boolean)) (ps := [.long, .char]) (by decide) rfl rfl 0 rfl (by decide) (by decide) (by decide) (by decide) rfl (fun T100 v102 h101 H99 z103 q104 => ?_)
    obtain ⟨rfl, rfl⟩ := q104
    show OEnds _ _ _ _ _ _ _ _ _ (mkF _ 161 #[.val (.int p0), .val (.int p1), .val (.int p2), .val (.int p3), .val (.int p4), .val (.int (3 : Int32)), .val (.int c0), .val (.int c1), .val (.int c2), .val (.int c3), .val (.ref a), .val (.ref b), .val (.int (1 : Int32))] [(.int (if own_sp c1 = own_wd (c1 &&& 255).toInt64 then (1 : Int32) else 0))])
    rw [if_pos (own_same c1).symm]
    refine Own.if_eq H99 (pc := 161) 177 at_161 (by decide) (by decide) (fun hc => absurd hc (by decide)) (fun _ => ?_)
    refine Own.aload H99 (pc := 164) at_164 rfl rfl ?_
    refine Own.iconst H99 (pc := 166) (1) at_166 rfl ?_
    refine Own.caload H99 (pc := 167) (v := c1) 1 at_167 B' rfl rfl ?_
    refine Own.iload H99 (pc := 168) at_168 rfl ?_
    refine Own.icmp_ne H99 (pc := 170) 177 at_170 (by decide) (by decide) (fun hc => absurd rfl hc) (fun _ => ?_)
    refine Own.iconst H99 (pc := 173) (1) at_173 rfl ?_
    refine Own.goto H99 (pc := 174) 178 at_174 (by decide) (by decide) ?_
    refine Own.istore H99 (pc := 178) #[.val (.int p0), .val (.int p1), .val (.int p2), .val (.int p3), .val (.int p4), .val (.int (3 : Int32)), .val (.int c0), .val (.int c1), .val (.int c2), .val (.int c3), .val (.ref a), .val (.ref b), .val (.int (1 : Int32))] at_178 rfl ?_
    refine Own.iload H99 (pc := 180) at_180 rfl ?_
    refine Own.iconst H99 (pc := 182) (2) at_182 rfl ?_
    refine Own.icmp_le H99 (pc := 183) 219 at_183 (by decide) (by decide) (fun hc => absurd hc (by decide)) (fun _ => ?_)
    refine Own.iload H99 (pc := 186) at_186 rfl ?_
    refine Own.if_eq H99 (pc := 188) 216 at_188 (by decide) (by decide) (fun hc => absurd hc (by decide)) (fun _ => ?_)
    refine Own.aload H99 (pc := 191) at_191 rfl rfl ?_
    refine Own.iconst H99 (pc := 193) (2) at_193 rfl ?_
    refine Own.laload H99 (pc := 194) (v := own_sp c2) 2 at_194 B1 rfl rfl ?_
    refine Own.iload H99 (pc := 195) at_195 rfl ?_
    refine Own.callS H99 (pc := 197) (y := (⟨"com/example/firecrest/firecrest/ProbeFilterSpreadPinLaw", "word", "(JC)Z"⟩ : MethodName)) [(.long (own_sp c2)), (.int c2)] [] at_197 (hw _ (List.mem_of_getElem? (i := 8) rfl)) (hw _ (List.mem_of_getElem? (i := 9) rfl)) (hw _ (List.mem_of_getElem? (i := 10) rfl)) (hw _ (List.mem_of_getElem? (i := 11) rfl)) (by decide) (rm_word l Z a0 hw (own_sp c2) c2 _ n0 H99.z0) (r := (some .boolean)) (ps := [.long, .char]) (by decide) rfl rfl 0 rfl (by decide) (by decide) (by decide) (by decide) rfl (fun T106 v108 h107 H105 z109 q110 => ?_)
    obtain ⟨rfl, rfl⟩ := q110
    show OEnds _ _ _ _ _ _ _ _ _ (mkF _ 200 #[.val (.int p0), .val (.int p1), .val (.int p2), .val (.int p3), .val (.int p4), .val (.int (3 : Int32)), .val (.int c0), .val (.int c1), .val (.int c2), .val (.int c3), .val (.ref a), .val (.ref b), .val (.int (1 : Int32))] [(.int (if own_sp c2 = own_wd (c2 &&& 255).toInt64 then (1 : Int32) else 0))])
    rw [if_pos (own_same c2).symm]
    refine Own.if_eq H105 (pc := 200) 216 at_200 (by decide) (by decide) (fun hc => absurd hc (by decide)) (fun _ => ?_)
    refine Own.aload H105 (pc := 203) at_203 rfl rfl ?_
    refine Own.iconst H105 (pc := 205) (2) at_205 rfl ?_
    refine Own.caload H105 (pc := 206) (v := c2) 2 at_206 B' rfl rfl ?_
    refine Own.iload H105 (pc := 207) at_207 rfl ?_
    refine Own.icmp_ne H105 (pc := 209) 216 at_209 (by decide) (by decide) (fun hc => absurd rfl hc) (fun _ => ?_)
    refine Own.iconst H105 (pc := 212) (1) at_212 rfl ?_
    refine Own.goto H105 (pc := 213) 217 at_213 (by decide) (by decide) ?_
    refine Own.istore H105 (pc := 217) #[.val (.int p0), .val (.int p1), .val (.int p2), .val (.int p3), .val (.int p4), .val (.int (3 : Int32)), .val (.int c0), .val (.int c1), .val (.int c2), .val (.int c3), .val (.ref a), .val (.ref b), .val (.int (1 : Int32))] at_217 rfl ?_
    refine Own.iload H105 (pc := 219) at_219 rfl ?_
    refine Own.iconst H105 (pc := 221) (3) at_221 rfl ?_
    refine Own.icmp_le H105 (pc := 222) 258 at_222 (by decide) (by decide) (fun _ => ?_) (fun hc => absurd hc (by decide))
    refine Own.iload H105 (pc := 258) at_258 rfl ?_
    exact Own.ret_nar H105 (pc := 260) (1) at_260 rfl (by simp) (by decide) (by decide) (by decide) (rfl)
  · refine Own.newarray H (pc := 27) (i := 4) 4 at_27 (hw _ (List.mem_of_getElem? (i := 1) rfl)) rfl (by decide) (by decide) (by decide) (by decide) (by decide) (fun T112 h113 a eq_a ge_a H111 Ext_a Ary_a => ?_)
    refine Own.astore H111 (pc := 29) #[.val (.int p0), .val (.int p1), .val (.int p2), .val (.int p3), .val (.int p4), .val (.int (4 : Int32)), .val (.int c0), .val (.int c1), .val (.int c2), .val (.int c3), .val (.ref a), .unset, .unset] at_29 rfl rfl ?_
    refine Own.iload H111 (pc := 31) at_31 rfl ?_
    refine Own.if_le H111 (pc := 33) 42 at_33 (by decide) (by decide) (fun hc => absurd hc (by decide)) (fun _ => ?_)
    refine Own.aload H111 (pc := 36) at_36 rfl rfl ?_
    refine Own.iconst H111 (pc := 38) (0) at_38 rfl ?_
    refine Own.iload H111 (pc := 39) at_39 rfl ?_
    refine Own.castore H111 (pc := 41) 0 at_41 Ary_a ge_a rfl (by simp) (fun T115 h116 H114 W117 A118 => ?_)
    rw [hc0] at A118
    refine Own.iload H114 (pc := 42) at_42 rfl ?_
    refine Own.iconst H114 (pc := 44) (1) at_44 rfl ?_
    refine Own.icmp_le H114 (pc := 45) 54 at_45 (by decide) (by decide) (fun hc => absurd hc (by decide)) (fun _ => ?_)
    refine Own.aload H114 (pc := 48) at_48 rfl rfl ?_
    refine Own.iconst H114 (pc := 50) (1) at_50 rfl ?_
    refine Own.iload H114 (pc := 51) at_51 rfl ?_
    refine Own.castore H114 (pc := 53) 1 at_53 A118 ge_a rfl (by simp) (fun T120 h121 H119 W122 A123 => ?_)
    rw [hc1] at A123
    refine Own.iload H119 (pc := 54) at_54 rfl ?_
    refine Own.iconst H119 (pc := 56) (2) at_56 rfl ?_
    refine Own.icmp_le H119 (pc := 57) 66 at_57 (by decide) (by decide) (fun hc => absurd hc (by decide)) (fun _ => ?_)
    refine Own.aload H119 (pc := 60) at_60 rfl rfl ?_
    refine Own.iconst H119 (pc := 62) (2) at_62 rfl ?_
    refine Own.iload H119 (pc := 63) at_63 rfl ?_
    refine Own.castore H119 (pc := 65) 2 at_65 A123 ge_a rfl (by simp) (fun T125 h126 H124 W127 A128 => ?_)
    rw [hc2] at A128
    refine Own.iload H124 (pc := 66) at_66 rfl ?_
    refine Own.iconst H124 (pc := 68) (3) at_68 rfl ?_
    refine Own.icmp_le H124 (pc := 69) 78 at_69 (by decide) (by decide) (fun hc => absurd hc (by decide)) (fun _ => ?_)
    refine Own.aload H124 (pc := 72) at_72 rfl rfl ?_
    refine Own.iconst H124 (pc := 74) (3) at_74 rfl ?_
    refine Own.iload H124 (pc := 75) at_75 rfl ?_
    refine Own.castore H124 (pc := 77) 3 at_77 A128 ge_a rfl (by simp) (fun T130 h131 H129 W132 A133 => ?_)
    rw [hc3] at A133
    refine Own.aload H129 (pc := 78) at_78 rfl rfl ?_
    have B : OAry Z h131 a .char (([c0, c1, c2, c3] : List Int32).map Value.int) := A133
    refine Own.callS H129 (pc := 80) (y := (⟨"com/example/firecrest/firecrest/ProbeFilter", "spread", "([C)[J"⟩ : MethodName)) [(.ref a)] [] at_80 (hw _ (List.mem_of_getElem? (i := 2) rfl)) (hw _ (List.mem_of_getElem? (i := 3) rfl)) (hw _ (List.mem_of_getElem? (i := 4) rfl)) (hw _ (List.mem_of_getElem? (i := 5) rfl)) (by decide) (rm_spread l Z a0 hw a _ n0 H129.z0 [c0, c1, c2, c3] (by simp) B) (r := (some (.array .long))) (ps := [(.array .char)]) (by decide) rfl rfl 0 rfl (by decide) (by decide) (by decide) (by decide) rfl (fun T135 v137 h136 H134 z138 q139 => ?_)
    obtain ⟨b, rfl, K1, B1⟩ := q139
    show OEnds _ _ _ _ _ _ _ _ _ (mkF _ 83 #[.val (.int p0), .val (.int p1), .val (.int p2), .val (.int p3), .val (.int p4), .val (.int (4 : Int32)), .val (.int c0), .val (.int c1), .val (.int c2), .val (.int c3), .val (.ref a), .unset, .unset] [(.ref b)])
    have B' := B.keep K1 nin0
    refine Own.astore H134 (pc := 83) #[.val (.int p0), .val (.int p1), .val (.int p2), .val (.int p3), .val (.int p4), .val (.int (4 : Int32)), .val (.int c0), .val (.int c1), .val (.int c2), .val (.int c3), .val (.ref a), .val (.ref b), .unset] at_83 rfl rfl ?_
    refine Own.aload H134 (pc := 85) at_85 rfl rfl ?_
    refine Own.ifnull_ref H134 (pc := 87) at_87 ?_
    refine Own.aload H134 (pc := 90) at_90 rfl rfl ?_
    refine Own.arraylength H134 (pc := 92) (4) at_92 B1 rfl ?_
    refine Own.iload H134 (pc := 93) at_93 rfl ?_
    refine Own.icmp_eq H134 (pc := 95) 100 at_95 (by decide) (by decide) (fun _ => ?_) (fun hc => absurd hc (by decide))
    refine Own.iconst H134 (pc := 100) (1) at_100 rfl ?_
    refine Own.istore H134 (pc := 101) #[.val (.int p0), .val (.int p1), .val (.int p2), .val (.int p3), .val (.int p4), .val (.int (4 : Int32)), .val (.int c0), .val (.int c1), .val (.int c2), .val (.int c3), .val (.ref a), .val (.ref b), .val (.int (1 : Int32))] at_101 rfl ?_
    refine Own.iload H134 (pc := 103) at_103 rfl ?_
    refine Own.if_le H134 (pc := 105) 141 at_105 (by decide) (by decide) (fun hc => absurd hc (by decide)) (fun _ => ?_)
    refine Own.iload H134 (pc := 108) at_108 rfl ?_
    refine Own.if_eq H134 (pc := 110) 138 at_110 (by decide) (by decide) (fun hc => absurd hc (by decide)) (fun _ => ?_)
    refine Own.aload H134 (pc := 113) at_113 rfl rfl ?_
    refine Own.iconst H134 (pc := 115) (0) at_115 rfl ?_
    refine Own.laload H134 (pc := 116) (v := own_sp c0) 0 at_116 B1 rfl rfl ?_
    refine Own.iload H134 (pc := 117) at_117 rfl ?_
    refine Own.callS H134 (pc := 119) (y := (⟨"com/example/firecrest/firecrest/ProbeFilterSpreadPinLaw", "word", "(JC)Z"⟩ : MethodName)) [(.long (own_sp c0)), (.int c0)] [] at_119 (hw _ (List.mem_of_getElem? (i := 8) rfl)) (hw _ (List.mem_of_getElem? (i := 9) rfl)) (hw _ (List.mem_of_getElem? (i := 10) rfl)) (hw _ (List.mem_of_getElem? (i := 11) rfl)) (by decide) (rm_word l Z a0 hw (own_sp c0) c0 _ n0 H134.z0) (r := (some .boolean)) (ps := [.long, .char]) (by decide) rfl rfl 0 rfl (by decide) (by decide) (by decide) (by decide) rfl (fun T141 v143 h142 H140 z144 q145 => ?_)
    obtain ⟨rfl, rfl⟩ := q145
    show OEnds _ _ _ _ _ _ _ _ _ (mkF _ 122 #[.val (.int p0), .val (.int p1), .val (.int p2), .val (.int p3), .val (.int p4), .val (.int (4 : Int32)), .val (.int c0), .val (.int c1), .val (.int c2), .val (.int c3), .val (.ref a), .val (.ref b), .val (.int (1 : Int32))] [(.int (if own_sp c0 = own_wd (c0 &&& 255).toInt64 then (1 : Int32) else 0))])
    rw [if_pos (own_same c0).symm]
    refine Own.if_eq H140 (pc := 122) 138 at_122 (by decide) (by decide) (fun hc => absurd hc (by decide)) (fun _ => ?_)
    refine Own.aload H140 (pc := 125) at_125 rfl rfl ?_
    refine Own.iconst H140 (pc := 127) (0) at_127 rfl ?_
    refine Own.caload H140 (pc := 128) (v := c0) 0 at_128 B' rfl rfl ?_
    refine Own.iload H140 (pc := 129) at_129 rfl ?_
    refine Own.icmp_ne H140 (pc := 131) 138 at_131 (by decide) (by decide) (fun hc => absurd rfl hc) (fun _ => ?_)
    refine Own.iconst H140 (pc := 134) (1) at_134 rfl ?_
    refine Own.goto H140 (pc := 135) 139 at_135 (by decide) (by decide) ?_
    refine Own.istore H140 (pc := 139) #[.val (.int p0), .val (.int p1), .val (.int p2), .val (.int p3), .val (.int p4), .val (.int (4 : Int32)), .val (.int c0), .val (.int c1), .val (.int c2), .val (.int c3), .val (.ref a), .val (.ref b), .val (.int (1 : Int32))] at_139 rfl ?_
    refine Own.iload H140 (pc := 141) at_141 rfl ?_
    refine Own.iconst H140 (pc := 143) (1) at_143 rfl ?_
    refine Own.icmp_le H140 (pc := 144) 180 at_144 (by decide) (by decide) (fun hc => absurd hc (by decide)) (fun _ => ?_)
    refine Own.iload H140 (pc := 147) at_147 rfl ?_
    refine Own.if_eq H140 (pc := 149) 177 at_149 (by decide) (by decide) (fun hc => absurd hc (by decide)) (fun _ => ?_)
    refine Own.aload H140 (pc := 152) at_152 rfl rfl ?_
    refine Own.iconst H140 (pc := 154) (1) at_154 rfl ?_
    refine Own.laload H140 (pc := 155) (v := own_sp c1) 1 at_155 B1 rfl rfl ?_
    refine Own.iload H140 (pc := 156) at_156 rfl ?_
    refine Own.callS H140 (pc := 158) (y := (⟨"com/example/firecrest/firecrest/ProbeFilterSpreadPinLaw", "word", "(JC)Z"⟩ : MethodName)) [(.long (own_sp c1)), (.int c1)] [] at_158 (hw _ (List.mem_of_getElem? (i := 8) rfl)) (hw _ (List.mem_of_getElem? (i := 9) rfl)) (hw _ (List.mem_of_getElem? (i := 10) rfl)) (hw _ (List.mem_of_getElem? (i := 11) rfl)) (by decide) (rm_word l Z a0 hw (own_sp c1) c1 _ n0 H140.z0) (r := (some .boolean)) (ps := [.long, .char]) (by decide) rfl rfl 0 rfl (by decide) (by decide) (by decide) (by decide) rfl (fun T147 v149 h148 H146 z150 q151 => ?_)
    obtain ⟨rfl, rfl⟩ := q151
    show OEnds _ _ _ _ _ _ _ _ _ (mkF _ 161 #[.val (.int p0), .val (.int p1), .val (.int p2), .val (.int p3), .val (.int p4), .val (.int (4 : Int32)), .val (.int c0), .val (.int c1), .val (.int c2), .val (.int c3), .val (.ref a), .val (.ref b), .val (.int (1 : Int32))] [(.int (if own_sp c1 = own_wd (c1 &&& 255).toInt64 then (1 : Int32) else 0))])
    rw [if_pos (own_same c1).symm]
    refine Own.if_eq H146 (pc := 161) 177 at_161 (by decide) (by decide) (fun hc => absurd hc (by decide)) (fun _ => ?_)
    refine Own.aload H146 (pc := 164) at_164 rfl rfl ?_
    refine Own.iconst H146 (pc := 166) (1) at_166 rfl ?_
    refine Own.caload H146 (pc := 167) (v := c1) 1 at_167 B' rfl rfl ?_
    refine Own.iload H146 (pc := 168) at_168 rfl ?_
    refine Own.icmp_ne H146 (pc := 170) 177 at_170 (by decide) (by decide) (fun hc => absurd rfl hc) (fun _ => ?_)
    refine Own.iconst H146 (pc := 173) (1) at_173 rfl ?_
    refine Own.goto H146 (pc := 174) 178 at_174 (by decide) (by decide) ?_
    refine Own.istore H146 (pc := 178) #[.val (.int p0), .val (.int p1), .val (.int p2), .val (.int p3), .val (.int p4), .val (.int (4 : Int32)), .val (.int c0), .val (.int c1), .val (.int c2), .val (.int c3), .val (.ref a), .val (.ref b), .val (.int (1 : Int32))] at_178 rfl ?_
    refine Own.iload H146 (pc := 180) at_180 rfl ?_
    refine Own.iconst H146 (pc := 182) (2) at_182 rfl ?_
    refine Own.icmp_le H146 (pc := 183) 219 at_183 (by decide) (by decide) (fun hc => absurd hc (by decide)) (fun _ => ?_)
    refine Own.iload H146 (pc := 186) at_186 rfl ?_
    refine Own.if_eq H146 (pc := 188) 216 at_188 (by decide) (by decide) (fun hc => absurd hc (by decide)) (fun _ => ?_)
    refine Own.aload H146 (pc := 191) at_191 rfl rfl ?_
    refine Own.iconst H146 (pc := 193) (2) at_193 rfl ?_
    refine Own.laload H146 (pc := 194) (v := own_sp c2) 2 at_194 B1 rfl rfl ?_
    refine Own.iload H146 (pc := 195) at_195 rfl ?_
    refine Own.callS H146 (pc := 197) (y := (⟨"com/example/firecrest/firecrest/ProbeFilterSpreadPinLaw", "word", "(JC)Z"⟩ : MethodName)) [(.long (own_sp c2)), (.int c2)] [] at_197 (hw _ (List.mem_of_getElem? (i := 8) rfl)) (hw _ (List.mem_of_getElem? (i := 9) rfl)) (hw _ (List.mem_of_getElem? (i := 10) rfl)) (hw _ (List.mem_of_getElem? (i := 11) rfl)) (by decide) (rm_word l Z a0 hw (own_sp c2) c2 _ n0 H146.z0) (r := (some .boolean)) (ps := [.long, .char]) (by decide) rfl rfl 0 rfl (by decide) (by decide) (by decide) (by decide) rfl (fun T153 v155 h154 H152 z156 q157 => ?_)
    obtain ⟨rfl, rfl⟩ := q157
    show OEnds _ _ _ _ _ _ _ _ _ (mkF _ 200 #[.val (.int p0), .val (.int p1), .val (.int p2), .val (.int p3), .val (.int p4), .val (.int (4 : Int32)), .val (.int c0), .val (.int c1), .val (.int c2), .val (.int c3), .val (.ref a), .val (.ref b), .val (.int (1 : Int32))] [(.int (if own_sp c2 = own_wd (c2 &&& 255).toInt64 then (1 : Int32) else 0))])
    rw [if_pos (own_same c2).symm]
    refine Own.if_eq H152 (pc := 200) 216 at_200 (by decide) (by decide) (fun hc => absurd hc (by decide)) (fun _ => ?_)
    refine Own.aload H152 (pc := 203) at_203 rfl rfl ?_
    refine Own.iconst H152 (pc := 205) (2) at_205 rfl ?_
    refine Own.caload H152 (pc := 206) (v := c2) 2 at_206 B' rfl rfl ?_
    refine Own.iload H152 (pc := 207) at_207 rfl ?_
    refine Own.icmp_ne H152 (pc := 209) 216 at_209 (by decide) (by decide) (fun hc => absurd rfl hc) (fun _ => ?_)
    refine Own.iconst H152 (pc := 212) (1) at_212 rfl ?_
    refine Own.goto H152 (pc := 213) 217 at_213 (by decide) (by decide) ?_
    refine Own.istore H152 (pc := 217) #[.val (.int p0), .val (.int p1), .val (.int p2), .val (.int p3), .val (.int p4), .val (.int (4 : Int32)), .val (.int c0), .val (.int c1), .val (.int c2), .val (.int c3), .val (.ref a), .val (.ref b), .val (.int (1 : Int32))] at_217 rfl ?_
    refine Own.iload H152 (pc := 219) at_219 rfl ?_
    refine Own.iconst H152 (pc := 221) (3) at_221 rfl ?_
    refine Own.icmp_le H152 (pc := 222) 258 at_222 (by decide) (by decide) (fun hc => absurd hc (by decide)) (fun _ => ?_)
    refine Own.iload H152 (pc := 225) at_225 rfl ?_
    refine Own.if_eq H152 (pc := 227) 255 at_227 (by decide) (by decide) (fun hc => absurd hc (by decide)) (fun _ => ?_)
    refine Own.aload H152 (pc := 230) at_230 rfl rfl ?_
    refine Own.iconst H152 (pc := 232) (3) at_232 rfl ?_
    refine Own.laload H152 (pc := 233) (v := own_sp c3) 3 at_233 B1 rfl rfl ?_
    refine Own.iload H152 (pc := 234) at_234 rfl ?_
    refine Own.callS H152 (pc := 236) (y := (⟨"com/example/firecrest/firecrest/ProbeFilterSpreadPinLaw", "word", "(JC)Z"⟩ : MethodName)) [(.long (own_sp c3)), (.int c3)] [] at_236 (hw _ (List.mem_of_getElem? (i := 8) rfl)) (hw _ (List.mem_of_getElem? (i := 9) rfl)) (hw _ (List.mem_of_getElem? (i := 10) rfl)) (hw _ (List.mem_of_getElem? (i := 11) rfl)) (by decide) (rm_word l Z a0 hw (own_sp c3) c3 _ n0 H152.z0) (r := (some .boolean)) (ps := [.long, .char]) (by decide) rfl rfl 0 rfl (by decide) (by decide) (by decide) (by decide) rfl (fun T159 v161 h160 H158 z162 q163 => ?_)
    obtain ⟨rfl, rfl⟩ := q163
    show OEnds _ _ _ _ _ _ _ _ _ (mkF _ 239 #[.val (.int p0), .val (.int p1), .val (.int p2), .val (.int p3), .val (.int p4), .val (.int (4 : Int32)), .val (.int c0), .val (.int c1), .val (.int c2), .val (.int c3), .val (.ref a), .val (.ref b), .val (.int (1 : Int32))] [(.int (if own_sp c3 = own_wd (c3 &&& 255).toInt64 then (1 : Int32) else 0))])
    rw [if_pos (own_same c3).symm]
    refine Own.if_eq H158 (pc := 239) 255 at_239 (by decide) (by decide) (fun hc => absurd hc (by decide)) (fun _ => ?_)
    refine Own.aload H158 (pc := 242) at_242 rfl rfl ?_
    refine Own.iconst H158 (pc := 244) (3) at_244 rfl ?_
    refine Own.caload H158 (pc := 245) (v := c3) 3 at_245 B' rfl rfl ?_
    refine Own.iload H158 (pc := 246) at_246 rfl ?_
    refine Own.icmp_ne H158 (pc := 248) 255 at_248 (by decide) (by decide) (fun hc => absurd rfl hc) (fun _ => ?_)
    refine Own.iconst H158 (pc := 251) (1) at_251 rfl ?_
    refine Own.goto H158 (pc := 252) 256 at_252 (by decide) (by decide) ?_
    refine Own.istore H158 (pc := 256) #[.val (.int p0), .val (.int p1), .val (.int p2), .val (.int p3), .val (.int p4), .val (.int (4 : Int32)), .val (.int c0), .val (.int c1), .val (.int c2), .val (.int c3), .val (.ref a), .val (.ref b), .val (.int (1 : Int32))] at_256 rfl ?_
    refine Own.iload H158 (pc := 258) at_258 rfl ?_
    exact Own.ret_nar H158 (pc := 260) (1) at_260 rfl (by simp) (by decide) (by decide) (by decide) (rfl)
set_option maxRecDepth 65536 in
set_option maxHeartbeats 40000000 in
theorem comes_1 {Post : Tables → Env → Array Value → State → Outcome → State → Prop} (hpost : ∀ tb e args s v u, (limb_1_1.after args s (.returned v) u = true ∧ limb_1_2.after args s (.returned v) u = true ∧ True) → FrameEnd s (.returned v) u (Jvm.fieldLocs frame_1_writes args s ++ Jvm.arrayLocs frame_1_arrays args s ++ Jvm.staticLocs frame_1_statics s) 16 128 → Post tb e args s (.returned v) u) :
    ArmFor flags0 classFile x code maxLocals ret World_1 tables_1 room_1 Calls_1 rest_1 Pre_1 Post := by
  intro l hfl _ _ p e ha hc hk s m args below hf hA hF happ hP
  obtain ⟨hcalls, hrest, hpre⟩ := hP
  obtain ⟨-, -, -, hnamed, -, -, -, hat⟩ := (Spec.applies_iff hf).mp happ
  obtain ⟨hg, hn⟩ := and_e (Cond.before_iff.mp (show (Jvm.Cond.and given_1 narrow_1).before args s = true from hpre))
  obtain ⟨g0, k0⟩ := and_e hg
  obtain ⟨g1, k1⟩ := and_e k0
  obtain ⟨g2, k2⟩ := and_e k1
  obtain ⟨g3, k3⟩ := and_e k2
  obtain ⟨g4, k4⟩ := and_e k3
  obtain ⟨w0, w1, w2, w3, w4, rfl⟩ : ∃ w0 w1 w2 w3 w4 : Value, args = #[w0, w1, w2, w3, w4] := by
    have hs : args.size = 5 := by simpa [Cond.value, given_1] using g0
    obtain ⟨L⟩ := args
    match L, hs with
    | [w0, w1, w2, w3, w4], _ => exact ⟨w0, w1, w2, w3, w4, rfl⟩
  have hw := fun d (hd : d ∈ tables_1) => atoms_spec (ws := Jvm.Cond.code x code maxLocals ret :: tables_1) hat d (List.mem_cons_of_mem _ hd)
  have hfit : Fit s := fun {y c} hc i hi => by
    obtain ⟨ha, rfl⟩ := Array.getElem?_eq_some_iff.mp hc
    have q := List.all_eq_true.mp ((Array.all_eq_true_iff_forall_mem.mp hF) _ (Array.getElem_mem ha)) i (List.mem_range.mpr hi)
    simpa [Array.getElem?_eq_getElem hi] using q
  obtain ⟨i0, e0⟩ := is_v g1
  obtain rfl : w0 = (.int i0) := Option.some.inj e0
  obtain ⟨i1, e1⟩ := is_v g2
  obtain rfl : w1 = (.int i1) := Option.some.inj e1
  obtain ⟨i2, e2⟩ := is_v g3
  obtain rfl : w2 = (.int i2) := Option.some.inj e2
  obtain ⟨i3, e3⟩ := is_v g4
  obtain rfl : w3 = (.int i3) := Option.some.inj e3
  obtain ⟨i4, e4⟩ := is_v k4
  obtain rfl : w4 = (.int i4) := Option.some.inj e4
  obtain ⟨n, o, h1, h2, h3, _, L, rfl, ⟨N, -, rfl⟩, hq⟩ := rm_law l s _ hw i0 i1 i2 i3 i4 s.heap s.heap.size (Nat.le_refl _)  tables_1 p e ha hc hk s m _ below hf ((Spec.applies_iff_loose hf).mp happ).1 ⟨rfl, State.Warmed39.refl s, rfl⟩ trivial
  refine ⟨n, _, h1, h2, h3, hpost _ _ _ _ _ _ ⟨Cond.after_iff.mpr rfl, Cond.after_iff.mpr (eq_i res_at (Term.int_eval (1)) rfl), trivial⟩ ⟨hq.1, hq.2.1, (hq.2.2.sift fun y hy => Or.inr (N y hy)).mono (by decide) (by decide)⟩⟩
theorem main_1_1 : Claimed_1_1 := comes_1 fun _ _ _ _ _ _ h hF => ⟨h.1, hF⟩
theorem main_1_2 : Claimed_1_2 := comes_1 fun _ _ _ _ _ _ h hF => ⟨h.2.1, hF⟩
end Jvm.Pilot.@@N@@
namespace Jvm.Pilot.@@N@@
open Jvm Jvm.ClassFile Sem Op Lib Jvm.Free Jvm.Stand Jvm.Pilot.@@N@@.Jvm.D
/-! MADE BY PROGRAM (witnessworld.py) out of the Statement's table words and the real class files: 18 classes; the members and pool entries that the words name. The judged class is class 1, her method 2. -/
namespace start1
open Jvm.ClassFile
def u (s : String) : CpInfo := .utf8 (stringToUtf16 s)
/-- a pool by its gaps: so many unusable entries, then the entry; so many at the end -/
def gap : Nat → List CpInfo → List CpInfo
  | 0, r => r
  | n + 1, r => .unusable :: gap n r
def poolList (es : List (Nat × CpInfo)) (last : Nat) : List CpInfo := es.foldr (fun e r => gap e.1 (e.2 :: r)) (gap last [])
def pool (es : List (Nat × CpInfo)) (last : Nat) : Array CpInfo := ⟨poolList es last⟩
def fileOf (pool : Array CpInfo) (this : Nat) (attrs : Array Attribute := #[]) (ms : Array MethodInfo := #[]) (fl : Nat := 33) (sup : Nat := 0) (ifs : Array Nat := #[]) (fds : Array FieldInfo := #[]) : ClassFile where
  minorVersion := 0
  majorVersion := 65
  constantPool := pool
  accessFlags := fl
  thisClass := this
  superClass := sup
  interfaces := ifs
  fields := fds
  methods := ms
  attributes := attrs
def plain (name : String) (sup : Option ClassId) : Class where
  name := name
  kind := .ordinary
  loader := none
  accessFlags := 33
  super := sup
  interfaces := #[]
  cf := none
  fields := #[]
  methods := #[]
  instanceTypes := #[]
  staticTypes := #[]
  resolved := #[]
  callSites := []
  init := .initialized
  statics := none
  mirror := none

def pool0 : Array CpInfo := pool [(5, u "<init>"), (0, u "()V"), (1, .class_ 10), (1, u "java/lang/Object")] 113

def k0m0 : Method := { name := "<init>", desc := "()V", sig := { parameters := [], returnType := none }, accessFlags := 1, code := none }
/-- java/lang/Object -/
def k0 : Class := { plain "java/lang/Object" none with
  accessFlags := 33
  interfaces := #[]
  cf := some (fileOf pool0 8 #[] #[{ accessFlags := 1, nameIndex := 5, descriptorIndex := 6, attributes := #[] }] 33 0 #[] #[])
  fields := #[]
  methods := #[k0m0]
  instanceTypes := #[]
  staticTypes := #[]
  resolved := Array.replicate 124 none
  statics := none }

def pool1 : Array CpInfo := pool [(2, .class_ 4), (1, u "java/lang/Object"), (0, u "<init>"), (0, u "()V"), (0, .integer 2147483647), (0, .methodref 9 10), (0, .class_ 11), (0, .nameAndType 12 13), (0, u "com/example/firecrest/firecrest/ProbeFilter"), (0, u "spread"), (0, u "([C)[J"), (0, .methodref 15 16), (0, .class_ 17), (0, .nameAndType 18 19), (0, u "com/example/firecrest/firecrest/ProbeFilterSpreadPinLaw"), (0, u "word"), (0, u "(JC)Z"), (3, u "law"), (0, u "(IIIII)Z")] 6

def k1m0 : Method := { name := "<init>", desc := "()V", sig := { parameters := [], returnType := none }, accessFlags := 1, code := none }
def k1c1 : Code := { maxStack := 5, maxLocals := 7, code := method_2_code, exceptionTable := #[], attributes := #[] }
def k1m1 : Method := { name := "word", desc := "(JC)Z", sig := { parameters := [.long, .char], returnType := some .boolean }, accessFlags := 10, code := some k1c1 }
def k1c2 : Code := { maxStack := 3, maxLocals := 13, code := code, exceptionTable := #[], attributes := #[] }
def k1m2 : Method := { name := "law", desc := "(IIIII)Z", sig := { parameters := [.int, .int, .int, .int, .int], returnType := some .boolean }, accessFlags := 9, code := some k1c2 }
/-- com/example/firecrest/firecrest/ProbeFilterSpreadPinLaw -/
def k1 : Class := { plain "com/example/firecrest/firecrest/ProbeFilterSpreadPinLaw" (some 0) with
  accessFlags := 49
  interfaces := #[]
  cf := some (fileOf pool1 15 #[] #[{ accessFlags := 1, nameIndex := 5, descriptorIndex := 6, attributes := #[] }, { accessFlags := 10, nameIndex := 18, descriptorIndex := 19, attributes := #[] }, { accessFlags := 9, nameIndex := 23, descriptorIndex := 24, attributes := #[] }] 49 2 #[] #[])
  fields := #[]
  methods := #[k1m0, k1m1, k1m2]
  instanceTypes := #[]
  staticTypes := #[]
  resolved := Array.replicate 31 none
  statics := none }

def pool2 : Array CpInfo := pool [(16, .class_ 18), (1, u "java/util/Iterator"), (12, .class_ 32), (0, u "java/lang/Object")] 20

/-- java/util/Iterator -/
def k2 : Class := { plain "java/util/Iterator" (some 0) with
  accessFlags := 1537
  interfaces := #[]
  cf := some (fileOf pool2 16 #[] #[] 1537 31 #[] #[])
  fields := #[]
  methods := #[]
  instanceTypes := #[]
  staticTypes := #[]
  resolved := Array.replicate 53 none
  statics := none }

def pool3 : Array CpInfo := pool [(1, .class_ 2), (0, u "java/util/PrimitiveIterator"), (0, .class_ 4), (0, u "java/lang/Object"), (0, .class_ 6), (0, u "java/util/Iterator"), (8, .class_ 16), (0, u "java/util/PrimitiveIterator$OfDouble"), (0, .class_ 18), (0, u "java/util/PrimitiveIterator$OfLong"), (0, .class_ 20), (0, u "java/util/PrimitiveIterator$OfInt")] 4

/-- java/util/PrimitiveIterator -/
def k3 : Class := { plain "java/util/PrimitiveIterator" (some 0) with
  accessFlags := 1537
  interfaces := #[2]
  cf := some (fileOf pool3 1 #[.nestMembers #[15, 17, 19]] #[] 1537 3 #[5] #[])
  fields := #[]
  methods := #[]
  instanceTypes := #[]
  staticTypes := #[]
  resolved := Array.replicate 25 none
  statics := none }

def pool4 : Array CpInfo := pool [(8, .class_ 10), (1, u "java/util/PrimitiveIterator$OfLong"), (48, .class_ 60), (0, u "java/lang/Object"), (0, .class_ 62), (0, u "java/util/PrimitiveIterator")] 42

/-- java/util/PrimitiveIterator$OfLong -/
def k4 : Class := { plain "java/util/PrimitiveIterator$OfLong" (some 0) with
  accessFlags := 1537
  interfaces := #[3]
  cf := some (fileOf pool4 8 #[.nestHost 61] #[] 1537 59 #[61] #[])
  fields := #[]
  methods := #[]
  instanceTypes := #[]
  staticTypes := #[]
  resolved := Array.replicate 105 none
  statics := none }

def pool5 : Array CpInfo := pool [(4, .class_ 6), (1, u "java/lang/Object"), (2, .class_ 10), (0, u "com/example/firecrest/firecrest/Cursor"), (4, u "pending"), (0, u "J"), (2, u "text"), (0, u "Lcom/example/firecrest/firecrest/Text;"), (8, u "position"), (0, u "I"), (49, u "batch"), (0, u "[I"), (4, .class_ 88), (1, u "com/example/firecrest/firecrest/Cursor$Batches"), (40, .class_ 130), (0, u "com/example/firecrest/firecrest/Cursor$IntOffsets"), (13, .class_ 145), (0, u "java/util/PrimitiveIterator$OfLong"), (0, u "NONE"), (2, u "BATCH"), (1, u "FIRST_BATCH"), (1, u "OFFSETS"), (1, u "UNKNOWN"), (0, u "WAITING"), (23, .class_ 181), (0, u "com/example/firecrest/firecrest/Cursor$Keeper")] 29

/-- com/example/firecrest/firecrest/Cursor -/
def k5 : Class := { plain "com/example/firecrest/firecrest/Cursor" (some 0) with
  accessFlags := 1056
  interfaces := #[4]
  cf := some (fileOf pool5 9 #[.nestMembers #[129, 86, 180]] #[] 1056 4 #[144] #[{ accessFlags := 24, nameIndex := 146, descriptorIndex := 30, attributes := #[] }, { accessFlags := 26, nameIndex := 149, descriptorIndex := 30, attributes := #[] }, { accessFlags := 26, nameIndex := 151, descriptorIndex := 30, attributes := #[] }, { accessFlags := 24, nameIndex := 153, descriptorIndex := 30, attributes := #[] }, { accessFlags := 26, nameIndex := 155, descriptorIndex := 16, attributes := #[] }, { accessFlags := 26, nameIndex := 156, descriptorIndex := 16, attributes := #[] }, { accessFlags := 16, nameIndex := 19, descriptorIndex := 20, attributes := #[] }, { accessFlags := 4, nameIndex := 29, descriptorIndex := 30, attributes := #[] }, { accessFlags := 2, nameIndex := 15, descriptorIndex := 16, attributes := #[] }, { accessFlags := 2, nameIndex := 80, descriptorIndex := 81, attributes := #[] }])
  fields := #[{ name := "NONE", type := .int, accessFlags := 24, slot := 0, constantValue := 0 }, { name := "BATCH", type := .int, accessFlags := 26, slot := 1, constantValue := 0 }, { name := "FIRST_BATCH", type := .int, accessFlags := 26, slot := 2, constantValue := 0 }, { name := "OFFSETS", type := .int, accessFlags := 24, slot := 3, constantValue := 0 }, { name := "UNKNOWN", type := .long, accessFlags := 26, slot := 4, constantValue := 0 }, { name := "WAITING", type := .long, accessFlags := 26, slot := 5, constantValue := 0 }, { name := "text", type := (.object "com/example/firecrest/firecrest/Text"), accessFlags := 16, slot := 0, constantValue := 0 }, { name := "position", type := .int, accessFlags := 4, slot := 1, constantValue := 0 }, { name := "pending", type := .long, accessFlags := 2, slot := 2, constantValue := 0 }, { name := "batch", type := (.array .int), accessFlags := 2, slot := 3, constantValue := 0 }]
  methods := #[]
  instanceTypes := #[(.object "com/example/firecrest/firecrest/Text"), .int, .long, (.array .int)]
  staticTypes := #[.int, .int, .int, .int, .long, .long]
  resolved := Array.replicate 211 none
  statics := none }

def pool6 : Array CpInfo := pool [(2, .class_ 4), (1, u "com/example/firecrest/firecrest/Cursor"), (3, .class_ 10), (1, u "com/example/firecrest/firecrest/FilteredCursor"), (0, u "comparisons"), (0, u "Lcom/example/firecrest/firecrest/ComparisonCounter;"), (2, u "prepared"), (0, u "Lcom/example/firecrest/firecrest/FilteredCursor$Prepared;"), (1, .class_ 20), (1, u "com/example/firecrest/firecrest/FilteredCursor$Prepared"), (0, u "pattern"), (0, u "[C"), (3, u "fallback"), (0, u "Lcom/example/firecrest/firecrest/Cursor;"), (11, u "I"), (10, u "counting"), (0, u "Z"), (2, u "counted"), (6, u "collected"), (0, u "[I"), (10, u "verified"), (0, u "J"), (65, u "HANDED_OVER"), (2, u "HIGHS")] 26

/-- com/example/firecrest/firecrest/FilteredCursor -/
def k6 : Class := { plain "com/example/firecrest/firecrest/FilteredCursor" (some 5) with
  accessFlags := 1056
  interfaces := #[]
  cf := some (fileOf pool6 8 #[.nestMembers #[18]] #[] 1056 2 #[] #[{ accessFlags := 24, nameIndex := 140, descriptorIndex := 39, attributes := #[] }, { accessFlags := 24, nameIndex := 143, descriptorIndex := 74, attributes := #[] }, { accessFlags := 0, nameIndex := 11, descriptorIndex := 12, attributes := #[] }, { accessFlags := 16, nameIndex := 15, descriptorIndex := 16, attributes := #[] }, { accessFlags := 16, nameIndex := 21, descriptorIndex := 22, attributes := #[] }, { accessFlags := 2, nameIndex := 73, descriptorIndex := 74, attributes := #[] }, { accessFlags := 2, nameIndex := 26, descriptorIndex := 27, attributes := #[] }, { accessFlags := 2, nameIndex := 50, descriptorIndex := 51, attributes := #[] }, { accessFlags := 2, nameIndex := 61, descriptorIndex := 62, attributes := #[] }, { accessFlags := 2, nameIndex := 54, descriptorIndex := 39, attributes := #[] }])
  fields := #[{ name := "HANDED_OVER", type := .int, accessFlags := 24, slot := 0, constantValue := 0 }, { name := "HIGHS", type := .long, accessFlags := 24, slot := 1, constantValue := 0 }, { name := "comparisons", type := (.object "com/example/firecrest/firecrest/ComparisonCounter"), accessFlags := 0, slot := 4, constantValue := 0 }, { name := "prepared", type := (.object "com/example/firecrest/firecrest/FilteredCursor$Prepared"), accessFlags := 16, slot := 5, constantValue := 0 }, { name := "pattern", type := (.array .char), accessFlags := 16, slot := 6, constantValue := 0 }, { name := "verified", type := .long, accessFlags := 2, slot := 7, constantValue := 0 }, { name := "fallback", type := (.object "com/example/firecrest/firecrest/Cursor"), accessFlags := 2, slot := 8, constantValue := 0 }, { name := "counting", type := .boolean, accessFlags := 2, slot := 9, constantValue := 0 }, { name := "collected", type := (.array .int), accessFlags := 2, slot := 10, constantValue := 0 }, { name := "counted", type := .int, accessFlags := 2, slot := 11, constantValue := 0 }]
  methods := #[]
  instanceTypes := #[(.object "com/example/firecrest/firecrest/Text"), .int, .long, (.array .int), (.object "com/example/firecrest/firecrest/ComparisonCounter"), (.object "com/example/firecrest/firecrest/FilteredCursor$Prepared"), (.array .char), .long, (.object "com/example/firecrest/firecrest/Cursor"), .boolean, (.array .int), .int]
  staticTypes := #[.int, .long]
  resolved := Array.replicate 170 none
  statics := none }

def pool7 : Array CpInfo := pool [(3, .class_ 4), (0, u "com/example/firecrest/firecrest/ProbeFilter"), (1, .class_ 8), (1, u "com/example/firecrest/firecrest/FilteredCursor"), (6, u "chosenIn"), (0, u "J"), (2, u "waived"), (2, u "spread"), (0, u "[J"), (4, u "probedBits"), (1, .long 72340172838076673), (9, u "floor"), (12, u "exact"), (0, u "Z"), (2, u "base"), (0, u "I"), (2, u "candidates"), (4, u "probes"), (0, u "Lcom/example/firecrest/firecrest/ProbeFilter$Probes;"), (7, .class_ 77), (1, u "com/example/firecrest/firecrest/ProbeFilter$Probes"), (15, u "paid"), (56, u "block"), (30, u "next"), (2, u "filled"), (2, u "ordered"), (21, u "budgeted"), (5, u "carried"), (2, u "since"), (36, u "charged"), (29, u "LONG"), (2, u "SAMPLE_SPAN"), (0, u "SAMPLES"), (1, u "PAIRED"), (1, u "RARE"), (1, u "COMMON"), (1, u "STREAM"), (0, u "CARRIED"), (0, u "ONES"), (3, u "([C)[J")] 17

def k7c0 : Code := { maxStack := 6, maxLocals := 3, code := prog_54_method_2_code, exceptionTable := #[], attributes := #[] }
def k7m0 : Method := { name := "spread", desc := "([C)[J", sig := { parameters := [(.array .char)], returnType := some (.array .long) }, accessFlags := 8, code := some k7c0 }
/-- com/example/firecrest/firecrest/ProbeFilter -/
def k7 : Class := { plain "com/example/firecrest/firecrest/ProbeFilter" (some 6) with
  accessFlags := 48
  interfaces := #[]
  cf := some (fileOf pool7 3 #[.nestMembers #[75]] #[{ accessFlags := 8, nameIndex := 22, descriptorIndex := 303, attributes := #[] }] 48 6 #[] #[{ accessFlags := 24, nameIndex := 285, descriptorIndex := 58, attributes := #[] }, { accessFlags := 26, nameIndex := 288, descriptorIndex := 58, attributes := #[] }, { accessFlags := 26, nameIndex := 289, descriptorIndex := 58, attributes := #[] }, { accessFlags := 26, nameIndex := 291, descriptorIndex := 58, attributes := #[] }, { accessFlags := 26, nameIndex := 293, descriptorIndex := 58, attributes := #[] }, { accessFlags := 26, nameIndex := 295, descriptorIndex := 58, attributes := #[] }, { accessFlags := 26, nameIndex := 297, descriptorIndex := 58, attributes := #[] }, { accessFlags := 26, nameIndex := 298, descriptorIndex := 16, attributes := #[] }, { accessFlags := 26, nameIndex := 299, descriptorIndex := 16, attributes := #[] }, { accessFlags := 18, nameIndex := 22, descriptorIndex := 23, attributes := #[] }, { accessFlags := 18, nameIndex := 28, descriptorIndex := 16, attributes := #[] }, { accessFlags := 2, nameIndex := 66, descriptorIndex := 67, attributes := #[] }, { accessFlags := 2, nameIndex := 187, descriptorIndex := 23, attributes := #[] }, { accessFlags := 2, nameIndex := 150, descriptorIndex := 58, attributes := #[] }, { accessFlags := 2, nameIndex := 184, descriptorIndex := 58, attributes := #[] }, { accessFlags := 2, nameIndex := 181, descriptorIndex := 58, attributes := #[] }, { accessFlags := 2, nameIndex := 61, descriptorIndex := 16, attributes := #[] }, { accessFlags := 2, nameIndex := 57, descriptorIndex := 58, attributes := #[] }, { accessFlags := 2, nameIndex := 53, descriptorIndex := 54, attributes := #[] }, { accessFlags := 2, nameIndex := 93, descriptorIndex := 54, attributes := #[] }, { accessFlags := 2, nameIndex := 255, descriptorIndex := 16, attributes := #[] }, { accessFlags := 2, nameIndex := 40, descriptorIndex := 16, attributes := #[] }, { accessFlags := 2, nameIndex := 15, descriptorIndex := 16, attributes := #[] }, { accessFlags := 2, nameIndex := 209, descriptorIndex := 16, attributes := #[] }, { accessFlags := 2, nameIndex := 218, descriptorIndex := 16, attributes := #[] }, { accessFlags := 2, nameIndex := 215, descriptorIndex := 16, attributes := #[] }, { accessFlags := 2, nameIndex := 19, descriptorIndex := 16, attributes := #[] }])
  fields := #[{ name := "LONG", type := .int, accessFlags := 24, slot := 0, constantValue := 0 }, { name := "SAMPLE_SPAN", type := .int, accessFlags := 26, slot := 1, constantValue := 0 }, { name := "SAMPLES", type := .int, accessFlags := 26, slot := 2, constantValue := 0 }, { name := "PAIRED", type := .int, accessFlags := 26, slot := 3, constantValue := 0 }, { name := "RARE", type := .int, accessFlags := 26, slot := 4, constantValue := 0 }, { name := "COMMON", type := .int, accessFlags := 26, slot := 5, constantValue := 0 }, { name := "STREAM", type := .int, accessFlags := 26, slot := 6, constantValue := 0 }, { name := "CARRIED", type := .long, accessFlags := 26, slot := 7, constantValue := 0 }, { name := "ONES", type := .long, accessFlags := 26, slot := 8, constantValue := 0 }, { name := "spread", type := (.array .long), accessFlags := 18, slot := 12, constantValue := 0 }, { name := "probedBits", type := .long, accessFlags := 18, slot := 13, constantValue := 0 }, { name := "probes", type := (.object "com/example/firecrest/firecrest/ProbeFilter$Probes"), accessFlags := 2, slot := 14, constantValue := 0 }, { name := "ordered", type := (.array .long), accessFlags := 2, slot := 15, constantValue := 0 }, { name := "block", type := .int, accessFlags := 2, slot := 16, constantValue := 0 }, { name := "filled", type := .int, accessFlags := 2, slot := 17, constantValue := 0 }, { name := "next", type := .int, accessFlags := 2, slot := 18, constantValue := 0 }, { name := "candidates", type := .long, accessFlags := 2, slot := 19, constantValue := 0 }, { name := "base", type := .int, accessFlags := 2, slot := 20, constantValue := 0 }, { name := "exact", type := .boolean, accessFlags := 2, slot := 21, constantValue := 0 }, { name := "paid", type := .boolean, accessFlags := 2, slot := 22, constantValue := 0 }, { name := "charged", type := .long, accessFlags := 2, slot := 23, constantValue := 0 }, { name := "floor", type := .long, accessFlags := 2, slot := 24, constantValue := 0 }, { name := "chosenIn", type := .long, accessFlags := 2, slot := 25, constantValue := 0 }, { name := "budgeted", type := .long, accessFlags := 2, slot := 26, constantValue := 0 }, { name := "since", type := .long, accessFlags := 2, slot := 27, constantValue := 0 }, { name := "carried", type := .long, accessFlags := 2, slot := 28, constantValue := 0 }, { name := "waived", type := .long, accessFlags := 2, slot := 29, constantValue := 0 }]
  methods := #[k7m0]
  instanceTypes := #[(.object "com/example/firecrest/firecrest/Text"), .int, .long, (.array .int), (.object "com/example/firecrest/firecrest/ComparisonCounter"), (.object "com/example/firecrest/firecrest/FilteredCursor$Prepared"), (.array .char), .long, (.object "com/example/firecrest/firecrest/Cursor"), .boolean, (.array .int), .int, (.array .long), .long, (.object "com/example/firecrest/firecrest/ProbeFilter$Probes"), (.array .long), .int, .int, .int, .long, .int, .boolean, .boolean, .long, .long, .long, .long, .long, .long, .long]
  staticTypes := #[.int, .int, .int, .int, .int, .int, .int, .long, .long]
  resolved := Array.replicate 321 none
  statics := none }

def pool8 : Array CpInfo := pool [(1, u "java/lang/Cloneable"), (0, .class_ 1), (0, u "java/lang/Object"), (0, .class_ 3)] 3

/-- java/lang/Cloneable -/
def k8 : Class := { plain "java/lang/Cloneable" (some 0) with
  accessFlags := 1537
  interfaces := #[]
  cf := some (fileOf pool8 2 #[] #[] 1537 4 #[] #[])
  fields := #[]
  methods := #[]
  instanceTypes := #[]
  staticTypes := #[]
  resolved := Array.replicate 8 none
  statics := none }

def pool9 : Array CpInfo := pool [(1, u "java/io/Serializable"), (0, .class_ 1), (0, u "java/lang/Object"), (0, .class_ 3)] 3

/-- java/io/Serializable -/
def k9 : Class := { plain "java/io/Serializable" (some 0) with
  accessFlags := 1537
  interfaces := #[]
  cf := some (fileOf pool9 2 #[] #[] 1537 4 #[] #[])
  fields := #[]
  methods := #[]
  instanceTypes := #[]
  staticTypes := #[]
  resolved := Array.replicate 8 none
  statics := none }

/-- the primitive byte -/
def k10 : Class := { plain "byte" none with kind := .primitive 'B', accessFlags := 0x411 }
/-- [B -/
def k11 : Class := { plain "[B" (some 0) with kind := .array 10 .byte, interfaces := #[8, 9], accessFlags := 1041 }

/-- the primitive char -/
def k12 : Class := { plain "char" none with kind := .primitive 'C', accessFlags := 0x411 }
/-- [C -/
def k13 : Class := { plain "[C" (some 0) with kind := .array 12 .char, interfaces := #[8, 9], accessFlags := 1041 }

/-- the primitive int -/
def k14 : Class := { plain "int" none with kind := .primitive 'I', accessFlags := 0x411 }
/-- [I -/
def k15 : Class := { plain "[I" (some 0) with kind := .array 14 .int, interfaces := #[8, 9], accessFlags := 1041 }

/-- the primitive long -/
def k16 : Class := { plain "long" none with kind := .primitive 'J', accessFlags := 0x411 }
/-- [J -/
def k17 : Class := { plain "[J" (some 0) with kind := .array 16 .long, interfaces := #[8, 9], accessFlags := 1041 }

def heap : Heap := #[]
def classes : Array Class := #[k0, k1, k2, k3, k4, k5, k6, k7, k8, k9, k10, k11, k12, k13, k14, k15, k16, k17]
def interned : List (Array UInt16 × Addr) := []
def slotsUsed : Nat := 0
def theMethod : MethodId := ⟨1, 2⟩
def args0 : Array Value := #[.int 5, .int 3, .int 20, .int 7, .int 3]
def aboutOver (below : List Frame) : State where
  vm := { classes := classes, interned := interned.toArray }
  heap := heap
  slotsUsed := slotsUsed
  threads := #[{ frames := .invoking theMethod args0 :: below }]
def below0 : List Frame := [.native { method := ⟨0, 0⟩, args := #[] }]
def about1 : State := aboutOver below0
def p0 : Program := .bare "" "" ""
def e0 : Env := launch0.env 0 0 0
theorem w_frames : about1.frames = Frame.invoking theMethod args0 :: below0 := rfl
set_option maxRecDepth 65536 in
theorem w_args : argsFit about1.vm theMethod args0 = true := by decide +kernel
set_option maxRecDepth 65536 in
theorem w_heap : heapFits about1 = true := by decide +kernel
set_option maxRecDepth 65536 in
theorem w_runnable : about1.curStatus? = some .runnable := by decide +kernel
set_option maxRecDepth 65536 in
theorem w_alone : about1.alone = true := by decide +kernel
set_option maxRecDepth 65536 in
theorem w_named : about1.methodNamed? x = some theMethod := by decide +kernel
set_option maxRecDepth 65536 in
theorem w_hears : about1.hears theMethod below0 = true := by decide +kernel
set_option maxRecDepth 65536 in
theorem w_ripe : about1.ripe theMethod args0 below0 = true := by decide +kernel
theorem w_running : about1.status = .running := rfl
set_option maxRecDepth 65536 in
theorem w_room : about1.hasRoom e0.platform room_1 = true :=
  launch0.hasRoom_least _ room_1 (by decide +kernel) (by decide +kernel) (by decide +kernel) (by decide +kernel) (by decide +kernel) (by decide +kernel)
theorem allAtoms_all (ts : List Jvm.Cond) (a : Array Jvm.Value) (st : Jvm.State) : (allAtoms ts).before a st = ts.all (fun c => c.before a st) := by
  induction ts with
  | nil => rfl
  | cons c t ih =>
    show (Jvm.Cond.and c (allAtoms t)).before a st = _
    rw [Jvm.Cond.before_and, ih, List.all_cons]
def words1 : List Jvm.Cond := Jvm.Cond.code x code maxLocals ret :: tables_1
/-- a 'code' word, met by the world's own term for the bytes: nothing is compared byte by byte -/
theorem code_word {y : MethodName} {bytes : ByteArray} {mx : Nat} {rt : Option FieldType} {a : Array Value} {s : State} {m : MethodId} {meth : Method} {c : Code} (h1 : s.methodNamed? y = some m) (h2 : s.vm.method? m = some meth) (h3 : meth.code = some c) (h4 : c.code = bytes)
    (h5 : (c.maxLocals == mx && c.exceptionTable.isEmpty && decide (c.maxStack ≤ mostOperands) && decide (meth.sig.returnType = rt) && !meth.locks && decide (parseMethodDescriptor y.desc = some meth.sig)) = true) : (Jvm.Cond.code y bytes mx rt).before a s = true := by
  simp only [Bool.and_eq_true, beq_iff_eq, Bool.not_eq_true', decide_eq_true_eq] at h5
  obtain ⟨⟨⟨⟨⟨g1, g2⟩, g3⟩, g4⟩, g5⟩, g6⟩ := h5
  simp [Cond.before, Cond.holds, Cond.value, h1, h2, h3, h4, g1, g2, g3, g4, g5, g6]
def isCode : Jvm.Cond → Bool
  | .code _ _ _ _ => true
  | _ => false
theorem all_split {L : List Jvm.Cond} {P : Jvm.Cond → Bool} (h1 : L.all (fun c => isCode c || P c) = true) (h2 : ∀ c ∈ L.filter isCode, P c = true) : L.all P = true := by
  refine List.all_eq_true.mpr fun c hc => ?_
  have h := List.all_eq_true.mp h1 c hc
  rcases Bool.eq_false_or_eq_true (isCode c) with hi | hi
  · exact h2 c (List.mem_filter.mpr ⟨hc, hi⟩)
  · simpa [hi] using h
set_option maxRecDepth 65536 in
theorem w_c0 : (Jvm.Cond.code x code maxLocals ret).before args0 about1 = true := code_word (m := ⟨1, 2⟩) (meth := k1m2) (c := k1c2) (by decide +kernel) rfl rfl rfl (by decide +kernel)
set_option maxRecDepth 65536 in
theorem w_c1 : (Jvm.Cond.code ({ cls := "com/example/firecrest/firecrest/ProbeFilter", name := "spread", desc := "([C)[J" } : Jvm.MethodName) prog_54_method_2_code (3 : Nat) (Option.some (Jvm.ClassFile.FieldType.array Jvm.ClassFile.FieldType.long))).before args0 about1 = true := code_word (m := ⟨7, 0⟩) (meth := k7m0) (c := k7c0) (by decide +kernel) rfl rfl rfl (by decide +kernel)
set_option maxRecDepth 65536 in
theorem w_c2 : (Jvm.Cond.code ({ cls := "com/example/firecrest/firecrest/ProbeFilterSpreadPinLaw", name := "word", desc := "(JC)Z" } : Jvm.MethodName) method_2_code (7 : Nat) (Option.some Jvm.ClassFile.FieldType.boolean)).before args0 about1 = true := code_word (m := ⟨1, 1⟩) (meth := k1m1) (c := k1c1) (by decide +kernel) rfl rfl rfl (by decide +kernel)
def codes1 : List Jvm.Cond := [Jvm.Cond.code x code maxLocals ret, Jvm.Cond.code ({ cls := "com/example/firecrest/firecrest/ProbeFilter", name := "spread", desc := "([C)[J" } : Jvm.MethodName) prog_54_method_2_code (3 : Nat) (Option.some (Jvm.ClassFile.FieldType.array Jvm.ClassFile.FieldType.long)), Jvm.Cond.code ({ cls := "com/example/firecrest/firecrest/ProbeFilterSpreadPinLaw", name := "word", desc := "(JC)Z" } : Jvm.MethodName) method_2_code (7 : Nat) (Option.some Jvm.ClassFile.FieldType.boolean)]
set_option maxRecDepth 65536 in
theorem codes_eq : words1.filter isCode = codes1 := rfl
theorem w_codes : ∀ c ∈ words1.filter isCode, c.before args0 about1 = true := by
  rw [codes_eq]
  intro c hc
  simp only [codes1, List.mem_cons, List.not_mem_nil, or_false] at hc
  rcases hc with rfl | rfl | rfl
  · exact w_c0
  · exact w_c1
  · exact w_c2
set_option maxRecDepth 65536 in
theorem w_t1 : words1.all (fun c => isCode c || c.before args0 about1) = true := by decide +kernel
theorem w_tables : (allAtoms (Jvm.Cond.code x code maxLocals ret :: tables_1)).before args0 about1 = true := by
  rw [allAtoms_all]
  show words1.all (fun c => c.before args0 about1) = true
  refine all_split ?_ w_codes
  rw [w_t1]
set_option maxRecDepth 65536 in
theorem w_case : (Jvm.Cond.and given_1 narrow_1).before args0 about1 = true := by decide +kernel
theorem w_applies : (headSpec (Jvm.Cond.code x code maxLocals ret :: tables_1) room_1).applies x e0.platform about1 = true :=
  (Spec.applies_iff w_frames).mpr ⟨w_running, w_runnable, w_alone, w_named, w_hears, w_ripe, w_room, w_tables⟩
theorem atStart : AtStart classFile x code maxLocals ret World_1 tables_1 room_1 Calls_1 rest_1 Pre_1 launch0 p0 e0 about1 theMethod args0 below0 :=
  ⟨lists_1, trivial, launch0.admits_env _ _ _, launch0.least_env, fairChoices_fair.cas, fairChoices_fair.clock, w_frames, w_args, w_heap, w_applies, trivial, trivial, w_case⟩
end start1
theorem witness_1 : WitnessClaimed_1 := ⟨start1.p0, start1.e0, start1.about1, start1.theMethod, start1.args0, start1.below0, start1.atStart⟩
end Jvm.Pilot.@@N@@
