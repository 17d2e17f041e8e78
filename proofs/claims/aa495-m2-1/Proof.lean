import JvmDerived
import JvmDerived.Pilot.@@N@@Statement
import JvmDerived.Pilot.@@N@@Code
set_option linter.unusedVariables false
set_option linter.unusedSimpArgs false
namespace Jvm.Own
open Jvm Jvm.ClassFile Sem Op Lib Jvm.Free Jvm.Stand Jvm.LawKit Jvm.RoadKit
def OHr (p : Program) (l : Launch) (e : Env) (R : Room) (s : State) (m : MethodId) (args : Array Value) (below : List Frame) (meth : Method) (c : Code) (Z : State) (n0 : Nat) (own nm : String) (code : ByteArray) (maxL : Nat) (ret : Option FieldType) (T : State) (h : Heap) (ce sl : Nat) : Prop :=
  (p.tables.exec = Jvm.exec ∧ Z.Warmed39 s.vm ∧ c.code = code ∧ c.maxLocals = maxL ∧ s.vm.findClass own = some m.cls ∧ meth.name = nm ∧ meth.sig.returnType = ret ∧ meth.locks = false) ∧
  ∃ locs, Stand p l e R s m args below meth c T locs ce sl ∧ T.heap = h ∧ Fr n0 locs ∧ n0 ≤ h.size
def OEnds (p : Program) (e : Env) (below : List Frame) (s : State) (n0 : Nat) (Q : Option Value → Heap → Prop) (C S : Nat) (T : State) (g : JFrame) : Prop :=
  ∃ s₂ o, Steps p.tables e below (T.setTop g) s₂ ∧ s₂.status = .running ∧ Ended s₂ below o ∧ ∃ v L, o = .returned v ∧ (Fr n0 L ∧ Q v s₂.heap) ∧ FrameEnd s o s₂ L C S
def OMet (l : Launch) (Z : State) (n0 : Nat) (y : MethodName) (bytes : ByteArray) (maxL : Nat) (ret : Option FieldType) (rm : Room) (as : Array Value) (h0 : Heap) (Q : Option Value → Heap → Prop) : Prop :=
  ∀ ws, MetFree l y (head1 (Cond.code y bytes maxL ret :: ws) rm) (fun a U => a = as ∧ Z.Warmed39 U.vm ∧ U.heap = h0) (fun _ _ _ _ _ => True) (fun _ U o U' => ∃ v L, o = .returned v ∧ (Fr n0 L ∧ h0.size ≤ U'.heap.size ∧ Q v U'.heap) ∧ FrameEnd U o U' L rm.cells rm.slots)
theorem OMet.of {l : Launch} {Z : State} {n0 : Nat} {y : MethodName} {bytes : ByteArray} {maxL : Nat} {ret : Option FieldType} {rm : Room} {as : Array Value} {h0 : Heap} {Q : Option Value → Heap → Prop} {Ls : Array Slot}
    (pn : plainFor y = true) (Z0 : n0 ≤ h0.size) (ef : ∀ m, entryFrame m as maxL = mkF m 0 Ls [])
    (body : ∀ p e s m below meth c T, OHr p l e rm s m as below meth c Z n0 y.cls y.name bytes maxL ret T h0 0 0 → OEnds p e below s n0 Q rm.cells rm.slots T (mkF m 0 Ls [])) : OMet l Z n0 y bytes maxL ret rm as h0 Q := by
  intro ws
  refine MetFree.of_bodySF pn hisR ?_
  intro p e s m args below meth c s₁ Bd hml0 hP hK
  obtain ⟨rfl, hZ, hh⟩ := hP
  have X0 : Stand p l e rm s m _ below meth c s₁ [] 0 0 := Stand.of_body Bd
  have e0 : s₁.heap = h0 := by rw [← hh, Bd.state]; rfl
  rw [ef]
  obtain ⟨s₂, o, g1, g2, g3, v, L, g4, ⟨g5, g6⟩, g7⟩ := body p e s m below meth c s₁ ⟨⟨Bd.exec, hZ, Bd.bytes, hml0, findClass_of_methodNamed Bd.named, (name_of_methodNamed Bd.named Bd.method).1, Bd.returns, Bd.notSynchronized⟩, [], X0, e0, Fr.nil n0, Z0⟩
  exact ⟨s₂, o, g1, g2, g3, v, L, g4, ⟨g5, by rw [← hh]; exact g7.2.2.2.1, g6⟩, g7⟩
theorem OMet.mono {l : Launch} {Z : State} {n0 : Nat} {y : MethodName} {bytes : ByteArray} {maxL : Nat} {ret : Option FieldType} {rm : Room} {as : Array Value} {h0 : Heap} {Q Q' : Option Value → Heap → Prop}
    (M : OMet l Z n0 y bytes maxL ret rm as h0 Q) (q : ∀ v h, Q v h → Q' v h) : OMet l Z n0 y bytes maxL ret rm as h0 Q' := by
  intro ws p e h1 h2 h3 s m args below h4 h5 h6 h7
  obtain ⟨n, o, k1, k2, k3, v, L, k4, ⟨k5, k5', k6⟩, k7⟩ := M ws p e h1 h2 h3 s m args below h4 h5 h6 h7
  exact ⟨n, o, k1, k2, k3, v, L, k4, ⟨k5, k5', q _ _ k6⟩, k7⟩
/-! arrays by the list of their values -/
def OAry (Z : State) (h : Heap) (a : Addr) (ty : FieldType) (vs : List Value) : Prop := ∃ c : Cell, Arr Z h a c ty ∧ c.slots.toList = vs ∧ vs.length < 2 ^ 31 ∧ ∀ v ∈ vs, fits ty v = true
section Facts
variable {Z : State} {h h' : Heap} {a b : Nat} {ty : FieldType} {vs : List Value} {v : Value} {sl : Nat} {ws : List Addr} {i : Nat}
theorem OAry.lt (A : OAry Z h a ty vs) : a < h.size := by obtain ⟨c, A, -⟩ := A; exact A.lt
theorem OAry.ext (A : OAry Z h a ty vs) (E : Ext h h') : OAry Z h' a ty vs := by obtain ⟨c, A, r⟩ := A; exact ⟨c, A.ext E, r⟩
theorem OAry.other (A : OAry Z h b ty vs) (W : Wr h h' a sl v) (q : b ≠ a) : OAry Z h' b ty vs := by obtain ⟨c, A, r⟩ := A; exact ⟨c, A.other W q, r⟩
theorem OAry.keep (A : OAry Z h a ty vs) (K : Keep h h' ws) (q : a ∉ ws) : OAry Z h' a ty vs := by obtain ⟨c, A, r⟩ := A; exact ⟨c, ⟨K.2.1 _ _ A.1 q, A.2⟩, r⟩
theorem OAry.len (A : OAry Z h a ty vs) : vs.length < 2 ^ 31 := by obtain ⟨c, A, -, r, -⟩ := A; exact r
theorem OAry.fit (A : OAry Z h a ty vs) (q : v ∈ vs) : fits ty v = true := by obtain ⟨c, A, -, -, r⟩ := A; exact r v q
theorem OAry.new {cA : ClassId} {n : Int32} (A : Arr Z h a (newA cA ty n) ty) (hf : fits ty (defaultValue ty) = true) : OAry Z h a ty (List.replicate n.toNatClampNeg (defaultValue ty)) := by
  refine ⟨_, A, by simp [newA], ?_, ?_⟩
  · rw [List.length_replicate]
    have := n.toInt_lt
    have e : n.toNatClampNeg = n.toInt.toNat := rfl
    omega
  · intro v hv
    rw [List.eq_of_mem_replicate hv]
    exact hf
theorem OAry.wr (A : OAry Z h a ty vs) (W : Wr h h' a i v) (hf : fits ty v = true) : OAry Z h' a ty (vs.set i v) := by
  obtain ⟨c, A, r1, r2, r3⟩ := A
  refine ⟨_, A.same W, by simp [Cell.setSlot, r1], by simpa using r2, fun w hw => ?_⟩
  rcases List.mem_or_eq_of_mem_set hw with q | q
  · exact r3 w q
  · rw [q]; exact hf
theorem OAry.uniq {ty' : FieldType} {vs' : List Value} (A : OAry Z h a ty vs) (B : OAry Z h a ty' vs') : vs = vs' := by
  obtain ⟨c, A, r1, -⟩ := A
  obtain ⟨c', B, r1', -⟩ := B
  have e : c = c' := Option.some.inj (A.1.symm.trans B.1)
  subst e
  rw [← r1, ← r1']
theorem nat_idx {j : Int32} {i : Nat} (hj : j.toInt = (i : Int)) : j.toNatClampNeg = i ∧ ¬ j < 0 := by
  have e : j.toNatClampNeg = j.toInt.toNat := rfl
  refine ⟨by omega, ?_⟩
  rw [Int32.lt_iff_toInt_lt]
  have : (0 : Int32).toInt = 0 := rfl
  omega
theorem Fr.one {k : Nat} {L : List Loc} {a : Addr} {i : Nat} (N : Fr k L) (q : k ≤ a) : Fr k (L ++ [⟨a, i⟩]) := Fr.app N (fun y hy => by
  have e : y = ⟨a, i⟩ := List.mem_singleton.mp hy
  subst e; exact q)
theorem ext_size (E : Ext h h') : h.size ≤ h'.size := E.1
end Facts
section Go
variable {p : Program} {l : Launch} {e : Env} {R : Room} {s : State} {m : MethodId} {args : Array Value} {below : List Frame} {meth : Method} {c : Code} {Z : State} {n0 : Nat} {own nm : String} {code : ByteArray} {maxL : Nat} {ret : Option FieldType} {T : State} {h : Heap} {ce sl : Nat} {Q : Option Value → Heap → Prop} {C S : Nat} {pc : Nat} {Ls : Array Slot} {st : List Value} {a0 : Array Value}
theorem OHr.mono (H : OHr p l e R s m args below meth c Z n0 own nm code maxL ret T h ce sl) {ce' sl' : Nat} (q1 : ce ≤ ce') (q2 : sl ≤ sl') : OHr p l e R s m args below meth c Z n0 own nm code maxL ret T h ce' sl' := by
  obtain ⟨K, locs, X, r⟩ := H
  exact ⟨K, locs, { X with same := X.same.mono q1 q2 }, r⟩
theorem OHr.z0 (H : OHr p l e R s m args below meth c Z n0 own nm code maxL ret T h ce sl) : n0 ≤ h.size := by obtain ⟨K, locs, X, r1, r2, r3⟩ := H; exact r3
theorem go {T' : State} {g g' : JFrame} (q : ∀ t, Steps p.tables e below (T'.setTop g') t → Steps p.tables e below (T.setTop g) t) (k : OEnds p e below s n0 Q C S T' (g')) : OEnds p e below s n0 Q C S T (g) := by
  obtain ⟨a, o, h1, h2⟩ := k
  exact ⟨a, o, q _ h1, h2⟩
theorem go1 {T' : State} {g g' : JFrame} (q : Steps p.tables e below (T.setTop g) (T'.setTop g')) (k : OEnds p e below s n0 Q C S T' (g')) : OEnds p e below s n0 Q C S T (g) := by
  obtain ⟨a, o, h1, h2⟩ := k
  exact ⟨a, o, q.trans h1, h2⟩
theorem cast {g g' : JFrame} (q : g = g') (k : OEnds p e below s n0 Q C S T (g')) : OEnds p e below s n0 Q C S T (g) := q ▸ k
theorem iload_n (H : OHr p l e R s m args below meth c Z n0 own nm code maxL ret T h ce sl) {k : Fin 4} {v : Int32} (hd : decode code pc = .ok (.iload_n k, 1)) (hl : Ls[k.val]? = some (.val (.int v))) (k : OEnds p e below s n0 Q C S T (mkF m (pc + 1) Ls (.int v :: st))) : OEnds p e below s n0 Q C S T (mkF m pc Ls (st)) := by
  obtain ⟨⟨hx, hZ, hby, hml, hown, hnm, hrt, hlk⟩, locs, X, eT, N, z0⟩ := H
  exact go (fun t q => XS.iloadN X.here hx rfl (hb hby hd) hl q) k
theorem lload_n (H : OHr p l e R s m args below meth c Z n0 own nm code maxL ret T h ce sl) {k : Fin 4} {v : Int64} (hd : decode code pc = .ok (.lload_n k, 1)) (hl : Ls[k.val]? = some (.val (.long v))) (k : OEnds p e below s n0 Q C S T (mkF m (pc + 1) Ls (.long v :: st))) : OEnds p e below s n0 Q C S T (mkF m pc Ls (st)) := by
  obtain ⟨⟨hx, hZ, hby, hml, hown, hnm, hrt, hlk⟩, locs, X, eT, N, z0⟩ := H
  exact go (fun t q => XT.lloadN X.here hx rfl (hb hby hd) hl q) k
theorem iload (H : OHr p l e R s m args below meth c Z n0 own nm code maxL ret T h ce sl) {k : Nat} {v : Int32} (hd : decode code pc = .ok (.iload k, 2)) (hl : Ls[k]? = some (.val (.int v))) (k : OEnds p e below s n0 Q C S T (mkF m (pc + 2) Ls (.int v :: st))) : OEnds p e below s n0 Q C S T (mkF m pc Ls (st)) := by
  obtain ⟨⟨hx, hZ, hby, hml, hown, hnm, hrt, hlk⟩, locs, X, eT, N, z0⟩ := H
  exact go (fun t q => XS.iload X.here hx rfl (hb hby hd) hl q) k
theorem lload (H : OHr p l e R s m args below meth c Z n0 own nm code maxL ret T h ce sl) {k : Nat} {v : Int64} (hd : decode code pc = .ok (.lload k, 2)) (hl : Ls[k]? = some (.val (.long v))) (k : OEnds p e below s n0 Q C S T (mkF m (pc + 2) Ls (.long v :: st))) : OEnds p e below s n0 Q C S T (mkF m pc Ls (st)) := by
  obtain ⟨⟨hx, hZ, hby, hml, hown, hnm, hrt, hlk⟩, locs, X, eT, N, z0⟩ := H
  exact go (fun t q => XT.lload X.here hx rfl (hb hby hd) hl q) k
theorem aload_n (H : OHr p l e R s m args below meth c Z n0 own nm code maxL ret T h ce sl) {k : Fin 4} {v : Value} (hd : decode code pc = .ok (.aload_n k, 1)) (hl : Ls[k.val]? = some (.val v)) (hv : v.isRef = true) (k : OEnds p e below s n0 Q C S T (mkF m (pc + 1) Ls (v :: st))) : OEnds p e below s n0 Q C S T (mkF m pc Ls (st)) := by
  obtain ⟨⟨hx, hZ, hby, hml, hown, hnm, hrt, hlk⟩, locs, X, eT, N, z0⟩ := H
  exact go (fun t q => XS.aloadN X.here hx rfl (hb hby hd) hl hv q) k
theorem aload (H : OHr p l e R s m args below meth c Z n0 own nm code maxL ret T h ce sl) {k : Nat} {v : Value} (hd : decode code pc = .ok (.aload k, 2)) (hl : Ls[k]? = some (.val v)) (hv : v.isRef = true) (k : OEnds p e below s n0 Q C S T (mkF m (pc + 2) Ls (v :: st))) : OEnds p e below s n0 Q C S T (mkF m pc Ls (st)) := by
  obtain ⟨⟨hx, hZ, hby, hml, hown, hnm, hrt, hlk⟩, locs, X, eT, N, z0⟩ := H
  exact go (fun t q => XS.aload X.here hx rfl (hb hby hd) hl hv q) k
theorem istore_n (H : OHr p l e R s m args below meth c Z n0 own nm code maxL ret T h ce sl) {k : Fin 4} {v : Int32} (l' : Array Slot) (hd : decode code pc = .ok (.istore_n k, 1)) (hl : storeLocals Ls k.val (.int v) = some l') (k : OEnds p e below s n0 Q C S T (mkF m (pc + 1) l' (st))) : OEnds p e below s n0 Q C S T (mkF m pc Ls (.int v :: st)) := by
  obtain ⟨⟨hx, hZ, hby, hml, hown, hnm, hrt, hlk⟩, locs, X, eT, N, z0⟩ := H
  exact go (fun t q => XS.istoreN X.here hx rfl (hb hby hd) rfl hl q) k
theorem istore (H : OHr p l e R s m args below meth c Z n0 own nm code maxL ret T h ce sl) {k : Nat} {v : Int32} (l' : Array Slot) (hd : decode code pc = .ok (.istore k, 2)) (hl : storeLocals Ls k (.int v) = some l') (k : OEnds p e below s n0 Q C S T (mkF m (pc + 2) l' (st))) : OEnds p e below s n0 Q C S T (mkF m pc Ls (.int v :: st)) := by
  obtain ⟨⟨hx, hZ, hby, hml, hown, hnm, hrt, hlk⟩, locs, X, eT, N, z0⟩ := H
  exact go (fun t q => XS.istore X.here hx rfl (hb hby hd) rfl hl q) k
theorem lstore_n (H : OHr p l e R s m args below meth c Z n0 own nm code maxL ret T h ce sl) {k : Fin 4} {v : Int64} (l' : Array Slot) (hd : decode code pc = .ok (.lstore_n k, 1)) (hl : storeLocals Ls k.val (.long v) = some l') (k : OEnds p e below s n0 Q C S T (mkF m (pc + 1) l' (st))) : OEnds p e below s n0 Q C S T (mkF m pc Ls (.long v :: st)) := by
  obtain ⟨⟨hx, hZ, hby, hml, hown, hnm, hrt, hlk⟩, locs, X, eT, N, z0⟩ := H
  exact go (fun t q => XT.lstoreN X.here hx rfl (hb hby hd) rfl hl q) k
theorem lstore (H : OHr p l e R s m args below meth c Z n0 own nm code maxL ret T h ce sl) {k : Nat} {v : Int64} (l' : Array Slot) (hd : decode code pc = .ok (.lstore k, 2)) (hl : storeLocals Ls k (.long v) = some l') (k : OEnds p e below s n0 Q C S T (mkF m (pc + 2) l' (st))) : OEnds p e below s n0 Q C S T (mkF m pc Ls (.long v :: st)) := by
  obtain ⟨⟨hx, hZ, hby, hml, hown, hnm, hrt, hlk⟩, locs, X, eT, N, z0⟩ := H
  exact go (fun t q => XT.lstore X.here hx rfl (hb hby hd) rfl hl q) k
theorem astore_n (H : OHr p l e R s m args below meth c Z n0 own nm code maxL ret T h ce sl) {k : Fin 4} {v : Value} (l' : Array Slot) (hd : decode code pc = .ok (.astore_n k, 1)) (hv : v.isRef = true) (hl : storeLocals Ls k.val v = some l') (k : OEnds p e below s n0 Q C S T (mkF m (pc + 1) l' (st))) : OEnds p e below s n0 Q C S T (mkF m pc Ls (v :: st)) := by
  obtain ⟨⟨hx, hZ, hby, hml, hown, hnm, hrt, hlk⟩, locs, X, eT, N, z0⟩ := H
  exact go (fun t q => XS.astoreN X.here hx rfl (hb hby hd) rfl hv hl q) k
theorem astore (H : OHr p l e R s m args below meth c Z n0 own nm code maxL ret T h ce sl) {k : Nat} {v : Value} (l' : Array Slot) (hd : decode code pc = .ok (.astore k, 2)) (hv : v.isRef = true) (hl : storeLocals Ls k v = some l') (k : OEnds p e below s n0 Q C S T (mkF m (pc + 2) l' (st))) : OEnds p e below s n0 Q C S T (mkF m pc Ls (v :: st)) := by
  obtain ⟨⟨hx, hZ, hby, hml, hown, hnm, hrt, hlk⟩, locs, X, eT, N, z0⟩ := H
  exact go (fun t q => XS.astore X.here hx rfl (hb hby hd) rfl hv hl q) k
theorem iinc (H : OHr p l e R s m args below meth c Z n0 own nm code maxL ret T h ce sl) {k : Nat} {cst : Int} {x : Int32} (d : Int32) (l' : Array Slot) (hd : decode code pc = .ok (.iinc k cst, 3)) (hl : Ls[k]? = some (.val (.int x))) (hv : Int32.ofInt cst = d) (hl' : storeLocals Ls k (.int (x + d)) = some l') (k : OEnds p e below s n0 Q C S T (mkF m (pc + 3) l' (st))) : OEnds p e below s n0 Q C S T (mkF m pc Ls (st)) := by
  obtain ⟨⟨hx, hZ, hby, hml, hown, hnm, hrt, hlk⟩, locs, X, eT, N, z0⟩ := H
  exact go (fun t q => XS.iinc X.here hx rfl (hb hby hd) hl (by rw [hv]; exact hl') q) k
theorem iinc_c (H : OHr p l e R s m args below meth c Z n0 own nm code maxL ret T h ce sl) {k : Nat} {cst : Int} {x : Int32} (r : Int32) (l' : Array Slot) (hd : decode code pc = .ok (.iinc k cst, 3)) (hl : Ls[k]? = some (.val (.int x))) (hr : x + Int32.ofInt cst = r) (hl' : storeLocals Ls k (.int r) = some l') (kk : OEnds p e below s n0 Q C S T (mkF m (pc + 3) l' st)) : OEnds p e below s n0 Q C S T (mkF m pc Ls st) := by
  subst hr
  exact iinc H _ l' hd hl rfl hl' kk
theorem iconst (H : OHr p l e R s m args below meth c Z n0 own nm code maxL ret T h ce sl) {i : Int} (v : Int32) (hd : decode code pc = .ok (.iconst i, 1)) (hv : Int32.ofInt i = v) (k : OEnds p e below s n0 Q C S T (mkF m (pc + 1) Ls (.int v :: st))) : OEnds p e below s n0 Q C S T (mkF m pc Ls st) := by
  obtain ⟨⟨hx, hZ, hby, hml, hown, hnm, hrt, hlk⟩, locs, X, eT, N, z0⟩ := H
  subst hv
  exact go (fun t q => XS.iconst X.here hx rfl (hb hby hd) q) k
theorem bipush (H : OHr p l e R s m args below meth c Z n0 own nm code maxL ret T h ce sl) {i : Int} (v : Int32) (hd : decode code pc = .ok (.bipush i, 2)) (hv : (Int8.ofInt i).toInt32 = v) (k : OEnds p e below s n0 Q C S T (mkF m (pc + 2) Ls (.int v :: st))) : OEnds p e below s n0 Q C S T (mkF m pc Ls st) := by
  obtain ⟨⟨hx, hZ, hby, hml, hown, hnm, hrt, hlk⟩, locs, X, eT, N, z0⟩ := H
  subst hv
  exact go (fun t q => XS.bipush X.here hx rfl (hb hby hd) q) k
theorem sipush (H : OHr p l e R s m args below meth c Z n0 own nm code maxL ret T h ce sl) {i : Int} (v : Int32) (hd : decode code pc = .ok (.sipush i, 3)) (hv : (Int16.ofInt i).toInt32 = v) (k : OEnds p e below s n0 Q C S T (mkF m (pc + 3) Ls (.int v :: st))) : OEnds p e below s n0 Q C S T (mkF m pc Ls st) := by
  obtain ⟨⟨hx, hZ, hby, hml, hown, hnm, hrt, hlk⟩, locs, X, eT, N, z0⟩ := H
  subst hv
  exact go (fun t q => XS.sipush X.here hx rfl (hb hby hd) q) k
theorem lconst (H : OHr p l e R s m args below meth c Z n0 own nm code maxL ret T h ce sl) {i : Fin 2} (v : Int64) (hd : decode code pc = .ok (.lconst i, 1)) (hv : Int64.ofNat i = v) (k : OEnds p e below s n0 Q C S T (mkF m (pc + 1) Ls (.long v :: st))) : OEnds p e below s n0 Q C S T (mkF m pc Ls st) := by
  obtain ⟨⟨hx, hZ, hby, hml, hown, hnm, hrt, hlk⟩, locs, X, eT, N, z0⟩ := H
  subst hv
  exact go (fun t q => XT.lconst X.here hx rfl (hb hby hd) q) k
theorem aconst_null (H : OHr p l e R s m args below meth c Z n0 own nm code maxL ret T h ce sl)  (hd : decode code pc = .ok (.aconst_null, 1))  (k : OEnds p e below s n0 Q C S T (mkF m (pc + 1) Ls (.null :: st))) : OEnds p e below s n0 Q C S T (mkF m pc Ls (st)) := by
  obtain ⟨⟨hx, hZ, hby, hml, hown, hnm, hrt, hlk⟩, locs, X, eT, N, z0⟩ := H
  exact go (fun t q => XS.aconstNull X.here hx rfl (hb hby hd) q) k
theorem ldc (H : OHr p l e R s m args below meth c Z n0 own nm code maxL ret T h ce sl) {i : Nat} {v : Int32} (hd : decode code pc = .ok (.ldc i, 2)) (w : (Cond.constant own i v).before a0 Z = true) (k : OEnds p e below s n0 Q C S T (mkF m (pc + 2) Ls (.int v :: st))) : OEnds p e below s n0 Q C S T (mkF m pc Ls st) := by
  obtain ⟨⟨hx, hZ, hby, hml, hown, hnm, hrt, hlk⟩, locs, X, eT, N, z0⟩ := H
  exact go (X.ldcInt hx hown (mvT hZ w) rfl (hb hby hd)) k
theorem ldc2_w (H : OHr p l e R s m args below meth c Z n0 own nm code maxL ret T h ce sl) {i : Nat} {v : Int64} (hd : decode code pc = .ok (.ldc2_w i, 3)) (w : (Cond.constantLong own i v).before a0 Z = true) (k : OEnds p e below s n0 Q C S T (mkF m (pc + 3) Ls (.long v :: st))) : OEnds p e below s n0 Q C S T (mkF m pc Ls st) := by
  obtain ⟨⟨hx, hZ, hby, hml, hown, hnm, hrt, hlk⟩, locs, X, eT, N, z0⟩ := H
  exact go (X.ldc2Long hx hown (mvT hZ w) rfl (hb hby hd)) k
theorem iadd (H : OHr p l e R s m args below meth c Z n0 own nm code maxL ret T h ce sl) {x y : Int32} (hd : decode code pc = .ok (.iadd, 1))  (k : OEnds p e below s n0 Q C S T (mkF m (pc + 1) Ls (.int (x + y) :: st))) : OEnds p e below s n0 Q C S T (mkF m pc Ls (.int y :: .int x :: st)) := by
  obtain ⟨⟨hx, hZ, hby, hml, hown, hnm, hrt, hlk⟩, locs, X, eT, N, z0⟩ := H
  exact go (fun t q => XS.iadd X.here hx rfl (hb hby hd) rfl q) k
theorem isub (H : OHr p l e R s m args below meth c Z n0 own nm code maxL ret T h ce sl) {x y : Int32} (hd : decode code pc = .ok (.isub, 1))  (k : OEnds p e below s n0 Q C S T (mkF m (pc + 1) Ls (.int (x - y) :: st))) : OEnds p e below s n0 Q C S T (mkF m pc Ls (.int y :: .int x :: st)) := by
  obtain ⟨⟨hx, hZ, hby, hml, hown, hnm, hrt, hlk⟩, locs, X, eT, N, z0⟩ := H
  exact go (fun t q => XS.isub X.here hx rfl (hb hby hd) rfl q) k
theorem imul (H : OHr p l e R s m args below meth c Z n0 own nm code maxL ret T h ce sl) {x y : Int32} (hd : decode code pc = .ok (.imul, 1))  (k : OEnds p e below s n0 Q C S T (mkF m (pc + 1) Ls (.int (x * y) :: st))) : OEnds p e below s n0 Q C S T (mkF m pc Ls (.int y :: .int x :: st)) := by
  obtain ⟨⟨hx, hZ, hby, hml, hown, hnm, hrt, hlk⟩, locs, X, eT, N, z0⟩ := H
  exact go (fun t q => XS.imul X.here hx rfl (hb hby hd) rfl q) k
theorem iand (H : OHr p l e R s m args below meth c Z n0 own nm code maxL ret T h ce sl) {x y : Int32} (hd : decode code pc = .ok (.iand, 1))  (k : OEnds p e below s n0 Q C S T (mkF m (pc + 1) Ls (.int (x &&& y) :: st))) : OEnds p e below s n0 Q C S T (mkF m pc Ls (.int y :: .int x :: st)) := by
  obtain ⟨⟨hx, hZ, hby, hml, hown, hnm, hrt, hlk⟩, locs, X, eT, N, z0⟩ := H
  exact go (fun t q => XS.iand X.here hx rfl (hb hby hd) rfl q) k
theorem ior (H : OHr p l e R s m args below meth c Z n0 own nm code maxL ret T h ce sl) {x y : Int32} (hd : decode code pc = .ok (.ior, 1))  (k : OEnds p e below s n0 Q C S T (mkF m (pc + 1) Ls (.int (x ||| y) :: st))) : OEnds p e below s n0 Q C S T (mkF m pc Ls (.int y :: .int x :: st)) := by
  obtain ⟨⟨hx, hZ, hby, hml, hown, hnm, hrt, hlk⟩, locs, X, eT, N, z0⟩ := H
  exact go (fun t q => XT.ior X.here hx rfl (hb hby hd) rfl q) k
theorem ixor (H : OHr p l e R s m args below meth c Z n0 own nm code maxL ret T h ce sl) {x y : Int32} (hd : decode code pc = .ok (.ixor, 1))  (k : OEnds p e below s n0 Q C S T (mkF m (pc + 1) Ls (.int (x ^^^ y) :: st))) : OEnds p e below s n0 Q C S T (mkF m pc Ls (.int y :: .int x :: st)) := by
  obtain ⟨⟨hx, hZ, hby, hml, hown, hnm, hrt, hlk⟩, locs, X, eT, N, z0⟩ := H
  exact go (fun t q => XT.ixor X.here hx rfl (hb hby hd) rfl q) k
theorem ishl (H : OHr p l e R s m args below meth c Z n0 own nm code maxL ret T h ce sl) {x y : Int32} (hd : decode code pc = .ok (.ishl, 1))  (k : OEnds p e below s n0 Q C S T (mkF m (pc + 1) Ls (.int (x <<< (y &&& 31)) :: st))) : OEnds p e below s n0 Q C S T (mkF m pc Ls (.int y :: .int x :: st)) := by
  obtain ⟨⟨hx, hZ, hby, hml, hown, hnm, hrt, hlk⟩, locs, X, eT, N, z0⟩ := H
  exact go (fun t q => XT.ishl X.here hx rfl (hb hby hd) rfl q) k
theorem ishr (H : OHr p l e R s m args below meth c Z n0 own nm code maxL ret T h ce sl) {x y : Int32} (hd : decode code pc = .ok (.ishr, 1))  (k : OEnds p e below s n0 Q C S T (mkF m (pc + 1) Ls (.int (x >>> (y &&& 31)) :: st))) : OEnds p e below s n0 Q C S T (mkF m pc Ls (.int y :: .int x :: st)) := by
  obtain ⟨⟨hx, hZ, hby, hml, hown, hnm, hrt, hlk⟩, locs, X, eT, N, z0⟩ := H
  exact go (fun t q => XT.ishr X.here hx rfl (hb hby hd) rfl q) k
theorem iushr (H : OHr p l e R s m args below meth c Z n0 own nm code maxL ret T h ce sl) {x y : Int32} (hd : decode code pc = .ok (.iushr, 1))  (k : OEnds p e below s n0 Q C S T (mkF m (pc + 1) Ls (.int (XT.ushr x y) :: st))) : OEnds p e below s n0 Q C S T (mkF m pc Ls (.int y :: .int x :: st)) := by
  obtain ⟨⟨hx, hZ, hby, hml, hown, hnm, hrt, hlk⟩, locs, X, eT, N, z0⟩ := H
  exact go (fun t q => XT.iushr X.here hx rfl (hb hby hd) rfl q) k
theorem idiv (H : OHr p l e R s m args below meth c Z n0 own nm code maxL ret T h ce sl) {x y : Int32} (hd : decode code pc = .ok (.idiv, 1)) (hy : y ≠ 0) (k : OEnds p e below s n0 Q C S T (mkF m (pc + 1) Ls (.int (x / y) :: st))) : OEnds p e below s n0 Q C S T (mkF m pc Ls (.int y :: .int x :: st)) := by
  obtain ⟨⟨hx, hZ, hby, hml, hown, hnm, hrt, hlk⟩, locs, X, eT, N, z0⟩ := H
  exact go (fun t q => XS.idiv X.here hx rfl (hb hby hd) rfl hy q) k
theorem irem (H : OHr p l e R s m args below meth c Z n0 own nm code maxL ret T h ce sl) {x y : Int32} (hd : decode code pc = .ok (.irem, 1)) (hy : y ≠ 0) (k : OEnds p e below s n0 Q C S T (mkF m (pc + 1) Ls (.int (x % y) :: st))) : OEnds p e below s n0 Q C S T (mkF m pc Ls (.int y :: .int x :: st)) := by
  obtain ⟨⟨hx, hZ, hby, hml, hown, hnm, hrt, hlk⟩, locs, X, eT, N, z0⟩ := H
  exact go (fun t q => iremM X hx rfl (hb hby hd) rfl hy q) k
theorem iadd_c (H : OHr p l e R s m args below meth c Z n0 own nm code maxL ret T h ce sl) {x y : Int32} (r : Int32) (hd : decode code pc = .ok (.iadd, 1)) (hr : x + y = r) (k : OEnds p e below s n0 Q C S T (mkF m (pc + 1) Ls (.int r :: st))) : OEnds p e below s n0 Q C S T (mkF m pc Ls (.int y :: .int x :: st)) := by
  subst hr
  exact iadd H hd k
theorem isub_c (H : OHr p l e R s m args below meth c Z n0 own nm code maxL ret T h ce sl) {x y : Int32} (r : Int32) (hd : decode code pc = .ok (.isub, 1)) (hr : x - y = r) (k : OEnds p e below s n0 Q C S T (mkF m (pc + 1) Ls (.int r :: st))) : OEnds p e below s n0 Q C S T (mkF m pc Ls (.int y :: .int x :: st)) := by
  subst hr
  exact isub H hd k
theorem imul_c (H : OHr p l e R s m args below meth c Z n0 own nm code maxL ret T h ce sl) {x y : Int32} (r : Int32) (hd : decode code pc = .ok (.imul, 1)) (hr : x * y = r) (k : OEnds p e below s n0 Q C S T (mkF m (pc + 1) Ls (.int r :: st))) : OEnds p e below s n0 Q C S T (mkF m pc Ls (.int y :: .int x :: st)) := by
  subst hr
  exact imul H hd k
theorem iand_c (H : OHr p l e R s m args below meth c Z n0 own nm code maxL ret T h ce sl) {x y : Int32} (r : Int32) (hd : decode code pc = .ok (.iand, 1)) (hr : x &&& y = r) (k : OEnds p e below s n0 Q C S T (mkF m (pc + 1) Ls (.int r :: st))) : OEnds p e below s n0 Q C S T (mkF m pc Ls (.int y :: .int x :: st)) := by
  subst hr
  exact iand H hd k
theorem ior_c (H : OHr p l e R s m args below meth c Z n0 own nm code maxL ret T h ce sl) {x y : Int32} (r : Int32) (hd : decode code pc = .ok (.ior, 1)) (hr : x ||| y = r) (k : OEnds p e below s n0 Q C S T (mkF m (pc + 1) Ls (.int r :: st))) : OEnds p e below s n0 Q C S T (mkF m pc Ls (.int y :: .int x :: st)) := by
  subst hr
  exact ior H hd k
theorem ixor_c (H : OHr p l e R s m args below meth c Z n0 own nm code maxL ret T h ce sl) {x y : Int32} (r : Int32) (hd : decode code pc = .ok (.ixor, 1)) (hr : x ^^^ y = r) (k : OEnds p e below s n0 Q C S T (mkF m (pc + 1) Ls (.int r :: st))) : OEnds p e below s n0 Q C S T (mkF m pc Ls (.int y :: .int x :: st)) := by
  subst hr
  exact ixor H hd k
theorem ishl_c (H : OHr p l e R s m args below meth c Z n0 own nm code maxL ret T h ce sl) {x y : Int32} (r : Int32) (hd : decode code pc = .ok (.ishl, 1)) (hr : x <<< (y &&& 31) = r) (k : OEnds p e below s n0 Q C S T (mkF m (pc + 1) Ls (.int r :: st))) : OEnds p e below s n0 Q C S T (mkF m pc Ls (.int y :: .int x :: st)) := by
  subst hr
  exact ishl H hd k
theorem ishr_c (H : OHr p l e R s m args below meth c Z n0 own nm code maxL ret T h ce sl) {x y : Int32} (r : Int32) (hd : decode code pc = .ok (.ishr, 1)) (hr : x >>> (y &&& 31) = r) (k : OEnds p e below s n0 Q C S T (mkF m (pc + 1) Ls (.int r :: st))) : OEnds p e below s n0 Q C S T (mkF m pc Ls (.int y :: .int x :: st)) := by
  subst hr
  exact ishr H hd k
theorem iushr_c (H : OHr p l e R s m args below meth c Z n0 own nm code maxL ret T h ce sl) {x y : Int32} (r : Int32) (hd : decode code pc = .ok (.iushr, 1)) (hr : XT.ushr x y = r) (k : OEnds p e below s n0 Q C S T (mkF m (pc + 1) Ls (.int r :: st))) : OEnds p e below s n0 Q C S T (mkF m pc Ls (.int y :: .int x :: st)) := by
  subst hr
  exact iushr H hd k
theorem idiv_c (H : OHr p l e R s m args below meth c Z n0 own nm code maxL ret T h ce sl) {x y : Int32} (r : Int32) (hd : decode code pc = .ok (.idiv, 1)) (hy : y ≠ 0) (hr : x / y = r) (k : OEnds p e below s n0 Q C S T (mkF m (pc + 1) Ls (.int r :: st))) : OEnds p e below s n0 Q C S T (mkF m pc Ls (.int y :: .int x :: st)) := by
  subst hr
  exact idiv H hd hy k
theorem irem_c (H : OHr p l e R s m args below meth c Z n0 own nm code maxL ret T h ce sl) {x y : Int32} (r : Int32) (hd : decode code pc = .ok (.irem, 1)) (hy : y ≠ 0) (hr : x % y = r) (k : OEnds p e below s n0 Q C S T (mkF m (pc + 1) Ls (.int r :: st))) : OEnds p e below s n0 Q C S T (mkF m pc Ls (.int y :: .int x :: st)) := by
  subst hr
  exact irem H hd hy k
theorem ineg (H : OHr p l e R s m args below meth c Z n0 own nm code maxL ret T h ce sl) {x : Int32} (hd : decode code pc = .ok (.ineg, 1))  (k : OEnds p e below s n0 Q C S T (mkF m (pc + 1) Ls (.int (-x) :: st))) : OEnds p e below s n0 Q C S T (mkF m pc Ls (.int x :: st)) := by
  obtain ⟨⟨hx, hZ, hby, hml, hown, hnm, hrt, hlk⟩, locs, X, eT, N, z0⟩ := H
  exact go (fun t q => XS.ineg X.here hx rfl (hb hby hd) rfl q) k
theorem ladd (H : OHr p l e R s m args below meth c Z n0 own nm code maxL ret T h ce sl) {x y : Int64} (hd : decode code pc = .ok (.ladd, 1))  (k : OEnds p e below s n0 Q C S T (mkF m (pc + 1) Ls (.long (x + y) :: st))) : OEnds p e below s n0 Q C S T (mkF m pc Ls (.long y :: .long x :: st)) := by
  obtain ⟨⟨hx, hZ, hby, hml, hown, hnm, hrt, hlk⟩, locs, X, eT, N, z0⟩ := H
  exact go (fun t q => XT.ladd X.here hx rfl (hb hby hd) rfl q) k
theorem lsub (H : OHr p l e R s m args below meth c Z n0 own nm code maxL ret T h ce sl) {x y : Int64} (hd : decode code pc = .ok (.lsub, 1))  (k : OEnds p e below s n0 Q C S T (mkF m (pc + 1) Ls (.long (x - y) :: st))) : OEnds p e below s n0 Q C S T (mkF m pc Ls (.long y :: .long x :: st)) := by
  obtain ⟨⟨hx, hZ, hby, hml, hown, hnm, hrt, hlk⟩, locs, X, eT, N, z0⟩ := H
  exact go (fun t q => XT.lsub X.here hx rfl (hb hby hd) rfl q) k
theorem lmul (H : OHr p l e R s m args below meth c Z n0 own nm code maxL ret T h ce sl) {x y : Int64} (hd : decode code pc = .ok (.lmul, 1))  (k : OEnds p e below s n0 Q C S T (mkF m (pc + 1) Ls (.long (x * y) :: st))) : OEnds p e below s n0 Q C S T (mkF m pc Ls (.long y :: .long x :: st)) := by
  obtain ⟨⟨hx, hZ, hby, hml, hown, hnm, hrt, hlk⟩, locs, X, eT, N, z0⟩ := H
  exact go (fun t q => XT.lmul X.here hx rfl (hb hby hd) rfl q) k
theorem land (H : OHr p l e R s m args below meth c Z n0 own nm code maxL ret T h ce sl) {x y : Int64} (hd : decode code pc = .ok (.land, 1))  (k : OEnds p e below s n0 Q C S T (mkF m (pc + 1) Ls (.long (x &&& y) :: st))) : OEnds p e below s n0 Q C S T (mkF m pc Ls (.long y :: .long x :: st)) := by
  obtain ⟨⟨hx, hZ, hby, hml, hown, hnm, hrt, hlk⟩, locs, X, eT, N, z0⟩ := H
  exact go (fun t q => XT.land X.here hx rfl (hb hby hd) rfl q) k
theorem lor (H : OHr p l e R s m args below meth c Z n0 own nm code maxL ret T h ce sl) {x y : Int64} (hd : decode code pc = .ok (.lor, 1))  (k : OEnds p e below s n0 Q C S T (mkF m (pc + 1) Ls (.long (x ||| y) :: st))) : OEnds p e below s n0 Q C S T (mkF m pc Ls (.long y :: .long x :: st)) := by
  obtain ⟨⟨hx, hZ, hby, hml, hown, hnm, hrt, hlk⟩, locs, X, eT, N, z0⟩ := H
  exact go (fun t q => XT.lor X.here hx rfl (hb hby hd) rfl q) k
theorem lxor (H : OHr p l e R s m args below meth c Z n0 own nm code maxL ret T h ce sl) {x y : Int64} (hd : decode code pc = .ok (.lxor, 1))  (k : OEnds p e below s n0 Q C S T (mkF m (pc + 1) Ls (.long (x ^^^ y) :: st))) : OEnds p e below s n0 Q C S T (mkF m pc Ls (.long y :: .long x :: st)) := by
  obtain ⟨⟨hx, hZ, hby, hml, hown, hnm, hrt, hlk⟩, locs, X, eT, N, z0⟩ := H
  exact go (fun t q => XT.lxor X.here hx rfl (hb hby hd) rfl q) k
theorem lshl (H : OHr p l e R s m args below meth c Z n0 own nm code maxL ret T h ce sl) {x : Int64} {y : Int32} (hd : decode code pc = .ok (.lshl, 1))  (k : OEnds p e below s n0 Q C S T (mkF m (pc + 1) Ls (.long (x <<< (y.toInt64 &&& 63)) :: st))) : OEnds p e below s n0 Q C S T (mkF m pc Ls (.int y :: .long x :: st)) := by
  obtain ⟨⟨hx, hZ, hby, hml, hown, hnm, hrt, hlk⟩, locs, X, eT, N, z0⟩ := H
  exact go (fun t q => XT.lshl X.here hx rfl (hb hby hd) rfl q) k
theorem lshr (H : OHr p l e R s m args below meth c Z n0 own nm code maxL ret T h ce sl) {x : Int64} {y : Int32} (hd : decode code pc = .ok (.lshr, 1))  (k : OEnds p e below s n0 Q C S T (mkF m (pc + 1) Ls (.long (x >>> (y.toInt64 &&& 63)) :: st))) : OEnds p e below s n0 Q C S T (mkF m pc Ls (.int y :: .long x :: st)) := by
  obtain ⟨⟨hx, hZ, hby, hml, hown, hnm, hrt, hlk⟩, locs, X, eT, N, z0⟩ := H
  exact go (fun t q => XT.lshr X.here hx rfl (hb hby hd) rfl q) k
theorem lushr (H : OHr p l e R s m args below meth c Z n0 own nm code maxL ret T h ce sl) {x : Int64} {y : Int32} (hd : decode code pc = .ok (.lushr, 1))  (k : OEnds p e below s n0 Q C S T (mkF m (pc + 1) Ls (.long (XT.ushrL x y) :: st))) : OEnds p e below s n0 Q C S T (mkF m pc Ls (.int y :: .long x :: st)) := by
  obtain ⟨⟨hx, hZ, hby, hml, hown, hnm, hrt, hlk⟩, locs, X, eT, N, z0⟩ := H
  exact go (fun t q => XT.lushr X.here hx rfl (hb hby hd) rfl q) k
theorem lneg (H : OHr p l e R s m args below meth c Z n0 own nm code maxL ret T h ce sl) {x : Int64} (hd : decode code pc = .ok (.lneg, 1))  (k : OEnds p e below s n0 Q C S T (mkF m (pc + 1) Ls (.long (-x) :: st))) : OEnds p e below s n0 Q C S T (mkF m pc Ls (.long x :: st)) := by
  obtain ⟨⟨hx, hZ, hby, hml, hown, hnm, hrt, hlk⟩, locs, X, eT, N, z0⟩ := H
  exact go (fun t q => XT.lneg X.here hx rfl (hb hby hd) rfl q) k
theorem i2l (H : OHr p l e R s m args below meth c Z n0 own nm code maxL ret T h ce sl) {x : Int32} (hd : decode code pc = .ok (.i2l, 1))  (k : OEnds p e below s n0 Q C S T (mkF m (pc + 1) Ls (.long x.toInt64 :: st))) : OEnds p e below s n0 Q C S T (mkF m pc Ls (.int x :: st)) := by
  obtain ⟨⟨hx, hZ, hby, hml, hown, hnm, hrt, hlk⟩, locs, X, eT, N, z0⟩ := H
  exact go (fun t q => XT.i2l X.here hx rfl (hb hby hd) rfl q) k
theorem l2i (H : OHr p l e R s m args below meth c Z n0 own nm code maxL ret T h ce sl) {x : Int64} (hd : decode code pc = .ok (.l2i, 1))  (k : OEnds p e below s n0 Q C S T (mkF m (pc + 1) Ls (.int x.toInt32 :: st))) : OEnds p e below s n0 Q C S T (mkF m pc Ls (.long x :: st)) := by
  obtain ⟨⟨hx, hZ, hby, hml, hown, hnm, hrt, hlk⟩, locs, X, eT, N, z0⟩ := H
  exact go (fun t q => XT.l2i X.here hx rfl (hb hby hd) rfl q) k
theorem i2b (H : OHr p l e R s m args below meth c Z n0 own nm code maxL ret T h ce sl) {x : Int32} (hd : decode code pc = .ok (.i2b, 1))  (k : OEnds p e below s n0 Q C S T (mkF m (pc + 1) Ls (.int x.toInt8.toInt32 :: st))) : OEnds p e below s n0 Q C S T (mkF m pc Ls (.int x :: st)) := by
  obtain ⟨⟨hx, hZ, hby, hml, hown, hnm, hrt, hlk⟩, locs, X, eT, N, z0⟩ := H
  exact go (fun t q => XT.i2b X.here hx rfl (hb hby hd) rfl q) k
theorem i2c (H : OHr p l e R s m args below meth c Z n0 own nm code maxL ret T h ce sl) {x : Int32} (hd : decode code pc = .ok (.i2c, 1))  (k : OEnds p e below s n0 Q C S T (mkF m (pc + 1) Ls (.int x.toUInt32.toUInt16.toUInt32.toInt32 :: st))) : OEnds p e below s n0 Q C S T (mkF m pc Ls (.int x :: st)) := by
  obtain ⟨⟨hx, hZ, hby, hml, hown, hnm, hrt, hlk⟩, locs, X, eT, N, z0⟩ := H
  exact go (fun t q => XT.i2c X.here hx rfl (hb hby hd) rfl q) k
theorem lcmp (H : OHr p l e R s m args below meth c Z n0 own nm code maxL ret T h ce sl) {x y : Int64} (hd : decode code pc = .ok (.lcmp, 1))  (k : OEnds p e below s n0 Q C S T (mkF m (pc + 1) Ls (.int (XT.cmpL x y) :: st))) : OEnds p e below s n0 Q C S T (mkF m pc Ls (.long y :: .long x :: st)) := by
  obtain ⟨⟨hx, hZ, hby, hml, hown, hnm, hrt, hlk⟩, locs, X, eT, N, z0⟩ := H
  exact go (fun t q => XT.lcmp X.here hx rfl (hb hby hd) rfl q) k
theorem dup (H : OHr p l e R s m args below meth c Z n0 own nm code maxL ret T h ce sl) {x : Value} (hd : decode code pc = .ok (.dup, 1)) (hc : x.category = 1) (k : OEnds p e below s n0 Q C S T (mkF m (pc + 1) Ls (x :: x :: st))) : OEnds p e below s n0 Q C S T (mkF m pc Ls (x :: st)) := by
  obtain ⟨⟨hx, hZ, hby, hml, hown, hnm, hrt, hlk⟩, locs, X, eT, N, z0⟩ := H
  exact go (fun t q => XS.dup X.here hx rfl (hb hby hd) rfl hc q) k
theorem pop (H : OHr p l e R s m args below meth c Z n0 own nm code maxL ret T h ce sl) {x : Value} (hd : decode code pc = .ok (.pop, 1)) (hc : x.category = 1) (k : OEnds p e below s n0 Q C S T (mkF m (pc + 1) Ls (st))) : OEnds p e below s n0 Q C S T (mkF m pc Ls (x :: st)) := by
  obtain ⟨⟨hx, hZ, hby, hml, hown, hnm, hrt, hlk⟩, locs, X, eT, N, z0⟩ := H
  exact go (fun t q => XT.pop X.here hx rfl (hb hby hd) rfl hc q) k
theorem dup_x1 (H : OHr p l e R s m args below meth c Z n0 own nm code maxL ret T h ce sl) {x y : Value} (hd : decode code pc = .ok (.dup_x1, 1)) (hc : x.category = 1) (hc' : y.category = 1) (k : OEnds p e below s n0 Q C S T (mkF m (pc + 1) Ls (x :: y :: x :: st))) : OEnds p e below s n0 Q C S T (mkF m pc Ls (x :: y :: st)) := by
  obtain ⟨⟨hx, hZ, hby, hml, hown, hnm, hrt, hlk⟩, locs, X, eT, N, z0⟩ := H
  exact go (fun t q => XT.dupX1 X.here hx rfl (hb hby hd) rfl hc hc' q) k
theorem dup2 (H : OHr p l e R s m args below meth c Z n0 own nm code maxL ret T h ce sl) {x y : Value} (hd : decode code pc = .ok (.dup2, 1)) (hc : x.category = 1) (hc' : y.category = 1) (k : OEnds p e below s n0 Q C S T (mkF m (pc + 1) Ls (x :: y :: x :: y :: st))) : OEnds p e below s n0 Q C S T (mkF m pc Ls (x :: y :: st)) := by
  obtain ⟨⟨hx, hZ, hby, hml, hown, hnm, hrt, hlk⟩, locs, X, eT, N, z0⟩ := H
  exact go (fun t q => XT.dup2 X.here hx rfl (hb hby hd) rfl hc hc' q) k
theorem goto (H : OHr p l e R s m args below meth c Z n0 own nm code maxL ret T h ce sl) {o : Int} (pc' : Nat) (hd : decode code pc = .ok (.goto o, 3)) (ho : 0 ≤ (pc : Int) + o) (hp : ((pc : Int) + o).toNat = pc') (k : OEnds p e below s n0 Q C S T (mkF m pc' Ls st)) : OEnds p e below s n0 Q C S T (mkF m pc Ls st) := by
  obtain ⟨⟨hx, hZ, hby, hml, hown, hnm, hrt, hlk⟩, locs, X, eT, N, z0⟩ := H
  exact go (fun t q => XS.goto X.here hx rfl rfl (hb hby hd) ho hp q) k
theorem icmp_lt (H : OHr p l e R s m args below meth c Z n0 own nm code maxL ret T h ce sl) {x y : Int32} {o : Int} (pc' : Nat) (hd : decode code pc = .ok (.if_icmp .lt o, 3)) (ho : 0 ≤ (pc : Int) + o) (hp : ((pc : Int) + o).toNat = pc') (kt : x < y → OEnds p e below s n0 Q C S T (mkF m pc' Ls st)) (kf : ¬ x < y → OEnds p e below s n0 Q C S T (mkF m (pc + 3) Ls st)) : OEnds p e below s n0 Q C S T (mkF m pc Ls (.int y :: .int x :: st)) := by
  obtain ⟨⟨hx, hZ, hby, hml, hown, hnm, hrt, hlk⟩, locs, X, eT, N, z0⟩ := H
  by_cases q : x < y
  · exact go (fun t r => XS.icmpYes X.here hx rfl rfl (hb hby hd) rfl (tlt q).1 ho hp r) (kt q)
  · exact go (fun t r => XS.icmpNo X.here hx rfl (hb hby hd) rfl (flt q).1 r) (kf q)
theorem if_lt (H : OHr p l e R s m args below meth c Z n0 own nm code maxL ret T h ce sl) {x : Int32} {o : Int} (pc' : Nat) (hd : decode code pc = .ok (.ifCond .lt o, 3)) (ho : 0 ≤ (pc : Int) + o) (hp : ((pc : Int) + o).toNat = pc') (kt : x < (0 : Int32) → OEnds p e below s n0 Q C S T (mkF m pc' Ls st)) (kf : ¬ x < (0 : Int32) → OEnds p e below s n0 Q C S T (mkF m (pc + 3) Ls st)) : OEnds p e below s n0 Q C S T (mkF m pc Ls (.int x :: st)) := by
  obtain ⟨⟨hx, hZ, hby, hml, hown, hnm, hrt, hlk⟩, locs, X, eT, N, z0⟩ := H
  by_cases q : x < (0 : Int32)
  · exact go (fun t r => XS.ifYes X.here hx rfl rfl (hb hby hd) rfl ((if0 _ _).trans (tlt q).1) ho hp r) (kt q)
  · exact go (fun t r => XS.ifNo X.here hx rfl (hb hby hd) rfl ((if0 _ _).trans (flt q).1) r) (kf q)
theorem icmp_ge (H : OHr p l e R s m args below meth c Z n0 own nm code maxL ret T h ce sl) {x y : Int32} {o : Int} (pc' : Nat) (hd : decode code pc = .ok (.if_icmp .ge o, 3)) (ho : 0 ≤ (pc : Int) + o) (hp : ((pc : Int) + o).toNat = pc') (kt : ¬ x < y → OEnds p e below s n0 Q C S T (mkF m pc' Ls st)) (kf : x < y → OEnds p e below s n0 Q C S T (mkF m (pc + 3) Ls st)) : OEnds p e below s n0 Q C S T (mkF m pc Ls (.int y :: .int x :: st)) := by
  obtain ⟨⟨hx, hZ, hby, hml, hown, hnm, hrt, hlk⟩, locs, X, eT, N, z0⟩ := H
  by_cases q : x < y
  · exact go (fun t r => XS.icmpNo X.here hx rfl (hb hby hd) rfl (tlt q).2.1 r) (kf q)
  · exact go (fun t r => XS.icmpYes X.here hx rfl rfl (hb hby hd) rfl (flt q).2.1 ho hp r) (kt q)
theorem if_ge (H : OHr p l e R s m args below meth c Z n0 own nm code maxL ret T h ce sl) {x : Int32} {o : Int} (pc' : Nat) (hd : decode code pc = .ok (.ifCond .ge o, 3)) (ho : 0 ≤ (pc : Int) + o) (hp : ((pc : Int) + o).toNat = pc') (kt : ¬ x < (0 : Int32) → OEnds p e below s n0 Q C S T (mkF m pc' Ls st)) (kf : x < (0 : Int32) → OEnds p e below s n0 Q C S T (mkF m (pc + 3) Ls st)) : OEnds p e below s n0 Q C S T (mkF m pc Ls (.int x :: st)) := by
  obtain ⟨⟨hx, hZ, hby, hml, hown, hnm, hrt, hlk⟩, locs, X, eT, N, z0⟩ := H
  by_cases q : x < (0 : Int32)
  · exact go (fun t r => XS.ifNo X.here hx rfl (hb hby hd) rfl ((if0 _ _).trans (tlt q).2.1) r) (kf q)
  · exact go (fun t r => XS.ifYes X.here hx rfl rfl (hb hby hd) rfl ((if0 _ _).trans (flt q).2.1) ho hp r) (kt q)
theorem icmp_gt (H : OHr p l e R s m args below meth c Z n0 own nm code maxL ret T h ce sl) {x y : Int32} {o : Int} (pc' : Nat) (hd : decode code pc = .ok (.if_icmp .gt o, 3)) (ho : 0 ≤ (pc : Int) + o) (hp : ((pc : Int) + o).toNat = pc') (kt : y < x → OEnds p e below s n0 Q C S T (mkF m pc' Ls st)) (kf : ¬ y < x → OEnds p e below s n0 Q C S T (mkF m (pc + 3) Ls st)) : OEnds p e below s n0 Q C S T (mkF m pc Ls (.int y :: .int x :: st)) := by
  obtain ⟨⟨hx, hZ, hby, hml, hown, hnm, hrt, hlk⟩, locs, X, eT, N, z0⟩ := H
  by_cases q : y < x
  · exact go (fun t r => XS.icmpYes X.here hx rfl rfl (hb hby hd) rfl (tlt q).2.2.1 ho hp r) (kt q)
  · exact go (fun t r => XS.icmpNo X.here hx rfl (hb hby hd) rfl (flt q).2.2.1 r) (kf q)
theorem if_gt (H : OHr p l e R s m args below meth c Z n0 own nm code maxL ret T h ce sl) {x : Int32} {o : Int} (pc' : Nat) (hd : decode code pc = .ok (.ifCond .gt o, 3)) (ho : 0 ≤ (pc : Int) + o) (hp : ((pc : Int) + o).toNat = pc') (kt : (0 : Int32) < x → OEnds p e below s n0 Q C S T (mkF m pc' Ls st)) (kf : ¬ (0 : Int32) < x → OEnds p e below s n0 Q C S T (mkF m (pc + 3) Ls st)) : OEnds p e below s n0 Q C S T (mkF m pc Ls (.int x :: st)) := by
  obtain ⟨⟨hx, hZ, hby, hml, hown, hnm, hrt, hlk⟩, locs, X, eT, N, z0⟩ := H
  by_cases q : (0 : Int32) < x
  · exact go (fun t r => XS.ifYes X.here hx rfl rfl (hb hby hd) rfl ((if0 _ _).trans (tlt q).2.2.1) ho hp r) (kt q)
  · exact go (fun t r => XS.ifNo X.here hx rfl (hb hby hd) rfl ((if0 _ _).trans (flt q).2.2.1) r) (kf q)
theorem icmp_le (H : OHr p l e R s m args below meth c Z n0 own nm code maxL ret T h ce sl) {x y : Int32} {o : Int} (pc' : Nat) (hd : decode code pc = .ok (.if_icmp .le o, 3)) (ho : 0 ≤ (pc : Int) + o) (hp : ((pc : Int) + o).toNat = pc') (kt : ¬ y < x → OEnds p e below s n0 Q C S T (mkF m pc' Ls st)) (kf : y < x → OEnds p e below s n0 Q C S T (mkF m (pc + 3) Ls st)) : OEnds p e below s n0 Q C S T (mkF m pc Ls (.int y :: .int x :: st)) := by
  obtain ⟨⟨hx, hZ, hby, hml, hown, hnm, hrt, hlk⟩, locs, X, eT, N, z0⟩ := H
  by_cases q : y < x
  · exact go (fun t r => XS.icmpNo X.here hx rfl (hb hby hd) rfl (tlt q).2.2.2 r) (kf q)
  · exact go (fun t r => XS.icmpYes X.here hx rfl rfl (hb hby hd) rfl (flt q).2.2.2 ho hp r) (kt q)
theorem if_le (H : OHr p l e R s m args below meth c Z n0 own nm code maxL ret T h ce sl) {x : Int32} {o : Int} (pc' : Nat) (hd : decode code pc = .ok (.ifCond .le o, 3)) (ho : 0 ≤ (pc : Int) + o) (hp : ((pc : Int) + o).toNat = pc') (kt : ¬ (0 : Int32) < x → OEnds p e below s n0 Q C S T (mkF m pc' Ls st)) (kf : (0 : Int32) < x → OEnds p e below s n0 Q C S T (mkF m (pc + 3) Ls st)) : OEnds p e below s n0 Q C S T (mkF m pc Ls (.int x :: st)) := by
  obtain ⟨⟨hx, hZ, hby, hml, hown, hnm, hrt, hlk⟩, locs, X, eT, N, z0⟩ := H
  by_cases q : (0 : Int32) < x
  · exact go (fun t r => XS.ifNo X.here hx rfl (hb hby hd) rfl ((if0 _ _).trans (tlt q).2.2.2) r) (kf q)
  · exact go (fun t r => XS.ifYes X.here hx rfl rfl (hb hby hd) rfl ((if0 _ _).trans (flt q).2.2.2) ho hp r) (kt q)
theorem icmp_eq (H : OHr p l e R s m args below meth c Z n0 own nm code maxL ret T h ce sl) {x y : Int32} {o : Int} (pc' : Nat) (hd : decode code pc = .ok (.if_icmp .eq o, 3)) (ho : 0 ≤ (pc : Int) + o) (hp : ((pc : Int) + o).toNat = pc') (kt : x = y → OEnds p e below s n0 Q C S T (mkF m pc' Ls st)) (kf : ¬ x = y → OEnds p e below s n0 Q C S T (mkF m (pc + 3) Ls st)) : OEnds p e below s n0 Q C S T (mkF m pc Ls (.int y :: .int x :: st)) := by
  obtain ⟨⟨hx, hZ, hby, hml, hown, hnm, hrt, hlk⟩, locs, X, eT, N, z0⟩ := H
  by_cases q : x = y
  · exact go (fun t r => XS.icmpYes X.here hx rfl rfl (hb hby hd) rfl (teq q).1 ho hp r) (kt q)
  · exact go (fun t r => XS.icmpNo X.here hx rfl (hb hby hd) rfl (feq q).1 r) (kf q)
theorem if_eq (H : OHr p l e R s m args below meth c Z n0 own nm code maxL ret T h ce sl) {x : Int32} {o : Int} (pc' : Nat) (hd : decode code pc = .ok (.ifCond .eq o, 3)) (ho : 0 ≤ (pc : Int) + o) (hp : ((pc : Int) + o).toNat = pc') (kt : x = (0 : Int32) → OEnds p e below s n0 Q C S T (mkF m pc' Ls st)) (kf : ¬ x = (0 : Int32) → OEnds p e below s n0 Q C S T (mkF m (pc + 3) Ls st)) : OEnds p e below s n0 Q C S T (mkF m pc Ls (.int x :: st)) := by
  obtain ⟨⟨hx, hZ, hby, hml, hown, hnm, hrt, hlk⟩, locs, X, eT, N, z0⟩ := H
  by_cases q : x = (0 : Int32)
  · exact go (fun t r => XS.ifYes X.here hx rfl rfl (hb hby hd) rfl ((if0 _ _).trans (teq q).1) ho hp r) (kt q)
  · exact go (fun t r => XS.ifNo X.here hx rfl (hb hby hd) rfl ((if0 _ _).trans (feq q).1) r) (kf q)
theorem icmp_ne (H : OHr p l e R s m args below meth c Z n0 own nm code maxL ret T h ce sl) {x y : Int32} {o : Int} (pc' : Nat) (hd : decode code pc = .ok (.if_icmp .ne o, 3)) (ho : 0 ≤ (pc : Int) + o) (hp : ((pc : Int) + o).toNat = pc') (kt : ¬ x = y → OEnds p e below s n0 Q C S T (mkF m pc' Ls st)) (kf : x = y → OEnds p e below s n0 Q C S T (mkF m (pc + 3) Ls st)) : OEnds p e below s n0 Q C S T (mkF m pc Ls (.int y :: .int x :: st)) := by
  obtain ⟨⟨hx, hZ, hby, hml, hown, hnm, hrt, hlk⟩, locs, X, eT, N, z0⟩ := H
  by_cases q : x = y
  · exact go (fun t r => XS.icmpNo X.here hx rfl (hb hby hd) rfl (teq q).2 r) (kf q)
  · exact go (fun t r => XS.icmpYes X.here hx rfl rfl (hb hby hd) rfl (feq q).2 ho hp r) (kt q)
theorem if_ne (H : OHr p l e R s m args below meth c Z n0 own nm code maxL ret T h ce sl) {x : Int32} {o : Int} (pc' : Nat) (hd : decode code pc = .ok (.ifCond .ne o, 3)) (ho : 0 ≤ (pc : Int) + o) (hp : ((pc : Int) + o).toNat = pc') (kt : ¬ x = (0 : Int32) → OEnds p e below s n0 Q C S T (mkF m pc' Ls st)) (kf : x = (0 : Int32) → OEnds p e below s n0 Q C S T (mkF m (pc + 3) Ls st)) : OEnds p e below s n0 Q C S T (mkF m pc Ls (.int x :: st)) := by
  obtain ⟨⟨hx, hZ, hby, hml, hown, hnm, hrt, hlk⟩, locs, X, eT, N, z0⟩ := H
  by_cases q : x = (0 : Int32)
  · exact go (fun t r => XS.ifNo X.here hx rfl (hb hby hd) rfl ((if0 _ _).trans (teq q).2) r) (kf q)
  · exact go (fun t r => XS.ifYes X.here hx rfl rfl (hb hby hd) rfl ((if0 _ _).trans (feq q).2) ho hp r) (kt q)
theorem ifnull_ref (H : OHr p l e R s m args below meth c Z n0 own nm code maxL ret T h ce sl) {o : Int} {b : Addr} (hd : decode code pc = .ok (.ifnull o, 3)) (k : OEnds p e below s n0 Q C S T (mkF m (pc + 3) Ls st)) : OEnds p e below s n0 Q C S T (mkF m pc Ls (.ref b :: st)) := by
  obtain ⟨⟨hx, hZ, hby, hml, hown, hnm, hrt, hlk⟩, locs, X, eT, N, z0⟩ := H
  exact go (fun t q => XS.ifnullNo X.here hx rfl (hb hby hd) rfl q) k
theorem ifnonnull_ref (H : OHr p l e R s m args below meth c Z n0 own nm code maxL ret T h ce sl) {o : Int} {b : Addr} (pc' : Nat) (hd : decode code pc = .ok (.ifnonnull o, 3)) (ho : 0 ≤ (pc : Int) + o) (hp : ((pc : Int) + o).toNat = pc') (k : OEnds p e below s n0 Q C S T (mkF m pc' Ls st)) : OEnds p e below s n0 Q C S T (mkF m pc Ls (.ref b :: st)) := by
  obtain ⟨⟨hx, hZ, hby, hml, hown, hnm, hrt, hlk⟩, locs, X, eT, N, z0⟩ := H
  exact go (fun t q => XT.ifnonnullYes X.here hx rfl rfl (hb hby hd) rfl ho hp q) k
theorem acmp_ne (H : OHr p l e R s m args below meth c Z n0 own nm code maxL ret T h ce sl) {x y : Value} {o : Int} (pc' : Nat) (hd : decode code pc = .ok (.if_acmp .ne o, 3)) (h1 : x.isRef = true) (h2 : y.isRef = true) (ho : 0 ≤ (pc : Int) + o) (hp : ((pc : Int) + o).toNat = pc') (kt : ¬ x = y → OEnds p e below s n0 Q C S T (mkF m pc' Ls st)) (kf : x = y → OEnds p e below s n0 Q C S T (mkF m (pc + 3) Ls st)) : OEnds p e below s n0 Q C S T (mkF m pc Ls (y :: x :: st)) := by
  obtain ⟨⟨hx, hZ, hby, hml, hown, hnm, hrt, hlk⟩, locs, X, eT, N, z0⟩ := H
  by_cases q : x = y
  · exact go (fun t r => XT.acmpNo X.here hx rfl (hb hby hd) rfl h1 h2 (by simp [XT.acmp, q]) r) (kf q)
  · exact go (fun t r => XT.acmpYes X.here hx rfl rfl (hb hby hd) rfl h1 h2 (by simp [XT.acmp, q]) ho hp r) (kt q)
theorem acmp_eq (H : OHr p l e R s m args below meth c Z n0 own nm code maxL ret T h ce sl) {x y : Value} {o : Int} (pc' : Nat) (hd : decode code pc = .ok (.if_acmp .eq o, 3)) (h1 : x.isRef = true) (h2 : y.isRef = true) (ho : 0 ≤ (pc : Int) + o) (hp : ((pc : Int) + o).toNat = pc') (kt : x = y → OEnds p e below s n0 Q C S T (mkF m pc' Ls st)) (kf : ¬ x = y → OEnds p e below s n0 Q C S T (mkF m (pc + 3) Ls st)) : OEnds p e below s n0 Q C S T (mkF m pc Ls (y :: x :: st)) := by
  obtain ⟨⟨hx, hZ, hby, hml, hown, hnm, hrt, hlk⟩, locs, X, eT, N, z0⟩ := H
  by_cases q : x = y
  · exact go (fun t r => XT.acmpYes X.here hx rfl rfl (hb hby hd) rfl h1 h2 (by simp [XT.acmp, q]) ho hp r) (kt q)
  · exact go (fun t r => XT.acmpNo X.here hx rfl (hb hby hd) rfl h1 h2 (by simp [XT.acmp, q]) r) (kf q)
theorem ret_int (H : OHr p l e R s m args below meth c Z n0 own nm code maxL ret T h ce sl) {z : Int32} (hd : decode code pc = .ok (.ireturn, 1)) (hr : ret = some .int) (hC : ce ≤ C) (hS : sl ≤ S) (hq : Q (some (.int z)) h) : OEnds p e below s n0 Q C S T (mkF m pc Ls (.int z :: st)) := by
  obtain ⟨⟨hx, hZ, hby, hml, hown, hnm, hrt, hlk⟩, locs, X, eT, N, z0⟩ := H
  obtain ⟨fs, hrr, hrun, hended, hW, hsame⟩ := X.leave (v := some (.int z)) (fun q => by rw [hrt, hr] at q; cases q) hlk
  refine ⟨_, _, ?_, hrun, hended, _, _, rfl, ⟨N, ?_⟩, ⟨_, rfl⟩, hW, hsame.mono hC hS⟩
  · exact retOut X hx (hrt.trans hr) rfl (Or.inl ⟨rfl, Or.inl rfl, _, rfl⟩) (hb hby hd) hrr
  · show Q _ T.heap
    rw [eT]; exact hq
theorem ret_nar (H : OHr p l e R s m args below meth c Z n0 own nm code maxL ret T h ce sl) {z : Int32} (w : Int32) {t : FieldType} (hd : decode code pc = .ok (.ireturn, 1)) (hr : ret = some t) (ht : t = .boolean ∨ t = .byte ∨ t = .char ∨ t = .short) (hw : nar t z = w) (hC : ce ≤ C) (hS : sl ≤ S) (hq : Q (some (.int w)) h) : OEnds p e below s n0 Q C S T (mkF m pc Ls (.int z :: st)) := by
  obtain ⟨⟨hx, hZ, hby, hml, hown, hnm, hrt, hlk⟩, locs, X, eT, N, z0⟩ := H
  subst hw
  obtain ⟨fs, hrr, hrun, hended, hW, hsame⟩ := X.leave (v := some (.int (nar t z))) (fun q => by rw [hrt, hr] at q; cases q) hlk
  refine ⟨_, _, ?_, hrun, hended, _, _, rfl, ⟨N, ?_⟩, ⟨_, rfl⟩, hW, hsame.mono hC hS⟩
  · exact retN X hx (hrt.trans hr) ht (hb hby hd) hrr
  · show Q _ T.heap
    rw [eT]; exact hq
theorem ret_long (H : OHr p l e R s m args below meth c Z n0 own nm code maxL ret T h ce sl) {z : Int64} (hd : decode code pc = .ok (.lreturn, 1)) (hr : ret = some .long) (hC : ce ≤ C) (hS : sl ≤ S) (hq : Q (some (.long z)) h) : OEnds p e below s n0 Q C S T (mkF m pc Ls (.long z :: st)) := by
  obtain ⟨⟨hx, hZ, hby, hml, hown, hnm, hrt, hlk⟩, locs, X, eT, N, z0⟩ := H
  obtain ⟨fs, hrr, hrun, hended, hW, hsame⟩ := X.leave (v := some (.long z)) (fun q => by rw [hrt, hr] at q; cases q) hlk
  refine ⟨_, _, ?_, hrun, hended, _, _, rfl, ⟨N, ?_⟩, ⟨_, rfl⟩, hW, hsame.mono hC hS⟩
  · exact retOut X hx (hrt.trans hr) rfl (Or.inr (Or.inl ⟨rfl, rfl, _, rfl⟩)) (hb hby hd) hrr
  · show Q _ T.heap
    rw [eT]; exact hq
theorem ret_ref (H : OHr p l e R s m args below meth c Z n0 own nm code maxL ret T h ce sl) {z : Value} {t : FieldType} (hd : decode code pc = .ok (.areturn, 1)) (hr : ret = some t) (ht : t.isReference = true) (hn : narrow t z = z) (hz : z.isRef = true) (hC : ce ≤ C) (hS : sl ≤ S) (hq : Q (some z) h) : OEnds p e below s n0 Q C S T (mkF m pc Ls (z :: st)) := by
  obtain ⟨⟨hx, hZ, hby, hml, hown, hnm, hrt, hlk⟩, locs, X, eT, N, z0⟩ := H
  obtain ⟨fs, hrr, hrun, hended, hW, hsame⟩ := X.leave (v := some z) (fun q => by rw [hrt, hr] at q; cases q) hlk
  refine ⟨_, _, ?_, hrun, hended, _, _, rfl, ⟨N, ?_⟩, ⟨_, rfl⟩, hW, hsame.mono hC hS⟩
  · exact retOut X hx (hrt.trans hr) hn (Or.inr (Or.inr (Or.inr (Or.inr ⟨rfl, ht, hz⟩)))) (hb hby hd) hrr
  · show Q _ T.heap
    rw [eT]; exact hq
theorem ret_void (H : OHr p l e R s m args below meth c Z n0 own nm code maxL ret T h ce sl) (hd : decode code pc = .ok (.return_, 1)) (hr : ret = none) (hC : ce ≤ C) (hS : sl ≤ S) (hq : Q none h) : OEnds p e below s n0 Q C S T (mkF m pc Ls []) := by
  obtain ⟨⟨hx, hZ, hby, hml, hown, hnm, hrt, hlk⟩, locs, X, eT, N, z0⟩ := H
  obtain ⟨fs, hrr, hrun, hended, hW, hsame⟩ := X.leave (v := none) (fun _ => rfl) hlk
  refine ⟨_, _, ?_, hrun, hended, _, _, rfl, ⟨N, ?_⟩, ⟨_, rfl⟩, hW, hsame.mono hC hS⟩
  · exact X.returnOut hx (hrt.trans hr) (hb hby hd) hrr
  · show Q _ T.heap
    rw [eT]; exact hq
theorem getfield (H : OHr p l e R s m args below meth c Z n0 own nm code maxL ret T h ce sl) {O n d : String} {idx : Nat} {a : Addr} {v : Value} (hd : decode code pc = .ok (.getfield idx, 3)) (w : (Cond.fieldLink own idx O n d).before a0 Z = true) (F : Fld Z h a O n d v) (k : ∀ T', OHr p l e R s m args below meth c Z n0 own nm code maxL ret T' h ce sl → OEnds p e below s n0 Q C S T' (mkF m (pc + 3) Ls (v :: st))) : OEnds p e below s n0 Q C S T (mkF m pc Ls (.ref a :: st)) := by
  obtain ⟨⟨hx, hZ, hby, hml, hown, hnm, hrt, hlk⟩, locs, X, eT, N, z0⟩ := H
  obtain ⟨T', X', e', q⟩ := getF X hx hZ hown (host := "") (Or.inl w) Via.refl eT F (g := mkF m pc Ls (.ref a :: st)) rfl rfl (hb hby hd)
  exact go q (k T' ⟨⟨hx, hZ, hby, hml, hown, hnm, hrt, hlk⟩, locs, X', e', N, z0⟩)
theorem putfield (H : OHr p l e R s m args below meth c Z n0 own nm code maxL ret T h ce sl) {O n d CC : String} {idx kk : Nat} {ty : FieldType} {a : Addr} {v old : Value} (hd : decode code pc = .ok (.putfield idx, 3)) (w : (Cond.fieldLink own idx O n d).before a0 Z = true) (F : Fld Z h a O n d old) (E : Exa Z h a CC) (L : (Cond.lays CC O n d).before a0 Z = true ∨ ((Cond.laysFinal CC O n d).before a0 Z = true ∧ own = O ∧ nm = "<init>")) (wi : (Cond.instantiable CC kk).before a0 Z = true) (hty : parseFieldDescriptor d = some ty) (hn : narrow ty v = v) (hf : fits ty v = true) (ge : n0 ≤ a)
    (k : ∀ T' h', OHr p l e R s m args below meth c Z n0 own nm code maxL ret T' h' ce sl → Wr h h' a (Jvm.RoadKit.slotOf Z O n d) v → OEnds p e below s n0 Q C S T' (mkF m (pc + 3) Ls st)) : OEnds p e below s n0 Q C S T (mkF m pc Ls (v :: .ref a :: st)) := by
  obtain ⟨⟨hx, hZ, hby, hml, hown, hnm, hrt, hlk⟩, locs, X, eT, N, z0⟩ := H
  obtain ⟨T', h', X', e', W, q⟩ := putF X hx hZ hown (host := "") (Or.inl w) Via.refl eT F E (by rcases L with q | ⟨q1, q2, q3⟩; exact Or.inl q; exact Or.inr ⟨q1, q2, hnm.trans q3⟩) wi hty hn hf (g := mkF m pc Ls (v :: .ref a :: st)) rfl rfl (hb hby hd)
  exact go q (k T' h' ⟨⟨hx, hZ, hby, hml, hown, hnm, hrt, hlk⟩, _, X', e', Fr.one N ge, by rw [W.size]; exact z0⟩ W)
theorem getstatic (H : OHr p l e R s m args below meth c Z n0 own nm code maxL ret T h ce sl) {O n d : String} {idx : Nat} {v : Value} (hd : decode code pc = .ok (.getstatic idx, 3)) (w : (Cond.fieldLink own idx O n d).before a0 Z = true) (F : Sta Z h O n d v) (k : ∀ T', OHr p l e R s m args below meth c Z n0 own nm code maxL ret T' h ce sl → OEnds p e below s n0 Q C S T' (mkF m (pc + 3) Ls (v :: st))) : OEnds p e below s n0 Q C S T (mkF m pc Ls st) := by
  obtain ⟨⟨hx, hZ, hby, hml, hown, hnm, hrt, hlk⟩, locs, X, eT, N, z0⟩ := H
  obtain ⟨T', X', e', q⟩ := getS (host := "") X hx hZ hown w Via.refl eT F (g := mkF m pc Ls st) rfl (hb hby hd)
  exact go q (k T' ⟨⟨hx, hZ, hby, hml, hown, hnm, hrt, hlk⟩, locs, X', e', N, z0⟩)
theorem new_ (H : OHr p l e R s m args below meth c Z n0 own nm code maxL ret T h ce sl) {CC : String} {idx n : Nat} (hd : decode code pc = .ok (.new idx, 3)) (w : (Cond.classLink own idx CC).before a0 Z = true) (wi : (Cond.instantiable CC n).before a0 Z = true) (wz : (Cond.initialized CC).before a0 Z = true) (hc : ce + 1 ≤ R.cells) (hl : sl + n ≤ R.slots)
    (k : ∀ T' h' a, a = h.size → n0 ≤ a → OHr p l e R s m args below meth c Z n0 own nm code maxL ret T' h' (ce + 1) (sl + n) → Ext h h' → Exa Z h' a CC → (∀ {O nm d : String} {ty : FieldType}, Laid Z a0 CC O nm d → parseFieldDescriptor d = some ty → Fld Z h' a O nm d (defaultValue ty)) → OEnds p e below s n0 Q C S T' (mkF m (pc + 3) Ls (.ref a :: st))) : OEnds p e below s n0 Q C S T (mkF m pc Ls st) := by
  obtain ⟨⟨hx, hZ, hby, hml, hown, hnm, hrt, hlk⟩, locs, X, eT, N, z0⟩ := H
  obtain ⟨T', h', X', e', E', A', D', -, q⟩ := newO X hx hZ hown w wi wz eT (g := mkF m pc Ls st) rfl (hb hby hd) hc hl
  exact go q (k T' h' _ rfl z0 ⟨⟨hx, hZ, hby, hml, hown, hnm, hrt, hlk⟩, locs, X', e', N, Nat.le_trans z0 E'.1⟩ E' A' D')
theorem newarray (H : OHr p l e R s m args below meth c Z n0 own nm code maxL ret T h ce sl) {aty : ArrayType} {n : Int32} {i : Nat} (cap : Nat) (hd : decode code pc = .ok (.newarray aty, 2)) (w : (Cond.arrayClass (newarray.typeOf aty)).before a0 Z = true) (hn : n.toInt = (i : Int)) (hf : fits (newarray.typeOf aty) (defaultValue (newarray.typeOf aty)) = true) (hcap : i ≤ cap) (hb8 : cap * 8 ≤ 536870912) (hc : ce + 1 ≤ R.cells) (hl : sl + cap ≤ R.slots)
    (k : ∀ T' h' a, a = h.size → n0 ≤ a → OHr p l e R s m args below meth c Z n0 own nm code maxL ret T' h' (ce + 1) (sl + cap) → Ext h h' → OAry Z h' a (newarray.typeOf aty) (List.replicate i (defaultValue (newarray.typeOf aty))) → OEnds p e below s n0 Q C S T' (mkF m (pc + 2) Ls (.ref a :: st))) : OEnds p e below s n0 Q C S T (mkF m pc Ls (.int n :: st)) := by
  obtain ⟨⟨hx, hZ, hby, hml, hown, hnm, hrt, hlk⟩, locs, X, eT, N, z0⟩ := H
  obtain ⟨n1, n2⟩ := nat_idx hn
  obtain ⟨T', h', cA, X', e', E', A', q⟩ := newP X hx hZ w eT (g := mkF m pc Ls (.int n :: st)) rfl (hb hby hd) rfl n2 (cap := cap) (by rw [n1]; exact hcap) hb8 hc hl
  exact go q (k T' h' _ rfl z0 ⟨⟨hx, hZ, hby, hml, hown, hnm, hrt, hlk⟩, locs, X', e', N, Nat.le_trans z0 E'.1⟩ E' (by have := OAry.new A' hf; rw [n1] at this; exact this))
theorem arraylength (H : OHr p l e R s m args below meth c Z n0 own nm code maxL ret T h ce sl) {a : Addr} {ty : FieldType} {vs : List Value} (n : Int32) (hd : decode code pc = .ok (.arraylength, 1)) (A : OAry Z h a ty vs) (hn : n.toInt = (vs.length : Int)) (k : OEnds p e below s n0 Q C S T (mkF m (pc + 1) Ls (.int n :: st))) : OEnds p e below s n0 Q C S T (mkF m pc Ls (.ref a :: st)) := by
  obtain ⟨⟨hx, hZ, hby, hml, hown, hnm, hrt, hlk⟩, locs, X, eT, N, z0⟩ := H
  obtain ⟨c1, A, r1, r2, r3⟩ := A
  have hsz : c1.slots.size = vs.length := by rw [← r1]; simp
  obtain ⟨n1, n2⟩ := nat_idx hn
  have e1 : c1.slots.size.toInt32 = n := by rw [hsz, ← n1]; exact (back32 n2).1
  refine go (fun t q => X.arraylength hx (cell := c1) (by rw [eT]; exact A.1) (State.isArrayOf_alike hZ.alike A.2.1) (g := mkF m pc Ls (.ref a :: st)) rfl rfl (hb hby hd) t q) ?_
  rw [e1]
  exact k
theorem iaload (H : OHr p l e R s m args below meth c Z n0 own nm code maxL ret T h ce sl) {a : Addr} {vs : List Value} {j : Int32} {v : Int32} (i : Nat) (hd : decode code pc = .ok (.iaload, 1)) (A : OAry Z h a .int vs) (hj : j.toInt = (i : Int)) (hv : vs[i]? = some (.int v)) (k : OEnds p e below s n0 Q C S T (mkF m (pc + 1) Ls (.int v :: st))) : OEnds p e below s n0 Q C S T (mkF m pc Ls (.int j :: .ref a :: st)) := by
  obtain ⟨⟨hx, hZ, hby, hml, hown, hnm, hrt, hlk⟩, locs, X, eT, N, z0⟩ := H
  obtain ⟨c1, A, r1, r2, r3⟩ := A
  have hsz : c1.slots.size = vs.length := by rw [← r1]; simp
  obtain ⟨n1, n2⟩ := nat_idx hj
  have hi : i < vs.length := by rcases Nat.lt_or_ge i vs.length with q | q; exact q; rw [List.getElem?_eq_none q] at hv; cases hv
  have hat : c1.slots[j.toNatClampNeg]? = some (.int v) := by rw [n1, ← Array.getElem?_toList, r1]; exact hv
  have hin : ¬ (j < 0 ∨ c1.slots.size ≤ j.toNatClampNeg) := by rw [n1, hsz]; intro q; rcases q with q | q; exact n2 q; omega
  exact go (fun t q => X.iaload hx (by rw [eT]; exact A.1) (State.isArrayOf_alike hZ.alike A.2.1) A.2.2 hin hat (g := mkF m pc Ls (.int j :: .ref a :: st)) rfl rfl (hb hby hd) t q) k
theorem laload (H : OHr p l e R s m args below meth c Z n0 own nm code maxL ret T h ce sl) {a : Addr} {vs : List Value} {j : Int32} {v : Int64} (i : Nat) (hd : decode code pc = .ok (.laload, 1)) (A : OAry Z h a .long vs) (hj : j.toInt = (i : Int)) (hv : vs[i]? = some (.long v)) (k : OEnds p e below s n0 Q C S T (mkF m (pc + 1) Ls (.long v :: st))) : OEnds p e below s n0 Q C S T (mkF m pc Ls (.int j :: .ref a :: st)) := by
  obtain ⟨⟨hx, hZ, hby, hml, hown, hnm, hrt, hlk⟩, locs, X, eT, N, z0⟩ := H
  obtain ⟨c1, A, r1, r2, r3⟩ := A
  have hsz : c1.slots.size = vs.length := by rw [← r1]; simp
  obtain ⟨n1, n2⟩ := nat_idx hj
  have hi : i < vs.length := by rcases Nat.lt_or_ge i vs.length with q | q; exact q; rw [List.getElem?_eq_none q] at hv; cases hv
  have hat : c1.slots[j.toNatClampNeg]? = some (.long v) := by rw [n1, ← Array.getElem?_toList, r1]; exact hv
  have hin : ¬ (j < 0 ∨ c1.slots.size ≤ j.toNatClampNeg) := by rw [n1, hsz]; intro q; rcases q with q | q; exact n2 q; omega
  exact go (fun t q => X.laload hx (by rw [eT]; exact A.1) (State.isArrayOf_alike hZ.alike A.2.1) A.2.2 hin hat (g := mkF m pc Ls (.int j :: .ref a :: st)) rfl rfl (hb hby hd) t q) k
theorem caload (H : OHr p l e R s m args below meth c Z n0 own nm code maxL ret T h ce sl) {a : Addr} {vs : List Value} {j : Int32} {v : Int32} (i : Nat) (hd : decode code pc = .ok (.caload, 1)) (A : OAry Z h a .char vs) (hj : j.toInt = (i : Int)) (hv : vs[i]? = some (.int v)) (k : OEnds p e below s n0 Q C S T (mkF m (pc + 1) Ls (.int v :: st))) : OEnds p e below s n0 Q C S T (mkF m pc Ls (.int j :: .ref a :: st)) := by
  obtain ⟨⟨hx, hZ, hby, hml, hown, hnm, hrt, hlk⟩, locs, X, eT, N, z0⟩ := H
  obtain ⟨c1, A, r1, r2, r3⟩ := A
  have hsz : c1.slots.size = vs.length := by rw [← r1]; simp
  obtain ⟨n1, n2⟩ := nat_idx hj
  have hi : i < vs.length := by rcases Nat.lt_or_ge i vs.length with q | q; exact q; rw [List.getElem?_eq_none q] at hv; cases hv
  have hat : c1.slots[j.toNatClampNeg]? = some (.int v) := by rw [n1, ← Array.getElem?_toList, r1]; exact hv
  have hin : ¬ (j < 0 ∨ c1.slots.size ≤ j.toNatClampNeg) := by rw [n1, hsz]; intro q; rcases q with q | q; exact n2 q; omega
  exact go (fun t q => X.caload hx (by rw [eT]; exact A.1) (State.isArrayOf_alike hZ.alike A.2.1) A.2.2 hin hat (g := mkF m pc Ls (.int j :: .ref a :: st)) rfl rfl (hb hby hd) t q) k
theorem baload (H : OHr p l e R s m args below meth c Z n0 own nm code maxL ret T h ce sl) {a : Addr} {vs : List Value} {j : Int32} {v : Int32} (i : Nat) (hd : decode code pc = .ok (.baload, 1)) (A : OAry Z h a .byte vs) (hj : j.toInt = (i : Int)) (hv : vs[i]? = some (.int v)) (k : OEnds p e below s n0 Q C S T (mkF m (pc + 1) Ls (.int v :: st))) : OEnds p e below s n0 Q C S T (mkF m pc Ls (.int j :: .ref a :: st)) := by
  obtain ⟨⟨hx, hZ, hby, hml, hown, hnm, hrt, hlk⟩, locs, X, eT, N, z0⟩ := H
  obtain ⟨c1, A, r1, r2, r3⟩ := A
  have hsz : c1.slots.size = vs.length := by rw [← r1]; simp
  obtain ⟨n1, n2⟩ := nat_idx hj
  have hi : i < vs.length := by rcases Nat.lt_or_ge i vs.length with q | q; exact q; rw [List.getElem?_eq_none q] at hv; cases hv
  have hat : c1.slots[j.toNatClampNeg]? = some (.int v) := by rw [n1, ← Array.getElem?_toList, r1]; exact hv
  have hin : ¬ (j < 0 ∨ c1.slots.size ≤ j.toNatClampNeg) := by rw [n1, hsz]; intro q; rcases q with q | q; exact n2 q; omega
  exact go (fun t q => X.baloadBytes hx (by rw [eT]; exact A.1) (State.isArrayOf_alike hZ.alike A.2.1) A.2.2 hin hat (g := mkF m pc Ls (.int j :: .ref a :: st)) rfl rfl (hb hby hd) t q) k
theorem aaload (H : OHr p l e R s m args below meth c Z n0 own nm code maxL ret T h ce sl) {a : Addr} {ty : FieldType} {vs : List Value} {j : Int32} {v : Value} (i : Nat) (hd : decode code pc = .ok (.aaload, 1)) (A : OAry Z h a ty vs) (ht : ty.isReference = true) (hj : j.toInt = (i : Int)) (hv : vs[i]? = some v) (k : OEnds p e below s n0 Q C S T (mkF m (pc + 1) Ls (v :: st))) : OEnds p e below s n0 Q C S T (mkF m pc Ls (.int j :: .ref a :: st)) := by
  obtain ⟨⟨hx, hZ, hby, hml, hown, hnm, hrt, hlk⟩, locs, X, eT, N, z0⟩ := H
  obtain ⟨c1, A, r1, r2, r3⟩ := A
  have hsz : c1.slots.size = vs.length := by rw [← r1]; simp
  obtain ⟨n1, n2⟩ := nat_idx hj
  have hi : i < vs.length := by rcases Nat.lt_or_ge i vs.length with q | q; exact q; rw [List.getElem?_eq_none q] at hv; cases hv
  have hat : c1.slots[j.toNatClampNeg]? = some v := by rw [n1, ← Array.getElem?_toList, r1]; exact hv
  have hin : ¬ (j < 0 ∨ c1.slots.size ≤ j.toNatClampNeg) := by rw [n1, hsz]; intro q; rcases q with q | q; exact n2 q; omega
  exact go (fun t q => X.aaload hx (by rw [eT]; exact A.1) (State.isArrayOf_alike hZ.alike A.2.1) ht A.2.2 hin hat (g := mkF m pc Ls (.int j :: .ref a :: st)) rfl rfl (hb hby hd) t q) k
theorem iastore (H : OHr p l e R s m args below meth c Z n0 own nm code maxL ret T h ce sl) {a : Addr} {vs : List Value} {j : Int32} {v : Int32} (i : Nat) (hd : decode code pc = .ok (.iastore, 1)) (A : OAry Z h a .int vs) (ge : n0 ≤ a) (hj : j.toInt = (i : Int)) (hi : i < vs.length) (k : ∀ T' h', OHr p l e R s m args below meth c Z n0 own nm code maxL ret T' h' ce sl → Wr h h' a i (.int v) → OAry Z h' a .int (vs.set i (.int v)) → OEnds p e below s n0 Q C S T' (mkF m (pc + 1) Ls st)) : OEnds p e below s n0 Q C S T (mkF m pc Ls (.int v :: .int j :: .ref a :: st)) := by
  obtain ⟨⟨hx, hZ, hby, hml, hown, hnm, hrt, hlk⟩, locs, X, eT, N, z0⟩ := H
  have A0 := A
  obtain ⟨c1, A, r1, r2, r3⟩ := A
  have hsz : c1.slots.size = vs.length := by rw [← r1]; simp
  obtain ⟨n1, n2⟩ := nat_idx hj
  have hin : ¬ (j < 0 ∨ c1.slots.size ≤ j.toNatClampNeg) := by rw [n1, hsz]; intro q; rcases q with q | q; exact n2 q; omega
  obtain ⟨T', h', X', e', W, q⟩ := stI X hx hZ eT A hin (g := mkF m pc Ls (.int v :: .int j :: .ref a :: st)) rfl rfl (hb hby hd)
  rw [n1] at X' W
  exact go q (k T' h' ⟨⟨hx, hZ, hby, hml, hown, hnm, hrt, hlk⟩, _, X', e', Fr.one N ge, by rw [W.size]; exact z0⟩ W (A0.wr W rfl))
theorem lastore (H : OHr p l e R s m args below meth c Z n0 own nm code maxL ret T h ce sl) {a : Addr} {vs : List Value} {j : Int32} {v : Int64} (i : Nat) (hd : decode code pc = .ok (.lastore, 1)) (A : OAry Z h a .long vs) (ge : n0 ≤ a) (hj : j.toInt = (i : Int)) (hi : i < vs.length) (k : ∀ T' h', OHr p l e R s m args below meth c Z n0 own nm code maxL ret T' h' ce sl → Wr h h' a i (.long v) → OAry Z h' a .long (vs.set i (.long v)) → OEnds p e below s n0 Q C S T' (mkF m (pc + 1) Ls st)) : OEnds p e below s n0 Q C S T (mkF m pc Ls (.long v :: .int j :: .ref a :: st)) := by
  obtain ⟨⟨hx, hZ, hby, hml, hown, hnm, hrt, hlk⟩, locs, X, eT, N, z0⟩ := H
  have A0 := A
  obtain ⟨c1, A, r1, r2, r3⟩ := A
  have hsz : c1.slots.size = vs.length := by rw [← r1]; simp
  obtain ⟨n1, n2⟩ := nat_idx hj
  have hin : ¬ (j < 0 ∨ c1.slots.size ≤ j.toNatClampNeg) := by rw [n1, hsz]; intro q; rcases q with q | q; exact n2 q; omega
  obtain ⟨T', h', X', e', W, q⟩ := stJ X hx hZ eT A hin (g := mkF m pc Ls (.long v :: .int j :: .ref a :: st)) rfl rfl (hb hby hd)
  rw [n1] at X' W
  exact go q (k T' h' ⟨⟨hx, hZ, hby, hml, hown, hnm, hrt, hlk⟩, _, X', e', Fr.one N ge, by rw [W.size]; exact z0⟩ W (A0.wr W rfl))
theorem castore (H : OHr p l e R s m args below meth c Z n0 own nm code maxL ret T h ce sl) {a : Addr} {vs : List Value} {j : Int32} {v : Int32} (i : Nat) (hd : decode code pc = .ok (.castore, 1)) (A : OAry Z h a .char vs) (ge : n0 ≤ a) (hj : j.toInt = (i : Int)) (hi : i < vs.length) (k : ∀ T' h', OHr p l e R s m args below meth c Z n0 own nm code maxL ret T' h' ce sl → Wr h h' a i (.int (nar .char v)) → OAry Z h' a .char (vs.set i (.int (nar .char v))) → OEnds p e below s n0 Q C S T' (mkF m (pc + 1) Ls st)) : OEnds p e below s n0 Q C S T (mkF m pc Ls (.int v :: .int j :: .ref a :: st)) := by
  obtain ⟨⟨hx, hZ, hby, hml, hown, hnm, hrt, hlk⟩, locs, X, eT, N, z0⟩ := H
  have A0 := A
  obtain ⟨c1, A, r1, r2, r3⟩ := A
  have hsz : c1.slots.size = vs.length := by rw [← r1]; simp
  obtain ⟨n1, n2⟩ := nat_idx hj
  have hin : ¬ (j < 0 ∨ c1.slots.size ≤ j.toNatClampNeg) := by rw [n1, hsz]; intro q; rcases q with q | q; exact n2 q; omega
  obtain ⟨T', h', X', e', W, q⟩ := stC X hx hZ eT A hin (g := mkF m pc Ls (.int v :: .int j :: .ref a :: st)) rfl rfl (hb hby hd)
  rw [n1] at X' W
  exact go q (k T' h' ⟨⟨hx, hZ, hby, hml, hown, hnm, hrt, hlk⟩, _, X', e', Fr.one N ge, by rw [W.size]; exact z0⟩ W (A0.wr W (fits_nar_char v)))
theorem bastore (H : OHr p l e R s m args below meth c Z n0 own nm code maxL ret T h ce sl) {a : Addr} {vs : List Value} {j : Int32} {v : Int32} (i : Nat) (hd : decode code pc = .ok (.bastore, 1)) (A : OAry Z h a .byte vs) (ge : n0 ≤ a) (hj : j.toInt = (i : Int)) (hi : i < vs.length) (k : ∀ T' h', OHr p l e R s m args below meth c Z n0 own nm code maxL ret T' h' ce sl → Wr h h' a i (.int (nar .byte v)) → OAry Z h' a .byte (vs.set i (.int (nar .byte v))) → OEnds p e below s n0 Q C S T' (mkF m (pc + 1) Ls st)) : OEnds p e below s n0 Q C S T (mkF m pc Ls (.int v :: .int j :: .ref a :: st)) := by
  obtain ⟨⟨hx, hZ, hby, hml, hown, hnm, hrt, hlk⟩, locs, X, eT, N, z0⟩ := H
  have A0 := A
  obtain ⟨c1, A, r1, r2, r3⟩ := A
  have hsz : c1.slots.size = vs.length := by rw [← r1]; simp
  obtain ⟨n1, n2⟩ := nat_idx hj
  have hin : ¬ (j < 0 ∨ c1.slots.size ≤ j.toNatClampNeg) := by rw [n1, hsz]; intro q; rcases q with q | q; exact n2 q; omega
  obtain ⟨T', h', X', e', W, q⟩ := stB X hx hZ eT A hin (g := mkF m pc Ls (.int v :: .int j :: .ref a :: st)) rfl rfl (hb hby hd)
  rw [n1] at X' W
  exact go q (k T' h' ⟨⟨hx, hZ, hby, hml, hown, hnm, hrt, hlk⟩, _, X', e', Fr.one N ge, by rw [W.size]; exact z0⟩ W (A0.wr W (fits_nar_byte v)))
theorem callS (H : OHr p l e R s m args below meth c Z n0 own nm code maxL ret T h ce sl) {y : MethodName} {idx mxL : Nat} {bytes : ByteArray} {rt : Option FieldType} {rm : Room} {Q' : Option Value → Heap → Prop} {ps : List FieldType} {r : Option FieldType} (argsL rest : List Value) (hd : decode code pc = .ok (.invokestatic idx, 3)) (w1 : (Cond.methodLink own idx y).before a0 Z = true) (w2 : (Cond.static y).before a0 Z = true) (w3 : (Cond.initialized y.cls).before a0 Z = true) (w4 : (Cond.code y bytes mxL rt).before a0 Z = true) (hy : y.cls ≠ "java/lang/invoke/MethodHandle" ∧ y.cls ≠ "java/lang/invoke/VarHandle")
    (M : OMet l Z n0 y bytes mxL rt rm argsL.toArray h Q') (hde : parseMethodDescriptor y.desc = some ⟨ps, r⟩) (hlen : argsL.length = ps.length) (hst : st = argsL.reverse ++ rest) (W : Nat) (hW0 : (rest.map fun v => v.category).sum = W) (hfr : rm.frames + 1 ≤ R.frames) (hW : W + (mxL + 11) + rm.locals ≤ R.locals) (hc : ce + rm.cells ≤ R.cells) (hs : sl + rm.slots ≤ R.slots) (hL : Ls.size = maxL)
    (k : ∀ T' v h', OHr p l e R s m args below meth c Z n0 own nm code maxL ret T' h' (ce + rm.cells) (sl + rm.slots) → h.size ≤ h'.size → Q' v h' → OEnds p e below s n0 Q C S T' (mkF m (pc + 3) Ls (v.toList ++ rest))) : OEnds p e below s n0 Q C S T (mkF m pc Ls st) := by
  obtain ⟨⟨hx, hZ, hby, hml, hown, hnm, hrt, hlk⟩, locs, X, eT, N, z0⟩ := H
  obtain ⟨v, _, ⟨T1, L1, k1, n1⟩, -, X1, ⟨Lc, ⟨f1, hle, hQ1⟩, l1, y1, z1⟩, q⟩ := Jvm.LawKit.callS X hx (y := y) hown (mvT hZ w1) (mvT hZ w2) (mvT hZ w3) (mvT hZ w4) hy (backOf (W := W) (Q := fun v h' L => Fr n0 L ∧ h.size ≤ h'.size ∧ Q' v h') (M []) hZ w4 w3 hfr hW) (g := mkF m pc Ls st) rfl (hL.trans hml.symm) (argsL := argsL) (rest := rest) (lenOf hde hlen) hst (by show 2 * 0 + _ ≤ _; rw [hW0]; omega) (hb hby hd) (fun _ _ => ⟨rfl, eT, hc, hs⟩)
  dsimp only [Pt.U, Pt.locs, Pt.cells, Pt.slots] at X1 l1 y1 z1 q hQ1 hle
  subst l1 y1 z1
  exact go q (k T1 v _ ⟨⟨hx, hZ, hby, hml, hown, hnm, hrt, hlk⟩, _, X1, rfl, Fr.app N f1, Nat.le_trans z0 hle⟩ hle hQ1)
theorem callI (H : OHr p l e R s m args below meth c Z n0 own nm code maxL ret T h ce sl) {y : MethodName} {idx mxL : Nat} {bytes : ByteArray} {rm : Room} {Q' : Option Value → Heap → Prop} {ps : List FieldType} {r : Option FieldType} (a : Addr) (argsL rest : List Value) (hd : decode code pc = .ok (.invokespecial idx, 3)) (hy1 : y.name = "<init>") (w1 : (Cond.methodLink own idx y).before a0 Z = true) (w2 : (Cond.instanceMethod y).before a0 Z = true) (w3 : (Cond.initialized y.cls).before a0 Z = true) (w4 : (Cond.code y bytes mxL none).before a0 Z = true) (hy : y.cls ≠ "java/lang/invoke/MethodHandle" ∧ y.cls ≠ "java/lang/invoke/VarHandle")
    (M : OMet l Z n0 y bytes mxL none rm (.ref a :: argsL).toArray h Q') (hde : parseMethodDescriptor y.desc = some ⟨ps, r⟩) (hlen : argsL.length = ps.length) (hst : st = argsL.reverse ++ .ref a :: rest) (W : Nat) (hW0 : (rest.map fun v => v.category).sum = W) (hfr : rm.frames + 1 ≤ R.frames) (hW : W + (mxL + 11) + rm.locals ≤ R.locals) (hc : ce + rm.cells ≤ R.cells) (hs : sl + rm.slots ≤ R.slots) (hL : Ls.size = maxL)
    (k : ∀ T' v h', OHr p l e R s m args below meth c Z n0 own nm code maxL ret T' h' (ce + rm.cells) (sl + rm.slots) → h.size ≤ h'.size → Q' v h' → OEnds p e below s n0 Q C S T' (mkF m (pc + 3) Ls (v.toList ++ rest))) : OEnds p e below s n0 Q C S T (mkF m pc Ls st) := by
  obtain ⟨⟨hx, hZ, hby, hml, hown, hnm, hrt, hlk⟩, locs, X, eT, N, z0⟩ := H
  obtain ⟨v, _, ⟨T1, L1, k1, n1⟩, -, X1, ⟨Lc, ⟨f1, hle, hQ1⟩, l1, y1, z1⟩, q⟩ := X.specialBack hx (y := y) hy1 hown (mvT hZ w1) (mvT hZ w2) (mvT hZ w4) hy (backOf (W := W) (Q := fun v h' L => Fr n0 L ∧ h.size ≤ h'.size ∧ Q' v h') (M []) hZ w4 w3 hfr hW) (g := mkF m pc Ls st) rfl (hL.trans hml.symm) (Steps.refl _) (a := a) (argsL := argsL) (rest := rest) (lenOf hde hlen) hst (by show 2 * 0 + _ ≤ _; rw [hW0]; omega) (hb hby hd) (fun _ _ => ⟨rfl, eT, hc, hs⟩)
  dsimp only [Pt.U, Pt.locs, Pt.cells, Pt.slots] at X1 l1 y1 z1 q hQ1 hle
  subst l1 y1 z1
  exact go1 q (k T1 v _ ⟨⟨hx, hZ, hby, hml, hown, hnm, hrt, hlk⟩, _, X1, rfl, Fr.app N f1, Nat.le_trans z0 hle⟩ hle hQ1)
theorem callV (H : OHr p l e R s m args below meth c Z n0 own nm code maxL ret T h ce sl) {y z : MethodName} {CC : String} {idx mxL : Nat} {bytes : ByteArray} {rt : Option FieldType} {rm : Room} {Q' : Option Value → Heap → Prop} {ps : List FieldType} {r : Option FieldType} (a : Addr) (argsL rest : List Value) (hd : decode code pc = .ok (.invokevirtual idx, 3)) (w1 : (Cond.methodLink own idx y).before a0 Z = true) (w2 : (Cond.declares y).before a0 Z = true) (nf : NotFace s y) (w5 : (Cond.selects CC y z).before a0 Z = true) (w6 : (Cond.instanceMethod z).before a0 Z = true) (w3 : (Cond.initialized z.cls).before a0 Z = true) (w4 : (Cond.code z bytes mxL rt).before a0 Z = true) (hy : y.cls ≠ "java/lang/invoke/MethodHandle" ∧ y.cls ≠ "java/lang/invoke/VarHandle") (E : Exa Z h a CC)
    (M : OMet l Z n0 z bytes mxL rt rm (.ref a :: argsL).toArray h Q') (hde : parseMethodDescriptor y.desc = some ⟨ps, r⟩) (hlen : argsL.length = ps.length) (hst : st = argsL.reverse ++ .ref a :: rest) (W : Nat) (hW0 : (rest.map fun v => v.category).sum = W) (hfr : rm.frames + 1 ≤ R.frames) (hW : W + (mxL + 11) + rm.locals ≤ R.locals) (hc : ce + rm.cells ≤ R.cells) (hs : sl + rm.slots ≤ R.slots) (hL : Ls.size = maxL)
    (k : ∀ T' v h', OHr p l e R s m args below meth c Z n0 own nm code maxL ret T' h' (ce + rm.cells) (sl + rm.slots) → h.size ≤ h'.size → Q' v h' → OEnds p e below s n0 Q C S T' (mkF m (pc + 3) Ls (v.toList ++ rest))) : OEnds p e below s n0 Q C S T (mkF m pc Ls st) := by
  obtain ⟨⟨hx, hZ, hby, hml, hown, hnm, hrt, hlk⟩, locs, X, eT, N, z0⟩ := H
  obtain ⟨cq, kq, qa, qb, qc⟩ := isOf hZ eT E
  obtain ⟨v, _, ⟨T1, L1, k1, n1⟩, -, X1, ⟨Lc, ⟨f1, hle, hQ1⟩, l1, y1, z1⟩, q⟩ := X.virtualBack hx (y := y) (z := z) hown (mvT hZ w1) (mvT hZ w2) nf (mvT hZ w5) (mvT hZ w6) hy (backOf (W := W) (Q := fun v h' L => Fr n0 L ∧ h.size ≤ h'.size ∧ Q' v h') (M []) hZ w4 w3 hfr hW) qa qc (g := mkF m pc Ls st) rfl (hL.trans hml.symm) (Steps.refl _) (argsL := argsL) (rest := rest) (lenOf hde hlen) hst (by show 2 * 0 + _ ≤ _; rw [hW0]; omega) (hb hby hd) (fun _ _ => ⟨rfl, eT, hc, hs⟩)
  dsimp only [Pt.U, Pt.locs, Pt.cells, Pt.slots] at X1 l1 y1 z1 q hQ1 hle
  subst l1 y1 z1
  exact go1 q (k T1 v _ ⟨⟨hx, hZ, hby, hml, hown, hnm, hrt, hlk⟩, _, X1, rfl, Fr.app N f1, Nat.le_trans z0 hle⟩ hle hQ1)
theorem callO (H : OHr p l e R s m args below meth c Z n0 own nm code maxL ret T h ce sl) {idx : Nat} {a : Addr} (hd : decode code pc = .ok (.invokespecial idx, 3)) (w1 : (Cond.methodLink own idx Lib.objectInit).before a0 Z = true) (w2 : (Cond.instanceMethod Lib.objectInit).before a0 Z = true) (w3 : (Cond.code Lib.objectInit ⟨#[0xb1]⟩ 1 none).before a0 Z = true) (W : Nat) (hW0 : (st.map fun v => v.category).sum = W) (hfr : 1 ≤ R.frames) (hW : W + 12 ≤ R.locals) (hL : Ls.size = maxL) (k : ∀ T', OHr p l e R s m args below meth c Z n0 own nm code maxL ret T' h ce sl → OEnds p e below s n0 Q C S T' (mkF m (pc + 3) Ls st)) : OEnds p e below s n0 Q C S T (mkF m pc Ls (.ref a :: st)) := by
  obtain ⟨⟨hx, hZ, hby, hml, hown, hnm, hrt, hlk⟩, locs, X, eT, N, z0⟩ := H
  obtain ⟨T', X', e', q⟩ := initO X hx hZ hown w1 w2 w3 eT (g := mkF m pc Ls (.ref a :: st)) rfl (hL.trans hml.symm) rfl (hb hby hd) hfr (W := W) (by show 2 * 0 + _ ≤ _; rw [hW0]; omega) hW
  exact go q (k T' ⟨⟨hx, hZ, hby, hml, hown, hnm, hrt, hlk⟩, locs, X', e', N, z0⟩)
theorem OHr.nf (H : OHr p l e R s m args below meth c Z n0 own nm code maxL ret T h ce sl) {y : MethodName} {CC : String} (w : (Cond.selects CC y y).before a0 Z = true) : NotFace s y := by
  obtain ⟨⟨hx, hZ, hby, hml, hown, hnm, hrt, hlk⟩, locs, X, eT, N, z0⟩ := H
  exact notFace_of_selects (args := #[]) (mvT hZ w)
theorem clone_ (H : OHr p l e R s m args below meth c Z n0 own nm code maxL ret T h ce sl) {ad : String} {idx : Nat} {a : Addr} {ty : FieldType} {vs : List Value} (cap : Nat) (hd : decode code pc = .ok (.invokevirtual idx, 3)) (w1 : (Cond.methodLink own idx ⟨ad, "clone", "()Ljava/lang/Object;"⟩).before a0 Z = true) (w2 : (Cond.sameMethod ad "java/lang/Object" "clone" "()Ljava/lang/Object;").before a0 Z = true) (w3 : (Cond.native ⟨"java/lang/Object", "clone", "()Ljava/lang/Object;"⟩).before a0 Z = true)
    (w4 : (Cond.instanceMethod ⟨"java/lang/Object", "clone", "()Ljava/lang/Object;"⟩).before a0 Z = true) (w5 : (Cond.selects ad ⟨ad, "clone", "()Ljava/lang/Object;"⟩ ⟨"java/lang/Object", "clone", "()Ljava/lang/Object;"⟩).before a0 Z = true) (w6 : (Cond.castable ad "java/lang/Cloneable").before a0 Z = true) (A : OAry Z h a ty vs) (E : Exa Z h a ad) (W : Nat) (hW0 : (st.map fun v => v.category).sum = W) (hfr : 1 ≤ R.frames) (hW : W + 14 ≤ R.locals) (hcap : vs.length ≤ cap) (hc : ce + 1 ≤ R.cells) (hs : sl + cap ≤ R.slots) (hL : Ls.size = maxL)
    (k : ∀ T' h' b, b = h.size → n0 ≤ b → OHr p l e R s m args below meth c Z n0 own nm code maxL ret T' h' (ce + 1) (sl + cap) → Ext h h' → OAry Z h' b ty vs → Exa Z h' b ad → OEnds p e below s n0 Q C S T' (mkF m (pc + 3) Ls (.ref b :: st))) : OEnds p e below s n0 Q C S T (mkF m pc Ls (.ref a :: st)) := by
  obtain ⟨⟨hx, hZ, hby, hml, hown, hnm, hrt, hlk⟩, locs, X, eT, N, z0⟩ := H
  obtain ⟨c1, A, r1, r2, r3⟩ := A
  have hsz : c1.slots.size = vs.length := by rw [← r1]; simp
  have hF : FitC Z c1 := fitC_of A (fun i hi v hv => r3 v (by rw [← r1]; rw [← Array.getElem?_toList] at hv; exact List.mem_of_getElem? hv))
  obtain ⟨T', h', X', e', E', A', B', q⟩ := cloneA X hx hZ hown w1 w2 w3 w4 w5 w6 eT A E hF (g := mkF m pc Ls (.ref a :: st)) rfl (hL.trans hml.symm) rfl (hb hby hd) hfr (W := W) (by show 2 * 0 + _ ≤ _; rw [hW0]; omega) hW (cap := cap) (by rw [hsz]; exact hcap) hc hs
  exact go q (k T' h' _ rfl z0 ⟨⟨hx, hZ, hby, hml, hown, hnm, hrt, hlk⟩, locs, X', e', N, Nat.le_trans z0 E'.1⟩ E' ⟨_, A', r1, r2, r3⟩ B')
theorem checkcast (H : OHr p l e R s m args below meth c Z n0 own nm code maxL ret T h ce sl) {KK : String} {idx : Nat} {a : Addr} (hd : decode code pc = .ok (.checkcast idx, 3)) (w : (Cond.classLink own idx KK).before a0 Z = true) (F : Ins Z h a KK true) (k : ∀ T', OHr p l e R s m args below meth c Z n0 own nm code maxL ret T' h ce sl → OEnds p e below s n0 Q C S T' (mkF m (pc + 3) Ls (.ref a :: st))) : OEnds p e below s n0 Q C S T (mkF m pc Ls (.ref a :: st)) := by
  obtain ⟨⟨hx, hZ, hby, hml, hown, hnm, hrt, hlk⟩, locs, X, eT, N, z0⟩ := H
  obtain ⟨T', X', e', q⟩ := castY X hx hZ hown w eT F (g := mkF m pc Ls (.ref a :: st)) rfl rfl (hb hby hd)
  exact go q (k T' ⟨⟨hx, hZ, hby, hml, hown, hnm, hrt, hlk⟩, locs, X', e', N, z0⟩)
end Go
end Jvm.Own
namespace Jvm.Pilot.@@N@@
open Jvm Jvm.ClassFile Sem Op Lib Jvm.Free Jvm.Stand Jvm.LawKit Jvm.RoadKit Bundle Jvm.Pilot.@@N@@.Jvm.D
open Jvm.Own (OHr OEnds OMet OAry)

theorem own_rem (x d : Int32) (hd : 0 < d.toInt) : 0 ≤ ((x &&& 2147483647) % d).toInt ∧ ((x &&& 2147483647) % d).toInt < d.toInt := by
  have h0 : 0 ≤ (x &&& 2147483647).toInt := (c_and x 2147483647 (by decide)).1
  have h1 := (c_iremV (x &&& 2147483647) d).1 h0 hd
  exact ⟨h1.1, h1.2.1⟩
theorem own_ne {x y : Int32} (h : x.toInt ≠ y.toInt) : ¬ x = y := fun e => h (by rw [e])
theorem own_eq {x y : Int32} (h : x.toInt = y.toInt) : x = y := Int32.toInt_inj.mp h
theorem own_lt {x y : Int32} : x < y ↔ x.toInt < y.toInt := Int32.lt_iff_toInt_lt


theorem own_map {cs : List Int32} {i : Nat} (h : i < cs.length) : (cs.map Value.int)[i]? = some (.int (cs.getD i 0)) := by
  simp [List.getElem?_map, List.getD_eq_getElem?_getD, List.getElem?_eq_getElem h]
theorem own_fill {L : List Value} {d v : Value} {i : Nat} (h : L[i]? = some v) : (L.take i ++ List.replicate (L.length - i) d).set i v = L.take (i + 1) ++ List.replicate (L.length - (i + 1)) d := by
  have hi : i < L.length := by rcases Nat.lt_or_ge i L.length with q | q; exact q; rw [List.getElem?_eq_none q] at h; cases h
  have e : L.length - i = (L.length - (i + 1)) + 1 := by omega
  rw [e, List.replicate_succ, List.set_append_right _ _ (by simp; omega)]
  have e2 : i - (L.take i).length = 0 := by simp; omega
  rw [e2, List.set_cons_zero, List.take_add_one, h]
  simp
theorem own_ofNat {i : Nat} (h : i < 2147483648) : (Int32.ofNat i).toInt = (i : Int) := Int32.toInt_ofNat_of_lt h
theorem own_one (i : Nat) : Int32.ofNat i + (1 : Int32) = Int32.ofNat (i + 1) := (Int32.ofNat_add i 1).symm


theorem own_a1 (x : Int32) : ((x - 0) - 1) + 1 = x := by
  have a1 := c_isub x 0
  have a2 := c_isub (x - 0) 1
  have a3 := c_iadd ((x - 0) - 1) 1
  have r1 := rng32 x
  have r2 := rng32 (((x - 0) - 1) + 1)
  have e0 : (0 : Int32).toInt = 0 := rfl
  have e1 : (1 : Int32).toInt = 1 := rfl
  apply own_eq
  omega
theorem own_a2 (x : Int32) : (x - (-1)) - 1 = x := by
  have a1 := c_isub x (-1)
  have a2 := c_isub (x - (-1)) 1
  have r1 := rng32 x
  have r2 := rng32 ((x - (-1)) - 1)
  have e0 : (-1 : Int32).toInt = -1 := rfl
  have e1 : (1 : Int32).toInt = 1 := rfl
  apply own_eq
  omega
theorem own_a3 (x y : Int32) : (x + ((y - x) - 1)) + 1 = y := by
  have a1 := c_isub y x
  have a2 := c_isub (y - x) 1
  have a3 := c_iadd x ((y - x) - 1)
  have a4 := c_iadd (x + ((y - x) - 1)) 1
  have r1 := rng32 y
  have r2 := rng32 ((x + ((y - x) - 1)) + 1)
  have e1 : (1 : Int32).toInt = 1 := rfl
  apply own_eq
  omega

theorem d1_0 : decode prog_78_method_3_code 0 = .ok (.iconst 0, 1) := by decide +kernel
theorem d1_1 : decode prog_78_method_3_code 1 = .ok (.istore 7, 2) := by decide +kernel
theorem d1_3 : decode prog_78_method_3_code 3 = .ok (.iconst 0, 1) := by decide +kernel
theorem d1_4 : decode prog_78_method_3_code 4 = .ok (.istore 8, 2) := by decide +kernel
theorem d1_6 : decode prog_78_method_3_code 6 = .ok (.iload 8, 2) := by decide +kernel
theorem d1_8 : decode prog_78_method_3_code 8 = .ok (.iload_n 3, 1) := by decide +kernel
theorem d1_9 : decode prog_78_method_3_code 9 = .ok (.if_icmp .gt 116, 3) := by decide +kernel
theorem d1_12 : decode prog_78_method_3_code 12 = .ok (.aload 4, 2) := by decide +kernel
theorem d1_14 : decode prog_78_method_3_code 14 = .ok (.iload 8, 2) := by decide +kernel
theorem d1_16 : decode prog_78_method_3_code 16 = .ok (.aload_n 2, 1) := by decide +kernel
theorem d1_17 : decode prog_78_method_3_code 17 = .ok (.iload 8, 2) := by decide +kernel
theorem d1_19 : decode prog_78_method_3_code 19 = .ok (.iaload, 1) := by decide +kernel
theorem d1_20 : decode prog_78_method_3_code 20 = .ok (.iload 7, 2) := by decide +kernel
theorem d1_22 : decode prog_78_method_3_code 22 = .ok (.isub, 1) := by decide +kernel
theorem d1_23 : decode prog_78_method_3_code 23 = .ok (.iconst 1, 1) := by decide +kernel
theorem d1_24 : decode prog_78_method_3_code 24 = .ok (.isub, 1) := by decide +kernel
theorem d1_25 : decode prog_78_method_3_code 25 = .ok (.iastore, 1) := by decide +kernel
theorem d1_26 : decode prog_78_method_3_code 26 = .ok (.iload 7, 2) := by decide +kernel
theorem d1_28 : decode prog_78_method_3_code 28 = .ok (.istore 9, 2) := by decide +kernel
theorem d1_30 : decode prog_78_method_3_code 30 = .ok (.iload 9, 2) := by decide +kernel
theorem d1_32 : decode prog_78_method_3_code 32 = .ok (.aload_n 2, 1) := by decide +kernel
theorem d1_33 : decode prog_78_method_3_code 33 = .ok (.iload 8, 2) := by decide +kernel
theorem d1_35 : decode prog_78_method_3_code 35 = .ok (.iaload, 1) := by decide +kernel
theorem d1_36 : decode prog_78_method_3_code 36 = .ok (.if_icmp .ge 77, 3) := by decide +kernel
theorem d1_39 : decode prog_78_method_3_code 39 = .ok (.iload 9, 2) := by decide +kernel
theorem d1_41 : decode prog_78_method_3_code 41 = .ok (.iload 7, 2) := by decide +kernel
theorem d1_43 : decode prog_78_method_3_code 43 = .ok (.if_icmp .ne 7, 3) := by decide +kernel
theorem d1_46 : decode prog_78_method_3_code 46 = .ok (.iconst 1, 1) := by decide +kernel
theorem d1_47 : decode prog_78_method_3_code 47 = .ok (.goto 4, 3) := by decide +kernel
theorem d1_50 : decode prog_78_method_3_code 50 = .ok (.iconst 0, 1) := by decide +kernel
theorem d1_51 : decode prog_78_method_3_code 51 = .ok (.istore 10, 2) := by decide +kernel
theorem d1_53 : decode prog_78_method_3_code 53 = .ok (.aload 5, 2) := by decide +kernel
theorem d1_55 : decode prog_78_method_3_code 55 = .ok (.iload 9, 2) := by decide +kernel
theorem d1_57 : decode prog_78_method_3_code 57 = .ok (.aload_n 0, 1) := by decide +kernel
theorem d1_58 : decode prog_78_method_3_code 58 = .ok (.iload 9, 2) := by decide +kernel
theorem d1_60 : decode prog_78_method_3_code 60 = .ok (.iaload, 1) := by decide +kernel
theorem d1_61 : decode prog_78_method_3_code 61 = .ok (.iload 10, 2) := by decide +kernel
theorem d1_63 : decode prog_78_method_3_code 63 = .ok (.ifCond .eq 7, 3) := by decide +kernel
theorem d1_66 : decode prog_78_method_3_code 66 = .ok (.iconst 0, 1) := by decide +kernel
theorem d1_67 : decode prog_78_method_3_code 67 = .ok (.goto 9, 3) := by decide +kernel
theorem d1_70 : decode prog_78_method_3_code 70 = .ok (.aload_n 0, 1) := by decide +kernel
theorem d1_71 : decode prog_78_method_3_code 71 = .ok (.iload 9, 2) := by decide +kernel
theorem d1_73 : decode prog_78_method_3_code 73 = .ok (.iconst 1, 1) := by decide +kernel
theorem d1_74 : decode prog_78_method_3_code 74 = .ok (.isub, 1) := by decide +kernel
theorem d1_75 : decode prog_78_method_3_code 75 = .ok (.iaload, 1) := by decide +kernel
theorem d1_76 : decode prog_78_method_3_code 76 = .ok (.isub, 1) := by decide +kernel
theorem d1_77 : decode prog_78_method_3_code 77 = .ok (.iconst 1, 1) := by decide +kernel
theorem d1_78 : decode prog_78_method_3_code 78 = .ok (.isub, 1) := by decide +kernel
theorem d1_79 : decode prog_78_method_3_code 79 = .ok (.iastore, 1) := by decide +kernel
theorem d1_80 : decode prog_78_method_3_code 80 = .ok (.aload 6, 2) := by decide +kernel
theorem d1_82 : decode prog_78_method_3_code 82 = .ok (.iload 9, 2) := by decide +kernel
theorem d1_84 : decode prog_78_method_3_code 84 = .ok (.aload_n 1, 1) := by decide +kernel
theorem d1_85 : decode prog_78_method_3_code 85 = .ok (.iload 9, 2) := by decide +kernel
theorem d1_87 : decode prog_78_method_3_code 87 = .ok (.iaload, 1) := by decide +kernel
theorem d1_88 : decode prog_78_method_3_code 88 = .ok (.iload 10, 2) := by decide +kernel
theorem d1_90 : decode prog_78_method_3_code 90 = .ok (.ifCond .eq 7, 3) := by decide +kernel
theorem d1_93 : decode prog_78_method_3_code 93 = .ok (.iconst (-1), 1) := by decide +kernel
theorem d1_94 : decode prog_78_method_3_code 94 = .ok (.goto 9, 3) := by decide +kernel
theorem d1_97 : decode prog_78_method_3_code 97 = .ok (.aload_n 1, 1) := by decide +kernel
theorem d1_98 : decode prog_78_method_3_code 98 = .ok (.iload 9, 2) := by decide +kernel
theorem d1_100 : decode prog_78_method_3_code 100 = .ok (.iconst 1, 1) := by decide +kernel
theorem d1_101 : decode prog_78_method_3_code 101 = .ok (.isub, 1) := by decide +kernel
theorem d1_102 : decode prog_78_method_3_code 102 = .ok (.iaload, 1) := by decide +kernel
theorem d1_103 : decode prog_78_method_3_code 103 = .ok (.isub, 1) := by decide +kernel
theorem d1_104 : decode prog_78_method_3_code 104 = .ok (.iconst 1, 1) := by decide +kernel
theorem d1_105 : decode prog_78_method_3_code 105 = .ok (.isub, 1) := by decide +kernel
theorem d1_106 : decode prog_78_method_3_code 106 = .ok (.iastore, 1) := by decide +kernel
theorem d1_107 : decode prog_78_method_3_code 107 = .ok (.iinc 9 1, 3) := by decide +kernel
theorem d1_110 : decode prog_78_method_3_code 110 = .ok (.goto (-80), 3) := by decide +kernel
theorem d1_113 : decode prog_78_method_3_code 113 = .ok (.aload_n 2, 1) := by decide +kernel
theorem d1_114 : decode prog_78_method_3_code 114 = .ok (.iload 8, 2) := by decide +kernel
theorem d1_116 : decode prog_78_method_3_code 116 = .ok (.iaload, 1) := by decide +kernel
theorem d1_117 : decode prog_78_method_3_code 117 = .ok (.istore 7, 2) := by decide +kernel
theorem d1_119 : decode prog_78_method_3_code 119 = .ok (.iinc 8 1, 3) := by decide +kernel
theorem d1_122 : decode prog_78_method_3_code 122 = .ok (.goto (-116), 3) := by decide +kernel
theorem d1_125 : decode prog_78_method_3_code 125 = .ok (.return_, 1) := by decide +kernel
theorem d2_0 : decode method_2_code 0 = .ok (.aload_n 0, 1) := by decide +kernel
theorem d2_1 : decode method_2_code 1 = .ok (.iload 4, 2) := by decide +kernel
theorem d2_3 : decode method_2_code 3 = .ok (.iaload, 1) := by decide +kernel
theorem d2_4 : decode method_2_code 4 = .ok (.iconst 1, 1) := by decide +kernel
theorem d2_5 : decode method_2_code 5 = .ok (.iadd, 1) := by decide +kernel
theorem d2_6 : decode method_2_code 6 = .ok (.aload_n 2, 1) := by decide +kernel
theorem d2_7 : decode method_2_code 7 = .ok (.iload 4, 2) := by decide +kernel
theorem d2_9 : decode method_2_code 9 = .ok (.iaload, 1) := by decide +kernel
theorem d2_10 : decode method_2_code 10 = .ok (.if_icmp .ne 18, 3) := by decide +kernel
theorem d2_13 : decode method_2_code 13 = .ok (.aload_n 1, 1) := by decide +kernel
theorem d2_14 : decode method_2_code 14 = .ok (.iload 4, 2) := by decide +kernel
theorem d2_16 : decode method_2_code 16 = .ok (.iaload, 1) := by decide +kernel
theorem d2_17 : decode method_2_code 17 = .ok (.aload_n 3, 1) := by decide +kernel
theorem d2_18 : decode method_2_code 18 = .ok (.iload 4, 2) := by decide +kernel
theorem d2_20 : decode method_2_code 20 = .ok (.iaload, 1) := by decide +kernel
theorem d2_21 : decode method_2_code 21 = .ok (.if_icmp .ne 7, 3) := by decide +kernel
theorem d2_24 : decode method_2_code 24 = .ok (.iconst 1, 1) := by decide +kernel
theorem d2_25 : decode method_2_code 25 = .ok (.goto 4, 3) := by decide +kernel
theorem d2_28 : decode method_2_code 28 = .ok (.iconst 0, 1) := by decide +kernel
theorem d2_29 : decode method_2_code 29 = .ok (.istore 6, 2) := by decide +kernel
theorem d2_31 : decode method_2_code 31 = .ok (.iload 5, 2) := by decide +kernel
theorem d2_33 : decode method_2_code 33 = .ok (.iconst 2, 1) := by decide +kernel
theorem d2_34 : decode method_2_code 34 = .ok (.if_icmp .ne 59, 3) := by decide +kernel
theorem d2_37 : decode method_2_code 37 = .ok (.iload 6, 2) := by decide +kernel
theorem d2_39 : decode method_2_code 39 = .ok (.ifCond .eq 51, 3) := by decide +kernel
theorem d2_42 : decode method_2_code 42 = .ok (.aload_n 2, 1) := by decide +kernel
theorem d2_43 : decode method_2_code 43 = .ok (.iload 4, 2) := by decide +kernel
theorem d2_45 : decode method_2_code 45 = .ok (.iaload, 1) := by decide +kernel
theorem d2_46 : decode method_2_code 46 = .ok (.aload_n 0, 1) := by decide +kernel
theorem d2_47 : decode method_2_code 47 = .ok (.iload 4, 2) := by decide +kernel
theorem d2_49 : decode method_2_code 49 = .ok (.iconst 1, 1) := by decide +kernel
theorem d2_50 : decode method_2_code 50 = .ok (.iadd, 1) := by decide +kernel
theorem d2_51 : decode method_2_code 51 = .ok (.iaload, 1) := by decide +kernel
theorem d2_52 : decode method_2_code 52 = .ok (.iadd, 1) := by decide +kernel
theorem d2_53 : decode method_2_code 53 = .ok (.iconst 1, 1) := by decide +kernel
theorem d2_54 : decode method_2_code 54 = .ok (.iadd, 1) := by decide +kernel
theorem d2_55 : decode method_2_code 55 = .ok (.aload_n 2, 1) := by decide +kernel
theorem d2_56 : decode method_2_code 56 = .ok (.iload 4, 2) := by decide +kernel
theorem d2_58 : decode method_2_code 58 = .ok (.iconst 1, 1) := by decide +kernel
theorem d2_59 : decode method_2_code 59 = .ok (.iadd, 1) := by decide +kernel
theorem d2_60 : decode method_2_code 60 = .ok (.iaload, 1) := by decide +kernel
theorem d2_61 : decode method_2_code 61 = .ok (.if_icmp .ne 29, 3) := by decide +kernel
theorem d2_64 : decode method_2_code 64 = .ok (.aload_n 3, 1) := by decide +kernel
theorem d2_65 : decode method_2_code 65 = .ok (.iload 4, 2) := by decide +kernel
theorem d2_67 : decode method_2_code 67 = .ok (.iaload, 1) := by decide +kernel
theorem d2_68 : decode method_2_code 68 = .ok (.aload_n 1, 1) := by decide +kernel
theorem d2_69 : decode method_2_code 69 = .ok (.iload 4, 2) := by decide +kernel
theorem d2_71 : decode method_2_code 71 = .ok (.iconst 1, 1) := by decide +kernel
theorem d2_72 : decode method_2_code 72 = .ok (.iadd, 1) := by decide +kernel
theorem d2_73 : decode method_2_code 73 = .ok (.iaload, 1) := by decide +kernel
theorem d2_74 : decode method_2_code 74 = .ok (.iadd, 1) := by decide +kernel
theorem d2_75 : decode method_2_code 75 = .ok (.iconst 1, 1) := by decide +kernel
theorem d2_76 : decode method_2_code 76 = .ok (.iadd, 1) := by decide +kernel
theorem d2_77 : decode method_2_code 77 = .ok (.aload_n 3, 1) := by decide +kernel
theorem d2_78 : decode method_2_code 78 = .ok (.iload 4, 2) := by decide +kernel
theorem d2_80 : decode method_2_code 80 = .ok (.iconst 1, 1) := by decide +kernel
theorem d2_81 : decode method_2_code 81 = .ok (.iadd, 1) := by decide +kernel
theorem d2_82 : decode method_2_code 82 = .ok (.iaload, 1) := by decide +kernel
theorem d2_83 : decode method_2_code 83 = .ok (.if_icmp .ne 7, 3) := by decide +kernel
theorem d2_86 : decode method_2_code 86 = .ok (.iconst 1, 1) := by decide +kernel
theorem d2_87 : decode method_2_code 87 = .ok (.goto 4, 3) := by decide +kernel
theorem d2_90 : decode method_2_code 90 = .ok (.iconst 0, 1) := by decide +kernel
theorem d2_91 : decode method_2_code 91 = .ok (.istore 6, 2) := by decide +kernel
theorem d2_93 : decode method_2_code 93 = .ok (.iload 6, 2) := by decide +kernel
theorem d2_95 : decode method_2_code 95 = .ok (.ireturn, 1) := by decide +kernel
theorem d3_0 : decode method_3_code 0 = .ok (.iload_n 1, 1) := by decide +kernel
theorem d3_1 : decode method_3_code 1 = .ok (.iload_n 2, 1) := by decide +kernel
theorem d3_2 : decode method_3_code 2 = .ok (.if_icmp .lt 10, 3) := by decide +kernel
theorem d3_5 : decode method_3_code 5 = .ok (.aload_n 0, 1) := by decide +kernel
theorem d3_6 : decode method_3_code 6 = .ok (.iload_n 1, 1) := by decide +kernel
theorem d3_7 : decode method_3_code 7 = .ok (.iaload, 1) := by decide +kernel
theorem d3_8 : decode method_3_code 8 = .ok (.iload_n 3, 1) := by decide +kernel
theorem d3_9 : decode method_3_code 9 = .ok (.if_icmp .ne 7, 3) := by decide +kernel
theorem d3_12 : decode method_3_code 12 = .ok (.iconst 1, 1) := by decide +kernel
theorem d3_13 : decode method_3_code 13 = .ok (.goto 4, 3) := by decide +kernel
theorem d3_16 : decode method_3_code 16 = .ok (.iconst 0, 1) := by decide +kernel
theorem d3_17 : decode method_3_code 17 = .ok (.ireturn, 1) := by decide +kernel
theorem pn_rm_lay011 : plainFor (⟨"termstone/postings/Impacts", "lay", "([I[I[II[I[I[I)V"⟩ : MethodName) = true := by first | exact plainFor_of_name (by first | (simp [plainName, overriddenIn]; done) | decide +kernel) | decide +kernel
theorem ef_rm_lay011 (af : Nat) (al : Nat) (ae : Nat) (bk : Int32) (ac : Nat) (ar : Nat) (as_ : Nat) (m : MethodId) : entryFrame m #[(.ref af), (.ref al), (.ref ae), (.int bk), (.ref ac), (.ref ar), (.ref as_)] 11 = mkF m 0 #[.val (.ref af), .val (.ref al), .val (.ref ae), .val (.int bk), .val (.ref ac), .val (.ref ar), .val (.ref as_), .unset, .unset, .unset, .unset] [] := by first | (simp [entryFrame, mkF, argsToLocals, Value.category]; done) | rfl
set_option maxRecDepth 65536 in
set_option maxHeartbeats 40000000 in
theorem rm_lay011 (l : Launch) (Z : State) (a0 : Array Value) (hw : ∀ d ∈ tables_1, d.before a0 Z = true) (af : Nat) (al : Nat) (ae : Nat) (bk : Int32) (ac : Nat) (ar : Nat) (as_ : Nat) (h0 : Heap) (n0 : Nat) (Z0 : n0 ≤ h0.size) (f0 f1 f2 f3 l0 l1 l2 l3 sv : Int32) (A0 : OAry Z h0 af .int [(.int f0), (.int f1), (.int f2), (.int f3)]) (A1 : OAry Z h0 al .int [(.int l0), (.int l1), (.int l2), (.int l3)]) (A2 : OAry Z h0 ae .int [(.int (1 : Int32)), (.int (2 : Int32))]) (A3 : OAry Z h0 ac .int [(.int sv), (.int sv), (.int sv)]) (A4 : OAry Z h0 ar .int [(.int sv), (.int sv), (.int sv), (.int sv)]) (A5 : OAry Z h0 as_ .int [(.int sv), (.int sv), (.int sv), (.int sv)]) (o0 : af < al) (o1 : al < ae) (o2 : ae < ac) (o3 : ac < ar) (o4 : ar < as_) (g3 : n0 ≤ ac) (g4 : n0 ≤ ar) (g5 : n0 ≤ as_) (hb : bk = 0) :
    OMet l Z n0 (⟨"termstone/postings/Impacts", "lay", "([I[I[II[I[I[I)V"⟩ : MethodName) prog_78_method_3_code 11 none ({ frames := 0, cells := 0, slots := 0, locals := 0 } : Room) #[(.ref af), (.ref al), (.ref ae), (.int bk), (.ref ac), (.ref ar), (.ref as_)] h0 (fun v h => v = none ∧ OAry Z h af .int [(.int f0), (.int f1), (.int f2), (.int f3)] ∧ OAry Z h al .int [(.int l0), (.int l1), (.int l2), (.int l3)] ∧ OAry Z h ae .int [(.int (1 : Int32)), (.int (2 : Int32))] ∧ OAry Z h ac .int [(.int (0 : Int32)), (.int sv), (.int sv)] ∧ OAry Z h ar .int [(.int ((f0 - (0 : Int32)) - (1 : Int32))), (.int sv), (.int sv), (.int sv)] ∧ OAry Z h as_ .int [(.int ((l0 - (-1 : Int32)) - (1 : Int32))), (.int sv), (.int sv), (.int sv)]) := by
  refine OMet.of pn_rm_lay011 Z0 (ef_rm_lay011 af al ae bk ac ar as_) ?_
  intro p e s m below meth c T H
  subst hb
  refine Own.iconst H (pc := 0) (0) d1_0 rfl ?_
  refine Own.istore H (pc := 1) #[.val (.ref af), .val (.ref al), .val (.ref ae), .val (.int (0 : Int32)), .val (.ref ac), .val (.ref ar), .val (.ref as_), .val (.int (0 : Int32)), .unset, .unset, .unset] d1_1 rfl ?_
  refine Own.iconst H (pc := 3) (0) d1_3 rfl ?_
  refine Own.istore H (pc := 4) #[.val (.ref af), .val (.ref al), .val (.ref ae), .val (.int (0 : Int32)), .val (.ref ac), .val (.ref ar), .val (.ref as_), .val (.int (0 : Int32)), .val (.int (0 : Int32)), .unset, .unset] d1_4 rfl ?_
  refine Own.iload H (pc := 6) d1_6 rfl ?_
  refine Own.iload_n H (pc := 8) d1_8 rfl ?_
  refine Own.icmp_gt H (pc := 9) 125 d1_9 (by decide) (by decide) (fun hc => absurd hc (by decide)) (fun _ => ?_)
  refine Own.aload H (pc := 12) d1_12 rfl rfl ?_
  refine Own.iload H (pc := 14) d1_14 rfl ?_
  refine Own.aload_n H (pc := 16) d1_16 rfl rfl ?_
  refine Own.iload H (pc := 17) d1_17 rfl ?_
  refine Own.iaload H (pc := 19) (v := (1 : Int32)) 0 d1_19 A2 rfl rfl ?_
  refine Own.iload H (pc := 20) d1_20 rfl ?_
  refine Own.isub_c H (pc := 22) (1) d1_22 (by decide) ?_
  refine Own.iconst H (pc := 23) (1) d1_23 rfl ?_
  refine Own.isub_c H (pc := 24) (0) d1_24 (by decide) ?_
  refine Own.iastore H (pc := 25) 0 d1_25 A3 g3 rfl (by simp) (fun T_2 h_3 H_1 W_4 A_5 => ?_)
  have A_6 := A0.other W_4 (by omega)
  have A_7 := A1.other W_4 (by omega)
  have A_8 := A2.other W_4 (by omega)
  have A_9 : OAry Z h_3 ac .int [(.int (0 : Int32)), (.int sv), (.int sv)] := A_5
  have A_10 := A4.other W_4 (by omega)
  have A_11 := A5.other W_4 (by omega)
  refine Own.iload H_1 (pc := 26) d1_26 rfl ?_
  refine Own.istore H_1 (pc := 28) #[.val (.ref af), .val (.ref al), .val (.ref ae), .val (.int (0 : Int32)), .val (.ref ac), .val (.ref ar), .val (.ref as_), .val (.int (0 : Int32)), .val (.int (0 : Int32)), .val (.int (0 : Int32)), .unset] d1_28 rfl ?_
  refine Own.iload H_1 (pc := 30) d1_30 rfl ?_
  refine Own.aload_n H_1 (pc := 32) d1_32 rfl rfl ?_
  refine Own.iload H_1 (pc := 33) d1_33 rfl ?_
  refine Own.iaload H_1 (pc := 35) (v := (1 : Int32)) 0 d1_35 A_8 rfl rfl ?_
  refine Own.icmp_ge H_1 (pc := 36) 113 d1_36 (by decide) (by decide) (fun hc => absurd hc (by decide)) (fun _ => ?_)
  refine Own.iload H_1 (pc := 39) d1_39 rfl ?_
  refine Own.iload H_1 (pc := 41) d1_41 rfl ?_
  refine Own.icmp_ne H_1 (pc := 43) 50 d1_43 (by decide) (by decide) (fun hc => absurd hc (by decide)) (fun _ => ?_)
  refine Own.iconst H_1 (pc := 46) (1) d1_46 rfl ?_
  refine Own.goto H_1 (pc := 47) 51 d1_47 (by decide) (by decide) ?_
  refine Own.istore H_1 (pc := 51) #[.val (.ref af), .val (.ref al), .val (.ref ae), .val (.int (0 : Int32)), .val (.ref ac), .val (.ref ar), .val (.ref as_), .val (.int (0 : Int32)), .val (.int (0 : Int32)), .val (.int (0 : Int32)), .val (.int (1 : Int32))] d1_51 rfl ?_
  refine Own.aload H_1 (pc := 53) d1_53 rfl rfl ?_
  refine Own.iload H_1 (pc := 55) d1_55 rfl ?_
  refine Own.aload_n H_1 (pc := 57) d1_57 rfl rfl ?_
  refine Own.iload H_1 (pc := 58) d1_58 rfl ?_
  refine Own.iaload H_1 (pc := 60) (v := f0) 0 d1_60 A_6 rfl rfl ?_
  refine Own.iload H_1 (pc := 61) d1_61 rfl ?_
  refine Own.if_eq H_1 (pc := 63) 70 d1_63 (by decide) (by decide) (fun hc => absurd hc (by decide)) (fun _ => ?_)
  refine Own.iconst H_1 (pc := 66) (0) d1_66 rfl ?_
  refine Own.goto H_1 (pc := 67) 76 d1_67 (by decide) (by decide) ?_
  refine Own.isub H_1 (pc := 76) d1_76 ?_
  refine Own.iconst H_1 (pc := 77) (1) d1_77 rfl ?_
  refine Own.isub H_1 (pc := 78) d1_78 ?_
  refine Own.iastore H_1 (pc := 79) 0 d1_79 A_10 g4 rfl (by simp) (fun T_13 h_14 H_12 W_15 A_16 => ?_)
  have A_17 := A_6.other W_15 (by omega)
  have A_18 := A_7.other W_15 (by omega)
  have A_19 := A_8.other W_15 (by omega)
  have A_20 := A_9.other W_15 (by omega)
  have A_21 : OAry Z h_14 ar .int [(.int ((f0 - (0 : Int32)) - (1 : Int32))), (.int sv), (.int sv), (.int sv)] := A_16
  have A_22 := A_11.other W_15 (by omega)
  refine Own.aload H_12 (pc := 80) d1_80 rfl rfl ?_
  refine Own.iload H_12 (pc := 82) d1_82 rfl ?_
  refine Own.aload_n H_12 (pc := 84) d1_84 rfl rfl ?_
  refine Own.iload H_12 (pc := 85) d1_85 rfl ?_
  refine Own.iaload H_12 (pc := 87) (v := l0) 0 d1_87 A_18 rfl rfl ?_
  refine Own.iload H_12 (pc := 88) d1_88 rfl ?_
  refine Own.if_eq H_12 (pc := 90) 97 d1_90 (by decide) (by decide) (fun hc => absurd hc (by decide)) (fun _ => ?_)
  refine Own.iconst H_12 (pc := 93) (-1) d1_93 rfl ?_
  refine Own.goto H_12 (pc := 94) 103 d1_94 (by decide) (by decide) ?_
  refine Own.isub H_12 (pc := 103) d1_103 ?_
  refine Own.iconst H_12 (pc := 104) (1) d1_104 rfl ?_
  refine Own.isub H_12 (pc := 105) d1_105 ?_
  refine Own.iastore H_12 (pc := 106) 0 d1_106 A_22 g5 rfl (by simp) (fun T_24 h_25 H_23 W_26 A_27 => ?_)
  have A_28 := A_17.other W_26 (by omega)
  have A_29 := A_18.other W_26 (by omega)
  have A_30 := A_19.other W_26 (by omega)
  have A_31 := A_20.other W_26 (by omega)
  have A_32 := A_21.other W_26 (by omega)
  have A_33 : OAry Z h_25 as_ .int [(.int ((l0 - (-1 : Int32)) - (1 : Int32))), (.int sv), (.int sv), (.int sv)] := A_27
  refine Own.iinc_c H_23 (pc := 107) (1) #[.val (.ref af), .val (.ref al), .val (.ref ae), .val (.int (0 : Int32)), .val (.ref ac), .val (.ref ar), .val (.ref as_), .val (.int (0 : Int32)), .val (.int (0 : Int32)), .val (.int (1 : Int32)), .val (.int (1 : Int32))] d1_107 rfl (by decide) rfl ?_
  refine Own.goto H_23 (pc := 110) 30 d1_110 (by decide) (by decide) ?_
  refine Own.iload H_23 (pc := 30) d1_30 rfl ?_
  refine Own.aload_n H_23 (pc := 32) d1_32 rfl rfl ?_
  refine Own.iload H_23 (pc := 33) d1_33 rfl ?_
  refine Own.iaload H_23 (pc := 35) (v := (1 : Int32)) 0 d1_35 A_30 rfl rfl ?_
  refine Own.icmp_ge H_23 (pc := 36) 113 d1_36 (by decide) (by decide) (fun _ => ?_) (fun hc => absurd hc (by decide))
  refine Own.aload_n H_23 (pc := 113) d1_113 rfl rfl ?_
  refine Own.iload H_23 (pc := 114) d1_114 rfl ?_
  refine Own.iaload H_23 (pc := 116) (v := (1 : Int32)) 0 d1_116 A_30 rfl rfl ?_
  refine Own.istore H_23 (pc := 117) #[.val (.ref af), .val (.ref al), .val (.ref ae), .val (.int (0 : Int32)), .val (.ref ac), .val (.ref ar), .val (.ref as_), .val (.int (1 : Int32)), .val (.int (0 : Int32)), .val (.int (1 : Int32)), .val (.int (1 : Int32))] d1_117 rfl ?_
  refine Own.iinc_c H_23 (pc := 119) (1) #[.val (.ref af), .val (.ref al), .val (.ref ae), .val (.int (0 : Int32)), .val (.ref ac), .val (.ref ar), .val (.ref as_), .val (.int (1 : Int32)), .val (.int (1 : Int32)), .val (.int (1 : Int32)), .val (.int (1 : Int32))] d1_119 rfl (by decide) rfl ?_
  refine Own.goto H_23 (pc := 122) 6 d1_122 (by decide) (by decide) ?_
  refine Own.iload H_23 (pc := 6) d1_6 rfl ?_
  refine Own.iload_n H_23 (pc := 8) d1_8 rfl ?_
  refine Own.icmp_gt H_23 (pc := 9) 125 d1_9 (by decide) (by decide) (fun _ => ?_) (fun hc => absurd hc (by decide))
  exact Own.ret_void H_23 (pc := 125) d1_125 rfl (by decide) (by decide) (⟨rfl, A_28, A_29, A_30, A_31, A_32, A_33⟩)
theorem pn_rm_lay012 : plainFor (⟨"termstone/postings/Impacts", "lay", "([I[I[II[I[I[I)V"⟩ : MethodName) = true := by first | exact plainFor_of_name (by first | (simp [plainName, overriddenIn]; done) | decide +kernel) | decide +kernel
theorem ef_rm_lay012 (af : Nat) (al : Nat) (ae : Nat) (bk : Int32) (ac : Nat) (ar : Nat) (as_ : Nat) (m : MethodId) : entryFrame m #[(.ref af), (.ref al), (.ref ae), (.int bk), (.ref ac), (.ref ar), (.ref as_)] 11 = mkF m 0 #[.val (.ref af), .val (.ref al), .val (.ref ae), .val (.int bk), .val (.ref ac), .val (.ref ar), .val (.ref as_), .unset, .unset, .unset, .unset] [] := by first | (simp [entryFrame, mkF, argsToLocals, Value.category]; done) | rfl
set_option maxRecDepth 65536 in
set_option maxHeartbeats 40000000 in
theorem rm_lay012 (l : Launch) (Z : State) (a0 : Array Value) (hw : ∀ d ∈ tables_1, d.before a0 Z = true) (af : Nat) (al : Nat) (ae : Nat) (bk : Int32) (ac : Nat) (ar : Nat) (as_ : Nat) (h0 : Heap) (n0 : Nat) (Z0 : n0 ≤ h0.size) (f0 f1 f2 f3 l0 l1 l2 l3 sv : Int32) (A0 : OAry Z h0 af .int [(.int f0), (.int f1), (.int f2), (.int f3)]) (A1 : OAry Z h0 al .int [(.int l0), (.int l1), (.int l2), (.int l3)]) (A2 : OAry Z h0 ae .int [(.int (1 : Int32)), (.int (3 : Int32))]) (A3 : OAry Z h0 ac .int [(.int sv), (.int sv), (.int sv)]) (A4 : OAry Z h0 ar .int [(.int sv), (.int sv), (.int sv), (.int sv)]) (A5 : OAry Z h0 as_ .int [(.int sv), (.int sv), (.int sv), (.int sv)]) (o0 : af < al) (o1 : al < ae) (o2 : ae < ac) (o3 : ac < ar) (o4 : ar < as_) (g3 : n0 ≤ ac) (g4 : n0 ≤ ar) (g5 : n0 ≤ as_) (hb : bk = 0) :
    OMet l Z n0 (⟨"termstone/postings/Impacts", "lay", "([I[I[II[I[I[I)V"⟩ : MethodName) prog_78_method_3_code 11 none ({ frames := 0, cells := 0, slots := 0, locals := 0 } : Room) #[(.ref af), (.ref al), (.ref ae), (.int bk), (.ref ac), (.ref ar), (.ref as_)] h0 (fun v h => v = none ∧ OAry Z h af .int [(.int f0), (.int f1), (.int f2), (.int f3)] ∧ OAry Z h al .int [(.int l0), (.int l1), (.int l2), (.int l3)] ∧ OAry Z h ae .int [(.int (1 : Int32)), (.int (3 : Int32))] ∧ OAry Z h ac .int [(.int (0 : Int32)), (.int sv), (.int sv)] ∧ OAry Z h ar .int [(.int ((f0 - (0 : Int32)) - (1 : Int32))), (.int sv), (.int sv), (.int sv)] ∧ OAry Z h as_ .int [(.int ((l0 - (-1 : Int32)) - (1 : Int32))), (.int sv), (.int sv), (.int sv)]) := by
  refine OMet.of pn_rm_lay012 Z0 (ef_rm_lay012 af al ae bk ac ar as_) ?_
  intro p e s m below meth c T H
  subst hb
  refine Own.iconst H (pc := 0) (0) d1_0 rfl ?_
  refine Own.istore H (pc := 1) #[.val (.ref af), .val (.ref al), .val (.ref ae), .val (.int (0 : Int32)), .val (.ref ac), .val (.ref ar), .val (.ref as_), .val (.int (0 : Int32)), .unset, .unset, .unset] d1_1 rfl ?_
  refine Own.iconst H (pc := 3) (0) d1_3 rfl ?_
  refine Own.istore H (pc := 4) #[.val (.ref af), .val (.ref al), .val (.ref ae), .val (.int (0 : Int32)), .val (.ref ac), .val (.ref ar), .val (.ref as_), .val (.int (0 : Int32)), .val (.int (0 : Int32)), .unset, .unset] d1_4 rfl ?_
  refine Own.iload H (pc := 6) d1_6 rfl ?_
  refine Own.iload_n H (pc := 8) d1_8 rfl ?_
  refine Own.icmp_gt H (pc := 9) 125 d1_9 (by decide) (by decide) (fun hc => absurd hc (by decide)) (fun _ => ?_)
  refine Own.aload H (pc := 12) d1_12 rfl rfl ?_
  refine Own.iload H (pc := 14) d1_14 rfl ?_
  refine Own.aload_n H (pc := 16) d1_16 rfl rfl ?_
  refine Own.iload H (pc := 17) d1_17 rfl ?_
  refine Own.iaload H (pc := 19) (v := (1 : Int32)) 0 d1_19 A2 rfl rfl ?_
  refine Own.iload H (pc := 20) d1_20 rfl ?_
  refine Own.isub_c H (pc := 22) (1) d1_22 (by decide) ?_
  refine Own.iconst H (pc := 23) (1) d1_23 rfl ?_
  refine Own.isub_c H (pc := 24) (0) d1_24 (by decide) ?_
  refine Own.iastore H (pc := 25) 0 d1_25 A3 g3 rfl (by simp) (fun T_35 h_36 H_34 W_37 A_38 => ?_)
  have A_39 := A0.other W_37 (by omega)
  have A_40 := A1.other W_37 (by omega)
  have A_41 := A2.other W_37 (by omega)
  have A_42 : OAry Z h_36 ac .int [(.int (0 : Int32)), (.int sv), (.int sv)] := A_38
  have A_43 := A4.other W_37 (by omega)
  have A_44 := A5.other W_37 (by omega)
  refine Own.iload H_34 (pc := 26) d1_26 rfl ?_
  refine Own.istore H_34 (pc := 28) #[.val (.ref af), .val (.ref al), .val (.ref ae), .val (.int (0 : Int32)), .val (.ref ac), .val (.ref ar), .val (.ref as_), .val (.int (0 : Int32)), .val (.int (0 : Int32)), .val (.int (0 : Int32)), .unset] d1_28 rfl ?_
  refine Own.iload H_34 (pc := 30) d1_30 rfl ?_
  refine Own.aload_n H_34 (pc := 32) d1_32 rfl rfl ?_
  refine Own.iload H_34 (pc := 33) d1_33 rfl ?_
  refine Own.iaload H_34 (pc := 35) (v := (1 : Int32)) 0 d1_35 A_41 rfl rfl ?_
  refine Own.icmp_ge H_34 (pc := 36) 113 d1_36 (by decide) (by decide) (fun hc => absurd hc (by decide)) (fun _ => ?_)
  refine Own.iload H_34 (pc := 39) d1_39 rfl ?_
  refine Own.iload H_34 (pc := 41) d1_41 rfl ?_
  refine Own.icmp_ne H_34 (pc := 43) 50 d1_43 (by decide) (by decide) (fun hc => absurd hc (by decide)) (fun _ => ?_)
  refine Own.iconst H_34 (pc := 46) (1) d1_46 rfl ?_
  refine Own.goto H_34 (pc := 47) 51 d1_47 (by decide) (by decide) ?_
  refine Own.istore H_34 (pc := 51) #[.val (.ref af), .val (.ref al), .val (.ref ae), .val (.int (0 : Int32)), .val (.ref ac), .val (.ref ar), .val (.ref as_), .val (.int (0 : Int32)), .val (.int (0 : Int32)), .val (.int (0 : Int32)), .val (.int (1 : Int32))] d1_51 rfl ?_
  refine Own.aload H_34 (pc := 53) d1_53 rfl rfl ?_
  refine Own.iload H_34 (pc := 55) d1_55 rfl ?_
  refine Own.aload_n H_34 (pc := 57) d1_57 rfl rfl ?_
  refine Own.iload H_34 (pc := 58) d1_58 rfl ?_
  refine Own.iaload H_34 (pc := 60) (v := f0) 0 d1_60 A_39 rfl rfl ?_
  refine Own.iload H_34 (pc := 61) d1_61 rfl ?_
  refine Own.if_eq H_34 (pc := 63) 70 d1_63 (by decide) (by decide) (fun hc => absurd hc (by decide)) (fun _ => ?_)
  refine Own.iconst H_34 (pc := 66) (0) d1_66 rfl ?_
  refine Own.goto H_34 (pc := 67) 76 d1_67 (by decide) (by decide) ?_
  refine Own.isub H_34 (pc := 76) d1_76 ?_
  refine Own.iconst H_34 (pc := 77) (1) d1_77 rfl ?_
  refine Own.isub H_34 (pc := 78) d1_78 ?_
  refine Own.iastore H_34 (pc := 79) 0 d1_79 A_43 g4 rfl (by simp) (fun T_46 h_47 H_45 W_48 A_49 => ?_)
  have A_50 := A_39.other W_48 (by omega)
  have A_51 := A_40.other W_48 (by omega)
  have A_52 := A_41.other W_48 (by omega)
  have A_53 := A_42.other W_48 (by omega)
  have A_54 : OAry Z h_47 ar .int [(.int ((f0 - (0 : Int32)) - (1 : Int32))), (.int sv), (.int sv), (.int sv)] := A_49
  have A_55 := A_44.other W_48 (by omega)
  refine Own.aload H_45 (pc := 80) d1_80 rfl rfl ?_
  refine Own.iload H_45 (pc := 82) d1_82 rfl ?_
  refine Own.aload_n H_45 (pc := 84) d1_84 rfl rfl ?_
  refine Own.iload H_45 (pc := 85) d1_85 rfl ?_
  refine Own.iaload H_45 (pc := 87) (v := l0) 0 d1_87 A_51 rfl rfl ?_
  refine Own.iload H_45 (pc := 88) d1_88 rfl ?_
  refine Own.if_eq H_45 (pc := 90) 97 d1_90 (by decide) (by decide) (fun hc => absurd hc (by decide)) (fun _ => ?_)
  refine Own.iconst H_45 (pc := 93) (-1) d1_93 rfl ?_
  refine Own.goto H_45 (pc := 94) 103 d1_94 (by decide) (by decide) ?_
  refine Own.isub H_45 (pc := 103) d1_103 ?_
  refine Own.iconst H_45 (pc := 104) (1) d1_104 rfl ?_
  refine Own.isub H_45 (pc := 105) d1_105 ?_
  refine Own.iastore H_45 (pc := 106) 0 d1_106 A_55 g5 rfl (by simp) (fun T_57 h_58 H_56 W_59 A_60 => ?_)
  have A_61 := A_50.other W_59 (by omega)
  have A_62 := A_51.other W_59 (by omega)
  have A_63 := A_52.other W_59 (by omega)
  have A_64 := A_53.other W_59 (by omega)
  have A_65 := A_54.other W_59 (by omega)
  have A_66 : OAry Z h_58 as_ .int [(.int ((l0 - (-1 : Int32)) - (1 : Int32))), (.int sv), (.int sv), (.int sv)] := A_60
  refine Own.iinc_c H_56 (pc := 107) (1) #[.val (.ref af), .val (.ref al), .val (.ref ae), .val (.int (0 : Int32)), .val (.ref ac), .val (.ref ar), .val (.ref as_), .val (.int (0 : Int32)), .val (.int (0 : Int32)), .val (.int (1 : Int32)), .val (.int (1 : Int32))] d1_107 rfl (by decide) rfl ?_
  refine Own.goto H_56 (pc := 110) 30 d1_110 (by decide) (by decide) ?_
  refine Own.iload H_56 (pc := 30) d1_30 rfl ?_
  refine Own.aload_n H_56 (pc := 32) d1_32 rfl rfl ?_
  refine Own.iload H_56 (pc := 33) d1_33 rfl ?_
  refine Own.iaload H_56 (pc := 35) (v := (1 : Int32)) 0 d1_35 A_63 rfl rfl ?_
  refine Own.icmp_ge H_56 (pc := 36) 113 d1_36 (by decide) (by decide) (fun _ => ?_) (fun hc => absurd hc (by decide))
  refine Own.aload_n H_56 (pc := 113) d1_113 rfl rfl ?_
  refine Own.iload H_56 (pc := 114) d1_114 rfl ?_
  refine Own.iaload H_56 (pc := 116) (v := (1 : Int32)) 0 d1_116 A_63 rfl rfl ?_
  refine Own.istore H_56 (pc := 117) #[.val (.ref af), .val (.ref al), .val (.ref ae), .val (.int (0 : Int32)), .val (.ref ac), .val (.ref ar), .val (.ref as_), .val (.int (1 : Int32)), .val (.int (0 : Int32)), .val (.int (1 : Int32)), .val (.int (1 : Int32))] d1_117 rfl ?_
  refine Own.iinc_c H_56 (pc := 119) (1) #[.val (.ref af), .val (.ref al), .val (.ref ae), .val (.int (0 : Int32)), .val (.ref ac), .val (.ref ar), .val (.ref as_), .val (.int (1 : Int32)), .val (.int (1 : Int32)), .val (.int (1 : Int32)), .val (.int (1 : Int32))] d1_119 rfl (by decide) rfl ?_
  refine Own.goto H_56 (pc := 122) 6 d1_122 (by decide) (by decide) ?_
  refine Own.iload H_56 (pc := 6) d1_6 rfl ?_
  refine Own.iload_n H_56 (pc := 8) d1_8 rfl ?_
  refine Own.icmp_gt H_56 (pc := 9) 125 d1_9 (by decide) (by decide) (fun _ => ?_) (fun hc => absurd hc (by decide))
  exact Own.ret_void H_56 (pc := 125) d1_125 rfl (by decide) (by decide) (⟨rfl, A_61, A_62, A_63, A_64, A_65, A_66⟩)
theorem pn_rm_lay021 : plainFor (⟨"termstone/postings/Impacts", "lay", "([I[I[II[I[I[I)V"⟩ : MethodName) = true := by first | exact plainFor_of_name (by first | (simp [plainName, overriddenIn]; done) | decide +kernel) | decide +kernel
theorem ef_rm_lay021 (af : Nat) (al : Nat) (ae : Nat) (bk : Int32) (ac : Nat) (ar : Nat) (as_ : Nat) (m : MethodId) : entryFrame m #[(.ref af), (.ref al), (.ref ae), (.int bk), (.ref ac), (.ref ar), (.ref as_)] 11 = mkF m 0 #[.val (.ref af), .val (.ref al), .val (.ref ae), .val (.int bk), .val (.ref ac), .val (.ref ar), .val (.ref as_), .unset, .unset, .unset, .unset] [] := by first | (simp [entryFrame, mkF, argsToLocals, Value.category]; done) | rfl
set_option maxRecDepth 65536 in
set_option maxHeartbeats 40000000 in
theorem rm_lay021 (l : Launch) (Z : State) (a0 : Array Value) (hw : ∀ d ∈ tables_1, d.before a0 Z = true) (af : Nat) (al : Nat) (ae : Nat) (bk : Int32) (ac : Nat) (ar : Nat) (as_ : Nat) (h0 : Heap) (n0 : Nat) (Z0 : n0 ≤ h0.size) (f0 f1 f2 f3 l0 l1 l2 l3 sv : Int32) (A0 : OAry Z h0 af .int [(.int f0), (.int f1), (.int f2), (.int f3)]) (A1 : OAry Z h0 al .int [(.int l0), (.int l1), (.int l2), (.int l3)]) (A2 : OAry Z h0 ae .int [(.int (2 : Int32)), (.int (3 : Int32))]) (A3 : OAry Z h0 ac .int [(.int sv), (.int sv), (.int sv)]) (A4 : OAry Z h0 ar .int [(.int sv), (.int sv), (.int sv), (.int sv)]) (A5 : OAry Z h0 as_ .int [(.int sv), (.int sv), (.int sv), (.int sv)]) (o0 : af < al) (o1 : al < ae) (o2 : ae < ac) (o3 : ac < ar) (o4 : ar < as_) (g3 : n0 ≤ ac) (g4 : n0 ≤ ar) (g5 : n0 ≤ as_) (hb : bk = 0) :
    OMet l Z n0 (⟨"termstone/postings/Impacts", "lay", "([I[I[II[I[I[I)V"⟩ : MethodName) prog_78_method_3_code 11 none ({ frames := 0, cells := 0, slots := 0, locals := 0 } : Room) #[(.ref af), (.ref al), (.ref ae), (.int bk), (.ref ac), (.ref ar), (.ref as_)] h0 (fun v h => v = none ∧ OAry Z h af .int [(.int f0), (.int f1), (.int f2), (.int f3)] ∧ OAry Z h al .int [(.int l0), (.int l1), (.int l2), (.int l3)] ∧ OAry Z h ae .int [(.int (2 : Int32)), (.int (3 : Int32))] ∧ OAry Z h ac .int [(.int (1 : Int32)), (.int sv), (.int sv)] ∧ OAry Z h ar .int [(.int ((f0 - (0 : Int32)) - (1 : Int32))), (.int ((f1 - f0) - (1 : Int32))), (.int sv), (.int sv)] ∧ OAry Z h as_ .int [(.int ((l0 - (-1 : Int32)) - (1 : Int32))), (.int ((l1 - l0) - (1 : Int32))), (.int sv), (.int sv)]) := by
  refine OMet.of pn_rm_lay021 Z0 (ef_rm_lay021 af al ae bk ac ar as_) ?_
  intro p e s m below meth c T H
  subst hb
  refine Own.iconst H (pc := 0) (0) d1_0 rfl ?_
  refine Own.istore H (pc := 1) #[.val (.ref af), .val (.ref al), .val (.ref ae), .val (.int (0 : Int32)), .val (.ref ac), .val (.ref ar), .val (.ref as_), .val (.int (0 : Int32)), .unset, .unset, .unset] d1_1 rfl ?_
  refine Own.iconst H (pc := 3) (0) d1_3 rfl ?_
  refine Own.istore H (pc := 4) #[.val (.ref af), .val (.ref al), .val (.ref ae), .val (.int (0 : Int32)), .val (.ref ac), .val (.ref ar), .val (.ref as_), .val (.int (0 : Int32)), .val (.int (0 : Int32)), .unset, .unset] d1_4 rfl ?_
  refine Own.iload H (pc := 6) d1_6 rfl ?_
  refine Own.iload_n H (pc := 8) d1_8 rfl ?_
  refine Own.icmp_gt H (pc := 9) 125 d1_9 (by decide) (by decide) (fun hc => absurd hc (by decide)) (fun _ => ?_)
  refine Own.aload H (pc := 12) d1_12 rfl rfl ?_
  refine Own.iload H (pc := 14) d1_14 rfl ?_
  refine Own.aload_n H (pc := 16) d1_16 rfl rfl ?_
  refine Own.iload H (pc := 17) d1_17 rfl ?_
  refine Own.iaload H (pc := 19) (v := (2 : Int32)) 0 d1_19 A2 rfl rfl ?_
  refine Own.iload H (pc := 20) d1_20 rfl ?_
  refine Own.isub_c H (pc := 22) (2) d1_22 (by decide) ?_
  refine Own.iconst H (pc := 23) (1) d1_23 rfl ?_
  refine Own.isub_c H (pc := 24) (1) d1_24 (by decide) ?_
  refine Own.iastore H (pc := 25) 0 d1_25 A3 g3 rfl (by simp) (fun T_68 h_69 H_67 W_70 A_71 => ?_)
  have A_72 := A0.other W_70 (by omega)
  have A_73 := A1.other W_70 (by omega)
  have A_74 := A2.other W_70 (by omega)
  have A_75 : OAry Z h_69 ac .int [(.int (1 : Int32)), (.int sv), (.int sv)] := A_71
  have A_76 := A4.other W_70 (by omega)
  have A_77 := A5.other W_70 (by omega)
  refine Own.iload H_67 (pc := 26) d1_26 rfl ?_
  refine Own.istore H_67 (pc := 28) #[.val (.ref af), .val (.ref al), .val (.ref ae), .val (.int (0 : Int32)), .val (.ref ac), .val (.ref ar), .val (.ref as_), .val (.int (0 : Int32)), .val (.int (0 : Int32)), .val (.int (0 : Int32)), .unset] d1_28 rfl ?_
  refine Own.iload H_67 (pc := 30) d1_30 rfl ?_
  refine Own.aload_n H_67 (pc := 32) d1_32 rfl rfl ?_
  refine Own.iload H_67 (pc := 33) d1_33 rfl ?_
  refine Own.iaload H_67 (pc := 35) (v := (2 : Int32)) 0 d1_35 A_74 rfl rfl ?_
  refine Own.icmp_ge H_67 (pc := 36) 113 d1_36 (by decide) (by decide) (fun hc => absurd hc (by decide)) (fun _ => ?_)
  refine Own.iload H_67 (pc := 39) d1_39 rfl ?_
  refine Own.iload H_67 (pc := 41) d1_41 rfl ?_
  refine Own.icmp_ne H_67 (pc := 43) 50 d1_43 (by decide) (by decide) (fun hc => absurd hc (by decide)) (fun _ => ?_)
  refine Own.iconst H_67 (pc := 46) (1) d1_46 rfl ?_
  refine Own.goto H_67 (pc := 47) 51 d1_47 (by decide) (by decide) ?_
  refine Own.istore H_67 (pc := 51) #[.val (.ref af), .val (.ref al), .val (.ref ae), .val (.int (0 : Int32)), .val (.ref ac), .val (.ref ar), .val (.ref as_), .val (.int (0 : Int32)), .val (.int (0 : Int32)), .val (.int (0 : Int32)), .val (.int (1 : Int32))] d1_51 rfl ?_
  refine Own.aload H_67 (pc := 53) d1_53 rfl rfl ?_
  refine Own.iload H_67 (pc := 55) d1_55 rfl ?_
  refine Own.aload_n H_67 (pc := 57) d1_57 rfl rfl ?_
  refine Own.iload H_67 (pc := 58) d1_58 rfl ?_
  refine Own.iaload H_67 (pc := 60) (v := f0) 0 d1_60 A_72 rfl rfl ?_
  refine Own.iload H_67 (pc := 61) d1_61 rfl ?_
  refine Own.if_eq H_67 (pc := 63) 70 d1_63 (by decide) (by decide) (fun hc => absurd hc (by decide)) (fun _ => ?_)
  refine Own.iconst H_67 (pc := 66) (0) d1_66 rfl ?_
  refine Own.goto H_67 (pc := 67) 76 d1_67 (by decide) (by decide) ?_
  refine Own.isub H_67 (pc := 76) d1_76 ?_
  refine Own.iconst H_67 (pc := 77) (1) d1_77 rfl ?_
  refine Own.isub H_67 (pc := 78) d1_78 ?_
  refine Own.iastore H_67 (pc := 79) 0 d1_79 A_76 g4 rfl (by simp) (fun T_79 h_80 H_78 W_81 A_82 => ?_)
  have A_83 := A_72.other W_81 (by omega)
  have A_84 := A_73.other W_81 (by omega)
  have A_85 := A_74.other W_81 (by omega)
  have A_86 := A_75.other W_81 (by omega)
  have A_87 : OAry Z h_80 ar .int [(.int ((f0 - (0 : Int32)) - (1 : Int32))), (.int sv), (.int sv), (.int sv)] := A_82
  have A_88 := A_77.other W_81 (by omega)
  refine Own.aload H_78 (pc := 80) d1_80 rfl rfl ?_
  refine Own.iload H_78 (pc := 82) d1_82 rfl ?_
  refine Own.aload_n H_78 (pc := 84) d1_84 rfl rfl ?_
  refine Own.iload H_78 (pc := 85) d1_85 rfl ?_
  refine Own.iaload H_78 (pc := 87) (v := l0) 0 d1_87 A_84 rfl rfl ?_
  refine Own.iload H_78 (pc := 88) d1_88 rfl ?_
  refine Own.if_eq H_78 (pc := 90) 97 d1_90 (by decide) (by decide) (fun hc => absurd hc (by decide)) (fun _ => ?_)
  refine Own.iconst H_78 (pc := 93) (-1) d1_93 rfl ?_
  refine Own.goto H_78 (pc := 94) 103 d1_94 (by decide) (by decide) ?_
  refine Own.isub H_78 (pc := 103) d1_103 ?_
  refine Own.iconst H_78 (pc := 104) (1) d1_104 rfl ?_
  refine Own.isub H_78 (pc := 105) d1_105 ?_
  refine Own.iastore H_78 (pc := 106) 0 d1_106 A_88 g5 rfl (by simp) (fun T_90 h_91 H_89 W_92 A_93 => ?_)
  have A_94 := A_83.other W_92 (by omega)
  have A_95 := A_84.other W_92 (by omega)
  have A_96 := A_85.other W_92 (by omega)
  have A_97 := A_86.other W_92 (by omega)
  have A_98 := A_87.other W_92 (by omega)
  have A_99 : OAry Z h_91 as_ .int [(.int ((l0 - (-1 : Int32)) - (1 : Int32))), (.int sv), (.int sv), (.int sv)] := A_93
  refine Own.iinc_c H_89 (pc := 107) (1) #[.val (.ref af), .val (.ref al), .val (.ref ae), .val (.int (0 : Int32)), .val (.ref ac), .val (.ref ar), .val (.ref as_), .val (.int (0 : Int32)), .val (.int (0 : Int32)), .val (.int (1 : Int32)), .val (.int (1 : Int32))] d1_107 rfl (by decide) rfl ?_
  refine Own.goto H_89 (pc := 110) 30 d1_110 (by decide) (by decide) ?_
  refine Own.iload H_89 (pc := 30) d1_30 rfl ?_
  refine Own.aload_n H_89 (pc := 32) d1_32 rfl rfl ?_
  refine Own.iload H_89 (pc := 33) d1_33 rfl ?_
  refine Own.iaload H_89 (pc := 35) (v := (2 : Int32)) 0 d1_35 A_96 rfl rfl ?_
  refine Own.icmp_ge H_89 (pc := 36) 113 d1_36 (by decide) (by decide) (fun hc => absurd hc (by decide)) (fun _ => ?_)
  refine Own.iload H_89 (pc := 39) d1_39 rfl ?_
  refine Own.iload H_89 (pc := 41) d1_41 rfl ?_
  refine Own.icmp_ne H_89 (pc := 43) 50 d1_43 (by decide) (by decide) (fun _ => ?_) (fun hc => absurd hc (by decide))
  refine Own.iconst H_89 (pc := 50) (0) d1_50 rfl ?_
  refine Own.istore H_89 (pc := 51) #[.val (.ref af), .val (.ref al), .val (.ref ae), .val (.int (0 : Int32)), .val (.ref ac), .val (.ref ar), .val (.ref as_), .val (.int (0 : Int32)), .val (.int (0 : Int32)), .val (.int (1 : Int32)), .val (.int (0 : Int32))] d1_51 rfl ?_
  refine Own.aload H_89 (pc := 53) d1_53 rfl rfl ?_
  refine Own.iload H_89 (pc := 55) d1_55 rfl ?_
  refine Own.aload_n H_89 (pc := 57) d1_57 rfl rfl ?_
  refine Own.iload H_89 (pc := 58) d1_58 rfl ?_
  refine Own.iaload H_89 (pc := 60) (v := f1) 1 d1_60 A_94 rfl rfl ?_
  refine Own.iload H_89 (pc := 61) d1_61 rfl ?_
  refine Own.if_eq H_89 (pc := 63) 70 d1_63 (by decide) (by decide) (fun _ => ?_) (fun hc => absurd hc (by decide))
  refine Own.aload_n H_89 (pc := 70) d1_70 rfl rfl ?_
  refine Own.iload H_89 (pc := 71) d1_71 rfl ?_
  refine Own.iconst H_89 (pc := 73) (1) d1_73 rfl ?_
  refine Own.isub_c H_89 (pc := 74) (0) d1_74 (by decide) ?_
  refine Own.iaload H_89 (pc := 75) (v := f0) 0 d1_75 A_94 rfl rfl ?_
  refine Own.isub H_89 (pc := 76) d1_76 ?_
  refine Own.iconst H_89 (pc := 77) (1) d1_77 rfl ?_
  refine Own.isub H_89 (pc := 78) d1_78 ?_
  refine Own.iastore H_89 (pc := 79) 1 d1_79 A_98 g4 rfl (by simp) (fun T_101 h_102 H_100 W_103 A_104 => ?_)
  have A_105 := A_94.other W_103 (by omega)
  have A_106 := A_95.other W_103 (by omega)
  have A_107 := A_96.other W_103 (by omega)
  have A_108 := A_97.other W_103 (by omega)
  have A_109 : OAry Z h_102 ar .int [(.int ((f0 - (0 : Int32)) - (1 : Int32))), (.int ((f1 - f0) - (1 : Int32))), (.int sv), (.int sv)] := A_104
  have A_110 := A_99.other W_103 (by omega)
  refine Own.aload H_100 (pc := 80) d1_80 rfl rfl ?_
  refine Own.iload H_100 (pc := 82) d1_82 rfl ?_
  refine Own.aload_n H_100 (pc := 84) d1_84 rfl rfl ?_
  refine Own.iload H_100 (pc := 85) d1_85 rfl ?_
  refine Own.iaload H_100 (pc := 87) (v := l1) 1 d1_87 A_106 rfl rfl ?_
  refine Own.iload H_100 (pc := 88) d1_88 rfl ?_
  refine Own.if_eq H_100 (pc := 90) 97 d1_90 (by decide) (by decide) (fun _ => ?_) (fun hc => absurd hc (by decide))
  refine Own.aload_n H_100 (pc := 97) d1_97 rfl rfl ?_
  refine Own.iload H_100 (pc := 98) d1_98 rfl ?_
  refine Own.iconst H_100 (pc := 100) (1) d1_100 rfl ?_
  refine Own.isub_c H_100 (pc := 101) (0) d1_101 (by decide) ?_
  refine Own.iaload H_100 (pc := 102) (v := l0) 0 d1_102 A_106 rfl rfl ?_
  refine Own.isub H_100 (pc := 103) d1_103 ?_
  refine Own.iconst H_100 (pc := 104) (1) d1_104 rfl ?_
  refine Own.isub H_100 (pc := 105) d1_105 ?_
  refine Own.iastore H_100 (pc := 106) 1 d1_106 A_110 g5 rfl (by simp) (fun T_112 h_113 H_111 W_114 A_115 => ?_)
  have A_116 := A_105.other W_114 (by omega)
  have A_117 := A_106.other W_114 (by omega)
  have A_118 := A_107.other W_114 (by omega)
  have A_119 := A_108.other W_114 (by omega)
  have A_120 := A_109.other W_114 (by omega)
  have A_121 : OAry Z h_113 as_ .int [(.int ((l0 - (-1 : Int32)) - (1 : Int32))), (.int ((l1 - l0) - (1 : Int32))), (.int sv), (.int sv)] := A_115
  refine Own.iinc_c H_111 (pc := 107) (2) #[.val (.ref af), .val (.ref al), .val (.ref ae), .val (.int (0 : Int32)), .val (.ref ac), .val (.ref ar), .val (.ref as_), .val (.int (0 : Int32)), .val (.int (0 : Int32)), .val (.int (2 : Int32)), .val (.int (0 : Int32))] d1_107 rfl (by decide) rfl ?_
  refine Own.goto H_111 (pc := 110) 30 d1_110 (by decide) (by decide) ?_
  refine Own.iload H_111 (pc := 30) d1_30 rfl ?_
  refine Own.aload_n H_111 (pc := 32) d1_32 rfl rfl ?_
  refine Own.iload H_111 (pc := 33) d1_33 rfl ?_
  refine Own.iaload H_111 (pc := 35) (v := (2 : Int32)) 0 d1_35 A_118 rfl rfl ?_
  refine Own.icmp_ge H_111 (pc := 36) 113 d1_36 (by decide) (by decide) (fun _ => ?_) (fun hc => absurd hc (by decide))
  refine Own.aload_n H_111 (pc := 113) d1_113 rfl rfl ?_
  refine Own.iload H_111 (pc := 114) d1_114 rfl ?_
  refine Own.iaload H_111 (pc := 116) (v := (2 : Int32)) 0 d1_116 A_118 rfl rfl ?_
  refine Own.istore H_111 (pc := 117) #[.val (.ref af), .val (.ref al), .val (.ref ae), .val (.int (0 : Int32)), .val (.ref ac), .val (.ref ar), .val (.ref as_), .val (.int (2 : Int32)), .val (.int (0 : Int32)), .val (.int (2 : Int32)), .val (.int (0 : Int32))] d1_117 rfl ?_
  refine Own.iinc_c H_111 (pc := 119) (1) #[.val (.ref af), .val (.ref al), .val (.ref ae), .val (.int (0 : Int32)), .val (.ref ac), .val (.ref ar), .val (.ref as_), .val (.int (2 : Int32)), .val (.int (1 : Int32)), .val (.int (2 : Int32)), .val (.int (0 : Int32))] d1_119 rfl (by decide) rfl ?_
  refine Own.goto H_111 (pc := 122) 6 d1_122 (by decide) (by decide) ?_
  refine Own.iload H_111 (pc := 6) d1_6 rfl ?_
  refine Own.iload_n H_111 (pc := 8) d1_8 rfl ?_
  refine Own.icmp_gt H_111 (pc := 9) 125 d1_9 (by decide) (by decide) (fun _ => ?_) (fun hc => absurd hc (by decide))
  exact Own.ret_void H_111 (pc := 125) d1_125 rfl (by decide) (by decide) (⟨rfl, A_116, A_117, A_118, A_119, A_120, A_121⟩)
theorem pn_rm_lay022 : plainFor (⟨"termstone/postings/Impacts", "lay", "([I[I[II[I[I[I)V"⟩ : MethodName) = true := by first | exact plainFor_of_name (by first | (simp [plainName, overriddenIn]; done) | decide +kernel) | decide +kernel
theorem ef_rm_lay022 (af : Nat) (al : Nat) (ae : Nat) (bk : Int32) (ac : Nat) (ar : Nat) (as_ : Nat) (m : MethodId) : entryFrame m #[(.ref af), (.ref al), (.ref ae), (.int bk), (.ref ac), (.ref ar), (.ref as_)] 11 = mkF m 0 #[.val (.ref af), .val (.ref al), .val (.ref ae), .val (.int bk), .val (.ref ac), .val (.ref ar), .val (.ref as_), .unset, .unset, .unset, .unset] [] := by first | (simp [entryFrame, mkF, argsToLocals, Value.category]; done) | rfl
set_option maxRecDepth 65536 in
set_option maxHeartbeats 40000000 in
theorem rm_lay022 (l : Launch) (Z : State) (a0 : Array Value) (hw : ∀ d ∈ tables_1, d.before a0 Z = true) (af : Nat) (al : Nat) (ae : Nat) (bk : Int32) (ac : Nat) (ar : Nat) (as_ : Nat) (h0 : Heap) (n0 : Nat) (Z0 : n0 ≤ h0.size) (f0 f1 f2 f3 l0 l1 l2 l3 sv : Int32) (A0 : OAry Z h0 af .int [(.int f0), (.int f1), (.int f2), (.int f3)]) (A1 : OAry Z h0 al .int [(.int l0), (.int l1), (.int l2), (.int l3)]) (A2 : OAry Z h0 ae .int [(.int (2 : Int32)), (.int (4 : Int32))]) (A3 : OAry Z h0 ac .int [(.int sv), (.int sv), (.int sv)]) (A4 : OAry Z h0 ar .int [(.int sv), (.int sv), (.int sv), (.int sv)]) (A5 : OAry Z h0 as_ .int [(.int sv), (.int sv), (.int sv), (.int sv)]) (o0 : af < al) (o1 : al < ae) (o2 : ae < ac) (o3 : ac < ar) (o4 : ar < as_) (g3 : n0 ≤ ac) (g4 : n0 ≤ ar) (g5 : n0 ≤ as_) (hb : bk = 0) :
    OMet l Z n0 (⟨"termstone/postings/Impacts", "lay", "([I[I[II[I[I[I)V"⟩ : MethodName) prog_78_method_3_code 11 none ({ frames := 0, cells := 0, slots := 0, locals := 0 } : Room) #[(.ref af), (.ref al), (.ref ae), (.int bk), (.ref ac), (.ref ar), (.ref as_)] h0 (fun v h => v = none ∧ OAry Z h af .int [(.int f0), (.int f1), (.int f2), (.int f3)] ∧ OAry Z h al .int [(.int l0), (.int l1), (.int l2), (.int l3)] ∧ OAry Z h ae .int [(.int (2 : Int32)), (.int (4 : Int32))] ∧ OAry Z h ac .int [(.int (1 : Int32)), (.int sv), (.int sv)] ∧ OAry Z h ar .int [(.int ((f0 - (0 : Int32)) - (1 : Int32))), (.int ((f1 - f0) - (1 : Int32))), (.int sv), (.int sv)] ∧ OAry Z h as_ .int [(.int ((l0 - (-1 : Int32)) - (1 : Int32))), (.int ((l1 - l0) - (1 : Int32))), (.int sv), (.int sv)]) := by
  refine OMet.of pn_rm_lay022 Z0 (ef_rm_lay022 af al ae bk ac ar as_) ?_
  intro p e s m below meth c T H
  subst hb
  refine Own.iconst H (pc := 0) (0) d1_0 rfl ?_
  refine Own.istore H (pc := 1) #[.val (.ref af), .val (.ref al), .val (.ref ae), .val (.int (0 : Int32)), .val (.ref ac), .val (.ref ar), .val (.ref as_), .val (.int (0 : Int32)), .unset, .unset, .unset] d1_1 rfl ?_
  refine Own.iconst H (pc := 3) (0) d1_3 rfl ?_
  refine Own.istore H (pc := 4) #[.val (.ref af), .val (.ref al), .val (.ref ae), .val (.int (0 : Int32)), .val (.ref ac), .val (.ref ar), .val (.ref as_), .val (.int (0 : Int32)), .val (.int (0 : Int32)), .unset, .unset] d1_4 rfl ?_
  refine Own.iload H (pc := 6) d1_6 rfl ?_
  refine Own.iload_n H (pc := 8) d1_8 rfl ?_
  refine Own.icmp_gt H (pc := 9) 125 d1_9 (by decide) (by decide) (fun hc => absurd hc (by decide)) (fun _ => ?_)
  refine Own.aload H (pc := 12) d1_12 rfl rfl ?_
  refine Own.iload H (pc := 14) d1_14 rfl ?_
  refine Own.aload_n H (pc := 16) d1_16 rfl rfl ?_
  refine Own.iload H (pc := 17) d1_17 rfl ?_
  refine Own.iaload H (pc := 19) (v := (2 : Int32)) 0 d1_19 A2 rfl rfl ?_
  refine Own.iload H (pc := 20) d1_20 rfl ?_
  refine Own.isub_c H (pc := 22) (2) d1_22 (by decide) ?_
  refine Own.iconst H (pc := 23) (1) d1_23 rfl ?_
  refine Own.isub_c H (pc := 24) (1) d1_24 (by decide) ?_
  refine Own.iastore H (pc := 25) 0 d1_25 A3 g3 rfl (by simp) (fun T_123 h_124 H_122 W_125 A_126 => ?_)
  have A_127 := A0.other W_125 (by omega)
  have A_128 := A1.other W_125 (by omega)
  have A_129 := A2.other W_125 (by omega)
  have A_130 : OAry Z h_124 ac .int [(.int (1 : Int32)), (.int sv), (.int sv)] := A_126
  have A_131 := A4.other W_125 (by omega)
  have A_132 := A5.other W_125 (by omega)
  refine Own.iload H_122 (pc := 26) d1_26 rfl ?_
  refine Own.istore H_122 (pc := 28) #[.val (.ref af), .val (.ref al), .val (.ref ae), .val (.int (0 : Int32)), .val (.ref ac), .val (.ref ar), .val (.ref as_), .val (.int (0 : Int32)), .val (.int (0 : Int32)), .val (.int (0 : Int32)), .unset] d1_28 rfl ?_
  refine Own.iload H_122 (pc := 30) d1_30 rfl ?_
  refine Own.aload_n H_122 (pc := 32) d1_32 rfl rfl ?_
  refine Own.iload H_122 (pc := 33) d1_33 rfl ?_
  refine Own.iaload H_122 (pc := 35) (v := (2 : Int32)) 0 d1_35 A_129 rfl rfl ?_
  refine Own.icmp_ge H_122 (pc := 36) 113 d1_36 (by decide) (by decide) (fun hc => absurd hc (by decide)) (fun _ => ?_)
  refine Own.iload H_122 (pc := 39) d1_39 rfl ?_
  refine Own.iload H_122 (pc := 41) d1_41 rfl ?_
  refine Own.icmp_ne H_122 (pc := 43) 50 d1_43 (by decide) (by decide) (fun hc => absurd hc (by decide)) (fun _ => ?_)
  refine Own.iconst H_122 (pc := 46) (1) d1_46 rfl ?_
  refine Own.goto H_122 (pc := 47) 51 d1_47 (by decide) (by decide) ?_
  refine Own.istore H_122 (pc := 51) #[.val (.ref af), .val (.ref al), .val (.ref ae), .val (.int (0 : Int32)), .val (.ref ac), .val (.ref ar), .val (.ref as_), .val (.int (0 : Int32)), .val (.int (0 : Int32)), .val (.int (0 : Int32)), .val (.int (1 : Int32))] d1_51 rfl ?_
  refine Own.aload H_122 (pc := 53) d1_53 rfl rfl ?_
  refine Own.iload H_122 (pc := 55) d1_55 rfl ?_
  refine Own.aload_n H_122 (pc := 57) d1_57 rfl rfl ?_
  refine Own.iload H_122 (pc := 58) d1_58 rfl ?_
  refine Own.iaload H_122 (pc := 60) (v := f0) 0 d1_60 A_127 rfl rfl ?_
  refine Own.iload H_122 (pc := 61) d1_61 rfl ?_
  refine Own.if_eq H_122 (pc := 63) 70 d1_63 (by decide) (by decide) (fun hc => absurd hc (by decide)) (fun _ => ?_)
  refine Own.iconst H_122 (pc := 66) (0) d1_66 rfl ?_
  refine Own.goto H_122 (pc := 67) 76 d1_67 (by decide) (by decide) ?_
  refine Own.isub H_122 (pc := 76) d1_76 ?_
  refine Own.iconst H_122 (pc := 77) (1) d1_77 rfl ?_
  refine Own.isub H_122 (pc := 78) d1_78 ?_
  refine Own.iastore H_122 (pc := 79) 0 d1_79 A_131 g4 rfl (by simp) (fun T_134 h_135 H_133 W_136 A_137 => ?_)
  have A_138 := A_127.other W_136 (by omega)
  have A_139 := A_128.other W_136 (by omega)
  have A_140 := A_129.other W_136 (by omega)
  have A_141 := A_130.other W_136 (by omega)
  have A_142 : OAry Z h_135 ar .int [(.int ((f0 - (0 : Int32)) - (1 : Int32))), (.int sv), (.int sv), (.int sv)] := A_137
  have A_143 := A_132.other W_136 (by omega)
  refine Own.aload H_133 (pc := 80) d1_80 rfl rfl ?_
  refine Own.iload H_133 (pc := 82) d1_82 rfl ?_
  refine Own.aload_n H_133 (pc := 84) d1_84 rfl rfl ?_
  refine Own.iload H_133 (pc := 85) d1_85 rfl ?_
  refine Own.iaload H_133 (pc := 87) (v := l0) 0 d1_87 A_139 rfl rfl ?_
  refine Own.iload H_133 (pc := 88) d1_88 rfl ?_
  refine Own.if_eq H_133 (pc := 90) 97 d1_90 (by decide) (by decide) (fun hc => absurd hc (by decide)) (fun _ => ?_)
  refine Own.iconst H_133 (pc := 93) (-1) d1_93 rfl ?_
  refine Own.goto H_133 (pc := 94) 103 d1_94 (by decide) (by decide) ?_
  refine Own.isub H_133 (pc := 103) d1_103 ?_
  refine Own.iconst H_133 (pc := 104) (1) d1_104 rfl ?_
  refine Own.isub H_133 (pc := 105) d1_105 ?_
  refine Own.iastore H_133 (pc := 106) 0 d1_106 A_143 g5 rfl (by simp) (fun T_145 h_146 H_144 W_147 A_148 => ?_)
  have A_149 := A_138.other W_147 (by omega)
  have A_150 := A_139.other W_147 (by omega)
  have A_151 := A_140.other W_147 (by omega)
  have A_152 := A_141.other W_147 (by omega)
  have A_153 := A_142.other W_147 (by omega)
  have A_154 : OAry Z h_146 as_ .int [(.int ((l0 - (-1 : Int32)) - (1 : Int32))), (.int sv), (.int sv), (.int sv)] := A_148
  refine Own.iinc_c H_144 (pc := 107) (1) #[.val (.ref af), .val (.ref al), .val (.ref ae), .val (.int (0 : Int32)), .val (.ref ac), .val (.ref ar), .val (.ref as_), .val (.int (0 : Int32)), .val (.int (0 : Int32)), .val (.int (1 : Int32)), .val (.int (1 : Int32))] d1_107 rfl (by decide) rfl ?_
  refine Own.goto H_144 (pc := 110) 30 d1_110 (by decide) (by decide) ?_
  refine Own.iload H_144 (pc := 30) d1_30 rfl ?_
  refine Own.aload_n H_144 (pc := 32) d1_32 rfl rfl ?_
  refine Own.iload H_144 (pc := 33) d1_33 rfl ?_
  refine Own.iaload H_144 (pc := 35) (v := (2 : Int32)) 0 d1_35 A_151 rfl rfl ?_
  refine Own.icmp_ge H_144 (pc := 36) 113 d1_36 (by decide) (by decide) (fun hc => absurd hc (by decide)) (fun _ => ?_)
  refine Own.iload H_144 (pc := 39) d1_39 rfl ?_
  refine Own.iload H_144 (pc := 41) d1_41 rfl ?_
  refine Own.icmp_ne H_144 (pc := 43) 50 d1_43 (by decide) (by decide) (fun _ => ?_) (fun hc => absurd hc (by decide))
  refine Own.iconst H_144 (pc := 50) (0) d1_50 rfl ?_
  refine Own.istore H_144 (pc := 51) #[.val (.ref af), .val (.ref al), .val (.ref ae), .val (.int (0 : Int32)), .val (.ref ac), .val (.ref ar), .val (.ref as_), .val (.int (0 : Int32)), .val (.int (0 : Int32)), .val (.int (1 : Int32)), .val (.int (0 : Int32))] d1_51 rfl ?_
  refine Own.aload H_144 (pc := 53) d1_53 rfl rfl ?_
  refine Own.iload H_144 (pc := 55) d1_55 rfl ?_
  refine Own.aload_n H_144 (pc := 57) d1_57 rfl rfl ?_
  refine Own.iload H_144 (pc := 58) d1_58 rfl ?_
  refine Own.iaload H_144 (pc := 60) (v := f1) 1 d1_60 A_149 rfl rfl ?_
  refine Own.iload H_144 (pc := 61) d1_61 rfl ?_
  refine Own.if_eq H_144 (pc := 63) 70 d1_63 (by decide) (by decide) (fun _ => ?_) (fun hc => absurd hc (by decide))
  refine Own.aload_n H_144 (pc := 70) d1_70 rfl rfl ?_
  refine Own.iload H_144 (pc := 71) d1_71 rfl ?_
  refine Own.iconst H_144 (pc := 73) (1) d1_73 rfl ?_
  refine Own.isub_c H_144 (pc := 74) (0) d1_74 (by decide) ?_
  refine Own.iaload H_144 (pc := 75) (v := f0) 0 d1_75 A_149 rfl rfl ?_
  refine Own.isub H_144 (pc := 76) d1_76 ?_
  refine Own.iconst H_144 (pc := 77) (1) d1_77 rfl ?_
  refine Own.isub H_144 (pc := 78) d1_78 ?_
  refine Own.iastore H_144 (pc := 79) 1 d1_79 A_153 g4 rfl (by simp) (fun T_156 h_157 H_155 W_158 A_159 => ?_)
  have A_160 := A_149.other W_158 (by omega)
  have A_161 := A_150.other W_158 (by omega)
  have A_162 := A_151.other W_158 (by omega)
  have A_163 := A_152.other W_158 (by omega)
  have A_164 : OAry Z h_157 ar .int [(.int ((f0 - (0 : Int32)) - (1 : Int32))), (.int ((f1 - f0) - (1 : Int32))), (.int sv), (.int sv)] := A_159
  have A_165 := A_154.other W_158 (by omega)
  refine Own.aload H_155 (pc := 80) d1_80 rfl rfl ?_
  refine Own.iload H_155 (pc := 82) d1_82 rfl ?_
  refine Own.aload_n H_155 (pc := 84) d1_84 rfl rfl ?_
  refine Own.iload H_155 (pc := 85) d1_85 rfl ?_
  refine Own.iaload H_155 (pc := 87) (v := l1) 1 d1_87 A_161 rfl rfl ?_
  refine Own.iload H_155 (pc := 88) d1_88 rfl ?_
  refine Own.if_eq H_155 (pc := 90) 97 d1_90 (by decide) (by decide) (fun _ => ?_) (fun hc => absurd hc (by decide))
  refine Own.aload_n H_155 (pc := 97) d1_97 rfl rfl ?_
  refine Own.iload H_155 (pc := 98) d1_98 rfl ?_
  refine Own.iconst H_155 (pc := 100) (1) d1_100 rfl ?_
  refine Own.isub_c H_155 (pc := 101) (0) d1_101 (by decide) ?_
  refine Own.iaload H_155 (pc := 102) (v := l0) 0 d1_102 A_161 rfl rfl ?_
  refine Own.isub H_155 (pc := 103) d1_103 ?_
  refine Own.iconst H_155 (pc := 104) (1) d1_104 rfl ?_
  refine Own.isub H_155 (pc := 105) d1_105 ?_
  refine Own.iastore H_155 (pc := 106) 1 d1_106 A_165 g5 rfl (by simp) (fun T_167 h_168 H_166 W_169 A_170 => ?_)
  have A_171 := A_160.other W_169 (by omega)
  have A_172 := A_161.other W_169 (by omega)
  have A_173 := A_162.other W_169 (by omega)
  have A_174 := A_163.other W_169 (by omega)
  have A_175 := A_164.other W_169 (by omega)
  have A_176 : OAry Z h_168 as_ .int [(.int ((l0 - (-1 : Int32)) - (1 : Int32))), (.int ((l1 - l0) - (1 : Int32))), (.int sv), (.int sv)] := A_170
  refine Own.iinc_c H_166 (pc := 107) (2) #[.val (.ref af), .val (.ref al), .val (.ref ae), .val (.int (0 : Int32)), .val (.ref ac), .val (.ref ar), .val (.ref as_), .val (.int (0 : Int32)), .val (.int (0 : Int32)), .val (.int (2 : Int32)), .val (.int (0 : Int32))] d1_107 rfl (by decide) rfl ?_
  refine Own.goto H_166 (pc := 110) 30 d1_110 (by decide) (by decide) ?_
  refine Own.iload H_166 (pc := 30) d1_30 rfl ?_
  refine Own.aload_n H_166 (pc := 32) d1_32 rfl rfl ?_
  refine Own.iload H_166 (pc := 33) d1_33 rfl ?_
  refine Own.iaload H_166 (pc := 35) (v := (2 : Int32)) 0 d1_35 A_173 rfl rfl ?_
  refine Own.icmp_ge H_166 (pc := 36) 113 d1_36 (by decide) (by decide) (fun _ => ?_) (fun hc => absurd hc (by decide))
  refine Own.aload_n H_166 (pc := 113) d1_113 rfl rfl ?_
  refine Own.iload H_166 (pc := 114) d1_114 rfl ?_
  refine Own.iaload H_166 (pc := 116) (v := (2 : Int32)) 0 d1_116 A_173 rfl rfl ?_
  refine Own.istore H_166 (pc := 117) #[.val (.ref af), .val (.ref al), .val (.ref ae), .val (.int (0 : Int32)), .val (.ref ac), .val (.ref ar), .val (.ref as_), .val (.int (2 : Int32)), .val (.int (0 : Int32)), .val (.int (2 : Int32)), .val (.int (0 : Int32))] d1_117 rfl ?_
  refine Own.iinc_c H_166 (pc := 119) (1) #[.val (.ref af), .val (.ref al), .val (.ref ae), .val (.int (0 : Int32)), .val (.ref ac), .val (.ref ar), .val (.ref as_), .val (.int (2 : Int32)), .val (.int (1 : Int32)), .val (.int (2 : Int32)), .val (.int (0 : Int32))] d1_119 rfl (by decide) rfl ?_
  refine Own.goto H_166 (pc := 122) 6 d1_122 (by decide) (by decide) ?_
  refine Own.iload H_166 (pc := 6) d1_6 rfl ?_
  refine Own.iload_n H_166 (pc := 8) d1_8 rfl ?_
  refine Own.icmp_gt H_166 (pc := 9) 125 d1_9 (by decide) (by decide) (fun _ => ?_) (fun hc => absurd hc (by decide))
  exact Own.ret_void H_166 (pc := 125) d1_125 rfl (by decide) (by decide) (⟨rfl, A_171, A_172, A_173, A_174, A_175, A_176⟩)
theorem pn_rm_lay111 : plainFor (⟨"termstone/postings/Impacts", "lay", "([I[I[II[I[I[I)V"⟩ : MethodName) = true := by first | exact plainFor_of_name (by first | (simp [plainName, overriddenIn]; done) | decide +kernel) | decide +kernel
theorem ef_rm_lay111 (af : Nat) (al : Nat) (ae : Nat) (bk : Int32) (ac : Nat) (ar : Nat) (as_ : Nat) (m : MethodId) : entryFrame m #[(.ref af), (.ref al), (.ref ae), (.int bk), (.ref ac), (.ref ar), (.ref as_)] 11 = mkF m 0 #[.val (.ref af), .val (.ref al), .val (.ref ae), .val (.int bk), .val (.ref ac), .val (.ref ar), .val (.ref as_), .unset, .unset, .unset, .unset] [] := by first | (simp [entryFrame, mkF, argsToLocals, Value.category]; done) | rfl
set_option maxRecDepth 65536 in
set_option maxHeartbeats 40000000 in
theorem rm_lay111 (l : Launch) (Z : State) (a0 : Array Value) (hw : ∀ d ∈ tables_1, d.before a0 Z = true) (af : Nat) (al : Nat) (ae : Nat) (bk : Int32) (ac : Nat) (ar : Nat) (as_ : Nat) (h0 : Heap) (n0 : Nat) (Z0 : n0 ≤ h0.size) (f0 f1 f2 f3 l0 l1 l2 l3 sv : Int32) (A0 : OAry Z h0 af .int [(.int f0), (.int f1), (.int f2), (.int f3)]) (A1 : OAry Z h0 al .int [(.int l0), (.int l1), (.int l2), (.int l3)]) (A2 : OAry Z h0 ae .int [(.int (1 : Int32)), (.int (2 : Int32))]) (A3 : OAry Z h0 ac .int [(.int sv), (.int sv), (.int sv)]) (A4 : OAry Z h0 ar .int [(.int sv), (.int sv), (.int sv), (.int sv)]) (A5 : OAry Z h0 as_ .int [(.int sv), (.int sv), (.int sv), (.int sv)]) (o0 : af < al) (o1 : al < ae) (o2 : ae < ac) (o3 : ac < ar) (o4 : ar < as_) (g3 : n0 ≤ ac) (g4 : n0 ≤ ar) (g5 : n0 ≤ as_) (hb : bk = 1) :
    OMet l Z n0 (⟨"termstone/postings/Impacts", "lay", "([I[I[II[I[I[I)V"⟩ : MethodName) prog_78_method_3_code 11 none ({ frames := 0, cells := 0, slots := 0, locals := 0 } : Room) #[(.ref af), (.ref al), (.ref ae), (.int bk), (.ref ac), (.ref ar), (.ref as_)] h0 (fun v h => v = none ∧ OAry Z h af .int [(.int f0), (.int f1), (.int f2), (.int f3)] ∧ OAry Z h al .int [(.int l0), (.int l1), (.int l2), (.int l3)] ∧ OAry Z h ae .int [(.int (1 : Int32)), (.int (2 : Int32))] ∧ OAry Z h ac .int [(.int (0 : Int32)), (.int (0 : Int32)), (.int sv)] ∧ OAry Z h ar .int [(.int ((f0 - (0 : Int32)) - (1 : Int32))), (.int ((f1 - (0 : Int32)) - (1 : Int32))), (.int sv), (.int sv)] ∧ OAry Z h as_ .int [(.int ((l0 - (-1 : Int32)) - (1 : Int32))), (.int ((l1 - (-1 : Int32)) - (1 : Int32))), (.int sv), (.int sv)]) := by
  refine OMet.of pn_rm_lay111 Z0 (ef_rm_lay111 af al ae bk ac ar as_) ?_
  intro p e s m below meth c T H
  subst hb
  refine Own.iconst H (pc := 0) (0) d1_0 rfl ?_
  refine Own.istore H (pc := 1) #[.val (.ref af), .val (.ref al), .val (.ref ae), .val (.int (1 : Int32)), .val (.ref ac), .val (.ref ar), .val (.ref as_), .val (.int (0 : Int32)), .unset, .unset, .unset] d1_1 rfl ?_
  refine Own.iconst H (pc := 3) (0) d1_3 rfl ?_
  refine Own.istore H (pc := 4) #[.val (.ref af), .val (.ref al), .val (.ref ae), .val (.int (1 : Int32)), .val (.ref ac), .val (.ref ar), .val (.ref as_), .val (.int (0 : Int32)), .val (.int (0 : Int32)), .unset, .unset] d1_4 rfl ?_
  refine Own.iload H (pc := 6) d1_6 rfl ?_
  refine Own.iload_n H (pc := 8) d1_8 rfl ?_
  refine Own.icmp_gt H (pc := 9) 125 d1_9 (by decide) (by decide) (fun hc => absurd hc (by decide)) (fun _ => ?_)
  refine Own.aload H (pc := 12) d1_12 rfl rfl ?_
  refine Own.iload H (pc := 14) d1_14 rfl ?_
  refine Own.aload_n H (pc := 16) d1_16 rfl rfl ?_
  refine Own.iload H (pc := 17) d1_17 rfl ?_
  refine Own.iaload H (pc := 19) (v := (1 : Int32)) 0 d1_19 A2 rfl rfl ?_
  refine Own.iload H (pc := 20) d1_20 rfl ?_
  refine Own.isub_c H (pc := 22) (1) d1_22 (by decide) ?_
  refine Own.iconst H (pc := 23) (1) d1_23 rfl ?_
  refine Own.isub_c H (pc := 24) (0) d1_24 (by decide) ?_
  refine Own.iastore H (pc := 25) 0 d1_25 A3 g3 rfl (by simp) (fun T_178 h_179 H_177 W_180 A_181 => ?_)
  have A_182 := A0.other W_180 (by omega)
  have A_183 := A1.other W_180 (by omega)
  have A_184 := A2.other W_180 (by omega)
  have A_185 : OAry Z h_179 ac .int [(.int (0 : Int32)), (.int sv), (.int sv)] := A_181
  have A_186 := A4.other W_180 (by omega)
  have A_187 := A5.other W_180 (by omega)
  refine Own.iload H_177 (pc := 26) d1_26 rfl ?_
  refine Own.istore H_177 (pc := 28) #[.val (.ref af), .val (.ref al), .val (.ref ae), .val (.int (1 : Int32)), .val (.ref ac), .val (.ref ar), .val (.ref as_), .val (.int (0 : Int32)), .val (.int (0 : Int32)), .val (.int (0 : Int32)), .unset] d1_28 rfl ?_
  refine Own.iload H_177 (pc := 30) d1_30 rfl ?_
  refine Own.aload_n H_177 (pc := 32) d1_32 rfl rfl ?_
  refine Own.iload H_177 (pc := 33) d1_33 rfl ?_
  refine Own.iaload H_177 (pc := 35) (v := (1 : Int32)) 0 d1_35 A_184 rfl rfl ?_
  refine Own.icmp_ge H_177 (pc := 36) 113 d1_36 (by decide) (by decide) (fun hc => absurd hc (by decide)) (fun _ => ?_)
  refine Own.iload H_177 (pc := 39) d1_39 rfl ?_
  refine Own.iload H_177 (pc := 41) d1_41 rfl ?_
  refine Own.icmp_ne H_177 (pc := 43) 50 d1_43 (by decide) (by decide) (fun hc => absurd hc (by decide)) (fun _ => ?_)
  refine Own.iconst H_177 (pc := 46) (1) d1_46 rfl ?_
  refine Own.goto H_177 (pc := 47) 51 d1_47 (by decide) (by decide) ?_
  refine Own.istore H_177 (pc := 51) #[.val (.ref af), .val (.ref al), .val (.ref ae), .val (.int (1 : Int32)), .val (.ref ac), .val (.ref ar), .val (.ref as_), .val (.int (0 : Int32)), .val (.int (0 : Int32)), .val (.int (0 : Int32)), .val (.int (1 : Int32))] d1_51 rfl ?_
  refine Own.aload H_177 (pc := 53) d1_53 rfl rfl ?_
  refine Own.iload H_177 (pc := 55) d1_55 rfl ?_
  refine Own.aload_n H_177 (pc := 57) d1_57 rfl rfl ?_
  refine Own.iload H_177 (pc := 58) d1_58 rfl ?_
  refine Own.iaload H_177 (pc := 60) (v := f0) 0 d1_60 A_182 rfl rfl ?_
  refine Own.iload H_177 (pc := 61) d1_61 rfl ?_
  refine Own.if_eq H_177 (pc := 63) 70 d1_63 (by decide) (by decide) (fun hc => absurd hc (by decide)) (fun _ => ?_)
  refine Own.iconst H_177 (pc := 66) (0) d1_66 rfl ?_
  refine Own.goto H_177 (pc := 67) 76 d1_67 (by decide) (by decide) ?_
  refine Own.isub H_177 (pc := 76) d1_76 ?_
  refine Own.iconst H_177 (pc := 77) (1) d1_77 rfl ?_
  refine Own.isub H_177 (pc := 78) d1_78 ?_
  refine Own.iastore H_177 (pc := 79) 0 d1_79 A_186 g4 rfl (by simp) (fun T_189 h_190 H_188 W_191 A_192 => ?_)
  have A_193 := A_182.other W_191 (by omega)
  have A_194 := A_183.other W_191 (by omega)
  have A_195 := A_184.other W_191 (by omega)
  have A_196 := A_185.other W_191 (by omega)
  have A_197 : OAry Z h_190 ar .int [(.int ((f0 - (0 : Int32)) - (1 : Int32))), (.int sv), (.int sv), (.int sv)] := A_192
  have A_198 := A_187.other W_191 (by omega)
  refine Own.aload H_188 (pc := 80) d1_80 rfl rfl ?_
  refine Own.iload H_188 (pc := 82) d1_82 rfl ?_
  refine Own.aload_n H_188 (pc := 84) d1_84 rfl rfl ?_
  refine Own.iload H_188 (pc := 85) d1_85 rfl ?_
  refine Own.iaload H_188 (pc := 87) (v := l0) 0 d1_87 A_194 rfl rfl ?_
  refine Own.iload H_188 (pc := 88) d1_88 rfl ?_
  refine Own.if_eq H_188 (pc := 90) 97 d1_90 (by decide) (by decide) (fun hc => absurd hc (by decide)) (fun _ => ?_)
  refine Own.iconst H_188 (pc := 93) (-1) d1_93 rfl ?_
  refine Own.goto H_188 (pc := 94) 103 d1_94 (by decide) (by decide) ?_
  refine Own.isub H_188 (pc := 103) d1_103 ?_
  refine Own.iconst H_188 (pc := 104) (1) d1_104 rfl ?_
  refine Own.isub H_188 (pc := 105) d1_105 ?_
  refine Own.iastore H_188 (pc := 106) 0 d1_106 A_198 g5 rfl (by simp) (fun T_200 h_201 H_199 W_202 A_203 => ?_)
  have A_204 := A_193.other W_202 (by omega)
  have A_205 := A_194.other W_202 (by omega)
  have A_206 := A_195.other W_202 (by omega)
  have A_207 := A_196.other W_202 (by omega)
  have A_208 := A_197.other W_202 (by omega)
  have A_209 : OAry Z h_201 as_ .int [(.int ((l0 - (-1 : Int32)) - (1 : Int32))), (.int sv), (.int sv), (.int sv)] := A_203
  refine Own.iinc_c H_199 (pc := 107) (1) #[.val (.ref af), .val (.ref al), .val (.ref ae), .val (.int (1 : Int32)), .val (.ref ac), .val (.ref ar), .val (.ref as_), .val (.int (0 : Int32)), .val (.int (0 : Int32)), .val (.int (1 : Int32)), .val (.int (1 : Int32))] d1_107 rfl (by decide) rfl ?_
  refine Own.goto H_199 (pc := 110) 30 d1_110 (by decide) (by decide) ?_
  refine Own.iload H_199 (pc := 30) d1_30 rfl ?_
  refine Own.aload_n H_199 (pc := 32) d1_32 rfl rfl ?_
  refine Own.iload H_199 (pc := 33) d1_33 rfl ?_
  refine Own.iaload H_199 (pc := 35) (v := (1 : Int32)) 0 d1_35 A_206 rfl rfl ?_
  refine Own.icmp_ge H_199 (pc := 36) 113 d1_36 (by decide) (by decide) (fun _ => ?_) (fun hc => absurd hc (by decide))
  refine Own.aload_n H_199 (pc := 113) d1_113 rfl rfl ?_
  refine Own.iload H_199 (pc := 114) d1_114 rfl ?_
  refine Own.iaload H_199 (pc := 116) (v := (1 : Int32)) 0 d1_116 A_206 rfl rfl ?_
  refine Own.istore H_199 (pc := 117) #[.val (.ref af), .val (.ref al), .val (.ref ae), .val (.int (1 : Int32)), .val (.ref ac), .val (.ref ar), .val (.ref as_), .val (.int (1 : Int32)), .val (.int (0 : Int32)), .val (.int (1 : Int32)), .val (.int (1 : Int32))] d1_117 rfl ?_
  refine Own.iinc_c H_199 (pc := 119) (1) #[.val (.ref af), .val (.ref al), .val (.ref ae), .val (.int (1 : Int32)), .val (.ref ac), .val (.ref ar), .val (.ref as_), .val (.int (1 : Int32)), .val (.int (1 : Int32)), .val (.int (1 : Int32)), .val (.int (1 : Int32))] d1_119 rfl (by decide) rfl ?_
  refine Own.goto H_199 (pc := 122) 6 d1_122 (by decide) (by decide) ?_
  refine Own.iload H_199 (pc := 6) d1_6 rfl ?_
  refine Own.iload_n H_199 (pc := 8) d1_8 rfl ?_
  refine Own.icmp_gt H_199 (pc := 9) 125 d1_9 (by decide) (by decide) (fun hc => absurd hc (by decide)) (fun _ => ?_)
  refine Own.aload H_199 (pc := 12) d1_12 rfl rfl ?_
  refine Own.iload H_199 (pc := 14) d1_14 rfl ?_
  refine Own.aload_n H_199 (pc := 16) d1_16 rfl rfl ?_
  refine Own.iload H_199 (pc := 17) d1_17 rfl ?_
  refine Own.iaload H_199 (pc := 19) (v := (2 : Int32)) 1 d1_19 A_206 rfl rfl ?_
  refine Own.iload H_199 (pc := 20) d1_20 rfl ?_
  refine Own.isub_c H_199 (pc := 22) (1) d1_22 (by decide) ?_
  refine Own.iconst H_199 (pc := 23) (1) d1_23 rfl ?_
  refine Own.isub_c H_199 (pc := 24) (0) d1_24 (by decide) ?_
  refine Own.iastore H_199 (pc := 25) 1 d1_25 A_207 g3 rfl (by simp) (fun T_211 h_212 H_210 W_213 A_214 => ?_)
  have A_215 := A_204.other W_213 (by omega)
  have A_216 := A_205.other W_213 (by omega)
  have A_217 := A_206.other W_213 (by omega)
  have A_218 : OAry Z h_212 ac .int [(.int (0 : Int32)), (.int (0 : Int32)), (.int sv)] := A_214
  have A_219 := A_208.other W_213 (by omega)
  have A_220 := A_209.other W_213 (by omega)
  refine Own.iload H_210 (pc := 26) d1_26 rfl ?_
  refine Own.istore H_210 (pc := 28) #[.val (.ref af), .val (.ref al), .val (.ref ae), .val (.int (1 : Int32)), .val (.ref ac), .val (.ref ar), .val (.ref as_), .val (.int (1 : Int32)), .val (.int (1 : Int32)), .val (.int (1 : Int32)), .val (.int (1 : Int32))] d1_28 rfl ?_
  refine Own.iload H_210 (pc := 30) d1_30 rfl ?_
  refine Own.aload_n H_210 (pc := 32) d1_32 rfl rfl ?_
  refine Own.iload H_210 (pc := 33) d1_33 rfl ?_
  refine Own.iaload H_210 (pc := 35) (v := (2 : Int32)) 1 d1_35 A_217 rfl rfl ?_
  refine Own.icmp_ge H_210 (pc := 36) 113 d1_36 (by decide) (by decide) (fun hc => absurd hc (by decide)) (fun _ => ?_)
  refine Own.iload H_210 (pc := 39) d1_39 rfl ?_
  refine Own.iload H_210 (pc := 41) d1_41 rfl ?_
  refine Own.icmp_ne H_210 (pc := 43) 50 d1_43 (by decide) (by decide) (fun hc => absurd hc (by decide)) (fun _ => ?_)
  refine Own.iconst H_210 (pc := 46) (1) d1_46 rfl ?_
  refine Own.goto H_210 (pc := 47) 51 d1_47 (by decide) (by decide) ?_
  refine Own.istore H_210 (pc := 51) #[.val (.ref af), .val (.ref al), .val (.ref ae), .val (.int (1 : Int32)), .val (.ref ac), .val (.ref ar), .val (.ref as_), .val (.int (1 : Int32)), .val (.int (1 : Int32)), .val (.int (1 : Int32)), .val (.int (1 : Int32))] d1_51 rfl ?_
  refine Own.aload H_210 (pc := 53) d1_53 rfl rfl ?_
  refine Own.iload H_210 (pc := 55) d1_55 rfl ?_
  refine Own.aload_n H_210 (pc := 57) d1_57 rfl rfl ?_
  refine Own.iload H_210 (pc := 58) d1_58 rfl ?_
  refine Own.iaload H_210 (pc := 60) (v := f1) 1 d1_60 A_215 rfl rfl ?_
  refine Own.iload H_210 (pc := 61) d1_61 rfl ?_
  refine Own.if_eq H_210 (pc := 63) 70 d1_63 (by decide) (by decide) (fun hc => absurd hc (by decide)) (fun _ => ?_)
  refine Own.iconst H_210 (pc := 66) (0) d1_66 rfl ?_
  refine Own.goto H_210 (pc := 67) 76 d1_67 (by decide) (by decide) ?_
  refine Own.isub H_210 (pc := 76) d1_76 ?_
  refine Own.iconst H_210 (pc := 77) (1) d1_77 rfl ?_
  refine Own.isub H_210 (pc := 78) d1_78 ?_
  refine Own.iastore H_210 (pc := 79) 1 d1_79 A_219 g4 rfl (by simp) (fun T_222 h_223 H_221 W_224 A_225 => ?_)
  have A_226 := A_215.other W_224 (by omega)
  have A_227 := A_216.other W_224 (by omega)
  have A_228 := A_217.other W_224 (by omega)
  have A_229 := A_218.other W_224 (by omega)
  have A_230 : OAry Z h_223 ar .int [(.int ((f0 - (0 : Int32)) - (1 : Int32))), (.int ((f1 - (0 : Int32)) - (1 : Int32))), (.int sv), (.int sv)] := A_225
  have A_231 := A_220.other W_224 (by omega)
  refine Own.aload H_221 (pc := 80) d1_80 rfl rfl ?_
  refine Own.iload H_221 (pc := 82) d1_82 rfl ?_
  refine Own.aload_n H_221 (pc := 84) d1_84 rfl rfl ?_
  refine Own.iload H_221 (pc := 85) d1_85 rfl ?_
  refine Own.iaload H_221 (pc := 87) (v := l1) 1 d1_87 A_227 rfl rfl ?_
  refine Own.iload H_221 (pc := 88) d1_88 rfl ?_
  refine Own.if_eq H_221 (pc := 90) 97 d1_90 (by decide) (by decide) (fun hc => absurd hc (by decide)) (fun _ => ?_)
  refine Own.iconst H_221 (pc := 93) (-1) d1_93 rfl ?_
  refine Own.goto H_221 (pc := 94) 103 d1_94 (by decide) (by decide) ?_
  refine Own.isub H_221 (pc := 103) d1_103 ?_
  refine Own.iconst H_221 (pc := 104) (1) d1_104 rfl ?_
  refine Own.isub H_221 (pc := 105) d1_105 ?_
  refine Own.iastore H_221 (pc := 106) 1 d1_106 A_231 g5 rfl (by simp) (fun T_233 h_234 H_232 W_235 A_236 => ?_)
  have A_237 := A_226.other W_235 (by omega)
  have A_238 := A_227.other W_235 (by omega)
  have A_239 := A_228.other W_235 (by omega)
  have A_240 := A_229.other W_235 (by omega)
  have A_241 := A_230.other W_235 (by omega)
  have A_242 : OAry Z h_234 as_ .int [(.int ((l0 - (-1 : Int32)) - (1 : Int32))), (.int ((l1 - (-1 : Int32)) - (1 : Int32))), (.int sv), (.int sv)] := A_236
  refine Own.iinc_c H_232 (pc := 107) (2) #[.val (.ref af), .val (.ref al), .val (.ref ae), .val (.int (1 : Int32)), .val (.ref ac), .val (.ref ar), .val (.ref as_), .val (.int (1 : Int32)), .val (.int (1 : Int32)), .val (.int (2 : Int32)), .val (.int (1 : Int32))] d1_107 rfl (by decide) rfl ?_
  refine Own.goto H_232 (pc := 110) 30 d1_110 (by decide) (by decide) ?_
  refine Own.iload H_232 (pc := 30) d1_30 rfl ?_
  refine Own.aload_n H_232 (pc := 32) d1_32 rfl rfl ?_
  refine Own.iload H_232 (pc := 33) d1_33 rfl ?_
  refine Own.iaload H_232 (pc := 35) (v := (2 : Int32)) 1 d1_35 A_239 rfl rfl ?_
  refine Own.icmp_ge H_232 (pc := 36) 113 d1_36 (by decide) (by decide) (fun _ => ?_) (fun hc => absurd hc (by decide))
  refine Own.aload_n H_232 (pc := 113) d1_113 rfl rfl ?_
  refine Own.iload H_232 (pc := 114) d1_114 rfl ?_
  refine Own.iaload H_232 (pc := 116) (v := (2 : Int32)) 1 d1_116 A_239 rfl rfl ?_
  refine Own.istore H_232 (pc := 117) #[.val (.ref af), .val (.ref al), .val (.ref ae), .val (.int (1 : Int32)), .val (.ref ac), .val (.ref ar), .val (.ref as_), .val (.int (2 : Int32)), .val (.int (1 : Int32)), .val (.int (2 : Int32)), .val (.int (1 : Int32))] d1_117 rfl ?_
  refine Own.iinc_c H_232 (pc := 119) (2) #[.val (.ref af), .val (.ref al), .val (.ref ae), .val (.int (1 : Int32)), .val (.ref ac), .val (.ref ar), .val (.ref as_), .val (.int (2 : Int32)), .val (.int (2 : Int32)), .val (.int (2 : Int32)), .val (.int (1 : Int32))] d1_119 rfl (by decide) rfl ?_
  refine Own.goto H_232 (pc := 122) 6 d1_122 (by decide) (by decide) ?_
  refine Own.iload H_232 (pc := 6) d1_6 rfl ?_
  refine Own.iload_n H_232 (pc := 8) d1_8 rfl ?_
  refine Own.icmp_gt H_232 (pc := 9) 125 d1_9 (by decide) (by decide) (fun _ => ?_) (fun hc => absurd hc (by decide))
  exact Own.ret_void H_232 (pc := 125) d1_125 rfl (by decide) (by decide) (⟨rfl, A_237, A_238, A_239, A_240, A_241, A_242⟩)
theorem pn_rm_lay112 : plainFor (⟨"termstone/postings/Impacts", "lay", "([I[I[II[I[I[I)V"⟩ : MethodName) = true := by first | exact plainFor_of_name (by first | (simp [plainName, overriddenIn]; done) | decide +kernel) | decide +kernel
theorem ef_rm_lay112 (af : Nat) (al : Nat) (ae : Nat) (bk : Int32) (ac : Nat) (ar : Nat) (as_ : Nat) (m : MethodId) : entryFrame m #[(.ref af), (.ref al), (.ref ae), (.int bk), (.ref ac), (.ref ar), (.ref as_)] 11 = mkF m 0 #[.val (.ref af), .val (.ref al), .val (.ref ae), .val (.int bk), .val (.ref ac), .val (.ref ar), .val (.ref as_), .unset, .unset, .unset, .unset] [] := by first | (simp [entryFrame, mkF, argsToLocals, Value.category]; done) | rfl
set_option maxRecDepth 65536 in
set_option maxHeartbeats 40000000 in
theorem rm_lay112 (l : Launch) (Z : State) (a0 : Array Value) (hw : ∀ d ∈ tables_1, d.before a0 Z = true) (af : Nat) (al : Nat) (ae : Nat) (bk : Int32) (ac : Nat) (ar : Nat) (as_ : Nat) (h0 : Heap) (n0 : Nat) (Z0 : n0 ≤ h0.size) (f0 f1 f2 f3 l0 l1 l2 l3 sv : Int32) (A0 : OAry Z h0 af .int [(.int f0), (.int f1), (.int f2), (.int f3)]) (A1 : OAry Z h0 al .int [(.int l0), (.int l1), (.int l2), (.int l3)]) (A2 : OAry Z h0 ae .int [(.int (1 : Int32)), (.int (3 : Int32))]) (A3 : OAry Z h0 ac .int [(.int sv), (.int sv), (.int sv)]) (A4 : OAry Z h0 ar .int [(.int sv), (.int sv), (.int sv), (.int sv)]) (A5 : OAry Z h0 as_ .int [(.int sv), (.int sv), (.int sv), (.int sv)]) (o0 : af < al) (o1 : al < ae) (o2 : ae < ac) (o3 : ac < ar) (o4 : ar < as_) (g3 : n0 ≤ ac) (g4 : n0 ≤ ar) (g5 : n0 ≤ as_) (hb : bk = 1) :
    OMet l Z n0 (⟨"termstone/postings/Impacts", "lay", "([I[I[II[I[I[I)V"⟩ : MethodName) prog_78_method_3_code 11 none ({ frames := 0, cells := 0, slots := 0, locals := 0 } : Room) #[(.ref af), (.ref al), (.ref ae), (.int bk), (.ref ac), (.ref ar), (.ref as_)] h0 (fun v h => v = none ∧ OAry Z h af .int [(.int f0), (.int f1), (.int f2), (.int f3)] ∧ OAry Z h al .int [(.int l0), (.int l1), (.int l2), (.int l3)] ∧ OAry Z h ae .int [(.int (1 : Int32)), (.int (3 : Int32))] ∧ OAry Z h ac .int [(.int (0 : Int32)), (.int (1 : Int32)), (.int sv)] ∧ OAry Z h ar .int [(.int ((f0 - (0 : Int32)) - (1 : Int32))), (.int ((f1 - (0 : Int32)) - (1 : Int32))), (.int ((f2 - f1) - (1 : Int32))), (.int sv)] ∧ OAry Z h as_ .int [(.int ((l0 - (-1 : Int32)) - (1 : Int32))), (.int ((l1 - (-1 : Int32)) - (1 : Int32))), (.int ((l2 - l1) - (1 : Int32))), (.int sv)]) := by
  refine OMet.of pn_rm_lay112 Z0 (ef_rm_lay112 af al ae bk ac ar as_) ?_
  intro p e s m below meth c T H
  subst hb
  refine Own.iconst H (pc := 0) (0) d1_0 rfl ?_
  refine Own.istore H (pc := 1) #[.val (.ref af), .val (.ref al), .val (.ref ae), .val (.int (1 : Int32)), .val (.ref ac), .val (.ref ar), .val (.ref as_), .val (.int (0 : Int32)), .unset, .unset, .unset] d1_1 rfl ?_
  refine Own.iconst H (pc := 3) (0) d1_3 rfl ?_
  refine Own.istore H (pc := 4) #[.val (.ref af), .val (.ref al), .val (.ref ae), .val (.int (1 : Int32)), .val (.ref ac), .val (.ref ar), .val (.ref as_), .val (.int (0 : Int32)), .val (.int (0 : Int32)), .unset, .unset] d1_4 rfl ?_
  refine Own.iload H (pc := 6) d1_6 rfl ?_
  refine Own.iload_n H (pc := 8) d1_8 rfl ?_
  refine Own.icmp_gt H (pc := 9) 125 d1_9 (by decide) (by decide) (fun hc => absurd hc (by decide)) (fun _ => ?_)
  refine Own.aload H (pc := 12) d1_12 rfl rfl ?_
  refine Own.iload H (pc := 14) d1_14 rfl ?_
  refine Own.aload_n H (pc := 16) d1_16 rfl rfl ?_
  refine Own.iload H (pc := 17) d1_17 rfl ?_
  refine Own.iaload H (pc := 19) (v := (1 : Int32)) 0 d1_19 A2 rfl rfl ?_
  refine Own.iload H (pc := 20) d1_20 rfl ?_
  refine Own.isub_c H (pc := 22) (1) d1_22 (by decide) ?_
  refine Own.iconst H (pc := 23) (1) d1_23 rfl ?_
  refine Own.isub_c H (pc := 24) (0) d1_24 (by decide) ?_
  refine Own.iastore H (pc := 25) 0 d1_25 A3 g3 rfl (by simp) (fun T_244 h_245 H_243 W_246 A_247 => ?_)
  have A_248 := A0.other W_246 (by omega)
  have A_249 := A1.other W_246 (by omega)
  have A_250 := A2.other W_246 (by omega)
  have A_251 : OAry Z h_245 ac .int [(.int (0 : Int32)), (.int sv), (.int sv)] := A_247
  have A_252 := A4.other W_246 (by omega)
  have A_253 := A5.other W_246 (by omega)
  refine Own.iload H_243 (pc := 26) d1_26 rfl ?_
  refine Own.istore H_243 (pc := 28) #[.val (.ref af), .val (.ref al), .val (.ref ae), .val (.int (1 : Int32)), .val (.ref ac), .val (.ref ar), .val (.ref as_), .val (.int (0 : Int32)), .val (.int (0 : Int32)), .val (.int (0 : Int32)), .unset] d1_28 rfl ?_
  refine Own.iload H_243 (pc := 30) d1_30 rfl ?_
  refine Own.aload_n H_243 (pc := 32) d1_32 rfl rfl ?_
  refine Own.iload H_243 (pc := 33) d1_33 rfl ?_
  refine Own.iaload H_243 (pc := 35) (v := (1 : Int32)) 0 d1_35 A_250 rfl rfl ?_
  refine Own.icmp_ge H_243 (pc := 36) 113 d1_36 (by decide) (by decide) (fun hc => absurd hc (by decide)) (fun _ => ?_)
  refine Own.iload H_243 (pc := 39) d1_39 rfl ?_
  refine Own.iload H_243 (pc := 41) d1_41 rfl ?_
  refine Own.icmp_ne H_243 (pc := 43) 50 d1_43 (by decide) (by decide) (fun hc => absurd hc (by decide)) (fun _ => ?_)
  refine Own.iconst H_243 (pc := 46) (1) d1_46 rfl ?_
  refine Own.goto H_243 (pc := 47) 51 d1_47 (by decide) (by decide) ?_
  refine Own.istore H_243 (pc := 51) #[.val (.ref af), .val (.ref al), .val (.ref ae), .val (.int (1 : Int32)), .val (.ref ac), .val (.ref ar), .val (.ref as_), .val (.int (0 : Int32)), .val (.int (0 : Int32)), .val (.int (0 : Int32)), .val (.int (1 : Int32))] d1_51 rfl ?_
  refine Own.aload H_243 (pc := 53) d1_53 rfl rfl ?_
  refine Own.iload H_243 (pc := 55) d1_55 rfl ?_
  refine Own.aload_n H_243 (pc := 57) d1_57 rfl rfl ?_
  refine Own.iload H_243 (pc := 58) d1_58 rfl ?_
  refine Own.iaload H_243 (pc := 60) (v := f0) 0 d1_60 A_248 rfl rfl ?_
  refine Own.iload H_243 (pc := 61) d1_61 rfl ?_
  refine Own.if_eq H_243 (pc := 63) 70 d1_63 (by decide) (by decide) (fun hc => absurd hc (by decide)) (fun _ => ?_)
  refine Own.iconst H_243 (pc := 66) (0) d1_66 rfl ?_
  refine Own.goto H_243 (pc := 67) 76 d1_67 (by decide) (by decide) ?_
  refine Own.isub H_243 (pc := 76) d1_76 ?_
  refine Own.iconst H_243 (pc := 77) (1) d1_77 rfl ?_
  refine Own.isub H_243 (pc := 78) d1_78 ?_
  refine Own.iastore H_243 (pc := 79) 0 d1_79 A_252 g4 rfl (by simp) (fun T_255 h_256 H_254 W_257 A_258 => ?_)
  have A_259 := A_248.other W_257 (by omega)
  have A_260 := A_249.other W_257 (by omega)
  have A_261 := A_250.other W_257 (by omega)
  have A_262 := A_251.other W_257 (by omega)
  have A_263 : OAry Z h_256 ar .int [(.int ((f0 - (0 : Int32)) - (1 : Int32))), (.int sv), (.int sv), (.int sv)] := A_258
  have A_264 := A_253.other W_257 (by omega)
  refine Own.aload H_254 (pc := 80) d1_80 rfl rfl ?_
  refine Own.iload H_254 (pc := 82) d1_82 rfl ?_
  refine Own.aload_n H_254 (pc := 84) d1_84 rfl rfl ?_
  refine Own.iload H_254 (pc := 85) d1_85 rfl ?_
  refine Own.iaload H_254 (pc := 87) (v := l0) 0 d1_87 A_260 rfl rfl ?_
  refine Own.iload H_254 (pc := 88) d1_88 rfl ?_
  refine Own.if_eq H_254 (pc := 90) 97 d1_90 (by decide) (by decide) (fun hc => absurd hc (by decide)) (fun _ => ?_)
  refine Own.iconst H_254 (pc := 93) (-1) d1_93 rfl ?_
  refine Own.goto H_254 (pc := 94) 103 d1_94 (by decide) (by decide) ?_
  refine Own.isub H_254 (pc := 103) d1_103 ?_
  refine Own.iconst H_254 (pc := 104) (1) d1_104 rfl ?_
  refine Own.isub H_254 (pc := 105) d1_105 ?_
  refine Own.iastore H_254 (pc := 106) 0 d1_106 A_264 g5 rfl (by simp) (fun T_266 h_267 H_265 W_268 A_269 => ?_)
  have A_270 := A_259.other W_268 (by omega)
  have A_271 := A_260.other W_268 (by omega)
  have A_272 := A_261.other W_268 (by omega)
  have A_273 := A_262.other W_268 (by omega)
  have A_274 := A_263.other W_268 (by omega)
  have A_275 : OAry Z h_267 as_ .int [(.int ((l0 - (-1 : Int32)) - (1 : Int32))), (.int sv), (.int sv), (.int sv)] := A_269
  refine Own.iinc_c H_265 (pc := 107) (1) #[.val (.ref af), .val (.ref al), .val (.ref ae), .val (.int (1 : Int32)), .val (.ref ac), .val (.ref ar), .val (.ref as_), .val (.int (0 : Int32)), .val (.int (0 : Int32)), .val (.int (1 : Int32)), .val (.int (1 : Int32))] d1_107 rfl (by decide) rfl ?_
  refine Own.goto H_265 (pc := 110) 30 d1_110 (by decide) (by decide) ?_
  refine Own.iload H_265 (pc := 30) d1_30 rfl ?_
  refine Own.aload_n H_265 (pc := 32) d1_32 rfl rfl ?_
  refine Own.iload H_265 (pc := 33) d1_33 rfl ?_
  refine Own.iaload H_265 (pc := 35) (v := (1 : Int32)) 0 d1_35 A_272 rfl rfl ?_
  refine Own.icmp_ge H_265 (pc := 36) 113 d1_36 (by decide) (by decide) (fun _ => ?_) (fun hc => absurd hc (by decide))
  refine Own.aload_n H_265 (pc := 113) d1_113 rfl rfl ?_
  refine Own.iload H_265 (pc := 114) d1_114 rfl ?_
  refine Own.iaload H_265 (pc := 116) (v := (1 : Int32)) 0 d1_116 A_272 rfl rfl ?_
  refine Own.istore H_265 (pc := 117) #[.val (.ref af), .val (.ref al), .val (.ref ae), .val (.int (1 : Int32)), .val (.ref ac), .val (.ref ar), .val (.ref as_), .val (.int (1 : Int32)), .val (.int (0 : Int32)), .val (.int (1 : Int32)), .val (.int (1 : Int32))] d1_117 rfl ?_
  refine Own.iinc_c H_265 (pc := 119) (1) #[.val (.ref af), .val (.ref al), .val (.ref ae), .val (.int (1 : Int32)), .val (.ref ac), .val (.ref ar), .val (.ref as_), .val (.int (1 : Int32)), .val (.int (1 : Int32)), .val (.int (1 : Int32)), .val (.int (1 : Int32))] d1_119 rfl (by decide) rfl ?_
  refine Own.goto H_265 (pc := 122) 6 d1_122 (by decide) (by decide) ?_
  refine Own.iload H_265 (pc := 6) d1_6 rfl ?_
  refine Own.iload_n H_265 (pc := 8) d1_8 rfl ?_
  refine Own.icmp_gt H_265 (pc := 9) 125 d1_9 (by decide) (by decide) (fun hc => absurd hc (by decide)) (fun _ => ?_)
  refine Own.aload H_265 (pc := 12) d1_12 rfl rfl ?_
  refine Own.iload H_265 (pc := 14) d1_14 rfl ?_
  refine Own.aload_n H_265 (pc := 16) d1_16 rfl rfl ?_
  refine Own.iload H_265 (pc := 17) d1_17 rfl ?_
  refine Own.iaload H_265 (pc := 19) (v := (3 : Int32)) 1 d1_19 A_272 rfl rfl ?_
  refine Own.iload H_265 (pc := 20) d1_20 rfl ?_
  refine Own.isub_c H_265 (pc := 22) (2) d1_22 (by decide) ?_
  refine Own.iconst H_265 (pc := 23) (1) d1_23 rfl ?_
  refine Own.isub_c H_265 (pc := 24) (1) d1_24 (by decide) ?_
  refine Own.iastore H_265 (pc := 25) 1 d1_25 A_273 g3 rfl (by simp) (fun T_277 h_278 H_276 W_279 A_280 => ?_)
  have A_281 := A_270.other W_279 (by omega)
  have A_282 := A_271.other W_279 (by omega)
  have A_283 := A_272.other W_279 (by omega)
  have A_284 : OAry Z h_278 ac .int [(.int (0 : Int32)), (.int (1 : Int32)), (.int sv)] := A_280
  have A_285 := A_274.other W_279 (by omega)
  have A_286 := A_275.other W_279 (by omega)
  refine Own.iload H_276 (pc := 26) d1_26 rfl ?_
  refine Own.istore H_276 (pc := 28) #[.val (.ref af), .val (.ref al), .val (.ref ae), .val (.int (1 : Int32)), .val (.ref ac), .val (.ref ar), .val (.ref as_), .val (.int (1 : Int32)), .val (.int (1 : Int32)), .val (.int (1 : Int32)), .val (.int (1 : Int32))] d1_28 rfl ?_
  refine Own.iload H_276 (pc := 30) d1_30 rfl ?_
  refine Own.aload_n H_276 (pc := 32) d1_32 rfl rfl ?_
  refine Own.iload H_276 (pc := 33) d1_33 rfl ?_
  refine Own.iaload H_276 (pc := 35) (v := (3 : Int32)) 1 d1_35 A_283 rfl rfl ?_
  refine Own.icmp_ge H_276 (pc := 36) 113 d1_36 (by decide) (by decide) (fun hc => absurd hc (by decide)) (fun _ => ?_)
  refine Own.iload H_276 (pc := 39) d1_39 rfl ?_
  refine Own.iload H_276 (pc := 41) d1_41 rfl ?_
  refine Own.icmp_ne H_276 (pc := 43) 50 d1_43 (by decide) (by decide) (fun hc => absurd hc (by decide)) (fun _ => ?_)
  refine Own.iconst H_276 (pc := 46) (1) d1_46 rfl ?_
  refine Own.goto H_276 (pc := 47) 51 d1_47 (by decide) (by decide) ?_
  refine Own.istore H_276 (pc := 51) #[.val (.ref af), .val (.ref al), .val (.ref ae), .val (.int (1 : Int32)), .val (.ref ac), .val (.ref ar), .val (.ref as_), .val (.int (1 : Int32)), .val (.int (1 : Int32)), .val (.int (1 : Int32)), .val (.int (1 : Int32))] d1_51 rfl ?_
  refine Own.aload H_276 (pc := 53) d1_53 rfl rfl ?_
  refine Own.iload H_276 (pc := 55) d1_55 rfl ?_
  refine Own.aload_n H_276 (pc := 57) d1_57 rfl rfl ?_
  refine Own.iload H_276 (pc := 58) d1_58 rfl ?_
  refine Own.iaload H_276 (pc := 60) (v := f1) 1 d1_60 A_281 rfl rfl ?_
  refine Own.iload H_276 (pc := 61) d1_61 rfl ?_
  refine Own.if_eq H_276 (pc := 63) 70 d1_63 (by decide) (by decide) (fun hc => absurd hc (by decide)) (fun _ => ?_)
  refine Own.iconst H_276 (pc := 66) (0) d1_66 rfl ?_
  refine Own.goto H_276 (pc := 67) 76 d1_67 (by decide) (by decide) ?_
  refine Own.isub H_276 (pc := 76) d1_76 ?_
  refine Own.iconst H_276 (pc := 77) (1) d1_77 rfl ?_
  refine Own.isub H_276 (pc := 78) d1_78 ?_
  refine Own.iastore H_276 (pc := 79) 1 d1_79 A_285 g4 rfl (by simp) (fun T_288 h_289 H_287 W_290 A_291 => ?_)
  have A_292 := A_281.other W_290 (by omega)
  have A_293 := A_282.other W_290 (by omega)
  have A_294 := A_283.other W_290 (by omega)
  have A_295 := A_284.other W_290 (by omega)
  have A_296 : OAry Z h_289 ar .int [(.int ((f0 - (0 : Int32)) - (1 : Int32))), (.int ((f1 - (0 : Int32)) - (1 : Int32))), (.int sv), (.int sv)] := A_291
  have A_297 := A_286.other W_290 (by omega)
  refine Own.aload H_287 (pc := 80) d1_80 rfl rfl ?_
  refine Own.iload H_287 (pc := 82) d1_82 rfl ?_
  refine Own.aload_n H_287 (pc := 84) d1_84 rfl rfl ?_
  refine Own.iload H_287 (pc := 85) d1_85 rfl ?_
  refine Own.iaload H_287 (pc := 87) (v := l1) 1 d1_87 A_293 rfl rfl ?_
  refine Own.iload H_287 (pc := 88) d1_88 rfl ?_
  refine Own.if_eq H_287 (pc := 90) 97 d1_90 (by decide) (by decide) (fun hc => absurd hc (by decide)) (fun _ => ?_)
  refine Own.iconst H_287 (pc := 93) (-1) d1_93 rfl ?_
  refine Own.goto H_287 (pc := 94) 103 d1_94 (by decide) (by decide) ?_
  refine Own.isub H_287 (pc := 103) d1_103 ?_
  refine Own.iconst H_287 (pc := 104) (1) d1_104 rfl ?_
  refine Own.isub H_287 (pc := 105) d1_105 ?_
  refine Own.iastore H_287 (pc := 106) 1 d1_106 A_297 g5 rfl (by simp) (fun T_299 h_300 H_298 W_301 A_302 => ?_)
  have A_303 := A_292.other W_301 (by omega)
  have A_304 := A_293.other W_301 (by omega)
  have A_305 := A_294.other W_301 (by omega)
  have A_306 := A_295.other W_301 (by omega)
  have A_307 := A_296.other W_301 (by omega)
  have A_308 : OAry Z h_300 as_ .int [(.int ((l0 - (-1 : Int32)) - (1 : Int32))), (.int ((l1 - (-1 : Int32)) - (1 : Int32))), (.int sv), (.int sv)] := A_302
  refine Own.iinc_c H_298 (pc := 107) (2) #[.val (.ref af), .val (.ref al), .val (.ref ae), .val (.int (1 : Int32)), .val (.ref ac), .val (.ref ar), .val (.ref as_), .val (.int (1 : Int32)), .val (.int (1 : Int32)), .val (.int (2 : Int32)), .val (.int (1 : Int32))] d1_107 rfl (by decide) rfl ?_
  refine Own.goto H_298 (pc := 110) 30 d1_110 (by decide) (by decide) ?_
  refine Own.iload H_298 (pc := 30) d1_30 rfl ?_
  refine Own.aload_n H_298 (pc := 32) d1_32 rfl rfl ?_
  refine Own.iload H_298 (pc := 33) d1_33 rfl ?_
  refine Own.iaload H_298 (pc := 35) (v := (3 : Int32)) 1 d1_35 A_305 rfl rfl ?_
  refine Own.icmp_ge H_298 (pc := 36) 113 d1_36 (by decide) (by decide) (fun hc => absurd hc (by decide)) (fun _ => ?_)
  refine Own.iload H_298 (pc := 39) d1_39 rfl ?_
  refine Own.iload H_298 (pc := 41) d1_41 rfl ?_
  refine Own.icmp_ne H_298 (pc := 43) 50 d1_43 (by decide) (by decide) (fun _ => ?_) (fun hc => absurd hc (by decide))
  refine Own.iconst H_298 (pc := 50) (0) d1_50 rfl ?_
  refine Own.istore H_298 (pc := 51) #[.val (.ref af), .val (.ref al), .val (.ref ae), .val (.int (1 : Int32)), .val (.ref ac), .val (.ref ar), .val (.ref as_), .val (.int (1 : Int32)), .val (.int (1 : Int32)), .val (.int (2 : Int32)), .val (.int (0 : Int32))] d1_51 rfl ?_
  refine Own.aload H_298 (pc := 53) d1_53 rfl rfl ?_
  refine Own.iload H_298 (pc := 55) d1_55 rfl ?_
  refine Own.aload_n H_298 (pc := 57) d1_57 rfl rfl ?_
  refine Own.iload H_298 (pc := 58) d1_58 rfl ?_
  refine Own.iaload H_298 (pc := 60) (v := f2) 2 d1_60 A_303 rfl rfl ?_
  refine Own.iload H_298 (pc := 61) d1_61 rfl ?_
  refine Own.if_eq H_298 (pc := 63) 70 d1_63 (by decide) (by decide) (fun _ => ?_) (fun hc => absurd hc (by decide))
  refine Own.aload_n H_298 (pc := 70) d1_70 rfl rfl ?_
  refine Own.iload H_298 (pc := 71) d1_71 rfl ?_
  refine Own.iconst H_298 (pc := 73) (1) d1_73 rfl ?_
  refine Own.isub_c H_298 (pc := 74) (1) d1_74 (by decide) ?_
  refine Own.iaload H_298 (pc := 75) (v := f1) 1 d1_75 A_303 rfl rfl ?_
  refine Own.isub H_298 (pc := 76) d1_76 ?_
  refine Own.iconst H_298 (pc := 77) (1) d1_77 rfl ?_
  refine Own.isub H_298 (pc := 78) d1_78 ?_
  refine Own.iastore H_298 (pc := 79) 2 d1_79 A_307 g4 rfl (by simp) (fun T_310 h_311 H_309 W_312 A_313 => ?_)
  have A_314 := A_303.other W_312 (by omega)
  have A_315 := A_304.other W_312 (by omega)
  have A_316 := A_305.other W_312 (by omega)
  have A_317 := A_306.other W_312 (by omega)
  have A_318 : OAry Z h_311 ar .int [(.int ((f0 - (0 : Int32)) - (1 : Int32))), (.int ((f1 - (0 : Int32)) - (1 : Int32))), (.int ((f2 - f1) - (1 : Int32))), (.int sv)] := A_313
  have A_319 := A_308.other W_312 (by omega)
  refine Own.aload H_309 (pc := 80) d1_80 rfl rfl ?_
  refine Own.iload H_309 (pc := 82) d1_82 rfl ?_
  refine Own.aload_n H_309 (pc := 84) d1_84 rfl rfl ?_
  refine Own.iload H_309 (pc := 85) d1_85 rfl ?_
  refine Own.iaload H_309 (pc := 87) (v := l2) 2 d1_87 A_315 rfl rfl ?_
  refine Own.iload H_309 (pc := 88) d1_88 rfl ?_
  refine Own.if_eq H_309 (pc := 90) 97 d1_90 (by decide) (by decide) (fun _ => ?_) (fun hc => absurd hc (by decide))
  refine Own.aload_n H_309 (pc := 97) d1_97 rfl rfl ?_
  refine Own.iload H_309 (pc := 98) d1_98 rfl ?_
  refine Own.iconst H_309 (pc := 100) (1) d1_100 rfl ?_
  refine Own.isub_c H_309 (pc := 101) (1) d1_101 (by decide) ?_
  refine Own.iaload H_309 (pc := 102) (v := l1) 1 d1_102 A_315 rfl rfl ?_
  refine Own.isub H_309 (pc := 103) d1_103 ?_
  refine Own.iconst H_309 (pc := 104) (1) d1_104 rfl ?_
  refine Own.isub H_309 (pc := 105) d1_105 ?_
  refine Own.iastore H_309 (pc := 106) 2 d1_106 A_319 g5 rfl (by simp) (fun T_321 h_322 H_320 W_323 A_324 => ?_)
  have A_325 := A_314.other W_323 (by omega)
  have A_326 := A_315.other W_323 (by omega)
  have A_327 := A_316.other W_323 (by omega)
  have A_328 := A_317.other W_323 (by omega)
  have A_329 := A_318.other W_323 (by omega)
  have A_330 : OAry Z h_322 as_ .int [(.int ((l0 - (-1 : Int32)) - (1 : Int32))), (.int ((l1 - (-1 : Int32)) - (1 : Int32))), (.int ((l2 - l1) - (1 : Int32))), (.int sv)] := A_324
  refine Own.iinc_c H_320 (pc := 107) (3) #[.val (.ref af), .val (.ref al), .val (.ref ae), .val (.int (1 : Int32)), .val (.ref ac), .val (.ref ar), .val (.ref as_), .val (.int (1 : Int32)), .val (.int (1 : Int32)), .val (.int (3 : Int32)), .val (.int (0 : Int32))] d1_107 rfl (by decide) rfl ?_
  refine Own.goto H_320 (pc := 110) 30 d1_110 (by decide) (by decide) ?_
  refine Own.iload H_320 (pc := 30) d1_30 rfl ?_
  refine Own.aload_n H_320 (pc := 32) d1_32 rfl rfl ?_
  refine Own.iload H_320 (pc := 33) d1_33 rfl ?_
  refine Own.iaload H_320 (pc := 35) (v := (3 : Int32)) 1 d1_35 A_327 rfl rfl ?_
  refine Own.icmp_ge H_320 (pc := 36) 113 d1_36 (by decide) (by decide) (fun _ => ?_) (fun hc => absurd hc (by decide))
  refine Own.aload_n H_320 (pc := 113) d1_113 rfl rfl ?_
  refine Own.iload H_320 (pc := 114) d1_114 rfl ?_
  refine Own.iaload H_320 (pc := 116) (v := (3 : Int32)) 1 d1_116 A_327 rfl rfl ?_
  refine Own.istore H_320 (pc := 117) #[.val (.ref af), .val (.ref al), .val (.ref ae), .val (.int (1 : Int32)), .val (.ref ac), .val (.ref ar), .val (.ref as_), .val (.int (3 : Int32)), .val (.int (1 : Int32)), .val (.int (3 : Int32)), .val (.int (0 : Int32))] d1_117 rfl ?_
  refine Own.iinc_c H_320 (pc := 119) (2) #[.val (.ref af), .val (.ref al), .val (.ref ae), .val (.int (1 : Int32)), .val (.ref ac), .val (.ref ar), .val (.ref as_), .val (.int (3 : Int32)), .val (.int (2 : Int32)), .val (.int (3 : Int32)), .val (.int (0 : Int32))] d1_119 rfl (by decide) rfl ?_
  refine Own.goto H_320 (pc := 122) 6 d1_122 (by decide) (by decide) ?_
  refine Own.iload H_320 (pc := 6) d1_6 rfl ?_
  refine Own.iload_n H_320 (pc := 8) d1_8 rfl ?_
  refine Own.icmp_gt H_320 (pc := 9) 125 d1_9 (by decide) (by decide) (fun _ => ?_) (fun hc => absurd hc (by decide))
  exact Own.ret_void H_320 (pc := 125) d1_125 rfl (by decide) (by decide) (⟨rfl, A_325, A_326, A_327, A_328, A_329, A_330⟩)
theorem pn_rm_lay121 : plainFor (⟨"termstone/postings/Impacts", "lay", "([I[I[II[I[I[I)V"⟩ : MethodName) = true := by first | exact plainFor_of_name (by first | (simp [plainName, overriddenIn]; done) | decide +kernel) | decide +kernel
theorem ef_rm_lay121 (af : Nat) (al : Nat) (ae : Nat) (bk : Int32) (ac : Nat) (ar : Nat) (as_ : Nat) (m : MethodId) : entryFrame m #[(.ref af), (.ref al), (.ref ae), (.int bk), (.ref ac), (.ref ar), (.ref as_)] 11 = mkF m 0 #[.val (.ref af), .val (.ref al), .val (.ref ae), .val (.int bk), .val (.ref ac), .val (.ref ar), .val (.ref as_), .unset, .unset, .unset, .unset] [] := by first | (simp [entryFrame, mkF, argsToLocals, Value.category]; done) | rfl
set_option maxRecDepth 65536 in
set_option maxHeartbeats 40000000 in
theorem rm_lay121 (l : Launch) (Z : State) (a0 : Array Value) (hw : ∀ d ∈ tables_1, d.before a0 Z = true) (af : Nat) (al : Nat) (ae : Nat) (bk : Int32) (ac : Nat) (ar : Nat) (as_ : Nat) (h0 : Heap) (n0 : Nat) (Z0 : n0 ≤ h0.size) (f0 f1 f2 f3 l0 l1 l2 l3 sv : Int32) (A0 : OAry Z h0 af .int [(.int f0), (.int f1), (.int f2), (.int f3)]) (A1 : OAry Z h0 al .int [(.int l0), (.int l1), (.int l2), (.int l3)]) (A2 : OAry Z h0 ae .int [(.int (2 : Int32)), (.int (3 : Int32))]) (A3 : OAry Z h0 ac .int [(.int sv), (.int sv), (.int sv)]) (A4 : OAry Z h0 ar .int [(.int sv), (.int sv), (.int sv), (.int sv)]) (A5 : OAry Z h0 as_ .int [(.int sv), (.int sv), (.int sv), (.int sv)]) (o0 : af < al) (o1 : al < ae) (o2 : ae < ac) (o3 : ac < ar) (o4 : ar < as_) (g3 : n0 ≤ ac) (g4 : n0 ≤ ar) (g5 : n0 ≤ as_) (hb : bk = 1) :
    OMet l Z n0 (⟨"termstone/postings/Impacts", "lay", "([I[I[II[I[I[I)V"⟩ : MethodName) prog_78_method_3_code 11 none ({ frames := 0, cells := 0, slots := 0, locals := 0 } : Room) #[(.ref af), (.ref al), (.ref ae), (.int bk), (.ref ac), (.ref ar), (.ref as_)] h0 (fun v h => v = none ∧ OAry Z h af .int [(.int f0), (.int f1), (.int f2), (.int f3)] ∧ OAry Z h al .int [(.int l0), (.int l1), (.int l2), (.int l3)] ∧ OAry Z h ae .int [(.int (2 : Int32)), (.int (3 : Int32))] ∧ OAry Z h ac .int [(.int (1 : Int32)), (.int (0 : Int32)), (.int sv)] ∧ OAry Z h ar .int [(.int ((f0 - (0 : Int32)) - (1 : Int32))), (.int ((f1 - f0) - (1 : Int32))), (.int ((f2 - (0 : Int32)) - (1 : Int32))), (.int sv)] ∧ OAry Z h as_ .int [(.int ((l0 - (-1 : Int32)) - (1 : Int32))), (.int ((l1 - l0) - (1 : Int32))), (.int ((l2 - (-1 : Int32)) - (1 : Int32))), (.int sv)]) := by
  refine OMet.of pn_rm_lay121 Z0 (ef_rm_lay121 af al ae bk ac ar as_) ?_
  intro p e s m below meth c T H
  subst hb
  refine Own.iconst H (pc := 0) (0) d1_0 rfl ?_
  refine Own.istore H (pc := 1) #[.val (.ref af), .val (.ref al), .val (.ref ae), .val (.int (1 : Int32)), .val (.ref ac), .val (.ref ar), .val (.ref as_), .val (.int (0 : Int32)), .unset, .unset, .unset] d1_1 rfl ?_
  refine Own.iconst H (pc := 3) (0) d1_3 rfl ?_
  refine Own.istore H (pc := 4) #[.val (.ref af), .val (.ref al), .val (.ref ae), .val (.int (1 : Int32)), .val (.ref ac), .val (.ref ar), .val (.ref as_), .val (.int (0 : Int32)), .val (.int (0 : Int32)), .unset, .unset] d1_4 rfl ?_
  refine Own.iload H (pc := 6) d1_6 rfl ?_
  refine Own.iload_n H (pc := 8) d1_8 rfl ?_
  refine Own.icmp_gt H (pc := 9) 125 d1_9 (by decide) (by decide) (fun hc => absurd hc (by decide)) (fun _ => ?_)
  refine Own.aload H (pc := 12) d1_12 rfl rfl ?_
  refine Own.iload H (pc := 14) d1_14 rfl ?_
  refine Own.aload_n H (pc := 16) d1_16 rfl rfl ?_
  refine Own.iload H (pc := 17) d1_17 rfl ?_
  refine Own.iaload H (pc := 19) (v := (2 : Int32)) 0 d1_19 A2 rfl rfl ?_
  refine Own.iload H (pc := 20) d1_20 rfl ?_
  refine Own.isub_c H (pc := 22) (2) d1_22 (by decide) ?_
  refine Own.iconst H (pc := 23) (1) d1_23 rfl ?_
  refine Own.isub_c H (pc := 24) (1) d1_24 (by decide) ?_
  refine Own.iastore H (pc := 25) 0 d1_25 A3 g3 rfl (by simp) (fun T_332 h_333 H_331 W_334 A_335 => ?_)
  have A_336 := A0.other W_334 (by omega)
  have A_337 := A1.other W_334 (by omega)
  have A_338 := A2.other W_334 (by omega)
  have A_339 : OAry Z h_333 ac .int [(.int (1 : Int32)), (.int sv), (.int sv)] := A_335
  have A_340 := A4.other W_334 (by omega)
  have A_341 := A5.other W_334 (by omega)
  refine Own.iload H_331 (pc := 26) d1_26 rfl ?_
  refine Own.istore H_331 (pc := 28) #[.val (.ref af), .val (.ref al), .val (.ref ae), .val (.int (1 : Int32)), .val (.ref ac), .val (.ref ar), .val (.ref as_), .val (.int (0 : Int32)), .val (.int (0 : Int32)), .val (.int (0 : Int32)), .unset] d1_28 rfl ?_
  refine Own.iload H_331 (pc := 30) d1_30 rfl ?_
  refine Own.aload_n H_331 (pc := 32) d1_32 rfl rfl ?_
  refine Own.iload H_331 (pc := 33) d1_33 rfl ?_
  refine Own.iaload H_331 (pc := 35) (v := (2 : Int32)) 0 d1_35 A_338 rfl rfl ?_
  refine Own.icmp_ge H_331 (pc := 36) 113 d1_36 (by decide) (by decide) (fun hc => absurd hc (by decide)) (fun _ => ?_)
  refine Own.iload H_331 (pc := 39) d1_39 rfl ?_
  refine Own.iload H_331 (pc := 41) d1_41 rfl ?_
  refine Own.icmp_ne H_331 (pc := 43) 50 d1_43 (by decide) (by decide) (fun hc => absurd hc (by decide)) (fun _ => ?_)
  refine Own.iconst H_331 (pc := 46) (1) d1_46 rfl ?_
  refine Own.goto H_331 (pc := 47) 51 d1_47 (by decide) (by decide) ?_
  refine Own.istore H_331 (pc := 51) #[.val (.ref af), .val (.ref al), .val (.ref ae), .val (.int (1 : Int32)), .val (.ref ac), .val (.ref ar), .val (.ref as_), .val (.int (0 : Int32)), .val (.int (0 : Int32)), .val (.int (0 : Int32)), .val (.int (1 : Int32))] d1_51 rfl ?_
  refine Own.aload H_331 (pc := 53) d1_53 rfl rfl ?_
  refine Own.iload H_331 (pc := 55) d1_55 rfl ?_
  refine Own.aload_n H_331 (pc := 57) d1_57 rfl rfl ?_
  refine Own.iload H_331 (pc := 58) d1_58 rfl ?_
  refine Own.iaload H_331 (pc := 60) (v := f0) 0 d1_60 A_336 rfl rfl ?_
  refine Own.iload H_331 (pc := 61) d1_61 rfl ?_
  refine Own.if_eq H_331 (pc := 63) 70 d1_63 (by decide) (by decide) (fun hc => absurd hc (by decide)) (fun _ => ?_)
  refine Own.iconst H_331 (pc := 66) (0) d1_66 rfl ?_
  refine Own.goto H_331 (pc := 67) 76 d1_67 (by decide) (by decide) ?_
  refine Own.isub H_331 (pc := 76) d1_76 ?_
  refine Own.iconst H_331 (pc := 77) (1) d1_77 rfl ?_
  refine Own.isub H_331 (pc := 78) d1_78 ?_
  refine Own.iastore H_331 (pc := 79) 0 d1_79 A_340 g4 rfl (by simp) (fun T_343 h_344 H_342 W_345 A_346 => ?_)
  have A_347 := A_336.other W_345 (by omega)
  have A_348 := A_337.other W_345 (by omega)
  have A_349 := A_338.other W_345 (by omega)
  have A_350 := A_339.other W_345 (by omega)
  have A_351 : OAry Z h_344 ar .int [(.int ((f0 - (0 : Int32)) - (1 : Int32))), (.int sv), (.int sv), (.int sv)] := A_346
  have A_352 := A_341.other W_345 (by omega)
  refine Own.aload H_342 (pc := 80) d1_80 rfl rfl ?_
  refine Own.iload H_342 (pc := 82) d1_82 rfl ?_
  refine Own.aload_n H_342 (pc := 84) d1_84 rfl rfl ?_
  refine Own.iload H_342 (pc := 85) d1_85 rfl ?_
  refine Own.iaload H_342 (pc := 87) (v := l0) 0 d1_87 A_348 rfl rfl ?_
  refine Own.iload H_342 (pc := 88) d1_88 rfl ?_
  refine Own.if_eq H_342 (pc := 90) 97 d1_90 (by decide) (by decide) (fun hc => absurd hc (by decide)) (fun _ => ?_)
  refine Own.iconst H_342 (pc := 93) (-1) d1_93 rfl ?_
  refine Own.goto H_342 (pc := 94) 103 d1_94 (by decide) (by decide) ?_
  refine Own.isub H_342 (pc := 103) d1_103 ?_
  refine Own.iconst H_342 (pc := 104) (1) d1_104 rfl ?_
  refine Own.isub H_342 (pc := 105) d1_105 ?_
  refine Own.iastore H_342 (pc := 106) 0 d1_106 A_352 g5 rfl (by simp) (fun T_354 h_355 H_353 W_356 A_357 => ?_)
  have A_358 := A_347.other W_356 (by omega)
  have A_359 := A_348.other W_356 (by omega)
  have A_360 := A_349.other W_356 (by omega)
  have A_361 := A_350.other W_356 (by omega)
  have A_362 := A_351.other W_356 (by omega)
  have A_363 : OAry Z h_355 as_ .int [(.int ((l0 - (-1 : Int32)) - (1 : Int32))), (.int sv), (.int sv), (.int sv)] := A_357
  refine Own.iinc_c H_353 (pc := 107) (1) #[.val (.ref af), .val (.ref al), .val (.ref ae), .val (.int (1 : Int32)), .val (.ref ac), .val (.ref ar), .val (.ref as_), .val (.int (0 : Int32)), .val (.int (0 : Int32)), .val (.int (1 : Int32)), .val (.int (1 : Int32))] d1_107 rfl (by decide) rfl ?_
  refine Own.goto H_353 (pc := 110) 30 d1_110 (by decide) (by decide) ?_
  refine Own.iload H_353 (pc := 30) d1_30 rfl ?_
  refine Own.aload_n H_353 (pc := 32) d1_32 rfl rfl ?_
  refine Own.iload H_353 (pc := 33) d1_33 rfl ?_
  refine Own.iaload H_353 (pc := 35) (v := (2 : Int32)) 0 d1_35 A_360 rfl rfl ?_
  refine Own.icmp_ge H_353 (pc := 36) 113 d1_36 (by decide) (by decide) (fun hc => absurd hc (by decide)) (fun _ => ?_)
  refine Own.iload H_353 (pc := 39) d1_39 rfl ?_
  refine Own.iload H_353 (pc := 41) d1_41 rfl ?_
  refine Own.icmp_ne H_353 (pc := 43) 50 d1_43 (by decide) (by decide) (fun _ => ?_) (fun hc => absurd hc (by decide))
  refine Own.iconst H_353 (pc := 50) (0) d1_50 rfl ?_
  refine Own.istore H_353 (pc := 51) #[.val (.ref af), .val (.ref al), .val (.ref ae), .val (.int (1 : Int32)), .val (.ref ac), .val (.ref ar), .val (.ref as_), .val (.int (0 : Int32)), .val (.int (0 : Int32)), .val (.int (1 : Int32)), .val (.int (0 : Int32))] d1_51 rfl ?_
  refine Own.aload H_353 (pc := 53) d1_53 rfl rfl ?_
  refine Own.iload H_353 (pc := 55) d1_55 rfl ?_
  refine Own.aload_n H_353 (pc := 57) d1_57 rfl rfl ?_
  refine Own.iload H_353 (pc := 58) d1_58 rfl ?_
  refine Own.iaload H_353 (pc := 60) (v := f1) 1 d1_60 A_358 rfl rfl ?_
  refine Own.iload H_353 (pc := 61) d1_61 rfl ?_
  refine Own.if_eq H_353 (pc := 63) 70 d1_63 (by decide) (by decide) (fun _ => ?_) (fun hc => absurd hc (by decide))
  refine Own.aload_n H_353 (pc := 70) d1_70 rfl rfl ?_
  refine Own.iload H_353 (pc := 71) d1_71 rfl ?_
  refine Own.iconst H_353 (pc := 73) (1) d1_73 rfl ?_
  refine Own.isub_c H_353 (pc := 74) (0) d1_74 (by decide) ?_
  refine Own.iaload H_353 (pc := 75) (v := f0) 0 d1_75 A_358 rfl rfl ?_
  refine Own.isub H_353 (pc := 76) d1_76 ?_
  refine Own.iconst H_353 (pc := 77) (1) d1_77 rfl ?_
  refine Own.isub H_353 (pc := 78) d1_78 ?_
  refine Own.iastore H_353 (pc := 79) 1 d1_79 A_362 g4 rfl (by simp) (fun T_365 h_366 H_364 W_367 A_368 => ?_)
  have A_369 := A_358.other W_367 (by omega)
  have A_370 := A_359.other W_367 (by omega)
  have A_371 := A_360.other W_367 (by omega)
  have A_372 := A_361.other W_367 (by omega)
  have A_373 : OAry Z h_366 ar .int [(.int ((f0 - (0 : Int32)) - (1 : Int32))), (.int ((f1 - f0) - (1 : Int32))), (.int sv), (.int sv)] := A_368
  have A_374 := A_363.other W_367 (by omega)
  refine Own.aload H_364 (pc := 80) d1_80 rfl rfl ?_
  refine Own.iload H_364 (pc := 82) d1_82 rfl ?_
  refine Own.aload_n H_364 (pc := 84) d1_84 rfl rfl ?_
  refine Own.iload H_364 (pc := 85) d1_85 rfl ?_
  refine Own.iaload H_364 (pc := 87) (v := l1) 1 d1_87 A_370 rfl rfl ?_
  refine Own.iload H_364 (pc := 88) d1_88 rfl ?_
  refine Own.if_eq H_364 (pc := 90) 97 d1_90 (by decide) (by decide) (fun _ => ?_) (fun hc => absurd hc (by decide))
  refine Own.aload_n H_364 (pc := 97) d1_97 rfl rfl ?_
  refine Own.iload H_364 (pc := 98) d1_98 rfl ?_
  refine Own.iconst H_364 (pc := 100) (1) d1_100 rfl ?_
  refine Own.isub_c H_364 (pc := 101) (0) d1_101 (by decide) ?_
  refine Own.iaload H_364 (pc := 102) (v := l0) 0 d1_102 A_370 rfl rfl ?_
  refine Own.isub H_364 (pc := 103) d1_103 ?_
  refine Own.iconst H_364 (pc := 104) (1) d1_104 rfl ?_
  refine Own.isub H_364 (pc := 105) d1_105 ?_
  refine Own.iastore H_364 (pc := 106) 1 d1_106 A_374 g5 rfl (by simp) (fun T_376 h_377 H_375 W_378 A_379 => ?_)
  have A_380 := A_369.other W_378 (by omega)
  have A_381 := A_370.other W_378 (by omega)
  have A_382 := A_371.other W_378 (by omega)
  have A_383 := A_372.other W_378 (by omega)
  have A_384 := A_373.other W_378 (by omega)
  have A_385 : OAry Z h_377 as_ .int [(.int ((l0 - (-1 : Int32)) - (1 : Int32))), (.int ((l1 - l0) - (1 : Int32))), (.int sv), (.int sv)] := A_379
  refine Own.iinc_c H_375 (pc := 107) (2) #[.val (.ref af), .val (.ref al), .val (.ref ae), .val (.int (1 : Int32)), .val (.ref ac), .val (.ref ar), .val (.ref as_), .val (.int (0 : Int32)), .val (.int (0 : Int32)), .val (.int (2 : Int32)), .val (.int (0 : Int32))] d1_107 rfl (by decide) rfl ?_
  refine Own.goto H_375 (pc := 110) 30 d1_110 (by decide) (by decide) ?_
  refine Own.iload H_375 (pc := 30) d1_30 rfl ?_
  refine Own.aload_n H_375 (pc := 32) d1_32 rfl rfl ?_
  refine Own.iload H_375 (pc := 33) d1_33 rfl ?_
  refine Own.iaload H_375 (pc := 35) (v := (2 : Int32)) 0 d1_35 A_382 rfl rfl ?_
  refine Own.icmp_ge H_375 (pc := 36) 113 d1_36 (by decide) (by decide) (fun _ => ?_) (fun hc => absurd hc (by decide))
  refine Own.aload_n H_375 (pc := 113) d1_113 rfl rfl ?_
  refine Own.iload H_375 (pc := 114) d1_114 rfl ?_
  refine Own.iaload H_375 (pc := 116) (v := (2 : Int32)) 0 d1_116 A_382 rfl rfl ?_
  refine Own.istore H_375 (pc := 117) #[.val (.ref af), .val (.ref al), .val (.ref ae), .val (.int (1 : Int32)), .val (.ref ac), .val (.ref ar), .val (.ref as_), .val (.int (2 : Int32)), .val (.int (0 : Int32)), .val (.int (2 : Int32)), .val (.int (0 : Int32))] d1_117 rfl ?_
  refine Own.iinc_c H_375 (pc := 119) (1) #[.val (.ref af), .val (.ref al), .val (.ref ae), .val (.int (1 : Int32)), .val (.ref ac), .val (.ref ar), .val (.ref as_), .val (.int (2 : Int32)), .val (.int (1 : Int32)), .val (.int (2 : Int32)), .val (.int (0 : Int32))] d1_119 rfl (by decide) rfl ?_
  refine Own.goto H_375 (pc := 122) 6 d1_122 (by decide) (by decide) ?_
  refine Own.iload H_375 (pc := 6) d1_6 rfl ?_
  refine Own.iload_n H_375 (pc := 8) d1_8 rfl ?_
  refine Own.icmp_gt H_375 (pc := 9) 125 d1_9 (by decide) (by decide) (fun hc => absurd hc (by decide)) (fun _ => ?_)
  refine Own.aload H_375 (pc := 12) d1_12 rfl rfl ?_
  refine Own.iload H_375 (pc := 14) d1_14 rfl ?_
  refine Own.aload_n H_375 (pc := 16) d1_16 rfl rfl ?_
  refine Own.iload H_375 (pc := 17) d1_17 rfl ?_
  refine Own.iaload H_375 (pc := 19) (v := (3 : Int32)) 1 d1_19 A_382 rfl rfl ?_
  refine Own.iload H_375 (pc := 20) d1_20 rfl ?_
  refine Own.isub_c H_375 (pc := 22) (1) d1_22 (by decide) ?_
  refine Own.iconst H_375 (pc := 23) (1) d1_23 rfl ?_
  refine Own.isub_c H_375 (pc := 24) (0) d1_24 (by decide) ?_
  refine Own.iastore H_375 (pc := 25) 1 d1_25 A_383 g3 rfl (by simp) (fun T_387 h_388 H_386 W_389 A_390 => ?_)
  have A_391 := A_380.other W_389 (by omega)
  have A_392 := A_381.other W_389 (by omega)
  have A_393 := A_382.other W_389 (by omega)
  have A_394 : OAry Z h_388 ac .int [(.int (1 : Int32)), (.int (0 : Int32)), (.int sv)] := A_390
  have A_395 := A_384.other W_389 (by omega)
  have A_396 := A_385.other W_389 (by omega)
  refine Own.iload H_386 (pc := 26) d1_26 rfl ?_
  refine Own.istore H_386 (pc := 28) #[.val (.ref af), .val (.ref al), .val (.ref ae), .val (.int (1 : Int32)), .val (.ref ac), .val (.ref ar), .val (.ref as_), .val (.int (2 : Int32)), .val (.int (1 : Int32)), .val (.int (2 : Int32)), .val (.int (0 : Int32))] d1_28 rfl ?_
  refine Own.iload H_386 (pc := 30) d1_30 rfl ?_
  refine Own.aload_n H_386 (pc := 32) d1_32 rfl rfl ?_
  refine Own.iload H_386 (pc := 33) d1_33 rfl ?_
  refine Own.iaload H_386 (pc := 35) (v := (3 : Int32)) 1 d1_35 A_393 rfl rfl ?_
  refine Own.icmp_ge H_386 (pc := 36) 113 d1_36 (by decide) (by decide) (fun hc => absurd hc (by decide)) (fun _ => ?_)
  refine Own.iload H_386 (pc := 39) d1_39 rfl ?_
  refine Own.iload H_386 (pc := 41) d1_41 rfl ?_
  refine Own.icmp_ne H_386 (pc := 43) 50 d1_43 (by decide) (by decide) (fun hc => absurd hc (by decide)) (fun _ => ?_)
  refine Own.iconst H_386 (pc := 46) (1) d1_46 rfl ?_
  refine Own.goto H_386 (pc := 47) 51 d1_47 (by decide) (by decide) ?_
  refine Own.istore H_386 (pc := 51) #[.val (.ref af), .val (.ref al), .val (.ref ae), .val (.int (1 : Int32)), .val (.ref ac), .val (.ref ar), .val (.ref as_), .val (.int (2 : Int32)), .val (.int (1 : Int32)), .val (.int (2 : Int32)), .val (.int (1 : Int32))] d1_51 rfl ?_
  refine Own.aload H_386 (pc := 53) d1_53 rfl rfl ?_
  refine Own.iload H_386 (pc := 55) d1_55 rfl ?_
  refine Own.aload_n H_386 (pc := 57) d1_57 rfl rfl ?_
  refine Own.iload H_386 (pc := 58) d1_58 rfl ?_
  refine Own.iaload H_386 (pc := 60) (v := f2) 2 d1_60 A_391 rfl rfl ?_
  refine Own.iload H_386 (pc := 61) d1_61 rfl ?_
  refine Own.if_eq H_386 (pc := 63) 70 d1_63 (by decide) (by decide) (fun hc => absurd hc (by decide)) (fun _ => ?_)
  refine Own.iconst H_386 (pc := 66) (0) d1_66 rfl ?_
  refine Own.goto H_386 (pc := 67) 76 d1_67 (by decide) (by decide) ?_
  refine Own.isub H_386 (pc := 76) d1_76 ?_
  refine Own.iconst H_386 (pc := 77) (1) d1_77 rfl ?_
  refine Own.isub H_386 (pc := 78) d1_78 ?_
  refine Own.iastore H_386 (pc := 79) 2 d1_79 A_395 g4 rfl (by simp) (fun T_398 h_399 H_397 W_400 A_401 => ?_)
  have A_402 := A_391.other W_400 (by omega)
  have A_403 := A_392.other W_400 (by omega)
  have A_404 := A_393.other W_400 (by omega)
  have A_405 := A_394.other W_400 (by omega)
  have A_406 : OAry Z h_399 ar .int [(.int ((f0 - (0 : Int32)) - (1 : Int32))), (.int ((f1 - f0) - (1 : Int32))), (.int ((f2 - (0 : Int32)) - (1 : Int32))), (.int sv)] := A_401
  have A_407 := A_396.other W_400 (by omega)
  refine Own.aload H_397 (pc := 80) d1_80 rfl rfl ?_
  refine Own.iload H_397 (pc := 82) d1_82 rfl ?_
  refine Own.aload_n H_397 (pc := 84) d1_84 rfl rfl ?_
  refine Own.iload H_397 (pc := 85) d1_85 rfl ?_
  refine Own.iaload H_397 (pc := 87) (v := l2) 2 d1_87 A_403 rfl rfl ?_
  refine Own.iload H_397 (pc := 88) d1_88 rfl ?_
  refine Own.if_eq H_397 (pc := 90) 97 d1_90 (by decide) (by decide) (fun hc => absurd hc (by decide)) (fun _ => ?_)
  refine Own.iconst H_397 (pc := 93) (-1) d1_93 rfl ?_
  refine Own.goto H_397 (pc := 94) 103 d1_94 (by decide) (by decide) ?_
  refine Own.isub H_397 (pc := 103) d1_103 ?_
  refine Own.iconst H_397 (pc := 104) (1) d1_104 rfl ?_
  refine Own.isub H_397 (pc := 105) d1_105 ?_
  refine Own.iastore H_397 (pc := 106) 2 d1_106 A_407 g5 rfl (by simp) (fun T_409 h_410 H_408 W_411 A_412 => ?_)
  have A_413 := A_402.other W_411 (by omega)
  have A_414 := A_403.other W_411 (by omega)
  have A_415 := A_404.other W_411 (by omega)
  have A_416 := A_405.other W_411 (by omega)
  have A_417 := A_406.other W_411 (by omega)
  have A_418 : OAry Z h_410 as_ .int [(.int ((l0 - (-1 : Int32)) - (1 : Int32))), (.int ((l1 - l0) - (1 : Int32))), (.int ((l2 - (-1 : Int32)) - (1 : Int32))), (.int sv)] := A_412
  refine Own.iinc_c H_408 (pc := 107) (3) #[.val (.ref af), .val (.ref al), .val (.ref ae), .val (.int (1 : Int32)), .val (.ref ac), .val (.ref ar), .val (.ref as_), .val (.int (2 : Int32)), .val (.int (1 : Int32)), .val (.int (3 : Int32)), .val (.int (1 : Int32))] d1_107 rfl (by decide) rfl ?_
  refine Own.goto H_408 (pc := 110) 30 d1_110 (by decide) (by decide) ?_
  refine Own.iload H_408 (pc := 30) d1_30 rfl ?_
  refine Own.aload_n H_408 (pc := 32) d1_32 rfl rfl ?_
  refine Own.iload H_408 (pc := 33) d1_33 rfl ?_
  refine Own.iaload H_408 (pc := 35) (v := (3 : Int32)) 1 d1_35 A_415 rfl rfl ?_
  refine Own.icmp_ge H_408 (pc := 36) 113 d1_36 (by decide) (by decide) (fun _ => ?_) (fun hc => absurd hc (by decide))
  refine Own.aload_n H_408 (pc := 113) d1_113 rfl rfl ?_
  refine Own.iload H_408 (pc := 114) d1_114 rfl ?_
  refine Own.iaload H_408 (pc := 116) (v := (3 : Int32)) 1 d1_116 A_415 rfl rfl ?_
  refine Own.istore H_408 (pc := 117) #[.val (.ref af), .val (.ref al), .val (.ref ae), .val (.int (1 : Int32)), .val (.ref ac), .val (.ref ar), .val (.ref as_), .val (.int (3 : Int32)), .val (.int (1 : Int32)), .val (.int (3 : Int32)), .val (.int (1 : Int32))] d1_117 rfl ?_
  refine Own.iinc_c H_408 (pc := 119) (2) #[.val (.ref af), .val (.ref al), .val (.ref ae), .val (.int (1 : Int32)), .val (.ref ac), .val (.ref ar), .val (.ref as_), .val (.int (3 : Int32)), .val (.int (2 : Int32)), .val (.int (3 : Int32)), .val (.int (1 : Int32))] d1_119 rfl (by decide) rfl ?_
  refine Own.goto H_408 (pc := 122) 6 d1_122 (by decide) (by decide) ?_
  refine Own.iload H_408 (pc := 6) d1_6 rfl ?_
  refine Own.iload_n H_408 (pc := 8) d1_8 rfl ?_
  refine Own.icmp_gt H_408 (pc := 9) 125 d1_9 (by decide) (by decide) (fun _ => ?_) (fun hc => absurd hc (by decide))
  exact Own.ret_void H_408 (pc := 125) d1_125 rfl (by decide) (by decide) (⟨rfl, A_413, A_414, A_415, A_416, A_417, A_418⟩)
theorem pn_rm_lay122 : plainFor (⟨"termstone/postings/Impacts", "lay", "([I[I[II[I[I[I)V"⟩ : MethodName) = true := by first | exact plainFor_of_name (by first | (simp [plainName, overriddenIn]; done) | decide +kernel) | decide +kernel
theorem ef_rm_lay122 (af : Nat) (al : Nat) (ae : Nat) (bk : Int32) (ac : Nat) (ar : Nat) (as_ : Nat) (m : MethodId) : entryFrame m #[(.ref af), (.ref al), (.ref ae), (.int bk), (.ref ac), (.ref ar), (.ref as_)] 11 = mkF m 0 #[.val (.ref af), .val (.ref al), .val (.ref ae), .val (.int bk), .val (.ref ac), .val (.ref ar), .val (.ref as_), .unset, .unset, .unset, .unset] [] := by first | (simp [entryFrame, mkF, argsToLocals, Value.category]; done) | rfl
set_option maxRecDepth 65536 in
set_option maxHeartbeats 40000000 in
theorem rm_lay122 (l : Launch) (Z : State) (a0 : Array Value) (hw : ∀ d ∈ tables_1, d.before a0 Z = true) (af : Nat) (al : Nat) (ae : Nat) (bk : Int32) (ac : Nat) (ar : Nat) (as_ : Nat) (h0 : Heap) (n0 : Nat) (Z0 : n0 ≤ h0.size) (f0 f1 f2 f3 l0 l1 l2 l3 sv : Int32) (A0 : OAry Z h0 af .int [(.int f0), (.int f1), (.int f2), (.int f3)]) (A1 : OAry Z h0 al .int [(.int l0), (.int l1), (.int l2), (.int l3)]) (A2 : OAry Z h0 ae .int [(.int (2 : Int32)), (.int (4 : Int32))]) (A3 : OAry Z h0 ac .int [(.int sv), (.int sv), (.int sv)]) (A4 : OAry Z h0 ar .int [(.int sv), (.int sv), (.int sv), (.int sv)]) (A5 : OAry Z h0 as_ .int [(.int sv), (.int sv), (.int sv), (.int sv)]) (o0 : af < al) (o1 : al < ae) (o2 : ae < ac) (o3 : ac < ar) (o4 : ar < as_) (g3 : n0 ≤ ac) (g4 : n0 ≤ ar) (g5 : n0 ≤ as_) (hb : bk = 1) :
    OMet l Z n0 (⟨"termstone/postings/Impacts", "lay", "([I[I[II[I[I[I)V"⟩ : MethodName) prog_78_method_3_code 11 none ({ frames := 0, cells := 0, slots := 0, locals := 0 } : Room) #[(.ref af), (.ref al), (.ref ae), (.int bk), (.ref ac), (.ref ar), (.ref as_)] h0 (fun v h => v = none ∧ OAry Z h af .int [(.int f0), (.int f1), (.int f2), (.int f3)] ∧ OAry Z h al .int [(.int l0), (.int l1), (.int l2), (.int l3)] ∧ OAry Z h ae .int [(.int (2 : Int32)), (.int (4 : Int32))] ∧ OAry Z h ac .int [(.int (1 : Int32)), (.int (1 : Int32)), (.int sv)] ∧ OAry Z h ar .int [(.int ((f0 - (0 : Int32)) - (1 : Int32))), (.int ((f1 - f0) - (1 : Int32))), (.int ((f2 - (0 : Int32)) - (1 : Int32))), (.int ((f3 - f2) - (1 : Int32)))] ∧ OAry Z h as_ .int [(.int ((l0 - (-1 : Int32)) - (1 : Int32))), (.int ((l1 - l0) - (1 : Int32))), (.int ((l2 - (-1 : Int32)) - (1 : Int32))), (.int ((l3 - l2) - (1 : Int32)))]) := by
  refine OMet.of pn_rm_lay122 Z0 (ef_rm_lay122 af al ae bk ac ar as_) ?_
  intro p e s m below meth c T H
  subst hb
  refine Own.iconst H (pc := 0) (0) d1_0 rfl ?_
  refine Own.istore H (pc := 1) #[.val (.ref af), .val (.ref al), .val (.ref ae), .val (.int (1 : Int32)), .val (.ref ac), .val (.ref ar), .val (.ref as_), .val (.int (0 : Int32)), .unset, .unset, .unset] d1_1 rfl ?_
  refine Own.iconst H (pc := 3) (0) d1_3 rfl ?_
  refine Own.istore H (pc := 4) #[.val (.ref af), .val (.ref al), .val (.ref ae), .val (.int (1 : Int32)), .val (.ref ac), .val (.ref ar), .val (.ref as_), .val (.int (0 : Int32)), .val (.int (0 : Int32)), .unset, .unset] d1_4 rfl ?_
  refine Own.iload H (pc := 6) d1_6 rfl ?_
  refine Own.iload_n H (pc := 8) d1_8 rfl ?_
  refine Own.icmp_gt H (pc := 9) 125 d1_9 (by decide) (by decide) (fun hc => absurd hc (by decide)) (fun _ => ?_)
  refine Own.aload H (pc := 12) d1_12 rfl rfl ?_
  refine Own.iload H (pc := 14) d1_14 rfl ?_
  refine Own.aload_n H (pc := 16) d1_16 rfl rfl ?_
  refine Own.iload H (pc := 17) d1_17 rfl ?_
  refine Own.iaload H (pc := 19) (v := (2 : Int32)) 0 d1_19 A2 rfl rfl ?_
  refine Own.iload H (pc := 20) d1_20 rfl ?_
  refine Own.isub_c H (pc := 22) (2) d1_22 (by decide) ?_
  refine Own.iconst H (pc := 23) (1) d1_23 rfl ?_
  refine Own.isub_c H (pc := 24) (1) d1_24 (by decide) ?_
  refine Own.iastore H (pc := 25) 0 d1_25 A3 g3 rfl (by simp) (fun T_420 h_421 H_419 W_422 A_423 => ?_)
  have A_424 := A0.other W_422 (by omega)
  have A_425 := A1.other W_422 (by omega)
  have A_426 := A2.other W_422 (by omega)
  have A_427 : OAry Z h_421 ac .int [(.int (1 : Int32)), (.int sv), (.int sv)] := A_423
  have A_428 := A4.other W_422 (by omega)
  have A_429 := A5.other W_422 (by omega)
  refine Own.iload H_419 (pc := 26) d1_26 rfl ?_
  refine Own.istore H_419 (pc := 28) #[.val (.ref af), .val (.ref al), .val (.ref ae), .val (.int (1 : Int32)), .val (.ref ac), .val (.ref ar), .val (.ref as_), .val (.int (0 : Int32)), .val (.int (0 : Int32)), .val (.int (0 : Int32)), .unset] d1_28 rfl ?_
  refine Own.iload H_419 (pc := 30) d1_30 rfl ?_
  refine Own.aload_n H_419 (pc := 32) d1_32 rfl rfl ?_
  refine Own.iload H_419 (pc := 33) d1_33 rfl ?_
  refine Own.iaload H_419 (pc := 35) (v := (2 : Int32)) 0 d1_35 A_426 rfl rfl ?_
  refine Own.icmp_ge H_419 (pc := 36) 113 d1_36 (by decide) (by decide) (fun hc => absurd hc (by decide)) (fun _ => ?_)
  refine Own.iload H_419 (pc := 39) d1_39 rfl ?_
  refine Own.iload H_419 (pc := 41) d1_41 rfl ?_
  refine Own.icmp_ne H_419 (pc := 43) 50 d1_43 (by decide) (by decide) (fun hc => absurd hc (by decide)) (fun _ => ?_)
  refine Own.iconst H_419 (pc := 46) (1) d1_46 rfl ?_
  refine Own.goto H_419 (pc := 47) 51 d1_47 (by decide) (by decide) ?_
  refine Own.istore H_419 (pc := 51) #[.val (.ref af), .val (.ref al), .val (.ref ae), .val (.int (1 : Int32)), .val (.ref ac), .val (.ref ar), .val (.ref as_), .val (.int (0 : Int32)), .val (.int (0 : Int32)), .val (.int (0 : Int32)), .val (.int (1 : Int32))] d1_51 rfl ?_
  refine Own.aload H_419 (pc := 53) d1_53 rfl rfl ?_
  refine Own.iload H_419 (pc := 55) d1_55 rfl ?_
  refine Own.aload_n H_419 (pc := 57) d1_57 rfl rfl ?_
  refine Own.iload H_419 (pc := 58) d1_58 rfl ?_
  refine Own.iaload H_419 (pc := 60) (v := f0) 0 d1_60 A_424 rfl rfl ?_
  refine Own.iload H_419 (pc := 61) d1_61 rfl ?_
  refine Own.if_eq H_419 (pc := 63) 70 d1_63 (by decide) (by decide) (fun hc => absurd hc (by decide)) (fun _ => ?_)
  refine Own.iconst H_419 (pc := 66) (0) d1_66 rfl ?_
  refine Own.goto H_419 (pc := 67) 76 d1_67 (by decide) (by decide) ?_
  refine Own.isub H_419 (pc := 76) d1_76 ?_
  refine Own.iconst H_419 (pc := 77) (1) d1_77 rfl ?_
  refine Own.isub H_419 (pc := 78) d1_78 ?_
  refine Own.iastore H_419 (pc := 79) 0 d1_79 A_428 g4 rfl (by simp) (fun T_431 h_432 H_430 W_433 A_434 => ?_)
  have A_435 := A_424.other W_433 (by omega)
  have A_436 := A_425.other W_433 (by omega)
  have A_437 := A_426.other W_433 (by omega)
  have A_438 := A_427.other W_433 (by omega)
  have A_439 : OAry Z h_432 ar .int [(.int ((f0 - (0 : Int32)) - (1 : Int32))), (.int sv), (.int sv), (.int sv)] := A_434
  have A_440 := A_429.other W_433 (by omega)
  refine Own.aload H_430 (pc := 80) d1_80 rfl rfl ?_
  refine Own.iload H_430 (pc := 82) d1_82 rfl ?_
  refine Own.aload_n H_430 (pc := 84) d1_84 rfl rfl ?_
  refine Own.iload H_430 (pc := 85) d1_85 rfl ?_
  refine Own.iaload H_430 (pc := 87) (v := l0) 0 d1_87 A_436 rfl rfl ?_
  refine Own.iload H_430 (pc := 88) d1_88 rfl ?_
  refine Own.if_eq H_430 (pc := 90) 97 d1_90 (by decide) (by decide) (fun hc => absurd hc (by decide)) (fun _ => ?_)
  refine Own.iconst H_430 (pc := 93) (-1) d1_93 rfl ?_
  refine Own.goto H_430 (pc := 94) 103 d1_94 (by decide) (by decide) ?_
  refine Own.isub H_430 (pc := 103) d1_103 ?_
  refine Own.iconst H_430 (pc := 104) (1) d1_104 rfl ?_
  refine Own.isub H_430 (pc := 105) d1_105 ?_
  refine Own.iastore H_430 (pc := 106) 0 d1_106 A_440 g5 rfl (by simp) (fun T_442 h_443 H_441 W_444 A_445 => ?_)
  have A_446 := A_435.other W_444 (by omega)
  have A_447 := A_436.other W_444 (by omega)
  have A_448 := A_437.other W_444 (by omega)
  have A_449 := A_438.other W_444 (by omega)
  have A_450 := A_439.other W_444 (by omega)
  have A_451 : OAry Z h_443 as_ .int [(.int ((l0 - (-1 : Int32)) - (1 : Int32))), (.int sv), (.int sv), (.int sv)] := A_445
  refine Own.iinc_c H_441 (pc := 107) (1) #[.val (.ref af), .val (.ref al), .val (.ref ae), .val (.int (1 : Int32)), .val (.ref ac), .val (.ref ar), .val (.ref as_), .val (.int (0 : Int32)), .val (.int (0 : Int32)), .val (.int (1 : Int32)), .val (.int (1 : Int32))] d1_107 rfl (by decide) rfl ?_
  refine Own.goto H_441 (pc := 110) 30 d1_110 (by decide) (by decide) ?_
  refine Own.iload H_441 (pc := 30) d1_30 rfl ?_
  refine Own.aload_n H_441 (pc := 32) d1_32 rfl rfl ?_
  refine Own.iload H_441 (pc := 33) d1_33 rfl ?_
  refine Own.iaload H_441 (pc := 35) (v := (2 : Int32)) 0 d1_35 A_448 rfl rfl ?_
  refine Own.icmp_ge H_441 (pc := 36) 113 d1_36 (by decide) (by decide) (fun hc => absurd hc (by decide)) (fun _ => ?_)
  refine Own.iload H_441 (pc := 39) d1_39 rfl ?_
  refine Own.iload H_441 (pc := 41) d1_41 rfl ?_
  refine Own.icmp_ne H_441 (pc := 43) 50 d1_43 (by decide) (by decide) (fun _ => ?_) (fun hc => absurd hc (by decide))
  refine Own.iconst H_441 (pc := 50) (0) d1_50 rfl ?_
  refine Own.istore H_441 (pc := 51) #[.val (.ref af), .val (.ref al), .val (.ref ae), .val (.int (1 : Int32)), .val (.ref ac), .val (.ref ar), .val (.ref as_), .val (.int (0 : Int32)), .val (.int (0 : Int32)), .val (.int (1 : Int32)), .val (.int (0 : Int32))] d1_51 rfl ?_
  refine Own.aload H_441 (pc := 53) d1_53 rfl rfl ?_
  refine Own.iload H_441 (pc := 55) d1_55 rfl ?_
  refine Own.aload_n H_441 (pc := 57) d1_57 rfl rfl ?_
  refine Own.iload H_441 (pc := 58) d1_58 rfl ?_
  refine Own.iaload H_441 (pc := 60) (v := f1) 1 d1_60 A_446 rfl rfl ?_
  refine Own.iload H_441 (pc := 61) d1_61 rfl ?_
  refine Own.if_eq H_441 (pc := 63) 70 d1_63 (by decide) (by decide) (fun _ => ?_) (fun hc => absurd hc (by decide))
  refine Own.aload_n H_441 (pc := 70) d1_70 rfl rfl ?_
  refine Own.iload H_441 (pc := 71) d1_71 rfl ?_
  refine Own.iconst H_441 (pc := 73) (1) d1_73 rfl ?_
  refine Own.isub_c H_441 (pc := 74) (0) d1_74 (by decide) ?_
  refine Own.iaload H_441 (pc := 75) (v := f0) 0 d1_75 A_446 rfl rfl ?_
  refine Own.isub H_441 (pc := 76) d1_76 ?_
  refine Own.iconst H_441 (pc := 77) (1) d1_77 rfl ?_
  refine Own.isub H_441 (pc := 78) d1_78 ?_
  refine Own.iastore H_441 (pc := 79) 1 d1_79 A_450 g4 rfl (by simp) (fun T_453 h_454 H_452 W_455 A_456 => ?_)
  have A_457 := A_446.other W_455 (by omega)
  have A_458 := A_447.other W_455 (by omega)
  have A_459 := A_448.other W_455 (by omega)
  have A_460 := A_449.other W_455 (by omega)
  have A_461 : OAry Z h_454 ar .int [(.int ((f0 - (0 : Int32)) - (1 : Int32))), (.int ((f1 - f0) - (1 : Int32))), (.int sv), (.int sv)] := A_456
  have A_462 := A_451.other W_455 (by omega)
  refine Own.aload H_452 (pc := 80) d1_80 rfl rfl ?_
  refine Own.iload H_452 (pc := 82) d1_82 rfl ?_
  refine Own.aload_n H_452 (pc := 84) d1_84 rfl rfl ?_
  refine Own.iload H_452 (pc := 85) d1_85 rfl ?_
  refine Own.iaload H_452 (pc := 87) (v := l1) 1 d1_87 A_458 rfl rfl ?_
  refine Own.iload H_452 (pc := 88) d1_88 rfl ?_
  refine Own.if_eq H_452 (pc := 90) 97 d1_90 (by decide) (by decide) (fun _ => ?_) (fun hc => absurd hc (by decide))
  refine Own.aload_n H_452 (pc := 97) d1_97 rfl rfl ?_
  refine Own.iload H_452 (pc := 98) d1_98 rfl ?_
  refine Own.iconst H_452 (pc := 100) (1) d1_100 rfl ?_
  refine Own.isub_c H_452 (pc := 101) (0) d1_101 (by decide) ?_
  refine Own.iaload H_452 (pc := 102) (v := l0) 0 d1_102 A_458 rfl rfl ?_
  refine Own.isub H_452 (pc := 103) d1_103 ?_
  refine Own.iconst H_452 (pc := 104) (1) d1_104 rfl ?_
  refine Own.isub H_452 (pc := 105) d1_105 ?_
  refine Own.iastore H_452 (pc := 106) 1 d1_106 A_462 g5 rfl (by simp) (fun T_464 h_465 H_463 W_466 A_467 => ?_)
  have A_468 := A_457.other W_466 (by omega)
  have A_469 := A_458.other W_466 (by omega)
  have A_470 := A_459.other W_466 (by omega)
  have A_471 := A_460.other W_466 (by omega)
  have A_472 := A_461.other W_466 (by omega)
  have A_473 : OAry Z h_465 as_ .int [(.int ((l0 - (-1 : Int32)) - (1 : Int32))), (.int ((l1 - l0) - (1 : Int32))), (.int sv), (.int sv)] := A_467
  refine Own.iinc_c H_463 (pc := 107) (2) #[.val (.ref af), .val (.ref al), .val (.ref ae), .val (.int (1 : Int32)), .val (.ref ac), .val (.ref ar), .val (.ref as_), .val (.int (0 : Int32)), .val (.int (0 : Int32)), .val (.int (2 : Int32)), .val (.int (0 : Int32))] d1_107 rfl (by decide) rfl ?_
  refine Own.goto H_463 (pc := 110) 30 d1_110 (by decide) (by decide) ?_
  refine Own.iload H_463 (pc := 30) d1_30 rfl ?_
  refine Own.aload_n H_463 (pc := 32) d1_32 rfl rfl ?_
  refine Own.iload H_463 (pc := 33) d1_33 rfl ?_
  refine Own.iaload H_463 (pc := 35) (v := (2 : Int32)) 0 d1_35 A_470 rfl rfl ?_
  refine Own.icmp_ge H_463 (pc := 36) 113 d1_36 (by decide) (by decide) (fun _ => ?_) (fun hc => absurd hc (by decide))
  refine Own.aload_n H_463 (pc := 113) d1_113 rfl rfl ?_
  refine Own.iload H_463 (pc := 114) d1_114 rfl ?_
  refine Own.iaload H_463 (pc := 116) (v := (2 : Int32)) 0 d1_116 A_470 rfl rfl ?_
  refine Own.istore H_463 (pc := 117) #[.val (.ref af), .val (.ref al), .val (.ref ae), .val (.int (1 : Int32)), .val (.ref ac), .val (.ref ar), .val (.ref as_), .val (.int (2 : Int32)), .val (.int (0 : Int32)), .val (.int (2 : Int32)), .val (.int (0 : Int32))] d1_117 rfl ?_
  refine Own.iinc_c H_463 (pc := 119) (1) #[.val (.ref af), .val (.ref al), .val (.ref ae), .val (.int (1 : Int32)), .val (.ref ac), .val (.ref ar), .val (.ref as_), .val (.int (2 : Int32)), .val (.int (1 : Int32)), .val (.int (2 : Int32)), .val (.int (0 : Int32))] d1_119 rfl (by decide) rfl ?_
  refine Own.goto H_463 (pc := 122) 6 d1_122 (by decide) (by decide) ?_
  refine Own.iload H_463 (pc := 6) d1_6 rfl ?_
  refine Own.iload_n H_463 (pc := 8) d1_8 rfl ?_
  refine Own.icmp_gt H_463 (pc := 9) 125 d1_9 (by decide) (by decide) (fun hc => absurd hc (by decide)) (fun _ => ?_)
  refine Own.aload H_463 (pc := 12) d1_12 rfl rfl ?_
  refine Own.iload H_463 (pc := 14) d1_14 rfl ?_
  refine Own.aload_n H_463 (pc := 16) d1_16 rfl rfl ?_
  refine Own.iload H_463 (pc := 17) d1_17 rfl ?_
  refine Own.iaload H_463 (pc := 19) (v := (4 : Int32)) 1 d1_19 A_470 rfl rfl ?_
  refine Own.iload H_463 (pc := 20) d1_20 rfl ?_
  refine Own.isub_c H_463 (pc := 22) (2) d1_22 (by decide) ?_
  refine Own.iconst H_463 (pc := 23) (1) d1_23 rfl ?_
  refine Own.isub_c H_463 (pc := 24) (1) d1_24 (by decide) ?_
  refine Own.iastore H_463 (pc := 25) 1 d1_25 A_471 g3 rfl (by simp) (fun T_475 h_476 H_474 W_477 A_478 => ?_)
  have A_479 := A_468.other W_477 (by omega)
  have A_480 := A_469.other W_477 (by omega)
  have A_481 := A_470.other W_477 (by omega)
  have A_482 : OAry Z h_476 ac .int [(.int (1 : Int32)), (.int (1 : Int32)), (.int sv)] := A_478
  have A_483 := A_472.other W_477 (by omega)
  have A_484 := A_473.other W_477 (by omega)
  refine Own.iload H_474 (pc := 26) d1_26 rfl ?_
  refine Own.istore H_474 (pc := 28) #[.val (.ref af), .val (.ref al), .val (.ref ae), .val (.int (1 : Int32)), .val (.ref ac), .val (.ref ar), .val (.ref as_), .val (.int (2 : Int32)), .val (.int (1 : Int32)), .val (.int (2 : Int32)), .val (.int (0 : Int32))] d1_28 rfl ?_
  refine Own.iload H_474 (pc := 30) d1_30 rfl ?_
  refine Own.aload_n H_474 (pc := 32) d1_32 rfl rfl ?_
  refine Own.iload H_474 (pc := 33) d1_33 rfl ?_
  refine Own.iaload H_474 (pc := 35) (v := (4 : Int32)) 1 d1_35 A_481 rfl rfl ?_
  refine Own.icmp_ge H_474 (pc := 36) 113 d1_36 (by decide) (by decide) (fun hc => absurd hc (by decide)) (fun _ => ?_)
  refine Own.iload H_474 (pc := 39) d1_39 rfl ?_
  refine Own.iload H_474 (pc := 41) d1_41 rfl ?_
  refine Own.icmp_ne H_474 (pc := 43) 50 d1_43 (by decide) (by decide) (fun hc => absurd hc (by decide)) (fun _ => ?_)
  refine Own.iconst H_474 (pc := 46) (1) d1_46 rfl ?_
  refine Own.goto H_474 (pc := 47) 51 d1_47 (by decide) (by decide) ?_
  refine Own.istore H_474 (pc := 51) #[.val (.ref af), .val (.ref al), .val (.ref ae), .val (.int (1 : Int32)), .val (.ref ac), .val (.ref ar), .val (.ref as_), .val (.int (2 : Int32)), .val (.int (1 : Int32)), .val (.int (2 : Int32)), .val (.int (1 : Int32))] d1_51 rfl ?_
  refine Own.aload H_474 (pc := 53) d1_53 rfl rfl ?_
  refine Own.iload H_474 (pc := 55) d1_55 rfl ?_
  refine Own.aload_n H_474 (pc := 57) d1_57 rfl rfl ?_
  refine Own.iload H_474 (pc := 58) d1_58 rfl ?_
  refine Own.iaload H_474 (pc := 60) (v := f2) 2 d1_60 A_479 rfl rfl ?_
  refine Own.iload H_474 (pc := 61) d1_61 rfl ?_
  refine Own.if_eq H_474 (pc := 63) 70 d1_63 (by decide) (by decide) (fun hc => absurd hc (by decide)) (fun _ => ?_)
  refine Own.iconst H_474 (pc := 66) (0) d1_66 rfl ?_
  refine Own.goto H_474 (pc := 67) 76 d1_67 (by decide) (by decide) ?_
  refine Own.isub H_474 (pc := 76) d1_76 ?_
  refine Own.iconst H_474 (pc := 77) (1) d1_77 rfl ?_
  refine Own.isub H_474 (pc := 78) d1_78 ?_
  refine Own.iastore H_474 (pc := 79) 2 d1_79 A_483 g4 rfl (by simp) (fun T_486 h_487 H_485 W_488 A_489 => ?_)
  have A_490 := A_479.other W_488 (by omega)
  have A_491 := A_480.other W_488 (by omega)
  have A_492 := A_481.other W_488 (by omega)
  have A_493 := A_482.other W_488 (by omega)
  have A_494 : OAry Z h_487 ar .int [(.int ((f0 - (0 : Int32)) - (1 : Int32))), (.int ((f1 - f0) - (1 : Int32))), (.int ((f2 - (0 : Int32)) - (1 : Int32))), (.int sv)] := A_489
  have A_495 := A_484.other W_488 (by omega)
  refine Own.aload H_485 (pc := 80) d1_80 rfl rfl ?_
  refine Own.iload H_485 (pc := 82) d1_82 rfl ?_
  refine Own.aload_n H_485 (pc := 84) d1_84 rfl rfl ?_
  refine Own.iload H_485 (pc := 85) d1_85 rfl ?_
  refine Own.iaload H_485 (pc := 87) (v := l2) 2 d1_87 A_491 rfl rfl ?_
  refine Own.iload H_485 (pc := 88) d1_88 rfl ?_
  refine Own.if_eq H_485 (pc := 90) 97 d1_90 (by decide) (by decide) (fun hc => absurd hc (by decide)) (fun _ => ?_)
  refine Own.iconst H_485 (pc := 93) (-1) d1_93 rfl ?_
  refine Own.goto H_485 (pc := 94) 103 d1_94 (by decide) (by decide) ?_
  refine Own.isub H_485 (pc := 103) d1_103 ?_
  refine Own.iconst H_485 (pc := 104) (1) d1_104 rfl ?_
  refine Own.isub H_485 (pc := 105) d1_105 ?_
  refine Own.iastore H_485 (pc := 106) 2 d1_106 A_495 g5 rfl (by simp) (fun T_497 h_498 H_496 W_499 A_500 => ?_)
  have A_501 := A_490.other W_499 (by omega)
  have A_502 := A_491.other W_499 (by omega)
  have A_503 := A_492.other W_499 (by omega)
  have A_504 := A_493.other W_499 (by omega)
  have A_505 := A_494.other W_499 (by omega)
  have A_506 : OAry Z h_498 as_ .int [(.int ((l0 - (-1 : Int32)) - (1 : Int32))), (.int ((l1 - l0) - (1 : Int32))), (.int ((l2 - (-1 : Int32)) - (1 : Int32))), (.int sv)] := A_500
  refine Own.iinc_c H_496 (pc := 107) (3) #[.val (.ref af), .val (.ref al), .val (.ref ae), .val (.int (1 : Int32)), .val (.ref ac), .val (.ref ar), .val (.ref as_), .val (.int (2 : Int32)), .val (.int (1 : Int32)), .val (.int (3 : Int32)), .val (.int (1 : Int32))] d1_107 rfl (by decide) rfl ?_
  refine Own.goto H_496 (pc := 110) 30 d1_110 (by decide) (by decide) ?_
  refine Own.iload H_496 (pc := 30) d1_30 rfl ?_
  refine Own.aload_n H_496 (pc := 32) d1_32 rfl rfl ?_
  refine Own.iload H_496 (pc := 33) d1_33 rfl ?_
  refine Own.iaload H_496 (pc := 35) (v := (4 : Int32)) 1 d1_35 A_503 rfl rfl ?_
  refine Own.icmp_ge H_496 (pc := 36) 113 d1_36 (by decide) (by decide) (fun hc => absurd hc (by decide)) (fun _ => ?_)
  refine Own.iload H_496 (pc := 39) d1_39 rfl ?_
  refine Own.iload H_496 (pc := 41) d1_41 rfl ?_
  refine Own.icmp_ne H_496 (pc := 43) 50 d1_43 (by decide) (by decide) (fun _ => ?_) (fun hc => absurd hc (by decide))
  refine Own.iconst H_496 (pc := 50) (0) d1_50 rfl ?_
  refine Own.istore H_496 (pc := 51) #[.val (.ref af), .val (.ref al), .val (.ref ae), .val (.int (1 : Int32)), .val (.ref ac), .val (.ref ar), .val (.ref as_), .val (.int (2 : Int32)), .val (.int (1 : Int32)), .val (.int (3 : Int32)), .val (.int (0 : Int32))] d1_51 rfl ?_
  refine Own.aload H_496 (pc := 53) d1_53 rfl rfl ?_
  refine Own.iload H_496 (pc := 55) d1_55 rfl ?_
  refine Own.aload_n H_496 (pc := 57) d1_57 rfl rfl ?_
  refine Own.iload H_496 (pc := 58) d1_58 rfl ?_
  refine Own.iaload H_496 (pc := 60) (v := f3) 3 d1_60 A_501 rfl rfl ?_
  refine Own.iload H_496 (pc := 61) d1_61 rfl ?_
  refine Own.if_eq H_496 (pc := 63) 70 d1_63 (by decide) (by decide) (fun _ => ?_) (fun hc => absurd hc (by decide))
  refine Own.aload_n H_496 (pc := 70) d1_70 rfl rfl ?_
  refine Own.iload H_496 (pc := 71) d1_71 rfl ?_
  refine Own.iconst H_496 (pc := 73) (1) d1_73 rfl ?_
  refine Own.isub_c H_496 (pc := 74) (2) d1_74 (by decide) ?_
  refine Own.iaload H_496 (pc := 75) (v := f2) 2 d1_75 A_501 rfl rfl ?_
  refine Own.isub H_496 (pc := 76) d1_76 ?_
  refine Own.iconst H_496 (pc := 77) (1) d1_77 rfl ?_
  refine Own.isub H_496 (pc := 78) d1_78 ?_
  refine Own.iastore H_496 (pc := 79) 3 d1_79 A_505 g4 rfl (by simp) (fun T_508 h_509 H_507 W_510 A_511 => ?_)
  have A_512 := A_501.other W_510 (by omega)
  have A_513 := A_502.other W_510 (by omega)
  have A_514 := A_503.other W_510 (by omega)
  have A_515 := A_504.other W_510 (by omega)
  have A_516 : OAry Z h_509 ar .int [(.int ((f0 - (0 : Int32)) - (1 : Int32))), (.int ((f1 - f0) - (1 : Int32))), (.int ((f2 - (0 : Int32)) - (1 : Int32))), (.int ((f3 - f2) - (1 : Int32)))] := A_511
  have A_517 := A_506.other W_510 (by omega)
  refine Own.aload H_507 (pc := 80) d1_80 rfl rfl ?_
  refine Own.iload H_507 (pc := 82) d1_82 rfl ?_
  refine Own.aload_n H_507 (pc := 84) d1_84 rfl rfl ?_
  refine Own.iload H_507 (pc := 85) d1_85 rfl ?_
  refine Own.iaload H_507 (pc := 87) (v := l3) 3 d1_87 A_513 rfl rfl ?_
  refine Own.iload H_507 (pc := 88) d1_88 rfl ?_
  refine Own.if_eq H_507 (pc := 90) 97 d1_90 (by decide) (by decide) (fun _ => ?_) (fun hc => absurd hc (by decide))
  refine Own.aload_n H_507 (pc := 97) d1_97 rfl rfl ?_
  refine Own.iload H_507 (pc := 98) d1_98 rfl ?_
  refine Own.iconst H_507 (pc := 100) (1) d1_100 rfl ?_
  refine Own.isub_c H_507 (pc := 101) (2) d1_101 (by decide) ?_
  refine Own.iaload H_507 (pc := 102) (v := l2) 2 d1_102 A_513 rfl rfl ?_
  refine Own.isub H_507 (pc := 103) d1_103 ?_
  refine Own.iconst H_507 (pc := 104) (1) d1_104 rfl ?_
  refine Own.isub H_507 (pc := 105) d1_105 ?_
  refine Own.iastore H_507 (pc := 106) 3 d1_106 A_517 g5 rfl (by simp) (fun T_519 h_520 H_518 W_521 A_522 => ?_)
  have A_523 := A_512.other W_521 (by omega)
  have A_524 := A_513.other W_521 (by omega)
  have A_525 := A_514.other W_521 (by omega)
  have A_526 := A_515.other W_521 (by omega)
  have A_527 := A_516.other W_521 (by omega)
  have A_528 : OAry Z h_520 as_ .int [(.int ((l0 - (-1 : Int32)) - (1 : Int32))), (.int ((l1 - l0) - (1 : Int32))), (.int ((l2 - (-1 : Int32)) - (1 : Int32))), (.int ((l3 - l2) - (1 : Int32)))] := A_522
  refine Own.iinc_c H_518 (pc := 107) (4) #[.val (.ref af), .val (.ref al), .val (.ref ae), .val (.int (1 : Int32)), .val (.ref ac), .val (.ref ar), .val (.ref as_), .val (.int (2 : Int32)), .val (.int (1 : Int32)), .val (.int (4 : Int32)), .val (.int (0 : Int32))] d1_107 rfl (by decide) rfl ?_
  refine Own.goto H_518 (pc := 110) 30 d1_110 (by decide) (by decide) ?_
  refine Own.iload H_518 (pc := 30) d1_30 rfl ?_
  refine Own.aload_n H_518 (pc := 32) d1_32 rfl rfl ?_
  refine Own.iload H_518 (pc := 33) d1_33 rfl ?_
  refine Own.iaload H_518 (pc := 35) (v := (4 : Int32)) 1 d1_35 A_525 rfl rfl ?_
  refine Own.icmp_ge H_518 (pc := 36) 113 d1_36 (by decide) (by decide) (fun _ => ?_) (fun hc => absurd hc (by decide))
  refine Own.aload_n H_518 (pc := 113) d1_113 rfl rfl ?_
  refine Own.iload H_518 (pc := 114) d1_114 rfl ?_
  refine Own.iaload H_518 (pc := 116) (v := (4 : Int32)) 1 d1_116 A_525 rfl rfl ?_
  refine Own.istore H_518 (pc := 117) #[.val (.ref af), .val (.ref al), .val (.ref ae), .val (.int (1 : Int32)), .val (.ref ac), .val (.ref ar), .val (.ref as_), .val (.int (4 : Int32)), .val (.int (1 : Int32)), .val (.int (4 : Int32)), .val (.int (0 : Int32))] d1_117 rfl ?_
  refine Own.iinc_c H_518 (pc := 119) (2) #[.val (.ref af), .val (.ref al), .val (.ref ae), .val (.int (1 : Int32)), .val (.ref ac), .val (.ref ar), .val (.ref as_), .val (.int (4 : Int32)), .val (.int (2 : Int32)), .val (.int (4 : Int32)), .val (.int (0 : Int32))] d1_119 rfl (by decide) rfl ?_
  refine Own.goto H_518 (pc := 122) 6 d1_122 (by decide) (by decide) ?_
  refine Own.iload H_518 (pc := 6) d1_6 rfl ?_
  refine Own.iload_n H_518 (pc := 8) d1_8 rfl ?_
  refine Own.icmp_gt H_518 (pc := 9) 125 d1_9 (by decide) (by decide) (fun _ => ?_) (fun hc => absurd hc (by decide))
  exact Own.ret_void H_518 (pc := 125) d1_125 rfl (by decide) (by decide) (⟨rfl, A_523, A_524, A_525, A_526, A_527, A_528⟩)
theorem pn_rm_seg : plainFor (⟨"termstone/postings/ImpactsLayPinLaw", "segment", "([I[I[I[III)Z"⟩ : MethodName) = true := by first | exact plainFor_of_name (by first | (simp [plainName, overriddenIn]; done) | decide +kernel) | decide +kernel
theorem ef_rm_seg (ar : Nat) (as_ : Nat) (af : Nat) (al : Nat) (fr : Int32) (cn : Int32) (m : MethodId) : entryFrame m #[(.ref ar), (.ref as_), (.ref af), (.ref al), (.int fr), (.int cn)] 7 = mkF m 0 #[.val (.ref ar), .val (.ref as_), .val (.ref af), .val (.ref al), .val (.int fr), .val (.int cn), .unset] [] := by first | (simp [entryFrame, mkF, argsToLocals, Value.category]; done) | rfl
set_option maxRecDepth 65536 in
set_option maxHeartbeats 40000000 in
theorem rm_seg (l : Launch) (Z : State) (a0 : Array Value) (hw : ∀ d ∈ tables_1, d.before a0 Z = true) (ar : Nat) (as_ : Nat) (af : Nat) (al : Nat) (fr : Int32) (cn : Int32) (h0 : Heap) (n0 : Nat) (Z0 : n0 ≤ h0.size) (rf rl ff ll : List Int32) (B0 : OAry Z h0 ar .int (rf.map Value.int)) (B1 : OAry Z h0 as_ .int (rl.map Value.int)) (B2 : OAry Z h0 af .int (ff.map Value.int)) (B3 : OAry Z h0 al .int (ll.map Value.int)) (k0 : rf.length = 4) (k1 : rl.length = 4) (k2 : ff.length = 4) (k3 : ll.length = 4) (i : Nat) (hi : i < 4) (hf : fr.toInt = (i : Int)) (h1 : rf.getD i 0 + 1 = ff.getD i 0) (h2 : rl.getD i 0 = ll.getD i 0) (h3 : cn = 2 → i + 1 < 4 ∧ (ff.getD i 0 + rf.getD (i + 1) 0) + 1 = ff.getD (i + 1) 0 ∧ (ll.getD i 0 + rl.getD (i + 1) 0) + 1 = ll.getD (i + 1) 0) :
    OMet l Z n0 (⟨"termstone/postings/ImpactsLayPinLaw", "segment", "([I[I[I[III)Z"⟩ : MethodName) method_2_code 7 (some .boolean) ({ frames := 0, cells := 0, slots := 0, locals := 0 } : Room) #[(.ref ar), (.ref as_), (.ref af), (.ref al), (.int fr), (.int cn)] h0 (fun v h => v = some (.int 1) ∧ h = h0) := by
  refine OMet.of pn_rm_seg Z0 (ef_rm_seg ar as_ af al fr cn) ?_
  intro p e s m below meth c T H
  have hf1 : i + 1 < 4 → (fr + 1).toInt = ((i + 1 : Nat) : Int) := by
    intro q
    have a1 := c_iadd fr 1
    have r := rng32 (fr + 1)
    have e1 : (1 : Int32).toInt = 1 := rfl
    omega
  refine Own.aload_n H (pc := 0) d2_0 rfl rfl ?_
  refine Own.iload H (pc := 1) d2_1 rfl ?_
  refine Own.iaload H (pc := 3) (v := (rf.getD i 0)) i d2_3 B0 hf (own_map (by omega)) ?_
  refine Own.iconst H (pc := 4) (1) d2_4 rfl ?_
  refine Own.iadd H (pc := 5) d2_5 ?_
  refine Own.aload_n H (pc := 6) d2_6 rfl rfl ?_
  refine Own.iload H (pc := 7) d2_7 rfl ?_
  refine Own.iaload H (pc := 9) (v := (ff.getD i 0)) i d2_9 B2 hf (own_map (by omega)) ?_
  refine Own.icmp_ne H (pc := 10) 28 d2_10 (by decide) (by decide) (fun hX => absurd h1 hX) (fun _ => ?_)
  refine Own.aload_n H (pc := 13) d2_13 rfl rfl ?_
  refine Own.iload H (pc := 14) d2_14 rfl ?_
  refine Own.iaload H (pc := 16) (v := (rl.getD i 0)) i d2_16 B1 hf (own_map (by omega)) ?_
  refine Own.aload_n H (pc := 17) d2_17 rfl rfl ?_
  refine Own.iload H (pc := 18) d2_18 rfl ?_
  refine Own.iaload H (pc := 20) (v := (ll.getD i 0)) i d2_20 B3 hf (own_map (by omega)) ?_
  refine Own.icmp_ne H (pc := 21) 28 d2_21 (by decide) (by decide) (fun hX => absurd h2 hX) (fun _ => ?_)
  refine Own.iconst H (pc := 24) (1) d2_24 rfl ?_
  refine Own.goto H (pc := 25) 29 d2_25 (by decide) (by decide) ?_
  refine Own.istore H (pc := 29) #[.val (.ref ar), .val (.ref as_), .val (.ref af), .val (.ref al), .val (.int fr), .val (.int cn), .val (.int (1 : Int32))] d2_29 rfl ?_
  refine Own.iload H (pc := 31) d2_31 rfl ?_
  refine Own.iconst H (pc := 33) (2) d2_33 rfl ?_
  refine Own.icmp_ne H (pc := 34) 93 d2_34 (by decide) (by decide) (fun hc => ?_) (fun hc => ?_)
  · refine Own.iload H (pc := 93) d2_93 rfl ?_
    exact Own.ret_nar H (pc := 95) (1) d2_95 rfl (by simp) (by decide) (by decide) (by decide) (⟨rfl, rfl⟩)
  · obtain ⟨q1, q2, q3⟩ := h3 hc
    refine Own.iload H (pc := 37) d2_37 rfl ?_
    refine Own.if_eq H (pc := 39) 90 d2_39 (by decide) (by decide) (fun hc => absurd hc (by decide)) (fun _ => ?_)
    refine Own.aload_n H (pc := 42) d2_42 rfl rfl ?_
    refine Own.iload H (pc := 43) d2_43 rfl ?_
    refine Own.iaload H (pc := 45) (v := (ff.getD i 0)) i d2_45 B2 hf (own_map (by omega)) ?_
    refine Own.aload_n H (pc := 46) d2_46 rfl rfl ?_
    refine Own.iload H (pc := 47) d2_47 rfl ?_
    refine Own.iconst H (pc := 49) (1) d2_49 rfl ?_
    refine Own.iadd H (pc := 50) d2_50 ?_
    refine Own.iaload H (pc := 51) (v := (rf.getD (i + 1) 0)) (i + 1) d2_51 B0 (hf1 q1) (own_map (by omega)) ?_
    refine Own.iadd H (pc := 52) d2_52 ?_
    refine Own.iconst H (pc := 53) (1) d2_53 rfl ?_
    refine Own.iadd H (pc := 54) d2_54 ?_
    refine Own.aload_n H (pc := 55) d2_55 rfl rfl ?_
    refine Own.iload H (pc := 56) d2_56 rfl ?_
    refine Own.iconst H (pc := 58) (1) d2_58 rfl ?_
    refine Own.iadd H (pc := 59) d2_59 ?_
    refine Own.iaload H (pc := 60) (v := (ff.getD (i + 1) 0)) (i + 1) d2_60 B2 (hf1 q1) (own_map (by omega)) ?_
    refine Own.icmp_ne H (pc := 61) 90 d2_61 (by decide) (by decide) (fun hX => absurd q2 hX) (fun _ => ?_)
    refine Own.aload_n H (pc := 64) d2_64 rfl rfl ?_
    refine Own.iload H (pc := 65) d2_65 rfl ?_
    refine Own.iaload H (pc := 67) (v := (ll.getD i 0)) i d2_67 B3 hf (own_map (by omega)) ?_
    refine Own.aload_n H (pc := 68) d2_68 rfl rfl ?_
    refine Own.iload H (pc := 69) d2_69 rfl ?_
    refine Own.iconst H (pc := 71) (1) d2_71 rfl ?_
    refine Own.iadd H (pc := 72) d2_72 ?_
    refine Own.iaload H (pc := 73) (v := (rl.getD (i + 1) 0)) (i + 1) d2_73 B1 (hf1 q1) (own_map (by omega)) ?_
    refine Own.iadd H (pc := 74) d2_74 ?_
    refine Own.iconst H (pc := 75) (1) d2_75 rfl ?_
    refine Own.iadd H (pc := 76) d2_76 ?_
    refine Own.aload_n H (pc := 77) d2_77 rfl rfl ?_
    refine Own.iload H (pc := 78) d2_78 rfl ?_
    refine Own.iconst H (pc := 80) (1) d2_80 rfl ?_
    refine Own.iadd H (pc := 81) d2_81 ?_
    refine Own.iaload H (pc := 82) (v := (ll.getD (i + 1) 0)) (i + 1) d2_82 B3 (hf1 q1) (own_map (by omega)) ?_
    refine Own.icmp_ne H (pc := 83) 90 d2_83 (by decide) (by decide) (fun hX => absurd q3 hX) (fun _ => ?_)
    refine Own.iconst H (pc := 86) (1) d2_86 rfl ?_
    refine Own.goto H (pc := 87) 91 d2_87 (by decide) (by decide) ?_
    refine Own.istore H (pc := 91) #[.val (.ref ar), .val (.ref as_), .val (.ref af), .val (.ref al), .val (.int fr), .val (.int cn), .val (.int (1 : Int32))] d2_91 rfl ?_
    refine Own.iload H (pc := 93) d2_93 rfl ?_
    exact Own.ret_nar H (pc := 95) (1) d2_95 rfl (by simp) (by decide) (by decide) (by decide) (⟨rfl, rfl⟩)
theorem pn_rm_unt : plainFor (⟨"termstone/postings/ImpactsLayPinLaw", "untouched", "([IIII)Z"⟩ : MethodName) = true := by first | exact plainFor_of_name (by first | (simp [plainName, overriddenIn]; done) | decide +kernel) | decide +kernel
theorem ef_rm_unt (a : Nat) (pp : Int32) (tt : Int32) (sv : Int32) (m : MethodId) : entryFrame m #[(.ref a), (.int pp), (.int tt), (.int sv)] 4 = mkF m 0 #[.val (.ref a), .val (.int pp), .val (.int tt), .val (.int sv)] [] := by first | (simp [entryFrame, mkF, argsToLocals, Value.category]; done) | rfl
set_option maxRecDepth 65536 in
set_option maxHeartbeats 40000000 in
theorem rm_unt (l : Launch) (Z : State) (a0 : Array Value) (hw : ∀ d ∈ tables_1, d.before a0 Z = true) (a : Nat) (pp : Int32) (tt : Int32) (sv : Int32) (h0 : Heap) (n0 : Nat) (Z0 : n0 ≤ h0.size) (xs : List Int32) (B : OAry Z h0 a .int (xs.map Value.int)) (i : Nat) (hi : i < xs.length) (hp : pp.toInt = (i : Int)) (hs : ¬ pp < tt → xs.getD i 0 = sv) :
    OMet l Z n0 (⟨"termstone/postings/ImpactsLayPinLaw", "untouched", "([IIII)Z"⟩ : MethodName) method_3_code 4 (some .boolean) ({ frames := 0, cells := 0, slots := 0, locals := 0 } : Room) #[(.ref a), (.int pp), (.int tt), (.int sv)] h0 (fun v h => v = some (.int 1) ∧ h = h0) := by
  refine OMet.of pn_rm_unt Z0 (ef_rm_unt a pp tt sv) ?_
  intro p e s m below meth c T H
  refine Own.iload_n H (pc := 0) d3_0 rfl ?_
  refine Own.iload_n H (pc := 1) d3_1 rfl ?_
  refine Own.icmp_lt H (pc := 2) 12 d3_2 (by decide) (by decide) (fun hc => ?_) (fun hc => ?_)
  · refine Own.iconst H (pc := 12) (1) d3_12 rfl ?_
    refine Own.goto H (pc := 13) 17 d3_13 (by decide) (by decide) ?_
    exact Own.ret_nar H (pc := 17) (1) d3_17 rfl (by simp) (by decide) (by decide) (by decide) (⟨rfl, rfl⟩)
  · refine Own.aload_n H (pc := 5) d3_5 rfl rfl ?_
    refine Own.iload_n H (pc := 6) d3_6 rfl ?_
    refine Own.iaload H (pc := 7) (v := (xs.getD i 0)) i d3_7 B hp (own_map hi) ?_
    refine Own.iload_n H (pc := 8) d3_8 rfl ?_
    refine Own.icmp_ne H (pc := 9) 16 d3_9 (by decide) (by decide) (fun hX => absurd (hs hc) hX) (fun _ => ?_)
    refine Own.iconst H (pc := 12) (1) d3_12 rfl ?_
    refine Own.goto H (pc := 13) 17 d3_13 (by decide) (by decide) ?_
    exact Own.ret_nar H (pc := 17) (1) d3_17 rfl (by simp) (by decide) (by decide) (by decide) (⟨rfl, rfl⟩)
theorem pn_rm_law : plainFor x = true := by first | exact plainFor_of_name (by first | (simp [plainName, overriddenIn]; done) | decide +kernel) | decide +kernel
theorem ef_rm_law (p0 : Int64) (p1 : Int64) (p2 : Int64) (p3 : Int64) (p4 : Int32) (sv : Int32) (m : MethodId) : entryFrame m #[(.long p0), (.long p1), (.long p2), (.long p3), (.int p4), (.int sv)] maxLocals = mkF m 0 #[.val (.long p0), .second, .val (.long p1), .second, .val (.long p2), .second, .val (.long p3), .second, .val (.int p4), .val (.int sv), .unset, .unset, .unset, .unset, .unset, .unset, .unset, .unset, .unset, .unset, .unset] [] := by first | (simp [entryFrame, mkF, argsToLocals, Value.category, maxLocals]; done) | rfl
set_option maxRecDepth 65536 in
set_option maxHeartbeats 40000000 in
theorem rm_law (l : Launch) (Z : State) (a0 : Array Value) (hw : ∀ d ∈ tables_1, d.before a0 Z = true) (p0 : Int64) (p1 : Int64) (p2 : Int64) (p3 : Int64) (p4 : Int32) (sv : Int32) (h0 : Heap) (n0 : Nat) (Z0 : n0 ≤ h0.size)  :
    OMet l Z n0 x code maxLocals ret room_1 #[(.long p0), (.long p1), (.long p2), (.long p3), (.int p4), (.int sv)] h0 (fun v h => v = some (.int 1)) := by
  refine OMet.of pn_rm_law Z0 (ef_rm_law p0 p1 p2 p3 p4 sv) ?_
  intro p e s m below meth c T H
  refine Own.iload H (pc := 0) at_0 rfl ?_
  refine Own.iconst H (pc := 2) (1) at_2 rfl ?_
  refine Own.iand H (pc := 3) at_3 ?_
  generalize eb0 : (p4 &&& (1 : Int32)) = b0
  have hb0 : b0 = 0 ∨ b0 = 1 := by rw [← eb0]; exact and_one _
  clear eb0
  rcases hb0 with rfl | rfl
  · refine Own.istore H (pc := 4) #[.val (.long p0), .second, .val (.long p1), .second, .val (.long p2), .second, .val (.long p3), .second, .val (.int p4), .val (.int sv), .val (.int (0 : Int32)), .unset, .unset, .unset, .unset, .unset, .unset, .unset, .unset, .unset, .unset] at_4 rfl ?_
    refine Own.iconst H (pc := 6) (1) at_6 rfl ?_
    refine Own.iload H (pc := 7) at_7 rfl ?_
    refine Own.iconst H (pc := 9) (1) at_9 rfl ?_
    refine Own.iushr H (pc := 10) at_10 ?_
    refine Own.iconst H (pc := 11) (1) at_11 rfl ?_
    refine Own.iand H (pc := 12) at_12 ?_
    generalize eb1 : ((XT.ushr p4 (1 : Int32)) &&& (1 : Int32)) = b1
    have hb1 : b1 = 0 ∨ b1 = 1 := by rw [← eb1]; exact and_one _
    clear eb1
    rcases hb1 with rfl | rfl
    · refine Own.iadd_c H (pc := 13) (1) at_13 (by decide) ?_
      refine Own.istore H (pc := 14) #[.val (.long p0), .second, .val (.long p1), .second, .val (.long p2), .second, .val (.long p3), .second, .val (.int p4), .val (.int sv), .val (.int (0 : Int32)), .val (.int (1 : Int32)), .unset, .unset, .unset, .unset, .unset, .unset, .unset, .unset, .unset] at_14 rfl ?_
      refine Own.iconst H (pc := 16) (1) at_16 rfl ?_
      refine Own.iload H (pc := 17) at_17 rfl ?_
      refine Own.iconst H (pc := 19) (2) at_19 rfl ?_
      refine Own.iushr H (pc := 20) at_20 ?_
      refine Own.iconst H (pc := 21) (1) at_21 rfl ?_
      refine Own.iand H (pc := 22) at_22 ?_
      generalize eb2 : ((XT.ushr p4 (2 : Int32)) &&& (1 : Int32)) = b2
      have hb2 : b2 = 0 ∨ b2 = 1 := by rw [← eb2]; exact and_one _
      clear eb2
      rcases hb2 with rfl | rfl
      · refine Own.iadd_c H (pc := 23) (1) at_23 (by decide) ?_
        refine Own.istore H (pc := 24) #[.val (.long p0), .second, .val (.long p1), .second, .val (.long p2), .second, .val (.long p3), .second, .val (.int p4), .val (.int sv), .val (.int (0 : Int32)), .val (.int (1 : Int32)), .val (.int (1 : Int32)), .unset, .unset, .unset, .unset, .unset, .unset, .unset, .unset] at_24 rfl ?_
        refine Own.iload H (pc := 26) at_26 rfl ?_
        refine Own.iconst H (pc := 28) (1) at_28 rfl ?_
        refine Own.icmp_ne H (pc := 29) 40 at_29 (by decide) (by decide) (fun _ => ?_) (fun hc => absurd hc (by decide))
        refine Own.iload H (pc := 40) at_40 rfl ?_
        refine Own.istore H (pc := 42) #[.val (.long p0), .second, .val (.long p1), .second, .val (.long p2), .second, .val (.long p3), .second, .val (.int p4), .val (.int sv), .val (.int (0 : Int32)), .val (.int (1 : Int32)), .val (.int (1 : Int32)), .val (.int (1 : Int32)), .unset, .unset, .unset, .unset, .unset, .unset, .unset] at_42 rfl ?_
        refine Own.iconst H (pc := 44) (4) at_44 rfl ?_
        refine Own.newarray H (pc := 45) (i := 4) 4 at_45 (hw _ (List.mem_of_getElem? (i := 0) rfl)) rfl (by decide) (by decide) (by decide) (by decide) (by decide) (fun T_530 h_531 af eq_af ge_af H_529 Ext_af Ary_af => ?_)
        have A_532 : OAry Z h_531 af .int [(.int (0 : Int32)), (.int (0 : Int32)), (.int (0 : Int32)), (.int (0 : Int32))] := Ary_af
        refine Own.astore H_529 (pc := 47) #[.val (.long p0), .second, .val (.long p1), .second, .val (.long p2), .second, .val (.long p3), .second, .val (.int p4), .val (.int sv), .val (.int (0 : Int32)), .val (.int (1 : Int32)), .val (.int (1 : Int32)), .val (.int (1 : Int32)), .val (.ref af), .unset, .unset, .unset, .unset, .unset, .unset] at_47 rfl rfl ?_
        refine Own.aload H_529 (pc := 49) at_49 rfl rfl ?_
        refine Own.iconst H_529 (pc := 51) (0) at_51 rfl ?_
        refine Own.lload_n H_529 (pc := 52) at_52 rfl ?_
        refine Own.l2i H_529 (pc := 53) at_53 ?_
        refine Own.iastore H_529 (pc := 54) 0 at_54 A_532 ge_af rfl (by simp) (fun T_534 h_535 H_533 W_536 A_537 => ?_)
        have A_538 : OAry Z h_535 af .int [(.int (p0).toInt32), (.int (0 : Int32)), (.int (0 : Int32)), (.int (0 : Int32))] := A_537
        refine Own.aload H_533 (pc := 55) at_55 rfl rfl ?_
        refine Own.iconst H_533 (pc := 57) (1) at_57 rfl ?_
        refine Own.lload_n H_533 (pc := 58) at_58 rfl ?_
        refine Own.bipush H_533 (pc := 59) (32) at_59 rfl ?_
        refine Own.lushr H_533 (pc := 61) at_61 ?_
        refine Own.l2i H_533 (pc := 62) at_62 ?_
        refine Own.iastore H_533 (pc := 63) 1 at_63 A_538 ge_af rfl (by simp) (fun T_540 h_541 H_539 W_542 A_543 => ?_)
        have A_544 : OAry Z h_541 af .int [(.int (p0).toInt32), (.int ((XT.ushrL p0 (32 : Int32))).toInt32), (.int (0 : Int32)), (.int (0 : Int32))] := A_543
        refine Own.aload H_539 (pc := 64) at_64 rfl rfl ?_
        refine Own.iconst H_539 (pc := 66) (2) at_66 rfl ?_
        refine Own.lload_n H_539 (pc := 67) at_67 rfl ?_
        refine Own.l2i H_539 (pc := 68) at_68 ?_
        refine Own.iastore H_539 (pc := 69) 2 at_69 A_544 ge_af rfl (by simp) (fun T_546 h_547 H_545 W_548 A_549 => ?_)
        have A_550 : OAry Z h_547 af .int [(.int (p0).toInt32), (.int ((XT.ushrL p0 (32 : Int32))).toInt32), (.int (p1).toInt32), (.int (0 : Int32))] := A_549
        refine Own.aload H_545 (pc := 70) at_70 rfl rfl ?_
        refine Own.iconst H_545 (pc := 72) (3) at_72 rfl ?_
        refine Own.lload_n H_545 (pc := 73) at_73 rfl ?_
        refine Own.bipush H_545 (pc := 74) (32) at_74 rfl ?_
        refine Own.lushr H_545 (pc := 76) at_76 ?_
        refine Own.l2i H_545 (pc := 77) at_77 ?_
        refine Own.iastore H_545 (pc := 78) 3 at_78 A_550 ge_af rfl (by simp) (fun T_552 h_553 H_551 W_554 A_555 => ?_)
        have A_556 : OAry Z h_553 af .int [(.int (p0).toInt32), (.int ((XT.ushrL p0 (32 : Int32))).toInt32), (.int (p1).toInt32), (.int ((XT.ushrL p1 (32 : Int32))).toInt32)] := A_555
        refine Own.iconst H_551 (pc := 79) (4) at_79 rfl ?_
        refine Own.newarray H_551 (pc := 80) (i := 4) 4 at_80 (hw _ (List.mem_of_getElem? (i := 0) rfl)) rfl (by decide) (by decide) (by decide) (by decide) (by decide) (fun T_558 h_559 al eq_al ge_al H_557 Ext_al Ary_al => ?_)
        have lt_af_al : af < al := by have := A_556.lt; omega
        have A_560 := A_556.ext Ext_al
        have A_561 : OAry Z h_559 al .int [(.int (0 : Int32)), (.int (0 : Int32)), (.int (0 : Int32)), (.int (0 : Int32))] := Ary_al
        refine Own.astore H_557 (pc := 82) #[.val (.long p0), .second, .val (.long p1), .second, .val (.long p2), .second, .val (.long p3), .second, .val (.int p4), .val (.int sv), .val (.int (0 : Int32)), .val (.int (1 : Int32)), .val (.int (1 : Int32)), .val (.int (1 : Int32)), .val (.ref af), .val (.ref al), .unset, .unset, .unset, .unset, .unset] at_82 rfl rfl ?_
        refine Own.aload H_557 (pc := 84) at_84 rfl rfl ?_
        refine Own.iconst H_557 (pc := 86) (0) at_86 rfl ?_
        refine Own.lload H_557 (pc := 87) at_87 rfl ?_
        refine Own.l2i H_557 (pc := 89) at_89 ?_
        refine Own.iastore H_557 (pc := 90) 0 at_90 A_561 ge_al rfl (by simp) (fun T_563 h_564 H_562 W_565 A_566 => ?_)
        have A_567 := A_560.other W_565 (by omega)
        have A_568 : OAry Z h_564 al .int [(.int (p2).toInt32), (.int (0 : Int32)), (.int (0 : Int32)), (.int (0 : Int32))] := A_566
        refine Own.aload H_562 (pc := 91) at_91 rfl rfl ?_
        refine Own.iconst H_562 (pc := 93) (1) at_93 rfl ?_
        refine Own.lload H_562 (pc := 94) at_94 rfl ?_
        refine Own.bipush H_562 (pc := 96) (32) at_96 rfl ?_
        refine Own.lushr H_562 (pc := 98) at_98 ?_
        refine Own.l2i H_562 (pc := 99) at_99 ?_
        refine Own.iastore H_562 (pc := 100) 1 at_100 A_568 ge_al rfl (by simp) (fun T_570 h_571 H_569 W_572 A_573 => ?_)
        have A_574 := A_567.other W_572 (by omega)
        have A_575 : OAry Z h_571 al .int [(.int (p2).toInt32), (.int ((XT.ushrL p2 (32 : Int32))).toInt32), (.int (0 : Int32)), (.int (0 : Int32))] := A_573
        refine Own.aload H_569 (pc := 101) at_101 rfl rfl ?_
        refine Own.iconst H_569 (pc := 103) (2) at_103 rfl ?_
        refine Own.lload H_569 (pc := 104) at_104 rfl ?_
        refine Own.l2i H_569 (pc := 106) at_106 ?_
        refine Own.iastore H_569 (pc := 107) 2 at_107 A_575 ge_al rfl (by simp) (fun T_577 h_578 H_576 W_579 A_580 => ?_)
        have A_581 := A_574.other W_579 (by omega)
        have A_582 : OAry Z h_578 al .int [(.int (p2).toInt32), (.int ((XT.ushrL p2 (32 : Int32))).toInt32), (.int (p3).toInt32), (.int (0 : Int32))] := A_580
        refine Own.aload H_576 (pc := 108) at_108 rfl rfl ?_
        refine Own.iconst H_576 (pc := 110) (3) at_110 rfl ?_
        refine Own.lload H_576 (pc := 111) at_111 rfl ?_
        refine Own.bipush H_576 (pc := 113) (32) at_113 rfl ?_
        refine Own.lushr H_576 (pc := 115) at_115 ?_
        refine Own.l2i H_576 (pc := 116) at_116 ?_
        refine Own.iastore H_576 (pc := 117) 3 at_117 A_582 ge_al rfl (by simp) (fun T_584 h_585 H_583 W_586 A_587 => ?_)
        have A_588 := A_581.other W_586 (by omega)
        have A_589 : OAry Z h_585 al .int [(.int (p2).toInt32), (.int ((XT.ushrL p2 (32 : Int32))).toInt32), (.int (p3).toInt32), (.int ((XT.ushrL p3 (32 : Int32))).toInt32)] := A_587
        refine Own.iconst H_583 (pc := 118) (2) at_118 rfl ?_
        refine Own.newarray H_583 (pc := 119) (i := 2) 2 at_119 (hw _ (List.mem_of_getElem? (i := 0) rfl)) rfl (by decide) (by decide) (by decide) (by decide) (by decide) (fun T_591 h_592 ae eq_ae ge_ae H_590 Ext_ae Ary_ae => ?_)
        have lt_af_ae : af < ae := by have := A_588.lt; omega
        have A_593 := A_588.ext Ext_ae
        have lt_al_ae : al < ae := by have := A_589.lt; omega
        have A_594 := A_589.ext Ext_ae
        have A_595 : OAry Z h_592 ae .int [(.int (0 : Int32)), (.int (0 : Int32))] := Ary_ae
        refine Own.astore H_590 (pc := 121) #[.val (.long p0), .second, .val (.long p1), .second, .val (.long p2), .second, .val (.long p3), .second, .val (.int p4), .val (.int sv), .val (.int (0 : Int32)), .val (.int (1 : Int32)), .val (.int (1 : Int32)), .val (.int (1 : Int32)), .val (.ref af), .val (.ref al), .val (.ref ae), .unset, .unset, .unset, .unset] at_121 rfl rfl ?_
        refine Own.aload H_590 (pc := 123) at_123 rfl rfl ?_
        refine Own.iconst H_590 (pc := 125) (0) at_125 rfl ?_
        refine Own.iload H_590 (pc := 126) at_126 rfl ?_
        refine Own.iastore H_590 (pc := 128) 0 at_128 A_595 ge_ae rfl (by simp) (fun T_597 h_598 H_596 W_599 A_600 => ?_)
        have A_601 := A_593.other W_599 (by omega)
        have A_602 := A_594.other W_599 (by omega)
        have A_603 : OAry Z h_598 ae .int [(.int (1 : Int32)), (.int (0 : Int32))] := A_600
        refine Own.aload H_596 (pc := 129) at_129 rfl rfl ?_
        refine Own.iconst H_596 (pc := 131) (1) at_131 rfl ?_
        refine Own.iload H_596 (pc := 132) at_132 rfl ?_
        refine Own.iload H_596 (pc := 134) at_134 rfl ?_
        refine Own.iadd_c H_596 (pc := 136) (2) at_136 (by decide) ?_
        refine Own.iastore H_596 (pc := 137) 1 at_137 A_603 ge_ae rfl (by simp) (fun T_605 h_606 H_604 W_607 A_608 => ?_)
        have A_609 := A_601.other W_607 (by omega)
        have A_610 := A_602.other W_607 (by omega)
        have A_611 : OAry Z h_606 ae .int [(.int (1 : Int32)), (.int (2 : Int32))] := A_608
        refine Own.iconst H_604 (pc := 138) (3) at_138 rfl ?_
        refine Own.newarray H_604 (pc := 139) (i := 3) 3 at_139 (hw _ (List.mem_of_getElem? (i := 0) rfl)) rfl (by decide) (by decide) (by decide) (by decide) (by decide) (fun T_613 h_614 ac eq_ac ge_ac H_612 Ext_ac Ary_ac => ?_)
        have lt_af_ac : af < ac := by have := A_609.lt; omega
        have A_615 := A_609.ext Ext_ac
        have lt_al_ac : al < ac := by have := A_610.lt; omega
        have A_616 := A_610.ext Ext_ac
        have lt_ae_ac : ae < ac := by have := A_611.lt; omega
        have A_617 := A_611.ext Ext_ac
        have A_618 : OAry Z h_614 ac .int [(.int (0 : Int32)), (.int (0 : Int32)), (.int (0 : Int32))] := Ary_ac
        refine Own.astore H_612 (pc := 141) #[.val (.long p0), .second, .val (.long p1), .second, .val (.long p2), .second, .val (.long p3), .second, .val (.int p4), .val (.int sv), .val (.int (0 : Int32)), .val (.int (1 : Int32)), .val (.int (1 : Int32)), .val (.int (1 : Int32)), .val (.ref af), .val (.ref al), .val (.ref ae), .val (.ref ac), .unset, .unset, .unset] at_141 rfl rfl ?_
        refine Own.aload H_612 (pc := 143) at_143 rfl rfl ?_
        refine Own.iconst H_612 (pc := 145) (0) at_145 rfl ?_
        refine Own.iload H_612 (pc := 146) at_146 rfl ?_
        refine Own.iastore H_612 (pc := 148) 0 at_148 A_618 ge_ac rfl (by simp) (fun T_620 h_621 H_619 W_622 A_623 => ?_)
        have A_624 := A_615.other W_622 (by omega)
        have A_625 := A_616.other W_622 (by omega)
        have A_626 := A_617.other W_622 (by omega)
        have A_627 : OAry Z h_621 ac .int [(.int sv), (.int (0 : Int32)), (.int (0 : Int32))] := A_623
        refine Own.aload H_619 (pc := 149) at_149 rfl rfl ?_
        refine Own.iconst H_619 (pc := 151) (1) at_151 rfl ?_
        refine Own.iload H_619 (pc := 152) at_152 rfl ?_
        refine Own.iastore H_619 (pc := 154) 1 at_154 A_627 ge_ac rfl (by simp) (fun T_629 h_630 H_628 W_631 A_632 => ?_)
        have A_633 := A_624.other W_631 (by omega)
        have A_634 := A_625.other W_631 (by omega)
        have A_635 := A_626.other W_631 (by omega)
        have A_636 : OAry Z h_630 ac .int [(.int sv), (.int sv), (.int (0 : Int32))] := A_632
        refine Own.aload H_628 (pc := 155) at_155 rfl rfl ?_
        refine Own.iconst H_628 (pc := 157) (2) at_157 rfl ?_
        refine Own.iload H_628 (pc := 158) at_158 rfl ?_
        refine Own.iastore H_628 (pc := 160) 2 at_160 A_636 ge_ac rfl (by simp) (fun T_638 h_639 H_637 W_640 A_641 => ?_)
        have A_642 := A_633.other W_640 (by omega)
        have A_643 := A_634.other W_640 (by omega)
        have A_644 := A_635.other W_640 (by omega)
        have A_645 : OAry Z h_639 ac .int [(.int sv), (.int sv), (.int sv)] := A_641
        refine Own.iconst H_637 (pc := 161) (4) at_161 rfl ?_
        refine Own.newarray H_637 (pc := 162) (i := 4) 4 at_162 (hw _ (List.mem_of_getElem? (i := 0) rfl)) rfl (by decide) (by decide) (by decide) (by decide) (by decide) (fun T_647 h_648 ar eq_ar ge_ar H_646 Ext_ar Ary_ar => ?_)
        have lt_af_ar : af < ar := by have := A_642.lt; omega
        have A_649 := A_642.ext Ext_ar
        have lt_al_ar : al < ar := by have := A_643.lt; omega
        have A_650 := A_643.ext Ext_ar
        have lt_ae_ar : ae < ar := by have := A_644.lt; omega
        have A_651 := A_644.ext Ext_ar
        have lt_ac_ar : ac < ar := by have := A_645.lt; omega
        have A_652 := A_645.ext Ext_ar
        have A_653 : OAry Z h_648 ar .int [(.int (0 : Int32)), (.int (0 : Int32)), (.int (0 : Int32)), (.int (0 : Int32))] := Ary_ar
        refine Own.astore H_646 (pc := 164) #[.val (.long p0), .second, .val (.long p1), .second, .val (.long p2), .second, .val (.long p3), .second, .val (.int p4), .val (.int sv), .val (.int (0 : Int32)), .val (.int (1 : Int32)), .val (.int (1 : Int32)), .val (.int (1 : Int32)), .val (.ref af), .val (.ref al), .val (.ref ae), .val (.ref ac), .val (.ref ar), .unset, .unset] at_164 rfl rfl ?_
        refine Own.iconst H_646 (pc := 166) (4) at_166 rfl ?_
        refine Own.newarray H_646 (pc := 167) (i := 4) 4 at_167 (hw _ (List.mem_of_getElem? (i := 0) rfl)) rfl (by decide) (by decide) (by decide) (by decide) (by decide) (fun T_655 h_656 as_ eq_as_ ge_as_ H_654 Ext_as_ Ary_as_ => ?_)
        have lt_af_as_ : af < as_ := by have := A_649.lt; omega
        have A_657 := A_649.ext Ext_as_
        have lt_al_as_ : al < as_ := by have := A_650.lt; omega
        have A_658 := A_650.ext Ext_as_
        have lt_ae_as_ : ae < as_ := by have := A_651.lt; omega
        have A_659 := A_651.ext Ext_as_
        have lt_ac_as_ : ac < as_ := by have := A_652.lt; omega
        have A_660 := A_652.ext Ext_as_
        have lt_ar_as_ : ar < as_ := by have := A_653.lt; omega
        have A_661 := A_653.ext Ext_as_
        have A_662 : OAry Z h_656 as_ .int [(.int (0 : Int32)), (.int (0 : Int32)), (.int (0 : Int32)), (.int (0 : Int32))] := Ary_as_
        refine Own.astore H_654 (pc := 169) #[.val (.long p0), .second, .val (.long p1), .second, .val (.long p2), .second, .val (.long p3), .second, .val (.int p4), .val (.int sv), .val (.int (0 : Int32)), .val (.int (1 : Int32)), .val (.int (1 : Int32)), .val (.int (1 : Int32)), .val (.ref af), .val (.ref al), .val (.ref ae), .val (.ref ac), .val (.ref ar), .val (.ref as_), .unset] at_169 rfl rfl ?_
        refine Own.aload H_654 (pc := 171) at_171 rfl rfl ?_
        refine Own.iconst H_654 (pc := 173) (0) at_173 rfl ?_
        refine Own.iload H_654 (pc := 174) at_174 rfl ?_
        refine Own.iastore H_654 (pc := 176) 0 at_176 A_661 ge_ar rfl (by simp) (fun T_664 h_665 H_663 W_666 A_667 => ?_)
        have A_668 := A_657.other W_666 (by omega)
        have A_669 := A_658.other W_666 (by omega)
        have A_670 := A_659.other W_666 (by omega)
        have A_671 := A_660.other W_666 (by omega)
        have A_672 : OAry Z h_665 ar .int [(.int sv), (.int (0 : Int32)), (.int (0 : Int32)), (.int (0 : Int32))] := A_667
        have A_673 := A_662.other W_666 (by omega)
        refine Own.aload H_663 (pc := 177) at_177 rfl rfl ?_
        refine Own.iconst H_663 (pc := 179) (1) at_179 rfl ?_
        refine Own.iload H_663 (pc := 180) at_180 rfl ?_
        refine Own.iastore H_663 (pc := 182) 1 at_182 A_672 ge_ar rfl (by simp) (fun T_675 h_676 H_674 W_677 A_678 => ?_)
        have A_679 := A_668.other W_677 (by omega)
        have A_680 := A_669.other W_677 (by omega)
        have A_681 := A_670.other W_677 (by omega)
        have A_682 := A_671.other W_677 (by omega)
        have A_683 : OAry Z h_676 ar .int [(.int sv), (.int sv), (.int (0 : Int32)), (.int (0 : Int32))] := A_678
        have A_684 := A_673.other W_677 (by omega)
        refine Own.aload H_674 (pc := 183) at_183 rfl rfl ?_
        refine Own.iconst H_674 (pc := 185) (2) at_185 rfl ?_
        refine Own.iload H_674 (pc := 186) at_186 rfl ?_
        refine Own.iastore H_674 (pc := 188) 2 at_188 A_683 ge_ar rfl (by simp) (fun T_686 h_687 H_685 W_688 A_689 => ?_)
        have A_690 := A_679.other W_688 (by omega)
        have A_691 := A_680.other W_688 (by omega)
        have A_692 := A_681.other W_688 (by omega)
        have A_693 := A_682.other W_688 (by omega)
        have A_694 : OAry Z h_687 ar .int [(.int sv), (.int sv), (.int sv), (.int (0 : Int32))] := A_689
        have A_695 := A_684.other W_688 (by omega)
        refine Own.aload H_685 (pc := 189) at_189 rfl rfl ?_
        refine Own.iconst H_685 (pc := 191) (3) at_191 rfl ?_
        refine Own.iload H_685 (pc := 192) at_192 rfl ?_
        refine Own.iastore H_685 (pc := 194) 3 at_194 A_694 ge_ar rfl (by simp) (fun T_697 h_698 H_696 W_699 A_700 => ?_)
        have A_701 := A_690.other W_699 (by omega)
        have A_702 := A_691.other W_699 (by omega)
        have A_703 := A_692.other W_699 (by omega)
        have A_704 := A_693.other W_699 (by omega)
        have A_705 : OAry Z h_698 ar .int [(.int sv), (.int sv), (.int sv), (.int sv)] := A_700
        have A_706 := A_695.other W_699 (by omega)
        refine Own.aload H_696 (pc := 195) at_195 rfl rfl ?_
        refine Own.iconst H_696 (pc := 197) (0) at_197 rfl ?_
        refine Own.iload H_696 (pc := 198) at_198 rfl ?_
        refine Own.iastore H_696 (pc := 200) 0 at_200 A_706 ge_as_ rfl (by simp) (fun T_708 h_709 H_707 W_710 A_711 => ?_)
        have A_712 := A_701.other W_710 (by omega)
        have A_713 := A_702.other W_710 (by omega)
        have A_714 := A_703.other W_710 (by omega)
        have A_715 := A_704.other W_710 (by omega)
        have A_716 := A_705.other W_710 (by omega)
        have A_717 : OAry Z h_709 as_ .int [(.int sv), (.int (0 : Int32)), (.int (0 : Int32)), (.int (0 : Int32))] := A_711
        refine Own.aload H_707 (pc := 201) at_201 rfl rfl ?_
        refine Own.iconst H_707 (pc := 203) (1) at_203 rfl ?_
        refine Own.iload H_707 (pc := 204) at_204 rfl ?_
        refine Own.iastore H_707 (pc := 206) 1 at_206 A_717 ge_as_ rfl (by simp) (fun T_719 h_720 H_718 W_721 A_722 => ?_)
        have A_723 := A_712.other W_721 (by omega)
        have A_724 := A_713.other W_721 (by omega)
        have A_725 := A_714.other W_721 (by omega)
        have A_726 := A_715.other W_721 (by omega)
        have A_727 := A_716.other W_721 (by omega)
        have A_728 : OAry Z h_720 as_ .int [(.int sv), (.int sv), (.int (0 : Int32)), (.int (0 : Int32))] := A_722
        refine Own.aload H_718 (pc := 207) at_207 rfl rfl ?_
        refine Own.iconst H_718 (pc := 209) (2) at_209 rfl ?_
        refine Own.iload H_718 (pc := 210) at_210 rfl ?_
        refine Own.iastore H_718 (pc := 212) 2 at_212 A_728 ge_as_ rfl (by simp) (fun T_730 h_731 H_729 W_732 A_733 => ?_)
        have A_734 := A_723.other W_732 (by omega)
        have A_735 := A_724.other W_732 (by omega)
        have A_736 := A_725.other W_732 (by omega)
        have A_737 := A_726.other W_732 (by omega)
        have A_738 := A_727.other W_732 (by omega)
        have A_739 : OAry Z h_731 as_ .int [(.int sv), (.int sv), (.int sv), (.int (0 : Int32))] := A_733
        refine Own.aload H_729 (pc := 213) at_213 rfl rfl ?_
        refine Own.iconst H_729 (pc := 215) (3) at_215 rfl ?_
        refine Own.iload H_729 (pc := 216) at_216 rfl ?_
        refine Own.iastore H_729 (pc := 218) 3 at_218 A_739 ge_as_ rfl (by simp) (fun T_741 h_742 H_740 W_743 A_744 => ?_)
        have A_745 := A_734.other W_743 (by omega)
        have A_746 := A_735.other W_743 (by omega)
        have A_747 := A_736.other W_743 (by omega)
        have A_748 := A_737.other W_743 (by omega)
        have A_749 := A_738.other W_743 (by omega)
        have A_750 : OAry Z h_742 as_ .int [(.int sv), (.int sv), (.int sv), (.int sv)] := A_744
        refine Own.aload H_740 (pc := 219) at_219 rfl rfl ?_
        refine Own.aload H_740 (pc := 221) at_221 rfl rfl ?_
        refine Own.aload H_740 (pc := 223) at_223 rfl rfl ?_
        refine Own.iload H_740 (pc := 225) at_225 rfl ?_
        refine Own.aload H_740 (pc := 227) at_227 rfl rfl ?_
        refine Own.aload H_740 (pc := 229) at_229 rfl rfl ?_
        refine Own.aload H_740 (pc := 231) at_231 rfl rfl ?_
        refine Own.callS H_740 (pc := 233) (y := (⟨"termstone/postings/Impacts", "lay", "([I[I[II[I[I[I)V"⟩ : MethodName)) [(.ref af), (.ref al), (.ref ae), (.int (0 : Int32)), (.ref ac), (.ref ar), (.ref as_)] [] at_233 (hw _ (List.mem_of_getElem? (i := 1) rfl)) (hw _ (List.mem_of_getElem? (i := 2) rfl)) (hw _ (List.mem_of_getElem? (i := 3) rfl)) (hw _ (List.mem_of_getElem? (i := 4) rfl)) (by decide) (rm_lay011 l Z a0 hw af al ae (0 : Int32) ac ar as_ _ n0 H_740.z0 (p0).toInt32 ((XT.ushrL p0 (32 : Int32))).toInt32 (p1).toInt32 ((XT.ushrL p1 (32 : Int32))).toInt32 (p2).toInt32 ((XT.ushrL p2 (32 : Int32))).toInt32 (p3).toInt32 ((XT.ushrL p3 (32 : Int32))).toInt32 sv A_745 A_746 A_747 A_748 A_749 A_750 lt_af_al lt_al_ae lt_ae_ac lt_ac_ar lt_ar_as_ ge_ac ge_ar ge_as_ rfl) (r := none) (ps := [(.array .int), (.array .int), (.array .int), .int, (.array .int), (.array .int), (.array .int)]) (by decide) rfl rfl 0 rfl (by decide) (by decide) (by decide) (by decide) rfl (fun T_752 v_754 h_753 H_751 z_755 q_756 => ?_)
        obtain ⟨rfl, C0, C1, C2, C3, C4, C5⟩ := q_756
        show OEnds _ _ _ _ _ _ _ _ _ (mkF _ 236 #[.val (.long p0), .second, .val (.long p1), .second, .val (.long p2), .second, .val (.long p3), .second, .val (.int p4), .val (.int sv), .val (.int (0 : Int32)), .val (.int (1 : Int32)), .val (.int (1 : Int32)), .val (.int (1 : Int32)), .val (.ref af), .val (.ref al), .val (.ref ae), .val (.ref ac), .val (.ref ar), .val (.ref as_), .unset] [])
        refine Own.aload H_751 (pc := 236) at_236 rfl rfl ?_
        refine Own.iconst H_751 (pc := 238) (0) at_238 rfl ?_
        refine Own.iaload H_751 (pc := 239) (v := (p0).toInt32) 0 at_239 C0 rfl rfl ?_
        refine Own.lload_n H_751 (pc := 240) at_240 rfl ?_
        refine Own.l2i H_751 (pc := 241) at_241 ?_
        refine Own.icmp_ne H_751 (pc := 242) 349 at_242 (by decide) (by decide) (fun hX => absurd rfl hX) (fun _ => ?_)
        refine Own.aload H_751 (pc := 245) at_245 rfl rfl ?_
        refine Own.iconst H_751 (pc := 247) (1) at_247 rfl ?_
        refine Own.iaload H_751 (pc := 248) (v := ((XT.ushrL p0 (32 : Int32))).toInt32) 1 at_248 C0 rfl rfl ?_
        refine Own.lload_n H_751 (pc := 249) at_249 rfl ?_
        refine Own.bipush H_751 (pc := 250) (32) at_250 rfl ?_
        refine Own.lushr H_751 (pc := 252) at_252 ?_
        refine Own.l2i H_751 (pc := 253) at_253 ?_
        refine Own.icmp_ne H_751 (pc := 254) 349 at_254 (by decide) (by decide) (fun hX => absurd rfl hX) (fun _ => ?_)
        refine Own.aload H_751 (pc := 257) at_257 rfl rfl ?_
        refine Own.iconst H_751 (pc := 259) (2) at_259 rfl ?_
        refine Own.iaload H_751 (pc := 260) (v := (p1).toInt32) 2 at_260 C0 rfl rfl ?_
        refine Own.lload_n H_751 (pc := 261) at_261 rfl ?_
        refine Own.l2i H_751 (pc := 262) at_262 ?_
        refine Own.icmp_ne H_751 (pc := 263) 349 at_263 (by decide) (by decide) (fun hX => absurd rfl hX) (fun _ => ?_)
        refine Own.aload H_751 (pc := 266) at_266 rfl rfl ?_
        refine Own.iconst H_751 (pc := 268) (3) at_268 rfl ?_
        refine Own.iaload H_751 (pc := 269) (v := ((XT.ushrL p1 (32 : Int32))).toInt32) 3 at_269 C0 rfl rfl ?_
        refine Own.lload_n H_751 (pc := 270) at_270 rfl ?_
        refine Own.bipush H_751 (pc := 271) (32) at_271 rfl ?_
        refine Own.lushr H_751 (pc := 273) at_273 ?_
        refine Own.l2i H_751 (pc := 274) at_274 ?_
        refine Own.icmp_ne H_751 (pc := 275) 349 at_275 (by decide) (by decide) (fun hX => absurd rfl hX) (fun _ => ?_)
        refine Own.aload H_751 (pc := 278) at_278 rfl rfl ?_
        refine Own.iconst H_751 (pc := 280) (0) at_280 rfl ?_
        refine Own.iaload H_751 (pc := 281) (v := (p2).toInt32) 0 at_281 C1 rfl rfl ?_
        refine Own.lload H_751 (pc := 282) at_282 rfl ?_
        refine Own.l2i H_751 (pc := 284) at_284 ?_
        refine Own.icmp_ne H_751 (pc := 285) 349 at_285 (by decide) (by decide) (fun hX => absurd rfl hX) (fun _ => ?_)
        refine Own.aload H_751 (pc := 288) at_288 rfl rfl ?_
        refine Own.iconst H_751 (pc := 290) (1) at_290 rfl ?_
        refine Own.iaload H_751 (pc := 291) (v := ((XT.ushrL p2 (32 : Int32))).toInt32) 1 at_291 C1 rfl rfl ?_
        refine Own.lload H_751 (pc := 292) at_292 rfl ?_
        refine Own.bipush H_751 (pc := 294) (32) at_294 rfl ?_
        refine Own.lushr H_751 (pc := 296) at_296 ?_
        refine Own.l2i H_751 (pc := 297) at_297 ?_
        refine Own.icmp_ne H_751 (pc := 298) 349 at_298 (by decide) (by decide) (fun hX => absurd rfl hX) (fun _ => ?_)
        refine Own.aload H_751 (pc := 301) at_301 rfl rfl ?_
        refine Own.iconst H_751 (pc := 303) (2) at_303 rfl ?_
        refine Own.iaload H_751 (pc := 304) (v := (p3).toInt32) 2 at_304 C1 rfl rfl ?_
        refine Own.lload H_751 (pc := 305) at_305 rfl ?_
        refine Own.l2i H_751 (pc := 307) at_307 ?_
        refine Own.icmp_ne H_751 (pc := 308) 349 at_308 (by decide) (by decide) (fun hX => absurd rfl hX) (fun _ => ?_)
        refine Own.aload H_751 (pc := 311) at_311 rfl rfl ?_
        refine Own.iconst H_751 (pc := 313) (3) at_313 rfl ?_
        refine Own.iaload H_751 (pc := 314) (v := ((XT.ushrL p3 (32 : Int32))).toInt32) 3 at_314 C1 rfl rfl ?_
        refine Own.lload H_751 (pc := 315) at_315 rfl ?_
        refine Own.bipush H_751 (pc := 317) (32) at_317 rfl ?_
        refine Own.lushr H_751 (pc := 319) at_319 ?_
        refine Own.l2i H_751 (pc := 320) at_320 ?_
        refine Own.icmp_ne H_751 (pc := 321) 349 at_321 (by decide) (by decide) (fun hX => absurd rfl hX) (fun _ => ?_)
        refine Own.aload H_751 (pc := 324) at_324 rfl rfl ?_
        refine Own.iconst H_751 (pc := 326) (0) at_326 rfl ?_
        refine Own.iaload H_751 (pc := 327) (v := (1 : Int32)) 0 at_327 C2 rfl rfl ?_
        refine Own.iload H_751 (pc := 328) at_328 rfl ?_
        refine Own.icmp_ne H_751 (pc := 330) 349 at_330 (by decide) (by decide) (fun hc => absurd hc (by decide)) (fun _ => ?_)
        refine Own.aload H_751 (pc := 333) at_333 rfl rfl ?_
        refine Own.iconst H_751 (pc := 335) (1) at_335 rfl ?_
        refine Own.iaload H_751 (pc := 336) (v := (2 : Int32)) 1 at_336 C2 rfl rfl ?_
        refine Own.iload H_751 (pc := 337) at_337 rfl ?_
        refine Own.iload H_751 (pc := 339) at_339 rfl ?_
        refine Own.iadd_c H_751 (pc := 341) (2) at_341 (by decide) ?_
        refine Own.icmp_ne H_751 (pc := 342) 349 at_342 (by decide) (by decide) (fun hc => absurd hc (by decide)) (fun _ => ?_)
        refine Own.iconst H_751 (pc := 345) (1) at_345 rfl ?_
        refine Own.goto H_751 (pc := 346) 350 at_346 (by decide) (by decide) ?_
        refine Own.istore H_751 (pc := 350) #[.val (.long p0), .second, .val (.long p1), .second, .val (.long p2), .second, .val (.long p3), .second, .val (.int p4), .val (.int sv), .val (.int (0 : Int32)), .val (.int (1 : Int32)), .val (.int (1 : Int32)), .val (.int (1 : Int32)), .val (.ref af), .val (.ref al), .val (.ref ae), .val (.ref ac), .val (.ref ar), .val (.ref as_), .val (.int (1 : Int32))] at_350 rfl ?_
        refine Own.iload H_751 (pc := 352) at_352 rfl ?_
        refine Own.if_eq H_751 (pc := 354) 378 at_354 (by decide) (by decide) (fun hc => absurd hc (by decide)) (fun _ => ?_)
        refine Own.aload H_751 (pc := 357) at_357 rfl rfl ?_
        refine Own.aload H_751 (pc := 359) at_359 rfl rfl ?_
        refine Own.aload H_751 (pc := 361) at_361 rfl rfl ?_
        refine Own.aload H_751 (pc := 363) at_363 rfl rfl ?_
        refine Own.iconst H_751 (pc := 365) (0) at_365 rfl ?_
        refine Own.iload H_751 (pc := 366) at_366 rfl ?_
        refine Own.callS H_751 (pc := 368) (y := (⟨"termstone/postings/ImpactsLayPinLaw", "segment", "([I[I[I[III)Z"⟩ : MethodName)) [(.ref ar), (.ref as_), (.ref af), (.ref al), (.int (0 : Int32)), (.int (1 : Int32))] [] at_368 (hw _ (List.mem_of_getElem? (i := 5) rfl)) (hw _ (List.mem_of_getElem? (i := 6) rfl)) (hw _ (List.mem_of_getElem? (i := 7) rfl)) (hw _ (List.mem_of_getElem? (i := 8) rfl)) (by decide) (rm_seg l Z a0 hw ar as_ af al (0 : Int32) (1 : Int32) _ n0 H_751.z0 [(((p0).toInt32 - (0 : Int32)) - (1 : Int32)), sv, sv, sv] [(((p2).toInt32 - (-1 : Int32)) - (1 : Int32)), sv, sv, sv] [(p0).toInt32, ((XT.ushrL p0 (32 : Int32))).toInt32, (p1).toInt32, ((XT.ushrL p1 (32 : Int32))).toInt32] [(p2).toInt32, ((XT.ushrL p2 (32 : Int32))).toInt32, (p3).toInt32, ((XT.ushrL p3 (32 : Int32))).toInt32] C4 C5 C0 C1 rfl rfl rfl rfl 0 (by decide) rfl (own_a1 _) (own_a2 _) (fun q => absurd q (by decide))) (r := (some .boolean)) (ps := [(.array .int), (.array .int), (.array .int), (.array .int), .int, .int]) (by decide) rfl rfl 0 rfl (by decide) (by decide) (by decide) (by decide) rfl (fun T_758 v_760 h_759 H_757 z_761 q_762 => ?_)
        obtain ⟨rfl, rfl⟩ := q_762
        show OEnds _ _ _ _ _ _ _ _ _ (mkF _ 371 #[.val (.long p0), .second, .val (.long p1), .second, .val (.long p2), .second, .val (.long p3), .second, .val (.int p4), .val (.int sv), .val (.int (0 : Int32)), .val (.int (1 : Int32)), .val (.int (1 : Int32)), .val (.int (1 : Int32)), .val (.ref af), .val (.ref al), .val (.ref ae), .val (.ref ac), .val (.ref ar), .val (.ref as_), .val (.int (1 : Int32))] [(.int (1 : Int32))])
        refine Own.if_eq H_757 (pc := 371) 378 at_371 (by decide) (by decide) (fun hc => absurd hc (by decide)) (fun _ => ?_)
        refine Own.iconst H_757 (pc := 374) (1) at_374 rfl ?_
        refine Own.goto H_757 (pc := 375) 379 at_375 (by decide) (by decide) ?_
        refine Own.istore H_757 (pc := 379) #[.val (.long p0), .second, .val (.long p1), .second, .val (.long p2), .second, .val (.long p3), .second, .val (.int p4), .val (.int sv), .val (.int (0 : Int32)), .val (.int (1 : Int32)), .val (.int (1 : Int32)), .val (.int (1 : Int32)), .val (.ref af), .val (.ref al), .val (.ref ae), .val (.ref ac), .val (.ref ar), .val (.ref as_), .val (.int (1 : Int32))] at_379 rfl ?_
        refine Own.iload H_757 (pc := 381) at_381 rfl ?_
        refine Own.iconst H_757 (pc := 383) (1) at_383 rfl ?_
        refine Own.icmp_ne H_757 (pc := 384) 417 at_384 (by decide) (by decide) (fun _ => ?_) (fun hc => absurd hc (by decide))
        refine Own.iload H_757 (pc := 417) at_417 rfl ?_
        refine Own.if_eq H_757 (pc := 419) 437 at_419 (by decide) (by decide) (fun hc => absurd hc (by decide)) (fun _ => ?_)
        refine Own.aload H_757 (pc := 422) at_422 rfl rfl ?_
        refine Own.iconst H_757 (pc := 424) (0) at_424 rfl ?_
        refine Own.iaload H_757 (pc := 425) (v := (0 : Int32)) 0 at_425 C3 rfl rfl ?_
        refine Own.iload H_757 (pc := 426) at_426 rfl ?_
        refine Own.iconst H_757 (pc := 428) (1) at_428 rfl ?_
        refine Own.isub_c H_757 (pc := 429) (0) at_429 (by decide) ?_
        refine Own.icmp_ne H_757 (pc := 430) 437 at_430 (by decide) (by decide) (fun hc => absurd hc (by decide)) (fun _ => ?_)
        refine Own.iconst H_757 (pc := 433) (1) at_433 rfl ?_
        refine Own.goto H_757 (pc := 434) 438 at_434 (by decide) (by decide) ?_
        refine Own.istore H_757 (pc := 438) #[.val (.long p0), .second, .val (.long p1), .second, .val (.long p2), .second, .val (.long p3), .second, .val (.int p4), .val (.int sv), .val (.int (0 : Int32)), .val (.int (1 : Int32)), .val (.int (1 : Int32)), .val (.int (1 : Int32)), .val (.ref af), .val (.ref al), .val (.ref ae), .val (.ref ac), .val (.ref ar), .val (.ref as_), .val (.int (1 : Int32))] at_438 rfl ?_
        refine Own.iload H_757 (pc := 440) at_440 rfl ?_
        refine Own.if_eq H_757 (pc := 442) 471 at_442 (by decide) (by decide) (fun hc => absurd hc (by decide)) (fun _ => ?_)
        refine Own.aload H_757 (pc := 445) at_445 rfl rfl ?_
        refine Own.iconst H_757 (pc := 447) (1) at_447 rfl ?_
        refine Own.iaload H_757 (pc := 448) (v := sv) 1 at_448 C3 rfl rfl ?_
        refine Own.iload H_757 (pc := 449) at_449 rfl ?_
        refine Own.iconst H_757 (pc := 451) (1) at_451 rfl ?_
        refine Own.icmp_ne H_757 (pc := 452) 462 at_452 (by decide) (by decide) (fun _ => ?_) (fun hc => absurd hc (by decide))
        refine Own.iload H_757 (pc := 462) at_462 rfl ?_
        refine Own.icmp_ne H_757 (pc := 464) 471 at_464 (by decide) (by decide) (fun hX => absurd rfl hX) (fun _ => ?_)
        refine Own.iconst H_757 (pc := 467) (1) at_467 rfl ?_
        refine Own.goto H_757 (pc := 468) 472 at_468 (by decide) (by decide) ?_
        refine Own.istore H_757 (pc := 472) #[.val (.long p0), .second, .val (.long p1), .second, .val (.long p2), .second, .val (.long p3), .second, .val (.int p4), .val (.int sv), .val (.int (0 : Int32)), .val (.int (1 : Int32)), .val (.int (1 : Int32)), .val (.int (1 : Int32)), .val (.ref af), .val (.ref al), .val (.ref ae), .val (.ref ac), .val (.ref ar), .val (.ref as_), .val (.int (1 : Int32))] at_472 rfl ?_
        refine Own.iload H_757 (pc := 474) at_474 rfl ?_
        refine Own.if_eq H_757 (pc := 476) 492 at_476 (by decide) (by decide) (fun hc => absurd hc (by decide)) (fun _ => ?_)
        refine Own.aload H_757 (pc := 479) at_479 rfl rfl ?_
        refine Own.iconst H_757 (pc := 481) (2) at_481 rfl ?_
        refine Own.iaload H_757 (pc := 482) (v := sv) 2 at_482 C3 rfl rfl ?_
        refine Own.iload H_757 (pc := 483) at_483 rfl ?_
        refine Own.icmp_ne H_757 (pc := 485) 492 at_485 (by decide) (by decide) (fun hX => absurd rfl hX) (fun _ => ?_)
        refine Own.iconst H_757 (pc := 488) (1) at_488 rfl ?_
        refine Own.goto H_757 (pc := 489) 493 at_489 (by decide) (by decide) ?_
        refine Own.istore H_757 (pc := 493) #[.val (.long p0), .second, .val (.long p1), .second, .val (.long p2), .second, .val (.long p3), .second, .val (.int p4), .val (.int sv), .val (.int (0 : Int32)), .val (.int (1 : Int32)), .val (.int (1 : Int32)), .val (.int (1 : Int32)), .val (.ref af), .val (.ref al), .val (.ref ae), .val (.ref ac), .val (.ref ar), .val (.ref as_), .val (.int (1 : Int32))] at_493 rfl ?_
        refine Own.iload H_757 (pc := 495) at_495 rfl ?_
        refine Own.if_eq H_757 (pc := 497) 543 at_497 (by decide) (by decide) (fun hc => absurd hc (by decide)) (fun _ => ?_)
        refine Own.aload H_757 (pc := 500) at_500 rfl rfl ?_
        refine Own.iconst H_757 (pc := 502) (1) at_502 rfl ?_
        refine Own.iload H_757 (pc := 503) at_503 rfl ?_
        refine Own.iload H_757 (pc := 505) at_505 rfl ?_
        refine Own.callS H_757 (pc := 507) (y := (⟨"termstone/postings/ImpactsLayPinLaw", "untouched", "([IIII)Z"⟩ : MethodName)) [(.ref ar), (.int (1 : Int32)), (.int (1 : Int32)), (.int sv)] [] at_507 (hw _ (List.mem_of_getElem? (i := 9) rfl)) (hw _ (List.mem_of_getElem? (i := 10) rfl)) (hw _ (List.mem_of_getElem? (i := 7) rfl)) (hw _ (List.mem_of_getElem? (i := 11) rfl)) (by decide) (rm_unt l Z a0 hw ar (1 : Int32) (1 : Int32) sv _ n0 H_757.z0 [(((p0).toInt32 - (0 : Int32)) - (1 : Int32)), sv, sv, sv] C4 1 (by simp) rfl (fun _ => rfl)) (r := (some .boolean)) (ps := [(.array .int), .int, .int, .int]) (by decide) rfl rfl 0 rfl (by decide) (by decide) (by decide) (by decide) rfl (fun T_764 v_766 h_765 H_763 z_767 q_768 => ?_)
        obtain ⟨rfl, rfl⟩ := q_768
        show OEnds _ _ _ _ _ _ _ _ _ (mkF _ 510 #[.val (.long p0), .second, .val (.long p1), .second, .val (.long p2), .second, .val (.long p3), .second, .val (.int p4), .val (.int sv), .val (.int (0 : Int32)), .val (.int (1 : Int32)), .val (.int (1 : Int32)), .val (.int (1 : Int32)), .val (.ref af), .val (.ref al), .val (.ref ae), .val (.ref ac), .val (.ref ar), .val (.ref as_), .val (.int (1 : Int32))] [(.int (1 : Int32))])
        refine Own.if_eq H_763 (pc := 510) 543 at_510 (by decide) (by decide) (fun hc => absurd hc (by decide)) (fun _ => ?_)
        refine Own.aload H_763 (pc := 513) at_513 rfl rfl ?_
        refine Own.iconst H_763 (pc := 515) (2) at_515 rfl ?_
        refine Own.iload H_763 (pc := 516) at_516 rfl ?_
        refine Own.iload H_763 (pc := 518) at_518 rfl ?_
        refine Own.callS H_763 (pc := 520) (y := (⟨"termstone/postings/ImpactsLayPinLaw", "untouched", "([IIII)Z"⟩ : MethodName)) [(.ref ar), (.int (2 : Int32)), (.int (1 : Int32)), (.int sv)] [] at_520 (hw _ (List.mem_of_getElem? (i := 9) rfl)) (hw _ (List.mem_of_getElem? (i := 10) rfl)) (hw _ (List.mem_of_getElem? (i := 7) rfl)) (hw _ (List.mem_of_getElem? (i := 11) rfl)) (by decide) (rm_unt l Z a0 hw ar (2 : Int32) (1 : Int32) sv _ n0 H_763.z0 [(((p0).toInt32 - (0 : Int32)) - (1 : Int32)), sv, sv, sv] C4 2 (by simp) rfl (fun _ => rfl)) (r := (some .boolean)) (ps := [(.array .int), .int, .int, .int]) (by decide) rfl rfl 0 rfl (by decide) (by decide) (by decide) (by decide) rfl (fun T_770 v_772 h_771 H_769 z_773 q_774 => ?_)
        obtain ⟨rfl, rfl⟩ := q_774
        show OEnds _ _ _ _ _ _ _ _ _ (mkF _ 523 #[.val (.long p0), .second, .val (.long p1), .second, .val (.long p2), .second, .val (.long p3), .second, .val (.int p4), .val (.int sv), .val (.int (0 : Int32)), .val (.int (1 : Int32)), .val (.int (1 : Int32)), .val (.int (1 : Int32)), .val (.ref af), .val (.ref al), .val (.ref ae), .val (.ref ac), .val (.ref ar), .val (.ref as_), .val (.int (1 : Int32))] [(.int (1 : Int32))])
        refine Own.if_eq H_769 (pc := 523) 543 at_523 (by decide) (by decide) (fun hc => absurd hc (by decide)) (fun _ => ?_)
        refine Own.aload H_769 (pc := 526) at_526 rfl rfl ?_
        refine Own.iconst H_769 (pc := 528) (3) at_528 rfl ?_
        refine Own.iload H_769 (pc := 529) at_529 rfl ?_
        refine Own.iload H_769 (pc := 531) at_531 rfl ?_
        refine Own.callS H_769 (pc := 533) (y := (⟨"termstone/postings/ImpactsLayPinLaw", "untouched", "([IIII)Z"⟩ : MethodName)) [(.ref ar), (.int (3 : Int32)), (.int (1 : Int32)), (.int sv)] [] at_533 (hw _ (List.mem_of_getElem? (i := 9) rfl)) (hw _ (List.mem_of_getElem? (i := 10) rfl)) (hw _ (List.mem_of_getElem? (i := 7) rfl)) (hw _ (List.mem_of_getElem? (i := 11) rfl)) (by decide) (rm_unt l Z a0 hw ar (3 : Int32) (1 : Int32) sv _ n0 H_769.z0 [(((p0).toInt32 - (0 : Int32)) - (1 : Int32)), sv, sv, sv] C4 3 (by simp) rfl (fun _ => rfl)) (r := (some .boolean)) (ps := [(.array .int), .int, .int, .int]) (by decide) rfl rfl 0 rfl (by decide) (by decide) (by decide) (by decide) rfl (fun T_776 v_778 h_777 H_775 z_779 q_780 => ?_)
        obtain ⟨rfl, rfl⟩ := q_780
        show OEnds _ _ _ _ _ _ _ _ _ (mkF _ 536 #[.val (.long p0), .second, .val (.long p1), .second, .val (.long p2), .second, .val (.long p3), .second, .val (.int p4), .val (.int sv), .val (.int (0 : Int32)), .val (.int (1 : Int32)), .val (.int (1 : Int32)), .val (.int (1 : Int32)), .val (.ref af), .val (.ref al), .val (.ref ae), .val (.ref ac), .val (.ref ar), .val (.ref as_), .val (.int (1 : Int32))] [(.int (1 : Int32))])
        refine Own.if_eq H_775 (pc := 536) 543 at_536 (by decide) (by decide) (fun hc => absurd hc (by decide)) (fun _ => ?_)
        refine Own.iconst H_775 (pc := 539) (1) at_539 rfl ?_
        refine Own.goto H_775 (pc := 540) 544 at_540 (by decide) (by decide) ?_
        refine Own.istore H_775 (pc := 544) #[.val (.long p0), .second, .val (.long p1), .second, .val (.long p2), .second, .val (.long p3), .second, .val (.int p4), .val (.int sv), .val (.int (0 : Int32)), .val (.int (1 : Int32)), .val (.int (1 : Int32)), .val (.int (1 : Int32)), .val (.ref af), .val (.ref al), .val (.ref ae), .val (.ref ac), .val (.ref ar), .val (.ref as_), .val (.int (1 : Int32))] at_544 rfl ?_
        refine Own.iload H_775 (pc := 546) at_546 rfl ?_
        refine Own.if_eq H_775 (pc := 548) 594 at_548 (by decide) (by decide) (fun hc => absurd hc (by decide)) (fun _ => ?_)
        refine Own.aload H_775 (pc := 551) at_551 rfl rfl ?_
        refine Own.iconst H_775 (pc := 553) (1) at_553 rfl ?_
        refine Own.iload H_775 (pc := 554) at_554 rfl ?_
        refine Own.iload H_775 (pc := 556) at_556 rfl ?_
        refine Own.callS H_775 (pc := 558) (y := (⟨"termstone/postings/ImpactsLayPinLaw", "untouched", "([IIII)Z"⟩ : MethodName)) [(.ref as_), (.int (1 : Int32)), (.int (1 : Int32)), (.int sv)] [] at_558 (hw _ (List.mem_of_getElem? (i := 9) rfl)) (hw _ (List.mem_of_getElem? (i := 10) rfl)) (hw _ (List.mem_of_getElem? (i := 7) rfl)) (hw _ (List.mem_of_getElem? (i := 11) rfl)) (by decide) (rm_unt l Z a0 hw as_ (1 : Int32) (1 : Int32) sv _ n0 H_775.z0 [(((p2).toInt32 - (-1 : Int32)) - (1 : Int32)), sv, sv, sv] C5 1 (by simp) rfl (fun _ => rfl)) (r := (some .boolean)) (ps := [(.array .int), .int, .int, .int]) (by decide) rfl rfl 0 rfl (by decide) (by decide) (by decide) (by decide) rfl (fun T_782 v_784 h_783 H_781 z_785 q_786 => ?_)
        obtain ⟨rfl, rfl⟩ := q_786
        show OEnds _ _ _ _ _ _ _ _ _ (mkF _ 561 #[.val (.long p0), .second, .val (.long p1), .second, .val (.long p2), .second, .val (.long p3), .second, .val (.int p4), .val (.int sv), .val (.int (0 : Int32)), .val (.int (1 : Int32)), .val (.int (1 : Int32)), .val (.int (1 : Int32)), .val (.ref af), .val (.ref al), .val (.ref ae), .val (.ref ac), .val (.ref ar), .val (.ref as_), .val (.int (1 : Int32))] [(.int (1 : Int32))])
        refine Own.if_eq H_781 (pc := 561) 594 at_561 (by decide) (by decide) (fun hc => absurd hc (by decide)) (fun _ => ?_)
        refine Own.aload H_781 (pc := 564) at_564 rfl rfl ?_
        refine Own.iconst H_781 (pc := 566) (2) at_566 rfl ?_
        refine Own.iload H_781 (pc := 567) at_567 rfl ?_
        refine Own.iload H_781 (pc := 569) at_569 rfl ?_
        refine Own.callS H_781 (pc := 571) (y := (⟨"termstone/postings/ImpactsLayPinLaw", "untouched", "([IIII)Z"⟩ : MethodName)) [(.ref as_), (.int (2 : Int32)), (.int (1 : Int32)), (.int sv)] [] at_571 (hw _ (List.mem_of_getElem? (i := 9) rfl)) (hw _ (List.mem_of_getElem? (i := 10) rfl)) (hw _ (List.mem_of_getElem? (i := 7) rfl)) (hw _ (List.mem_of_getElem? (i := 11) rfl)) (by decide) (rm_unt l Z a0 hw as_ (2 : Int32) (1 : Int32) sv _ n0 H_781.z0 [(((p2).toInt32 - (-1 : Int32)) - (1 : Int32)), sv, sv, sv] C5 2 (by simp) rfl (fun _ => rfl)) (r := (some .boolean)) (ps := [(.array .int), .int, .int, .int]) (by decide) rfl rfl 0 rfl (by decide) (by decide) (by decide) (by decide) rfl (fun T_788 v_790 h_789 H_787 z_791 q_792 => ?_)
        obtain ⟨rfl, rfl⟩ := q_792
        show OEnds _ _ _ _ _ _ _ _ _ (mkF _ 574 #[.val (.long p0), .second, .val (.long p1), .second, .val (.long p2), .second, .val (.long p3), .second, .val (.int p4), .val (.int sv), .val (.int (0 : Int32)), .val (.int (1 : Int32)), .val (.int (1 : Int32)), .val (.int (1 : Int32)), .val (.ref af), .val (.ref al), .val (.ref ae), .val (.ref ac), .val (.ref ar), .val (.ref as_), .val (.int (1 : Int32))] [(.int (1 : Int32))])
        refine Own.if_eq H_787 (pc := 574) 594 at_574 (by decide) (by decide) (fun hc => absurd hc (by decide)) (fun _ => ?_)
        refine Own.aload H_787 (pc := 577) at_577 rfl rfl ?_
        refine Own.iconst H_787 (pc := 579) (3) at_579 rfl ?_
        refine Own.iload H_787 (pc := 580) at_580 rfl ?_
        refine Own.iload H_787 (pc := 582) at_582 rfl ?_
        refine Own.callS H_787 (pc := 584) (y := (⟨"termstone/postings/ImpactsLayPinLaw", "untouched", "([IIII)Z"⟩ : MethodName)) [(.ref as_), (.int (3 : Int32)), (.int (1 : Int32)), (.int sv)] [] at_584 (hw _ (List.mem_of_getElem? (i := 9) rfl)) (hw _ (List.mem_of_getElem? (i := 10) rfl)) (hw _ (List.mem_of_getElem? (i := 7) rfl)) (hw _ (List.mem_of_getElem? (i := 11) rfl)) (by decide) (rm_unt l Z a0 hw as_ (3 : Int32) (1 : Int32) sv _ n0 H_787.z0 [(((p2).toInt32 - (-1 : Int32)) - (1 : Int32)), sv, sv, sv] C5 3 (by simp) rfl (fun _ => rfl)) (r := (some .boolean)) (ps := [(.array .int), .int, .int, .int]) (by decide) rfl rfl 0 rfl (by decide) (by decide) (by decide) (by decide) rfl (fun T_794 v_796 h_795 H_793 z_797 q_798 => ?_)
        obtain ⟨rfl, rfl⟩ := q_798
        show OEnds _ _ _ _ _ _ _ _ _ (mkF _ 587 #[.val (.long p0), .second, .val (.long p1), .second, .val (.long p2), .second, .val (.long p3), .second, .val (.int p4), .val (.int sv), .val (.int (0 : Int32)), .val (.int (1 : Int32)), .val (.int (1 : Int32)), .val (.int (1 : Int32)), .val (.ref af), .val (.ref al), .val (.ref ae), .val (.ref ac), .val (.ref ar), .val (.ref as_), .val (.int (1 : Int32))] [(.int (1 : Int32))])
        refine Own.if_eq H_793 (pc := 587) 594 at_587 (by decide) (by decide) (fun hc => absurd hc (by decide)) (fun _ => ?_)
        refine Own.iconst H_793 (pc := 590) (1) at_590 rfl ?_
        refine Own.goto H_793 (pc := 591) 595 at_591 (by decide) (by decide) ?_
        refine Own.istore H_793 (pc := 595) #[.val (.long p0), .second, .val (.long p1), .second, .val (.long p2), .second, .val (.long p3), .second, .val (.int p4), .val (.int sv), .val (.int (0 : Int32)), .val (.int (1 : Int32)), .val (.int (1 : Int32)), .val (.int (1 : Int32)), .val (.ref af), .val (.ref al), .val (.ref ae), .val (.ref ac), .val (.ref ar), .val (.ref as_), .val (.int (1 : Int32))] at_595 rfl ?_
        refine Own.iload H_793 (pc := 597) at_597 rfl ?_
        exact Own.ret_nar H_793 (pc := 599) (1) at_599 rfl (by simp) (by decide) (by decide) (by decide) (rfl)
      · refine Own.iadd_c H (pc := 23) (2) at_23 (by decide) ?_
        refine Own.istore H (pc := 24) #[.val (.long p0), .second, .val (.long p1), .second, .val (.long p2), .second, .val (.long p3), .second, .val (.int p4), .val (.int sv), .val (.int (0 : Int32)), .val (.int (1 : Int32)), .val (.int (2 : Int32)), .unset, .unset, .unset, .unset, .unset, .unset, .unset, .unset] at_24 rfl ?_
        refine Own.iload H (pc := 26) at_26 rfl ?_
        refine Own.iconst H (pc := 28) (1) at_28 rfl ?_
        refine Own.icmp_ne H (pc := 29) 40 at_29 (by decide) (by decide) (fun _ => ?_) (fun hc => absurd hc (by decide))
        refine Own.iload H (pc := 40) at_40 rfl ?_
        refine Own.istore H (pc := 42) #[.val (.long p0), .second, .val (.long p1), .second, .val (.long p2), .second, .val (.long p3), .second, .val (.int p4), .val (.int sv), .val (.int (0 : Int32)), .val (.int (1 : Int32)), .val (.int (2 : Int32)), .val (.int (1 : Int32)), .unset, .unset, .unset, .unset, .unset, .unset, .unset] at_42 rfl ?_
        refine Own.iconst H (pc := 44) (4) at_44 rfl ?_
        refine Own.newarray H (pc := 45) (i := 4) 4 at_45 (hw _ (List.mem_of_getElem? (i := 0) rfl)) rfl (by decide) (by decide) (by decide) (by decide) (by decide) (fun T_800 h_801 af eq_af ge_af H_799 Ext_af Ary_af => ?_)
        have A_802 : OAry Z h_801 af .int [(.int (0 : Int32)), (.int (0 : Int32)), (.int (0 : Int32)), (.int (0 : Int32))] := Ary_af
        refine Own.astore H_799 (pc := 47) #[.val (.long p0), .second, .val (.long p1), .second, .val (.long p2), .second, .val (.long p3), .second, .val (.int p4), .val (.int sv), .val (.int (0 : Int32)), .val (.int (1 : Int32)), .val (.int (2 : Int32)), .val (.int (1 : Int32)), .val (.ref af), .unset, .unset, .unset, .unset, .unset, .unset] at_47 rfl rfl ?_
        refine Own.aload H_799 (pc := 49) at_49 rfl rfl ?_
        refine Own.iconst H_799 (pc := 51) (0) at_51 rfl ?_
        refine Own.lload_n H_799 (pc := 52) at_52 rfl ?_
        refine Own.l2i H_799 (pc := 53) at_53 ?_
        refine Own.iastore H_799 (pc := 54) 0 at_54 A_802 ge_af rfl (by simp) (fun T_804 h_805 H_803 W_806 A_807 => ?_)
        have A_808 : OAry Z h_805 af .int [(.int (p0).toInt32), (.int (0 : Int32)), (.int (0 : Int32)), (.int (0 : Int32))] := A_807
        refine Own.aload H_803 (pc := 55) at_55 rfl rfl ?_
        refine Own.iconst H_803 (pc := 57) (1) at_57 rfl ?_
        refine Own.lload_n H_803 (pc := 58) at_58 rfl ?_
        refine Own.bipush H_803 (pc := 59) (32) at_59 rfl ?_
        refine Own.lushr H_803 (pc := 61) at_61 ?_
        refine Own.l2i H_803 (pc := 62) at_62 ?_
        refine Own.iastore H_803 (pc := 63) 1 at_63 A_808 ge_af rfl (by simp) (fun T_810 h_811 H_809 W_812 A_813 => ?_)
        have A_814 : OAry Z h_811 af .int [(.int (p0).toInt32), (.int ((XT.ushrL p0 (32 : Int32))).toInt32), (.int (0 : Int32)), (.int (0 : Int32))] := A_813
        refine Own.aload H_809 (pc := 64) at_64 rfl rfl ?_
        refine Own.iconst H_809 (pc := 66) (2) at_66 rfl ?_
        refine Own.lload_n H_809 (pc := 67) at_67 rfl ?_
        refine Own.l2i H_809 (pc := 68) at_68 ?_
        refine Own.iastore H_809 (pc := 69) 2 at_69 A_814 ge_af rfl (by simp) (fun T_816 h_817 H_815 W_818 A_819 => ?_)
        have A_820 : OAry Z h_817 af .int [(.int (p0).toInt32), (.int ((XT.ushrL p0 (32 : Int32))).toInt32), (.int (p1).toInt32), (.int (0 : Int32))] := A_819
        refine Own.aload H_815 (pc := 70) at_70 rfl rfl ?_
        refine Own.iconst H_815 (pc := 72) (3) at_72 rfl ?_
        refine Own.lload_n H_815 (pc := 73) at_73 rfl ?_
        refine Own.bipush H_815 (pc := 74) (32) at_74 rfl ?_
        refine Own.lushr H_815 (pc := 76) at_76 ?_
        refine Own.l2i H_815 (pc := 77) at_77 ?_
        refine Own.iastore H_815 (pc := 78) 3 at_78 A_820 ge_af rfl (by simp) (fun T_822 h_823 H_821 W_824 A_825 => ?_)
        have A_826 : OAry Z h_823 af .int [(.int (p0).toInt32), (.int ((XT.ushrL p0 (32 : Int32))).toInt32), (.int (p1).toInt32), (.int ((XT.ushrL p1 (32 : Int32))).toInt32)] := A_825
        refine Own.iconst H_821 (pc := 79) (4) at_79 rfl ?_
        refine Own.newarray H_821 (pc := 80) (i := 4) 4 at_80 (hw _ (List.mem_of_getElem? (i := 0) rfl)) rfl (by decide) (by decide) (by decide) (by decide) (by decide) (fun T_828 h_829 al eq_al ge_al H_827 Ext_al Ary_al => ?_)
        have lt_af_al : af < al := by have := A_826.lt; omega
        have A_830 := A_826.ext Ext_al
        have A_831 : OAry Z h_829 al .int [(.int (0 : Int32)), (.int (0 : Int32)), (.int (0 : Int32)), (.int (0 : Int32))] := Ary_al
        refine Own.astore H_827 (pc := 82) #[.val (.long p0), .second, .val (.long p1), .second, .val (.long p2), .second, .val (.long p3), .second, .val (.int p4), .val (.int sv), .val (.int (0 : Int32)), .val (.int (1 : Int32)), .val (.int (2 : Int32)), .val (.int (1 : Int32)), .val (.ref af), .val (.ref al), .unset, .unset, .unset, .unset, .unset] at_82 rfl rfl ?_
        refine Own.aload H_827 (pc := 84) at_84 rfl rfl ?_
        refine Own.iconst H_827 (pc := 86) (0) at_86 rfl ?_
        refine Own.lload H_827 (pc := 87) at_87 rfl ?_
        refine Own.l2i H_827 (pc := 89) at_89 ?_
        refine Own.iastore H_827 (pc := 90) 0 at_90 A_831 ge_al rfl (by simp) (fun T_833 h_834 H_832 W_835 A_836 => ?_)
        have A_837 := A_830.other W_835 (by omega)
        have A_838 : OAry Z h_834 al .int [(.int (p2).toInt32), (.int (0 : Int32)), (.int (0 : Int32)), (.int (0 : Int32))] := A_836
        refine Own.aload H_832 (pc := 91) at_91 rfl rfl ?_
        refine Own.iconst H_832 (pc := 93) (1) at_93 rfl ?_
        refine Own.lload H_832 (pc := 94) at_94 rfl ?_
        refine Own.bipush H_832 (pc := 96) (32) at_96 rfl ?_
        refine Own.lushr H_832 (pc := 98) at_98 ?_
        refine Own.l2i H_832 (pc := 99) at_99 ?_
        refine Own.iastore H_832 (pc := 100) 1 at_100 A_838 ge_al rfl (by simp) (fun T_840 h_841 H_839 W_842 A_843 => ?_)
        have A_844 := A_837.other W_842 (by omega)
        have A_845 : OAry Z h_841 al .int [(.int (p2).toInt32), (.int ((XT.ushrL p2 (32 : Int32))).toInt32), (.int (0 : Int32)), (.int (0 : Int32))] := A_843
        refine Own.aload H_839 (pc := 101) at_101 rfl rfl ?_
        refine Own.iconst H_839 (pc := 103) (2) at_103 rfl ?_
        refine Own.lload H_839 (pc := 104) at_104 rfl ?_
        refine Own.l2i H_839 (pc := 106) at_106 ?_
        refine Own.iastore H_839 (pc := 107) 2 at_107 A_845 ge_al rfl (by simp) (fun T_847 h_848 H_846 W_849 A_850 => ?_)
        have A_851 := A_844.other W_849 (by omega)
        have A_852 : OAry Z h_848 al .int [(.int (p2).toInt32), (.int ((XT.ushrL p2 (32 : Int32))).toInt32), (.int (p3).toInt32), (.int (0 : Int32))] := A_850
        refine Own.aload H_846 (pc := 108) at_108 rfl rfl ?_
        refine Own.iconst H_846 (pc := 110) (3) at_110 rfl ?_
        refine Own.lload H_846 (pc := 111) at_111 rfl ?_
        refine Own.bipush H_846 (pc := 113) (32) at_113 rfl ?_
        refine Own.lushr H_846 (pc := 115) at_115 ?_
        refine Own.l2i H_846 (pc := 116) at_116 ?_
        refine Own.iastore H_846 (pc := 117) 3 at_117 A_852 ge_al rfl (by simp) (fun T_854 h_855 H_853 W_856 A_857 => ?_)
        have A_858 := A_851.other W_856 (by omega)
        have A_859 : OAry Z h_855 al .int [(.int (p2).toInt32), (.int ((XT.ushrL p2 (32 : Int32))).toInt32), (.int (p3).toInt32), (.int ((XT.ushrL p3 (32 : Int32))).toInt32)] := A_857
        refine Own.iconst H_853 (pc := 118) (2) at_118 rfl ?_
        refine Own.newarray H_853 (pc := 119) (i := 2) 2 at_119 (hw _ (List.mem_of_getElem? (i := 0) rfl)) rfl (by decide) (by decide) (by decide) (by decide) (by decide) (fun T_861 h_862 ae eq_ae ge_ae H_860 Ext_ae Ary_ae => ?_)
        have lt_af_ae : af < ae := by have := A_858.lt; omega
        have A_863 := A_858.ext Ext_ae
        have lt_al_ae : al < ae := by have := A_859.lt; omega
        have A_864 := A_859.ext Ext_ae
        have A_865 : OAry Z h_862 ae .int [(.int (0 : Int32)), (.int (0 : Int32))] := Ary_ae
        refine Own.astore H_860 (pc := 121) #[.val (.long p0), .second, .val (.long p1), .second, .val (.long p2), .second, .val (.long p3), .second, .val (.int p4), .val (.int sv), .val (.int (0 : Int32)), .val (.int (1 : Int32)), .val (.int (2 : Int32)), .val (.int (1 : Int32)), .val (.ref af), .val (.ref al), .val (.ref ae), .unset, .unset, .unset, .unset] at_121 rfl rfl ?_
        refine Own.aload H_860 (pc := 123) at_123 rfl rfl ?_
        refine Own.iconst H_860 (pc := 125) (0) at_125 rfl ?_
        refine Own.iload H_860 (pc := 126) at_126 rfl ?_
        refine Own.iastore H_860 (pc := 128) 0 at_128 A_865 ge_ae rfl (by simp) (fun T_867 h_868 H_866 W_869 A_870 => ?_)
        have A_871 := A_863.other W_869 (by omega)
        have A_872 := A_864.other W_869 (by omega)
        have A_873 : OAry Z h_868 ae .int [(.int (1 : Int32)), (.int (0 : Int32))] := A_870
        refine Own.aload H_866 (pc := 129) at_129 rfl rfl ?_
        refine Own.iconst H_866 (pc := 131) (1) at_131 rfl ?_
        refine Own.iload H_866 (pc := 132) at_132 rfl ?_
        refine Own.iload H_866 (pc := 134) at_134 rfl ?_
        refine Own.iadd_c H_866 (pc := 136) (3) at_136 (by decide) ?_
        refine Own.iastore H_866 (pc := 137) 1 at_137 A_873 ge_ae rfl (by simp) (fun T_875 h_876 H_874 W_877 A_878 => ?_)
        have A_879 := A_871.other W_877 (by omega)
        have A_880 := A_872.other W_877 (by omega)
        have A_881 : OAry Z h_876 ae .int [(.int (1 : Int32)), (.int (3 : Int32))] := A_878
        refine Own.iconst H_874 (pc := 138) (3) at_138 rfl ?_
        refine Own.newarray H_874 (pc := 139) (i := 3) 3 at_139 (hw _ (List.mem_of_getElem? (i := 0) rfl)) rfl (by decide) (by decide) (by decide) (by decide) (by decide) (fun T_883 h_884 ac eq_ac ge_ac H_882 Ext_ac Ary_ac => ?_)
        have lt_af_ac : af < ac := by have := A_879.lt; omega
        have A_885 := A_879.ext Ext_ac
        have lt_al_ac : al < ac := by have := A_880.lt; omega
        have A_886 := A_880.ext Ext_ac
        have lt_ae_ac : ae < ac := by have := A_881.lt; omega
        have A_887 := A_881.ext Ext_ac
        have A_888 : OAry Z h_884 ac .int [(.int (0 : Int32)), (.int (0 : Int32)), (.int (0 : Int32))] := Ary_ac
        refine Own.astore H_882 (pc := 141) #[.val (.long p0), .second, .val (.long p1), .second, .val (.long p2), .second, .val (.long p3), .second, .val (.int p4), .val (.int sv), .val (.int (0 : Int32)), .val (.int (1 : Int32)), .val (.int (2 : Int32)), .val (.int (1 : Int32)), .val (.ref af), .val (.ref al), .val (.ref ae), .val (.ref ac), .unset, .unset, .unset] at_141 rfl rfl ?_
        refine Own.aload H_882 (pc := 143) at_143 rfl rfl ?_
        refine Own.iconst H_882 (pc := 145) (0) at_145 rfl ?_
        refine Own.iload H_882 (pc := 146) at_146 rfl ?_
        refine Own.iastore H_882 (pc := 148) 0 at_148 A_888 ge_ac rfl (by simp) (fun T_890 h_891 H_889 W_892 A_893 => ?_)
        have A_894 := A_885.other W_892 (by omega)
        have A_895 := A_886.other W_892 (by omega)
        have A_896 := A_887.other W_892 (by omega)
        have A_897 : OAry Z h_891 ac .int [(.int sv), (.int (0 : Int32)), (.int (0 : Int32))] := A_893
        refine Own.aload H_889 (pc := 149) at_149 rfl rfl ?_
        refine Own.iconst H_889 (pc := 151) (1) at_151 rfl ?_
        refine Own.iload H_889 (pc := 152) at_152 rfl ?_
        refine Own.iastore H_889 (pc := 154) 1 at_154 A_897 ge_ac rfl (by simp) (fun T_899 h_900 H_898 W_901 A_902 => ?_)
        have A_903 := A_894.other W_901 (by omega)
        have A_904 := A_895.other W_901 (by omega)
        have A_905 := A_896.other W_901 (by omega)
        have A_906 : OAry Z h_900 ac .int [(.int sv), (.int sv), (.int (0 : Int32))] := A_902
        refine Own.aload H_898 (pc := 155) at_155 rfl rfl ?_
        refine Own.iconst H_898 (pc := 157) (2) at_157 rfl ?_
        refine Own.iload H_898 (pc := 158) at_158 rfl ?_
        refine Own.iastore H_898 (pc := 160) 2 at_160 A_906 ge_ac rfl (by simp) (fun T_908 h_909 H_907 W_910 A_911 => ?_)
        have A_912 := A_903.other W_910 (by omega)
        have A_913 := A_904.other W_910 (by omega)
        have A_914 := A_905.other W_910 (by omega)
        have A_915 : OAry Z h_909 ac .int [(.int sv), (.int sv), (.int sv)] := A_911
        refine Own.iconst H_907 (pc := 161) (4) at_161 rfl ?_
        refine Own.newarray H_907 (pc := 162) (i := 4) 4 at_162 (hw _ (List.mem_of_getElem? (i := 0) rfl)) rfl (by decide) (by decide) (by decide) (by decide) (by decide) (fun T_917 h_918 ar eq_ar ge_ar H_916 Ext_ar Ary_ar => ?_)
        have lt_af_ar : af < ar := by have := A_912.lt; omega
        have A_919 := A_912.ext Ext_ar
        have lt_al_ar : al < ar := by have := A_913.lt; omega
        have A_920 := A_913.ext Ext_ar
        have lt_ae_ar : ae < ar := by have := A_914.lt; omega
        have A_921 := A_914.ext Ext_ar
        have lt_ac_ar : ac < ar := by have := A_915.lt; omega
        have A_922 := A_915.ext Ext_ar
        have A_923 : OAry Z h_918 ar .int [(.int (0 : Int32)), (.int (0 : Int32)), (.int (0 : Int32)), (.int (0 : Int32))] := Ary_ar
        refine Own.astore H_916 (pc := 164) #[.val (.long p0), .second, .val (.long p1), .second, .val (.long p2), .second, .val (.long p3), .second, .val (.int p4), .val (.int sv), .val (.int (0 : Int32)), .val (.int (1 : Int32)), .val (.int (2 : Int32)), .val (.int (1 : Int32)), .val (.ref af), .val (.ref al), .val (.ref ae), .val (.ref ac), .val (.ref ar), .unset, .unset] at_164 rfl rfl ?_
        refine Own.iconst H_916 (pc := 166) (4) at_166 rfl ?_
        refine Own.newarray H_916 (pc := 167) (i := 4) 4 at_167 (hw _ (List.mem_of_getElem? (i := 0) rfl)) rfl (by decide) (by decide) (by decide) (by decide) (by decide) (fun T_925 h_926 as_ eq_as_ ge_as_ H_924 Ext_as_ Ary_as_ => ?_)
        have lt_af_as_ : af < as_ := by have := A_919.lt; omega
        have A_927 := A_919.ext Ext_as_
        have lt_al_as_ : al < as_ := by have := A_920.lt; omega
        have A_928 := A_920.ext Ext_as_
        have lt_ae_as_ : ae < as_ := by have := A_921.lt; omega
        have A_929 := A_921.ext Ext_as_
        have lt_ac_as_ : ac < as_ := by have := A_922.lt; omega
        have A_930 := A_922.ext Ext_as_
        have lt_ar_as_ : ar < as_ := by have := A_923.lt; omega
        have A_931 := A_923.ext Ext_as_
        have A_932 : OAry Z h_926 as_ .int [(.int (0 : Int32)), (.int (0 : Int32)), (.int (0 : Int32)), (.int (0 : Int32))] := Ary_as_
        refine Own.astore H_924 (pc := 169) #[.val (.long p0), .second, .val (.long p1), .second, .val (.long p2), .second, .val (.long p3), .second, .val (.int p4), .val (.int sv), .val (.int (0 : Int32)), .val (.int (1 : Int32)), .val (.int (2 : Int32)), .val (.int (1 : Int32)), .val (.ref af), .val (.ref al), .val (.ref ae), .val (.ref ac), .val (.ref ar), .val (.ref as_), .unset] at_169 rfl rfl ?_
        refine Own.aload H_924 (pc := 171) at_171 rfl rfl ?_
        refine Own.iconst H_924 (pc := 173) (0) at_173 rfl ?_
        refine Own.iload H_924 (pc := 174) at_174 rfl ?_
        refine Own.iastore H_924 (pc := 176) 0 at_176 A_931 ge_ar rfl (by simp) (fun T_934 h_935 H_933 W_936 A_937 => ?_)
        have A_938 := A_927.other W_936 (by omega)
        have A_939 := A_928.other W_936 (by omega)
        have A_940 := A_929.other W_936 (by omega)
        have A_941 := A_930.other W_936 (by omega)
        have A_942 : OAry Z h_935 ar .int [(.int sv), (.int (0 : Int32)), (.int (0 : Int32)), (.int (0 : Int32))] := A_937
        have A_943 := A_932.other W_936 (by omega)
        refine Own.aload H_933 (pc := 177) at_177 rfl rfl ?_
        refine Own.iconst H_933 (pc := 179) (1) at_179 rfl ?_
        refine Own.iload H_933 (pc := 180) at_180 rfl ?_
        refine Own.iastore H_933 (pc := 182) 1 at_182 A_942 ge_ar rfl (by simp) (fun T_945 h_946 H_944 W_947 A_948 => ?_)
        have A_949 := A_938.other W_947 (by omega)
        have A_950 := A_939.other W_947 (by omega)
        have A_951 := A_940.other W_947 (by omega)
        have A_952 := A_941.other W_947 (by omega)
        have A_953 : OAry Z h_946 ar .int [(.int sv), (.int sv), (.int (0 : Int32)), (.int (0 : Int32))] := A_948
        have A_954 := A_943.other W_947 (by omega)
        refine Own.aload H_944 (pc := 183) at_183 rfl rfl ?_
        refine Own.iconst H_944 (pc := 185) (2) at_185 rfl ?_
        refine Own.iload H_944 (pc := 186) at_186 rfl ?_
        refine Own.iastore H_944 (pc := 188) 2 at_188 A_953 ge_ar rfl (by simp) (fun T_956 h_957 H_955 W_958 A_959 => ?_)
        have A_960 := A_949.other W_958 (by omega)
        have A_961 := A_950.other W_958 (by omega)
        have A_962 := A_951.other W_958 (by omega)
        have A_963 := A_952.other W_958 (by omega)
        have A_964 : OAry Z h_957 ar .int [(.int sv), (.int sv), (.int sv), (.int (0 : Int32))] := A_959
        have A_965 := A_954.other W_958 (by omega)
        refine Own.aload H_955 (pc := 189) at_189 rfl rfl ?_
        refine Own.iconst H_955 (pc := 191) (3) at_191 rfl ?_
        refine Own.iload H_955 (pc := 192) at_192 rfl ?_
        refine Own.iastore H_955 (pc := 194) 3 at_194 A_964 ge_ar rfl (by simp) (fun T_967 h_968 H_966 W_969 A_970 => ?_)
        have A_971 := A_960.other W_969 (by omega)
        have A_972 := A_961.other W_969 (by omega)
        have A_973 := A_962.other W_969 (by omega)
        have A_974 := A_963.other W_969 (by omega)
        have A_975 : OAry Z h_968 ar .int [(.int sv), (.int sv), (.int sv), (.int sv)] := A_970
        have A_976 := A_965.other W_969 (by omega)
        refine Own.aload H_966 (pc := 195) at_195 rfl rfl ?_
        refine Own.iconst H_966 (pc := 197) (0) at_197 rfl ?_
        refine Own.iload H_966 (pc := 198) at_198 rfl ?_
        refine Own.iastore H_966 (pc := 200) 0 at_200 A_976 ge_as_ rfl (by simp) (fun T_978 h_979 H_977 W_980 A_981 => ?_)
        have A_982 := A_971.other W_980 (by omega)
        have A_983 := A_972.other W_980 (by omega)
        have A_984 := A_973.other W_980 (by omega)
        have A_985 := A_974.other W_980 (by omega)
        have A_986 := A_975.other W_980 (by omega)
        have A_987 : OAry Z h_979 as_ .int [(.int sv), (.int (0 : Int32)), (.int (0 : Int32)), (.int (0 : Int32))] := A_981
        refine Own.aload H_977 (pc := 201) at_201 rfl rfl ?_
        refine Own.iconst H_977 (pc := 203) (1) at_203 rfl ?_
        refine Own.iload H_977 (pc := 204) at_204 rfl ?_
        refine Own.iastore H_977 (pc := 206) 1 at_206 A_987 ge_as_ rfl (by simp) (fun T_989 h_990 H_988 W_991 A_992 => ?_)
        have A_993 := A_982.other W_991 (by omega)
        have A_994 := A_983.other W_991 (by omega)
        have A_995 := A_984.other W_991 (by omega)
        have A_996 := A_985.other W_991 (by omega)
        have A_997 := A_986.other W_991 (by omega)
        have A_998 : OAry Z h_990 as_ .int [(.int sv), (.int sv), (.int (0 : Int32)), (.int (0 : Int32))] := A_992
        refine Own.aload H_988 (pc := 207) at_207 rfl rfl ?_
        refine Own.iconst H_988 (pc := 209) (2) at_209 rfl ?_
        refine Own.iload H_988 (pc := 210) at_210 rfl ?_
        refine Own.iastore H_988 (pc := 212) 2 at_212 A_998 ge_as_ rfl (by simp) (fun T_1000 h_1001 H_999 W_1002 A_1003 => ?_)
        have A_1004 := A_993.other W_1002 (by omega)
        have A_1005 := A_994.other W_1002 (by omega)
        have A_1006 := A_995.other W_1002 (by omega)
        have A_1007 := A_996.other W_1002 (by omega)
        have A_1008 := A_997.other W_1002 (by omega)
        have A_1009 : OAry Z h_1001 as_ .int [(.int sv), (.int sv), (.int sv), (.int (0 : Int32))] := A_1003
        refine Own.aload H_999 (pc := 213) at_213 rfl rfl ?_
        refine Own.iconst H_999 (pc := 215) (3) at_215 rfl ?_
        refine Own.iload H_999 (pc := 216) at_216 rfl ?_
        refine Own.iastore H_999 (pc := 218) 3 at_218 A_1009 ge_as_ rfl (by simp) (fun T_1011 h_1012 H_1010 W_1013 A_1014 => ?_)
        have A_1015 := A_1004.other W_1013 (by omega)
        have A_1016 := A_1005.other W_1013 (by omega)
        have A_1017 := A_1006.other W_1013 (by omega)
        have A_1018 := A_1007.other W_1013 (by omega)
        have A_1019 := A_1008.other W_1013 (by omega)
        have A_1020 : OAry Z h_1012 as_ .int [(.int sv), (.int sv), (.int sv), (.int sv)] := A_1014
        refine Own.aload H_1010 (pc := 219) at_219 rfl rfl ?_
        refine Own.aload H_1010 (pc := 221) at_221 rfl rfl ?_
        refine Own.aload H_1010 (pc := 223) at_223 rfl rfl ?_
        refine Own.iload H_1010 (pc := 225) at_225 rfl ?_
        refine Own.aload H_1010 (pc := 227) at_227 rfl rfl ?_
        refine Own.aload H_1010 (pc := 229) at_229 rfl rfl ?_
        refine Own.aload H_1010 (pc := 231) at_231 rfl rfl ?_
        refine Own.callS H_1010 (pc := 233) (y := (⟨"termstone/postings/Impacts", "lay", "([I[I[II[I[I[I)V"⟩ : MethodName)) [(.ref af), (.ref al), (.ref ae), (.int (0 : Int32)), (.ref ac), (.ref ar), (.ref as_)] [] at_233 (hw _ (List.mem_of_getElem? (i := 1) rfl)) (hw _ (List.mem_of_getElem? (i := 2) rfl)) (hw _ (List.mem_of_getElem? (i := 3) rfl)) (hw _ (List.mem_of_getElem? (i := 4) rfl)) (by decide) (rm_lay012 l Z a0 hw af al ae (0 : Int32) ac ar as_ _ n0 H_1010.z0 (p0).toInt32 ((XT.ushrL p0 (32 : Int32))).toInt32 (p1).toInt32 ((XT.ushrL p1 (32 : Int32))).toInt32 (p2).toInt32 ((XT.ushrL p2 (32 : Int32))).toInt32 (p3).toInt32 ((XT.ushrL p3 (32 : Int32))).toInt32 sv A_1015 A_1016 A_1017 A_1018 A_1019 A_1020 lt_af_al lt_al_ae lt_ae_ac lt_ac_ar lt_ar_as_ ge_ac ge_ar ge_as_ rfl) (r := none) (ps := [(.array .int), (.array .int), (.array .int), .int, (.array .int), (.array .int), (.array .int)]) (by decide) rfl rfl 0 rfl (by decide) (by decide) (by decide) (by decide) rfl (fun T_1022 v_1024 h_1023 H_1021 z_1025 q_1026 => ?_)
        obtain ⟨rfl, C0, C1, C2, C3, C4, C5⟩ := q_1026
        show OEnds _ _ _ _ _ _ _ _ _ (mkF _ 236 #[.val (.long p0), .second, .val (.long p1), .second, .val (.long p2), .second, .val (.long p3), .second, .val (.int p4), .val (.int sv), .val (.int (0 : Int32)), .val (.int (1 : Int32)), .val (.int (2 : Int32)), .val (.int (1 : Int32)), .val (.ref af), .val (.ref al), .val (.ref ae), .val (.ref ac), .val (.ref ar), .val (.ref as_), .unset] [])
        refine Own.aload H_1021 (pc := 236) at_236 rfl rfl ?_
        refine Own.iconst H_1021 (pc := 238) (0) at_238 rfl ?_
        refine Own.iaload H_1021 (pc := 239) (v := (p0).toInt32) 0 at_239 C0 rfl rfl ?_
        refine Own.lload_n H_1021 (pc := 240) at_240 rfl ?_
        refine Own.l2i H_1021 (pc := 241) at_241 ?_
        refine Own.icmp_ne H_1021 (pc := 242) 349 at_242 (by decide) (by decide) (fun hX => absurd rfl hX) (fun _ => ?_)
        refine Own.aload H_1021 (pc := 245) at_245 rfl rfl ?_
        refine Own.iconst H_1021 (pc := 247) (1) at_247 rfl ?_
        refine Own.iaload H_1021 (pc := 248) (v := ((XT.ushrL p0 (32 : Int32))).toInt32) 1 at_248 C0 rfl rfl ?_
        refine Own.lload_n H_1021 (pc := 249) at_249 rfl ?_
        refine Own.bipush H_1021 (pc := 250) (32) at_250 rfl ?_
        refine Own.lushr H_1021 (pc := 252) at_252 ?_
        refine Own.l2i H_1021 (pc := 253) at_253 ?_
        refine Own.icmp_ne H_1021 (pc := 254) 349 at_254 (by decide) (by decide) (fun hX => absurd rfl hX) (fun _ => ?_)
        refine Own.aload H_1021 (pc := 257) at_257 rfl rfl ?_
        refine Own.iconst H_1021 (pc := 259) (2) at_259 rfl ?_
        refine Own.iaload H_1021 (pc := 260) (v := (p1).toInt32) 2 at_260 C0 rfl rfl ?_
        refine Own.lload_n H_1021 (pc := 261) at_261 rfl ?_
        refine Own.l2i H_1021 (pc := 262) at_262 ?_
        refine Own.icmp_ne H_1021 (pc := 263) 349 at_263 (by decide) (by decide) (fun hX => absurd rfl hX) (fun _ => ?_)
        refine Own.aload H_1021 (pc := 266) at_266 rfl rfl ?_
        refine Own.iconst H_1021 (pc := 268) (3) at_268 rfl ?_
        refine Own.iaload H_1021 (pc := 269) (v := ((XT.ushrL p1 (32 : Int32))).toInt32) 3 at_269 C0 rfl rfl ?_
        refine Own.lload_n H_1021 (pc := 270) at_270 rfl ?_
        refine Own.bipush H_1021 (pc := 271) (32) at_271 rfl ?_
        refine Own.lushr H_1021 (pc := 273) at_273 ?_
        refine Own.l2i H_1021 (pc := 274) at_274 ?_
        refine Own.icmp_ne H_1021 (pc := 275) 349 at_275 (by decide) (by decide) (fun hX => absurd rfl hX) (fun _ => ?_)
        refine Own.aload H_1021 (pc := 278) at_278 rfl rfl ?_
        refine Own.iconst H_1021 (pc := 280) (0) at_280 rfl ?_
        refine Own.iaload H_1021 (pc := 281) (v := (p2).toInt32) 0 at_281 C1 rfl rfl ?_
        refine Own.lload H_1021 (pc := 282) at_282 rfl ?_
        refine Own.l2i H_1021 (pc := 284) at_284 ?_
        refine Own.icmp_ne H_1021 (pc := 285) 349 at_285 (by decide) (by decide) (fun hX => absurd rfl hX) (fun _ => ?_)
        refine Own.aload H_1021 (pc := 288) at_288 rfl rfl ?_
        refine Own.iconst H_1021 (pc := 290) (1) at_290 rfl ?_
        refine Own.iaload H_1021 (pc := 291) (v := ((XT.ushrL p2 (32 : Int32))).toInt32) 1 at_291 C1 rfl rfl ?_
        refine Own.lload H_1021 (pc := 292) at_292 rfl ?_
        refine Own.bipush H_1021 (pc := 294) (32) at_294 rfl ?_
        refine Own.lushr H_1021 (pc := 296) at_296 ?_
        refine Own.l2i H_1021 (pc := 297) at_297 ?_
        refine Own.icmp_ne H_1021 (pc := 298) 349 at_298 (by decide) (by decide) (fun hX => absurd rfl hX) (fun _ => ?_)
        refine Own.aload H_1021 (pc := 301) at_301 rfl rfl ?_
        refine Own.iconst H_1021 (pc := 303) (2) at_303 rfl ?_
        refine Own.iaload H_1021 (pc := 304) (v := (p3).toInt32) 2 at_304 C1 rfl rfl ?_
        refine Own.lload H_1021 (pc := 305) at_305 rfl ?_
        refine Own.l2i H_1021 (pc := 307) at_307 ?_
        refine Own.icmp_ne H_1021 (pc := 308) 349 at_308 (by decide) (by decide) (fun hX => absurd rfl hX) (fun _ => ?_)
        refine Own.aload H_1021 (pc := 311) at_311 rfl rfl ?_
        refine Own.iconst H_1021 (pc := 313) (3) at_313 rfl ?_
        refine Own.iaload H_1021 (pc := 314) (v := ((XT.ushrL p3 (32 : Int32))).toInt32) 3 at_314 C1 rfl rfl ?_
        refine Own.lload H_1021 (pc := 315) at_315 rfl ?_
        refine Own.bipush H_1021 (pc := 317) (32) at_317 rfl ?_
        refine Own.lushr H_1021 (pc := 319) at_319 ?_
        refine Own.l2i H_1021 (pc := 320) at_320 ?_
        refine Own.icmp_ne H_1021 (pc := 321) 349 at_321 (by decide) (by decide) (fun hX => absurd rfl hX) (fun _ => ?_)
        refine Own.aload H_1021 (pc := 324) at_324 rfl rfl ?_
        refine Own.iconst H_1021 (pc := 326) (0) at_326 rfl ?_
        refine Own.iaload H_1021 (pc := 327) (v := (1 : Int32)) 0 at_327 C2 rfl rfl ?_
        refine Own.iload H_1021 (pc := 328) at_328 rfl ?_
        refine Own.icmp_ne H_1021 (pc := 330) 349 at_330 (by decide) (by decide) (fun hc => absurd hc (by decide)) (fun _ => ?_)
        refine Own.aload H_1021 (pc := 333) at_333 rfl rfl ?_
        refine Own.iconst H_1021 (pc := 335) (1) at_335 rfl ?_
        refine Own.iaload H_1021 (pc := 336) (v := (3 : Int32)) 1 at_336 C2 rfl rfl ?_
        refine Own.iload H_1021 (pc := 337) at_337 rfl ?_
        refine Own.iload H_1021 (pc := 339) at_339 rfl ?_
        refine Own.iadd_c H_1021 (pc := 341) (3) at_341 (by decide) ?_
        refine Own.icmp_ne H_1021 (pc := 342) 349 at_342 (by decide) (by decide) (fun hc => absurd hc (by decide)) (fun _ => ?_)
        refine Own.iconst H_1021 (pc := 345) (1) at_345 rfl ?_
        refine Own.goto H_1021 (pc := 346) 350 at_346 (by decide) (by decide) ?_
        refine Own.istore H_1021 (pc := 350) #[.val (.long p0), .second, .val (.long p1), .second, .val (.long p2), .second, .val (.long p3), .second, .val (.int p4), .val (.int sv), .val (.int (0 : Int32)), .val (.int (1 : Int32)), .val (.int (2 : Int32)), .val (.int (1 : Int32)), .val (.ref af), .val (.ref al), .val (.ref ae), .val (.ref ac), .val (.ref ar), .val (.ref as_), .val (.int (1 : Int32))] at_350 rfl ?_
        refine Own.iload H_1021 (pc := 352) at_352 rfl ?_
        refine Own.if_eq H_1021 (pc := 354) 378 at_354 (by decide) (by decide) (fun hc => absurd hc (by decide)) (fun _ => ?_)
        refine Own.aload H_1021 (pc := 357) at_357 rfl rfl ?_
        refine Own.aload H_1021 (pc := 359) at_359 rfl rfl ?_
        refine Own.aload H_1021 (pc := 361) at_361 rfl rfl ?_
        refine Own.aload H_1021 (pc := 363) at_363 rfl rfl ?_
        refine Own.iconst H_1021 (pc := 365) (0) at_365 rfl ?_
        refine Own.iload H_1021 (pc := 366) at_366 rfl ?_
        refine Own.callS H_1021 (pc := 368) (y := (⟨"termstone/postings/ImpactsLayPinLaw", "segment", "([I[I[I[III)Z"⟩ : MethodName)) [(.ref ar), (.ref as_), (.ref af), (.ref al), (.int (0 : Int32)), (.int (1 : Int32))] [] at_368 (hw _ (List.mem_of_getElem? (i := 5) rfl)) (hw _ (List.mem_of_getElem? (i := 6) rfl)) (hw _ (List.mem_of_getElem? (i := 7) rfl)) (hw _ (List.mem_of_getElem? (i := 8) rfl)) (by decide) (rm_seg l Z a0 hw ar as_ af al (0 : Int32) (1 : Int32) _ n0 H_1021.z0 [(((p0).toInt32 - (0 : Int32)) - (1 : Int32)), sv, sv, sv] [(((p2).toInt32 - (-1 : Int32)) - (1 : Int32)), sv, sv, sv] [(p0).toInt32, ((XT.ushrL p0 (32 : Int32))).toInt32, (p1).toInt32, ((XT.ushrL p1 (32 : Int32))).toInt32] [(p2).toInt32, ((XT.ushrL p2 (32 : Int32))).toInt32, (p3).toInt32, ((XT.ushrL p3 (32 : Int32))).toInt32] C4 C5 C0 C1 rfl rfl rfl rfl 0 (by decide) rfl (own_a1 _) (own_a2 _) (fun q => absurd q (by decide))) (r := (some .boolean)) (ps := [(.array .int), (.array .int), (.array .int), (.array .int), .int, .int]) (by decide) rfl rfl 0 rfl (by decide) (by decide) (by decide) (by decide) rfl (fun T_1028 v_1030 h_1029 H_1027 z_1031 q_1032 => ?_)
        obtain ⟨rfl, rfl⟩ := q_1032
        show OEnds _ _ _ _ _ _ _ _ _ (mkF _ 371 #[.val (.long p0), .second, .val (.long p1), .second, .val (.long p2), .second, .val (.long p3), .second, .val (.int p4), .val (.int sv), .val (.int (0 : Int32)), .val (.int (1 : Int32)), .val (.int (2 : Int32)), .val (.int (1 : Int32)), .val (.ref af), .val (.ref al), .val (.ref ae), .val (.ref ac), .val (.ref ar), .val (.ref as_), .val (.int (1 : Int32))] [(.int (1 : Int32))])
        refine Own.if_eq H_1027 (pc := 371) 378 at_371 (by decide) (by decide) (fun hc => absurd hc (by decide)) (fun _ => ?_)
        refine Own.iconst H_1027 (pc := 374) (1) at_374 rfl ?_
        refine Own.goto H_1027 (pc := 375) 379 at_375 (by decide) (by decide) ?_
        refine Own.istore H_1027 (pc := 379) #[.val (.long p0), .second, .val (.long p1), .second, .val (.long p2), .second, .val (.long p3), .second, .val (.int p4), .val (.int sv), .val (.int (0 : Int32)), .val (.int (1 : Int32)), .val (.int (2 : Int32)), .val (.int (1 : Int32)), .val (.ref af), .val (.ref al), .val (.ref ae), .val (.ref ac), .val (.ref ar), .val (.ref as_), .val (.int (1 : Int32))] at_379 rfl ?_
        refine Own.iload H_1027 (pc := 381) at_381 rfl ?_
        refine Own.iconst H_1027 (pc := 383) (1) at_383 rfl ?_
        refine Own.icmp_ne H_1027 (pc := 384) 417 at_384 (by decide) (by decide) (fun _ => ?_) (fun hc => absurd hc (by decide))
        refine Own.iload H_1027 (pc := 417) at_417 rfl ?_
        refine Own.if_eq H_1027 (pc := 419) 437 at_419 (by decide) (by decide) (fun hc => absurd hc (by decide)) (fun _ => ?_)
        refine Own.aload H_1027 (pc := 422) at_422 rfl rfl ?_
        refine Own.iconst H_1027 (pc := 424) (0) at_424 rfl ?_
        refine Own.iaload H_1027 (pc := 425) (v := (0 : Int32)) 0 at_425 C3 rfl rfl ?_
        refine Own.iload H_1027 (pc := 426) at_426 rfl ?_
        refine Own.iconst H_1027 (pc := 428) (1) at_428 rfl ?_
        refine Own.isub_c H_1027 (pc := 429) (0) at_429 (by decide) ?_
        refine Own.icmp_ne H_1027 (pc := 430) 437 at_430 (by decide) (by decide) (fun hc => absurd hc (by decide)) (fun _ => ?_)
        refine Own.iconst H_1027 (pc := 433) (1) at_433 rfl ?_
        refine Own.goto H_1027 (pc := 434) 438 at_434 (by decide) (by decide) ?_
        refine Own.istore H_1027 (pc := 438) #[.val (.long p0), .second, .val (.long p1), .second, .val (.long p2), .second, .val (.long p3), .second, .val (.int p4), .val (.int sv), .val (.int (0 : Int32)), .val (.int (1 : Int32)), .val (.int (2 : Int32)), .val (.int (1 : Int32)), .val (.ref af), .val (.ref al), .val (.ref ae), .val (.ref ac), .val (.ref ar), .val (.ref as_), .val (.int (1 : Int32))] at_438 rfl ?_
        refine Own.iload H_1027 (pc := 440) at_440 rfl ?_
        refine Own.if_eq H_1027 (pc := 442) 471 at_442 (by decide) (by decide) (fun hc => absurd hc (by decide)) (fun _ => ?_)
        refine Own.aload H_1027 (pc := 445) at_445 rfl rfl ?_
        refine Own.iconst H_1027 (pc := 447) (1) at_447 rfl ?_
        refine Own.iaload H_1027 (pc := 448) (v := sv) 1 at_448 C3 rfl rfl ?_
        refine Own.iload H_1027 (pc := 449) at_449 rfl ?_
        refine Own.iconst H_1027 (pc := 451) (1) at_451 rfl ?_
        refine Own.icmp_ne H_1027 (pc := 452) 462 at_452 (by decide) (by decide) (fun _ => ?_) (fun hc => absurd hc (by decide))
        refine Own.iload H_1027 (pc := 462) at_462 rfl ?_
        refine Own.icmp_ne H_1027 (pc := 464) 471 at_464 (by decide) (by decide) (fun hX => absurd rfl hX) (fun _ => ?_)
        refine Own.iconst H_1027 (pc := 467) (1) at_467 rfl ?_
        refine Own.goto H_1027 (pc := 468) 472 at_468 (by decide) (by decide) ?_
        refine Own.istore H_1027 (pc := 472) #[.val (.long p0), .second, .val (.long p1), .second, .val (.long p2), .second, .val (.long p3), .second, .val (.int p4), .val (.int sv), .val (.int (0 : Int32)), .val (.int (1 : Int32)), .val (.int (2 : Int32)), .val (.int (1 : Int32)), .val (.ref af), .val (.ref al), .val (.ref ae), .val (.ref ac), .val (.ref ar), .val (.ref as_), .val (.int (1 : Int32))] at_472 rfl ?_
        refine Own.iload H_1027 (pc := 474) at_474 rfl ?_
        refine Own.if_eq H_1027 (pc := 476) 492 at_476 (by decide) (by decide) (fun hc => absurd hc (by decide)) (fun _ => ?_)
        refine Own.aload H_1027 (pc := 479) at_479 rfl rfl ?_
        refine Own.iconst H_1027 (pc := 481) (2) at_481 rfl ?_
        refine Own.iaload H_1027 (pc := 482) (v := sv) 2 at_482 C3 rfl rfl ?_
        refine Own.iload H_1027 (pc := 483) at_483 rfl ?_
        refine Own.icmp_ne H_1027 (pc := 485) 492 at_485 (by decide) (by decide) (fun hX => absurd rfl hX) (fun _ => ?_)
        refine Own.iconst H_1027 (pc := 488) (1) at_488 rfl ?_
        refine Own.goto H_1027 (pc := 489) 493 at_489 (by decide) (by decide) ?_
        refine Own.istore H_1027 (pc := 493) #[.val (.long p0), .second, .val (.long p1), .second, .val (.long p2), .second, .val (.long p3), .second, .val (.int p4), .val (.int sv), .val (.int (0 : Int32)), .val (.int (1 : Int32)), .val (.int (2 : Int32)), .val (.int (1 : Int32)), .val (.ref af), .val (.ref al), .val (.ref ae), .val (.ref ac), .val (.ref ar), .val (.ref as_), .val (.int (1 : Int32))] at_493 rfl ?_
        refine Own.iload H_1027 (pc := 495) at_495 rfl ?_
        refine Own.if_eq H_1027 (pc := 497) 543 at_497 (by decide) (by decide) (fun hc => absurd hc (by decide)) (fun _ => ?_)
        refine Own.aload H_1027 (pc := 500) at_500 rfl rfl ?_
        refine Own.iconst H_1027 (pc := 502) (1) at_502 rfl ?_
        refine Own.iload H_1027 (pc := 503) at_503 rfl ?_
        refine Own.iload H_1027 (pc := 505) at_505 rfl ?_
        refine Own.callS H_1027 (pc := 507) (y := (⟨"termstone/postings/ImpactsLayPinLaw", "untouched", "([IIII)Z"⟩ : MethodName)) [(.ref ar), (.int (1 : Int32)), (.int (1 : Int32)), (.int sv)] [] at_507 (hw _ (List.mem_of_getElem? (i := 9) rfl)) (hw _ (List.mem_of_getElem? (i := 10) rfl)) (hw _ (List.mem_of_getElem? (i := 7) rfl)) (hw _ (List.mem_of_getElem? (i := 11) rfl)) (by decide) (rm_unt l Z a0 hw ar (1 : Int32) (1 : Int32) sv _ n0 H_1027.z0 [(((p0).toInt32 - (0 : Int32)) - (1 : Int32)), sv, sv, sv] C4 1 (by simp) rfl (fun _ => rfl)) (r := (some .boolean)) (ps := [(.array .int), .int, .int, .int]) (by decide) rfl rfl 0 rfl (by decide) (by decide) (by decide) (by decide) rfl (fun T_1034 v_1036 h_1035 H_1033 z_1037 q_1038 => ?_)
        obtain ⟨rfl, rfl⟩ := q_1038
        show OEnds _ _ _ _ _ _ _ _ _ (mkF _ 510 #[.val (.long p0), .second, .val (.long p1), .second, .val (.long p2), .second, .val (.long p3), .second, .val (.int p4), .val (.int sv), .val (.int (0 : Int32)), .val (.int (1 : Int32)), .val (.int (2 : Int32)), .val (.int (1 : Int32)), .val (.ref af), .val (.ref al), .val (.ref ae), .val (.ref ac), .val (.ref ar), .val (.ref as_), .val (.int (1 : Int32))] [(.int (1 : Int32))])
        refine Own.if_eq H_1033 (pc := 510) 543 at_510 (by decide) (by decide) (fun hc => absurd hc (by decide)) (fun _ => ?_)
        refine Own.aload H_1033 (pc := 513) at_513 rfl rfl ?_
        refine Own.iconst H_1033 (pc := 515) (2) at_515 rfl ?_
        refine Own.iload H_1033 (pc := 516) at_516 rfl ?_
        refine Own.iload H_1033 (pc := 518) at_518 rfl ?_
        refine Own.callS H_1033 (pc := 520) (y := (⟨"termstone/postings/ImpactsLayPinLaw", "untouched", "([IIII)Z"⟩ : MethodName)) [(.ref ar), (.int (2 : Int32)), (.int (1 : Int32)), (.int sv)] [] at_520 (hw _ (List.mem_of_getElem? (i := 9) rfl)) (hw _ (List.mem_of_getElem? (i := 10) rfl)) (hw _ (List.mem_of_getElem? (i := 7) rfl)) (hw _ (List.mem_of_getElem? (i := 11) rfl)) (by decide) (rm_unt l Z a0 hw ar (2 : Int32) (1 : Int32) sv _ n0 H_1033.z0 [(((p0).toInt32 - (0 : Int32)) - (1 : Int32)), sv, sv, sv] C4 2 (by simp) rfl (fun _ => rfl)) (r := (some .boolean)) (ps := [(.array .int), .int, .int, .int]) (by decide) rfl rfl 0 rfl (by decide) (by decide) (by decide) (by decide) rfl (fun T_1040 v_1042 h_1041 H_1039 z_1043 q_1044 => ?_)
        obtain ⟨rfl, rfl⟩ := q_1044
        show OEnds _ _ _ _ _ _ _ _ _ (mkF _ 523 #[.val (.long p0), .second, .val (.long p1), .second, .val (.long p2), .second, .val (.long p3), .second, .val (.int p4), .val (.int sv), .val (.int (0 : Int32)), .val (.int (1 : Int32)), .val (.int (2 : Int32)), .val (.int (1 : Int32)), .val (.ref af), .val (.ref al), .val (.ref ae), .val (.ref ac), .val (.ref ar), .val (.ref as_), .val (.int (1 : Int32))] [(.int (1 : Int32))])
        refine Own.if_eq H_1039 (pc := 523) 543 at_523 (by decide) (by decide) (fun hc => absurd hc (by decide)) (fun _ => ?_)
        refine Own.aload H_1039 (pc := 526) at_526 rfl rfl ?_
        refine Own.iconst H_1039 (pc := 528) (3) at_528 rfl ?_
        refine Own.iload H_1039 (pc := 529) at_529 rfl ?_
        refine Own.iload H_1039 (pc := 531) at_531 rfl ?_
        refine Own.callS H_1039 (pc := 533) (y := (⟨"termstone/postings/ImpactsLayPinLaw", "untouched", "([IIII)Z"⟩ : MethodName)) [(.ref ar), (.int (3 : Int32)), (.int (1 : Int32)), (.int sv)] [] at_533 (hw _ (List.mem_of_getElem? (i := 9) rfl)) (hw _ (List.mem_of_getElem? (i := 10) rfl)) (hw _ (List.mem_of_getElem? (i := 7) rfl)) (hw _ (List.mem_of_getElem? (i := 11) rfl)) (by decide) (rm_unt l Z a0 hw ar (3 : Int32) (1 : Int32) sv _ n0 H_1039.z0 [(((p0).toInt32 - (0 : Int32)) - (1 : Int32)), sv, sv, sv] C4 3 (by simp) rfl (fun _ => rfl)) (r := (some .boolean)) (ps := [(.array .int), .int, .int, .int]) (by decide) rfl rfl 0 rfl (by decide) (by decide) (by decide) (by decide) rfl (fun T_1046 v_1048 h_1047 H_1045 z_1049 q_1050 => ?_)
        obtain ⟨rfl, rfl⟩ := q_1050
        show OEnds _ _ _ _ _ _ _ _ _ (mkF _ 536 #[.val (.long p0), .second, .val (.long p1), .second, .val (.long p2), .second, .val (.long p3), .second, .val (.int p4), .val (.int sv), .val (.int (0 : Int32)), .val (.int (1 : Int32)), .val (.int (2 : Int32)), .val (.int (1 : Int32)), .val (.ref af), .val (.ref al), .val (.ref ae), .val (.ref ac), .val (.ref ar), .val (.ref as_), .val (.int (1 : Int32))] [(.int (1 : Int32))])
        refine Own.if_eq H_1045 (pc := 536) 543 at_536 (by decide) (by decide) (fun hc => absurd hc (by decide)) (fun _ => ?_)
        refine Own.iconst H_1045 (pc := 539) (1) at_539 rfl ?_
        refine Own.goto H_1045 (pc := 540) 544 at_540 (by decide) (by decide) ?_
        refine Own.istore H_1045 (pc := 544) #[.val (.long p0), .second, .val (.long p1), .second, .val (.long p2), .second, .val (.long p3), .second, .val (.int p4), .val (.int sv), .val (.int (0 : Int32)), .val (.int (1 : Int32)), .val (.int (2 : Int32)), .val (.int (1 : Int32)), .val (.ref af), .val (.ref al), .val (.ref ae), .val (.ref ac), .val (.ref ar), .val (.ref as_), .val (.int (1 : Int32))] at_544 rfl ?_
        refine Own.iload H_1045 (pc := 546) at_546 rfl ?_
        refine Own.if_eq H_1045 (pc := 548) 594 at_548 (by decide) (by decide) (fun hc => absurd hc (by decide)) (fun _ => ?_)
        refine Own.aload H_1045 (pc := 551) at_551 rfl rfl ?_
        refine Own.iconst H_1045 (pc := 553) (1) at_553 rfl ?_
        refine Own.iload H_1045 (pc := 554) at_554 rfl ?_
        refine Own.iload H_1045 (pc := 556) at_556 rfl ?_
        refine Own.callS H_1045 (pc := 558) (y := (⟨"termstone/postings/ImpactsLayPinLaw", "untouched", "([IIII)Z"⟩ : MethodName)) [(.ref as_), (.int (1 : Int32)), (.int (1 : Int32)), (.int sv)] [] at_558 (hw _ (List.mem_of_getElem? (i := 9) rfl)) (hw _ (List.mem_of_getElem? (i := 10) rfl)) (hw _ (List.mem_of_getElem? (i := 7) rfl)) (hw _ (List.mem_of_getElem? (i := 11) rfl)) (by decide) (rm_unt l Z a0 hw as_ (1 : Int32) (1 : Int32) sv _ n0 H_1045.z0 [(((p2).toInt32 - (-1 : Int32)) - (1 : Int32)), sv, sv, sv] C5 1 (by simp) rfl (fun _ => rfl)) (r := (some .boolean)) (ps := [(.array .int), .int, .int, .int]) (by decide) rfl rfl 0 rfl (by decide) (by decide) (by decide) (by decide) rfl (fun T_1052 v_1054 h_1053 H_1051 z_1055 q_1056 => ?_)
        obtain ⟨rfl, rfl⟩ := q_1056
        show OEnds _ _ _ _ _ _ _ _ _ (mkF _ 561 #[.val (.long p0), .second, .val (.long p1), .second, .val (.long p2), .second, .val (.long p3), .second, .val (.int p4), .val (.int sv), .val (.int (0 : Int32)), .val (.int (1 : Int32)), .val (.int (2 : Int32)), .val (.int (1 : Int32)), .val (.ref af), .val (.ref al), .val (.ref ae), .val (.ref ac), .val (.ref ar), .val (.ref as_), .val (.int (1 : Int32))] [(.int (1 : Int32))])
        refine Own.if_eq H_1051 (pc := 561) 594 at_561 (by decide) (by decide) (fun hc => absurd hc (by decide)) (fun _ => ?_)
        refine Own.aload H_1051 (pc := 564) at_564 rfl rfl ?_
        refine Own.iconst H_1051 (pc := 566) (2) at_566 rfl ?_
        refine Own.iload H_1051 (pc := 567) at_567 rfl ?_
        refine Own.iload H_1051 (pc := 569) at_569 rfl ?_
        refine Own.callS H_1051 (pc := 571) (y := (⟨"termstone/postings/ImpactsLayPinLaw", "untouched", "([IIII)Z"⟩ : MethodName)) [(.ref as_), (.int (2 : Int32)), (.int (1 : Int32)), (.int sv)] [] at_571 (hw _ (List.mem_of_getElem? (i := 9) rfl)) (hw _ (List.mem_of_getElem? (i := 10) rfl)) (hw _ (List.mem_of_getElem? (i := 7) rfl)) (hw _ (List.mem_of_getElem? (i := 11) rfl)) (by decide) (rm_unt l Z a0 hw as_ (2 : Int32) (1 : Int32) sv _ n0 H_1051.z0 [(((p2).toInt32 - (-1 : Int32)) - (1 : Int32)), sv, sv, sv] C5 2 (by simp) rfl (fun _ => rfl)) (r := (some .boolean)) (ps := [(.array .int), .int, .int, .int]) (by decide) rfl rfl 0 rfl (by decide) (by decide) (by decide) (by decide) rfl (fun T_1058 v_1060 h_1059 H_1057 z_1061 q_1062 => ?_)
        obtain ⟨rfl, rfl⟩ := q_1062
        show OEnds _ _ _ _ _ _ _ _ _ (mkF _ 574 #[.val (.long p0), .second, .val (.long p1), .second, .val (.long p2), .second, .val (.long p3), .second, .val (.int p4), .val (.int sv), .val (.int (0 : Int32)), .val (.int (1 : Int32)), .val (.int (2 : Int32)), .val (.int (1 : Int32)), .val (.ref af), .val (.ref al), .val (.ref ae), .val (.ref ac), .val (.ref ar), .val (.ref as_), .val (.int (1 : Int32))] [(.int (1 : Int32))])
        refine Own.if_eq H_1057 (pc := 574) 594 at_574 (by decide) (by decide) (fun hc => absurd hc (by decide)) (fun _ => ?_)
        refine Own.aload H_1057 (pc := 577) at_577 rfl rfl ?_
        refine Own.iconst H_1057 (pc := 579) (3) at_579 rfl ?_
        refine Own.iload H_1057 (pc := 580) at_580 rfl ?_
        refine Own.iload H_1057 (pc := 582) at_582 rfl ?_
        refine Own.callS H_1057 (pc := 584) (y := (⟨"termstone/postings/ImpactsLayPinLaw", "untouched", "([IIII)Z"⟩ : MethodName)) [(.ref as_), (.int (3 : Int32)), (.int (1 : Int32)), (.int sv)] [] at_584 (hw _ (List.mem_of_getElem? (i := 9) rfl)) (hw _ (List.mem_of_getElem? (i := 10) rfl)) (hw _ (List.mem_of_getElem? (i := 7) rfl)) (hw _ (List.mem_of_getElem? (i := 11) rfl)) (by decide) (rm_unt l Z a0 hw as_ (3 : Int32) (1 : Int32) sv _ n0 H_1057.z0 [(((p2).toInt32 - (-1 : Int32)) - (1 : Int32)), sv, sv, sv] C5 3 (by simp) rfl (fun _ => rfl)) (r := (some .boolean)) (ps := [(.array .int), .int, .int, .int]) (by decide) rfl rfl 0 rfl (by decide) (by decide) (by decide) (by decide) rfl (fun T_1064 v_1066 h_1065 H_1063 z_1067 q_1068 => ?_)
        obtain ⟨rfl, rfl⟩ := q_1068
        show OEnds _ _ _ _ _ _ _ _ _ (mkF _ 587 #[.val (.long p0), .second, .val (.long p1), .second, .val (.long p2), .second, .val (.long p3), .second, .val (.int p4), .val (.int sv), .val (.int (0 : Int32)), .val (.int (1 : Int32)), .val (.int (2 : Int32)), .val (.int (1 : Int32)), .val (.ref af), .val (.ref al), .val (.ref ae), .val (.ref ac), .val (.ref ar), .val (.ref as_), .val (.int (1 : Int32))] [(.int (1 : Int32))])
        refine Own.if_eq H_1063 (pc := 587) 594 at_587 (by decide) (by decide) (fun hc => absurd hc (by decide)) (fun _ => ?_)
        refine Own.iconst H_1063 (pc := 590) (1) at_590 rfl ?_
        refine Own.goto H_1063 (pc := 591) 595 at_591 (by decide) (by decide) ?_
        refine Own.istore H_1063 (pc := 595) #[.val (.long p0), .second, .val (.long p1), .second, .val (.long p2), .second, .val (.long p3), .second, .val (.int p4), .val (.int sv), .val (.int (0 : Int32)), .val (.int (1 : Int32)), .val (.int (2 : Int32)), .val (.int (1 : Int32)), .val (.ref af), .val (.ref al), .val (.ref ae), .val (.ref ac), .val (.ref ar), .val (.ref as_), .val (.int (1 : Int32))] at_595 rfl ?_
        refine Own.iload H_1063 (pc := 597) at_597 rfl ?_
        exact Own.ret_nar H_1063 (pc := 599) (1) at_599 rfl (by simp) (by decide) (by decide) (by decide) (rfl)
    · refine Own.iadd_c H (pc := 13) (2) at_13 (by decide) ?_
      refine Own.istore H (pc := 14) #[.val (.long p0), .second, .val (.long p1), .second, .val (.long p2), .second, .val (.long p3), .second, .val (.int p4), .val (.int sv), .val (.int (0 : Int32)), .val (.int (2 : Int32)), .unset, .unset, .unset, .unset, .unset, .unset, .unset, .unset, .unset] at_14 rfl ?_
      refine Own.iconst H (pc := 16) (1) at_16 rfl ?_
      refine Own.iload H (pc := 17) at_17 rfl ?_
      refine Own.iconst H (pc := 19) (2) at_19 rfl ?_
      refine Own.iushr H (pc := 20) at_20 ?_
      refine Own.iconst H (pc := 21) (1) at_21 rfl ?_
      refine Own.iand H (pc := 22) at_22 ?_
      generalize eb2 : ((XT.ushr p4 (2 : Int32)) &&& (1 : Int32)) = b2
      have hb2 : b2 = 0 ∨ b2 = 1 := by rw [← eb2]; exact and_one _
      clear eb2
      rcases hb2 with rfl | rfl
      · refine Own.iadd_c H (pc := 23) (1) at_23 (by decide) ?_
        refine Own.istore H (pc := 24) #[.val (.long p0), .second, .val (.long p1), .second, .val (.long p2), .second, .val (.long p3), .second, .val (.int p4), .val (.int sv), .val (.int (0 : Int32)), .val (.int (2 : Int32)), .val (.int (1 : Int32)), .unset, .unset, .unset, .unset, .unset, .unset, .unset, .unset] at_24 rfl ?_
        refine Own.iload H (pc := 26) at_26 rfl ?_
        refine Own.iconst H (pc := 28) (1) at_28 rfl ?_
        refine Own.icmp_ne H (pc := 29) 40 at_29 (by decide) (by decide) (fun _ => ?_) (fun hc => absurd hc (by decide))
        refine Own.iload H (pc := 40) at_40 rfl ?_
        refine Own.istore H (pc := 42) #[.val (.long p0), .second, .val (.long p1), .second, .val (.long p2), .second, .val (.long p3), .second, .val (.int p4), .val (.int sv), .val (.int (0 : Int32)), .val (.int (2 : Int32)), .val (.int (1 : Int32)), .val (.int (2 : Int32)), .unset, .unset, .unset, .unset, .unset, .unset, .unset] at_42 rfl ?_
        refine Own.iconst H (pc := 44) (4) at_44 rfl ?_
        refine Own.newarray H (pc := 45) (i := 4) 4 at_45 (hw _ (List.mem_of_getElem? (i := 0) rfl)) rfl (by decide) (by decide) (by decide) (by decide) (by decide) (fun T_1070 h_1071 af eq_af ge_af H_1069 Ext_af Ary_af => ?_)
        have A_1072 : OAry Z h_1071 af .int [(.int (0 : Int32)), (.int (0 : Int32)), (.int (0 : Int32)), (.int (0 : Int32))] := Ary_af
        refine Own.astore H_1069 (pc := 47) #[.val (.long p0), .second, .val (.long p1), .second, .val (.long p2), .second, .val (.long p3), .second, .val (.int p4), .val (.int sv), .val (.int (0 : Int32)), .val (.int (2 : Int32)), .val (.int (1 : Int32)), .val (.int (2 : Int32)), .val (.ref af), .unset, .unset, .unset, .unset, .unset, .unset] at_47 rfl rfl ?_
        refine Own.aload H_1069 (pc := 49) at_49 rfl rfl ?_
        refine Own.iconst H_1069 (pc := 51) (0) at_51 rfl ?_
        refine Own.lload_n H_1069 (pc := 52) at_52 rfl ?_
        refine Own.l2i H_1069 (pc := 53) at_53 ?_
        refine Own.iastore H_1069 (pc := 54) 0 at_54 A_1072 ge_af rfl (by simp) (fun T_1074 h_1075 H_1073 W_1076 A_1077 => ?_)
        have A_1078 : OAry Z h_1075 af .int [(.int (p0).toInt32), (.int (0 : Int32)), (.int (0 : Int32)), (.int (0 : Int32))] := A_1077
        refine Own.aload H_1073 (pc := 55) at_55 rfl rfl ?_
        refine Own.iconst H_1073 (pc := 57) (1) at_57 rfl ?_
        refine Own.lload_n H_1073 (pc := 58) at_58 rfl ?_
        refine Own.bipush H_1073 (pc := 59) (32) at_59 rfl ?_
        refine Own.lushr H_1073 (pc := 61) at_61 ?_
        refine Own.l2i H_1073 (pc := 62) at_62 ?_
        refine Own.iastore H_1073 (pc := 63) 1 at_63 A_1078 ge_af rfl (by simp) (fun T_1080 h_1081 H_1079 W_1082 A_1083 => ?_)
        have A_1084 : OAry Z h_1081 af .int [(.int (p0).toInt32), (.int ((XT.ushrL p0 (32 : Int32))).toInt32), (.int (0 : Int32)), (.int (0 : Int32))] := A_1083
        refine Own.aload H_1079 (pc := 64) at_64 rfl rfl ?_
        refine Own.iconst H_1079 (pc := 66) (2) at_66 rfl ?_
        refine Own.lload_n H_1079 (pc := 67) at_67 rfl ?_
        refine Own.l2i H_1079 (pc := 68) at_68 ?_
        refine Own.iastore H_1079 (pc := 69) 2 at_69 A_1084 ge_af rfl (by simp) (fun T_1086 h_1087 H_1085 W_1088 A_1089 => ?_)
        have A_1090 : OAry Z h_1087 af .int [(.int (p0).toInt32), (.int ((XT.ushrL p0 (32 : Int32))).toInt32), (.int (p1).toInt32), (.int (0 : Int32))] := A_1089
        refine Own.aload H_1085 (pc := 70) at_70 rfl rfl ?_
        refine Own.iconst H_1085 (pc := 72) (3) at_72 rfl ?_
        refine Own.lload_n H_1085 (pc := 73) at_73 rfl ?_
        refine Own.bipush H_1085 (pc := 74) (32) at_74 rfl ?_
        refine Own.lushr H_1085 (pc := 76) at_76 ?_
        refine Own.l2i H_1085 (pc := 77) at_77 ?_
        refine Own.iastore H_1085 (pc := 78) 3 at_78 A_1090 ge_af rfl (by simp) (fun T_1092 h_1093 H_1091 W_1094 A_1095 => ?_)
        have A_1096 : OAry Z h_1093 af .int [(.int (p0).toInt32), (.int ((XT.ushrL p0 (32 : Int32))).toInt32), (.int (p1).toInt32), (.int ((XT.ushrL p1 (32 : Int32))).toInt32)] := A_1095
        refine Own.iconst H_1091 (pc := 79) (4) at_79 rfl ?_
        refine Own.newarray H_1091 (pc := 80) (i := 4) 4 at_80 (hw _ (List.mem_of_getElem? (i := 0) rfl)) rfl (by decide) (by decide) (by decide) (by decide) (by decide) (fun T_1098 h_1099 al eq_al ge_al H_1097 Ext_al Ary_al => ?_)
        have lt_af_al : af < al := by have := A_1096.lt; omega
        have A_1100 := A_1096.ext Ext_al
        have A_1101 : OAry Z h_1099 al .int [(.int (0 : Int32)), (.int (0 : Int32)), (.int (0 : Int32)), (.int (0 : Int32))] := Ary_al
        refine Own.astore H_1097 (pc := 82) #[.val (.long p0), .second, .val (.long p1), .second, .val (.long p2), .second, .val (.long p3), .second, .val (.int p4), .val (.int sv), .val (.int (0 : Int32)), .val (.int (2 : Int32)), .val (.int (1 : Int32)), .val (.int (2 : Int32)), .val (.ref af), .val (.ref al), .unset, .unset, .unset, .unset, .unset] at_82 rfl rfl ?_
        refine Own.aload H_1097 (pc := 84) at_84 rfl rfl ?_
        refine Own.iconst H_1097 (pc := 86) (0) at_86 rfl ?_
        refine Own.lload H_1097 (pc := 87) at_87 rfl ?_
        refine Own.l2i H_1097 (pc := 89) at_89 ?_
        refine Own.iastore H_1097 (pc := 90) 0 at_90 A_1101 ge_al rfl (by simp) (fun T_1103 h_1104 H_1102 W_1105 A_1106 => ?_)
        have A_1107 := A_1100.other W_1105 (by omega)
        have A_1108 : OAry Z h_1104 al .int [(.int (p2).toInt32), (.int (0 : Int32)), (.int (0 : Int32)), (.int (0 : Int32))] := A_1106
        refine Own.aload H_1102 (pc := 91) at_91 rfl rfl ?_
        refine Own.iconst H_1102 (pc := 93) (1) at_93 rfl ?_
        refine Own.lload H_1102 (pc := 94) at_94 rfl ?_
        refine Own.bipush H_1102 (pc := 96) (32) at_96 rfl ?_
        refine Own.lushr H_1102 (pc := 98) at_98 ?_
        refine Own.l2i H_1102 (pc := 99) at_99 ?_
        refine Own.iastore H_1102 (pc := 100) 1 at_100 A_1108 ge_al rfl (by simp) (fun T_1110 h_1111 H_1109 W_1112 A_1113 => ?_)
        have A_1114 := A_1107.other W_1112 (by omega)
        have A_1115 : OAry Z h_1111 al .int [(.int (p2).toInt32), (.int ((XT.ushrL p2 (32 : Int32))).toInt32), (.int (0 : Int32)), (.int (0 : Int32))] := A_1113
        refine Own.aload H_1109 (pc := 101) at_101 rfl rfl ?_
        refine Own.iconst H_1109 (pc := 103) (2) at_103 rfl ?_
        refine Own.lload H_1109 (pc := 104) at_104 rfl ?_
        refine Own.l2i H_1109 (pc := 106) at_106 ?_
        refine Own.iastore H_1109 (pc := 107) 2 at_107 A_1115 ge_al rfl (by simp) (fun T_1117 h_1118 H_1116 W_1119 A_1120 => ?_)
        have A_1121 := A_1114.other W_1119 (by omega)
        have A_1122 : OAry Z h_1118 al .int [(.int (p2).toInt32), (.int ((XT.ushrL p2 (32 : Int32))).toInt32), (.int (p3).toInt32), (.int (0 : Int32))] := A_1120
        refine Own.aload H_1116 (pc := 108) at_108 rfl rfl ?_
        refine Own.iconst H_1116 (pc := 110) (3) at_110 rfl ?_
        refine Own.lload H_1116 (pc := 111) at_111 rfl ?_
        refine Own.bipush H_1116 (pc := 113) (32) at_113 rfl ?_
        refine Own.lushr H_1116 (pc := 115) at_115 ?_
        refine Own.l2i H_1116 (pc := 116) at_116 ?_
        refine Own.iastore H_1116 (pc := 117) 3 at_117 A_1122 ge_al rfl (by simp) (fun T_1124 h_1125 H_1123 W_1126 A_1127 => ?_)
        have A_1128 := A_1121.other W_1126 (by omega)
        have A_1129 : OAry Z h_1125 al .int [(.int (p2).toInt32), (.int ((XT.ushrL p2 (32 : Int32))).toInt32), (.int (p3).toInt32), (.int ((XT.ushrL p3 (32 : Int32))).toInt32)] := A_1127
        refine Own.iconst H_1123 (pc := 118) (2) at_118 rfl ?_
        refine Own.newarray H_1123 (pc := 119) (i := 2) 2 at_119 (hw _ (List.mem_of_getElem? (i := 0) rfl)) rfl (by decide) (by decide) (by decide) (by decide) (by decide) (fun T_1131 h_1132 ae eq_ae ge_ae H_1130 Ext_ae Ary_ae => ?_)
        have lt_af_ae : af < ae := by have := A_1128.lt; omega
        have A_1133 := A_1128.ext Ext_ae
        have lt_al_ae : al < ae := by have := A_1129.lt; omega
        have A_1134 := A_1129.ext Ext_ae
        have A_1135 : OAry Z h_1132 ae .int [(.int (0 : Int32)), (.int (0 : Int32))] := Ary_ae
        refine Own.astore H_1130 (pc := 121) #[.val (.long p0), .second, .val (.long p1), .second, .val (.long p2), .second, .val (.long p3), .second, .val (.int p4), .val (.int sv), .val (.int (0 : Int32)), .val (.int (2 : Int32)), .val (.int (1 : Int32)), .val (.int (2 : Int32)), .val (.ref af), .val (.ref al), .val (.ref ae), .unset, .unset, .unset, .unset] at_121 rfl rfl ?_
        refine Own.aload H_1130 (pc := 123) at_123 rfl rfl ?_
        refine Own.iconst H_1130 (pc := 125) (0) at_125 rfl ?_
        refine Own.iload H_1130 (pc := 126) at_126 rfl ?_
        refine Own.iastore H_1130 (pc := 128) 0 at_128 A_1135 ge_ae rfl (by simp) (fun T_1137 h_1138 H_1136 W_1139 A_1140 => ?_)
        have A_1141 := A_1133.other W_1139 (by omega)
        have A_1142 := A_1134.other W_1139 (by omega)
        have A_1143 : OAry Z h_1138 ae .int [(.int (2 : Int32)), (.int (0 : Int32))] := A_1140
        refine Own.aload H_1136 (pc := 129) at_129 rfl rfl ?_
        refine Own.iconst H_1136 (pc := 131) (1) at_131 rfl ?_
        refine Own.iload H_1136 (pc := 132) at_132 rfl ?_
        refine Own.iload H_1136 (pc := 134) at_134 rfl ?_
        refine Own.iadd_c H_1136 (pc := 136) (3) at_136 (by decide) ?_
        refine Own.iastore H_1136 (pc := 137) 1 at_137 A_1143 ge_ae rfl (by simp) (fun T_1145 h_1146 H_1144 W_1147 A_1148 => ?_)
        have A_1149 := A_1141.other W_1147 (by omega)
        have A_1150 := A_1142.other W_1147 (by omega)
        have A_1151 : OAry Z h_1146 ae .int [(.int (2 : Int32)), (.int (3 : Int32))] := A_1148
        refine Own.iconst H_1144 (pc := 138) (3) at_138 rfl ?_
        refine Own.newarray H_1144 (pc := 139) (i := 3) 3 at_139 (hw _ (List.mem_of_getElem? (i := 0) rfl)) rfl (by decide) (by decide) (by decide) (by decide) (by decide) (fun T_1153 h_1154 ac eq_ac ge_ac H_1152 Ext_ac Ary_ac => ?_)
        have lt_af_ac : af < ac := by have := A_1149.lt; omega
        have A_1155 := A_1149.ext Ext_ac
        have lt_al_ac : al < ac := by have := A_1150.lt; omega
        have A_1156 := A_1150.ext Ext_ac
        have lt_ae_ac : ae < ac := by have := A_1151.lt; omega
        have A_1157 := A_1151.ext Ext_ac
        have A_1158 : OAry Z h_1154 ac .int [(.int (0 : Int32)), (.int (0 : Int32)), (.int (0 : Int32))] := Ary_ac
        refine Own.astore H_1152 (pc := 141) #[.val (.long p0), .second, .val (.long p1), .second, .val (.long p2), .second, .val (.long p3), .second, .val (.int p4), .val (.int sv), .val (.int (0 : Int32)), .val (.int (2 : Int32)), .val (.int (1 : Int32)), .val (.int (2 : Int32)), .val (.ref af), .val (.ref al), .val (.ref ae), .val (.ref ac), .unset, .unset, .unset] at_141 rfl rfl ?_
        refine Own.aload H_1152 (pc := 143) at_143 rfl rfl ?_
        refine Own.iconst H_1152 (pc := 145) (0) at_145 rfl ?_
        refine Own.iload H_1152 (pc := 146) at_146 rfl ?_
        refine Own.iastore H_1152 (pc := 148) 0 at_148 A_1158 ge_ac rfl (by simp) (fun T_1160 h_1161 H_1159 W_1162 A_1163 => ?_)
        have A_1164 := A_1155.other W_1162 (by omega)
        have A_1165 := A_1156.other W_1162 (by omega)
        have A_1166 := A_1157.other W_1162 (by omega)
        have A_1167 : OAry Z h_1161 ac .int [(.int sv), (.int (0 : Int32)), (.int (0 : Int32))] := A_1163
        refine Own.aload H_1159 (pc := 149) at_149 rfl rfl ?_
        refine Own.iconst H_1159 (pc := 151) (1) at_151 rfl ?_
        refine Own.iload H_1159 (pc := 152) at_152 rfl ?_
        refine Own.iastore H_1159 (pc := 154) 1 at_154 A_1167 ge_ac rfl (by simp) (fun T_1169 h_1170 H_1168 W_1171 A_1172 => ?_)
        have A_1173 := A_1164.other W_1171 (by omega)
        have A_1174 := A_1165.other W_1171 (by omega)
        have A_1175 := A_1166.other W_1171 (by omega)
        have A_1176 : OAry Z h_1170 ac .int [(.int sv), (.int sv), (.int (0 : Int32))] := A_1172
        refine Own.aload H_1168 (pc := 155) at_155 rfl rfl ?_
        refine Own.iconst H_1168 (pc := 157) (2) at_157 rfl ?_
        refine Own.iload H_1168 (pc := 158) at_158 rfl ?_
        refine Own.iastore H_1168 (pc := 160) 2 at_160 A_1176 ge_ac rfl (by simp) (fun T_1178 h_1179 H_1177 W_1180 A_1181 => ?_)
        have A_1182 := A_1173.other W_1180 (by omega)
        have A_1183 := A_1174.other W_1180 (by omega)
        have A_1184 := A_1175.other W_1180 (by omega)
        have A_1185 : OAry Z h_1179 ac .int [(.int sv), (.int sv), (.int sv)] := A_1181
        refine Own.iconst H_1177 (pc := 161) (4) at_161 rfl ?_
        refine Own.newarray H_1177 (pc := 162) (i := 4) 4 at_162 (hw _ (List.mem_of_getElem? (i := 0) rfl)) rfl (by decide) (by decide) (by decide) (by decide) (by decide) (fun T_1187 h_1188 ar eq_ar ge_ar H_1186 Ext_ar Ary_ar => ?_)
        have lt_af_ar : af < ar := by have := A_1182.lt; omega
        have A_1189 := A_1182.ext Ext_ar
        have lt_al_ar : al < ar := by have := A_1183.lt; omega
        have A_1190 := A_1183.ext Ext_ar
        have lt_ae_ar : ae < ar := by have := A_1184.lt; omega
        have A_1191 := A_1184.ext Ext_ar
        have lt_ac_ar : ac < ar := by have := A_1185.lt; omega
        have A_1192 := A_1185.ext Ext_ar
        have A_1193 : OAry Z h_1188 ar .int [(.int (0 : Int32)), (.int (0 : Int32)), (.int (0 : Int32)), (.int (0 : Int32))] := Ary_ar
        refine Own.astore H_1186 (pc := 164) #[.val (.long p0), .second, .val (.long p1), .second, .val (.long p2), .second, .val (.long p3), .second, .val (.int p4), .val (.int sv), .val (.int (0 : Int32)), .val (.int (2 : Int32)), .val (.int (1 : Int32)), .val (.int (2 : Int32)), .val (.ref af), .val (.ref al), .val (.ref ae), .val (.ref ac), .val (.ref ar), .unset, .unset] at_164 rfl rfl ?_
        refine Own.iconst H_1186 (pc := 166) (4) at_166 rfl ?_
        refine Own.newarray H_1186 (pc := 167) (i := 4) 4 at_167 (hw _ (List.mem_of_getElem? (i := 0) rfl)) rfl (by decide) (by decide) (by decide) (by decide) (by decide) (fun T_1195 h_1196 as_ eq_as_ ge_as_ H_1194 Ext_as_ Ary_as_ => ?_)
        have lt_af_as_ : af < as_ := by have := A_1189.lt; omega
        have A_1197 := A_1189.ext Ext_as_
        have lt_al_as_ : al < as_ := by have := A_1190.lt; omega
        have A_1198 := A_1190.ext Ext_as_
        have lt_ae_as_ : ae < as_ := by have := A_1191.lt; omega
        have A_1199 := A_1191.ext Ext_as_
        have lt_ac_as_ : ac < as_ := by have := A_1192.lt; omega
        have A_1200 := A_1192.ext Ext_as_
        have lt_ar_as_ : ar < as_ := by have := A_1193.lt; omega
        have A_1201 := A_1193.ext Ext_as_
        have A_1202 : OAry Z h_1196 as_ .int [(.int (0 : Int32)), (.int (0 : Int32)), (.int (0 : Int32)), (.int (0 : Int32))] := Ary_as_
        refine Own.astore H_1194 (pc := 169) #[.val (.long p0), .second, .val (.long p1), .second, .val (.long p2), .second, .val (.long p3), .second, .val (.int p4), .val (.int sv), .val (.int (0 : Int32)), .val (.int (2 : Int32)), .val (.int (1 : Int32)), .val (.int (2 : Int32)), .val (.ref af), .val (.ref al), .val (.ref ae), .val (.ref ac), .val (.ref ar), .val (.ref as_), .unset] at_169 rfl rfl ?_
        refine Own.aload H_1194 (pc := 171) at_171 rfl rfl ?_
        refine Own.iconst H_1194 (pc := 173) (0) at_173 rfl ?_
        refine Own.iload H_1194 (pc := 174) at_174 rfl ?_
        refine Own.iastore H_1194 (pc := 176) 0 at_176 A_1201 ge_ar rfl (by simp) (fun T_1204 h_1205 H_1203 W_1206 A_1207 => ?_)
        have A_1208 := A_1197.other W_1206 (by omega)
        have A_1209 := A_1198.other W_1206 (by omega)
        have A_1210 := A_1199.other W_1206 (by omega)
        have A_1211 := A_1200.other W_1206 (by omega)
        have A_1212 : OAry Z h_1205 ar .int [(.int sv), (.int (0 : Int32)), (.int (0 : Int32)), (.int (0 : Int32))] := A_1207
        have A_1213 := A_1202.other W_1206 (by omega)
        refine Own.aload H_1203 (pc := 177) at_177 rfl rfl ?_
        refine Own.iconst H_1203 (pc := 179) (1) at_179 rfl ?_
        refine Own.iload H_1203 (pc := 180) at_180 rfl ?_
        refine Own.iastore H_1203 (pc := 182) 1 at_182 A_1212 ge_ar rfl (by simp) (fun T_1215 h_1216 H_1214 W_1217 A_1218 => ?_)
        have A_1219 := A_1208.other W_1217 (by omega)
        have A_1220 := A_1209.other W_1217 (by omega)
        have A_1221 := A_1210.other W_1217 (by omega)
        have A_1222 := A_1211.other W_1217 (by omega)
        have A_1223 : OAry Z h_1216 ar .int [(.int sv), (.int sv), (.int (0 : Int32)), (.int (0 : Int32))] := A_1218
        have A_1224 := A_1213.other W_1217 (by omega)
        refine Own.aload H_1214 (pc := 183) at_183 rfl rfl ?_
        refine Own.iconst H_1214 (pc := 185) (2) at_185 rfl ?_
        refine Own.iload H_1214 (pc := 186) at_186 rfl ?_
        refine Own.iastore H_1214 (pc := 188) 2 at_188 A_1223 ge_ar rfl (by simp) (fun T_1226 h_1227 H_1225 W_1228 A_1229 => ?_)
        have A_1230 := A_1219.other W_1228 (by omega)
        have A_1231 := A_1220.other W_1228 (by omega)
        have A_1232 := A_1221.other W_1228 (by omega)
        have A_1233 := A_1222.other W_1228 (by omega)
        have A_1234 : OAry Z h_1227 ar .int [(.int sv), (.int sv), (.int sv), (.int (0 : Int32))] := A_1229
        have A_1235 := A_1224.other W_1228 (by omega)
        refine Own.aload H_1225 (pc := 189) at_189 rfl rfl ?_
        refine Own.iconst H_1225 (pc := 191) (3) at_191 rfl ?_
        refine Own.iload H_1225 (pc := 192) at_192 rfl ?_
        refine Own.iastore H_1225 (pc := 194) 3 at_194 A_1234 ge_ar rfl (by simp) (fun T_1237 h_1238 H_1236 W_1239 A_1240 => ?_)
        have A_1241 := A_1230.other W_1239 (by omega)
        have A_1242 := A_1231.other W_1239 (by omega)
        have A_1243 := A_1232.other W_1239 (by omega)
        have A_1244 := A_1233.other W_1239 (by omega)
        have A_1245 : OAry Z h_1238 ar .int [(.int sv), (.int sv), (.int sv), (.int sv)] := A_1240
        have A_1246 := A_1235.other W_1239 (by omega)
        refine Own.aload H_1236 (pc := 195) at_195 rfl rfl ?_
        refine Own.iconst H_1236 (pc := 197) (0) at_197 rfl ?_
        refine Own.iload H_1236 (pc := 198) at_198 rfl ?_
        refine Own.iastore H_1236 (pc := 200) 0 at_200 A_1246 ge_as_ rfl (by simp) (fun T_1248 h_1249 H_1247 W_1250 A_1251 => ?_)
        have A_1252 := A_1241.other W_1250 (by omega)
        have A_1253 := A_1242.other W_1250 (by omega)
        have A_1254 := A_1243.other W_1250 (by omega)
        have A_1255 := A_1244.other W_1250 (by omega)
        have A_1256 := A_1245.other W_1250 (by omega)
        have A_1257 : OAry Z h_1249 as_ .int [(.int sv), (.int (0 : Int32)), (.int (0 : Int32)), (.int (0 : Int32))] := A_1251
        refine Own.aload H_1247 (pc := 201) at_201 rfl rfl ?_
        refine Own.iconst H_1247 (pc := 203) (1) at_203 rfl ?_
        refine Own.iload H_1247 (pc := 204) at_204 rfl ?_
        refine Own.iastore H_1247 (pc := 206) 1 at_206 A_1257 ge_as_ rfl (by simp) (fun T_1259 h_1260 H_1258 W_1261 A_1262 => ?_)
        have A_1263 := A_1252.other W_1261 (by omega)
        have A_1264 := A_1253.other W_1261 (by omega)
        have A_1265 := A_1254.other W_1261 (by omega)
        have A_1266 := A_1255.other W_1261 (by omega)
        have A_1267 := A_1256.other W_1261 (by omega)
        have A_1268 : OAry Z h_1260 as_ .int [(.int sv), (.int sv), (.int (0 : Int32)), (.int (0 : Int32))] := A_1262
        refine Own.aload H_1258 (pc := 207) at_207 rfl rfl ?_
        refine Own.iconst H_1258 (pc := 209) (2) at_209 rfl ?_
        refine Own.iload H_1258 (pc := 210) at_210 rfl ?_
        refine Own.iastore H_1258 (pc := 212) 2 at_212 A_1268 ge_as_ rfl (by simp) (fun T_1270 h_1271 H_1269 W_1272 A_1273 => ?_)
        have A_1274 := A_1263.other W_1272 (by omega)
        have A_1275 := A_1264.other W_1272 (by omega)
        have A_1276 := A_1265.other W_1272 (by omega)
        have A_1277 := A_1266.other W_1272 (by omega)
        have A_1278 := A_1267.other W_1272 (by omega)
        have A_1279 : OAry Z h_1271 as_ .int [(.int sv), (.int sv), (.int sv), (.int (0 : Int32))] := A_1273
        refine Own.aload H_1269 (pc := 213) at_213 rfl rfl ?_
        refine Own.iconst H_1269 (pc := 215) (3) at_215 rfl ?_
        refine Own.iload H_1269 (pc := 216) at_216 rfl ?_
        refine Own.iastore H_1269 (pc := 218) 3 at_218 A_1279 ge_as_ rfl (by simp) (fun T_1281 h_1282 H_1280 W_1283 A_1284 => ?_)
        have A_1285 := A_1274.other W_1283 (by omega)
        have A_1286 := A_1275.other W_1283 (by omega)
        have A_1287 := A_1276.other W_1283 (by omega)
        have A_1288 := A_1277.other W_1283 (by omega)
        have A_1289 := A_1278.other W_1283 (by omega)
        have A_1290 : OAry Z h_1282 as_ .int [(.int sv), (.int sv), (.int sv), (.int sv)] := A_1284
        refine Own.aload H_1280 (pc := 219) at_219 rfl rfl ?_
        refine Own.aload H_1280 (pc := 221) at_221 rfl rfl ?_
        refine Own.aload H_1280 (pc := 223) at_223 rfl rfl ?_
        refine Own.iload H_1280 (pc := 225) at_225 rfl ?_
        refine Own.aload H_1280 (pc := 227) at_227 rfl rfl ?_
        refine Own.aload H_1280 (pc := 229) at_229 rfl rfl ?_
        refine Own.aload H_1280 (pc := 231) at_231 rfl rfl ?_
        refine Own.callS H_1280 (pc := 233) (y := (⟨"termstone/postings/Impacts", "lay", "([I[I[II[I[I[I)V"⟩ : MethodName)) [(.ref af), (.ref al), (.ref ae), (.int (0 : Int32)), (.ref ac), (.ref ar), (.ref as_)] [] at_233 (hw _ (List.mem_of_getElem? (i := 1) rfl)) (hw _ (List.mem_of_getElem? (i := 2) rfl)) (hw _ (List.mem_of_getElem? (i := 3) rfl)) (hw _ (List.mem_of_getElem? (i := 4) rfl)) (by decide) (rm_lay021 l Z a0 hw af al ae (0 : Int32) ac ar as_ _ n0 H_1280.z0 (p0).toInt32 ((XT.ushrL p0 (32 : Int32))).toInt32 (p1).toInt32 ((XT.ushrL p1 (32 : Int32))).toInt32 (p2).toInt32 ((XT.ushrL p2 (32 : Int32))).toInt32 (p3).toInt32 ((XT.ushrL p3 (32 : Int32))).toInt32 sv A_1285 A_1286 A_1287 A_1288 A_1289 A_1290 lt_af_al lt_al_ae lt_ae_ac lt_ac_ar lt_ar_as_ ge_ac ge_ar ge_as_ rfl) (r := none) (ps := [(.array .int), (.array .int), (.array .int), .int, (.array .int), (.array .int), (.array .int)]) (by decide) rfl rfl 0 rfl (by decide) (by decide) (by decide) (by decide) rfl (fun T_1292 v_1294 h_1293 H_1291 z_1295 q_1296 => ?_)
        obtain ⟨rfl, C0, C1, C2, C3, C4, C5⟩ := q_1296
        show OEnds _ _ _ _ _ _ _ _ _ (mkF _ 236 #[.val (.long p0), .second, .val (.long p1), .second, .val (.long p2), .second, .val (.long p3), .second, .val (.int p4), .val (.int sv), .val (.int (0 : Int32)), .val (.int (2 : Int32)), .val (.int (1 : Int32)), .val (.int (2 : Int32)), .val (.ref af), .val (.ref al), .val (.ref ae), .val (.ref ac), .val (.ref ar), .val (.ref as_), .unset] [])
        refine Own.aload H_1291 (pc := 236) at_236 rfl rfl ?_
        refine Own.iconst H_1291 (pc := 238) (0) at_238 rfl ?_
        refine Own.iaload H_1291 (pc := 239) (v := (p0).toInt32) 0 at_239 C0 rfl rfl ?_
        refine Own.lload_n H_1291 (pc := 240) at_240 rfl ?_
        refine Own.l2i H_1291 (pc := 241) at_241 ?_
        refine Own.icmp_ne H_1291 (pc := 242) 349 at_242 (by decide) (by decide) (fun hX => absurd rfl hX) (fun _ => ?_)
        refine Own.aload H_1291 (pc := 245) at_245 rfl rfl ?_
        refine Own.iconst H_1291 (pc := 247) (1) at_247 rfl ?_
        refine Own.iaload H_1291 (pc := 248) (v := ((XT.ushrL p0 (32 : Int32))).toInt32) 1 at_248 C0 rfl rfl ?_
        refine Own.lload_n H_1291 (pc := 249) at_249 rfl ?_
        refine Own.bipush H_1291 (pc := 250) (32) at_250 rfl ?_
        refine Own.lushr H_1291 (pc := 252) at_252 ?_
        refine Own.l2i H_1291 (pc := 253) at_253 ?_
        refine Own.icmp_ne H_1291 (pc := 254) 349 at_254 (by decide) (by decide) (fun hX => absurd rfl hX) (fun _ => ?_)
        refine Own.aload H_1291 (pc := 257) at_257 rfl rfl ?_
        refine Own.iconst H_1291 (pc := 259) (2) at_259 rfl ?_
        refine Own.iaload H_1291 (pc := 260) (v := (p1).toInt32) 2 at_260 C0 rfl rfl ?_
        refine Own.lload_n H_1291 (pc := 261) at_261 rfl ?_
        refine Own.l2i H_1291 (pc := 262) at_262 ?_
        refine Own.icmp_ne H_1291 (pc := 263) 349 at_263 (by decide) (by decide) (fun hX => absurd rfl hX) (fun _ => ?_)
        refine Own.aload H_1291 (pc := 266) at_266 rfl rfl ?_
        refine Own.iconst H_1291 (pc := 268) (3) at_268 rfl ?_
        refine Own.iaload H_1291 (pc := 269) (v := ((XT.ushrL p1 (32 : Int32))).toInt32) 3 at_269 C0 rfl rfl ?_
        refine Own.lload_n H_1291 (pc := 270) at_270 rfl ?_
        refine Own.bipush H_1291 (pc := 271) (32) at_271 rfl ?_
        refine Own.lushr H_1291 (pc := 273) at_273 ?_
        refine Own.l2i H_1291 (pc := 274) at_274 ?_
        refine Own.icmp_ne H_1291 (pc := 275) 349 at_275 (by decide) (by decide) (fun hX => absurd rfl hX) (fun _ => ?_)
        refine Own.aload H_1291 (pc := 278) at_278 rfl rfl ?_
        refine Own.iconst H_1291 (pc := 280) (0) at_280 rfl ?_
        refine Own.iaload H_1291 (pc := 281) (v := (p2).toInt32) 0 at_281 C1 rfl rfl ?_
        refine Own.lload H_1291 (pc := 282) at_282 rfl ?_
        refine Own.l2i H_1291 (pc := 284) at_284 ?_
        refine Own.icmp_ne H_1291 (pc := 285) 349 at_285 (by decide) (by decide) (fun hX => absurd rfl hX) (fun _ => ?_)
        refine Own.aload H_1291 (pc := 288) at_288 rfl rfl ?_
        refine Own.iconst H_1291 (pc := 290) (1) at_290 rfl ?_
        refine Own.iaload H_1291 (pc := 291) (v := ((XT.ushrL p2 (32 : Int32))).toInt32) 1 at_291 C1 rfl rfl ?_
        refine Own.lload H_1291 (pc := 292) at_292 rfl ?_
        refine Own.bipush H_1291 (pc := 294) (32) at_294 rfl ?_
        refine Own.lushr H_1291 (pc := 296) at_296 ?_
        refine Own.l2i H_1291 (pc := 297) at_297 ?_
        refine Own.icmp_ne H_1291 (pc := 298) 349 at_298 (by decide) (by decide) (fun hX => absurd rfl hX) (fun _ => ?_)
        refine Own.aload H_1291 (pc := 301) at_301 rfl rfl ?_
        refine Own.iconst H_1291 (pc := 303) (2) at_303 rfl ?_
        refine Own.iaload H_1291 (pc := 304) (v := (p3).toInt32) 2 at_304 C1 rfl rfl ?_
        refine Own.lload H_1291 (pc := 305) at_305 rfl ?_
        refine Own.l2i H_1291 (pc := 307) at_307 ?_
        refine Own.icmp_ne H_1291 (pc := 308) 349 at_308 (by decide) (by decide) (fun hX => absurd rfl hX) (fun _ => ?_)
        refine Own.aload H_1291 (pc := 311) at_311 rfl rfl ?_
        refine Own.iconst H_1291 (pc := 313) (3) at_313 rfl ?_
        refine Own.iaload H_1291 (pc := 314) (v := ((XT.ushrL p3 (32 : Int32))).toInt32) 3 at_314 C1 rfl rfl ?_
        refine Own.lload H_1291 (pc := 315) at_315 rfl ?_
        refine Own.bipush H_1291 (pc := 317) (32) at_317 rfl ?_
        refine Own.lushr H_1291 (pc := 319) at_319 ?_
        refine Own.l2i H_1291 (pc := 320) at_320 ?_
        refine Own.icmp_ne H_1291 (pc := 321) 349 at_321 (by decide) (by decide) (fun hX => absurd rfl hX) (fun _ => ?_)
        refine Own.aload H_1291 (pc := 324) at_324 rfl rfl ?_
        refine Own.iconst H_1291 (pc := 326) (0) at_326 rfl ?_
        refine Own.iaload H_1291 (pc := 327) (v := (2 : Int32)) 0 at_327 C2 rfl rfl ?_
        refine Own.iload H_1291 (pc := 328) at_328 rfl ?_
        refine Own.icmp_ne H_1291 (pc := 330) 349 at_330 (by decide) (by decide) (fun hc => absurd hc (by decide)) (fun _ => ?_)
        refine Own.aload H_1291 (pc := 333) at_333 rfl rfl ?_
        refine Own.iconst H_1291 (pc := 335) (1) at_335 rfl ?_
        refine Own.iaload H_1291 (pc := 336) (v := (3 : Int32)) 1 at_336 C2 rfl rfl ?_
        refine Own.iload H_1291 (pc := 337) at_337 rfl ?_
        refine Own.iload H_1291 (pc := 339) at_339 rfl ?_
        refine Own.iadd_c H_1291 (pc := 341) (3) at_341 (by decide) ?_
        refine Own.icmp_ne H_1291 (pc := 342) 349 at_342 (by decide) (by decide) (fun hc => absurd hc (by decide)) (fun _ => ?_)
        refine Own.iconst H_1291 (pc := 345) (1) at_345 rfl ?_
        refine Own.goto H_1291 (pc := 346) 350 at_346 (by decide) (by decide) ?_
        refine Own.istore H_1291 (pc := 350) #[.val (.long p0), .second, .val (.long p1), .second, .val (.long p2), .second, .val (.long p3), .second, .val (.int p4), .val (.int sv), .val (.int (0 : Int32)), .val (.int (2 : Int32)), .val (.int (1 : Int32)), .val (.int (2 : Int32)), .val (.ref af), .val (.ref al), .val (.ref ae), .val (.ref ac), .val (.ref ar), .val (.ref as_), .val (.int (1 : Int32))] at_350 rfl ?_
        refine Own.iload H_1291 (pc := 352) at_352 rfl ?_
        refine Own.if_eq H_1291 (pc := 354) 378 at_354 (by decide) (by decide) (fun hc => absurd hc (by decide)) (fun _ => ?_)
        refine Own.aload H_1291 (pc := 357) at_357 rfl rfl ?_
        refine Own.aload H_1291 (pc := 359) at_359 rfl rfl ?_
        refine Own.aload H_1291 (pc := 361) at_361 rfl rfl ?_
        refine Own.aload H_1291 (pc := 363) at_363 rfl rfl ?_
        refine Own.iconst H_1291 (pc := 365) (0) at_365 rfl ?_
        refine Own.iload H_1291 (pc := 366) at_366 rfl ?_
        refine Own.callS H_1291 (pc := 368) (y := (⟨"termstone/postings/ImpactsLayPinLaw", "segment", "([I[I[I[III)Z"⟩ : MethodName)) [(.ref ar), (.ref as_), (.ref af), (.ref al), (.int (0 : Int32)), (.int (2 : Int32))] [] at_368 (hw _ (List.mem_of_getElem? (i := 5) rfl)) (hw _ (List.mem_of_getElem? (i := 6) rfl)) (hw _ (List.mem_of_getElem? (i := 7) rfl)) (hw _ (List.mem_of_getElem? (i := 8) rfl)) (by decide) (rm_seg l Z a0 hw ar as_ af al (0 : Int32) (2 : Int32) _ n0 H_1291.z0 [(((p0).toInt32 - (0 : Int32)) - (1 : Int32)), ((((XT.ushrL p0 (32 : Int32))).toInt32 - (p0).toInt32) - (1 : Int32)), sv, sv] [(((p2).toInt32 - (-1 : Int32)) - (1 : Int32)), ((((XT.ushrL p2 (32 : Int32))).toInt32 - (p2).toInt32) - (1 : Int32)), sv, sv] [(p0).toInt32, ((XT.ushrL p0 (32 : Int32))).toInt32, (p1).toInt32, ((XT.ushrL p1 (32 : Int32))).toInt32] [(p2).toInt32, ((XT.ushrL p2 (32 : Int32))).toInt32, (p3).toInt32, ((XT.ushrL p3 (32 : Int32))).toInt32] C4 C5 C0 C1 rfl rfl rfl rfl 0 (by decide) rfl (own_a1 _) (own_a2 _) (fun _ => ⟨by decide, own_a3 _ _, own_a3 _ _⟩)) (r := (some .boolean)) (ps := [(.array .int), (.array .int), (.array .int), (.array .int), .int, .int]) (by decide) rfl rfl 0 rfl (by decide) (by decide) (by decide) (by decide) rfl (fun T_1298 v_1300 h_1299 H_1297 z_1301 q_1302 => ?_)
        obtain ⟨rfl, rfl⟩ := q_1302
        show OEnds _ _ _ _ _ _ _ _ _ (mkF _ 371 #[.val (.long p0), .second, .val (.long p1), .second, .val (.long p2), .second, .val (.long p3), .second, .val (.int p4), .val (.int sv), .val (.int (0 : Int32)), .val (.int (2 : Int32)), .val (.int (1 : Int32)), .val (.int (2 : Int32)), .val (.ref af), .val (.ref al), .val (.ref ae), .val (.ref ac), .val (.ref ar), .val (.ref as_), .val (.int (1 : Int32))] [(.int (1 : Int32))])
        refine Own.if_eq H_1297 (pc := 371) 378 at_371 (by decide) (by decide) (fun hc => absurd hc (by decide)) (fun _ => ?_)
        refine Own.iconst H_1297 (pc := 374) (1) at_374 rfl ?_
        refine Own.goto H_1297 (pc := 375) 379 at_375 (by decide) (by decide) ?_
        refine Own.istore H_1297 (pc := 379) #[.val (.long p0), .second, .val (.long p1), .second, .val (.long p2), .second, .val (.long p3), .second, .val (.int p4), .val (.int sv), .val (.int (0 : Int32)), .val (.int (2 : Int32)), .val (.int (1 : Int32)), .val (.int (2 : Int32)), .val (.ref af), .val (.ref al), .val (.ref ae), .val (.ref ac), .val (.ref ar), .val (.ref as_), .val (.int (1 : Int32))] at_379 rfl ?_
        refine Own.iload H_1297 (pc := 381) at_381 rfl ?_
        refine Own.iconst H_1297 (pc := 383) (1) at_383 rfl ?_
        refine Own.icmp_ne H_1297 (pc := 384) 417 at_384 (by decide) (by decide) (fun _ => ?_) (fun hc => absurd hc (by decide))
        refine Own.iload H_1297 (pc := 417) at_417 rfl ?_
        refine Own.if_eq H_1297 (pc := 419) 437 at_419 (by decide) (by decide) (fun hc => absurd hc (by decide)) (fun _ => ?_)
        refine Own.aload H_1297 (pc := 422) at_422 rfl rfl ?_
        refine Own.iconst H_1297 (pc := 424) (0) at_424 rfl ?_
        refine Own.iaload H_1297 (pc := 425) (v := (1 : Int32)) 0 at_425 C3 rfl rfl ?_
        refine Own.iload H_1297 (pc := 426) at_426 rfl ?_
        refine Own.iconst H_1297 (pc := 428) (1) at_428 rfl ?_
        refine Own.isub_c H_1297 (pc := 429) (1) at_429 (by decide) ?_
        refine Own.icmp_ne H_1297 (pc := 430) 437 at_430 (by decide) (by decide) (fun hc => absurd hc (by decide)) (fun _ => ?_)
        refine Own.iconst H_1297 (pc := 433) (1) at_433 rfl ?_
        refine Own.goto H_1297 (pc := 434) 438 at_434 (by decide) (by decide) ?_
        refine Own.istore H_1297 (pc := 438) #[.val (.long p0), .second, .val (.long p1), .second, .val (.long p2), .second, .val (.long p3), .second, .val (.int p4), .val (.int sv), .val (.int (0 : Int32)), .val (.int (2 : Int32)), .val (.int (1 : Int32)), .val (.int (2 : Int32)), .val (.ref af), .val (.ref al), .val (.ref ae), .val (.ref ac), .val (.ref ar), .val (.ref as_), .val (.int (1 : Int32))] at_438 rfl ?_
        refine Own.iload H_1297 (pc := 440) at_440 rfl ?_
        refine Own.if_eq H_1297 (pc := 442) 471 at_442 (by decide) (by decide) (fun hc => absurd hc (by decide)) (fun _ => ?_)
        refine Own.aload H_1297 (pc := 445) at_445 rfl rfl ?_
        refine Own.iconst H_1297 (pc := 447) (1) at_447 rfl ?_
        refine Own.iaload H_1297 (pc := 448) (v := sv) 1 at_448 C3 rfl rfl ?_
        refine Own.iload H_1297 (pc := 449) at_449 rfl ?_
        refine Own.iconst H_1297 (pc := 451) (1) at_451 rfl ?_
        refine Own.icmp_ne H_1297 (pc := 452) 462 at_452 (by decide) (by decide) (fun _ => ?_) (fun hc => absurd hc (by decide))
        refine Own.iload H_1297 (pc := 462) at_462 rfl ?_
        refine Own.icmp_ne H_1297 (pc := 464) 471 at_464 (by decide) (by decide) (fun hX => absurd rfl hX) (fun _ => ?_)
        refine Own.iconst H_1297 (pc := 467) (1) at_467 rfl ?_
        refine Own.goto H_1297 (pc := 468) 472 at_468 (by decide) (by decide) ?_
        refine Own.istore H_1297 (pc := 472) #[.val (.long p0), .second, .val (.long p1), .second, .val (.long p2), .second, .val (.long p3), .second, .val (.int p4), .val (.int sv), .val (.int (0 : Int32)), .val (.int (2 : Int32)), .val (.int (1 : Int32)), .val (.int (2 : Int32)), .val (.ref af), .val (.ref al), .val (.ref ae), .val (.ref ac), .val (.ref ar), .val (.ref as_), .val (.int (1 : Int32))] at_472 rfl ?_
        refine Own.iload H_1297 (pc := 474) at_474 rfl ?_
        refine Own.if_eq H_1297 (pc := 476) 492 at_476 (by decide) (by decide) (fun hc => absurd hc (by decide)) (fun _ => ?_)
        refine Own.aload H_1297 (pc := 479) at_479 rfl rfl ?_
        refine Own.iconst H_1297 (pc := 481) (2) at_481 rfl ?_
        refine Own.iaload H_1297 (pc := 482) (v := sv) 2 at_482 C3 rfl rfl ?_
        refine Own.iload H_1297 (pc := 483) at_483 rfl ?_
        refine Own.icmp_ne H_1297 (pc := 485) 492 at_485 (by decide) (by decide) (fun hX => absurd rfl hX) (fun _ => ?_)
        refine Own.iconst H_1297 (pc := 488) (1) at_488 rfl ?_
        refine Own.goto H_1297 (pc := 489) 493 at_489 (by decide) (by decide) ?_
        refine Own.istore H_1297 (pc := 493) #[.val (.long p0), .second, .val (.long p1), .second, .val (.long p2), .second, .val (.long p3), .second, .val (.int p4), .val (.int sv), .val (.int (0 : Int32)), .val (.int (2 : Int32)), .val (.int (1 : Int32)), .val (.int (2 : Int32)), .val (.ref af), .val (.ref al), .val (.ref ae), .val (.ref ac), .val (.ref ar), .val (.ref as_), .val (.int (1 : Int32))] at_493 rfl ?_
        refine Own.iload H_1297 (pc := 495) at_495 rfl ?_
        refine Own.if_eq H_1297 (pc := 497) 543 at_497 (by decide) (by decide) (fun hc => absurd hc (by decide)) (fun _ => ?_)
        refine Own.aload H_1297 (pc := 500) at_500 rfl rfl ?_
        refine Own.iconst H_1297 (pc := 502) (1) at_502 rfl ?_
        refine Own.iload H_1297 (pc := 503) at_503 rfl ?_
        refine Own.iload H_1297 (pc := 505) at_505 rfl ?_
        refine Own.callS H_1297 (pc := 507) (y := (⟨"termstone/postings/ImpactsLayPinLaw", "untouched", "([IIII)Z"⟩ : MethodName)) [(.ref ar), (.int (1 : Int32)), (.int (2 : Int32)), (.int sv)] [] at_507 (hw _ (List.mem_of_getElem? (i := 9) rfl)) (hw _ (List.mem_of_getElem? (i := 10) rfl)) (hw _ (List.mem_of_getElem? (i := 7) rfl)) (hw _ (List.mem_of_getElem? (i := 11) rfl)) (by decide) (rm_unt l Z a0 hw ar (1 : Int32) (2 : Int32) sv _ n0 H_1297.z0 [(((p0).toInt32 - (0 : Int32)) - (1 : Int32)), ((((XT.ushrL p0 (32 : Int32))).toInt32 - (p0).toInt32) - (1 : Int32)), sv, sv] C4 1 (by simp) rfl (fun q => absurd (by decide) q)) (r := (some .boolean)) (ps := [(.array .int), .int, .int, .int]) (by decide) rfl rfl 0 rfl (by decide) (by decide) (by decide) (by decide) rfl (fun T_1304 v_1306 h_1305 H_1303 z_1307 q_1308 => ?_)
        obtain ⟨rfl, rfl⟩ := q_1308
        show OEnds _ _ _ _ _ _ _ _ _ (mkF _ 510 #[.val (.long p0), .second, .val (.long p1), .second, .val (.long p2), .second, .val (.long p3), .second, .val (.int p4), .val (.int sv), .val (.int (0 : Int32)), .val (.int (2 : Int32)), .val (.int (1 : Int32)), .val (.int (2 : Int32)), .val (.ref af), .val (.ref al), .val (.ref ae), .val (.ref ac), .val (.ref ar), .val (.ref as_), .val (.int (1 : Int32))] [(.int (1 : Int32))])
        refine Own.if_eq H_1303 (pc := 510) 543 at_510 (by decide) (by decide) (fun hc => absurd hc (by decide)) (fun _ => ?_)
        refine Own.aload H_1303 (pc := 513) at_513 rfl rfl ?_
        refine Own.iconst H_1303 (pc := 515) (2) at_515 rfl ?_
        refine Own.iload H_1303 (pc := 516) at_516 rfl ?_
        refine Own.iload H_1303 (pc := 518) at_518 rfl ?_
        refine Own.callS H_1303 (pc := 520) (y := (⟨"termstone/postings/ImpactsLayPinLaw", "untouched", "([IIII)Z"⟩ : MethodName)) [(.ref ar), (.int (2 : Int32)), (.int (2 : Int32)), (.int sv)] [] at_520 (hw _ (List.mem_of_getElem? (i := 9) rfl)) (hw _ (List.mem_of_getElem? (i := 10) rfl)) (hw _ (List.mem_of_getElem? (i := 7) rfl)) (hw _ (List.mem_of_getElem? (i := 11) rfl)) (by decide) (rm_unt l Z a0 hw ar (2 : Int32) (2 : Int32) sv _ n0 H_1303.z0 [(((p0).toInt32 - (0 : Int32)) - (1 : Int32)), ((((XT.ushrL p0 (32 : Int32))).toInt32 - (p0).toInt32) - (1 : Int32)), sv, sv] C4 2 (by simp) rfl (fun _ => rfl)) (r := (some .boolean)) (ps := [(.array .int), .int, .int, .int]) (by decide) rfl rfl 0 rfl (by decide) (by decide) (by decide) (by decide) rfl (fun T_1310 v_1312 h_1311 H_1309 z_1313 q_1314 => ?_)
        obtain ⟨rfl, rfl⟩ := q_1314
        show OEnds _ _ _ _ _ _ _ _ _ (mkF _ 523 #[.val (.long p0), .second, .val (.long p1), .second, .val (.long p2), .second, .val (.long p3), .second, .val (.int p4), .val (.int sv), .val (.int (0 : Int32)), .val (.int (2 : Int32)), .val (.int (1 : Int32)), .val (.int (2 : Int32)), .val (.ref af), .val (.ref al), .val (.ref ae), .val (.ref ac), .val (.ref ar), .val (.ref as_), .val (.int (1 : Int32))] [(.int (1 : Int32))])
        refine Own.if_eq H_1309 (pc := 523) 543 at_523 (by decide) (by decide) (fun hc => absurd hc (by decide)) (fun _ => ?_)
        refine Own.aload H_1309 (pc := 526) at_526 rfl rfl ?_
        refine Own.iconst H_1309 (pc := 528) (3) at_528 rfl ?_
        refine Own.iload H_1309 (pc := 529) at_529 rfl ?_
        refine Own.iload H_1309 (pc := 531) at_531 rfl ?_
        refine Own.callS H_1309 (pc := 533) (y := (⟨"termstone/postings/ImpactsLayPinLaw", "untouched", "([IIII)Z"⟩ : MethodName)) [(.ref ar), (.int (3 : Int32)), (.int (2 : Int32)), (.int sv)] [] at_533 (hw _ (List.mem_of_getElem? (i := 9) rfl)) (hw _ (List.mem_of_getElem? (i := 10) rfl)) (hw _ (List.mem_of_getElem? (i := 7) rfl)) (hw _ (List.mem_of_getElem? (i := 11) rfl)) (by decide) (rm_unt l Z a0 hw ar (3 : Int32) (2 : Int32) sv _ n0 H_1309.z0 [(((p0).toInt32 - (0 : Int32)) - (1 : Int32)), ((((XT.ushrL p0 (32 : Int32))).toInt32 - (p0).toInt32) - (1 : Int32)), sv, sv] C4 3 (by simp) rfl (fun _ => rfl)) (r := (some .boolean)) (ps := [(.array .int), .int, .int, .int]) (by decide) rfl rfl 0 rfl (by decide) (by decide) (by decide) (by decide) rfl (fun T_1316 v_1318 h_1317 H_1315 z_1319 q_1320 => ?_)
        obtain ⟨rfl, rfl⟩ := q_1320
        show OEnds _ _ _ _ _ _ _ _ _ (mkF _ 536 #[.val (.long p0), .second, .val (.long p1), .second, .val (.long p2), .second, .val (.long p3), .second, .val (.int p4), .val (.int sv), .val (.int (0 : Int32)), .val (.int (2 : Int32)), .val (.int (1 : Int32)), .val (.int (2 : Int32)), .val (.ref af), .val (.ref al), .val (.ref ae), .val (.ref ac), .val (.ref ar), .val (.ref as_), .val (.int (1 : Int32))] [(.int (1 : Int32))])
        refine Own.if_eq H_1315 (pc := 536) 543 at_536 (by decide) (by decide) (fun hc => absurd hc (by decide)) (fun _ => ?_)
        refine Own.iconst H_1315 (pc := 539) (1) at_539 rfl ?_
        refine Own.goto H_1315 (pc := 540) 544 at_540 (by decide) (by decide) ?_
        refine Own.istore H_1315 (pc := 544) #[.val (.long p0), .second, .val (.long p1), .second, .val (.long p2), .second, .val (.long p3), .second, .val (.int p4), .val (.int sv), .val (.int (0 : Int32)), .val (.int (2 : Int32)), .val (.int (1 : Int32)), .val (.int (2 : Int32)), .val (.ref af), .val (.ref al), .val (.ref ae), .val (.ref ac), .val (.ref ar), .val (.ref as_), .val (.int (1 : Int32))] at_544 rfl ?_
        refine Own.iload H_1315 (pc := 546) at_546 rfl ?_
        refine Own.if_eq H_1315 (pc := 548) 594 at_548 (by decide) (by decide) (fun hc => absurd hc (by decide)) (fun _ => ?_)
        refine Own.aload H_1315 (pc := 551) at_551 rfl rfl ?_
        refine Own.iconst H_1315 (pc := 553) (1) at_553 rfl ?_
        refine Own.iload H_1315 (pc := 554) at_554 rfl ?_
        refine Own.iload H_1315 (pc := 556) at_556 rfl ?_
        refine Own.callS H_1315 (pc := 558) (y := (⟨"termstone/postings/ImpactsLayPinLaw", "untouched", "([IIII)Z"⟩ : MethodName)) [(.ref as_), (.int (1 : Int32)), (.int (2 : Int32)), (.int sv)] [] at_558 (hw _ (List.mem_of_getElem? (i := 9) rfl)) (hw _ (List.mem_of_getElem? (i := 10) rfl)) (hw _ (List.mem_of_getElem? (i := 7) rfl)) (hw _ (List.mem_of_getElem? (i := 11) rfl)) (by decide) (rm_unt l Z a0 hw as_ (1 : Int32) (2 : Int32) sv _ n0 H_1315.z0 [(((p2).toInt32 - (-1 : Int32)) - (1 : Int32)), ((((XT.ushrL p2 (32 : Int32))).toInt32 - (p2).toInt32) - (1 : Int32)), sv, sv] C5 1 (by simp) rfl (fun q => absurd (by decide) q)) (r := (some .boolean)) (ps := [(.array .int), .int, .int, .int]) (by decide) rfl rfl 0 rfl (by decide) (by decide) (by decide) (by decide) rfl (fun T_1322 v_1324 h_1323 H_1321 z_1325 q_1326 => ?_)
        obtain ⟨rfl, rfl⟩ := q_1326
        show OEnds _ _ _ _ _ _ _ _ _ (mkF _ 561 #[.val (.long p0), .second, .val (.long p1), .second, .val (.long p2), .second, .val (.long p3), .second, .val (.int p4), .val (.int sv), .val (.int (0 : Int32)), .val (.int (2 : Int32)), .val (.int (1 : Int32)), .val (.int (2 : Int32)), .val (.ref af), .val (.ref al), .val (.ref ae), .val (.ref ac), .val (.ref ar), .val (.ref as_), .val (.int (1 : Int32))] [(.int (1 : Int32))])
        refine Own.if_eq H_1321 (pc := 561) 594 at_561 (by decide) (by decide) (fun hc => absurd hc (by decide)) (fun _ => ?_)
        refine Own.aload H_1321 (pc := 564) at_564 rfl rfl ?_
        refine Own.iconst H_1321 (pc := 566) (2) at_566 rfl ?_
        refine Own.iload H_1321 (pc := 567) at_567 rfl ?_
        refine Own.iload H_1321 (pc := 569) at_569 rfl ?_
        refine Own.callS H_1321 (pc := 571) (y := (⟨"termstone/postings/ImpactsLayPinLaw", "untouched", "([IIII)Z"⟩ : MethodName)) [(.ref as_), (.int (2 : Int32)), (.int (2 : Int32)), (.int sv)] [] at_571 (hw _ (List.mem_of_getElem? (i := 9) rfl)) (hw _ (List.mem_of_getElem? (i := 10) rfl)) (hw _ (List.mem_of_getElem? (i := 7) rfl)) (hw _ (List.mem_of_getElem? (i := 11) rfl)) (by decide) (rm_unt l Z a0 hw as_ (2 : Int32) (2 : Int32) sv _ n0 H_1321.z0 [(((p2).toInt32 - (-1 : Int32)) - (1 : Int32)), ((((XT.ushrL p2 (32 : Int32))).toInt32 - (p2).toInt32) - (1 : Int32)), sv, sv] C5 2 (by simp) rfl (fun _ => rfl)) (r := (some .boolean)) (ps := [(.array .int), .int, .int, .int]) (by decide) rfl rfl 0 rfl (by decide) (by decide) (by decide) (by decide) rfl (fun T_1328 v_1330 h_1329 H_1327 z_1331 q_1332 => ?_)
        obtain ⟨rfl, rfl⟩ := q_1332
        show OEnds _ _ _ _ _ _ _ _ _ (mkF _ 574 #[.val (.long p0), .second, .val (.long p1), .second, .val (.long p2), .second, .val (.long p3), .second, .val (.int p4), .val (.int sv), .val (.int (0 : Int32)), .val (.int (2 : Int32)), .val (.int (1 : Int32)), .val (.int (2 : Int32)), .val (.ref af), .val (.ref al), .val (.ref ae), .val (.ref ac), .val (.ref ar), .val (.ref as_), .val (.int (1 : Int32))] [(.int (1 : Int32))])
        refine Own.if_eq H_1327 (pc := 574) 594 at_574 (by decide) (by decide) (fun hc => absurd hc (by decide)) (fun _ => ?_)
        refine Own.aload H_1327 (pc := 577) at_577 rfl rfl ?_
        refine Own.iconst H_1327 (pc := 579) (3) at_579 rfl ?_
        refine Own.iload H_1327 (pc := 580) at_580 rfl ?_
        refine Own.iload H_1327 (pc := 582) at_582 rfl ?_
        refine Own.callS H_1327 (pc := 584) (y := (⟨"termstone/postings/ImpactsLayPinLaw", "untouched", "([IIII)Z"⟩ : MethodName)) [(.ref as_), (.int (3 : Int32)), (.int (2 : Int32)), (.int sv)] [] at_584 (hw _ (List.mem_of_getElem? (i := 9) rfl)) (hw _ (List.mem_of_getElem? (i := 10) rfl)) (hw _ (List.mem_of_getElem? (i := 7) rfl)) (hw _ (List.mem_of_getElem? (i := 11) rfl)) (by decide) (rm_unt l Z a0 hw as_ (3 : Int32) (2 : Int32) sv _ n0 H_1327.z0 [(((p2).toInt32 - (-1 : Int32)) - (1 : Int32)), ((((XT.ushrL p2 (32 : Int32))).toInt32 - (p2).toInt32) - (1 : Int32)), sv, sv] C5 3 (by simp) rfl (fun _ => rfl)) (r := (some .boolean)) (ps := [(.array .int), .int, .int, .int]) (by decide) rfl rfl 0 rfl (by decide) (by decide) (by decide) (by decide) rfl (fun T_1334 v_1336 h_1335 H_1333 z_1337 q_1338 => ?_)
        obtain ⟨rfl, rfl⟩ := q_1338
        show OEnds _ _ _ _ _ _ _ _ _ (mkF _ 587 #[.val (.long p0), .second, .val (.long p1), .second, .val (.long p2), .second, .val (.long p3), .second, .val (.int p4), .val (.int sv), .val (.int (0 : Int32)), .val (.int (2 : Int32)), .val (.int (1 : Int32)), .val (.int (2 : Int32)), .val (.ref af), .val (.ref al), .val (.ref ae), .val (.ref ac), .val (.ref ar), .val (.ref as_), .val (.int (1 : Int32))] [(.int (1 : Int32))])
        refine Own.if_eq H_1333 (pc := 587) 594 at_587 (by decide) (by decide) (fun hc => absurd hc (by decide)) (fun _ => ?_)
        refine Own.iconst H_1333 (pc := 590) (1) at_590 rfl ?_
        refine Own.goto H_1333 (pc := 591) 595 at_591 (by decide) (by decide) ?_
        refine Own.istore H_1333 (pc := 595) #[.val (.long p0), .second, .val (.long p1), .second, .val (.long p2), .second, .val (.long p3), .second, .val (.int p4), .val (.int sv), .val (.int (0 : Int32)), .val (.int (2 : Int32)), .val (.int (1 : Int32)), .val (.int (2 : Int32)), .val (.ref af), .val (.ref al), .val (.ref ae), .val (.ref ac), .val (.ref ar), .val (.ref as_), .val (.int (1 : Int32))] at_595 rfl ?_
        refine Own.iload H_1333 (pc := 597) at_597 rfl ?_
        exact Own.ret_nar H_1333 (pc := 599) (1) at_599 rfl (by simp) (by decide) (by decide) (by decide) (rfl)
      · refine Own.iadd_c H (pc := 23) (2) at_23 (by decide) ?_
        refine Own.istore H (pc := 24) #[.val (.long p0), .second, .val (.long p1), .second, .val (.long p2), .second, .val (.long p3), .second, .val (.int p4), .val (.int sv), .val (.int (0 : Int32)), .val (.int (2 : Int32)), .val (.int (2 : Int32)), .unset, .unset, .unset, .unset, .unset, .unset, .unset, .unset] at_24 rfl ?_
        refine Own.iload H (pc := 26) at_26 rfl ?_
        refine Own.iconst H (pc := 28) (1) at_28 rfl ?_
        refine Own.icmp_ne H (pc := 29) 40 at_29 (by decide) (by decide) (fun _ => ?_) (fun hc => absurd hc (by decide))
        refine Own.iload H (pc := 40) at_40 rfl ?_
        refine Own.istore H (pc := 42) #[.val (.long p0), .second, .val (.long p1), .second, .val (.long p2), .second, .val (.long p3), .second, .val (.int p4), .val (.int sv), .val (.int (0 : Int32)), .val (.int (2 : Int32)), .val (.int (2 : Int32)), .val (.int (2 : Int32)), .unset, .unset, .unset, .unset, .unset, .unset, .unset] at_42 rfl ?_
        refine Own.iconst H (pc := 44) (4) at_44 rfl ?_
        refine Own.newarray H (pc := 45) (i := 4) 4 at_45 (hw _ (List.mem_of_getElem? (i := 0) rfl)) rfl (by decide) (by decide) (by decide) (by decide) (by decide) (fun T_1340 h_1341 af eq_af ge_af H_1339 Ext_af Ary_af => ?_)
        have A_1342 : OAry Z h_1341 af .int [(.int (0 : Int32)), (.int (0 : Int32)), (.int (0 : Int32)), (.int (0 : Int32))] := Ary_af
        refine Own.astore H_1339 (pc := 47) #[.val (.long p0), .second, .val (.long p1), .second, .val (.long p2), .second, .val (.long p3), .second, .val (.int p4), .val (.int sv), .val (.int (0 : Int32)), .val (.int (2 : Int32)), .val (.int (2 : Int32)), .val (.int (2 : Int32)), .val (.ref af), .unset, .unset, .unset, .unset, .unset, .unset] at_47 rfl rfl ?_
        refine Own.aload H_1339 (pc := 49) at_49 rfl rfl ?_
        refine Own.iconst H_1339 (pc := 51) (0) at_51 rfl ?_
        refine Own.lload_n H_1339 (pc := 52) at_52 rfl ?_
        refine Own.l2i H_1339 (pc := 53) at_53 ?_
        refine Own.iastore H_1339 (pc := 54) 0 at_54 A_1342 ge_af rfl (by simp) (fun T_1344 h_1345 H_1343 W_1346 A_1347 => ?_)
        have A_1348 : OAry Z h_1345 af .int [(.int (p0).toInt32), (.int (0 : Int32)), (.int (0 : Int32)), (.int (0 : Int32))] := A_1347
        refine Own.aload H_1343 (pc := 55) at_55 rfl rfl ?_
        refine Own.iconst H_1343 (pc := 57) (1) at_57 rfl ?_
        refine Own.lload_n H_1343 (pc := 58) at_58 rfl ?_
        refine Own.bipush H_1343 (pc := 59) (32) at_59 rfl ?_
        refine Own.lushr H_1343 (pc := 61) at_61 ?_
        refine Own.l2i H_1343 (pc := 62) at_62 ?_
        refine Own.iastore H_1343 (pc := 63) 1 at_63 A_1348 ge_af rfl (by simp) (fun T_1350 h_1351 H_1349 W_1352 A_1353 => ?_)
        have A_1354 : OAry Z h_1351 af .int [(.int (p0).toInt32), (.int ((XT.ushrL p0 (32 : Int32))).toInt32), (.int (0 : Int32)), (.int (0 : Int32))] := A_1353
        refine Own.aload H_1349 (pc := 64) at_64 rfl rfl ?_
        refine Own.iconst H_1349 (pc := 66) (2) at_66 rfl ?_
        refine Own.lload_n H_1349 (pc := 67) at_67 rfl ?_
        refine Own.l2i H_1349 (pc := 68) at_68 ?_
        refine Own.iastore H_1349 (pc := 69) 2 at_69 A_1354 ge_af rfl (by simp) (fun T_1356 h_1357 H_1355 W_1358 A_1359 => ?_)
        have A_1360 : OAry Z h_1357 af .int [(.int (p0).toInt32), (.int ((XT.ushrL p0 (32 : Int32))).toInt32), (.int (p1).toInt32), (.int (0 : Int32))] := A_1359
        refine Own.aload H_1355 (pc := 70) at_70 rfl rfl ?_
        refine Own.iconst H_1355 (pc := 72) (3) at_72 rfl ?_
        refine Own.lload_n H_1355 (pc := 73) at_73 rfl ?_
        refine Own.bipush H_1355 (pc := 74) (32) at_74 rfl ?_
        refine Own.lushr H_1355 (pc := 76) at_76 ?_
        refine Own.l2i H_1355 (pc := 77) at_77 ?_
        refine Own.iastore H_1355 (pc := 78) 3 at_78 A_1360 ge_af rfl (by simp) (fun T_1362 h_1363 H_1361 W_1364 A_1365 => ?_)
        have A_1366 : OAry Z h_1363 af .int [(.int (p0).toInt32), (.int ((XT.ushrL p0 (32 : Int32))).toInt32), (.int (p1).toInt32), (.int ((XT.ushrL p1 (32 : Int32))).toInt32)] := A_1365
        refine Own.iconst H_1361 (pc := 79) (4) at_79 rfl ?_
        refine Own.newarray H_1361 (pc := 80) (i := 4) 4 at_80 (hw _ (List.mem_of_getElem? (i := 0) rfl)) rfl (by decide) (by decide) (by decide) (by decide) (by decide) (fun T_1368 h_1369 al eq_al ge_al H_1367 Ext_al Ary_al => ?_)
        have lt_af_al : af < al := by have := A_1366.lt; omega
        have A_1370 := A_1366.ext Ext_al
        have A_1371 : OAry Z h_1369 al .int [(.int (0 : Int32)), (.int (0 : Int32)), (.int (0 : Int32)), (.int (0 : Int32))] := Ary_al
        refine Own.astore H_1367 (pc := 82) #[.val (.long p0), .second, .val (.long p1), .second, .val (.long p2), .second, .val (.long p3), .second, .val (.int p4), .val (.int sv), .val (.int (0 : Int32)), .val (.int (2 : Int32)), .val (.int (2 : Int32)), .val (.int (2 : Int32)), .val (.ref af), .val (.ref al), .unset, .unset, .unset, .unset, .unset] at_82 rfl rfl ?_
        refine Own.aload H_1367 (pc := 84) at_84 rfl rfl ?_
        refine Own.iconst H_1367 (pc := 86) (0) at_86 rfl ?_
        refine Own.lload H_1367 (pc := 87) at_87 rfl ?_
        refine Own.l2i H_1367 (pc := 89) at_89 ?_
        refine Own.iastore H_1367 (pc := 90) 0 at_90 A_1371 ge_al rfl (by simp) (fun T_1373 h_1374 H_1372 W_1375 A_1376 => ?_)
        have A_1377 := A_1370.other W_1375 (by omega)
        have A_1378 : OAry Z h_1374 al .int [(.int (p2).toInt32), (.int (0 : Int32)), (.int (0 : Int32)), (.int (0 : Int32))] := A_1376
        refine Own.aload H_1372 (pc := 91) at_91 rfl rfl ?_
        refine Own.iconst H_1372 (pc := 93) (1) at_93 rfl ?_
        refine Own.lload H_1372 (pc := 94) at_94 rfl ?_
        refine Own.bipush H_1372 (pc := 96) (32) at_96 rfl ?_
        refine Own.lushr H_1372 (pc := 98) at_98 ?_
        refine Own.l2i H_1372 (pc := 99) at_99 ?_
        refine Own.iastore H_1372 (pc := 100) 1 at_100 A_1378 ge_al rfl (by simp) (fun T_1380 h_1381 H_1379 W_1382 A_1383 => ?_)
        have A_1384 := A_1377.other W_1382 (by omega)
        have A_1385 : OAry Z h_1381 al .int [(.int (p2).toInt32), (.int ((XT.ushrL p2 (32 : Int32))).toInt32), (.int (0 : Int32)), (.int (0 : Int32))] := A_1383
        refine Own.aload H_1379 (pc := 101) at_101 rfl rfl ?_
        refine Own.iconst H_1379 (pc := 103) (2) at_103 rfl ?_
        refine Own.lload H_1379 (pc := 104) at_104 rfl ?_
        refine Own.l2i H_1379 (pc := 106) at_106 ?_
        refine Own.iastore H_1379 (pc := 107) 2 at_107 A_1385 ge_al rfl (by simp) (fun T_1387 h_1388 H_1386 W_1389 A_1390 => ?_)
        have A_1391 := A_1384.other W_1389 (by omega)
        have A_1392 : OAry Z h_1388 al .int [(.int (p2).toInt32), (.int ((XT.ushrL p2 (32 : Int32))).toInt32), (.int (p3).toInt32), (.int (0 : Int32))] := A_1390
        refine Own.aload H_1386 (pc := 108) at_108 rfl rfl ?_
        refine Own.iconst H_1386 (pc := 110) (3) at_110 rfl ?_
        refine Own.lload H_1386 (pc := 111) at_111 rfl ?_
        refine Own.bipush H_1386 (pc := 113) (32) at_113 rfl ?_
        refine Own.lushr H_1386 (pc := 115) at_115 ?_
        refine Own.l2i H_1386 (pc := 116) at_116 ?_
        refine Own.iastore H_1386 (pc := 117) 3 at_117 A_1392 ge_al rfl (by simp) (fun T_1394 h_1395 H_1393 W_1396 A_1397 => ?_)
        have A_1398 := A_1391.other W_1396 (by omega)
        have A_1399 : OAry Z h_1395 al .int [(.int (p2).toInt32), (.int ((XT.ushrL p2 (32 : Int32))).toInt32), (.int (p3).toInt32), (.int ((XT.ushrL p3 (32 : Int32))).toInt32)] := A_1397
        refine Own.iconst H_1393 (pc := 118) (2) at_118 rfl ?_
        refine Own.newarray H_1393 (pc := 119) (i := 2) 2 at_119 (hw _ (List.mem_of_getElem? (i := 0) rfl)) rfl (by decide) (by decide) (by decide) (by decide) (by decide) (fun T_1401 h_1402 ae eq_ae ge_ae H_1400 Ext_ae Ary_ae => ?_)
        have lt_af_ae : af < ae := by have := A_1398.lt; omega
        have A_1403 := A_1398.ext Ext_ae
        have lt_al_ae : al < ae := by have := A_1399.lt; omega
        have A_1404 := A_1399.ext Ext_ae
        have A_1405 : OAry Z h_1402 ae .int [(.int (0 : Int32)), (.int (0 : Int32))] := Ary_ae
        refine Own.astore H_1400 (pc := 121) #[.val (.long p0), .second, .val (.long p1), .second, .val (.long p2), .second, .val (.long p3), .second, .val (.int p4), .val (.int sv), .val (.int (0 : Int32)), .val (.int (2 : Int32)), .val (.int (2 : Int32)), .val (.int (2 : Int32)), .val (.ref af), .val (.ref al), .val (.ref ae), .unset, .unset, .unset, .unset] at_121 rfl rfl ?_
        refine Own.aload H_1400 (pc := 123) at_123 rfl rfl ?_
        refine Own.iconst H_1400 (pc := 125) (0) at_125 rfl ?_
        refine Own.iload H_1400 (pc := 126) at_126 rfl ?_
        refine Own.iastore H_1400 (pc := 128) 0 at_128 A_1405 ge_ae rfl (by simp) (fun T_1407 h_1408 H_1406 W_1409 A_1410 => ?_)
        have A_1411 := A_1403.other W_1409 (by omega)
        have A_1412 := A_1404.other W_1409 (by omega)
        have A_1413 : OAry Z h_1408 ae .int [(.int (2 : Int32)), (.int (0 : Int32))] := A_1410
        refine Own.aload H_1406 (pc := 129) at_129 rfl rfl ?_
        refine Own.iconst H_1406 (pc := 131) (1) at_131 rfl ?_
        refine Own.iload H_1406 (pc := 132) at_132 rfl ?_
        refine Own.iload H_1406 (pc := 134) at_134 rfl ?_
        refine Own.iadd_c H_1406 (pc := 136) (4) at_136 (by decide) ?_
        refine Own.iastore H_1406 (pc := 137) 1 at_137 A_1413 ge_ae rfl (by simp) (fun T_1415 h_1416 H_1414 W_1417 A_1418 => ?_)
        have A_1419 := A_1411.other W_1417 (by omega)
        have A_1420 := A_1412.other W_1417 (by omega)
        have A_1421 : OAry Z h_1416 ae .int [(.int (2 : Int32)), (.int (4 : Int32))] := A_1418
        refine Own.iconst H_1414 (pc := 138) (3) at_138 rfl ?_
        refine Own.newarray H_1414 (pc := 139) (i := 3) 3 at_139 (hw _ (List.mem_of_getElem? (i := 0) rfl)) rfl (by decide) (by decide) (by decide) (by decide) (by decide) (fun T_1423 h_1424 ac eq_ac ge_ac H_1422 Ext_ac Ary_ac => ?_)
        have lt_af_ac : af < ac := by have := A_1419.lt; omega
        have A_1425 := A_1419.ext Ext_ac
        have lt_al_ac : al < ac := by have := A_1420.lt; omega
        have A_1426 := A_1420.ext Ext_ac
        have lt_ae_ac : ae < ac := by have := A_1421.lt; omega
        have A_1427 := A_1421.ext Ext_ac
        have A_1428 : OAry Z h_1424 ac .int [(.int (0 : Int32)), (.int (0 : Int32)), (.int (0 : Int32))] := Ary_ac
        refine Own.astore H_1422 (pc := 141) #[.val (.long p0), .second, .val (.long p1), .second, .val (.long p2), .second, .val (.long p3), .second, .val (.int p4), .val (.int sv), .val (.int (0 : Int32)), .val (.int (2 : Int32)), .val (.int (2 : Int32)), .val (.int (2 : Int32)), .val (.ref af), .val (.ref al), .val (.ref ae), .val (.ref ac), .unset, .unset, .unset] at_141 rfl rfl ?_
        refine Own.aload H_1422 (pc := 143) at_143 rfl rfl ?_
        refine Own.iconst H_1422 (pc := 145) (0) at_145 rfl ?_
        refine Own.iload H_1422 (pc := 146) at_146 rfl ?_
        refine Own.iastore H_1422 (pc := 148) 0 at_148 A_1428 ge_ac rfl (by simp) (fun T_1430 h_1431 H_1429 W_1432 A_1433 => ?_)
        have A_1434 := A_1425.other W_1432 (by omega)
        have A_1435 := A_1426.other W_1432 (by omega)
        have A_1436 := A_1427.other W_1432 (by omega)
        have A_1437 : OAry Z h_1431 ac .int [(.int sv), (.int (0 : Int32)), (.int (0 : Int32))] := A_1433
        refine Own.aload H_1429 (pc := 149) at_149 rfl rfl ?_
        refine Own.iconst H_1429 (pc := 151) (1) at_151 rfl ?_
        refine Own.iload H_1429 (pc := 152) at_152 rfl ?_
        refine Own.iastore H_1429 (pc := 154) 1 at_154 A_1437 ge_ac rfl (by simp) (fun T_1439 h_1440 H_1438 W_1441 A_1442 => ?_)
        have A_1443 := A_1434.other W_1441 (by omega)
        have A_1444 := A_1435.other W_1441 (by omega)
        have A_1445 := A_1436.other W_1441 (by omega)
        have A_1446 : OAry Z h_1440 ac .int [(.int sv), (.int sv), (.int (0 : Int32))] := A_1442
        refine Own.aload H_1438 (pc := 155) at_155 rfl rfl ?_
        refine Own.iconst H_1438 (pc := 157) (2) at_157 rfl ?_
        refine Own.iload H_1438 (pc := 158) at_158 rfl ?_
        refine Own.iastore H_1438 (pc := 160) 2 at_160 A_1446 ge_ac rfl (by simp) (fun T_1448 h_1449 H_1447 W_1450 A_1451 => ?_)
        have A_1452 := A_1443.other W_1450 (by omega)
        have A_1453 := A_1444.other W_1450 (by omega)
        have A_1454 := A_1445.other W_1450 (by omega)
        have A_1455 : OAry Z h_1449 ac .int [(.int sv), (.int sv), (.int sv)] := A_1451
        refine Own.iconst H_1447 (pc := 161) (4) at_161 rfl ?_
        refine Own.newarray H_1447 (pc := 162) (i := 4) 4 at_162 (hw _ (List.mem_of_getElem? (i := 0) rfl)) rfl (by decide) (by decide) (by decide) (by decide) (by decide) (fun T_1457 h_1458 ar eq_ar ge_ar H_1456 Ext_ar Ary_ar => ?_)
        have lt_af_ar : af < ar := by have := A_1452.lt; omega
        have A_1459 := A_1452.ext Ext_ar
        have lt_al_ar : al < ar := by have := A_1453.lt; omega
        have A_1460 := A_1453.ext Ext_ar
        have lt_ae_ar : ae < ar := by have := A_1454.lt; omega
        have A_1461 := A_1454.ext Ext_ar
        have lt_ac_ar : ac < ar := by have := A_1455.lt; omega
        have A_1462 := A_1455.ext Ext_ar
        have A_1463 : OAry Z h_1458 ar .int [(.int (0 : Int32)), (.int (0 : Int32)), (.int (0 : Int32)), (.int (0 : Int32))] := Ary_ar
        refine Own.astore H_1456 (pc := 164) #[.val (.long p0), .second, .val (.long p1), .second, .val (.long p2), .second, .val (.long p3), .second, .val (.int p4), .val (.int sv), .val (.int (0 : Int32)), .val (.int (2 : Int32)), .val (.int (2 : Int32)), .val (.int (2 : Int32)), .val (.ref af), .val (.ref al), .val (.ref ae), .val (.ref ac), .val (.ref ar), .unset, .unset] at_164 rfl rfl ?_
        refine Own.iconst H_1456 (pc := 166) (4) at_166 rfl ?_
        refine Own.newarray H_1456 (pc := 167) (i := 4) 4 at_167 (hw _ (List.mem_of_getElem? (i := 0) rfl)) rfl (by decide) (by decide) (by decide) (by decide) (by decide) (fun T_1465 h_1466 as_ eq_as_ ge_as_ H_1464 Ext_as_ Ary_as_ => ?_)
        have lt_af_as_ : af < as_ := by have := A_1459.lt; omega
        have A_1467 := A_1459.ext Ext_as_
        have lt_al_as_ : al < as_ := by have := A_1460.lt; omega
        have A_1468 := A_1460.ext Ext_as_
        have lt_ae_as_ : ae < as_ := by have := A_1461.lt; omega
        have A_1469 := A_1461.ext Ext_as_
        have lt_ac_as_ : ac < as_ := by have := A_1462.lt; omega
        have A_1470 := A_1462.ext Ext_as_
        have lt_ar_as_ : ar < as_ := by have := A_1463.lt; omega
        have A_1471 := A_1463.ext Ext_as_
        have A_1472 : OAry Z h_1466 as_ .int [(.int (0 : Int32)), (.int (0 : Int32)), (.int (0 : Int32)), (.int (0 : Int32))] := Ary_as_
        refine Own.astore H_1464 (pc := 169) #[.val (.long p0), .second, .val (.long p1), .second, .val (.long p2), .second, .val (.long p3), .second, .val (.int p4), .val (.int sv), .val (.int (0 : Int32)), .val (.int (2 : Int32)), .val (.int (2 : Int32)), .val (.int (2 : Int32)), .val (.ref af), .val (.ref al), .val (.ref ae), .val (.ref ac), .val (.ref ar), .val (.ref as_), .unset] at_169 rfl rfl ?_
        refine Own.aload H_1464 (pc := 171) at_171 rfl rfl ?_
        refine Own.iconst H_1464 (pc := 173) (0) at_173 rfl ?_
        refine Own.iload H_1464 (pc := 174) at_174 rfl ?_
        refine Own.iastore H_1464 (pc := 176) 0 at_176 A_1471 ge_ar rfl (by simp) (fun T_1474 h_1475 H_1473 W_1476 A_1477 => ?_)
        have A_1478 := A_1467.other W_1476 (by omega)
        have A_1479 := A_1468.other W_1476 (by omega)
        have A_1480 := A_1469.other W_1476 (by omega)
        have A_1481 := A_1470.other W_1476 (by omega)
        have A_1482 : OAry Z h_1475 ar .int [(.int sv), (.int (0 : Int32)), (.int (0 : Int32)), (.int (0 : Int32))] := A_1477
        have A_1483 := A_1472.other W_1476 (by omega)
        refine Own.aload H_1473 (pc := 177) at_177 rfl rfl ?_
        refine Own.iconst H_1473 (pc := 179) (1) at_179 rfl ?_
        refine Own.iload H_1473 (pc := 180) at_180 rfl ?_
        refine Own.iastore H_1473 (pc := 182) 1 at_182 A_1482 ge_ar rfl (by simp) (fun T_1485 h_1486 H_1484 W_1487 A_1488 => ?_)
        have A_1489 := A_1478.other W_1487 (by omega)
        have A_1490 := A_1479.other W_1487 (by omega)
        have A_1491 := A_1480.other W_1487 (by omega)
        have A_1492 := A_1481.other W_1487 (by omega)
        have A_1493 : OAry Z h_1486 ar .int [(.int sv), (.int sv), (.int (0 : Int32)), (.int (0 : Int32))] := A_1488
        have A_1494 := A_1483.other W_1487 (by omega)
        refine Own.aload H_1484 (pc := 183) at_183 rfl rfl ?_
        refine Own.iconst H_1484 (pc := 185) (2) at_185 rfl ?_
        refine Own.iload H_1484 (pc := 186) at_186 rfl ?_
        refine Own.iastore H_1484 (pc := 188) 2 at_188 A_1493 ge_ar rfl (by simp) (fun T_1496 h_1497 H_1495 W_1498 A_1499 => ?_)
        have A_1500 := A_1489.other W_1498 (by omega)
        have A_1501 := A_1490.other W_1498 (by omega)
        have A_1502 := A_1491.other W_1498 (by omega)
        have A_1503 := A_1492.other W_1498 (by omega)
        have A_1504 : OAry Z h_1497 ar .int [(.int sv), (.int sv), (.int sv), (.int (0 : Int32))] := A_1499
        have A_1505 := A_1494.other W_1498 (by omega)
        refine Own.aload H_1495 (pc := 189) at_189 rfl rfl ?_
        refine Own.iconst H_1495 (pc := 191) (3) at_191 rfl ?_
        refine Own.iload H_1495 (pc := 192) at_192 rfl ?_
        refine Own.iastore H_1495 (pc := 194) 3 at_194 A_1504 ge_ar rfl (by simp) (fun T_1507 h_1508 H_1506 W_1509 A_1510 => ?_)
        have A_1511 := A_1500.other W_1509 (by omega)
        have A_1512 := A_1501.other W_1509 (by omega)
        have A_1513 := A_1502.other W_1509 (by omega)
        have A_1514 := A_1503.other W_1509 (by omega)
        have A_1515 : OAry Z h_1508 ar .int [(.int sv), (.int sv), (.int sv), (.int sv)] := A_1510
        have A_1516 := A_1505.other W_1509 (by omega)
        refine Own.aload H_1506 (pc := 195) at_195 rfl rfl ?_
        refine Own.iconst H_1506 (pc := 197) (0) at_197 rfl ?_
        refine Own.iload H_1506 (pc := 198) at_198 rfl ?_
        refine Own.iastore H_1506 (pc := 200) 0 at_200 A_1516 ge_as_ rfl (by simp) (fun T_1518 h_1519 H_1517 W_1520 A_1521 => ?_)
        have A_1522 := A_1511.other W_1520 (by omega)
        have A_1523 := A_1512.other W_1520 (by omega)
        have A_1524 := A_1513.other W_1520 (by omega)
        have A_1525 := A_1514.other W_1520 (by omega)
        have A_1526 := A_1515.other W_1520 (by omega)
        have A_1527 : OAry Z h_1519 as_ .int [(.int sv), (.int (0 : Int32)), (.int (0 : Int32)), (.int (0 : Int32))] := A_1521
        refine Own.aload H_1517 (pc := 201) at_201 rfl rfl ?_
        refine Own.iconst H_1517 (pc := 203) (1) at_203 rfl ?_
        refine Own.iload H_1517 (pc := 204) at_204 rfl ?_
        refine Own.iastore H_1517 (pc := 206) 1 at_206 A_1527 ge_as_ rfl (by simp) (fun T_1529 h_1530 H_1528 W_1531 A_1532 => ?_)
        have A_1533 := A_1522.other W_1531 (by omega)
        have A_1534 := A_1523.other W_1531 (by omega)
        have A_1535 := A_1524.other W_1531 (by omega)
        have A_1536 := A_1525.other W_1531 (by omega)
        have A_1537 := A_1526.other W_1531 (by omega)
        have A_1538 : OAry Z h_1530 as_ .int [(.int sv), (.int sv), (.int (0 : Int32)), (.int (0 : Int32))] := A_1532
        refine Own.aload H_1528 (pc := 207) at_207 rfl rfl ?_
        refine Own.iconst H_1528 (pc := 209) (2) at_209 rfl ?_
        refine Own.iload H_1528 (pc := 210) at_210 rfl ?_
        refine Own.iastore H_1528 (pc := 212) 2 at_212 A_1538 ge_as_ rfl (by simp) (fun T_1540 h_1541 H_1539 W_1542 A_1543 => ?_)
        have A_1544 := A_1533.other W_1542 (by omega)
        have A_1545 := A_1534.other W_1542 (by omega)
        have A_1546 := A_1535.other W_1542 (by omega)
        have A_1547 := A_1536.other W_1542 (by omega)
        have A_1548 := A_1537.other W_1542 (by omega)
        have A_1549 : OAry Z h_1541 as_ .int [(.int sv), (.int sv), (.int sv), (.int (0 : Int32))] := A_1543
        refine Own.aload H_1539 (pc := 213) at_213 rfl rfl ?_
        refine Own.iconst H_1539 (pc := 215) (3) at_215 rfl ?_
        refine Own.iload H_1539 (pc := 216) at_216 rfl ?_
        refine Own.iastore H_1539 (pc := 218) 3 at_218 A_1549 ge_as_ rfl (by simp) (fun T_1551 h_1552 H_1550 W_1553 A_1554 => ?_)
        have A_1555 := A_1544.other W_1553 (by omega)
        have A_1556 := A_1545.other W_1553 (by omega)
        have A_1557 := A_1546.other W_1553 (by omega)
        have A_1558 := A_1547.other W_1553 (by omega)
        have A_1559 := A_1548.other W_1553 (by omega)
        have A_1560 : OAry Z h_1552 as_ .int [(.int sv), (.int sv), (.int sv), (.int sv)] := A_1554
        refine Own.aload H_1550 (pc := 219) at_219 rfl rfl ?_
        refine Own.aload H_1550 (pc := 221) at_221 rfl rfl ?_
        refine Own.aload H_1550 (pc := 223) at_223 rfl rfl ?_
        refine Own.iload H_1550 (pc := 225) at_225 rfl ?_
        refine Own.aload H_1550 (pc := 227) at_227 rfl rfl ?_
        refine Own.aload H_1550 (pc := 229) at_229 rfl rfl ?_
        refine Own.aload H_1550 (pc := 231) at_231 rfl rfl ?_
        refine Own.callS H_1550 (pc := 233) (y := (⟨"termstone/postings/Impacts", "lay", "([I[I[II[I[I[I)V"⟩ : MethodName)) [(.ref af), (.ref al), (.ref ae), (.int (0 : Int32)), (.ref ac), (.ref ar), (.ref as_)] [] at_233 (hw _ (List.mem_of_getElem? (i := 1) rfl)) (hw _ (List.mem_of_getElem? (i := 2) rfl)) (hw _ (List.mem_of_getElem? (i := 3) rfl)) (hw _ (List.mem_of_getElem? (i := 4) rfl)) (by decide) (rm_lay022 l Z a0 hw af al ae (0 : Int32) ac ar as_ _ n0 H_1550.z0 (p0).toInt32 ((XT.ushrL p0 (32 : Int32))).toInt32 (p1).toInt32 ((XT.ushrL p1 (32 : Int32))).toInt32 (p2).toInt32 ((XT.ushrL p2 (32 : Int32))).toInt32 (p3).toInt32 ((XT.ushrL p3 (32 : Int32))).toInt32 sv A_1555 A_1556 A_1557 A_1558 A_1559 A_1560 lt_af_al lt_al_ae lt_ae_ac lt_ac_ar lt_ar_as_ ge_ac ge_ar ge_as_ rfl) (r := none) (ps := [(.array .int), (.array .int), (.array .int), .int, (.array .int), (.array .int), (.array .int)]) (by decide) rfl rfl 0 rfl (by decide) (by decide) (by decide) (by decide) rfl (fun T_1562 v_1564 h_1563 H_1561 z_1565 q_1566 => ?_)
        obtain ⟨rfl, C0, C1, C2, C3, C4, C5⟩ := q_1566
        show OEnds _ _ _ _ _ _ _ _ _ (mkF _ 236 #[.val (.long p0), .second, .val (.long p1), .second, .val (.long p2), .second, .val (.long p3), .second, .val (.int p4), .val (.int sv), .val (.int (0 : Int32)), .val (.int (2 : Int32)), .val (.int (2 : Int32)), .val (.int (2 : Int32)), .val (.ref af), .val (.ref al), .val (.ref ae), .val (.ref ac), .val (.ref ar), .val (.ref as_), .unset] [])
        refine Own.aload H_1561 (pc := 236) at_236 rfl rfl ?_
        refine Own.iconst H_1561 (pc := 238) (0) at_238 rfl ?_
        refine Own.iaload H_1561 (pc := 239) (v := (p0).toInt32) 0 at_239 C0 rfl rfl ?_
        refine Own.lload_n H_1561 (pc := 240) at_240 rfl ?_
        refine Own.l2i H_1561 (pc := 241) at_241 ?_
        refine Own.icmp_ne H_1561 (pc := 242) 349 at_242 (by decide) (by decide) (fun hX => absurd rfl hX) (fun _ => ?_)
        refine Own.aload H_1561 (pc := 245) at_245 rfl rfl ?_
        refine Own.iconst H_1561 (pc := 247) (1) at_247 rfl ?_
        refine Own.iaload H_1561 (pc := 248) (v := ((XT.ushrL p0 (32 : Int32))).toInt32) 1 at_248 C0 rfl rfl ?_
        refine Own.lload_n H_1561 (pc := 249) at_249 rfl ?_
        refine Own.bipush H_1561 (pc := 250) (32) at_250 rfl ?_
        refine Own.lushr H_1561 (pc := 252) at_252 ?_
        refine Own.l2i H_1561 (pc := 253) at_253 ?_
        refine Own.icmp_ne H_1561 (pc := 254) 349 at_254 (by decide) (by decide) (fun hX => absurd rfl hX) (fun _ => ?_)
        refine Own.aload H_1561 (pc := 257) at_257 rfl rfl ?_
        refine Own.iconst H_1561 (pc := 259) (2) at_259 rfl ?_
        refine Own.iaload H_1561 (pc := 260) (v := (p1).toInt32) 2 at_260 C0 rfl rfl ?_
        refine Own.lload_n H_1561 (pc := 261) at_261 rfl ?_
        refine Own.l2i H_1561 (pc := 262) at_262 ?_
        refine Own.icmp_ne H_1561 (pc := 263) 349 at_263 (by decide) (by decide) (fun hX => absurd rfl hX) (fun _ => ?_)
        refine Own.aload H_1561 (pc := 266) at_266 rfl rfl ?_
        refine Own.iconst H_1561 (pc := 268) (3) at_268 rfl ?_
        refine Own.iaload H_1561 (pc := 269) (v := ((XT.ushrL p1 (32 : Int32))).toInt32) 3 at_269 C0 rfl rfl ?_
        refine Own.lload_n H_1561 (pc := 270) at_270 rfl ?_
        refine Own.bipush H_1561 (pc := 271) (32) at_271 rfl ?_
        refine Own.lushr H_1561 (pc := 273) at_273 ?_
        refine Own.l2i H_1561 (pc := 274) at_274 ?_
        refine Own.icmp_ne H_1561 (pc := 275) 349 at_275 (by decide) (by decide) (fun hX => absurd rfl hX) (fun _ => ?_)
        refine Own.aload H_1561 (pc := 278) at_278 rfl rfl ?_
        refine Own.iconst H_1561 (pc := 280) (0) at_280 rfl ?_
        refine Own.iaload H_1561 (pc := 281) (v := (p2).toInt32) 0 at_281 C1 rfl rfl ?_
        refine Own.lload H_1561 (pc := 282) at_282 rfl ?_
        refine Own.l2i H_1561 (pc := 284) at_284 ?_
        refine Own.icmp_ne H_1561 (pc := 285) 349 at_285 (by decide) (by decide) (fun hX => absurd rfl hX) (fun _ => ?_)
        refine Own.aload H_1561 (pc := 288) at_288 rfl rfl ?_
        refine Own.iconst H_1561 (pc := 290) (1) at_290 rfl ?_
        refine Own.iaload H_1561 (pc := 291) (v := ((XT.ushrL p2 (32 : Int32))).toInt32) 1 at_291 C1 rfl rfl ?_
        refine Own.lload H_1561 (pc := 292) at_292 rfl ?_
        refine Own.bipush H_1561 (pc := 294) (32) at_294 rfl ?_
        refine Own.lushr H_1561 (pc := 296) at_296 ?_
        refine Own.l2i H_1561 (pc := 297) at_297 ?_
        refine Own.icmp_ne H_1561 (pc := 298) 349 at_298 (by decide) (by decide) (fun hX => absurd rfl hX) (fun _ => ?_)
        refine Own.aload H_1561 (pc := 301) at_301 rfl rfl ?_
        refine Own.iconst H_1561 (pc := 303) (2) at_303 rfl ?_
        refine Own.iaload H_1561 (pc := 304) (v := (p3).toInt32) 2 at_304 C1 rfl rfl ?_
        refine Own.lload H_1561 (pc := 305) at_305 rfl ?_
        refine Own.l2i H_1561 (pc := 307) at_307 ?_
        refine Own.icmp_ne H_1561 (pc := 308) 349 at_308 (by decide) (by decide) (fun hX => absurd rfl hX) (fun _ => ?_)
        refine Own.aload H_1561 (pc := 311) at_311 rfl rfl ?_
        refine Own.iconst H_1561 (pc := 313) (3) at_313 rfl ?_
        refine Own.iaload H_1561 (pc := 314) (v := ((XT.ushrL p3 (32 : Int32))).toInt32) 3 at_314 C1 rfl rfl ?_
        refine Own.lload H_1561 (pc := 315) at_315 rfl ?_
        refine Own.bipush H_1561 (pc := 317) (32) at_317 rfl ?_
        refine Own.lushr H_1561 (pc := 319) at_319 ?_
        refine Own.l2i H_1561 (pc := 320) at_320 ?_
        refine Own.icmp_ne H_1561 (pc := 321) 349 at_321 (by decide) (by decide) (fun hX => absurd rfl hX) (fun _ => ?_)
        refine Own.aload H_1561 (pc := 324) at_324 rfl rfl ?_
        refine Own.iconst H_1561 (pc := 326) (0) at_326 rfl ?_
        refine Own.iaload H_1561 (pc := 327) (v := (2 : Int32)) 0 at_327 C2 rfl rfl ?_
        refine Own.iload H_1561 (pc := 328) at_328 rfl ?_
        refine Own.icmp_ne H_1561 (pc := 330) 349 at_330 (by decide) (by decide) (fun hc => absurd hc (by decide)) (fun _ => ?_)
        refine Own.aload H_1561 (pc := 333) at_333 rfl rfl ?_
        refine Own.iconst H_1561 (pc := 335) (1) at_335 rfl ?_
        refine Own.iaload H_1561 (pc := 336) (v := (4 : Int32)) 1 at_336 C2 rfl rfl ?_
        refine Own.iload H_1561 (pc := 337) at_337 rfl ?_
        refine Own.iload H_1561 (pc := 339) at_339 rfl ?_
        refine Own.iadd_c H_1561 (pc := 341) (4) at_341 (by decide) ?_
        refine Own.icmp_ne H_1561 (pc := 342) 349 at_342 (by decide) (by decide) (fun hc => absurd hc (by decide)) (fun _ => ?_)
        refine Own.iconst H_1561 (pc := 345) (1) at_345 rfl ?_
        refine Own.goto H_1561 (pc := 346) 350 at_346 (by decide) (by decide) ?_
        refine Own.istore H_1561 (pc := 350) #[.val (.long p0), .second, .val (.long p1), .second, .val (.long p2), .second, .val (.long p3), .second, .val (.int p4), .val (.int sv), .val (.int (0 : Int32)), .val (.int (2 : Int32)), .val (.int (2 : Int32)), .val (.int (2 : Int32)), .val (.ref af), .val (.ref al), .val (.ref ae), .val (.ref ac), .val (.ref ar), .val (.ref as_), .val (.int (1 : Int32))] at_350 rfl ?_
        refine Own.iload H_1561 (pc := 352) at_352 rfl ?_
        refine Own.if_eq H_1561 (pc := 354) 378 at_354 (by decide) (by decide) (fun hc => absurd hc (by decide)) (fun _ => ?_)
        refine Own.aload H_1561 (pc := 357) at_357 rfl rfl ?_
        refine Own.aload H_1561 (pc := 359) at_359 rfl rfl ?_
        refine Own.aload H_1561 (pc := 361) at_361 rfl rfl ?_
        refine Own.aload H_1561 (pc := 363) at_363 rfl rfl ?_
        refine Own.iconst H_1561 (pc := 365) (0) at_365 rfl ?_
        refine Own.iload H_1561 (pc := 366) at_366 rfl ?_
        refine Own.callS H_1561 (pc := 368) (y := (⟨"termstone/postings/ImpactsLayPinLaw", "segment", "([I[I[I[III)Z"⟩ : MethodName)) [(.ref ar), (.ref as_), (.ref af), (.ref al), (.int (0 : Int32)), (.int (2 : Int32))] [] at_368 (hw _ (List.mem_of_getElem? (i := 5) rfl)) (hw _ (List.mem_of_getElem? (i := 6) rfl)) (hw _ (List.mem_of_getElem? (i := 7) rfl)) (hw _ (List.mem_of_getElem? (i := 8) rfl)) (by decide) (rm_seg l Z a0 hw ar as_ af al (0 : Int32) (2 : Int32) _ n0 H_1561.z0 [(((p0).toInt32 - (0 : Int32)) - (1 : Int32)), ((((XT.ushrL p0 (32 : Int32))).toInt32 - (p0).toInt32) - (1 : Int32)), sv, sv] [(((p2).toInt32 - (-1 : Int32)) - (1 : Int32)), ((((XT.ushrL p2 (32 : Int32))).toInt32 - (p2).toInt32) - (1 : Int32)), sv, sv] [(p0).toInt32, ((XT.ushrL p0 (32 : Int32))).toInt32, (p1).toInt32, ((XT.ushrL p1 (32 : Int32))).toInt32] [(p2).toInt32, ((XT.ushrL p2 (32 : Int32))).toInt32, (p3).toInt32, ((XT.ushrL p3 (32 : Int32))).toInt32] C4 C5 C0 C1 rfl rfl rfl rfl 0 (by decide) rfl (own_a1 _) (own_a2 _) (fun _ => ⟨by decide, own_a3 _ _, own_a3 _ _⟩)) (r := (some .boolean)) (ps := [(.array .int), (.array .int), (.array .int), (.array .int), .int, .int]) (by decide) rfl rfl 0 rfl (by decide) (by decide) (by decide) (by decide) rfl (fun T_1568 v_1570 h_1569 H_1567 z_1571 q_1572 => ?_)
        obtain ⟨rfl, rfl⟩ := q_1572
        show OEnds _ _ _ _ _ _ _ _ _ (mkF _ 371 #[.val (.long p0), .second, .val (.long p1), .second, .val (.long p2), .second, .val (.long p3), .second, .val (.int p4), .val (.int sv), .val (.int (0 : Int32)), .val (.int (2 : Int32)), .val (.int (2 : Int32)), .val (.int (2 : Int32)), .val (.ref af), .val (.ref al), .val (.ref ae), .val (.ref ac), .val (.ref ar), .val (.ref as_), .val (.int (1 : Int32))] [(.int (1 : Int32))])
        refine Own.if_eq H_1567 (pc := 371) 378 at_371 (by decide) (by decide) (fun hc => absurd hc (by decide)) (fun _ => ?_)
        refine Own.iconst H_1567 (pc := 374) (1) at_374 rfl ?_
        refine Own.goto H_1567 (pc := 375) 379 at_375 (by decide) (by decide) ?_
        refine Own.istore H_1567 (pc := 379) #[.val (.long p0), .second, .val (.long p1), .second, .val (.long p2), .second, .val (.long p3), .second, .val (.int p4), .val (.int sv), .val (.int (0 : Int32)), .val (.int (2 : Int32)), .val (.int (2 : Int32)), .val (.int (2 : Int32)), .val (.ref af), .val (.ref al), .val (.ref ae), .val (.ref ac), .val (.ref ar), .val (.ref as_), .val (.int (1 : Int32))] at_379 rfl ?_
        refine Own.iload H_1567 (pc := 381) at_381 rfl ?_
        refine Own.iconst H_1567 (pc := 383) (1) at_383 rfl ?_
        refine Own.icmp_ne H_1567 (pc := 384) 417 at_384 (by decide) (by decide) (fun _ => ?_) (fun hc => absurd hc (by decide))
        refine Own.iload H_1567 (pc := 417) at_417 rfl ?_
        refine Own.if_eq H_1567 (pc := 419) 437 at_419 (by decide) (by decide) (fun hc => absurd hc (by decide)) (fun _ => ?_)
        refine Own.aload H_1567 (pc := 422) at_422 rfl rfl ?_
        refine Own.iconst H_1567 (pc := 424) (0) at_424 rfl ?_
        refine Own.iaload H_1567 (pc := 425) (v := (1 : Int32)) 0 at_425 C3 rfl rfl ?_
        refine Own.iload H_1567 (pc := 426) at_426 rfl ?_
        refine Own.iconst H_1567 (pc := 428) (1) at_428 rfl ?_
        refine Own.isub_c H_1567 (pc := 429) (1) at_429 (by decide) ?_
        refine Own.icmp_ne H_1567 (pc := 430) 437 at_430 (by decide) (by decide) (fun hc => absurd hc (by decide)) (fun _ => ?_)
        refine Own.iconst H_1567 (pc := 433) (1) at_433 rfl ?_
        refine Own.goto H_1567 (pc := 434) 438 at_434 (by decide) (by decide) ?_
        refine Own.istore H_1567 (pc := 438) #[.val (.long p0), .second, .val (.long p1), .second, .val (.long p2), .second, .val (.long p3), .second, .val (.int p4), .val (.int sv), .val (.int (0 : Int32)), .val (.int (2 : Int32)), .val (.int (2 : Int32)), .val (.int (2 : Int32)), .val (.ref af), .val (.ref al), .val (.ref ae), .val (.ref ac), .val (.ref ar), .val (.ref as_), .val (.int (1 : Int32))] at_438 rfl ?_
        refine Own.iload H_1567 (pc := 440) at_440 rfl ?_
        refine Own.if_eq H_1567 (pc := 442) 471 at_442 (by decide) (by decide) (fun hc => absurd hc (by decide)) (fun _ => ?_)
        refine Own.aload H_1567 (pc := 445) at_445 rfl rfl ?_
        refine Own.iconst H_1567 (pc := 447) (1) at_447 rfl ?_
        refine Own.iaload H_1567 (pc := 448) (v := sv) 1 at_448 C3 rfl rfl ?_
        refine Own.iload H_1567 (pc := 449) at_449 rfl ?_
        refine Own.iconst H_1567 (pc := 451) (1) at_451 rfl ?_
        refine Own.icmp_ne H_1567 (pc := 452) 462 at_452 (by decide) (by decide) (fun _ => ?_) (fun hc => absurd hc (by decide))
        refine Own.iload H_1567 (pc := 462) at_462 rfl ?_
        refine Own.icmp_ne H_1567 (pc := 464) 471 at_464 (by decide) (by decide) (fun hX => absurd rfl hX) (fun _ => ?_)
        refine Own.iconst H_1567 (pc := 467) (1) at_467 rfl ?_
        refine Own.goto H_1567 (pc := 468) 472 at_468 (by decide) (by decide) ?_
        refine Own.istore H_1567 (pc := 472) #[.val (.long p0), .second, .val (.long p1), .second, .val (.long p2), .second, .val (.long p3), .second, .val (.int p4), .val (.int sv), .val (.int (0 : Int32)), .val (.int (2 : Int32)), .val (.int (2 : Int32)), .val (.int (2 : Int32)), .val (.ref af), .val (.ref al), .val (.ref ae), .val (.ref ac), .val (.ref ar), .val (.ref as_), .val (.int (1 : Int32))] at_472 rfl ?_
        refine Own.iload H_1567 (pc := 474) at_474 rfl ?_
        refine Own.if_eq H_1567 (pc := 476) 492 at_476 (by decide) (by decide) (fun hc => absurd hc (by decide)) (fun _ => ?_)
        refine Own.aload H_1567 (pc := 479) at_479 rfl rfl ?_
        refine Own.iconst H_1567 (pc := 481) (2) at_481 rfl ?_
        refine Own.iaload H_1567 (pc := 482) (v := sv) 2 at_482 C3 rfl rfl ?_
        refine Own.iload H_1567 (pc := 483) at_483 rfl ?_
        refine Own.icmp_ne H_1567 (pc := 485) 492 at_485 (by decide) (by decide) (fun hX => absurd rfl hX) (fun _ => ?_)
        refine Own.iconst H_1567 (pc := 488) (1) at_488 rfl ?_
        refine Own.goto H_1567 (pc := 489) 493 at_489 (by decide) (by decide) ?_
        refine Own.istore H_1567 (pc := 493) #[.val (.long p0), .second, .val (.long p1), .second, .val (.long p2), .second, .val (.long p3), .second, .val (.int p4), .val (.int sv), .val (.int (0 : Int32)), .val (.int (2 : Int32)), .val (.int (2 : Int32)), .val (.int (2 : Int32)), .val (.ref af), .val (.ref al), .val (.ref ae), .val (.ref ac), .val (.ref ar), .val (.ref as_), .val (.int (1 : Int32))] at_493 rfl ?_
        refine Own.iload H_1567 (pc := 495) at_495 rfl ?_
        refine Own.if_eq H_1567 (pc := 497) 543 at_497 (by decide) (by decide) (fun hc => absurd hc (by decide)) (fun _ => ?_)
        refine Own.aload H_1567 (pc := 500) at_500 rfl rfl ?_
        refine Own.iconst H_1567 (pc := 502) (1) at_502 rfl ?_
        refine Own.iload H_1567 (pc := 503) at_503 rfl ?_
        refine Own.iload H_1567 (pc := 505) at_505 rfl ?_
        refine Own.callS H_1567 (pc := 507) (y := (⟨"termstone/postings/ImpactsLayPinLaw", "untouched", "([IIII)Z"⟩ : MethodName)) [(.ref ar), (.int (1 : Int32)), (.int (2 : Int32)), (.int sv)] [] at_507 (hw _ (List.mem_of_getElem? (i := 9) rfl)) (hw _ (List.mem_of_getElem? (i := 10) rfl)) (hw _ (List.mem_of_getElem? (i := 7) rfl)) (hw _ (List.mem_of_getElem? (i := 11) rfl)) (by decide) (rm_unt l Z a0 hw ar (1 : Int32) (2 : Int32) sv _ n0 H_1567.z0 [(((p0).toInt32 - (0 : Int32)) - (1 : Int32)), ((((XT.ushrL p0 (32 : Int32))).toInt32 - (p0).toInt32) - (1 : Int32)), sv, sv] C4 1 (by simp) rfl (fun q => absurd (by decide) q)) (r := (some .boolean)) (ps := [(.array .int), .int, .int, .int]) (by decide) rfl rfl 0 rfl (by decide) (by decide) (by decide) (by decide) rfl (fun T_1574 v_1576 h_1575 H_1573 z_1577 q_1578 => ?_)
        obtain ⟨rfl, rfl⟩ := q_1578
        show OEnds _ _ _ _ _ _ _ _ _ (mkF _ 510 #[.val (.long p0), .second, .val (.long p1), .second, .val (.long p2), .second, .val (.long p3), .second, .val (.int p4), .val (.int sv), .val (.int (0 : Int32)), .val (.int (2 : Int32)), .val (.int (2 : Int32)), .val (.int (2 : Int32)), .val (.ref af), .val (.ref al), .val (.ref ae), .val (.ref ac), .val (.ref ar), .val (.ref as_), .val (.int (1 : Int32))] [(.int (1 : Int32))])
        refine Own.if_eq H_1573 (pc := 510) 543 at_510 (by decide) (by decide) (fun hc => absurd hc (by decide)) (fun _ => ?_)
        refine Own.aload H_1573 (pc := 513) at_513 rfl rfl ?_
        refine Own.iconst H_1573 (pc := 515) (2) at_515 rfl ?_
        refine Own.iload H_1573 (pc := 516) at_516 rfl ?_
        refine Own.iload H_1573 (pc := 518) at_518 rfl ?_
        refine Own.callS H_1573 (pc := 520) (y := (⟨"termstone/postings/ImpactsLayPinLaw", "untouched", "([IIII)Z"⟩ : MethodName)) [(.ref ar), (.int (2 : Int32)), (.int (2 : Int32)), (.int sv)] [] at_520 (hw _ (List.mem_of_getElem? (i := 9) rfl)) (hw _ (List.mem_of_getElem? (i := 10) rfl)) (hw _ (List.mem_of_getElem? (i := 7) rfl)) (hw _ (List.mem_of_getElem? (i := 11) rfl)) (by decide) (rm_unt l Z a0 hw ar (2 : Int32) (2 : Int32) sv _ n0 H_1573.z0 [(((p0).toInt32 - (0 : Int32)) - (1 : Int32)), ((((XT.ushrL p0 (32 : Int32))).toInt32 - (p0).toInt32) - (1 : Int32)), sv, sv] C4 2 (by simp) rfl (fun _ => rfl)) (r := (some .boolean)) (ps := [(.array .int), .int, .int, .int]) (by decide) rfl rfl 0 rfl (by decide) (by decide) (by decide) (by decide) rfl (fun T_1580 v_1582 h_1581 H_1579 z_1583 q_1584 => ?_)
        obtain ⟨rfl, rfl⟩ := q_1584
        show OEnds _ _ _ _ _ _ _ _ _ (mkF _ 523 #[.val (.long p0), .second, .val (.long p1), .second, .val (.long p2), .second, .val (.long p3), .second, .val (.int p4), .val (.int sv), .val (.int (0 : Int32)), .val (.int (2 : Int32)), .val (.int (2 : Int32)), .val (.int (2 : Int32)), .val (.ref af), .val (.ref al), .val (.ref ae), .val (.ref ac), .val (.ref ar), .val (.ref as_), .val (.int (1 : Int32))] [(.int (1 : Int32))])
        refine Own.if_eq H_1579 (pc := 523) 543 at_523 (by decide) (by decide) (fun hc => absurd hc (by decide)) (fun _ => ?_)
        refine Own.aload H_1579 (pc := 526) at_526 rfl rfl ?_
        refine Own.iconst H_1579 (pc := 528) (3) at_528 rfl ?_
        refine Own.iload H_1579 (pc := 529) at_529 rfl ?_
        refine Own.iload H_1579 (pc := 531) at_531 rfl ?_
        refine Own.callS H_1579 (pc := 533) (y := (⟨"termstone/postings/ImpactsLayPinLaw", "untouched", "([IIII)Z"⟩ : MethodName)) [(.ref ar), (.int (3 : Int32)), (.int (2 : Int32)), (.int sv)] [] at_533 (hw _ (List.mem_of_getElem? (i := 9) rfl)) (hw _ (List.mem_of_getElem? (i := 10) rfl)) (hw _ (List.mem_of_getElem? (i := 7) rfl)) (hw _ (List.mem_of_getElem? (i := 11) rfl)) (by decide) (rm_unt l Z a0 hw ar (3 : Int32) (2 : Int32) sv _ n0 H_1579.z0 [(((p0).toInt32 - (0 : Int32)) - (1 : Int32)), ((((XT.ushrL p0 (32 : Int32))).toInt32 - (p0).toInt32) - (1 : Int32)), sv, sv] C4 3 (by simp) rfl (fun _ => rfl)) (r := (some .boolean)) (ps := [(.array .int), .int, .int, .int]) (by decide) rfl rfl 0 rfl (by decide) (by decide) (by decide) (by decide) rfl (fun T_1586 v_1588 h_1587 H_1585 z_1589 q_1590 => ?_)
        obtain ⟨rfl, rfl⟩ := q_1590
        show OEnds _ _ _ _ _ _ _ _ _ (mkF _ 536 #[.val (.long p0), .second, .val (.long p1), .second, .val (.long p2), .second, .val (.long p3), .second, .val (.int p4), .val (.int sv), .val (.int (0 : Int32)), .val (.int (2 : Int32)), .val (.int (2 : Int32)), .val (.int (2 : Int32)), .val (.ref af), .val (.ref al), .val (.ref ae), .val (.ref ac), .val (.ref ar), .val (.ref as_), .val (.int (1 : Int32))] [(.int (1 : Int32))])
        refine Own.if_eq H_1585 (pc := 536) 543 at_536 (by decide) (by decide) (fun hc => absurd hc (by decide)) (fun _ => ?_)
        refine Own.iconst H_1585 (pc := 539) (1) at_539 rfl ?_
        refine Own.goto H_1585 (pc := 540) 544 at_540 (by decide) (by decide) ?_
        refine Own.istore H_1585 (pc := 544) #[.val (.long p0), .second, .val (.long p1), .second, .val (.long p2), .second, .val (.long p3), .second, .val (.int p4), .val (.int sv), .val (.int (0 : Int32)), .val (.int (2 : Int32)), .val (.int (2 : Int32)), .val (.int (2 : Int32)), .val (.ref af), .val (.ref al), .val (.ref ae), .val (.ref ac), .val (.ref ar), .val (.ref as_), .val (.int (1 : Int32))] at_544 rfl ?_
        refine Own.iload H_1585 (pc := 546) at_546 rfl ?_
        refine Own.if_eq H_1585 (pc := 548) 594 at_548 (by decide) (by decide) (fun hc => absurd hc (by decide)) (fun _ => ?_)
        refine Own.aload H_1585 (pc := 551) at_551 rfl rfl ?_
        refine Own.iconst H_1585 (pc := 553) (1) at_553 rfl ?_
        refine Own.iload H_1585 (pc := 554) at_554 rfl ?_
        refine Own.iload H_1585 (pc := 556) at_556 rfl ?_
        refine Own.callS H_1585 (pc := 558) (y := (⟨"termstone/postings/ImpactsLayPinLaw", "untouched", "([IIII)Z"⟩ : MethodName)) [(.ref as_), (.int (1 : Int32)), (.int (2 : Int32)), (.int sv)] [] at_558 (hw _ (List.mem_of_getElem? (i := 9) rfl)) (hw _ (List.mem_of_getElem? (i := 10) rfl)) (hw _ (List.mem_of_getElem? (i := 7) rfl)) (hw _ (List.mem_of_getElem? (i := 11) rfl)) (by decide) (rm_unt l Z a0 hw as_ (1 : Int32) (2 : Int32) sv _ n0 H_1585.z0 [(((p2).toInt32 - (-1 : Int32)) - (1 : Int32)), ((((XT.ushrL p2 (32 : Int32))).toInt32 - (p2).toInt32) - (1 : Int32)), sv, sv] C5 1 (by simp) rfl (fun q => absurd (by decide) q)) (r := (some .boolean)) (ps := [(.array .int), .int, .int, .int]) (by decide) rfl rfl 0 rfl (by decide) (by decide) (by decide) (by decide) rfl (fun T_1592 v_1594 h_1593 H_1591 z_1595 q_1596 => ?_)
        obtain ⟨rfl, rfl⟩ := q_1596
        show OEnds _ _ _ _ _ _ _ _ _ (mkF _ 561 #[.val (.long p0), .second, .val (.long p1), .second, .val (.long p2), .second, .val (.long p3), .second, .val (.int p4), .val (.int sv), .val (.int (0 : Int32)), .val (.int (2 : Int32)), .val (.int (2 : Int32)), .val (.int (2 : Int32)), .val (.ref af), .val (.ref al), .val (.ref ae), .val (.ref ac), .val (.ref ar), .val (.ref as_), .val (.int (1 : Int32))] [(.int (1 : Int32))])
        refine Own.if_eq H_1591 (pc := 561) 594 at_561 (by decide) (by decide) (fun hc => absurd hc (by decide)) (fun _ => ?_)
        refine Own.aload H_1591 (pc := 564) at_564 rfl rfl ?_
        refine Own.iconst H_1591 (pc := 566) (2) at_566 rfl ?_
        refine Own.iload H_1591 (pc := 567) at_567 rfl ?_
        refine Own.iload H_1591 (pc := 569) at_569 rfl ?_
        refine Own.callS H_1591 (pc := 571) (y := (⟨"termstone/postings/ImpactsLayPinLaw", "untouched", "([IIII)Z"⟩ : MethodName)) [(.ref as_), (.int (2 : Int32)), (.int (2 : Int32)), (.int sv)] [] at_571 (hw _ (List.mem_of_getElem? (i := 9) rfl)) (hw _ (List.mem_of_getElem? (i := 10) rfl)) (hw _ (List.mem_of_getElem? (i := 7) rfl)) (hw _ (List.mem_of_getElem? (i := 11) rfl)) (by decide) (rm_unt l Z a0 hw as_ (2 : Int32) (2 : Int32) sv _ n0 H_1591.z0 [(((p2).toInt32 - (-1 : Int32)) - (1 : Int32)), ((((XT.ushrL p2 (32 : Int32))).toInt32 - (p2).toInt32) - (1 : Int32)), sv, sv] C5 2 (by simp) rfl (fun _ => rfl)) (r := (some .boolean)) (ps := [(.array .int), .int, .int, .int]) (by decide) rfl rfl 0 rfl (by decide) (by decide) (by decide) (by decide) rfl (fun T_1598 v_1600 h_1599 H_1597 z_1601 q_1602 => ?_)
        obtain ⟨rfl, rfl⟩ := q_1602
        show OEnds _ _ _ _ _ _ _ _ _ (mkF _ 574 #[.val (.long p0), .second, .val (.long p1), .second, .val (.long p2), .second, .val (.long p3), .second, .val (.int p4), .val (.int sv), .val (.int (0 : Int32)), .val (.int (2 : Int32)), .val (.int (2 : Int32)), .val (.int (2 : Int32)), .val (.ref af), .val (.ref al), .val (.ref ae), .val (.ref ac), .val (.ref ar), .val (.ref as_), .val (.int (1 : Int32))] [(.int (1 : Int32))])
        refine Own.if_eq H_1597 (pc := 574) 594 at_574 (by decide) (by decide) (fun hc => absurd hc (by decide)) (fun _ => ?_)
        refine Own.aload H_1597 (pc := 577) at_577 rfl rfl ?_
        refine Own.iconst H_1597 (pc := 579) (3) at_579 rfl ?_
        refine Own.iload H_1597 (pc := 580) at_580 rfl ?_
        refine Own.iload H_1597 (pc := 582) at_582 rfl ?_
        refine Own.callS H_1597 (pc := 584) (y := (⟨"termstone/postings/ImpactsLayPinLaw", "untouched", "([IIII)Z"⟩ : MethodName)) [(.ref as_), (.int (3 : Int32)), (.int (2 : Int32)), (.int sv)] [] at_584 (hw _ (List.mem_of_getElem? (i := 9) rfl)) (hw _ (List.mem_of_getElem? (i := 10) rfl)) (hw _ (List.mem_of_getElem? (i := 7) rfl)) (hw _ (List.mem_of_getElem? (i := 11) rfl)) (by decide) (rm_unt l Z a0 hw as_ (3 : Int32) (2 : Int32) sv _ n0 H_1597.z0 [(((p2).toInt32 - (-1 : Int32)) - (1 : Int32)), ((((XT.ushrL p2 (32 : Int32))).toInt32 - (p2).toInt32) - (1 : Int32)), sv, sv] C5 3 (by simp) rfl (fun _ => rfl)) (r := (some .boolean)) (ps := [(.array .int), .int, .int, .int]) (by decide) rfl rfl 0 rfl (by decide) (by decide) (by decide) (by decide) rfl (fun T_1604 v_1606 h_1605 H_1603 z_1607 q_1608 => ?_)
        obtain ⟨rfl, rfl⟩ := q_1608
        show OEnds _ _ _ _ _ _ _ _ _ (mkF _ 587 #[.val (.long p0), .second, .val (.long p1), .second, .val (.long p2), .second, .val (.long p3), .second, .val (.int p4), .val (.int sv), .val (.int (0 : Int32)), .val (.int (2 : Int32)), .val (.int (2 : Int32)), .val (.int (2 : Int32)), .val (.ref af), .val (.ref al), .val (.ref ae), .val (.ref ac), .val (.ref ar), .val (.ref as_), .val (.int (1 : Int32))] [(.int (1 : Int32))])
        refine Own.if_eq H_1603 (pc := 587) 594 at_587 (by decide) (by decide) (fun hc => absurd hc (by decide)) (fun _ => ?_)
        refine Own.iconst H_1603 (pc := 590) (1) at_590 rfl ?_
        refine Own.goto H_1603 (pc := 591) 595 at_591 (by decide) (by decide) ?_
        refine Own.istore H_1603 (pc := 595) #[.val (.long p0), .second, .val (.long p1), .second, .val (.long p2), .second, .val (.long p3), .second, .val (.int p4), .val (.int sv), .val (.int (0 : Int32)), .val (.int (2 : Int32)), .val (.int (2 : Int32)), .val (.int (2 : Int32)), .val (.ref af), .val (.ref al), .val (.ref ae), .val (.ref ac), .val (.ref ar), .val (.ref as_), .val (.int (1 : Int32))] at_595 rfl ?_
        refine Own.iload H_1603 (pc := 597) at_597 rfl ?_
        exact Own.ret_nar H_1603 (pc := 599) (1) at_599 rfl (by simp) (by decide) (by decide) (by decide) (rfl)
  · refine Own.istore H (pc := 4) #[.val (.long p0), .second, .val (.long p1), .second, .val (.long p2), .second, .val (.long p3), .second, .val (.int p4), .val (.int sv), .val (.int (1 : Int32)), .unset, .unset, .unset, .unset, .unset, .unset, .unset, .unset, .unset, .unset] at_4 rfl ?_
    refine Own.iconst H (pc := 6) (1) at_6 rfl ?_
    refine Own.iload H (pc := 7) at_7 rfl ?_
    refine Own.iconst H (pc := 9) (1) at_9 rfl ?_
    refine Own.iushr H (pc := 10) at_10 ?_
    refine Own.iconst H (pc := 11) (1) at_11 rfl ?_
    refine Own.iand H (pc := 12) at_12 ?_
    generalize eb1 : ((XT.ushr p4 (1 : Int32)) &&& (1 : Int32)) = b1
    have hb1 : b1 = 0 ∨ b1 = 1 := by rw [← eb1]; exact and_one _
    clear eb1
    rcases hb1 with rfl | rfl
    · refine Own.iadd_c H (pc := 13) (1) at_13 (by decide) ?_
      refine Own.istore H (pc := 14) #[.val (.long p0), .second, .val (.long p1), .second, .val (.long p2), .second, .val (.long p3), .second, .val (.int p4), .val (.int sv), .val (.int (1 : Int32)), .val (.int (1 : Int32)), .unset, .unset, .unset, .unset, .unset, .unset, .unset, .unset, .unset] at_14 rfl ?_
      refine Own.iconst H (pc := 16) (1) at_16 rfl ?_
      refine Own.iload H (pc := 17) at_17 rfl ?_
      refine Own.iconst H (pc := 19) (2) at_19 rfl ?_
      refine Own.iushr H (pc := 20) at_20 ?_
      refine Own.iconst H (pc := 21) (1) at_21 rfl ?_
      refine Own.iand H (pc := 22) at_22 ?_
      generalize eb2 : ((XT.ushr p4 (2 : Int32)) &&& (1 : Int32)) = b2
      have hb2 : b2 = 0 ∨ b2 = 1 := by rw [← eb2]; exact and_one _
      clear eb2
      rcases hb2 with rfl | rfl
      · refine Own.iadd_c H (pc := 23) (1) at_23 (by decide) ?_
        refine Own.istore H (pc := 24) #[.val (.long p0), .second, .val (.long p1), .second, .val (.long p2), .second, .val (.long p3), .second, .val (.int p4), .val (.int sv), .val (.int (1 : Int32)), .val (.int (1 : Int32)), .val (.int (1 : Int32)), .unset, .unset, .unset, .unset, .unset, .unset, .unset, .unset] at_24 rfl ?_
        refine Own.iload H (pc := 26) at_26 rfl ?_
        refine Own.iconst H (pc := 28) (1) at_28 rfl ?_
        refine Own.icmp_ne H (pc := 29) 40 at_29 (by decide) (by decide) (fun hc => absurd hc (by decide)) (fun _ => ?_)
        refine Own.iload H (pc := 32) at_32 rfl ?_
        refine Own.iload H (pc := 34) at_34 rfl ?_
        refine Own.iadd_c H (pc := 36) (2) at_36 (by decide) ?_
        refine Own.goto H (pc := 37) 42 at_37 (by decide) (by decide) ?_
        refine Own.istore H (pc := 42) #[.val (.long p0), .second, .val (.long p1), .second, .val (.long p2), .second, .val (.long p3), .second, .val (.int p4), .val (.int sv), .val (.int (1 : Int32)), .val (.int (1 : Int32)), .val (.int (1 : Int32)), .val (.int (2 : Int32)), .unset, .unset, .unset, .unset, .unset, .unset, .unset] at_42 rfl ?_
        refine Own.iconst H (pc := 44) (4) at_44 rfl ?_
        refine Own.newarray H (pc := 45) (i := 4) 4 at_45 (hw _ (List.mem_of_getElem? (i := 0) rfl)) rfl (by decide) (by decide) (by decide) (by decide) (by decide) (fun T_1610 h_1611 af eq_af ge_af H_1609 Ext_af Ary_af => ?_)
        have A_1612 : OAry Z h_1611 af .int [(.int (0 : Int32)), (.int (0 : Int32)), (.int (0 : Int32)), (.int (0 : Int32))] := Ary_af
        refine Own.astore H_1609 (pc := 47) #[.val (.long p0), .second, .val (.long p1), .second, .val (.long p2), .second, .val (.long p3), .second, .val (.int p4), .val (.int sv), .val (.int (1 : Int32)), .val (.int (1 : Int32)), .val (.int (1 : Int32)), .val (.int (2 : Int32)), .val (.ref af), .unset, .unset, .unset, .unset, .unset, .unset] at_47 rfl rfl ?_
        refine Own.aload H_1609 (pc := 49) at_49 rfl rfl ?_
        refine Own.iconst H_1609 (pc := 51) (0) at_51 rfl ?_
        refine Own.lload_n H_1609 (pc := 52) at_52 rfl ?_
        refine Own.l2i H_1609 (pc := 53) at_53 ?_
        refine Own.iastore H_1609 (pc := 54) 0 at_54 A_1612 ge_af rfl (by simp) (fun T_1614 h_1615 H_1613 W_1616 A_1617 => ?_)
        have A_1618 : OAry Z h_1615 af .int [(.int (p0).toInt32), (.int (0 : Int32)), (.int (0 : Int32)), (.int (0 : Int32))] := A_1617
        refine Own.aload H_1613 (pc := 55) at_55 rfl rfl ?_
        refine Own.iconst H_1613 (pc := 57) (1) at_57 rfl ?_
        refine Own.lload_n H_1613 (pc := 58) at_58 rfl ?_
        refine Own.bipush H_1613 (pc := 59) (32) at_59 rfl ?_
        refine Own.lushr H_1613 (pc := 61) at_61 ?_
        refine Own.l2i H_1613 (pc := 62) at_62 ?_
        refine Own.iastore H_1613 (pc := 63) 1 at_63 A_1618 ge_af rfl (by simp) (fun T_1620 h_1621 H_1619 W_1622 A_1623 => ?_)
        have A_1624 : OAry Z h_1621 af .int [(.int (p0).toInt32), (.int ((XT.ushrL p0 (32 : Int32))).toInt32), (.int (0 : Int32)), (.int (0 : Int32))] := A_1623
        refine Own.aload H_1619 (pc := 64) at_64 rfl rfl ?_
        refine Own.iconst H_1619 (pc := 66) (2) at_66 rfl ?_
        refine Own.lload_n H_1619 (pc := 67) at_67 rfl ?_
        refine Own.l2i H_1619 (pc := 68) at_68 ?_
        refine Own.iastore H_1619 (pc := 69) 2 at_69 A_1624 ge_af rfl (by simp) (fun T_1626 h_1627 H_1625 W_1628 A_1629 => ?_)
        have A_1630 : OAry Z h_1627 af .int [(.int (p0).toInt32), (.int ((XT.ushrL p0 (32 : Int32))).toInt32), (.int (p1).toInt32), (.int (0 : Int32))] := A_1629
        refine Own.aload H_1625 (pc := 70) at_70 rfl rfl ?_
        refine Own.iconst H_1625 (pc := 72) (3) at_72 rfl ?_
        refine Own.lload_n H_1625 (pc := 73) at_73 rfl ?_
        refine Own.bipush H_1625 (pc := 74) (32) at_74 rfl ?_
        refine Own.lushr H_1625 (pc := 76) at_76 ?_
        refine Own.l2i H_1625 (pc := 77) at_77 ?_
        refine Own.iastore H_1625 (pc := 78) 3 at_78 A_1630 ge_af rfl (by simp) (fun T_1632 h_1633 H_1631 W_1634 A_1635 => ?_)
        have A_1636 : OAry Z h_1633 af .int [(.int (p0).toInt32), (.int ((XT.ushrL p0 (32 : Int32))).toInt32), (.int (p1).toInt32), (.int ((XT.ushrL p1 (32 : Int32))).toInt32)] := A_1635
        refine Own.iconst H_1631 (pc := 79) (4) at_79 rfl ?_
        refine Own.newarray H_1631 (pc := 80) (i := 4) 4 at_80 (hw _ (List.mem_of_getElem? (i := 0) rfl)) rfl (by decide) (by decide) (by decide) (by decide) (by decide) (fun T_1638 h_1639 al eq_al ge_al H_1637 Ext_al Ary_al => ?_)
        have lt_af_al : af < al := by have := A_1636.lt; omega
        have A_1640 := A_1636.ext Ext_al
        have A_1641 : OAry Z h_1639 al .int [(.int (0 : Int32)), (.int (0 : Int32)), (.int (0 : Int32)), (.int (0 : Int32))] := Ary_al
        refine Own.astore H_1637 (pc := 82) #[.val (.long p0), .second, .val (.long p1), .second, .val (.long p2), .second, .val (.long p3), .second, .val (.int p4), .val (.int sv), .val (.int (1 : Int32)), .val (.int (1 : Int32)), .val (.int (1 : Int32)), .val (.int (2 : Int32)), .val (.ref af), .val (.ref al), .unset, .unset, .unset, .unset, .unset] at_82 rfl rfl ?_
        refine Own.aload H_1637 (pc := 84) at_84 rfl rfl ?_
        refine Own.iconst H_1637 (pc := 86) (0) at_86 rfl ?_
        refine Own.lload H_1637 (pc := 87) at_87 rfl ?_
        refine Own.l2i H_1637 (pc := 89) at_89 ?_
        refine Own.iastore H_1637 (pc := 90) 0 at_90 A_1641 ge_al rfl (by simp) (fun T_1643 h_1644 H_1642 W_1645 A_1646 => ?_)
        have A_1647 := A_1640.other W_1645 (by omega)
        have A_1648 : OAry Z h_1644 al .int [(.int (p2).toInt32), (.int (0 : Int32)), (.int (0 : Int32)), (.int (0 : Int32))] := A_1646
        refine Own.aload H_1642 (pc := 91) at_91 rfl rfl ?_
        refine Own.iconst H_1642 (pc := 93) (1) at_93 rfl ?_
        refine Own.lload H_1642 (pc := 94) at_94 rfl ?_
        refine Own.bipush H_1642 (pc := 96) (32) at_96 rfl ?_
        refine Own.lushr H_1642 (pc := 98) at_98 ?_
        refine Own.l2i H_1642 (pc := 99) at_99 ?_
        refine Own.iastore H_1642 (pc := 100) 1 at_100 A_1648 ge_al rfl (by simp) (fun T_1650 h_1651 H_1649 W_1652 A_1653 => ?_)
        have A_1654 := A_1647.other W_1652 (by omega)
        have A_1655 : OAry Z h_1651 al .int [(.int (p2).toInt32), (.int ((XT.ushrL p2 (32 : Int32))).toInt32), (.int (0 : Int32)), (.int (0 : Int32))] := A_1653
        refine Own.aload H_1649 (pc := 101) at_101 rfl rfl ?_
        refine Own.iconst H_1649 (pc := 103) (2) at_103 rfl ?_
        refine Own.lload H_1649 (pc := 104) at_104 rfl ?_
        refine Own.l2i H_1649 (pc := 106) at_106 ?_
        refine Own.iastore H_1649 (pc := 107) 2 at_107 A_1655 ge_al rfl (by simp) (fun T_1657 h_1658 H_1656 W_1659 A_1660 => ?_)
        have A_1661 := A_1654.other W_1659 (by omega)
        have A_1662 : OAry Z h_1658 al .int [(.int (p2).toInt32), (.int ((XT.ushrL p2 (32 : Int32))).toInt32), (.int (p3).toInt32), (.int (0 : Int32))] := A_1660
        refine Own.aload H_1656 (pc := 108) at_108 rfl rfl ?_
        refine Own.iconst H_1656 (pc := 110) (3) at_110 rfl ?_
        refine Own.lload H_1656 (pc := 111) at_111 rfl ?_
        refine Own.bipush H_1656 (pc := 113) (32) at_113 rfl ?_
        refine Own.lushr H_1656 (pc := 115) at_115 ?_
        refine Own.l2i H_1656 (pc := 116) at_116 ?_
        refine Own.iastore H_1656 (pc := 117) 3 at_117 A_1662 ge_al rfl (by simp) (fun T_1664 h_1665 H_1663 W_1666 A_1667 => ?_)
        have A_1668 := A_1661.other W_1666 (by omega)
        have A_1669 : OAry Z h_1665 al .int [(.int (p2).toInt32), (.int ((XT.ushrL p2 (32 : Int32))).toInt32), (.int (p3).toInt32), (.int ((XT.ushrL p3 (32 : Int32))).toInt32)] := A_1667
        refine Own.iconst H_1663 (pc := 118) (2) at_118 rfl ?_
        refine Own.newarray H_1663 (pc := 119) (i := 2) 2 at_119 (hw _ (List.mem_of_getElem? (i := 0) rfl)) rfl (by decide) (by decide) (by decide) (by decide) (by decide) (fun T_1671 h_1672 ae eq_ae ge_ae H_1670 Ext_ae Ary_ae => ?_)
        have lt_af_ae : af < ae := by have := A_1668.lt; omega
        have A_1673 := A_1668.ext Ext_ae
        have lt_al_ae : al < ae := by have := A_1669.lt; omega
        have A_1674 := A_1669.ext Ext_ae
        have A_1675 : OAry Z h_1672 ae .int [(.int (0 : Int32)), (.int (0 : Int32))] := Ary_ae
        refine Own.astore H_1670 (pc := 121) #[.val (.long p0), .second, .val (.long p1), .second, .val (.long p2), .second, .val (.long p3), .second, .val (.int p4), .val (.int sv), .val (.int (1 : Int32)), .val (.int (1 : Int32)), .val (.int (1 : Int32)), .val (.int (2 : Int32)), .val (.ref af), .val (.ref al), .val (.ref ae), .unset, .unset, .unset, .unset] at_121 rfl rfl ?_
        refine Own.aload H_1670 (pc := 123) at_123 rfl rfl ?_
        refine Own.iconst H_1670 (pc := 125) (0) at_125 rfl ?_
        refine Own.iload H_1670 (pc := 126) at_126 rfl ?_
        refine Own.iastore H_1670 (pc := 128) 0 at_128 A_1675 ge_ae rfl (by simp) (fun T_1677 h_1678 H_1676 W_1679 A_1680 => ?_)
        have A_1681 := A_1673.other W_1679 (by omega)
        have A_1682 := A_1674.other W_1679 (by omega)
        have A_1683 : OAry Z h_1678 ae .int [(.int (1 : Int32)), (.int (0 : Int32))] := A_1680
        refine Own.aload H_1676 (pc := 129) at_129 rfl rfl ?_
        refine Own.iconst H_1676 (pc := 131) (1) at_131 rfl ?_
        refine Own.iload H_1676 (pc := 132) at_132 rfl ?_
        refine Own.iload H_1676 (pc := 134) at_134 rfl ?_
        refine Own.iadd_c H_1676 (pc := 136) (2) at_136 (by decide) ?_
        refine Own.iastore H_1676 (pc := 137) 1 at_137 A_1683 ge_ae rfl (by simp) (fun T_1685 h_1686 H_1684 W_1687 A_1688 => ?_)
        have A_1689 := A_1681.other W_1687 (by omega)
        have A_1690 := A_1682.other W_1687 (by omega)
        have A_1691 : OAry Z h_1686 ae .int [(.int (1 : Int32)), (.int (2 : Int32))] := A_1688
        refine Own.iconst H_1684 (pc := 138) (3) at_138 rfl ?_
        refine Own.newarray H_1684 (pc := 139) (i := 3) 3 at_139 (hw _ (List.mem_of_getElem? (i := 0) rfl)) rfl (by decide) (by decide) (by decide) (by decide) (by decide) (fun T_1693 h_1694 ac eq_ac ge_ac H_1692 Ext_ac Ary_ac => ?_)
        have lt_af_ac : af < ac := by have := A_1689.lt; omega
        have A_1695 := A_1689.ext Ext_ac
        have lt_al_ac : al < ac := by have := A_1690.lt; omega
        have A_1696 := A_1690.ext Ext_ac
        have lt_ae_ac : ae < ac := by have := A_1691.lt; omega
        have A_1697 := A_1691.ext Ext_ac
        have A_1698 : OAry Z h_1694 ac .int [(.int (0 : Int32)), (.int (0 : Int32)), (.int (0 : Int32))] := Ary_ac
        refine Own.astore H_1692 (pc := 141) #[.val (.long p0), .second, .val (.long p1), .second, .val (.long p2), .second, .val (.long p3), .second, .val (.int p4), .val (.int sv), .val (.int (1 : Int32)), .val (.int (1 : Int32)), .val (.int (1 : Int32)), .val (.int (2 : Int32)), .val (.ref af), .val (.ref al), .val (.ref ae), .val (.ref ac), .unset, .unset, .unset] at_141 rfl rfl ?_
        refine Own.aload H_1692 (pc := 143) at_143 rfl rfl ?_
        refine Own.iconst H_1692 (pc := 145) (0) at_145 rfl ?_
        refine Own.iload H_1692 (pc := 146) at_146 rfl ?_
        refine Own.iastore H_1692 (pc := 148) 0 at_148 A_1698 ge_ac rfl (by simp) (fun T_1700 h_1701 H_1699 W_1702 A_1703 => ?_)
        have A_1704 := A_1695.other W_1702 (by omega)
        have A_1705 := A_1696.other W_1702 (by omega)
        have A_1706 := A_1697.other W_1702 (by omega)
        have A_1707 : OAry Z h_1701 ac .int [(.int sv), (.int (0 : Int32)), (.int (0 : Int32))] := A_1703
        refine Own.aload H_1699 (pc := 149) at_149 rfl rfl ?_
        refine Own.iconst H_1699 (pc := 151) (1) at_151 rfl ?_
        refine Own.iload H_1699 (pc := 152) at_152 rfl ?_
        refine Own.iastore H_1699 (pc := 154) 1 at_154 A_1707 ge_ac rfl (by simp) (fun T_1709 h_1710 H_1708 W_1711 A_1712 => ?_)
        have A_1713 := A_1704.other W_1711 (by omega)
        have A_1714 := A_1705.other W_1711 (by omega)
        have A_1715 := A_1706.other W_1711 (by omega)
        have A_1716 : OAry Z h_1710 ac .int [(.int sv), (.int sv), (.int (0 : Int32))] := A_1712
        refine Own.aload H_1708 (pc := 155) at_155 rfl rfl ?_
        refine Own.iconst H_1708 (pc := 157) (2) at_157 rfl ?_
        refine Own.iload H_1708 (pc := 158) at_158 rfl ?_
        refine Own.iastore H_1708 (pc := 160) 2 at_160 A_1716 ge_ac rfl (by simp) (fun T_1718 h_1719 H_1717 W_1720 A_1721 => ?_)
        have A_1722 := A_1713.other W_1720 (by omega)
        have A_1723 := A_1714.other W_1720 (by omega)
        have A_1724 := A_1715.other W_1720 (by omega)
        have A_1725 : OAry Z h_1719 ac .int [(.int sv), (.int sv), (.int sv)] := A_1721
        refine Own.iconst H_1717 (pc := 161) (4) at_161 rfl ?_
        refine Own.newarray H_1717 (pc := 162) (i := 4) 4 at_162 (hw _ (List.mem_of_getElem? (i := 0) rfl)) rfl (by decide) (by decide) (by decide) (by decide) (by decide) (fun T_1727 h_1728 ar eq_ar ge_ar H_1726 Ext_ar Ary_ar => ?_)
        have lt_af_ar : af < ar := by have := A_1722.lt; omega
        have A_1729 := A_1722.ext Ext_ar
        have lt_al_ar : al < ar := by have := A_1723.lt; omega
        have A_1730 := A_1723.ext Ext_ar
        have lt_ae_ar : ae < ar := by have := A_1724.lt; omega
        have A_1731 := A_1724.ext Ext_ar
        have lt_ac_ar : ac < ar := by have := A_1725.lt; omega
        have A_1732 := A_1725.ext Ext_ar
        have A_1733 : OAry Z h_1728 ar .int [(.int (0 : Int32)), (.int (0 : Int32)), (.int (0 : Int32)), (.int (0 : Int32))] := Ary_ar
        refine Own.astore H_1726 (pc := 164) #[.val (.long p0), .second, .val (.long p1), .second, .val (.long p2), .second, .val (.long p3), .second, .val (.int p4), .val (.int sv), .val (.int (1 : Int32)), .val (.int (1 : Int32)), .val (.int (1 : Int32)), .val (.int (2 : Int32)), .val (.ref af), .val (.ref al), .val (.ref ae), .val (.ref ac), .val (.ref ar), .unset, .unset] at_164 rfl rfl ?_
        refine Own.iconst H_1726 (pc := 166) (4) at_166 rfl ?_
        refine Own.newarray H_1726 (pc := 167) (i := 4) 4 at_167 (hw _ (List.mem_of_getElem? (i := 0) rfl)) rfl (by decide) (by decide) (by decide) (by decide) (by decide) (fun T_1735 h_1736 as_ eq_as_ ge_as_ H_1734 Ext_as_ Ary_as_ => ?_)
        have lt_af_as_ : af < as_ := by have := A_1729.lt; omega
        have A_1737 := A_1729.ext Ext_as_
        have lt_al_as_ : al < as_ := by have := A_1730.lt; omega
        have A_1738 := A_1730.ext Ext_as_
        have lt_ae_as_ : ae < as_ := by have := A_1731.lt; omega
        have A_1739 := A_1731.ext Ext_as_
        have lt_ac_as_ : ac < as_ := by have := A_1732.lt; omega
        have A_1740 := A_1732.ext Ext_as_
        have lt_ar_as_ : ar < as_ := by have := A_1733.lt; omega
        have A_1741 := A_1733.ext Ext_as_
        have A_1742 : OAry Z h_1736 as_ .int [(.int (0 : Int32)), (.int (0 : Int32)), (.int (0 : Int32)), (.int (0 : Int32))] := Ary_as_
        refine Own.astore H_1734 (pc := 169) #[.val (.long p0), .second, .val (.long p1), .second, .val (.long p2), .second, .val (.long p3), .second, .val (.int p4), .val (.int sv), .val (.int (1 : Int32)), .val (.int (1 : Int32)), .val (.int (1 : Int32)), .val (.int (2 : Int32)), .val (.ref af), .val (.ref al), .val (.ref ae), .val (.ref ac), .val (.ref ar), .val (.ref as_), .unset] at_169 rfl rfl ?_
        refine Own.aload H_1734 (pc := 171) at_171 rfl rfl ?_
        refine Own.iconst H_1734 (pc := 173) (0) at_173 rfl ?_
        refine Own.iload H_1734 (pc := 174) at_174 rfl ?_
        refine Own.iastore H_1734 (pc := 176) 0 at_176 A_1741 ge_ar rfl (by simp) (fun T_1744 h_1745 H_1743 W_1746 A_1747 => ?_)
        have A_1748 := A_1737.other W_1746 (by omega)
        have A_1749 := A_1738.other W_1746 (by omega)
        have A_1750 := A_1739.other W_1746 (by omega)
        have A_1751 := A_1740.other W_1746 (by omega)
        have A_1752 : OAry Z h_1745 ar .int [(.int sv), (.int (0 : Int32)), (.int (0 : Int32)), (.int (0 : Int32))] := A_1747
        have A_1753 := A_1742.other W_1746 (by omega)
        refine Own.aload H_1743 (pc := 177) at_177 rfl rfl ?_
        refine Own.iconst H_1743 (pc := 179) (1) at_179 rfl ?_
        refine Own.iload H_1743 (pc := 180) at_180 rfl ?_
        refine Own.iastore H_1743 (pc := 182) 1 at_182 A_1752 ge_ar rfl (by simp) (fun T_1755 h_1756 H_1754 W_1757 A_1758 => ?_)
        have A_1759 := A_1748.other W_1757 (by omega)
        have A_1760 := A_1749.other W_1757 (by omega)
        have A_1761 := A_1750.other W_1757 (by omega)
        have A_1762 := A_1751.other W_1757 (by omega)
        have A_1763 : OAry Z h_1756 ar .int [(.int sv), (.int sv), (.int (0 : Int32)), (.int (0 : Int32))] := A_1758
        have A_1764 := A_1753.other W_1757 (by omega)
        refine Own.aload H_1754 (pc := 183) at_183 rfl rfl ?_
        refine Own.iconst H_1754 (pc := 185) (2) at_185 rfl ?_
        refine Own.iload H_1754 (pc := 186) at_186 rfl ?_
        refine Own.iastore H_1754 (pc := 188) 2 at_188 A_1763 ge_ar rfl (by simp) (fun T_1766 h_1767 H_1765 W_1768 A_1769 => ?_)
        have A_1770 := A_1759.other W_1768 (by omega)
        have A_1771 := A_1760.other W_1768 (by omega)
        have A_1772 := A_1761.other W_1768 (by omega)
        have A_1773 := A_1762.other W_1768 (by omega)
        have A_1774 : OAry Z h_1767 ar .int [(.int sv), (.int sv), (.int sv), (.int (0 : Int32))] := A_1769
        have A_1775 := A_1764.other W_1768 (by omega)
        refine Own.aload H_1765 (pc := 189) at_189 rfl rfl ?_
        refine Own.iconst H_1765 (pc := 191) (3) at_191 rfl ?_
        refine Own.iload H_1765 (pc := 192) at_192 rfl ?_
        refine Own.iastore H_1765 (pc := 194) 3 at_194 A_1774 ge_ar rfl (by simp) (fun T_1777 h_1778 H_1776 W_1779 A_1780 => ?_)
        have A_1781 := A_1770.other W_1779 (by omega)
        have A_1782 := A_1771.other W_1779 (by omega)
        have A_1783 := A_1772.other W_1779 (by omega)
        have A_1784 := A_1773.other W_1779 (by omega)
        have A_1785 : OAry Z h_1778 ar .int [(.int sv), (.int sv), (.int sv), (.int sv)] := A_1780
        have A_1786 := A_1775.other W_1779 (by omega)
        refine Own.aload H_1776 (pc := 195) at_195 rfl rfl ?_
        refine Own.iconst H_1776 (pc := 197) (0) at_197 rfl ?_
        refine Own.iload H_1776 (pc := 198) at_198 rfl ?_
        refine Own.iastore H_1776 (pc := 200) 0 at_200 A_1786 ge_as_ rfl (by simp) (fun T_1788 h_1789 H_1787 W_1790 A_1791 => ?_)
        have A_1792 := A_1781.other W_1790 (by omega)
        have A_1793 := A_1782.other W_1790 (by omega)
        have A_1794 := A_1783.other W_1790 (by omega)
        have A_1795 := A_1784.other W_1790 (by omega)
        have A_1796 := A_1785.other W_1790 (by omega)
        have A_1797 : OAry Z h_1789 as_ .int [(.int sv), (.int (0 : Int32)), (.int (0 : Int32)), (.int (0 : Int32))] := A_1791
        refine Own.aload H_1787 (pc := 201) at_201 rfl rfl ?_
        refine Own.iconst H_1787 (pc := 203) (1) at_203 rfl ?_
        refine Own.iload H_1787 (pc := 204) at_204 rfl ?_
        refine Own.iastore H_1787 (pc := 206) 1 at_206 A_1797 ge_as_ rfl (by simp) (fun T_1799 h_1800 H_1798 W_1801 A_1802 => ?_)
        have A_1803 := A_1792.other W_1801 (by omega)
        have A_1804 := A_1793.other W_1801 (by omega)
        have A_1805 := A_1794.other W_1801 (by omega)
        have A_1806 := A_1795.other W_1801 (by omega)
        have A_1807 := A_1796.other W_1801 (by omega)
        have A_1808 : OAry Z h_1800 as_ .int [(.int sv), (.int sv), (.int (0 : Int32)), (.int (0 : Int32))] := A_1802
        refine Own.aload H_1798 (pc := 207) at_207 rfl rfl ?_
        refine Own.iconst H_1798 (pc := 209) (2) at_209 rfl ?_
        refine Own.iload H_1798 (pc := 210) at_210 rfl ?_
        refine Own.iastore H_1798 (pc := 212) 2 at_212 A_1808 ge_as_ rfl (by simp) (fun T_1810 h_1811 H_1809 W_1812 A_1813 => ?_)
        have A_1814 := A_1803.other W_1812 (by omega)
        have A_1815 := A_1804.other W_1812 (by omega)
        have A_1816 := A_1805.other W_1812 (by omega)
        have A_1817 := A_1806.other W_1812 (by omega)
        have A_1818 := A_1807.other W_1812 (by omega)
        have A_1819 : OAry Z h_1811 as_ .int [(.int sv), (.int sv), (.int sv), (.int (0 : Int32))] := A_1813
        refine Own.aload H_1809 (pc := 213) at_213 rfl rfl ?_
        refine Own.iconst H_1809 (pc := 215) (3) at_215 rfl ?_
        refine Own.iload H_1809 (pc := 216) at_216 rfl ?_
        refine Own.iastore H_1809 (pc := 218) 3 at_218 A_1819 ge_as_ rfl (by simp) (fun T_1821 h_1822 H_1820 W_1823 A_1824 => ?_)
        have A_1825 := A_1814.other W_1823 (by omega)
        have A_1826 := A_1815.other W_1823 (by omega)
        have A_1827 := A_1816.other W_1823 (by omega)
        have A_1828 := A_1817.other W_1823 (by omega)
        have A_1829 := A_1818.other W_1823 (by omega)
        have A_1830 : OAry Z h_1822 as_ .int [(.int sv), (.int sv), (.int sv), (.int sv)] := A_1824
        refine Own.aload H_1820 (pc := 219) at_219 rfl rfl ?_
        refine Own.aload H_1820 (pc := 221) at_221 rfl rfl ?_
        refine Own.aload H_1820 (pc := 223) at_223 rfl rfl ?_
        refine Own.iload H_1820 (pc := 225) at_225 rfl ?_
        refine Own.aload H_1820 (pc := 227) at_227 rfl rfl ?_
        refine Own.aload H_1820 (pc := 229) at_229 rfl rfl ?_
        refine Own.aload H_1820 (pc := 231) at_231 rfl rfl ?_
        refine Own.callS H_1820 (pc := 233) (y := (⟨"termstone/postings/Impacts", "lay", "([I[I[II[I[I[I)V"⟩ : MethodName)) [(.ref af), (.ref al), (.ref ae), (.int (1 : Int32)), (.ref ac), (.ref ar), (.ref as_)] [] at_233 (hw _ (List.mem_of_getElem? (i := 1) rfl)) (hw _ (List.mem_of_getElem? (i := 2) rfl)) (hw _ (List.mem_of_getElem? (i := 3) rfl)) (hw _ (List.mem_of_getElem? (i := 4) rfl)) (by decide) (rm_lay111 l Z a0 hw af al ae (1 : Int32) ac ar as_ _ n0 H_1820.z0 (p0).toInt32 ((XT.ushrL p0 (32 : Int32))).toInt32 (p1).toInt32 ((XT.ushrL p1 (32 : Int32))).toInt32 (p2).toInt32 ((XT.ushrL p2 (32 : Int32))).toInt32 (p3).toInt32 ((XT.ushrL p3 (32 : Int32))).toInt32 sv A_1825 A_1826 A_1827 A_1828 A_1829 A_1830 lt_af_al lt_al_ae lt_ae_ac lt_ac_ar lt_ar_as_ ge_ac ge_ar ge_as_ rfl) (r := none) (ps := [(.array .int), (.array .int), (.array .int), .int, (.array .int), (.array .int), (.array .int)]) (by decide) rfl rfl 0 rfl (by decide) (by decide) (by decide) (by decide) rfl (fun T_1832 v_1834 h_1833 H_1831 z_1835 q_1836 => ?_)
        obtain ⟨rfl, C0, C1, C2, C3, C4, C5⟩ := q_1836
        show OEnds _ _ _ _ _ _ _ _ _ (mkF _ 236 #[.val (.long p0), .second, .val (.long p1), .second, .val (.long p2), .second, .val (.long p3), .second, .val (.int p4), .val (.int sv), .val (.int (1 : Int32)), .val (.int (1 : Int32)), .val (.int (1 : Int32)), .val (.int (2 : Int32)), .val (.ref af), .val (.ref al), .val (.ref ae), .val (.ref ac), .val (.ref ar), .val (.ref as_), .unset] [])
        refine Own.aload H_1831 (pc := 236) at_236 rfl rfl ?_
        refine Own.iconst H_1831 (pc := 238) (0) at_238 rfl ?_
        refine Own.iaload H_1831 (pc := 239) (v := (p0).toInt32) 0 at_239 C0 rfl rfl ?_
        refine Own.lload_n H_1831 (pc := 240) at_240 rfl ?_
        refine Own.l2i H_1831 (pc := 241) at_241 ?_
        refine Own.icmp_ne H_1831 (pc := 242) 349 at_242 (by decide) (by decide) (fun hX => absurd rfl hX) (fun _ => ?_)
        refine Own.aload H_1831 (pc := 245) at_245 rfl rfl ?_
        refine Own.iconst H_1831 (pc := 247) (1) at_247 rfl ?_
        refine Own.iaload H_1831 (pc := 248) (v := ((XT.ushrL p0 (32 : Int32))).toInt32) 1 at_248 C0 rfl rfl ?_
        refine Own.lload_n H_1831 (pc := 249) at_249 rfl ?_
        refine Own.bipush H_1831 (pc := 250) (32) at_250 rfl ?_
        refine Own.lushr H_1831 (pc := 252) at_252 ?_
        refine Own.l2i H_1831 (pc := 253) at_253 ?_
        refine Own.icmp_ne H_1831 (pc := 254) 349 at_254 (by decide) (by decide) (fun hX => absurd rfl hX) (fun _ => ?_)
        refine Own.aload H_1831 (pc := 257) at_257 rfl rfl ?_
        refine Own.iconst H_1831 (pc := 259) (2) at_259 rfl ?_
        refine Own.iaload H_1831 (pc := 260) (v := (p1).toInt32) 2 at_260 C0 rfl rfl ?_
        refine Own.lload_n H_1831 (pc := 261) at_261 rfl ?_
        refine Own.l2i H_1831 (pc := 262) at_262 ?_
        refine Own.icmp_ne H_1831 (pc := 263) 349 at_263 (by decide) (by decide) (fun hX => absurd rfl hX) (fun _ => ?_)
        refine Own.aload H_1831 (pc := 266) at_266 rfl rfl ?_
        refine Own.iconst H_1831 (pc := 268) (3) at_268 rfl ?_
        refine Own.iaload H_1831 (pc := 269) (v := ((XT.ushrL p1 (32 : Int32))).toInt32) 3 at_269 C0 rfl rfl ?_
        refine Own.lload_n H_1831 (pc := 270) at_270 rfl ?_
        refine Own.bipush H_1831 (pc := 271) (32) at_271 rfl ?_
        refine Own.lushr H_1831 (pc := 273) at_273 ?_
        refine Own.l2i H_1831 (pc := 274) at_274 ?_
        refine Own.icmp_ne H_1831 (pc := 275) 349 at_275 (by decide) (by decide) (fun hX => absurd rfl hX) (fun _ => ?_)
        refine Own.aload H_1831 (pc := 278) at_278 rfl rfl ?_
        refine Own.iconst H_1831 (pc := 280) (0) at_280 rfl ?_
        refine Own.iaload H_1831 (pc := 281) (v := (p2).toInt32) 0 at_281 C1 rfl rfl ?_
        refine Own.lload H_1831 (pc := 282) at_282 rfl ?_
        refine Own.l2i H_1831 (pc := 284) at_284 ?_
        refine Own.icmp_ne H_1831 (pc := 285) 349 at_285 (by decide) (by decide) (fun hX => absurd rfl hX) (fun _ => ?_)
        refine Own.aload H_1831 (pc := 288) at_288 rfl rfl ?_
        refine Own.iconst H_1831 (pc := 290) (1) at_290 rfl ?_
        refine Own.iaload H_1831 (pc := 291) (v := ((XT.ushrL p2 (32 : Int32))).toInt32) 1 at_291 C1 rfl rfl ?_
        refine Own.lload H_1831 (pc := 292) at_292 rfl ?_
        refine Own.bipush H_1831 (pc := 294) (32) at_294 rfl ?_
        refine Own.lushr H_1831 (pc := 296) at_296 ?_
        refine Own.l2i H_1831 (pc := 297) at_297 ?_
        refine Own.icmp_ne H_1831 (pc := 298) 349 at_298 (by decide) (by decide) (fun hX => absurd rfl hX) (fun _ => ?_)
        refine Own.aload H_1831 (pc := 301) at_301 rfl rfl ?_
        refine Own.iconst H_1831 (pc := 303) (2) at_303 rfl ?_
        refine Own.iaload H_1831 (pc := 304) (v := (p3).toInt32) 2 at_304 C1 rfl rfl ?_
        refine Own.lload H_1831 (pc := 305) at_305 rfl ?_
        refine Own.l2i H_1831 (pc := 307) at_307 ?_
        refine Own.icmp_ne H_1831 (pc := 308) 349 at_308 (by decide) (by decide) (fun hX => absurd rfl hX) (fun _ => ?_)
        refine Own.aload H_1831 (pc := 311) at_311 rfl rfl ?_
        refine Own.iconst H_1831 (pc := 313) (3) at_313 rfl ?_
        refine Own.iaload H_1831 (pc := 314) (v := ((XT.ushrL p3 (32 : Int32))).toInt32) 3 at_314 C1 rfl rfl ?_
        refine Own.lload H_1831 (pc := 315) at_315 rfl ?_
        refine Own.bipush H_1831 (pc := 317) (32) at_317 rfl ?_
        refine Own.lushr H_1831 (pc := 319) at_319 ?_
        refine Own.l2i H_1831 (pc := 320) at_320 ?_
        refine Own.icmp_ne H_1831 (pc := 321) 349 at_321 (by decide) (by decide) (fun hX => absurd rfl hX) (fun _ => ?_)
        refine Own.aload H_1831 (pc := 324) at_324 rfl rfl ?_
        refine Own.iconst H_1831 (pc := 326) (0) at_326 rfl ?_
        refine Own.iaload H_1831 (pc := 327) (v := (1 : Int32)) 0 at_327 C2 rfl rfl ?_
        refine Own.iload H_1831 (pc := 328) at_328 rfl ?_
        refine Own.icmp_ne H_1831 (pc := 330) 349 at_330 (by decide) (by decide) (fun hc => absurd hc (by decide)) (fun _ => ?_)
        refine Own.aload H_1831 (pc := 333) at_333 rfl rfl ?_
        refine Own.iconst H_1831 (pc := 335) (1) at_335 rfl ?_
        refine Own.iaload H_1831 (pc := 336) (v := (2 : Int32)) 1 at_336 C2 rfl rfl ?_
        refine Own.iload H_1831 (pc := 337) at_337 rfl ?_
        refine Own.iload H_1831 (pc := 339) at_339 rfl ?_
        refine Own.iadd_c H_1831 (pc := 341) (2) at_341 (by decide) ?_
        refine Own.icmp_ne H_1831 (pc := 342) 349 at_342 (by decide) (by decide) (fun hc => absurd hc (by decide)) (fun _ => ?_)
        refine Own.iconst H_1831 (pc := 345) (1) at_345 rfl ?_
        refine Own.goto H_1831 (pc := 346) 350 at_346 (by decide) (by decide) ?_
        refine Own.istore H_1831 (pc := 350) #[.val (.long p0), .second, .val (.long p1), .second, .val (.long p2), .second, .val (.long p3), .second, .val (.int p4), .val (.int sv), .val (.int (1 : Int32)), .val (.int (1 : Int32)), .val (.int (1 : Int32)), .val (.int (2 : Int32)), .val (.ref af), .val (.ref al), .val (.ref ae), .val (.ref ac), .val (.ref ar), .val (.ref as_), .val (.int (1 : Int32))] at_350 rfl ?_
        refine Own.iload H_1831 (pc := 352) at_352 rfl ?_
        refine Own.if_eq H_1831 (pc := 354) 378 at_354 (by decide) (by decide) (fun hc => absurd hc (by decide)) (fun _ => ?_)
        refine Own.aload H_1831 (pc := 357) at_357 rfl rfl ?_
        refine Own.aload H_1831 (pc := 359) at_359 rfl rfl ?_
        refine Own.aload H_1831 (pc := 361) at_361 rfl rfl ?_
        refine Own.aload H_1831 (pc := 363) at_363 rfl rfl ?_
        refine Own.iconst H_1831 (pc := 365) (0) at_365 rfl ?_
        refine Own.iload H_1831 (pc := 366) at_366 rfl ?_
        refine Own.callS H_1831 (pc := 368) (y := (⟨"termstone/postings/ImpactsLayPinLaw", "segment", "([I[I[I[III)Z"⟩ : MethodName)) [(.ref ar), (.ref as_), (.ref af), (.ref al), (.int (0 : Int32)), (.int (1 : Int32))] [] at_368 (hw _ (List.mem_of_getElem? (i := 5) rfl)) (hw _ (List.mem_of_getElem? (i := 6) rfl)) (hw _ (List.mem_of_getElem? (i := 7) rfl)) (hw _ (List.mem_of_getElem? (i := 8) rfl)) (by decide) (rm_seg l Z a0 hw ar as_ af al (0 : Int32) (1 : Int32) _ n0 H_1831.z0 [(((p0).toInt32 - (0 : Int32)) - (1 : Int32)), ((((XT.ushrL p0 (32 : Int32))).toInt32 - (0 : Int32)) - (1 : Int32)), sv, sv] [(((p2).toInt32 - (-1 : Int32)) - (1 : Int32)), ((((XT.ushrL p2 (32 : Int32))).toInt32 - (-1 : Int32)) - (1 : Int32)), sv, sv] [(p0).toInt32, ((XT.ushrL p0 (32 : Int32))).toInt32, (p1).toInt32, ((XT.ushrL p1 (32 : Int32))).toInt32] [(p2).toInt32, ((XT.ushrL p2 (32 : Int32))).toInt32, (p3).toInt32, ((XT.ushrL p3 (32 : Int32))).toInt32] C4 C5 C0 C1 rfl rfl rfl rfl 0 (by decide) rfl (own_a1 _) (own_a2 _) (fun q => absurd q (by decide))) (r := (some .boolean)) (ps := [(.array .int), (.array .int), (.array .int), (.array .int), .int, .int]) (by decide) rfl rfl 0 rfl (by decide) (by decide) (by decide) (by decide) rfl (fun T_1838 v_1840 h_1839 H_1837 z_1841 q_1842 => ?_)
        obtain ⟨rfl, rfl⟩ := q_1842
        show OEnds _ _ _ _ _ _ _ _ _ (mkF _ 371 #[.val (.long p0), .second, .val (.long p1), .second, .val (.long p2), .second, .val (.long p3), .second, .val (.int p4), .val (.int sv), .val (.int (1 : Int32)), .val (.int (1 : Int32)), .val (.int (1 : Int32)), .val (.int (2 : Int32)), .val (.ref af), .val (.ref al), .val (.ref ae), .val (.ref ac), .val (.ref ar), .val (.ref as_), .val (.int (1 : Int32))] [(.int (1 : Int32))])
        refine Own.if_eq H_1837 (pc := 371) 378 at_371 (by decide) (by decide) (fun hc => absurd hc (by decide)) (fun _ => ?_)
        refine Own.iconst H_1837 (pc := 374) (1) at_374 rfl ?_
        refine Own.goto H_1837 (pc := 375) 379 at_375 (by decide) (by decide) ?_
        refine Own.istore H_1837 (pc := 379) #[.val (.long p0), .second, .val (.long p1), .second, .val (.long p2), .second, .val (.long p3), .second, .val (.int p4), .val (.int sv), .val (.int (1 : Int32)), .val (.int (1 : Int32)), .val (.int (1 : Int32)), .val (.int (2 : Int32)), .val (.ref af), .val (.ref al), .val (.ref ae), .val (.ref ac), .val (.ref ar), .val (.ref as_), .val (.int (1 : Int32))] at_379 rfl ?_
        refine Own.iload H_1837 (pc := 381) at_381 rfl ?_
        refine Own.iconst H_1837 (pc := 383) (1) at_383 rfl ?_
        refine Own.icmp_ne H_1837 (pc := 384) 417 at_384 (by decide) (by decide) (fun hc => absurd hc (by decide)) (fun _ => ?_)
        refine Own.iload H_1837 (pc := 387) at_387 rfl ?_
        refine Own.if_eq H_1837 (pc := 389) 414 at_389 (by decide) (by decide) (fun hc => absurd hc (by decide)) (fun _ => ?_)
        refine Own.aload H_1837 (pc := 392) at_392 rfl rfl ?_
        refine Own.aload H_1837 (pc := 394) at_394 rfl rfl ?_
        refine Own.aload H_1837 (pc := 396) at_396 rfl rfl ?_
        refine Own.aload H_1837 (pc := 398) at_398 rfl rfl ?_
        refine Own.iload H_1837 (pc := 400) at_400 rfl ?_
        refine Own.iload H_1837 (pc := 402) at_402 rfl ?_
        refine Own.callS H_1837 (pc := 404) (y := (⟨"termstone/postings/ImpactsLayPinLaw", "segment", "([I[I[I[III)Z"⟩ : MethodName)) [(.ref ar), (.ref as_), (.ref af), (.ref al), (.int (1 : Int32)), (.int (1 : Int32))] [] at_404 (hw _ (List.mem_of_getElem? (i := 5) rfl)) (hw _ (List.mem_of_getElem? (i := 6) rfl)) (hw _ (List.mem_of_getElem? (i := 7) rfl)) (hw _ (List.mem_of_getElem? (i := 8) rfl)) (by decide) (rm_seg l Z a0 hw ar as_ af al (1 : Int32) (1 : Int32) _ n0 H_1837.z0 [(((p0).toInt32 - (0 : Int32)) - (1 : Int32)), ((((XT.ushrL p0 (32 : Int32))).toInt32 - (0 : Int32)) - (1 : Int32)), sv, sv] [(((p2).toInt32 - (-1 : Int32)) - (1 : Int32)), ((((XT.ushrL p2 (32 : Int32))).toInt32 - (-1 : Int32)) - (1 : Int32)), sv, sv] [(p0).toInt32, ((XT.ushrL p0 (32 : Int32))).toInt32, (p1).toInt32, ((XT.ushrL p1 (32 : Int32))).toInt32] [(p2).toInt32, ((XT.ushrL p2 (32 : Int32))).toInt32, (p3).toInt32, ((XT.ushrL p3 (32 : Int32))).toInt32] C4 C5 C0 C1 rfl rfl rfl rfl 1 (by decide) rfl (own_a1 _) (own_a2 _) (fun q => absurd q (by decide))) (r := (some .boolean)) (ps := [(.array .int), (.array .int), (.array .int), (.array .int), .int, .int]) (by decide) rfl rfl 0 rfl (by decide) (by decide) (by decide) (by decide) rfl (fun T_1844 v_1846 h_1845 H_1843 z_1847 q_1848 => ?_)
        obtain ⟨rfl, rfl⟩ := q_1848
        show OEnds _ _ _ _ _ _ _ _ _ (mkF _ 407 #[.val (.long p0), .second, .val (.long p1), .second, .val (.long p2), .second, .val (.long p3), .second, .val (.int p4), .val (.int sv), .val (.int (1 : Int32)), .val (.int (1 : Int32)), .val (.int (1 : Int32)), .val (.int (2 : Int32)), .val (.ref af), .val (.ref al), .val (.ref ae), .val (.ref ac), .val (.ref ar), .val (.ref as_), .val (.int (1 : Int32))] [(.int (1 : Int32))])
        refine Own.if_eq H_1843 (pc := 407) 414 at_407 (by decide) (by decide) (fun hc => absurd hc (by decide)) (fun _ => ?_)
        refine Own.iconst H_1843 (pc := 410) (1) at_410 rfl ?_
        refine Own.goto H_1843 (pc := 411) 415 at_411 (by decide) (by decide) ?_
        refine Own.istore H_1843 (pc := 415) #[.val (.long p0), .second, .val (.long p1), .second, .val (.long p2), .second, .val (.long p3), .second, .val (.int p4), .val (.int sv), .val (.int (1 : Int32)), .val (.int (1 : Int32)), .val (.int (1 : Int32)), .val (.int (2 : Int32)), .val (.ref af), .val (.ref al), .val (.ref ae), .val (.ref ac), .val (.ref ar), .val (.ref as_), .val (.int (1 : Int32))] at_415 rfl ?_
        refine Own.iload H_1843 (pc := 417) at_417 rfl ?_
        refine Own.if_eq H_1843 (pc := 419) 437 at_419 (by decide) (by decide) (fun hc => absurd hc (by decide)) (fun _ => ?_)
        refine Own.aload H_1843 (pc := 422) at_422 rfl rfl ?_
        refine Own.iconst H_1843 (pc := 424) (0) at_424 rfl ?_
        refine Own.iaload H_1843 (pc := 425) (v := (0 : Int32)) 0 at_425 C3 rfl rfl ?_
        refine Own.iload H_1843 (pc := 426) at_426 rfl ?_
        refine Own.iconst H_1843 (pc := 428) (1) at_428 rfl ?_
        refine Own.isub_c H_1843 (pc := 429) (0) at_429 (by decide) ?_
        refine Own.icmp_ne H_1843 (pc := 430) 437 at_430 (by decide) (by decide) (fun hc => absurd hc (by decide)) (fun _ => ?_)
        refine Own.iconst H_1843 (pc := 433) (1) at_433 rfl ?_
        refine Own.goto H_1843 (pc := 434) 438 at_434 (by decide) (by decide) ?_
        refine Own.istore H_1843 (pc := 438) #[.val (.long p0), .second, .val (.long p1), .second, .val (.long p2), .second, .val (.long p3), .second, .val (.int p4), .val (.int sv), .val (.int (1 : Int32)), .val (.int (1 : Int32)), .val (.int (1 : Int32)), .val (.int (2 : Int32)), .val (.ref af), .val (.ref al), .val (.ref ae), .val (.ref ac), .val (.ref ar), .val (.ref as_), .val (.int (1 : Int32))] at_438 rfl ?_
        refine Own.iload H_1843 (pc := 440) at_440 rfl ?_
        refine Own.if_eq H_1843 (pc := 442) 471 at_442 (by decide) (by decide) (fun hc => absurd hc (by decide)) (fun _ => ?_)
        refine Own.aload H_1843 (pc := 445) at_445 rfl rfl ?_
        refine Own.iconst H_1843 (pc := 447) (1) at_447 rfl ?_
        refine Own.iaload H_1843 (pc := 448) (v := (0 : Int32)) 1 at_448 C3 rfl rfl ?_
        refine Own.iload H_1843 (pc := 449) at_449 rfl ?_
        refine Own.iconst H_1843 (pc := 451) (1) at_451 rfl ?_
        refine Own.icmp_ne H_1843 (pc := 452) 462 at_452 (by decide) (by decide) (fun hc => absurd hc (by decide)) (fun _ => ?_)
        refine Own.iload H_1843 (pc := 455) at_455 rfl ?_
        refine Own.iconst H_1843 (pc := 457) (1) at_457 rfl ?_
        refine Own.isub_c H_1843 (pc := 458) (0) at_458 (by decide) ?_
        refine Own.goto H_1843 (pc := 459) 464 at_459 (by decide) (by decide) ?_
        refine Own.icmp_ne H_1843 (pc := 464) 471 at_464 (by decide) (by decide) (fun hc => absurd hc (by decide)) (fun _ => ?_)
        refine Own.iconst H_1843 (pc := 467) (1) at_467 rfl ?_
        refine Own.goto H_1843 (pc := 468) 472 at_468 (by decide) (by decide) ?_
        refine Own.istore H_1843 (pc := 472) #[.val (.long p0), .second, .val (.long p1), .second, .val (.long p2), .second, .val (.long p3), .second, .val (.int p4), .val (.int sv), .val (.int (1 : Int32)), .val (.int (1 : Int32)), .val (.int (1 : Int32)), .val (.int (2 : Int32)), .val (.ref af), .val (.ref al), .val (.ref ae), .val (.ref ac), .val (.ref ar), .val (.ref as_), .val (.int (1 : Int32))] at_472 rfl ?_
        refine Own.iload H_1843 (pc := 474) at_474 rfl ?_
        refine Own.if_eq H_1843 (pc := 476) 492 at_476 (by decide) (by decide) (fun hc => absurd hc (by decide)) (fun _ => ?_)
        refine Own.aload H_1843 (pc := 479) at_479 rfl rfl ?_
        refine Own.iconst H_1843 (pc := 481) (2) at_481 rfl ?_
        refine Own.iaload H_1843 (pc := 482) (v := sv) 2 at_482 C3 rfl rfl ?_
        refine Own.iload H_1843 (pc := 483) at_483 rfl ?_
        refine Own.icmp_ne H_1843 (pc := 485) 492 at_485 (by decide) (by decide) (fun hX => absurd rfl hX) (fun _ => ?_)
        refine Own.iconst H_1843 (pc := 488) (1) at_488 rfl ?_
        refine Own.goto H_1843 (pc := 489) 493 at_489 (by decide) (by decide) ?_
        refine Own.istore H_1843 (pc := 493) #[.val (.long p0), .second, .val (.long p1), .second, .val (.long p2), .second, .val (.long p3), .second, .val (.int p4), .val (.int sv), .val (.int (1 : Int32)), .val (.int (1 : Int32)), .val (.int (1 : Int32)), .val (.int (2 : Int32)), .val (.ref af), .val (.ref al), .val (.ref ae), .val (.ref ac), .val (.ref ar), .val (.ref as_), .val (.int (1 : Int32))] at_493 rfl ?_
        refine Own.iload H_1843 (pc := 495) at_495 rfl ?_
        refine Own.if_eq H_1843 (pc := 497) 543 at_497 (by decide) (by decide) (fun hc => absurd hc (by decide)) (fun _ => ?_)
        refine Own.aload H_1843 (pc := 500) at_500 rfl rfl ?_
        refine Own.iconst H_1843 (pc := 502) (1) at_502 rfl ?_
        refine Own.iload H_1843 (pc := 503) at_503 rfl ?_
        refine Own.iload H_1843 (pc := 505) at_505 rfl ?_
        refine Own.callS H_1843 (pc := 507) (y := (⟨"termstone/postings/ImpactsLayPinLaw", "untouched", "([IIII)Z"⟩ : MethodName)) [(.ref ar), (.int (1 : Int32)), (.int (2 : Int32)), (.int sv)] [] at_507 (hw _ (List.mem_of_getElem? (i := 9) rfl)) (hw _ (List.mem_of_getElem? (i := 10) rfl)) (hw _ (List.mem_of_getElem? (i := 7) rfl)) (hw _ (List.mem_of_getElem? (i := 11) rfl)) (by decide) (rm_unt l Z a0 hw ar (1 : Int32) (2 : Int32) sv _ n0 H_1843.z0 [(((p0).toInt32 - (0 : Int32)) - (1 : Int32)), ((((XT.ushrL p0 (32 : Int32))).toInt32 - (0 : Int32)) - (1 : Int32)), sv, sv] C4 1 (by simp) rfl (fun q => absurd (by decide) q)) (r := (some .boolean)) (ps := [(.array .int), .int, .int, .int]) (by decide) rfl rfl 0 rfl (by decide) (by decide) (by decide) (by decide) rfl (fun T_1850 v_1852 h_1851 H_1849 z_1853 q_1854 => ?_)
        obtain ⟨rfl, rfl⟩ := q_1854
        show OEnds _ _ _ _ _ _ _ _ _ (mkF _ 510 #[.val (.long p0), .second, .val (.long p1), .second, .val (.long p2), .second, .val (.long p3), .second, .val (.int p4), .val (.int sv), .val (.int (1 : Int32)), .val (.int (1 : Int32)), .val (.int (1 : Int32)), .val (.int (2 : Int32)), .val (.ref af), .val (.ref al), .val (.ref ae), .val (.ref ac), .val (.ref ar), .val (.ref as_), .val (.int (1 : Int32))] [(.int (1 : Int32))])
        refine Own.if_eq H_1849 (pc := 510) 543 at_510 (by decide) (by decide) (fun hc => absurd hc (by decide)) (fun _ => ?_)
        refine Own.aload H_1849 (pc := 513) at_513 rfl rfl ?_
        refine Own.iconst H_1849 (pc := 515) (2) at_515 rfl ?_
        refine Own.iload H_1849 (pc := 516) at_516 rfl ?_
        refine Own.iload H_1849 (pc := 518) at_518 rfl ?_
        refine Own.callS H_1849 (pc := 520) (y := (⟨"termstone/postings/ImpactsLayPinLaw", "untouched", "([IIII)Z"⟩ : MethodName)) [(.ref ar), (.int (2 : Int32)), (.int (2 : Int32)), (.int sv)] [] at_520 (hw _ (List.mem_of_getElem? (i := 9) rfl)) (hw _ (List.mem_of_getElem? (i := 10) rfl)) (hw _ (List.mem_of_getElem? (i := 7) rfl)) (hw _ (List.mem_of_getElem? (i := 11) rfl)) (by decide) (rm_unt l Z a0 hw ar (2 : Int32) (2 : Int32) sv _ n0 H_1849.z0 [(((p0).toInt32 - (0 : Int32)) - (1 : Int32)), ((((XT.ushrL p0 (32 : Int32))).toInt32 - (0 : Int32)) - (1 : Int32)), sv, sv] C4 2 (by simp) rfl (fun _ => rfl)) (r := (some .boolean)) (ps := [(.array .int), .int, .int, .int]) (by decide) rfl rfl 0 rfl (by decide) (by decide) (by decide) (by decide) rfl (fun T_1856 v_1858 h_1857 H_1855 z_1859 q_1860 => ?_)
        obtain ⟨rfl, rfl⟩ := q_1860
        show OEnds _ _ _ _ _ _ _ _ _ (mkF _ 523 #[.val (.long p0), .second, .val (.long p1), .second, .val (.long p2), .second, .val (.long p3), .second, .val (.int p4), .val (.int sv), .val (.int (1 : Int32)), .val (.int (1 : Int32)), .val (.int (1 : Int32)), .val (.int (2 : Int32)), .val (.ref af), .val (.ref al), .val (.ref ae), .val (.ref ac), .val (.ref ar), .val (.ref as_), .val (.int (1 : Int32))] [(.int (1 : Int32))])
        refine Own.if_eq H_1855 (pc := 523) 543 at_523 (by decide) (by decide) (fun hc => absurd hc (by decide)) (fun _ => ?_)
        refine Own.aload H_1855 (pc := 526) at_526 rfl rfl ?_
        refine Own.iconst H_1855 (pc := 528) (3) at_528 rfl ?_
        refine Own.iload H_1855 (pc := 529) at_529 rfl ?_
        refine Own.iload H_1855 (pc := 531) at_531 rfl ?_
        refine Own.callS H_1855 (pc := 533) (y := (⟨"termstone/postings/ImpactsLayPinLaw", "untouched", "([IIII)Z"⟩ : MethodName)) [(.ref ar), (.int (3 : Int32)), (.int (2 : Int32)), (.int sv)] [] at_533 (hw _ (List.mem_of_getElem? (i := 9) rfl)) (hw _ (List.mem_of_getElem? (i := 10) rfl)) (hw _ (List.mem_of_getElem? (i := 7) rfl)) (hw _ (List.mem_of_getElem? (i := 11) rfl)) (by decide) (rm_unt l Z a0 hw ar (3 : Int32) (2 : Int32) sv _ n0 H_1855.z0 [(((p0).toInt32 - (0 : Int32)) - (1 : Int32)), ((((XT.ushrL p0 (32 : Int32))).toInt32 - (0 : Int32)) - (1 : Int32)), sv, sv] C4 3 (by simp) rfl (fun _ => rfl)) (r := (some .boolean)) (ps := [(.array .int), .int, .int, .int]) (by decide) rfl rfl 0 rfl (by decide) (by decide) (by decide) (by decide) rfl (fun T_1862 v_1864 h_1863 H_1861 z_1865 q_1866 => ?_)
        obtain ⟨rfl, rfl⟩ := q_1866
        show OEnds _ _ _ _ _ _ _ _ _ (mkF _ 536 #[.val (.long p0), .second, .val (.long p1), .second, .val (.long p2), .second, .val (.long p3), .second, .val (.int p4), .val (.int sv), .val (.int (1 : Int32)), .val (.int (1 : Int32)), .val (.int (1 : Int32)), .val (.int (2 : Int32)), .val (.ref af), .val (.ref al), .val (.ref ae), .val (.ref ac), .val (.ref ar), .val (.ref as_), .val (.int (1 : Int32))] [(.int (1 : Int32))])
        refine Own.if_eq H_1861 (pc := 536) 543 at_536 (by decide) (by decide) (fun hc => absurd hc (by decide)) (fun _ => ?_)
        refine Own.iconst H_1861 (pc := 539) (1) at_539 rfl ?_
        refine Own.goto H_1861 (pc := 540) 544 at_540 (by decide) (by decide) ?_
        refine Own.istore H_1861 (pc := 544) #[.val (.long p0), .second, .val (.long p1), .second, .val (.long p2), .second, .val (.long p3), .second, .val (.int p4), .val (.int sv), .val (.int (1 : Int32)), .val (.int (1 : Int32)), .val (.int (1 : Int32)), .val (.int (2 : Int32)), .val (.ref af), .val (.ref al), .val (.ref ae), .val (.ref ac), .val (.ref ar), .val (.ref as_), .val (.int (1 : Int32))] at_544 rfl ?_
        refine Own.iload H_1861 (pc := 546) at_546 rfl ?_
        refine Own.if_eq H_1861 (pc := 548) 594 at_548 (by decide) (by decide) (fun hc => absurd hc (by decide)) (fun _ => ?_)
        refine Own.aload H_1861 (pc := 551) at_551 rfl rfl ?_
        refine Own.iconst H_1861 (pc := 553) (1) at_553 rfl ?_
        refine Own.iload H_1861 (pc := 554) at_554 rfl ?_
        refine Own.iload H_1861 (pc := 556) at_556 rfl ?_
        refine Own.callS H_1861 (pc := 558) (y := (⟨"termstone/postings/ImpactsLayPinLaw", "untouched", "([IIII)Z"⟩ : MethodName)) [(.ref as_), (.int (1 : Int32)), (.int (2 : Int32)), (.int sv)] [] at_558 (hw _ (List.mem_of_getElem? (i := 9) rfl)) (hw _ (List.mem_of_getElem? (i := 10) rfl)) (hw _ (List.mem_of_getElem? (i := 7) rfl)) (hw _ (List.mem_of_getElem? (i := 11) rfl)) (by decide) (rm_unt l Z a0 hw as_ (1 : Int32) (2 : Int32) sv _ n0 H_1861.z0 [(((p2).toInt32 - (-1 : Int32)) - (1 : Int32)), ((((XT.ushrL p2 (32 : Int32))).toInt32 - (-1 : Int32)) - (1 : Int32)), sv, sv] C5 1 (by simp) rfl (fun q => absurd (by decide) q)) (r := (some .boolean)) (ps := [(.array .int), .int, .int, .int]) (by decide) rfl rfl 0 rfl (by decide) (by decide) (by decide) (by decide) rfl (fun T_1868 v_1870 h_1869 H_1867 z_1871 q_1872 => ?_)
        obtain ⟨rfl, rfl⟩ := q_1872
        show OEnds _ _ _ _ _ _ _ _ _ (mkF _ 561 #[.val (.long p0), .second, .val (.long p1), .second, .val (.long p2), .second, .val (.long p3), .second, .val (.int p4), .val (.int sv), .val (.int (1 : Int32)), .val (.int (1 : Int32)), .val (.int (1 : Int32)), .val (.int (2 : Int32)), .val (.ref af), .val (.ref al), .val (.ref ae), .val (.ref ac), .val (.ref ar), .val (.ref as_), .val (.int (1 : Int32))] [(.int (1 : Int32))])
        refine Own.if_eq H_1867 (pc := 561) 594 at_561 (by decide) (by decide) (fun hc => absurd hc (by decide)) (fun _ => ?_)
        refine Own.aload H_1867 (pc := 564) at_564 rfl rfl ?_
        refine Own.iconst H_1867 (pc := 566) (2) at_566 rfl ?_
        refine Own.iload H_1867 (pc := 567) at_567 rfl ?_
        refine Own.iload H_1867 (pc := 569) at_569 rfl ?_
        refine Own.callS H_1867 (pc := 571) (y := (⟨"termstone/postings/ImpactsLayPinLaw", "untouched", "([IIII)Z"⟩ : MethodName)) [(.ref as_), (.int (2 : Int32)), (.int (2 : Int32)), (.int sv)] [] at_571 (hw _ (List.mem_of_getElem? (i := 9) rfl)) (hw _ (List.mem_of_getElem? (i := 10) rfl)) (hw _ (List.mem_of_getElem? (i := 7) rfl)) (hw _ (List.mem_of_getElem? (i := 11) rfl)) (by decide) (rm_unt l Z a0 hw as_ (2 : Int32) (2 : Int32) sv _ n0 H_1867.z0 [(((p2).toInt32 - (-1 : Int32)) - (1 : Int32)), ((((XT.ushrL p2 (32 : Int32))).toInt32 - (-1 : Int32)) - (1 : Int32)), sv, sv] C5 2 (by simp) rfl (fun _ => rfl)) (r := (some .boolean)) (ps := [(.array .int), .int, .int, .int]) (by decide) rfl rfl 0 rfl (by decide) (by decide) (by decide) (by decide) rfl (fun T_1874 v_1876 h_1875 H_1873 z_1877 q_1878 => ?_)
        obtain ⟨rfl, rfl⟩ := q_1878
        show OEnds _ _ _ _ _ _ _ _ _ (mkF _ 574 #[.val (.long p0), .second, .val (.long p1), .second, .val (.long p2), .second, .val (.long p3), .second, .val (.int p4), .val (.int sv), .val (.int (1 : Int32)), .val (.int (1 : Int32)), .val (.int (1 : Int32)), .val (.int (2 : Int32)), .val (.ref af), .val (.ref al), .val (.ref ae), .val (.ref ac), .val (.ref ar), .val (.ref as_), .val (.int (1 : Int32))] [(.int (1 : Int32))])
        refine Own.if_eq H_1873 (pc := 574) 594 at_574 (by decide) (by decide) (fun hc => absurd hc (by decide)) (fun _ => ?_)
        refine Own.aload H_1873 (pc := 577) at_577 rfl rfl ?_
        refine Own.iconst H_1873 (pc := 579) (3) at_579 rfl ?_
        refine Own.iload H_1873 (pc := 580) at_580 rfl ?_
        refine Own.iload H_1873 (pc := 582) at_582 rfl ?_
        refine Own.callS H_1873 (pc := 584) (y := (⟨"termstone/postings/ImpactsLayPinLaw", "untouched", "([IIII)Z"⟩ : MethodName)) [(.ref as_), (.int (3 : Int32)), (.int (2 : Int32)), (.int sv)] [] at_584 (hw _ (List.mem_of_getElem? (i := 9) rfl)) (hw _ (List.mem_of_getElem? (i := 10) rfl)) (hw _ (List.mem_of_getElem? (i := 7) rfl)) (hw _ (List.mem_of_getElem? (i := 11) rfl)) (by decide) (rm_unt l Z a0 hw as_ (3 : Int32) (2 : Int32) sv _ n0 H_1873.z0 [(((p2).toInt32 - (-1 : Int32)) - (1 : Int32)), ((((XT.ushrL p2 (32 : Int32))).toInt32 - (-1 : Int32)) - (1 : Int32)), sv, sv] C5 3 (by simp) rfl (fun _ => rfl)) (r := (some .boolean)) (ps := [(.array .int), .int, .int, .int]) (by decide) rfl rfl 0 rfl (by decide) (by decide) (by decide) (by decide) rfl (fun T_1880 v_1882 h_1881 H_1879 z_1883 q_1884 => ?_)
        obtain ⟨rfl, rfl⟩ := q_1884
        show OEnds _ _ _ _ _ _ _ _ _ (mkF _ 587 #[.val (.long p0), .second, .val (.long p1), .second, .val (.long p2), .second, .val (.long p3), .second, .val (.int p4), .val (.int sv), .val (.int (1 : Int32)), .val (.int (1 : Int32)), .val (.int (1 : Int32)), .val (.int (2 : Int32)), .val (.ref af), .val (.ref al), .val (.ref ae), .val (.ref ac), .val (.ref ar), .val (.ref as_), .val (.int (1 : Int32))] [(.int (1 : Int32))])
        refine Own.if_eq H_1879 (pc := 587) 594 at_587 (by decide) (by decide) (fun hc => absurd hc (by decide)) (fun _ => ?_)
        refine Own.iconst H_1879 (pc := 590) (1) at_590 rfl ?_
        refine Own.goto H_1879 (pc := 591) 595 at_591 (by decide) (by decide) ?_
        refine Own.istore H_1879 (pc := 595) #[.val (.long p0), .second, .val (.long p1), .second, .val (.long p2), .second, .val (.long p3), .second, .val (.int p4), .val (.int sv), .val (.int (1 : Int32)), .val (.int (1 : Int32)), .val (.int (1 : Int32)), .val (.int (2 : Int32)), .val (.ref af), .val (.ref al), .val (.ref ae), .val (.ref ac), .val (.ref ar), .val (.ref as_), .val (.int (1 : Int32))] at_595 rfl ?_
        refine Own.iload H_1879 (pc := 597) at_597 rfl ?_
        exact Own.ret_nar H_1879 (pc := 599) (1) at_599 rfl (by simp) (by decide) (by decide) (by decide) (rfl)
      · refine Own.iadd_c H (pc := 23) (2) at_23 (by decide) ?_
        refine Own.istore H (pc := 24) #[.val (.long p0), .second, .val (.long p1), .second, .val (.long p2), .second, .val (.long p3), .second, .val (.int p4), .val (.int sv), .val (.int (1 : Int32)), .val (.int (1 : Int32)), .val (.int (2 : Int32)), .unset, .unset, .unset, .unset, .unset, .unset, .unset, .unset] at_24 rfl ?_
        refine Own.iload H (pc := 26) at_26 rfl ?_
        refine Own.iconst H (pc := 28) (1) at_28 rfl ?_
        refine Own.icmp_ne H (pc := 29) 40 at_29 (by decide) (by decide) (fun hc => absurd hc (by decide)) (fun _ => ?_)
        refine Own.iload H (pc := 32) at_32 rfl ?_
        refine Own.iload H (pc := 34) at_34 rfl ?_
        refine Own.iadd_c H (pc := 36) (3) at_36 (by decide) ?_
        refine Own.goto H (pc := 37) 42 at_37 (by decide) (by decide) ?_
        refine Own.istore H (pc := 42) #[.val (.long p0), .second, .val (.long p1), .second, .val (.long p2), .second, .val (.long p3), .second, .val (.int p4), .val (.int sv), .val (.int (1 : Int32)), .val (.int (1 : Int32)), .val (.int (2 : Int32)), .val (.int (3 : Int32)), .unset, .unset, .unset, .unset, .unset, .unset, .unset] at_42 rfl ?_
        refine Own.iconst H (pc := 44) (4) at_44 rfl ?_
        refine Own.newarray H (pc := 45) (i := 4) 4 at_45 (hw _ (List.mem_of_getElem? (i := 0) rfl)) rfl (by decide) (by decide) (by decide) (by decide) (by decide) (fun T_1886 h_1887 af eq_af ge_af H_1885 Ext_af Ary_af => ?_)
        have A_1888 : OAry Z h_1887 af .int [(.int (0 : Int32)), (.int (0 : Int32)), (.int (0 : Int32)), (.int (0 : Int32))] := Ary_af
        refine Own.astore H_1885 (pc := 47) #[.val (.long p0), .second, .val (.long p1), .second, .val (.long p2), .second, .val (.long p3), .second, .val (.int p4), .val (.int sv), .val (.int (1 : Int32)), .val (.int (1 : Int32)), .val (.int (2 : Int32)), .val (.int (3 : Int32)), .val (.ref af), .unset, .unset, .unset, .unset, .unset, .unset] at_47 rfl rfl ?_
        refine Own.aload H_1885 (pc := 49) at_49 rfl rfl ?_
        refine Own.iconst H_1885 (pc := 51) (0) at_51 rfl ?_
        refine Own.lload_n H_1885 (pc := 52) at_52 rfl ?_
        refine Own.l2i H_1885 (pc := 53) at_53 ?_
        refine Own.iastore H_1885 (pc := 54) 0 at_54 A_1888 ge_af rfl (by simp) (fun T_1890 h_1891 H_1889 W_1892 A_1893 => ?_)
        have A_1894 : OAry Z h_1891 af .int [(.int (p0).toInt32), (.int (0 : Int32)), (.int (0 : Int32)), (.int (0 : Int32))] := A_1893
        refine Own.aload H_1889 (pc := 55) at_55 rfl rfl ?_
        refine Own.iconst H_1889 (pc := 57) (1) at_57 rfl ?_
        refine Own.lload_n H_1889 (pc := 58) at_58 rfl ?_
        refine Own.bipush H_1889 (pc := 59) (32) at_59 rfl ?_
        refine Own.lushr H_1889 (pc := 61) at_61 ?_
        refine Own.l2i H_1889 (pc := 62) at_62 ?_
        refine Own.iastore H_1889 (pc := 63) 1 at_63 A_1894 ge_af rfl (by simp) (fun T_1896 h_1897 H_1895 W_1898 A_1899 => ?_)
        have A_1900 : OAry Z h_1897 af .int [(.int (p0).toInt32), (.int ((XT.ushrL p0 (32 : Int32))).toInt32), (.int (0 : Int32)), (.int (0 : Int32))] := A_1899
        refine Own.aload H_1895 (pc := 64) at_64 rfl rfl ?_
        refine Own.iconst H_1895 (pc := 66) (2) at_66 rfl ?_
        refine Own.lload_n H_1895 (pc := 67) at_67 rfl ?_
        refine Own.l2i H_1895 (pc := 68) at_68 ?_
        refine Own.iastore H_1895 (pc := 69) 2 at_69 A_1900 ge_af rfl (by simp) (fun T_1902 h_1903 H_1901 W_1904 A_1905 => ?_)
        have A_1906 : OAry Z h_1903 af .int [(.int (p0).toInt32), (.int ((XT.ushrL p0 (32 : Int32))).toInt32), (.int (p1).toInt32), (.int (0 : Int32))] := A_1905
        refine Own.aload H_1901 (pc := 70) at_70 rfl rfl ?_
        refine Own.iconst H_1901 (pc := 72) (3) at_72 rfl ?_
        refine Own.lload_n H_1901 (pc := 73) at_73 rfl ?_
        refine Own.bipush H_1901 (pc := 74) (32) at_74 rfl ?_
        refine Own.lushr H_1901 (pc := 76) at_76 ?_
        refine Own.l2i H_1901 (pc := 77) at_77 ?_
        refine Own.iastore H_1901 (pc := 78) 3 at_78 A_1906 ge_af rfl (by simp) (fun T_1908 h_1909 H_1907 W_1910 A_1911 => ?_)
        have A_1912 : OAry Z h_1909 af .int [(.int (p0).toInt32), (.int ((XT.ushrL p0 (32 : Int32))).toInt32), (.int (p1).toInt32), (.int ((XT.ushrL p1 (32 : Int32))).toInt32)] := A_1911
        refine Own.iconst H_1907 (pc := 79) (4) at_79 rfl ?_
        refine Own.newarray H_1907 (pc := 80) (i := 4) 4 at_80 (hw _ (List.mem_of_getElem? (i := 0) rfl)) rfl (by decide) (by decide) (by decide) (by decide) (by decide) (fun T_1914 h_1915 al eq_al ge_al H_1913 Ext_al Ary_al => ?_)
        have lt_af_al : af < al := by have := A_1912.lt; omega
        have A_1916 := A_1912.ext Ext_al
        have A_1917 : OAry Z h_1915 al .int [(.int (0 : Int32)), (.int (0 : Int32)), (.int (0 : Int32)), (.int (0 : Int32))] := Ary_al
        refine Own.astore H_1913 (pc := 82) #[.val (.long p0), .second, .val (.long p1), .second, .val (.long p2), .second, .val (.long p3), .second, .val (.int p4), .val (.int sv), .val (.int (1 : Int32)), .val (.int (1 : Int32)), .val (.int (2 : Int32)), .val (.int (3 : Int32)), .val (.ref af), .val (.ref al), .unset, .unset, .unset, .unset, .unset] at_82 rfl rfl ?_
        refine Own.aload H_1913 (pc := 84) at_84 rfl rfl ?_
        refine Own.iconst H_1913 (pc := 86) (0) at_86 rfl ?_
        refine Own.lload H_1913 (pc := 87) at_87 rfl ?_
        refine Own.l2i H_1913 (pc := 89) at_89 ?_
        refine Own.iastore H_1913 (pc := 90) 0 at_90 A_1917 ge_al rfl (by simp) (fun T_1919 h_1920 H_1918 W_1921 A_1922 => ?_)
        have A_1923 := A_1916.other W_1921 (by omega)
        have A_1924 : OAry Z h_1920 al .int [(.int (p2).toInt32), (.int (0 : Int32)), (.int (0 : Int32)), (.int (0 : Int32))] := A_1922
        refine Own.aload H_1918 (pc := 91) at_91 rfl rfl ?_
        refine Own.iconst H_1918 (pc := 93) (1) at_93 rfl ?_
        refine Own.lload H_1918 (pc := 94) at_94 rfl ?_
        refine Own.bipush H_1918 (pc := 96) (32) at_96 rfl ?_
        refine Own.lushr H_1918 (pc := 98) at_98 ?_
        refine Own.l2i H_1918 (pc := 99) at_99 ?_
        refine Own.iastore H_1918 (pc := 100) 1 at_100 A_1924 ge_al rfl (by simp) (fun T_1926 h_1927 H_1925 W_1928 A_1929 => ?_)
        have A_1930 := A_1923.other W_1928 (by omega)
        have A_1931 : OAry Z h_1927 al .int [(.int (p2).toInt32), (.int ((XT.ushrL p2 (32 : Int32))).toInt32), (.int (0 : Int32)), (.int (0 : Int32))] := A_1929
        refine Own.aload H_1925 (pc := 101) at_101 rfl rfl ?_
        refine Own.iconst H_1925 (pc := 103) (2) at_103 rfl ?_
        refine Own.lload H_1925 (pc := 104) at_104 rfl ?_
        refine Own.l2i H_1925 (pc := 106) at_106 ?_
        refine Own.iastore H_1925 (pc := 107) 2 at_107 A_1931 ge_al rfl (by simp) (fun T_1933 h_1934 H_1932 W_1935 A_1936 => ?_)
        have A_1937 := A_1930.other W_1935 (by omega)
        have A_1938 : OAry Z h_1934 al .int [(.int (p2).toInt32), (.int ((XT.ushrL p2 (32 : Int32))).toInt32), (.int (p3).toInt32), (.int (0 : Int32))] := A_1936
        refine Own.aload H_1932 (pc := 108) at_108 rfl rfl ?_
        refine Own.iconst H_1932 (pc := 110) (3) at_110 rfl ?_
        refine Own.lload H_1932 (pc := 111) at_111 rfl ?_
        refine Own.bipush H_1932 (pc := 113) (32) at_113 rfl ?_
        refine Own.lushr H_1932 (pc := 115) at_115 ?_
        refine Own.l2i H_1932 (pc := 116) at_116 ?_
        refine Own.iastore H_1932 (pc := 117) 3 at_117 A_1938 ge_al rfl (by simp) (fun T_1940 h_1941 H_1939 W_1942 A_1943 => ?_)
        have A_1944 := A_1937.other W_1942 (by omega)
        have A_1945 : OAry Z h_1941 al .int [(.int (p2).toInt32), (.int ((XT.ushrL p2 (32 : Int32))).toInt32), (.int (p3).toInt32), (.int ((XT.ushrL p3 (32 : Int32))).toInt32)] := A_1943
        refine Own.iconst H_1939 (pc := 118) (2) at_118 rfl ?_
        refine Own.newarray H_1939 (pc := 119) (i := 2) 2 at_119 (hw _ (List.mem_of_getElem? (i := 0) rfl)) rfl (by decide) (by decide) (by decide) (by decide) (by decide) (fun T_1947 h_1948 ae eq_ae ge_ae H_1946 Ext_ae Ary_ae => ?_)
        have lt_af_ae : af < ae := by have := A_1944.lt; omega
        have A_1949 := A_1944.ext Ext_ae
        have lt_al_ae : al < ae := by have := A_1945.lt; omega
        have A_1950 := A_1945.ext Ext_ae
        have A_1951 : OAry Z h_1948 ae .int [(.int (0 : Int32)), (.int (0 : Int32))] := Ary_ae
        refine Own.astore H_1946 (pc := 121) #[.val (.long p0), .second, .val (.long p1), .second, .val (.long p2), .second, .val (.long p3), .second, .val (.int p4), .val (.int sv), .val (.int (1 : Int32)), .val (.int (1 : Int32)), .val (.int (2 : Int32)), .val (.int (3 : Int32)), .val (.ref af), .val (.ref al), .val (.ref ae), .unset, .unset, .unset, .unset] at_121 rfl rfl ?_
        refine Own.aload H_1946 (pc := 123) at_123 rfl rfl ?_
        refine Own.iconst H_1946 (pc := 125) (0) at_125 rfl ?_
        refine Own.iload H_1946 (pc := 126) at_126 rfl ?_
        refine Own.iastore H_1946 (pc := 128) 0 at_128 A_1951 ge_ae rfl (by simp) (fun T_1953 h_1954 H_1952 W_1955 A_1956 => ?_)
        have A_1957 := A_1949.other W_1955 (by omega)
        have A_1958 := A_1950.other W_1955 (by omega)
        have A_1959 : OAry Z h_1954 ae .int [(.int (1 : Int32)), (.int (0 : Int32))] := A_1956
        refine Own.aload H_1952 (pc := 129) at_129 rfl rfl ?_
        refine Own.iconst H_1952 (pc := 131) (1) at_131 rfl ?_
        refine Own.iload H_1952 (pc := 132) at_132 rfl ?_
        refine Own.iload H_1952 (pc := 134) at_134 rfl ?_
        refine Own.iadd_c H_1952 (pc := 136) (3) at_136 (by decide) ?_
        refine Own.iastore H_1952 (pc := 137) 1 at_137 A_1959 ge_ae rfl (by simp) (fun T_1961 h_1962 H_1960 W_1963 A_1964 => ?_)
        have A_1965 := A_1957.other W_1963 (by omega)
        have A_1966 := A_1958.other W_1963 (by omega)
        have A_1967 : OAry Z h_1962 ae .int [(.int (1 : Int32)), (.int (3 : Int32))] := A_1964
        refine Own.iconst H_1960 (pc := 138) (3) at_138 rfl ?_
        refine Own.newarray H_1960 (pc := 139) (i := 3) 3 at_139 (hw _ (List.mem_of_getElem? (i := 0) rfl)) rfl (by decide) (by decide) (by decide) (by decide) (by decide) (fun T_1969 h_1970 ac eq_ac ge_ac H_1968 Ext_ac Ary_ac => ?_)
        have lt_af_ac : af < ac := by have := A_1965.lt; omega
        have A_1971 := A_1965.ext Ext_ac
        have lt_al_ac : al < ac := by have := A_1966.lt; omega
        have A_1972 := A_1966.ext Ext_ac
        have lt_ae_ac : ae < ac := by have := A_1967.lt; omega
        have A_1973 := A_1967.ext Ext_ac
        have A_1974 : OAry Z h_1970 ac .int [(.int (0 : Int32)), (.int (0 : Int32)), (.int (0 : Int32))] := Ary_ac
        refine Own.astore H_1968 (pc := 141) #[.val (.long p0), .second, .val (.long p1), .second, .val (.long p2), .second, .val (.long p3), .second, .val (.int p4), .val (.int sv), .val (.int (1 : Int32)), .val (.int (1 : Int32)), .val (.int (2 : Int32)), .val (.int (3 : Int32)), .val (.ref af), .val (.ref al), .val (.ref ae), .val (.ref ac), .unset, .unset, .unset] at_141 rfl rfl ?_
        refine Own.aload H_1968 (pc := 143) at_143 rfl rfl ?_
        refine Own.iconst H_1968 (pc := 145) (0) at_145 rfl ?_
        refine Own.iload H_1968 (pc := 146) at_146 rfl ?_
        refine Own.iastore H_1968 (pc := 148) 0 at_148 A_1974 ge_ac rfl (by simp) (fun T_1976 h_1977 H_1975 W_1978 A_1979 => ?_)
        have A_1980 := A_1971.other W_1978 (by omega)
        have A_1981 := A_1972.other W_1978 (by omega)
        have A_1982 := A_1973.other W_1978 (by omega)
        have A_1983 : OAry Z h_1977 ac .int [(.int sv), (.int (0 : Int32)), (.int (0 : Int32))] := A_1979
        refine Own.aload H_1975 (pc := 149) at_149 rfl rfl ?_
        refine Own.iconst H_1975 (pc := 151) (1) at_151 rfl ?_
        refine Own.iload H_1975 (pc := 152) at_152 rfl ?_
        refine Own.iastore H_1975 (pc := 154) 1 at_154 A_1983 ge_ac rfl (by simp) (fun T_1985 h_1986 H_1984 W_1987 A_1988 => ?_)
        have A_1989 := A_1980.other W_1987 (by omega)
        have A_1990 := A_1981.other W_1987 (by omega)
        have A_1991 := A_1982.other W_1987 (by omega)
        have A_1992 : OAry Z h_1986 ac .int [(.int sv), (.int sv), (.int (0 : Int32))] := A_1988
        refine Own.aload H_1984 (pc := 155) at_155 rfl rfl ?_
        refine Own.iconst H_1984 (pc := 157) (2) at_157 rfl ?_
        refine Own.iload H_1984 (pc := 158) at_158 rfl ?_
        refine Own.iastore H_1984 (pc := 160) 2 at_160 A_1992 ge_ac rfl (by simp) (fun T_1994 h_1995 H_1993 W_1996 A_1997 => ?_)
        have A_1998 := A_1989.other W_1996 (by omega)
        have A_1999 := A_1990.other W_1996 (by omega)
        have A_2000 := A_1991.other W_1996 (by omega)
        have A_2001 : OAry Z h_1995 ac .int [(.int sv), (.int sv), (.int sv)] := A_1997
        refine Own.iconst H_1993 (pc := 161) (4) at_161 rfl ?_
        refine Own.newarray H_1993 (pc := 162) (i := 4) 4 at_162 (hw _ (List.mem_of_getElem? (i := 0) rfl)) rfl (by decide) (by decide) (by decide) (by decide) (by decide) (fun T_2003 h_2004 ar eq_ar ge_ar H_2002 Ext_ar Ary_ar => ?_)
        have lt_af_ar : af < ar := by have := A_1998.lt; omega
        have A_2005 := A_1998.ext Ext_ar
        have lt_al_ar : al < ar := by have := A_1999.lt; omega
        have A_2006 := A_1999.ext Ext_ar
        have lt_ae_ar : ae < ar := by have := A_2000.lt; omega
        have A_2007 := A_2000.ext Ext_ar
        have lt_ac_ar : ac < ar := by have := A_2001.lt; omega
        have A_2008 := A_2001.ext Ext_ar
        have A_2009 : OAry Z h_2004 ar .int [(.int (0 : Int32)), (.int (0 : Int32)), (.int (0 : Int32)), (.int (0 : Int32))] := Ary_ar
        refine Own.astore H_2002 (pc := 164) #[.val (.long p0), .second, .val (.long p1), .second, .val (.long p2), .second, .val (.long p3), .second, .val (.int p4), .val (.int sv), .val (.int (1 : Int32)), .val (.int (1 : Int32)), .val (.int (2 : Int32)), .val (.int (3 : Int32)), .val (.ref af), .val (.ref al), .val (.ref ae), .val (.ref ac), .val (.ref ar), .unset, .unset] at_164 rfl rfl ?_
        refine Own.iconst H_2002 (pc := 166) (4) at_166 rfl ?_
        refine Own.newarray H_2002 (pc := 167) (i := 4) 4 at_167 (hw _ (List.mem_of_getElem? (i := 0) rfl)) rfl (by decide) (by decide) (by decide) (by decide) (by decide) (fun T_2011 h_2012 as_ eq_as_ ge_as_ H_2010 Ext_as_ Ary_as_ => ?_)
        have lt_af_as_ : af < as_ := by have := A_2005.lt; omega
        have A_2013 := A_2005.ext Ext_as_
        have lt_al_as_ : al < as_ := by have := A_2006.lt; omega
        have A_2014 := A_2006.ext Ext_as_
        have lt_ae_as_ : ae < as_ := by have := A_2007.lt; omega
        have A_2015 := A_2007.ext Ext_as_
        have lt_ac_as_ : ac < as_ := by have := A_2008.lt; omega
        have A_2016 := A_2008.ext Ext_as_
        have lt_ar_as_ : ar < as_ := by have := A_2009.lt; omega
        have A_2017 := A_2009.ext Ext_as_
        have A_2018 : OAry Z h_2012 as_ .int [(.int (0 : Int32)), (.int (0 : Int32)), (.int (0 : Int32)), (.int (0 : Int32))] := Ary_as_
        refine Own.astore H_2010 (pc := 169) #[.val (.long p0), .second, .val (.long p1), .second, .val (.long p2), .second, .val (.long p3), .second, .val (.int p4), .val (.int sv), .val (.int (1 : Int32)), .val (.int (1 : Int32)), .val (.int (2 : Int32)), .val (.int (3 : Int32)), .val (.ref af), .val (.ref al), .val (.ref ae), .val (.ref ac), .val (.ref ar), .val (.ref as_), .unset] at_169 rfl rfl ?_
        refine Own.aload H_2010 (pc := 171) at_171 rfl rfl ?_
        refine Own.iconst H_2010 (pc := 173) (0) at_173 rfl ?_
        refine Own.iload H_2010 (pc := 174) at_174 rfl ?_
        refine Own.iastore H_2010 (pc := 176) 0 at_176 A_2017 ge_ar rfl (by simp) (fun T_2020 h_2021 H_2019 W_2022 A_2023 => ?_)
        have A_2024 := A_2013.other W_2022 (by omega)
        have A_2025 := A_2014.other W_2022 (by omega)
        have A_2026 := A_2015.other W_2022 (by omega)
        have A_2027 := A_2016.other W_2022 (by omega)
        have A_2028 : OAry Z h_2021 ar .int [(.int sv), (.int (0 : Int32)), (.int (0 : Int32)), (.int (0 : Int32))] := A_2023
        have A_2029 := A_2018.other W_2022 (by omega)
        refine Own.aload H_2019 (pc := 177) at_177 rfl rfl ?_
        refine Own.iconst H_2019 (pc := 179) (1) at_179 rfl ?_
        refine Own.iload H_2019 (pc := 180) at_180 rfl ?_
        refine Own.iastore H_2019 (pc := 182) 1 at_182 A_2028 ge_ar rfl (by simp) (fun T_2031 h_2032 H_2030 W_2033 A_2034 => ?_)
        have A_2035 := A_2024.other W_2033 (by omega)
        have A_2036 := A_2025.other W_2033 (by omega)
        have A_2037 := A_2026.other W_2033 (by omega)
        have A_2038 := A_2027.other W_2033 (by omega)
        have A_2039 : OAry Z h_2032 ar .int [(.int sv), (.int sv), (.int (0 : Int32)), (.int (0 : Int32))] := A_2034
        have A_2040 := A_2029.other W_2033 (by omega)
        refine Own.aload H_2030 (pc := 183) at_183 rfl rfl ?_
        refine Own.iconst H_2030 (pc := 185) (2) at_185 rfl ?_
        refine Own.iload H_2030 (pc := 186) at_186 rfl ?_
        refine Own.iastore H_2030 (pc := 188) 2 at_188 A_2039 ge_ar rfl (by simp) (fun T_2042 h_2043 H_2041 W_2044 A_2045 => ?_)
        have A_2046 := A_2035.other W_2044 (by omega)
        have A_2047 := A_2036.other W_2044 (by omega)
        have A_2048 := A_2037.other W_2044 (by omega)
        have A_2049 := A_2038.other W_2044 (by omega)
        have A_2050 : OAry Z h_2043 ar .int [(.int sv), (.int sv), (.int sv), (.int (0 : Int32))] := A_2045
        have A_2051 := A_2040.other W_2044 (by omega)
        refine Own.aload H_2041 (pc := 189) at_189 rfl rfl ?_
        refine Own.iconst H_2041 (pc := 191) (3) at_191 rfl ?_
        refine Own.iload H_2041 (pc := 192) at_192 rfl ?_
        refine Own.iastore H_2041 (pc := 194) 3 at_194 A_2050 ge_ar rfl (by simp) (fun T_2053 h_2054 H_2052 W_2055 A_2056 => ?_)
        have A_2057 := A_2046.other W_2055 (by omega)
        have A_2058 := A_2047.other W_2055 (by omega)
        have A_2059 := A_2048.other W_2055 (by omega)
        have A_2060 := A_2049.other W_2055 (by omega)
        have A_2061 : OAry Z h_2054 ar .int [(.int sv), (.int sv), (.int sv), (.int sv)] := A_2056
        have A_2062 := A_2051.other W_2055 (by omega)
        refine Own.aload H_2052 (pc := 195) at_195 rfl rfl ?_
        refine Own.iconst H_2052 (pc := 197) (0) at_197 rfl ?_
        refine Own.iload H_2052 (pc := 198) at_198 rfl ?_
        refine Own.iastore H_2052 (pc := 200) 0 at_200 A_2062 ge_as_ rfl (by simp) (fun T_2064 h_2065 H_2063 W_2066 A_2067 => ?_)
        have A_2068 := A_2057.other W_2066 (by omega)
        have A_2069 := A_2058.other W_2066 (by omega)
        have A_2070 := A_2059.other W_2066 (by omega)
        have A_2071 := A_2060.other W_2066 (by omega)
        have A_2072 := A_2061.other W_2066 (by omega)
        have A_2073 : OAry Z h_2065 as_ .int [(.int sv), (.int (0 : Int32)), (.int (0 : Int32)), (.int (0 : Int32))] := A_2067
        refine Own.aload H_2063 (pc := 201) at_201 rfl rfl ?_
        refine Own.iconst H_2063 (pc := 203) (1) at_203 rfl ?_
        refine Own.iload H_2063 (pc := 204) at_204 rfl ?_
        refine Own.iastore H_2063 (pc := 206) 1 at_206 A_2073 ge_as_ rfl (by simp) (fun T_2075 h_2076 H_2074 W_2077 A_2078 => ?_)
        have A_2079 := A_2068.other W_2077 (by omega)
        have A_2080 := A_2069.other W_2077 (by omega)
        have A_2081 := A_2070.other W_2077 (by omega)
        have A_2082 := A_2071.other W_2077 (by omega)
        have A_2083 := A_2072.other W_2077 (by omega)
        have A_2084 : OAry Z h_2076 as_ .int [(.int sv), (.int sv), (.int (0 : Int32)), (.int (0 : Int32))] := A_2078
        refine Own.aload H_2074 (pc := 207) at_207 rfl rfl ?_
        refine Own.iconst H_2074 (pc := 209) (2) at_209 rfl ?_
        refine Own.iload H_2074 (pc := 210) at_210 rfl ?_
        refine Own.iastore H_2074 (pc := 212) 2 at_212 A_2084 ge_as_ rfl (by simp) (fun T_2086 h_2087 H_2085 W_2088 A_2089 => ?_)
        have A_2090 := A_2079.other W_2088 (by omega)
        have A_2091 := A_2080.other W_2088 (by omega)
        have A_2092 := A_2081.other W_2088 (by omega)
        have A_2093 := A_2082.other W_2088 (by omega)
        have A_2094 := A_2083.other W_2088 (by omega)
        have A_2095 : OAry Z h_2087 as_ .int [(.int sv), (.int sv), (.int sv), (.int (0 : Int32))] := A_2089
        refine Own.aload H_2085 (pc := 213) at_213 rfl rfl ?_
        refine Own.iconst H_2085 (pc := 215) (3) at_215 rfl ?_
        refine Own.iload H_2085 (pc := 216) at_216 rfl ?_
        refine Own.iastore H_2085 (pc := 218) 3 at_218 A_2095 ge_as_ rfl (by simp) (fun T_2097 h_2098 H_2096 W_2099 A_2100 => ?_)
        have A_2101 := A_2090.other W_2099 (by omega)
        have A_2102 := A_2091.other W_2099 (by omega)
        have A_2103 := A_2092.other W_2099 (by omega)
        have A_2104 := A_2093.other W_2099 (by omega)
        have A_2105 := A_2094.other W_2099 (by omega)
        have A_2106 : OAry Z h_2098 as_ .int [(.int sv), (.int sv), (.int sv), (.int sv)] := A_2100
        refine Own.aload H_2096 (pc := 219) at_219 rfl rfl ?_
        refine Own.aload H_2096 (pc := 221) at_221 rfl rfl ?_
        refine Own.aload H_2096 (pc := 223) at_223 rfl rfl ?_
        refine Own.iload H_2096 (pc := 225) at_225 rfl ?_
        refine Own.aload H_2096 (pc := 227) at_227 rfl rfl ?_
        refine Own.aload H_2096 (pc := 229) at_229 rfl rfl ?_
        refine Own.aload H_2096 (pc := 231) at_231 rfl rfl ?_
        refine Own.callS H_2096 (pc := 233) (y := (⟨"termstone/postings/Impacts", "lay", "([I[I[II[I[I[I)V"⟩ : MethodName)) [(.ref af), (.ref al), (.ref ae), (.int (1 : Int32)), (.ref ac), (.ref ar), (.ref as_)] [] at_233 (hw _ (List.mem_of_getElem? (i := 1) rfl)) (hw _ (List.mem_of_getElem? (i := 2) rfl)) (hw _ (List.mem_of_getElem? (i := 3) rfl)) (hw _ (List.mem_of_getElem? (i := 4) rfl)) (by decide) (rm_lay112 l Z a0 hw af al ae (1 : Int32) ac ar as_ _ n0 H_2096.z0 (p0).toInt32 ((XT.ushrL p0 (32 : Int32))).toInt32 (p1).toInt32 ((XT.ushrL p1 (32 : Int32))).toInt32 (p2).toInt32 ((XT.ushrL p2 (32 : Int32))).toInt32 (p3).toInt32 ((XT.ushrL p3 (32 : Int32))).toInt32 sv A_2101 A_2102 A_2103 A_2104 A_2105 A_2106 lt_af_al lt_al_ae lt_ae_ac lt_ac_ar lt_ar_as_ ge_ac ge_ar ge_as_ rfl) (r := none) (ps := [(.array .int), (.array .int), (.array .int), .int, (.array .int), (.array .int), (.array .int)]) (by decide) rfl rfl 0 rfl (by decide) (by decide) (by decide) (by decide) rfl (fun T_2108 v_2110 h_2109 H_2107 z_2111 q_2112 => ?_)
        obtain ⟨rfl, C0, C1, C2, C3, C4, C5⟩ := q_2112
        show OEnds _ _ _ _ _ _ _ _ _ (mkF _ 236 #[.val (.long p0), .second, .val (.long p1), .second, .val (.long p2), .second, .val (.long p3), .second, .val (.int p4), .val (.int sv), .val (.int (1 : Int32)), .val (.int (1 : Int32)), .val (.int (2 : Int32)), .val (.int (3 : Int32)), .val (.ref af), .val (.ref al), .val (.ref ae), .val (.ref ac), .val (.ref ar), .val (.ref as_), .unset] [])
        refine Own.aload H_2107 (pc := 236) at_236 rfl rfl ?_
        refine Own.iconst H_2107 (pc := 238) (0) at_238 rfl ?_
        refine Own.iaload H_2107 (pc := 239) (v := (p0).toInt32) 0 at_239 C0 rfl rfl ?_
        refine Own.lload_n H_2107 (pc := 240) at_240 rfl ?_
        refine Own.l2i H_2107 (pc := 241) at_241 ?_
        refine Own.icmp_ne H_2107 (pc := 242) 349 at_242 (by decide) (by decide) (fun hX => absurd rfl hX) (fun _ => ?_)
        refine Own.aload H_2107 (pc := 245) at_245 rfl rfl ?_
        refine Own.iconst H_2107 (pc := 247) (1) at_247 rfl ?_
        refine Own.iaload H_2107 (pc := 248) (v := ((XT.ushrL p0 (32 : Int32))).toInt32) 1 at_248 C0 rfl rfl ?_
        refine Own.lload_n H_2107 (pc := 249) at_249 rfl ?_
        refine Own.bipush H_2107 (pc := 250) (32) at_250 rfl ?_
        refine Own.lushr H_2107 (pc := 252) at_252 ?_
        refine Own.l2i H_2107 (pc := 253) at_253 ?_
        refine Own.icmp_ne H_2107 (pc := 254) 349 at_254 (by decide) (by decide) (fun hX => absurd rfl hX) (fun _ => ?_)
        refine Own.aload H_2107 (pc := 257) at_257 rfl rfl ?_
        refine Own.iconst H_2107 (pc := 259) (2) at_259 rfl ?_
        refine Own.iaload H_2107 (pc := 260) (v := (p1).toInt32) 2 at_260 C0 rfl rfl ?_
        refine Own.lload_n H_2107 (pc := 261) at_261 rfl ?_
        refine Own.l2i H_2107 (pc := 262) at_262 ?_
        refine Own.icmp_ne H_2107 (pc := 263) 349 at_263 (by decide) (by decide) (fun hX => absurd rfl hX) (fun _ => ?_)
        refine Own.aload H_2107 (pc := 266) at_266 rfl rfl ?_
        refine Own.iconst H_2107 (pc := 268) (3) at_268 rfl ?_
        refine Own.iaload H_2107 (pc := 269) (v := ((XT.ushrL p1 (32 : Int32))).toInt32) 3 at_269 C0 rfl rfl ?_
        refine Own.lload_n H_2107 (pc := 270) at_270 rfl ?_
        refine Own.bipush H_2107 (pc := 271) (32) at_271 rfl ?_
        refine Own.lushr H_2107 (pc := 273) at_273 ?_
        refine Own.l2i H_2107 (pc := 274) at_274 ?_
        refine Own.icmp_ne H_2107 (pc := 275) 349 at_275 (by decide) (by decide) (fun hX => absurd rfl hX) (fun _ => ?_)
        refine Own.aload H_2107 (pc := 278) at_278 rfl rfl ?_
        refine Own.iconst H_2107 (pc := 280) (0) at_280 rfl ?_
        refine Own.iaload H_2107 (pc := 281) (v := (p2).toInt32) 0 at_281 C1 rfl rfl ?_
        refine Own.lload H_2107 (pc := 282) at_282 rfl ?_
        refine Own.l2i H_2107 (pc := 284) at_284 ?_
        refine Own.icmp_ne H_2107 (pc := 285) 349 at_285 (by decide) (by decide) (fun hX => absurd rfl hX) (fun _ => ?_)
        refine Own.aload H_2107 (pc := 288) at_288 rfl rfl ?_
        refine Own.iconst H_2107 (pc := 290) (1) at_290 rfl ?_
        refine Own.iaload H_2107 (pc := 291) (v := ((XT.ushrL p2 (32 : Int32))).toInt32) 1 at_291 C1 rfl rfl ?_
        refine Own.lload H_2107 (pc := 292) at_292 rfl ?_
        refine Own.bipush H_2107 (pc := 294) (32) at_294 rfl ?_
        refine Own.lushr H_2107 (pc := 296) at_296 ?_
        refine Own.l2i H_2107 (pc := 297) at_297 ?_
        refine Own.icmp_ne H_2107 (pc := 298) 349 at_298 (by decide) (by decide) (fun hX => absurd rfl hX) (fun _ => ?_)
        refine Own.aload H_2107 (pc := 301) at_301 rfl rfl ?_
        refine Own.iconst H_2107 (pc := 303) (2) at_303 rfl ?_
        refine Own.iaload H_2107 (pc := 304) (v := (p3).toInt32) 2 at_304 C1 rfl rfl ?_
        refine Own.lload H_2107 (pc := 305) at_305 rfl ?_
        refine Own.l2i H_2107 (pc := 307) at_307 ?_
        refine Own.icmp_ne H_2107 (pc := 308) 349 at_308 (by decide) (by decide) (fun hX => absurd rfl hX) (fun _ => ?_)
        refine Own.aload H_2107 (pc := 311) at_311 rfl rfl ?_
        refine Own.iconst H_2107 (pc := 313) (3) at_313 rfl ?_
        refine Own.iaload H_2107 (pc := 314) (v := ((XT.ushrL p3 (32 : Int32))).toInt32) 3 at_314 C1 rfl rfl ?_
        refine Own.lload H_2107 (pc := 315) at_315 rfl ?_
        refine Own.bipush H_2107 (pc := 317) (32) at_317 rfl ?_
        refine Own.lushr H_2107 (pc := 319) at_319 ?_
        refine Own.l2i H_2107 (pc := 320) at_320 ?_
        refine Own.icmp_ne H_2107 (pc := 321) 349 at_321 (by decide) (by decide) (fun hX => absurd rfl hX) (fun _ => ?_)
        refine Own.aload H_2107 (pc := 324) at_324 rfl rfl ?_
        refine Own.iconst H_2107 (pc := 326) (0) at_326 rfl ?_
        refine Own.iaload H_2107 (pc := 327) (v := (1 : Int32)) 0 at_327 C2 rfl rfl ?_
        refine Own.iload H_2107 (pc := 328) at_328 rfl ?_
        refine Own.icmp_ne H_2107 (pc := 330) 349 at_330 (by decide) (by decide) (fun hc => absurd hc (by decide)) (fun _ => ?_)
        refine Own.aload H_2107 (pc := 333) at_333 rfl rfl ?_
        refine Own.iconst H_2107 (pc := 335) (1) at_335 rfl ?_
        refine Own.iaload H_2107 (pc := 336) (v := (3 : Int32)) 1 at_336 C2 rfl rfl ?_
        refine Own.iload H_2107 (pc := 337) at_337 rfl ?_
        refine Own.iload H_2107 (pc := 339) at_339 rfl ?_
        refine Own.iadd_c H_2107 (pc := 341) (3) at_341 (by decide) ?_
        refine Own.icmp_ne H_2107 (pc := 342) 349 at_342 (by decide) (by decide) (fun hc => absurd hc (by decide)) (fun _ => ?_)
        refine Own.iconst H_2107 (pc := 345) (1) at_345 rfl ?_
        refine Own.goto H_2107 (pc := 346) 350 at_346 (by decide) (by decide) ?_
        refine Own.istore H_2107 (pc := 350) #[.val (.long p0), .second, .val (.long p1), .second, .val (.long p2), .second, .val (.long p3), .second, .val (.int p4), .val (.int sv), .val (.int (1 : Int32)), .val (.int (1 : Int32)), .val (.int (2 : Int32)), .val (.int (3 : Int32)), .val (.ref af), .val (.ref al), .val (.ref ae), .val (.ref ac), .val (.ref ar), .val (.ref as_), .val (.int (1 : Int32))] at_350 rfl ?_
        refine Own.iload H_2107 (pc := 352) at_352 rfl ?_
        refine Own.if_eq H_2107 (pc := 354) 378 at_354 (by decide) (by decide) (fun hc => absurd hc (by decide)) (fun _ => ?_)
        refine Own.aload H_2107 (pc := 357) at_357 rfl rfl ?_
        refine Own.aload H_2107 (pc := 359) at_359 rfl rfl ?_
        refine Own.aload H_2107 (pc := 361) at_361 rfl rfl ?_
        refine Own.aload H_2107 (pc := 363) at_363 rfl rfl ?_
        refine Own.iconst H_2107 (pc := 365) (0) at_365 rfl ?_
        refine Own.iload H_2107 (pc := 366) at_366 rfl ?_
        refine Own.callS H_2107 (pc := 368) (y := (⟨"termstone/postings/ImpactsLayPinLaw", "segment", "([I[I[I[III)Z"⟩ : MethodName)) [(.ref ar), (.ref as_), (.ref af), (.ref al), (.int (0 : Int32)), (.int (1 : Int32))] [] at_368 (hw _ (List.mem_of_getElem? (i := 5) rfl)) (hw _ (List.mem_of_getElem? (i := 6) rfl)) (hw _ (List.mem_of_getElem? (i := 7) rfl)) (hw _ (List.mem_of_getElem? (i := 8) rfl)) (by decide) (rm_seg l Z a0 hw ar as_ af al (0 : Int32) (1 : Int32) _ n0 H_2107.z0 [(((p0).toInt32 - (0 : Int32)) - (1 : Int32)), ((((XT.ushrL p0 (32 : Int32))).toInt32 - (0 : Int32)) - (1 : Int32)), (((p1).toInt32 - ((XT.ushrL p0 (32 : Int32))).toInt32) - (1 : Int32)), sv] [(((p2).toInt32 - (-1 : Int32)) - (1 : Int32)), ((((XT.ushrL p2 (32 : Int32))).toInt32 - (-1 : Int32)) - (1 : Int32)), (((p3).toInt32 - ((XT.ushrL p2 (32 : Int32))).toInt32) - (1 : Int32)), sv] [(p0).toInt32, ((XT.ushrL p0 (32 : Int32))).toInt32, (p1).toInt32, ((XT.ushrL p1 (32 : Int32))).toInt32] [(p2).toInt32, ((XT.ushrL p2 (32 : Int32))).toInt32, (p3).toInt32, ((XT.ushrL p3 (32 : Int32))).toInt32] C4 C5 C0 C1 rfl rfl rfl rfl 0 (by decide) rfl (own_a1 _) (own_a2 _) (fun q => absurd q (by decide))) (r := (some .boolean)) (ps := [(.array .int), (.array .int), (.array .int), (.array .int), .int, .int]) (by decide) rfl rfl 0 rfl (by decide) (by decide) (by decide) (by decide) rfl (fun T_2114 v_2116 h_2115 H_2113 z_2117 q_2118 => ?_)
        obtain ⟨rfl, rfl⟩ := q_2118
        show OEnds _ _ _ _ _ _ _ _ _ (mkF _ 371 #[.val (.long p0), .second, .val (.long p1), .second, .val (.long p2), .second, .val (.long p3), .second, .val (.int p4), .val (.int sv), .val (.int (1 : Int32)), .val (.int (1 : Int32)), .val (.int (2 : Int32)), .val (.int (3 : Int32)), .val (.ref af), .val (.ref al), .val (.ref ae), .val (.ref ac), .val (.ref ar), .val (.ref as_), .val (.int (1 : Int32))] [(.int (1 : Int32))])
        refine Own.if_eq H_2113 (pc := 371) 378 at_371 (by decide) (by decide) (fun hc => absurd hc (by decide)) (fun _ => ?_)
        refine Own.iconst H_2113 (pc := 374) (1) at_374 rfl ?_
        refine Own.goto H_2113 (pc := 375) 379 at_375 (by decide) (by decide) ?_
        refine Own.istore H_2113 (pc := 379) #[.val (.long p0), .second, .val (.long p1), .second, .val (.long p2), .second, .val (.long p3), .second, .val (.int p4), .val (.int sv), .val (.int (1 : Int32)), .val (.int (1 : Int32)), .val (.int (2 : Int32)), .val (.int (3 : Int32)), .val (.ref af), .val (.ref al), .val (.ref ae), .val (.ref ac), .val (.ref ar), .val (.ref as_), .val (.int (1 : Int32))] at_379 rfl ?_
        refine Own.iload H_2113 (pc := 381) at_381 rfl ?_
        refine Own.iconst H_2113 (pc := 383) (1) at_383 rfl ?_
        refine Own.icmp_ne H_2113 (pc := 384) 417 at_384 (by decide) (by decide) (fun hc => absurd hc (by decide)) (fun _ => ?_)
        refine Own.iload H_2113 (pc := 387) at_387 rfl ?_
        refine Own.if_eq H_2113 (pc := 389) 414 at_389 (by decide) (by decide) (fun hc => absurd hc (by decide)) (fun _ => ?_)
        refine Own.aload H_2113 (pc := 392) at_392 rfl rfl ?_
        refine Own.aload H_2113 (pc := 394) at_394 rfl rfl ?_
        refine Own.aload H_2113 (pc := 396) at_396 rfl rfl ?_
        refine Own.aload H_2113 (pc := 398) at_398 rfl rfl ?_
        refine Own.iload H_2113 (pc := 400) at_400 rfl ?_
        refine Own.iload H_2113 (pc := 402) at_402 rfl ?_
        refine Own.callS H_2113 (pc := 404) (y := (⟨"termstone/postings/ImpactsLayPinLaw", "segment", "([I[I[I[III)Z"⟩ : MethodName)) [(.ref ar), (.ref as_), (.ref af), (.ref al), (.int (1 : Int32)), (.int (2 : Int32))] [] at_404 (hw _ (List.mem_of_getElem? (i := 5) rfl)) (hw _ (List.mem_of_getElem? (i := 6) rfl)) (hw _ (List.mem_of_getElem? (i := 7) rfl)) (hw _ (List.mem_of_getElem? (i := 8) rfl)) (by decide) (rm_seg l Z a0 hw ar as_ af al (1 : Int32) (2 : Int32) _ n0 H_2113.z0 [(((p0).toInt32 - (0 : Int32)) - (1 : Int32)), ((((XT.ushrL p0 (32 : Int32))).toInt32 - (0 : Int32)) - (1 : Int32)), (((p1).toInt32 - ((XT.ushrL p0 (32 : Int32))).toInt32) - (1 : Int32)), sv] [(((p2).toInt32 - (-1 : Int32)) - (1 : Int32)), ((((XT.ushrL p2 (32 : Int32))).toInt32 - (-1 : Int32)) - (1 : Int32)), (((p3).toInt32 - ((XT.ushrL p2 (32 : Int32))).toInt32) - (1 : Int32)), sv] [(p0).toInt32, ((XT.ushrL p0 (32 : Int32))).toInt32, (p1).toInt32, ((XT.ushrL p1 (32 : Int32))).toInt32] [(p2).toInt32, ((XT.ushrL p2 (32 : Int32))).toInt32, (p3).toInt32, ((XT.ushrL p3 (32 : Int32))).toInt32] C4 C5 C0 C1 rfl rfl rfl rfl 1 (by decide) rfl (own_a1 _) (own_a2 _) (fun _ => ⟨by decide, own_a3 _ _, own_a3 _ _⟩)) (r := (some .boolean)) (ps := [(.array .int), (.array .int), (.array .int), (.array .int), .int, .int]) (by decide) rfl rfl 0 rfl (by decide) (by decide) (by decide) (by decide) rfl (fun T_2120 v_2122 h_2121 H_2119 z_2123 q_2124 => ?_)
        obtain ⟨rfl, rfl⟩ := q_2124
        show OEnds _ _ _ _ _ _ _ _ _ (mkF _ 407 #[.val (.long p0), .second, .val (.long p1), .second, .val (.long p2), .second, .val (.long p3), .second, .val (.int p4), .val (.int sv), .val (.int (1 : Int32)), .val (.int (1 : Int32)), .val (.int (2 : Int32)), .val (.int (3 : Int32)), .val (.ref af), .val (.ref al), .val (.ref ae), .val (.ref ac), .val (.ref ar), .val (.ref as_), .val (.int (1 : Int32))] [(.int (1 : Int32))])
        refine Own.if_eq H_2119 (pc := 407) 414 at_407 (by decide) (by decide) (fun hc => absurd hc (by decide)) (fun _ => ?_)
        refine Own.iconst H_2119 (pc := 410) (1) at_410 rfl ?_
        refine Own.goto H_2119 (pc := 411) 415 at_411 (by decide) (by decide) ?_
        refine Own.istore H_2119 (pc := 415) #[.val (.long p0), .second, .val (.long p1), .second, .val (.long p2), .second, .val (.long p3), .second, .val (.int p4), .val (.int sv), .val (.int (1 : Int32)), .val (.int (1 : Int32)), .val (.int (2 : Int32)), .val (.int (3 : Int32)), .val (.ref af), .val (.ref al), .val (.ref ae), .val (.ref ac), .val (.ref ar), .val (.ref as_), .val (.int (1 : Int32))] at_415 rfl ?_
        refine Own.iload H_2119 (pc := 417) at_417 rfl ?_
        refine Own.if_eq H_2119 (pc := 419) 437 at_419 (by decide) (by decide) (fun hc => absurd hc (by decide)) (fun _ => ?_)
        refine Own.aload H_2119 (pc := 422) at_422 rfl rfl ?_
        refine Own.iconst H_2119 (pc := 424) (0) at_424 rfl ?_
        refine Own.iaload H_2119 (pc := 425) (v := (0 : Int32)) 0 at_425 C3 rfl rfl ?_
        refine Own.iload H_2119 (pc := 426) at_426 rfl ?_
        refine Own.iconst H_2119 (pc := 428) (1) at_428 rfl ?_
        refine Own.isub_c H_2119 (pc := 429) (0) at_429 (by decide) ?_
        refine Own.icmp_ne H_2119 (pc := 430) 437 at_430 (by decide) (by decide) (fun hc => absurd hc (by decide)) (fun _ => ?_)
        refine Own.iconst H_2119 (pc := 433) (1) at_433 rfl ?_
        refine Own.goto H_2119 (pc := 434) 438 at_434 (by decide) (by decide) ?_
        refine Own.istore H_2119 (pc := 438) #[.val (.long p0), .second, .val (.long p1), .second, .val (.long p2), .second, .val (.long p3), .second, .val (.int p4), .val (.int sv), .val (.int (1 : Int32)), .val (.int (1 : Int32)), .val (.int (2 : Int32)), .val (.int (3 : Int32)), .val (.ref af), .val (.ref al), .val (.ref ae), .val (.ref ac), .val (.ref ar), .val (.ref as_), .val (.int (1 : Int32))] at_438 rfl ?_
        refine Own.iload H_2119 (pc := 440) at_440 rfl ?_
        refine Own.if_eq H_2119 (pc := 442) 471 at_442 (by decide) (by decide) (fun hc => absurd hc (by decide)) (fun _ => ?_)
        refine Own.aload H_2119 (pc := 445) at_445 rfl rfl ?_
        refine Own.iconst H_2119 (pc := 447) (1) at_447 rfl ?_
        refine Own.iaload H_2119 (pc := 448) (v := (1 : Int32)) 1 at_448 C3 rfl rfl ?_
        refine Own.iload H_2119 (pc := 449) at_449 rfl ?_
        refine Own.iconst H_2119 (pc := 451) (1) at_451 rfl ?_
        refine Own.icmp_ne H_2119 (pc := 452) 462 at_452 (by decide) (by decide) (fun hc => absurd hc (by decide)) (fun _ => ?_)
        refine Own.iload H_2119 (pc := 455) at_455 rfl ?_
        refine Own.iconst H_2119 (pc := 457) (1) at_457 rfl ?_
        refine Own.isub_c H_2119 (pc := 458) (1) at_458 (by decide) ?_
        refine Own.goto H_2119 (pc := 459) 464 at_459 (by decide) (by decide) ?_
        refine Own.icmp_ne H_2119 (pc := 464) 471 at_464 (by decide) (by decide) (fun hc => absurd hc (by decide)) (fun _ => ?_)
        refine Own.iconst H_2119 (pc := 467) (1) at_467 rfl ?_
        refine Own.goto H_2119 (pc := 468) 472 at_468 (by decide) (by decide) ?_
        refine Own.istore H_2119 (pc := 472) #[.val (.long p0), .second, .val (.long p1), .second, .val (.long p2), .second, .val (.long p3), .second, .val (.int p4), .val (.int sv), .val (.int (1 : Int32)), .val (.int (1 : Int32)), .val (.int (2 : Int32)), .val (.int (3 : Int32)), .val (.ref af), .val (.ref al), .val (.ref ae), .val (.ref ac), .val (.ref ar), .val (.ref as_), .val (.int (1 : Int32))] at_472 rfl ?_
        refine Own.iload H_2119 (pc := 474) at_474 rfl ?_
        refine Own.if_eq H_2119 (pc := 476) 492 at_476 (by decide) (by decide) (fun hc => absurd hc (by decide)) (fun _ => ?_)
        refine Own.aload H_2119 (pc := 479) at_479 rfl rfl ?_
        refine Own.iconst H_2119 (pc := 481) (2) at_481 rfl ?_
        refine Own.iaload H_2119 (pc := 482) (v := sv) 2 at_482 C3 rfl rfl ?_
        refine Own.iload H_2119 (pc := 483) at_483 rfl ?_
        refine Own.icmp_ne H_2119 (pc := 485) 492 at_485 (by decide) (by decide) (fun hX => absurd rfl hX) (fun _ => ?_)
        refine Own.iconst H_2119 (pc := 488) (1) at_488 rfl ?_
        refine Own.goto H_2119 (pc := 489) 493 at_489 (by decide) (by decide) ?_
        refine Own.istore H_2119 (pc := 493) #[.val (.long p0), .second, .val (.long p1), .second, .val (.long p2), .second, .val (.long p3), .second, .val (.int p4), .val (.int sv), .val (.int (1 : Int32)), .val (.int (1 : Int32)), .val (.int (2 : Int32)), .val (.int (3 : Int32)), .val (.ref af), .val (.ref al), .val (.ref ae), .val (.ref ac), .val (.ref ar), .val (.ref as_), .val (.int (1 : Int32))] at_493 rfl ?_
        refine Own.iload H_2119 (pc := 495) at_495 rfl ?_
        refine Own.if_eq H_2119 (pc := 497) 543 at_497 (by decide) (by decide) (fun hc => absurd hc (by decide)) (fun _ => ?_)
        refine Own.aload H_2119 (pc := 500) at_500 rfl rfl ?_
        refine Own.iconst H_2119 (pc := 502) (1) at_502 rfl ?_
        refine Own.iload H_2119 (pc := 503) at_503 rfl ?_
        refine Own.iload H_2119 (pc := 505) at_505 rfl ?_
        refine Own.callS H_2119 (pc := 507) (y := (⟨"termstone/postings/ImpactsLayPinLaw", "untouched", "([IIII)Z"⟩ : MethodName)) [(.ref ar), (.int (1 : Int32)), (.int (3 : Int32)), (.int sv)] [] at_507 (hw _ (List.mem_of_getElem? (i := 9) rfl)) (hw _ (List.mem_of_getElem? (i := 10) rfl)) (hw _ (List.mem_of_getElem? (i := 7) rfl)) (hw _ (List.mem_of_getElem? (i := 11) rfl)) (by decide) (rm_unt l Z a0 hw ar (1 : Int32) (3 : Int32) sv _ n0 H_2119.z0 [(((p0).toInt32 - (0 : Int32)) - (1 : Int32)), ((((XT.ushrL p0 (32 : Int32))).toInt32 - (0 : Int32)) - (1 : Int32)), (((p1).toInt32 - ((XT.ushrL p0 (32 : Int32))).toInt32) - (1 : Int32)), sv] C4 1 (by simp) rfl (fun q => absurd (by decide) q)) (r := (some .boolean)) (ps := [(.array .int), .int, .int, .int]) (by decide) rfl rfl 0 rfl (by decide) (by decide) (by decide) (by decide) rfl (fun T_2126 v_2128 h_2127 H_2125 z_2129 q_2130 => ?_)
        obtain ⟨rfl, rfl⟩ := q_2130
        show OEnds _ _ _ _ _ _ _ _ _ (mkF _ 510 #[.val (.long p0), .second, .val (.long p1), .second, .val (.long p2), .second, .val (.long p3), .second, .val (.int p4), .val (.int sv), .val (.int (1 : Int32)), .val (.int (1 : Int32)), .val (.int (2 : Int32)), .val (.int (3 : Int32)), .val (.ref af), .val (.ref al), .val (.ref ae), .val (.ref ac), .val (.ref ar), .val (.ref as_), .val (.int (1 : Int32))] [(.int (1 : Int32))])
        refine Own.if_eq H_2125 (pc := 510) 543 at_510 (by decide) (by decide) (fun hc => absurd hc (by decide)) (fun _ => ?_)
        refine Own.aload H_2125 (pc := 513) at_513 rfl rfl ?_
        refine Own.iconst H_2125 (pc := 515) (2) at_515 rfl ?_
        refine Own.iload H_2125 (pc := 516) at_516 rfl ?_
        refine Own.iload H_2125 (pc := 518) at_518 rfl ?_
        refine Own.callS H_2125 (pc := 520) (y := (⟨"termstone/postings/ImpactsLayPinLaw", "untouched", "([IIII)Z"⟩ : MethodName)) [(.ref ar), (.int (2 : Int32)), (.int (3 : Int32)), (.int sv)] [] at_520 (hw _ (List.mem_of_getElem? (i := 9) rfl)) (hw _ (List.mem_of_getElem? (i := 10) rfl)) (hw _ (List.mem_of_getElem? (i := 7) rfl)) (hw _ (List.mem_of_getElem? (i := 11) rfl)) (by decide) (rm_unt l Z a0 hw ar (2 : Int32) (3 : Int32) sv _ n0 H_2125.z0 [(((p0).toInt32 - (0 : Int32)) - (1 : Int32)), ((((XT.ushrL p0 (32 : Int32))).toInt32 - (0 : Int32)) - (1 : Int32)), (((p1).toInt32 - ((XT.ushrL p0 (32 : Int32))).toInt32) - (1 : Int32)), sv] C4 2 (by simp) rfl (fun q => absurd (by decide) q)) (r := (some .boolean)) (ps := [(.array .int), .int, .int, .int]) (by decide) rfl rfl 0 rfl (by decide) (by decide) (by decide) (by decide) rfl (fun T_2132 v_2134 h_2133 H_2131 z_2135 q_2136 => ?_)
        obtain ⟨rfl, rfl⟩ := q_2136
        show OEnds _ _ _ _ _ _ _ _ _ (mkF _ 523 #[.val (.long p0), .second, .val (.long p1), .second, .val (.long p2), .second, .val (.long p3), .second, .val (.int p4), .val (.int sv), .val (.int (1 : Int32)), .val (.int (1 : Int32)), .val (.int (2 : Int32)), .val (.int (3 : Int32)), .val (.ref af), .val (.ref al), .val (.ref ae), .val (.ref ac), .val (.ref ar), .val (.ref as_), .val (.int (1 : Int32))] [(.int (1 : Int32))])
        refine Own.if_eq H_2131 (pc := 523) 543 at_523 (by decide) (by decide) (fun hc => absurd hc (by decide)) (fun _ => ?_)
        refine Own.aload H_2131 (pc := 526) at_526 rfl rfl ?_
        refine Own.iconst H_2131 (pc := 528) (3) at_528 rfl ?_
        refine Own.iload H_2131 (pc := 529) at_529 rfl ?_
        refine Own.iload H_2131 (pc := 531) at_531 rfl ?_
        refine Own.callS H_2131 (pc := 533) (y := (⟨"termstone/postings/ImpactsLayPinLaw", "untouched", "([IIII)Z"⟩ : MethodName)) [(.ref ar), (.int (3 : Int32)), (.int (3 : Int32)), (.int sv)] [] at_533 (hw _ (List.mem_of_getElem? (i := 9) rfl)) (hw _ (List.mem_of_getElem? (i := 10) rfl)) (hw _ (List.mem_of_getElem? (i := 7) rfl)) (hw _ (List.mem_of_getElem? (i := 11) rfl)) (by decide) (rm_unt l Z a0 hw ar (3 : Int32) (3 : Int32) sv _ n0 H_2131.z0 [(((p0).toInt32 - (0 : Int32)) - (1 : Int32)), ((((XT.ushrL p0 (32 : Int32))).toInt32 - (0 : Int32)) - (1 : Int32)), (((p1).toInt32 - ((XT.ushrL p0 (32 : Int32))).toInt32) - (1 : Int32)), sv] C4 3 (by simp) rfl (fun _ => rfl)) (r := (some .boolean)) (ps := [(.array .int), .int, .int, .int]) (by decide) rfl rfl 0 rfl (by decide) (by decide) (by decide) (by decide) rfl (fun T_2138 v_2140 h_2139 H_2137 z_2141 q_2142 => ?_)
        obtain ⟨rfl, rfl⟩ := q_2142
        show OEnds _ _ _ _ _ _ _ _ _ (mkF _ 536 #[.val (.long p0), .second, .val (.long p1), .second, .val (.long p2), .second, .val (.long p3), .second, .val (.int p4), .val (.int sv), .val (.int (1 : Int32)), .val (.int (1 : Int32)), .val (.int (2 : Int32)), .val (.int (3 : Int32)), .val (.ref af), .val (.ref al), .val (.ref ae), .val (.ref ac), .val (.ref ar), .val (.ref as_), .val (.int (1 : Int32))] [(.int (1 : Int32))])
        refine Own.if_eq H_2137 (pc := 536) 543 at_536 (by decide) (by decide) (fun hc => absurd hc (by decide)) (fun _ => ?_)
        refine Own.iconst H_2137 (pc := 539) (1) at_539 rfl ?_
        refine Own.goto H_2137 (pc := 540) 544 at_540 (by decide) (by decide) ?_
        refine Own.istore H_2137 (pc := 544) #[.val (.long p0), .second, .val (.long p1), .second, .val (.long p2), .second, .val (.long p3), .second, .val (.int p4), .val (.int sv), .val (.int (1 : Int32)), .val (.int (1 : Int32)), .val (.int (2 : Int32)), .val (.int (3 : Int32)), .val (.ref af), .val (.ref al), .val (.ref ae), .val (.ref ac), .val (.ref ar), .val (.ref as_), .val (.int (1 : Int32))] at_544 rfl ?_
        refine Own.iload H_2137 (pc := 546) at_546 rfl ?_
        refine Own.if_eq H_2137 (pc := 548) 594 at_548 (by decide) (by decide) (fun hc => absurd hc (by decide)) (fun _ => ?_)
        refine Own.aload H_2137 (pc := 551) at_551 rfl rfl ?_
        refine Own.iconst H_2137 (pc := 553) (1) at_553 rfl ?_
        refine Own.iload H_2137 (pc := 554) at_554 rfl ?_
        refine Own.iload H_2137 (pc := 556) at_556 rfl ?_
        refine Own.callS H_2137 (pc := 558) (y := (⟨"termstone/postings/ImpactsLayPinLaw", "untouched", "([IIII)Z"⟩ : MethodName)) [(.ref as_), (.int (1 : Int32)), (.int (3 : Int32)), (.int sv)] [] at_558 (hw _ (List.mem_of_getElem? (i := 9) rfl)) (hw _ (List.mem_of_getElem? (i := 10) rfl)) (hw _ (List.mem_of_getElem? (i := 7) rfl)) (hw _ (List.mem_of_getElem? (i := 11) rfl)) (by decide) (rm_unt l Z a0 hw as_ (1 : Int32) (3 : Int32) sv _ n0 H_2137.z0 [(((p2).toInt32 - (-1 : Int32)) - (1 : Int32)), ((((XT.ushrL p2 (32 : Int32))).toInt32 - (-1 : Int32)) - (1 : Int32)), (((p3).toInt32 - ((XT.ushrL p2 (32 : Int32))).toInt32) - (1 : Int32)), sv] C5 1 (by simp) rfl (fun q => absurd (by decide) q)) (r := (some .boolean)) (ps := [(.array .int), .int, .int, .int]) (by decide) rfl rfl 0 rfl (by decide) (by decide) (by decide) (by decide) rfl (fun T_2144 v_2146 h_2145 H_2143 z_2147 q_2148 => ?_)
        obtain ⟨rfl, rfl⟩ := q_2148
        show OEnds _ _ _ _ _ _ _ _ _ (mkF _ 561 #[.val (.long p0), .second, .val (.long p1), .second, .val (.long p2), .second, .val (.long p3), .second, .val (.int p4), .val (.int sv), .val (.int (1 : Int32)), .val (.int (1 : Int32)), .val (.int (2 : Int32)), .val (.int (3 : Int32)), .val (.ref af), .val (.ref al), .val (.ref ae), .val (.ref ac), .val (.ref ar), .val (.ref as_), .val (.int (1 : Int32))] [(.int (1 : Int32))])
        refine Own.if_eq H_2143 (pc := 561) 594 at_561 (by decide) (by decide) (fun hc => absurd hc (by decide)) (fun _ => ?_)
        refine Own.aload H_2143 (pc := 564) at_564 rfl rfl ?_
        refine Own.iconst H_2143 (pc := 566) (2) at_566 rfl ?_
        refine Own.iload H_2143 (pc := 567) at_567 rfl ?_
        refine Own.iload H_2143 (pc := 569) at_569 rfl ?_
        refine Own.callS H_2143 (pc := 571) (y := (⟨"termstone/postings/ImpactsLayPinLaw", "untouched", "([IIII)Z"⟩ : MethodName)) [(.ref as_), (.int (2 : Int32)), (.int (3 : Int32)), (.int sv)] [] at_571 (hw _ (List.mem_of_getElem? (i := 9) rfl)) (hw _ (List.mem_of_getElem? (i := 10) rfl)) (hw _ (List.mem_of_getElem? (i := 7) rfl)) (hw _ (List.mem_of_getElem? (i := 11) rfl)) (by decide) (rm_unt l Z a0 hw as_ (2 : Int32) (3 : Int32) sv _ n0 H_2143.z0 [(((p2).toInt32 - (-1 : Int32)) - (1 : Int32)), ((((XT.ushrL p2 (32 : Int32))).toInt32 - (-1 : Int32)) - (1 : Int32)), (((p3).toInt32 - ((XT.ushrL p2 (32 : Int32))).toInt32) - (1 : Int32)), sv] C5 2 (by simp) rfl (fun q => absurd (by decide) q)) (r := (some .boolean)) (ps := [(.array .int), .int, .int, .int]) (by decide) rfl rfl 0 rfl (by decide) (by decide) (by decide) (by decide) rfl (fun T_2150 v_2152 h_2151 H_2149 z_2153 q_2154 => ?_)
        obtain ⟨rfl, rfl⟩ := q_2154
        show OEnds _ _ _ _ _ _ _ _ _ (mkF _ 574 #[.val (.long p0), .second, .val (.long p1), .second, .val (.long p2), .second, .val (.long p3), .second, .val (.int p4), .val (.int sv), .val (.int (1 : Int32)), .val (.int (1 : Int32)), .val (.int (2 : Int32)), .val (.int (3 : Int32)), .val (.ref af), .val (.ref al), .val (.ref ae), .val (.ref ac), .val (.ref ar), .val (.ref as_), .val (.int (1 : Int32))] [(.int (1 : Int32))])
        refine Own.if_eq H_2149 (pc := 574) 594 at_574 (by decide) (by decide) (fun hc => absurd hc (by decide)) (fun _ => ?_)
        refine Own.aload H_2149 (pc := 577) at_577 rfl rfl ?_
        refine Own.iconst H_2149 (pc := 579) (3) at_579 rfl ?_
        refine Own.iload H_2149 (pc := 580) at_580 rfl ?_
        refine Own.iload H_2149 (pc := 582) at_582 rfl ?_
        refine Own.callS H_2149 (pc := 584) (y := (⟨"termstone/postings/ImpactsLayPinLaw", "untouched", "([IIII)Z"⟩ : MethodName)) [(.ref as_), (.int (3 : Int32)), (.int (3 : Int32)), (.int sv)] [] at_584 (hw _ (List.mem_of_getElem? (i := 9) rfl)) (hw _ (List.mem_of_getElem? (i := 10) rfl)) (hw _ (List.mem_of_getElem? (i := 7) rfl)) (hw _ (List.mem_of_getElem? (i := 11) rfl)) (by decide) (rm_unt l Z a0 hw as_ (3 : Int32) (3 : Int32) sv _ n0 H_2149.z0 [(((p2).toInt32 - (-1 : Int32)) - (1 : Int32)), ((((XT.ushrL p2 (32 : Int32))).toInt32 - (-1 : Int32)) - (1 : Int32)), (((p3).toInt32 - ((XT.ushrL p2 (32 : Int32))).toInt32) - (1 : Int32)), sv] C5 3 (by simp) rfl (fun _ => rfl)) (r := (some .boolean)) (ps := [(.array .int), .int, .int, .int]) (by decide) rfl rfl 0 rfl (by decide) (by decide) (by decide) (by decide) rfl (fun T_2156 v_2158 h_2157 H_2155 z_2159 q_2160 => ?_)
        obtain ⟨rfl, rfl⟩ := q_2160
        show OEnds _ _ _ _ _ _ _ _ _ (mkF _ 587 #[.val (.long p0), .second, .val (.long p1), .second, .val (.long p2), .second, .val (.long p3), .second, .val (.int p4), .val (.int sv), .val (.int (1 : Int32)), .val (.int (1 : Int32)), .val (.int (2 : Int32)), .val (.int (3 : Int32)), .val (.ref af), .val (.ref al), .val (.ref ae), .val (.ref ac), .val (.ref ar), .val (.ref as_), .val (.int (1 : Int32))] [(.int (1 : Int32))])
        refine Own.if_eq H_2155 (pc := 587) 594 at_587 (by decide) (by decide) (fun hc => absurd hc (by decide)) (fun _ => ?_)
        refine Own.iconst H_2155 (pc := 590) (1) at_590 rfl ?_
        refine Own.goto H_2155 (pc := 591) 595 at_591 (by decide) (by decide) ?_
        refine Own.istore H_2155 (pc := 595) #[.val (.long p0), .second, .val (.long p1), .second, .val (.long p2), .second, .val (.long p3), .second, .val (.int p4), .val (.int sv), .val (.int (1 : Int32)), .val (.int (1 : Int32)), .val (.int (2 : Int32)), .val (.int (3 : Int32)), .val (.ref af), .val (.ref al), .val (.ref ae), .val (.ref ac), .val (.ref ar), .val (.ref as_), .val (.int (1 : Int32))] at_595 rfl ?_
        refine Own.iload H_2155 (pc := 597) at_597 rfl ?_
        exact Own.ret_nar H_2155 (pc := 599) (1) at_599 rfl (by simp) (by decide) (by decide) (by decide) (rfl)
    · refine Own.iadd_c H (pc := 13) (2) at_13 (by decide) ?_
      refine Own.istore H (pc := 14) #[.val (.long p0), .second, .val (.long p1), .second, .val (.long p2), .second, .val (.long p3), .second, .val (.int p4), .val (.int sv), .val (.int (1 : Int32)), .val (.int (2 : Int32)), .unset, .unset, .unset, .unset, .unset, .unset, .unset, .unset, .unset] at_14 rfl ?_
      refine Own.iconst H (pc := 16) (1) at_16 rfl ?_
      refine Own.iload H (pc := 17) at_17 rfl ?_
      refine Own.iconst H (pc := 19) (2) at_19 rfl ?_
      refine Own.iushr H (pc := 20) at_20 ?_
      refine Own.iconst H (pc := 21) (1) at_21 rfl ?_
      refine Own.iand H (pc := 22) at_22 ?_
      generalize eb2 : ((XT.ushr p4 (2 : Int32)) &&& (1 : Int32)) = b2
      have hb2 : b2 = 0 ∨ b2 = 1 := by rw [← eb2]; exact and_one _
      clear eb2
      rcases hb2 with rfl | rfl
      · refine Own.iadd_c H (pc := 23) (1) at_23 (by decide) ?_
        refine Own.istore H (pc := 24) #[.val (.long p0), .second, .val (.long p1), .second, .val (.long p2), .second, .val (.long p3), .second, .val (.int p4), .val (.int sv), .val (.int (1 : Int32)), .val (.int (2 : Int32)), .val (.int (1 : Int32)), .unset, .unset, .unset, .unset, .unset, .unset, .unset, .unset] at_24 rfl ?_
        refine Own.iload H (pc := 26) at_26 rfl ?_
        refine Own.iconst H (pc := 28) (1) at_28 rfl ?_
        refine Own.icmp_ne H (pc := 29) 40 at_29 (by decide) (by decide) (fun hc => absurd hc (by decide)) (fun _ => ?_)
        refine Own.iload H (pc := 32) at_32 rfl ?_
        refine Own.iload H (pc := 34) at_34 rfl ?_
        refine Own.iadd_c H (pc := 36) (3) at_36 (by decide) ?_
        refine Own.goto H (pc := 37) 42 at_37 (by decide) (by decide) ?_
        refine Own.istore H (pc := 42) #[.val (.long p0), .second, .val (.long p1), .second, .val (.long p2), .second, .val (.long p3), .second, .val (.int p4), .val (.int sv), .val (.int (1 : Int32)), .val (.int (2 : Int32)), .val (.int (1 : Int32)), .val (.int (3 : Int32)), .unset, .unset, .unset, .unset, .unset, .unset, .unset] at_42 rfl ?_
        refine Own.iconst H (pc := 44) (4) at_44 rfl ?_
        refine Own.newarray H (pc := 45) (i := 4) 4 at_45 (hw _ (List.mem_of_getElem? (i := 0) rfl)) rfl (by decide) (by decide) (by decide) (by decide) (by decide) (fun T_2162 h_2163 af eq_af ge_af H_2161 Ext_af Ary_af => ?_)
        have A_2164 : OAry Z h_2163 af .int [(.int (0 : Int32)), (.int (0 : Int32)), (.int (0 : Int32)), (.int (0 : Int32))] := Ary_af
        refine Own.astore H_2161 (pc := 47) #[.val (.long p0), .second, .val (.long p1), .second, .val (.long p2), .second, .val (.long p3), .second, .val (.int p4), .val (.int sv), .val (.int (1 : Int32)), .val (.int (2 : Int32)), .val (.int (1 : Int32)), .val (.int (3 : Int32)), .val (.ref af), .unset, .unset, .unset, .unset, .unset, .unset] at_47 rfl rfl ?_
        refine Own.aload H_2161 (pc := 49) at_49 rfl rfl ?_
        refine Own.iconst H_2161 (pc := 51) (0) at_51 rfl ?_
        refine Own.lload_n H_2161 (pc := 52) at_52 rfl ?_
        refine Own.l2i H_2161 (pc := 53) at_53 ?_
        refine Own.iastore H_2161 (pc := 54) 0 at_54 A_2164 ge_af rfl (by simp) (fun T_2166 h_2167 H_2165 W_2168 A_2169 => ?_)
        have A_2170 : OAry Z h_2167 af .int [(.int (p0).toInt32), (.int (0 : Int32)), (.int (0 : Int32)), (.int (0 : Int32))] := A_2169
        refine Own.aload H_2165 (pc := 55) at_55 rfl rfl ?_
        refine Own.iconst H_2165 (pc := 57) (1) at_57 rfl ?_
        refine Own.lload_n H_2165 (pc := 58) at_58 rfl ?_
        refine Own.bipush H_2165 (pc := 59) (32) at_59 rfl ?_
        refine Own.lushr H_2165 (pc := 61) at_61 ?_
        refine Own.l2i H_2165 (pc := 62) at_62 ?_
        refine Own.iastore H_2165 (pc := 63) 1 at_63 A_2170 ge_af rfl (by simp) (fun T_2172 h_2173 H_2171 W_2174 A_2175 => ?_)
        have A_2176 : OAry Z h_2173 af .int [(.int (p0).toInt32), (.int ((XT.ushrL p0 (32 : Int32))).toInt32), (.int (0 : Int32)), (.int (0 : Int32))] := A_2175
        refine Own.aload H_2171 (pc := 64) at_64 rfl rfl ?_
        refine Own.iconst H_2171 (pc := 66) (2) at_66 rfl ?_
        refine Own.lload_n H_2171 (pc := 67) at_67 rfl ?_
        refine Own.l2i H_2171 (pc := 68) at_68 ?_
        refine Own.iastore H_2171 (pc := 69) 2 at_69 A_2176 ge_af rfl (by simp) (fun T_2178 h_2179 H_2177 W_2180 A_2181 => ?_)
        have A_2182 : OAry Z h_2179 af .int [(.int (p0).toInt32), (.int ((XT.ushrL p0 (32 : Int32))).toInt32), (.int (p1).toInt32), (.int (0 : Int32))] := A_2181
        refine Own.aload H_2177 (pc := 70) at_70 rfl rfl ?_
        refine Own.iconst H_2177 (pc := 72) (3) at_72 rfl ?_
        refine Own.lload_n H_2177 (pc := 73) at_73 rfl ?_
        refine Own.bipush H_2177 (pc := 74) (32) at_74 rfl ?_
        refine Own.lushr H_2177 (pc := 76) at_76 ?_
        refine Own.l2i H_2177 (pc := 77) at_77 ?_
        refine Own.iastore H_2177 (pc := 78) 3 at_78 A_2182 ge_af rfl (by simp) (fun T_2184 h_2185 H_2183 W_2186 A_2187 => ?_)
        have A_2188 : OAry Z h_2185 af .int [(.int (p0).toInt32), (.int ((XT.ushrL p0 (32 : Int32))).toInt32), (.int (p1).toInt32), (.int ((XT.ushrL p1 (32 : Int32))).toInt32)] := A_2187
        refine Own.iconst H_2183 (pc := 79) (4) at_79 rfl ?_
        refine Own.newarray H_2183 (pc := 80) (i := 4) 4 at_80 (hw _ (List.mem_of_getElem? (i := 0) rfl)) rfl (by decide) (by decide) (by decide) (by decide) (by decide) (fun T_2190 h_2191 al eq_al ge_al H_2189 Ext_al Ary_al => ?_)
        have lt_af_al : af < al := by have := A_2188.lt; omega
        have A_2192 := A_2188.ext Ext_al
        have A_2193 : OAry Z h_2191 al .int [(.int (0 : Int32)), (.int (0 : Int32)), (.int (0 : Int32)), (.int (0 : Int32))] := Ary_al
        refine Own.astore H_2189 (pc := 82) #[.val (.long p0), .second, .val (.long p1), .second, .val (.long p2), .second, .val (.long p3), .second, .val (.int p4), .val (.int sv), .val (.int (1 : Int32)), .val (.int (2 : Int32)), .val (.int (1 : Int32)), .val (.int (3 : Int32)), .val (.ref af), .val (.ref al), .unset, .unset, .unset, .unset, .unset] at_82 rfl rfl ?_
        refine Own.aload H_2189 (pc := 84) at_84 rfl rfl ?_
        refine Own.iconst H_2189 (pc := 86) (0) at_86 rfl ?_
        refine Own.lload H_2189 (pc := 87) at_87 rfl ?_
        refine Own.l2i H_2189 (pc := 89) at_89 ?_
        refine Own.iastore H_2189 (pc := 90) 0 at_90 A_2193 ge_al rfl (by simp) (fun T_2195 h_2196 H_2194 W_2197 A_2198 => ?_)
        have A_2199 := A_2192.other W_2197 (by omega)
        have A_2200 : OAry Z h_2196 al .int [(.int (p2).toInt32), (.int (0 : Int32)), (.int (0 : Int32)), (.int (0 : Int32))] := A_2198
        refine Own.aload H_2194 (pc := 91) at_91 rfl rfl ?_
        refine Own.iconst H_2194 (pc := 93) (1) at_93 rfl ?_
        refine Own.lload H_2194 (pc := 94) at_94 rfl ?_
        refine Own.bipush H_2194 (pc := 96) (32) at_96 rfl ?_
        refine Own.lushr H_2194 (pc := 98) at_98 ?_
        refine Own.l2i H_2194 (pc := 99) at_99 ?_
        refine Own.iastore H_2194 (pc := 100) 1 at_100 A_2200 ge_al rfl (by simp) (fun T_2202 h_2203 H_2201 W_2204 A_2205 => ?_)
        have A_2206 := A_2199.other W_2204 (by omega)
        have A_2207 : OAry Z h_2203 al .int [(.int (p2).toInt32), (.int ((XT.ushrL p2 (32 : Int32))).toInt32), (.int (0 : Int32)), (.int (0 : Int32))] := A_2205
        refine Own.aload H_2201 (pc := 101) at_101 rfl rfl ?_
        refine Own.iconst H_2201 (pc := 103) (2) at_103 rfl ?_
        refine Own.lload H_2201 (pc := 104) at_104 rfl ?_
        refine Own.l2i H_2201 (pc := 106) at_106 ?_
        refine Own.iastore H_2201 (pc := 107) 2 at_107 A_2207 ge_al rfl (by simp) (fun T_2209 h_2210 H_2208 W_2211 A_2212 => ?_)
        have A_2213 := A_2206.other W_2211 (by omega)
        have A_2214 : OAry Z h_2210 al .int [(.int (p2).toInt32), (.int ((XT.ushrL p2 (32 : Int32))).toInt32), (.int (p3).toInt32), (.int (0 : Int32))] := A_2212
        refine Own.aload H_2208 (pc := 108) at_108 rfl rfl ?_
        refine Own.iconst H_2208 (pc := 110) (3) at_110 rfl ?_
        refine Own.lload H_2208 (pc := 111) at_111 rfl ?_
        refine Own.bipush H_2208 (pc := 113) (32) at_113 rfl ?_
        refine Own.lushr H_2208 (pc := 115) at_115 ?_
        refine Own.l2i H_2208 (pc := 116) at_116 ?_
        refine Own.iastore H_2208 (pc := 117) 3 at_117 A_2214 ge_al rfl (by simp) (fun T_2216 h_2217 H_2215 W_2218 A_2219 => ?_)
        have A_2220 := A_2213.other W_2218 (by omega)
        have A_2221 : OAry Z h_2217 al .int [(.int (p2).toInt32), (.int ((XT.ushrL p2 (32 : Int32))).toInt32), (.int (p3).toInt32), (.int ((XT.ushrL p3 (32 : Int32))).toInt32)] := A_2219
        refine Own.iconst H_2215 (pc := 118) (2) at_118 rfl ?_
        refine Own.newarray H_2215 (pc := 119) (i := 2) 2 at_119 (hw _ (List.mem_of_getElem? (i := 0) rfl)) rfl (by decide) (by decide) (by decide) (by decide) (by decide) (fun T_2223 h_2224 ae eq_ae ge_ae H_2222 Ext_ae Ary_ae => ?_)
        have lt_af_ae : af < ae := by have := A_2220.lt; omega
        have A_2225 := A_2220.ext Ext_ae
        have lt_al_ae : al < ae := by have := A_2221.lt; omega
        have A_2226 := A_2221.ext Ext_ae
        have A_2227 : OAry Z h_2224 ae .int [(.int (0 : Int32)), (.int (0 : Int32))] := Ary_ae
        refine Own.astore H_2222 (pc := 121) #[.val (.long p0), .second, .val (.long p1), .second, .val (.long p2), .second, .val (.long p3), .second, .val (.int p4), .val (.int sv), .val (.int (1 : Int32)), .val (.int (2 : Int32)), .val (.int (1 : Int32)), .val (.int (3 : Int32)), .val (.ref af), .val (.ref al), .val (.ref ae), .unset, .unset, .unset, .unset] at_121 rfl rfl ?_
        refine Own.aload H_2222 (pc := 123) at_123 rfl rfl ?_
        refine Own.iconst H_2222 (pc := 125) (0) at_125 rfl ?_
        refine Own.iload H_2222 (pc := 126) at_126 rfl ?_
        refine Own.iastore H_2222 (pc := 128) 0 at_128 A_2227 ge_ae rfl (by simp) (fun T_2229 h_2230 H_2228 W_2231 A_2232 => ?_)
        have A_2233 := A_2225.other W_2231 (by omega)
        have A_2234 := A_2226.other W_2231 (by omega)
        have A_2235 : OAry Z h_2230 ae .int [(.int (2 : Int32)), (.int (0 : Int32))] := A_2232
        refine Own.aload H_2228 (pc := 129) at_129 rfl rfl ?_
        refine Own.iconst H_2228 (pc := 131) (1) at_131 rfl ?_
        refine Own.iload H_2228 (pc := 132) at_132 rfl ?_
        refine Own.iload H_2228 (pc := 134) at_134 rfl ?_
        refine Own.iadd_c H_2228 (pc := 136) (3) at_136 (by decide) ?_
        refine Own.iastore H_2228 (pc := 137) 1 at_137 A_2235 ge_ae rfl (by simp) (fun T_2237 h_2238 H_2236 W_2239 A_2240 => ?_)
        have A_2241 := A_2233.other W_2239 (by omega)
        have A_2242 := A_2234.other W_2239 (by omega)
        have A_2243 : OAry Z h_2238 ae .int [(.int (2 : Int32)), (.int (3 : Int32))] := A_2240
        refine Own.iconst H_2236 (pc := 138) (3) at_138 rfl ?_
        refine Own.newarray H_2236 (pc := 139) (i := 3) 3 at_139 (hw _ (List.mem_of_getElem? (i := 0) rfl)) rfl (by decide) (by decide) (by decide) (by decide) (by decide) (fun T_2245 h_2246 ac eq_ac ge_ac H_2244 Ext_ac Ary_ac => ?_)
        have lt_af_ac : af < ac := by have := A_2241.lt; omega
        have A_2247 := A_2241.ext Ext_ac
        have lt_al_ac : al < ac := by have := A_2242.lt; omega
        have A_2248 := A_2242.ext Ext_ac
        have lt_ae_ac : ae < ac := by have := A_2243.lt; omega
        have A_2249 := A_2243.ext Ext_ac
        have A_2250 : OAry Z h_2246 ac .int [(.int (0 : Int32)), (.int (0 : Int32)), (.int (0 : Int32))] := Ary_ac
        refine Own.astore H_2244 (pc := 141) #[.val (.long p0), .second, .val (.long p1), .second, .val (.long p2), .second, .val (.long p3), .second, .val (.int p4), .val (.int sv), .val (.int (1 : Int32)), .val (.int (2 : Int32)), .val (.int (1 : Int32)), .val (.int (3 : Int32)), .val (.ref af), .val (.ref al), .val (.ref ae), .val (.ref ac), .unset, .unset, .unset] at_141 rfl rfl ?_
        refine Own.aload H_2244 (pc := 143) at_143 rfl rfl ?_
        refine Own.iconst H_2244 (pc := 145) (0) at_145 rfl ?_
        refine Own.iload H_2244 (pc := 146) at_146 rfl ?_
        refine Own.iastore H_2244 (pc := 148) 0 at_148 A_2250 ge_ac rfl (by simp) (fun T_2252 h_2253 H_2251 W_2254 A_2255 => ?_)
        have A_2256 := A_2247.other W_2254 (by omega)
        have A_2257 := A_2248.other W_2254 (by omega)
        have A_2258 := A_2249.other W_2254 (by omega)
        have A_2259 : OAry Z h_2253 ac .int [(.int sv), (.int (0 : Int32)), (.int (0 : Int32))] := A_2255
        refine Own.aload H_2251 (pc := 149) at_149 rfl rfl ?_
        refine Own.iconst H_2251 (pc := 151) (1) at_151 rfl ?_
        refine Own.iload H_2251 (pc := 152) at_152 rfl ?_
        refine Own.iastore H_2251 (pc := 154) 1 at_154 A_2259 ge_ac rfl (by simp) (fun T_2261 h_2262 H_2260 W_2263 A_2264 => ?_)
        have A_2265 := A_2256.other W_2263 (by omega)
        have A_2266 := A_2257.other W_2263 (by omega)
        have A_2267 := A_2258.other W_2263 (by omega)
        have A_2268 : OAry Z h_2262 ac .int [(.int sv), (.int sv), (.int (0 : Int32))] := A_2264
        refine Own.aload H_2260 (pc := 155) at_155 rfl rfl ?_
        refine Own.iconst H_2260 (pc := 157) (2) at_157 rfl ?_
        refine Own.iload H_2260 (pc := 158) at_158 rfl ?_
        refine Own.iastore H_2260 (pc := 160) 2 at_160 A_2268 ge_ac rfl (by simp) (fun T_2270 h_2271 H_2269 W_2272 A_2273 => ?_)
        have A_2274 := A_2265.other W_2272 (by omega)
        have A_2275 := A_2266.other W_2272 (by omega)
        have A_2276 := A_2267.other W_2272 (by omega)
        have A_2277 : OAry Z h_2271 ac .int [(.int sv), (.int sv), (.int sv)] := A_2273
        refine Own.iconst H_2269 (pc := 161) (4) at_161 rfl ?_
        refine Own.newarray H_2269 (pc := 162) (i := 4) 4 at_162 (hw _ (List.mem_of_getElem? (i := 0) rfl)) rfl (by decide) (by decide) (by decide) (by decide) (by decide) (fun T_2279 h_2280 ar eq_ar ge_ar H_2278 Ext_ar Ary_ar => ?_)
        have lt_af_ar : af < ar := by have := A_2274.lt; omega
        have A_2281 := A_2274.ext Ext_ar
        have lt_al_ar : al < ar := by have := A_2275.lt; omega
        have A_2282 := A_2275.ext Ext_ar
        have lt_ae_ar : ae < ar := by have := A_2276.lt; omega
        have A_2283 := A_2276.ext Ext_ar
        have lt_ac_ar : ac < ar := by have := A_2277.lt; omega
        have A_2284 := A_2277.ext Ext_ar
        have A_2285 : OAry Z h_2280 ar .int [(.int (0 : Int32)), (.int (0 : Int32)), (.int (0 : Int32)), (.int (0 : Int32))] := Ary_ar
        refine Own.astore H_2278 (pc := 164) #[.val (.long p0), .second, .val (.long p1), .second, .val (.long p2), .second, .val (.long p3), .second, .val (.int p4), .val (.int sv), .val (.int (1 : Int32)), .val (.int (2 : Int32)), .val (.int (1 : Int32)), .val (.int (3 : Int32)), .val (.ref af), .val (.ref al), .val (.ref ae), .val (.ref ac), .val (.ref ar), .unset, .unset] at_164 rfl rfl ?_
        refine Own.iconst H_2278 (pc := 166) (4) at_166 rfl ?_
        refine Own.newarray H_2278 (pc := 167) (i := 4) 4 at_167 (hw _ (List.mem_of_getElem? (i := 0) rfl)) rfl (by decide) (by decide) (by decide) (by decide) (by decide) (fun T_2287 h_2288 as_ eq_as_ ge_as_ H_2286 Ext_as_ Ary_as_ => ?_)
        have lt_af_as_ : af < as_ := by have := A_2281.lt; omega
        have A_2289 := A_2281.ext Ext_as_
        have lt_al_as_ : al < as_ := by have := A_2282.lt; omega
        have A_2290 := A_2282.ext Ext_as_
        have lt_ae_as_ : ae < as_ := by have := A_2283.lt; omega
        have A_2291 := A_2283.ext Ext_as_
        have lt_ac_as_ : ac < as_ := by have := A_2284.lt; omega
        have A_2292 := A_2284.ext Ext_as_
        have lt_ar_as_ : ar < as_ := by have := A_2285.lt; omega
        have A_2293 := A_2285.ext Ext_as_
        have A_2294 : OAry Z h_2288 as_ .int [(.int (0 : Int32)), (.int (0 : Int32)), (.int (0 : Int32)), (.int (0 : Int32))] := Ary_as_
        refine Own.astore H_2286 (pc := 169) #[.val (.long p0), .second, .val (.long p1), .second, .val (.long p2), .second, .val (.long p3), .second, .val (.int p4), .val (.int sv), .val (.int (1 : Int32)), .val (.int (2 : Int32)), .val (.int (1 : Int32)), .val (.int (3 : Int32)), .val (.ref af), .val (.ref al), .val (.ref ae), .val (.ref ac), .val (.ref ar), .val (.ref as_), .unset] at_169 rfl rfl ?_
        refine Own.aload H_2286 (pc := 171) at_171 rfl rfl ?_
        refine Own.iconst H_2286 (pc := 173) (0) at_173 rfl ?_
        refine Own.iload H_2286 (pc := 174) at_174 rfl ?_
        refine Own.iastore H_2286 (pc := 176) 0 at_176 A_2293 ge_ar rfl (by simp) (fun T_2296 h_2297 H_2295 W_2298 A_2299 => ?_)
        have A_2300 := A_2289.other W_2298 (by omega)
        have A_2301 := A_2290.other W_2298 (by omega)
        have A_2302 := A_2291.other W_2298 (by omega)
        have A_2303 := A_2292.other W_2298 (by omega)
        have A_2304 : OAry Z h_2297 ar .int [(.int sv), (.int (0 : Int32)), (.int (0 : Int32)), (.int (0 : Int32))] := A_2299
        have A_2305 := A_2294.other W_2298 (by omega)
        refine Own.aload H_2295 (pc := 177) at_177 rfl rfl ?_
        refine Own.iconst H_2295 (pc := 179) (1) at_179 rfl ?_
        refine Own.iload H_2295 (pc := 180) at_180 rfl ?_
        refine Own.iastore H_2295 (pc := 182) 1 at_182 A_2304 ge_ar rfl (by simp) (fun T_2307 h_2308 H_2306 W_2309 A_2310 => ?_)
        have A_2311 := A_2300.other W_2309 (by omega)
        have A_2312 := A_2301.other W_2309 (by omega)
        have A_2313 := A_2302.other W_2309 (by omega)
        have A_2314 := A_2303.other W_2309 (by omega)
        have A_2315 : OAry Z h_2308 ar .int [(.int sv), (.int sv), (.int (0 : Int32)), (.int (0 : Int32))] := A_2310
        have A_2316 := A_2305.other W_2309 (by omega)
        refine Own.aload H_2306 (pc := 183) at_183 rfl rfl ?_
        refine Own.iconst H_2306 (pc := 185) (2) at_185 rfl ?_
        refine Own.iload H_2306 (pc := 186) at_186 rfl ?_
        refine Own.iastore H_2306 (pc := 188) 2 at_188 A_2315 ge_ar rfl (by simp) (fun T_2318 h_2319 H_2317 W_2320 A_2321 => ?_)
        have A_2322 := A_2311.other W_2320 (by omega)
        have A_2323 := A_2312.other W_2320 (by omega)
        have A_2324 := A_2313.other W_2320 (by omega)
        have A_2325 := A_2314.other W_2320 (by omega)
        have A_2326 : OAry Z h_2319 ar .int [(.int sv), (.int sv), (.int sv), (.int (0 : Int32))] := A_2321
        have A_2327 := A_2316.other W_2320 (by omega)
        refine Own.aload H_2317 (pc := 189) at_189 rfl rfl ?_
        refine Own.iconst H_2317 (pc := 191) (3) at_191 rfl ?_
        refine Own.iload H_2317 (pc := 192) at_192 rfl ?_
        refine Own.iastore H_2317 (pc := 194) 3 at_194 A_2326 ge_ar rfl (by simp) (fun T_2329 h_2330 H_2328 W_2331 A_2332 => ?_)
        have A_2333 := A_2322.other W_2331 (by omega)
        have A_2334 := A_2323.other W_2331 (by omega)
        have A_2335 := A_2324.other W_2331 (by omega)
        have A_2336 := A_2325.other W_2331 (by omega)
        have A_2337 : OAry Z h_2330 ar .int [(.int sv), (.int sv), (.int sv), (.int sv)] := A_2332
        have A_2338 := A_2327.other W_2331 (by omega)
        refine Own.aload H_2328 (pc := 195) at_195 rfl rfl ?_
        refine Own.iconst H_2328 (pc := 197) (0) at_197 rfl ?_
        refine Own.iload H_2328 (pc := 198) at_198 rfl ?_
        refine Own.iastore H_2328 (pc := 200) 0 at_200 A_2338 ge_as_ rfl (by simp) (fun T_2340 h_2341 H_2339 W_2342 A_2343 => ?_)
        have A_2344 := A_2333.other W_2342 (by omega)
        have A_2345 := A_2334.other W_2342 (by omega)
        have A_2346 := A_2335.other W_2342 (by omega)
        have A_2347 := A_2336.other W_2342 (by omega)
        have A_2348 := A_2337.other W_2342 (by omega)
        have A_2349 : OAry Z h_2341 as_ .int [(.int sv), (.int (0 : Int32)), (.int (0 : Int32)), (.int (0 : Int32))] := A_2343
        refine Own.aload H_2339 (pc := 201) at_201 rfl rfl ?_
        refine Own.iconst H_2339 (pc := 203) (1) at_203 rfl ?_
        refine Own.iload H_2339 (pc := 204) at_204 rfl ?_
        refine Own.iastore H_2339 (pc := 206) 1 at_206 A_2349 ge_as_ rfl (by simp) (fun T_2351 h_2352 H_2350 W_2353 A_2354 => ?_)
        have A_2355 := A_2344.other W_2353 (by omega)
        have A_2356 := A_2345.other W_2353 (by omega)
        have A_2357 := A_2346.other W_2353 (by omega)
        have A_2358 := A_2347.other W_2353 (by omega)
        have A_2359 := A_2348.other W_2353 (by omega)
        have A_2360 : OAry Z h_2352 as_ .int [(.int sv), (.int sv), (.int (0 : Int32)), (.int (0 : Int32))] := A_2354
        refine Own.aload H_2350 (pc := 207) at_207 rfl rfl ?_
        refine Own.iconst H_2350 (pc := 209) (2) at_209 rfl ?_
        refine Own.iload H_2350 (pc := 210) at_210 rfl ?_
        refine Own.iastore H_2350 (pc := 212) 2 at_212 A_2360 ge_as_ rfl (by simp) (fun T_2362 h_2363 H_2361 W_2364 A_2365 => ?_)
        have A_2366 := A_2355.other W_2364 (by omega)
        have A_2367 := A_2356.other W_2364 (by omega)
        have A_2368 := A_2357.other W_2364 (by omega)
        have A_2369 := A_2358.other W_2364 (by omega)
        have A_2370 := A_2359.other W_2364 (by omega)
        have A_2371 : OAry Z h_2363 as_ .int [(.int sv), (.int sv), (.int sv), (.int (0 : Int32))] := A_2365
        refine Own.aload H_2361 (pc := 213) at_213 rfl rfl ?_
        refine Own.iconst H_2361 (pc := 215) (3) at_215 rfl ?_
        refine Own.iload H_2361 (pc := 216) at_216 rfl ?_
        refine Own.iastore H_2361 (pc := 218) 3 at_218 A_2371 ge_as_ rfl (by simp) (fun T_2373 h_2374 H_2372 W_2375 A_2376 => ?_)
        have A_2377 := A_2366.other W_2375 (by omega)
        have A_2378 := A_2367.other W_2375 (by omega)
        have A_2379 := A_2368.other W_2375 (by omega)
        have A_2380 := A_2369.other W_2375 (by omega)
        have A_2381 := A_2370.other W_2375 (by omega)
        have A_2382 : OAry Z h_2374 as_ .int [(.int sv), (.int sv), (.int sv), (.int sv)] := A_2376
        refine Own.aload H_2372 (pc := 219) at_219 rfl rfl ?_
        refine Own.aload H_2372 (pc := 221) at_221 rfl rfl ?_
        refine Own.aload H_2372 (pc := 223) at_223 rfl rfl ?_
        refine Own.iload H_2372 (pc := 225) at_225 rfl ?_
        refine Own.aload H_2372 (pc := 227) at_227 rfl rfl ?_
        refine Own.aload H_2372 (pc := 229) at_229 rfl rfl ?_
        refine Own.aload H_2372 (pc := 231) at_231 rfl rfl ?_
        refine Own.callS H_2372 (pc := 233) (y := (⟨"termstone/postings/Impacts", "lay", "([I[I[II[I[I[I)V"⟩ : MethodName)) [(.ref af), (.ref al), (.ref ae), (.int (1 : Int32)), (.ref ac), (.ref ar), (.ref as_)] [] at_233 (hw _ (List.mem_of_getElem? (i := 1) rfl)) (hw _ (List.mem_of_getElem? (i := 2) rfl)) (hw _ (List.mem_of_getElem? (i := 3) rfl)) (hw _ (List.mem_of_getElem? (i := 4) rfl)) (by decide) (rm_lay121 l Z a0 hw af al ae (1 : Int32) ac ar as_ _ n0 H_2372.z0 (p0).toInt32 ((XT.ushrL p0 (32 : Int32))).toInt32 (p1).toInt32 ((XT.ushrL p1 (32 : Int32))).toInt32 (p2).toInt32 ((XT.ushrL p2 (32 : Int32))).toInt32 (p3).toInt32 ((XT.ushrL p3 (32 : Int32))).toInt32 sv A_2377 A_2378 A_2379 A_2380 A_2381 A_2382 lt_af_al lt_al_ae lt_ae_ac lt_ac_ar lt_ar_as_ ge_ac ge_ar ge_as_ rfl) (r := none) (ps := [(.array .int), (.array .int), (.array .int), .int, (.array .int), (.array .int), (.array .int)]) (by decide) rfl rfl 0 rfl (by decide) (by decide) (by decide) (by decide) rfl (fun T_2384 v_2386 h_2385 H_2383 z_2387 q_2388 => ?_)
        obtain ⟨rfl, C0, C1, C2, C3, C4, C5⟩ := q_2388
        show OEnds _ _ _ _ _ _ _ _ _ (mkF _ 236 #[.val (.long p0), .second, .val (.long p1), .second, .val (.long p2), .second, .val (.long p3), .second, .val (.int p4), .val (.int sv), .val (.int (1 : Int32)), .val (.int (2 : Int32)), .val (.int (1 : Int32)), .val (.int (3 : Int32)), .val (.ref af), .val (.ref al), .val (.ref ae), .val (.ref ac), .val (.ref ar), .val (.ref as_), .unset] [])
        refine Own.aload H_2383 (pc := 236) at_236 rfl rfl ?_
        refine Own.iconst H_2383 (pc := 238) (0) at_238 rfl ?_
        refine Own.iaload H_2383 (pc := 239) (v := (p0).toInt32) 0 at_239 C0 rfl rfl ?_
        refine Own.lload_n H_2383 (pc := 240) at_240 rfl ?_
        refine Own.l2i H_2383 (pc := 241) at_241 ?_
        refine Own.icmp_ne H_2383 (pc := 242) 349 at_242 (by decide) (by decide) (fun hX => absurd rfl hX) (fun _ => ?_)
        refine Own.aload H_2383 (pc := 245) at_245 rfl rfl ?_
        refine Own.iconst H_2383 (pc := 247) (1) at_247 rfl ?_
        refine Own.iaload H_2383 (pc := 248) (v := ((XT.ushrL p0 (32 : Int32))).toInt32) 1 at_248 C0 rfl rfl ?_
        refine Own.lload_n H_2383 (pc := 249) at_249 rfl ?_
        refine Own.bipush H_2383 (pc := 250) (32) at_250 rfl ?_
        refine Own.lushr H_2383 (pc := 252) at_252 ?_
        refine Own.l2i H_2383 (pc := 253) at_253 ?_
        refine Own.icmp_ne H_2383 (pc := 254) 349 at_254 (by decide) (by decide) (fun hX => absurd rfl hX) (fun _ => ?_)
        refine Own.aload H_2383 (pc := 257) at_257 rfl rfl ?_
        refine Own.iconst H_2383 (pc := 259) (2) at_259 rfl ?_
        refine Own.iaload H_2383 (pc := 260) (v := (p1).toInt32) 2 at_260 C0 rfl rfl ?_
        refine Own.lload_n H_2383 (pc := 261) at_261 rfl ?_
        refine Own.l2i H_2383 (pc := 262) at_262 ?_
        refine Own.icmp_ne H_2383 (pc := 263) 349 at_263 (by decide) (by decide) (fun hX => absurd rfl hX) (fun _ => ?_)
        refine Own.aload H_2383 (pc := 266) at_266 rfl rfl ?_
        refine Own.iconst H_2383 (pc := 268) (3) at_268 rfl ?_
        refine Own.iaload H_2383 (pc := 269) (v := ((XT.ushrL p1 (32 : Int32))).toInt32) 3 at_269 C0 rfl rfl ?_
        refine Own.lload_n H_2383 (pc := 270) at_270 rfl ?_
        refine Own.bipush H_2383 (pc := 271) (32) at_271 rfl ?_
        refine Own.lushr H_2383 (pc := 273) at_273 ?_
        refine Own.l2i H_2383 (pc := 274) at_274 ?_
        refine Own.icmp_ne H_2383 (pc := 275) 349 at_275 (by decide) (by decide) (fun hX => absurd rfl hX) (fun _ => ?_)
        refine Own.aload H_2383 (pc := 278) at_278 rfl rfl ?_
        refine Own.iconst H_2383 (pc := 280) (0) at_280 rfl ?_
        refine Own.iaload H_2383 (pc := 281) (v := (p2).toInt32) 0 at_281 C1 rfl rfl ?_
        refine Own.lload H_2383 (pc := 282) at_282 rfl ?_
        refine Own.l2i H_2383 (pc := 284) at_284 ?_
        refine Own.icmp_ne H_2383 (pc := 285) 349 at_285 (by decide) (by decide) (fun hX => absurd rfl hX) (fun _ => ?_)
        refine Own.aload H_2383 (pc := 288) at_288 rfl rfl ?_
        refine Own.iconst H_2383 (pc := 290) (1) at_290 rfl ?_
        refine Own.iaload H_2383 (pc := 291) (v := ((XT.ushrL p2 (32 : Int32))).toInt32) 1 at_291 C1 rfl rfl ?_
        refine Own.lload H_2383 (pc := 292) at_292 rfl ?_
        refine Own.bipush H_2383 (pc := 294) (32) at_294 rfl ?_
        refine Own.lushr H_2383 (pc := 296) at_296 ?_
        refine Own.l2i H_2383 (pc := 297) at_297 ?_
        refine Own.icmp_ne H_2383 (pc := 298) 349 at_298 (by decide) (by decide) (fun hX => absurd rfl hX) (fun _ => ?_)
        refine Own.aload H_2383 (pc := 301) at_301 rfl rfl ?_
        refine Own.iconst H_2383 (pc := 303) (2) at_303 rfl ?_
        refine Own.iaload H_2383 (pc := 304) (v := (p3).toInt32) 2 at_304 C1 rfl rfl ?_
        refine Own.lload H_2383 (pc := 305) at_305 rfl ?_
        refine Own.l2i H_2383 (pc := 307) at_307 ?_
        refine Own.icmp_ne H_2383 (pc := 308) 349 at_308 (by decide) (by decide) (fun hX => absurd rfl hX) (fun _ => ?_)
        refine Own.aload H_2383 (pc := 311) at_311 rfl rfl ?_
        refine Own.iconst H_2383 (pc := 313) (3) at_313 rfl ?_
        refine Own.iaload H_2383 (pc := 314) (v := ((XT.ushrL p3 (32 : Int32))).toInt32) 3 at_314 C1 rfl rfl ?_
        refine Own.lload H_2383 (pc := 315) at_315 rfl ?_
        refine Own.bipush H_2383 (pc := 317) (32) at_317 rfl ?_
        refine Own.lushr H_2383 (pc := 319) at_319 ?_
        refine Own.l2i H_2383 (pc := 320) at_320 ?_
        refine Own.icmp_ne H_2383 (pc := 321) 349 at_321 (by decide) (by decide) (fun hX => absurd rfl hX) (fun _ => ?_)
        refine Own.aload H_2383 (pc := 324) at_324 rfl rfl ?_
        refine Own.iconst H_2383 (pc := 326) (0) at_326 rfl ?_
        refine Own.iaload H_2383 (pc := 327) (v := (2 : Int32)) 0 at_327 C2 rfl rfl ?_
        refine Own.iload H_2383 (pc := 328) at_328 rfl ?_
        refine Own.icmp_ne H_2383 (pc := 330) 349 at_330 (by decide) (by decide) (fun hc => absurd hc (by decide)) (fun _ => ?_)
        refine Own.aload H_2383 (pc := 333) at_333 rfl rfl ?_
        refine Own.iconst H_2383 (pc := 335) (1) at_335 rfl ?_
        refine Own.iaload H_2383 (pc := 336) (v := (3 : Int32)) 1 at_336 C2 rfl rfl ?_
        refine Own.iload H_2383 (pc := 337) at_337 rfl ?_
        refine Own.iload H_2383 (pc := 339) at_339 rfl ?_
        refine Own.iadd_c H_2383 (pc := 341) (3) at_341 (by decide) ?_
        refine Own.icmp_ne H_2383 (pc := 342) 349 at_342 (by decide) (by decide) (fun hc => absurd hc (by decide)) (fun _ => ?_)
        refine Own.iconst H_2383 (pc := 345) (1) at_345 rfl ?_
        refine Own.goto H_2383 (pc := 346) 350 at_346 (by decide) (by decide) ?_
        refine Own.istore H_2383 (pc := 350) #[.val (.long p0), .second, .val (.long p1), .second, .val (.long p2), .second, .val (.long p3), .second, .val (.int p4), .val (.int sv), .val (.int (1 : Int32)), .val (.int (2 : Int32)), .val (.int (1 : Int32)), .val (.int (3 : Int32)), .val (.ref af), .val (.ref al), .val (.ref ae), .val (.ref ac), .val (.ref ar), .val (.ref as_), .val (.int (1 : Int32))] at_350 rfl ?_
        refine Own.iload H_2383 (pc := 352) at_352 rfl ?_
        refine Own.if_eq H_2383 (pc := 354) 378 at_354 (by decide) (by decide) (fun hc => absurd hc (by decide)) (fun _ => ?_)
        refine Own.aload H_2383 (pc := 357) at_357 rfl rfl ?_
        refine Own.aload H_2383 (pc := 359) at_359 rfl rfl ?_
        refine Own.aload H_2383 (pc := 361) at_361 rfl rfl ?_
        refine Own.aload H_2383 (pc := 363) at_363 rfl rfl ?_
        refine Own.iconst H_2383 (pc := 365) (0) at_365 rfl ?_
        refine Own.iload H_2383 (pc := 366) at_366 rfl ?_
        refine Own.callS H_2383 (pc := 368) (y := (⟨"termstone/postings/ImpactsLayPinLaw", "segment", "([I[I[I[III)Z"⟩ : MethodName)) [(.ref ar), (.ref as_), (.ref af), (.ref al), (.int (0 : Int32)), (.int (2 : Int32))] [] at_368 (hw _ (List.mem_of_getElem? (i := 5) rfl)) (hw _ (List.mem_of_getElem? (i := 6) rfl)) (hw _ (List.mem_of_getElem? (i := 7) rfl)) (hw _ (List.mem_of_getElem? (i := 8) rfl)) (by decide) (rm_seg l Z a0 hw ar as_ af al (0 : Int32) (2 : Int32) _ n0 H_2383.z0 [(((p0).toInt32 - (0 : Int32)) - (1 : Int32)), ((((XT.ushrL p0 (32 : Int32))).toInt32 - (p0).toInt32) - (1 : Int32)), (((p1).toInt32 - (0 : Int32)) - (1 : Int32)), sv] [(((p2).toInt32 - (-1 : Int32)) - (1 : Int32)), ((((XT.ushrL p2 (32 : Int32))).toInt32 - (p2).toInt32) - (1 : Int32)), (((p3).toInt32 - (-1 : Int32)) - (1 : Int32)), sv] [(p0).toInt32, ((XT.ushrL p0 (32 : Int32))).toInt32, (p1).toInt32, ((XT.ushrL p1 (32 : Int32))).toInt32] [(p2).toInt32, ((XT.ushrL p2 (32 : Int32))).toInt32, (p3).toInt32, ((XT.ushrL p3 (32 : Int32))).toInt32] C4 C5 C0 C1 rfl rfl rfl rfl 0 (by decide) rfl (own_a1 _) (own_a2 _) (fun _ => ⟨by decide, own_a3 _ _, own_a3 _ _⟩)) (r := (some .boolean)) (ps := [(.array .int), (.array .int), (.array .int), (.array .int), .int, .int]) (by decide) rfl rfl 0 rfl (by decide) (by decide) (by decide) (by decide) rfl (fun T_2390 v_2392 h_2391 H_2389 z_2393 q_2394 => ?_)
        obtain ⟨rfl, rfl⟩ := q_2394
        show OEnds _ _ _ _ _ _ _ _ _ (mkF _ 371 #[.val (.long p0), .second, .val (.long p1), .second, .val (.long p2), .second, .val (.long p3), .second, .val (.int p4), .val (.int sv), .val (.int (1 : Int32)), .val (.int (2 : Int32)), .val (.int (1 : Int32)), .val (.int (3 : Int32)), .val (.ref af), .val (.ref al), .val (.ref ae), .val (.ref ac), .val (.ref ar), .val (.ref as_), .val (.int (1 : Int32))] [(.int (1 : Int32))])
        refine Own.if_eq H_2389 (pc := 371) 378 at_371 (by decide) (by decide) (fun hc => absurd hc (by decide)) (fun _ => ?_)
        refine Own.iconst H_2389 (pc := 374) (1) at_374 rfl ?_
        refine Own.goto H_2389 (pc := 375) 379 at_375 (by decide) (by decide) ?_
        refine Own.istore H_2389 (pc := 379) #[.val (.long p0), .second, .val (.long p1), .second, .val (.long p2), .second, .val (.long p3), .second, .val (.int p4), .val (.int sv), .val (.int (1 : Int32)), .val (.int (2 : Int32)), .val (.int (1 : Int32)), .val (.int (3 : Int32)), .val (.ref af), .val (.ref al), .val (.ref ae), .val (.ref ac), .val (.ref ar), .val (.ref as_), .val (.int (1 : Int32))] at_379 rfl ?_
        refine Own.iload H_2389 (pc := 381) at_381 rfl ?_
        refine Own.iconst H_2389 (pc := 383) (1) at_383 rfl ?_
        refine Own.icmp_ne H_2389 (pc := 384) 417 at_384 (by decide) (by decide) (fun hc => absurd hc (by decide)) (fun _ => ?_)
        refine Own.iload H_2389 (pc := 387) at_387 rfl ?_
        refine Own.if_eq H_2389 (pc := 389) 414 at_389 (by decide) (by decide) (fun hc => absurd hc (by decide)) (fun _ => ?_)
        refine Own.aload H_2389 (pc := 392) at_392 rfl rfl ?_
        refine Own.aload H_2389 (pc := 394) at_394 rfl rfl ?_
        refine Own.aload H_2389 (pc := 396) at_396 rfl rfl ?_
        refine Own.aload H_2389 (pc := 398) at_398 rfl rfl ?_
        refine Own.iload H_2389 (pc := 400) at_400 rfl ?_
        refine Own.iload H_2389 (pc := 402) at_402 rfl ?_
        refine Own.callS H_2389 (pc := 404) (y := (⟨"termstone/postings/ImpactsLayPinLaw", "segment", "([I[I[I[III)Z"⟩ : MethodName)) [(.ref ar), (.ref as_), (.ref af), (.ref al), (.int (2 : Int32)), (.int (1 : Int32))] [] at_404 (hw _ (List.mem_of_getElem? (i := 5) rfl)) (hw _ (List.mem_of_getElem? (i := 6) rfl)) (hw _ (List.mem_of_getElem? (i := 7) rfl)) (hw _ (List.mem_of_getElem? (i := 8) rfl)) (by decide) (rm_seg l Z a0 hw ar as_ af al (2 : Int32) (1 : Int32) _ n0 H_2389.z0 [(((p0).toInt32 - (0 : Int32)) - (1 : Int32)), ((((XT.ushrL p0 (32 : Int32))).toInt32 - (p0).toInt32) - (1 : Int32)), (((p1).toInt32 - (0 : Int32)) - (1 : Int32)), sv] [(((p2).toInt32 - (-1 : Int32)) - (1 : Int32)), ((((XT.ushrL p2 (32 : Int32))).toInt32 - (p2).toInt32) - (1 : Int32)), (((p3).toInt32 - (-1 : Int32)) - (1 : Int32)), sv] [(p0).toInt32, ((XT.ushrL p0 (32 : Int32))).toInt32, (p1).toInt32, ((XT.ushrL p1 (32 : Int32))).toInt32] [(p2).toInt32, ((XT.ushrL p2 (32 : Int32))).toInt32, (p3).toInt32, ((XT.ushrL p3 (32 : Int32))).toInt32] C4 C5 C0 C1 rfl rfl rfl rfl 2 (by decide) rfl (own_a1 _) (own_a2 _) (fun q => absurd q (by decide))) (r := (some .boolean)) (ps := [(.array .int), (.array .int), (.array .int), (.array .int), .int, .int]) (by decide) rfl rfl 0 rfl (by decide) (by decide) (by decide) (by decide) rfl (fun T_2396 v_2398 h_2397 H_2395 z_2399 q_2400 => ?_)
        obtain ⟨rfl, rfl⟩ := q_2400
        show OEnds _ _ _ _ _ _ _ _ _ (mkF _ 407 #[.val (.long p0), .second, .val (.long p1), .second, .val (.long p2), .second, .val (.long p3), .second, .val (.int p4), .val (.int sv), .val (.int (1 : Int32)), .val (.int (2 : Int32)), .val (.int (1 : Int32)), .val (.int (3 : Int32)), .val (.ref af), .val (.ref al), .val (.ref ae), .val (.ref ac), .val (.ref ar), .val (.ref as_), .val (.int (1 : Int32))] [(.int (1 : Int32))])
        refine Own.if_eq H_2395 (pc := 407) 414 at_407 (by decide) (by decide) (fun hc => absurd hc (by decide)) (fun _ => ?_)
        refine Own.iconst H_2395 (pc := 410) (1) at_410 rfl ?_
        refine Own.goto H_2395 (pc := 411) 415 at_411 (by decide) (by decide) ?_
        refine Own.istore H_2395 (pc := 415) #[.val (.long p0), .second, .val (.long p1), .second, .val (.long p2), .second, .val (.long p3), .second, .val (.int p4), .val (.int sv), .val (.int (1 : Int32)), .val (.int (2 : Int32)), .val (.int (1 : Int32)), .val (.int (3 : Int32)), .val (.ref af), .val (.ref al), .val (.ref ae), .val (.ref ac), .val (.ref ar), .val (.ref as_), .val (.int (1 : Int32))] at_415 rfl ?_
        refine Own.iload H_2395 (pc := 417) at_417 rfl ?_
        refine Own.if_eq H_2395 (pc := 419) 437 at_419 (by decide) (by decide) (fun hc => absurd hc (by decide)) (fun _ => ?_)
        refine Own.aload H_2395 (pc := 422) at_422 rfl rfl ?_
        refine Own.iconst H_2395 (pc := 424) (0) at_424 rfl ?_
        refine Own.iaload H_2395 (pc := 425) (v := (1 : Int32)) 0 at_425 C3 rfl rfl ?_
        refine Own.iload H_2395 (pc := 426) at_426 rfl ?_
        refine Own.iconst H_2395 (pc := 428) (1) at_428 rfl ?_
        refine Own.isub_c H_2395 (pc := 429) (1) at_429 (by decide) ?_
        refine Own.icmp_ne H_2395 (pc := 430) 437 at_430 (by decide) (by decide) (fun hc => absurd hc (by decide)) (fun _ => ?_)
        refine Own.iconst H_2395 (pc := 433) (1) at_433 rfl ?_
        refine Own.goto H_2395 (pc := 434) 438 at_434 (by decide) (by decide) ?_
        refine Own.istore H_2395 (pc := 438) #[.val (.long p0), .second, .val (.long p1), .second, .val (.long p2), .second, .val (.long p3), .second, .val (.int p4), .val (.int sv), .val (.int (1 : Int32)), .val (.int (2 : Int32)), .val (.int (1 : Int32)), .val (.int (3 : Int32)), .val (.ref af), .val (.ref al), .val (.ref ae), .val (.ref ac), .val (.ref ar), .val (.ref as_), .val (.int (1 : Int32))] at_438 rfl ?_
        refine Own.iload H_2395 (pc := 440) at_440 rfl ?_
        refine Own.if_eq H_2395 (pc := 442) 471 at_442 (by decide) (by decide) (fun hc => absurd hc (by decide)) (fun _ => ?_)
        refine Own.aload H_2395 (pc := 445) at_445 rfl rfl ?_
        refine Own.iconst H_2395 (pc := 447) (1) at_447 rfl ?_
        refine Own.iaload H_2395 (pc := 448) (v := (0 : Int32)) 1 at_448 C3 rfl rfl ?_
        refine Own.iload H_2395 (pc := 449) at_449 rfl ?_
        refine Own.iconst H_2395 (pc := 451) (1) at_451 rfl ?_
        refine Own.icmp_ne H_2395 (pc := 452) 462 at_452 (by decide) (by decide) (fun hc => absurd hc (by decide)) (fun _ => ?_)
        refine Own.iload H_2395 (pc := 455) at_455 rfl ?_
        refine Own.iconst H_2395 (pc := 457) (1) at_457 rfl ?_
        refine Own.isub_c H_2395 (pc := 458) (0) at_458 (by decide) ?_
        refine Own.goto H_2395 (pc := 459) 464 at_459 (by decide) (by decide) ?_
        refine Own.icmp_ne H_2395 (pc := 464) 471 at_464 (by decide) (by decide) (fun hc => absurd hc (by decide)) (fun _ => ?_)
        refine Own.iconst H_2395 (pc := 467) (1) at_467 rfl ?_
        refine Own.goto H_2395 (pc := 468) 472 at_468 (by decide) (by decide) ?_
        refine Own.istore H_2395 (pc := 472) #[.val (.long p0), .second, .val (.long p1), .second, .val (.long p2), .second, .val (.long p3), .second, .val (.int p4), .val (.int sv), .val (.int (1 : Int32)), .val (.int (2 : Int32)), .val (.int (1 : Int32)), .val (.int (3 : Int32)), .val (.ref af), .val (.ref al), .val (.ref ae), .val (.ref ac), .val (.ref ar), .val (.ref as_), .val (.int (1 : Int32))] at_472 rfl ?_
        refine Own.iload H_2395 (pc := 474) at_474 rfl ?_
        refine Own.if_eq H_2395 (pc := 476) 492 at_476 (by decide) (by decide) (fun hc => absurd hc (by decide)) (fun _ => ?_)
        refine Own.aload H_2395 (pc := 479) at_479 rfl rfl ?_
        refine Own.iconst H_2395 (pc := 481) (2) at_481 rfl ?_
        refine Own.iaload H_2395 (pc := 482) (v := sv) 2 at_482 C3 rfl rfl ?_
        refine Own.iload H_2395 (pc := 483) at_483 rfl ?_
        refine Own.icmp_ne H_2395 (pc := 485) 492 at_485 (by decide) (by decide) (fun hX => absurd rfl hX) (fun _ => ?_)
        refine Own.iconst H_2395 (pc := 488) (1) at_488 rfl ?_
        refine Own.goto H_2395 (pc := 489) 493 at_489 (by decide) (by decide) ?_
        refine Own.istore H_2395 (pc := 493) #[.val (.long p0), .second, .val (.long p1), .second, .val (.long p2), .second, .val (.long p3), .second, .val (.int p4), .val (.int sv), .val (.int (1 : Int32)), .val (.int (2 : Int32)), .val (.int (1 : Int32)), .val (.int (3 : Int32)), .val (.ref af), .val (.ref al), .val (.ref ae), .val (.ref ac), .val (.ref ar), .val (.ref as_), .val (.int (1 : Int32))] at_493 rfl ?_
        refine Own.iload H_2395 (pc := 495) at_495 rfl ?_
        refine Own.if_eq H_2395 (pc := 497) 543 at_497 (by decide) (by decide) (fun hc => absurd hc (by decide)) (fun _ => ?_)
        refine Own.aload H_2395 (pc := 500) at_500 rfl rfl ?_
        refine Own.iconst H_2395 (pc := 502) (1) at_502 rfl ?_
        refine Own.iload H_2395 (pc := 503) at_503 rfl ?_
        refine Own.iload H_2395 (pc := 505) at_505 rfl ?_
        refine Own.callS H_2395 (pc := 507) (y := (⟨"termstone/postings/ImpactsLayPinLaw", "untouched", "([IIII)Z"⟩ : MethodName)) [(.ref ar), (.int (1 : Int32)), (.int (3 : Int32)), (.int sv)] [] at_507 (hw _ (List.mem_of_getElem? (i := 9) rfl)) (hw _ (List.mem_of_getElem? (i := 10) rfl)) (hw _ (List.mem_of_getElem? (i := 7) rfl)) (hw _ (List.mem_of_getElem? (i := 11) rfl)) (by decide) (rm_unt l Z a0 hw ar (1 : Int32) (3 : Int32) sv _ n0 H_2395.z0 [(((p0).toInt32 - (0 : Int32)) - (1 : Int32)), ((((XT.ushrL p0 (32 : Int32))).toInt32 - (p0).toInt32) - (1 : Int32)), (((p1).toInt32 - (0 : Int32)) - (1 : Int32)), sv] C4 1 (by simp) rfl (fun q => absurd (by decide) q)) (r := (some .boolean)) (ps := [(.array .int), .int, .int, .int]) (by decide) rfl rfl 0 rfl (by decide) (by decide) (by decide) (by decide) rfl (fun T_2402 v_2404 h_2403 H_2401 z_2405 q_2406 => ?_)
        obtain ⟨rfl, rfl⟩ := q_2406
        show OEnds _ _ _ _ _ _ _ _ _ (mkF _ 510 #[.val (.long p0), .second, .val (.long p1), .second, .val (.long p2), .second, .val (.long p3), .second, .val (.int p4), .val (.int sv), .val (.int (1 : Int32)), .val (.int (2 : Int32)), .val (.int (1 : Int32)), .val (.int (3 : Int32)), .val (.ref af), .val (.ref al), .val (.ref ae), .val (.ref ac), .val (.ref ar), .val (.ref as_), .val (.int (1 : Int32))] [(.int (1 : Int32))])
        refine Own.if_eq H_2401 (pc := 510) 543 at_510 (by decide) (by decide) (fun hc => absurd hc (by decide)) (fun _ => ?_)
        refine Own.aload H_2401 (pc := 513) at_513 rfl rfl ?_
        refine Own.iconst H_2401 (pc := 515) (2) at_515 rfl ?_
        refine Own.iload H_2401 (pc := 516) at_516 rfl ?_
        refine Own.iload H_2401 (pc := 518) at_518 rfl ?_
        refine Own.callS H_2401 (pc := 520) (y := (⟨"termstone/postings/ImpactsLayPinLaw", "untouched", "([IIII)Z"⟩ : MethodName)) [(.ref ar), (.int (2 : Int32)), (.int (3 : Int32)), (.int sv)] [] at_520 (hw _ (List.mem_of_getElem? (i := 9) rfl)) (hw _ (List.mem_of_getElem? (i := 10) rfl)) (hw _ (List.mem_of_getElem? (i := 7) rfl)) (hw _ (List.mem_of_getElem? (i := 11) rfl)) (by decide) (rm_unt l Z a0 hw ar (2 : Int32) (3 : Int32) sv _ n0 H_2401.z0 [(((p0).toInt32 - (0 : Int32)) - (1 : Int32)), ((((XT.ushrL p0 (32 : Int32))).toInt32 - (p0).toInt32) - (1 : Int32)), (((p1).toInt32 - (0 : Int32)) - (1 : Int32)), sv] C4 2 (by simp) rfl (fun q => absurd (by decide) q)) (r := (some .boolean)) (ps := [(.array .int), .int, .int, .int]) (by decide) rfl rfl 0 rfl (by decide) (by decide) (by decide) (by decide) rfl (fun T_2408 v_2410 h_2409 H_2407 z_2411 q_2412 => ?_)
        obtain ⟨rfl, rfl⟩ := q_2412
        show OEnds _ _ _ _ _ _ _ _ _ (mkF _ 523 #[.val (.long p0), .second, .val (.long p1), .second, .val (.long p2), .second, .val (.long p3), .second, .val (.int p4), .val (.int sv), .val (.int (1 : Int32)), .val (.int (2 : Int32)), .val (.int (1 : Int32)), .val (.int (3 : Int32)), .val (.ref af), .val (.ref al), .val (.ref ae), .val (.ref ac), .val (.ref ar), .val (.ref as_), .val (.int (1 : Int32))] [(.int (1 : Int32))])
        refine Own.if_eq H_2407 (pc := 523) 543 at_523 (by decide) (by decide) (fun hc => absurd hc (by decide)) (fun _ => ?_)
        refine Own.aload H_2407 (pc := 526) at_526 rfl rfl ?_
        refine Own.iconst H_2407 (pc := 528) (3) at_528 rfl ?_
        refine Own.iload H_2407 (pc := 529) at_529 rfl ?_
        refine Own.iload H_2407 (pc := 531) at_531 rfl ?_
        refine Own.callS H_2407 (pc := 533) (y := (⟨"termstone/postings/ImpactsLayPinLaw", "untouched", "([IIII)Z"⟩ : MethodName)) [(.ref ar), (.int (3 : Int32)), (.int (3 : Int32)), (.int sv)] [] at_533 (hw _ (List.mem_of_getElem? (i := 9) rfl)) (hw _ (List.mem_of_getElem? (i := 10) rfl)) (hw _ (List.mem_of_getElem? (i := 7) rfl)) (hw _ (List.mem_of_getElem? (i := 11) rfl)) (by decide) (rm_unt l Z a0 hw ar (3 : Int32) (3 : Int32) sv _ n0 H_2407.z0 [(((p0).toInt32 - (0 : Int32)) - (1 : Int32)), ((((XT.ushrL p0 (32 : Int32))).toInt32 - (p0).toInt32) - (1 : Int32)), (((p1).toInt32 - (0 : Int32)) - (1 : Int32)), sv] C4 3 (by simp) rfl (fun _ => rfl)) (r := (some .boolean)) (ps := [(.array .int), .int, .int, .int]) (by decide) rfl rfl 0 rfl (by decide) (by decide) (by decide) (by decide) rfl (fun T_2414 v_2416 h_2415 H_2413 z_2417 q_2418 => ?_)
        obtain ⟨rfl, rfl⟩ := q_2418
        show OEnds _ _ _ _ _ _ _ _ _ (mkF _ 536 #[.val (.long p0), .second, .val (.long p1), .second, .val (.long p2), .second, .val (.long p3), .second, .val (.int p4), .val (.int sv), .val (.int (1 : Int32)), .val (.int (2 : Int32)), .val (.int (1 : Int32)), .val (.int (3 : Int32)), .val (.ref af), .val (.ref al), .val (.ref ae), .val (.ref ac), .val (.ref ar), .val (.ref as_), .val (.int (1 : Int32))] [(.int (1 : Int32))])
        refine Own.if_eq H_2413 (pc := 536) 543 at_536 (by decide) (by decide) (fun hc => absurd hc (by decide)) (fun _ => ?_)
        refine Own.iconst H_2413 (pc := 539) (1) at_539 rfl ?_
        refine Own.goto H_2413 (pc := 540) 544 at_540 (by decide) (by decide) ?_
        refine Own.istore H_2413 (pc := 544) #[.val (.long p0), .second, .val (.long p1), .second, .val (.long p2), .second, .val (.long p3), .second, .val (.int p4), .val (.int sv), .val (.int (1 : Int32)), .val (.int (2 : Int32)), .val (.int (1 : Int32)), .val (.int (3 : Int32)), .val (.ref af), .val (.ref al), .val (.ref ae), .val (.ref ac), .val (.ref ar), .val (.ref as_), .val (.int (1 : Int32))] at_544 rfl ?_
        refine Own.iload H_2413 (pc := 546) at_546 rfl ?_
        refine Own.if_eq H_2413 (pc := 548) 594 at_548 (by decide) (by decide) (fun hc => absurd hc (by decide)) (fun _ => ?_)
        refine Own.aload H_2413 (pc := 551) at_551 rfl rfl ?_
        refine Own.iconst H_2413 (pc := 553) (1) at_553 rfl ?_
        refine Own.iload H_2413 (pc := 554) at_554 rfl ?_
        refine Own.iload H_2413 (pc := 556) at_556 rfl ?_
        refine Own.callS H_2413 (pc := 558) (y := (⟨"termstone/postings/ImpactsLayPinLaw", "untouched", "([IIII)Z"⟩ : MethodName)) [(.ref as_), (.int (1 : Int32)), (.int (3 : Int32)), (.int sv)] [] at_558 (hw _ (List.mem_of_getElem? (i := 9) rfl)) (hw _ (List.mem_of_getElem? (i := 10) rfl)) (hw _ (List.mem_of_getElem? (i := 7) rfl)) (hw _ (List.mem_of_getElem? (i := 11) rfl)) (by decide) (rm_unt l Z a0 hw as_ (1 : Int32) (3 : Int32) sv _ n0 H_2413.z0 [(((p2).toInt32 - (-1 : Int32)) - (1 : Int32)), ((((XT.ushrL p2 (32 : Int32))).toInt32 - (p2).toInt32) - (1 : Int32)), (((p3).toInt32 - (-1 : Int32)) - (1 : Int32)), sv] C5 1 (by simp) rfl (fun q => absurd (by decide) q)) (r := (some .boolean)) (ps := [(.array .int), .int, .int, .int]) (by decide) rfl rfl 0 rfl (by decide) (by decide) (by decide) (by decide) rfl (fun T_2420 v_2422 h_2421 H_2419 z_2423 q_2424 => ?_)
        obtain ⟨rfl, rfl⟩ := q_2424
        show OEnds _ _ _ _ _ _ _ _ _ (mkF _ 561 #[.val (.long p0), .second, .val (.long p1), .second, .val (.long p2), .second, .val (.long p3), .second, .val (.int p4), .val (.int sv), .val (.int (1 : Int32)), .val (.int (2 : Int32)), .val (.int (1 : Int32)), .val (.int (3 : Int32)), .val (.ref af), .val (.ref al), .val (.ref ae), .val (.ref ac), .val (.ref ar), .val (.ref as_), .val (.int (1 : Int32))] [(.int (1 : Int32))])
        refine Own.if_eq H_2419 (pc := 561) 594 at_561 (by decide) (by decide) (fun hc => absurd hc (by decide)) (fun _ => ?_)
        refine Own.aload H_2419 (pc := 564) at_564 rfl rfl ?_
        refine Own.iconst H_2419 (pc := 566) (2) at_566 rfl ?_
        refine Own.iload H_2419 (pc := 567) at_567 rfl ?_
        refine Own.iload H_2419 (pc := 569) at_569 rfl ?_
        refine Own.callS H_2419 (pc := 571) (y := (⟨"termstone/postings/ImpactsLayPinLaw", "untouched", "([IIII)Z"⟩ : MethodName)) [(.ref as_), (.int (2 : Int32)), (.int (3 : Int32)), (.int sv)] [] at_571 (hw _ (List.mem_of_getElem? (i := 9) rfl)) (hw _ (List.mem_of_getElem? (i := 10) rfl)) (hw _ (List.mem_of_getElem? (i := 7) rfl)) (hw _ (List.mem_of_getElem? (i := 11) rfl)) (by decide) (rm_unt l Z a0 hw as_ (2 : Int32) (3 : Int32) sv _ n0 H_2419.z0 [(((p2).toInt32 - (-1 : Int32)) - (1 : Int32)), ((((XT.ushrL p2 (32 : Int32))).toInt32 - (p2).toInt32) - (1 : Int32)), (((p3).toInt32 - (-1 : Int32)) - (1 : Int32)), sv] C5 2 (by simp) rfl (fun q => absurd (by decide) q)) (r := (some .boolean)) (ps := [(.array .int), .int, .int, .int]) (by decide) rfl rfl 0 rfl (by decide) (by decide) (by decide) (by decide) rfl (fun T_2426 v_2428 h_2427 H_2425 z_2429 q_2430 => ?_)
        obtain ⟨rfl, rfl⟩ := q_2430
        show OEnds _ _ _ _ _ _ _ _ _ (mkF _ 574 #[.val (.long p0), .second, .val (.long p1), .second, .val (.long p2), .second, .val (.long p3), .second, .val (.int p4), .val (.int sv), .val (.int (1 : Int32)), .val (.int (2 : Int32)), .val (.int (1 : Int32)), .val (.int (3 : Int32)), .val (.ref af), .val (.ref al), .val (.ref ae), .val (.ref ac), .val (.ref ar), .val (.ref as_), .val (.int (1 : Int32))] [(.int (1 : Int32))])
        refine Own.if_eq H_2425 (pc := 574) 594 at_574 (by decide) (by decide) (fun hc => absurd hc (by decide)) (fun _ => ?_)
        refine Own.aload H_2425 (pc := 577) at_577 rfl rfl ?_
        refine Own.iconst H_2425 (pc := 579) (3) at_579 rfl ?_
        refine Own.iload H_2425 (pc := 580) at_580 rfl ?_
        refine Own.iload H_2425 (pc := 582) at_582 rfl ?_
        refine Own.callS H_2425 (pc := 584) (y := (⟨"termstone/postings/ImpactsLayPinLaw", "untouched", "([IIII)Z"⟩ : MethodName)) [(.ref as_), (.int (3 : Int32)), (.int (3 : Int32)), (.int sv)] [] at_584 (hw _ (List.mem_of_getElem? (i := 9) rfl)) (hw _ (List.mem_of_getElem? (i := 10) rfl)) (hw _ (List.mem_of_getElem? (i := 7) rfl)) (hw _ (List.mem_of_getElem? (i := 11) rfl)) (by decide) (rm_unt l Z a0 hw as_ (3 : Int32) (3 : Int32) sv _ n0 H_2425.z0 [(((p2).toInt32 - (-1 : Int32)) - (1 : Int32)), ((((XT.ushrL p2 (32 : Int32))).toInt32 - (p2).toInt32) - (1 : Int32)), (((p3).toInt32 - (-1 : Int32)) - (1 : Int32)), sv] C5 3 (by simp) rfl (fun _ => rfl)) (r := (some .boolean)) (ps := [(.array .int), .int, .int, .int]) (by decide) rfl rfl 0 rfl (by decide) (by decide) (by decide) (by decide) rfl (fun T_2432 v_2434 h_2433 H_2431 z_2435 q_2436 => ?_)
        obtain ⟨rfl, rfl⟩ := q_2436
        show OEnds _ _ _ _ _ _ _ _ _ (mkF _ 587 #[.val (.long p0), .second, .val (.long p1), .second, .val (.long p2), .second, .val (.long p3), .second, .val (.int p4), .val (.int sv), .val (.int (1 : Int32)), .val (.int (2 : Int32)), .val (.int (1 : Int32)), .val (.int (3 : Int32)), .val (.ref af), .val (.ref al), .val (.ref ae), .val (.ref ac), .val (.ref ar), .val (.ref as_), .val (.int (1 : Int32))] [(.int (1 : Int32))])
        refine Own.if_eq H_2431 (pc := 587) 594 at_587 (by decide) (by decide) (fun hc => absurd hc (by decide)) (fun _ => ?_)
        refine Own.iconst H_2431 (pc := 590) (1) at_590 rfl ?_
        refine Own.goto H_2431 (pc := 591) 595 at_591 (by decide) (by decide) ?_
        refine Own.istore H_2431 (pc := 595) #[.val (.long p0), .second, .val (.long p1), .second, .val (.long p2), .second, .val (.long p3), .second, .val (.int p4), .val (.int sv), .val (.int (1 : Int32)), .val (.int (2 : Int32)), .val (.int (1 : Int32)), .val (.int (3 : Int32)), .val (.ref af), .val (.ref al), .val (.ref ae), .val (.ref ac), .val (.ref ar), .val (.ref as_), .val (.int (1 : Int32))] at_595 rfl ?_
        refine Own.iload H_2431 (pc := 597) at_597 rfl ?_
        exact Own.ret_nar H_2431 (pc := 599) (1) at_599 rfl (by simp) (by decide) (by decide) (by decide) (rfl)
      · refine Own.iadd_c H (pc := 23) (2) at_23 (by decide) ?_
        refine Own.istore H (pc := 24) #[.val (.long p0), .second, .val (.long p1), .second, .val (.long p2), .second, .val (.long p3), .second, .val (.int p4), .val (.int sv), .val (.int (1 : Int32)), .val (.int (2 : Int32)), .val (.int (2 : Int32)), .unset, .unset, .unset, .unset, .unset, .unset, .unset, .unset] at_24 rfl ?_
        refine Own.iload H (pc := 26) at_26 rfl ?_
        refine Own.iconst H (pc := 28) (1) at_28 rfl ?_
        refine Own.icmp_ne H (pc := 29) 40 at_29 (by decide) (by decide) (fun hc => absurd hc (by decide)) (fun _ => ?_)
        refine Own.iload H (pc := 32) at_32 rfl ?_
        refine Own.iload H (pc := 34) at_34 rfl ?_
        refine Own.iadd_c H (pc := 36) (4) at_36 (by decide) ?_
        refine Own.goto H (pc := 37) 42 at_37 (by decide) (by decide) ?_
        refine Own.istore H (pc := 42) #[.val (.long p0), .second, .val (.long p1), .second, .val (.long p2), .second, .val (.long p3), .second, .val (.int p4), .val (.int sv), .val (.int (1 : Int32)), .val (.int (2 : Int32)), .val (.int (2 : Int32)), .val (.int (4 : Int32)), .unset, .unset, .unset, .unset, .unset, .unset, .unset] at_42 rfl ?_
        refine Own.iconst H (pc := 44) (4) at_44 rfl ?_
        refine Own.newarray H (pc := 45) (i := 4) 4 at_45 (hw _ (List.mem_of_getElem? (i := 0) rfl)) rfl (by decide) (by decide) (by decide) (by decide) (by decide) (fun T_2438 h_2439 af eq_af ge_af H_2437 Ext_af Ary_af => ?_)
        have A_2440 : OAry Z h_2439 af .int [(.int (0 : Int32)), (.int (0 : Int32)), (.int (0 : Int32)), (.int (0 : Int32))] := Ary_af
        refine Own.astore H_2437 (pc := 47) #[.val (.long p0), .second, .val (.long p1), .second, .val (.long p2), .second, .val (.long p3), .second, .val (.int p4), .val (.int sv), .val (.int (1 : Int32)), .val (.int (2 : Int32)), .val (.int (2 : Int32)), .val (.int (4 : Int32)), .val (.ref af), .unset, .unset, .unset, .unset, .unset, .unset] at_47 rfl rfl ?_
        refine Own.aload H_2437 (pc := 49) at_49 rfl rfl ?_
        refine Own.iconst H_2437 (pc := 51) (0) at_51 rfl ?_
        refine Own.lload_n H_2437 (pc := 52) at_52 rfl ?_
        refine Own.l2i H_2437 (pc := 53) at_53 ?_
        refine Own.iastore H_2437 (pc := 54) 0 at_54 A_2440 ge_af rfl (by simp) (fun T_2442 h_2443 H_2441 W_2444 A_2445 => ?_)
        have A_2446 : OAry Z h_2443 af .int [(.int (p0).toInt32), (.int (0 : Int32)), (.int (0 : Int32)), (.int (0 : Int32))] := A_2445
        refine Own.aload H_2441 (pc := 55) at_55 rfl rfl ?_
        refine Own.iconst H_2441 (pc := 57) (1) at_57 rfl ?_
        refine Own.lload_n H_2441 (pc := 58) at_58 rfl ?_
        refine Own.bipush H_2441 (pc := 59) (32) at_59 rfl ?_
        refine Own.lushr H_2441 (pc := 61) at_61 ?_
        refine Own.l2i H_2441 (pc := 62) at_62 ?_
        refine Own.iastore H_2441 (pc := 63) 1 at_63 A_2446 ge_af rfl (by simp) (fun T_2448 h_2449 H_2447 W_2450 A_2451 => ?_)
        have A_2452 : OAry Z h_2449 af .int [(.int (p0).toInt32), (.int ((XT.ushrL p0 (32 : Int32))).toInt32), (.int (0 : Int32)), (.int (0 : Int32))] := A_2451
        refine Own.aload H_2447 (pc := 64) at_64 rfl rfl ?_
        refine Own.iconst H_2447 (pc := 66) (2) at_66 rfl ?_
        refine Own.lload_n H_2447 (pc := 67) at_67 rfl ?_
        refine Own.l2i H_2447 (pc := 68) at_68 ?_
        refine Own.iastore H_2447 (pc := 69) 2 at_69 A_2452 ge_af rfl (by simp) (fun T_2454 h_2455 H_2453 W_2456 A_2457 => ?_)
        have A_2458 : OAry Z h_2455 af .int [(.int (p0).toInt32), (.int ((XT.ushrL p0 (32 : Int32))).toInt32), (.int (p1).toInt32), (.int (0 : Int32))] := A_2457
        refine Own.aload H_2453 (pc := 70) at_70 rfl rfl ?_
        refine Own.iconst H_2453 (pc := 72) (3) at_72 rfl ?_
        refine Own.lload_n H_2453 (pc := 73) at_73 rfl ?_
        refine Own.bipush H_2453 (pc := 74) (32) at_74 rfl ?_
        refine Own.lushr H_2453 (pc := 76) at_76 ?_
        refine Own.l2i H_2453 (pc := 77) at_77 ?_
        refine Own.iastore H_2453 (pc := 78) 3 at_78 A_2458 ge_af rfl (by simp) (fun T_2460 h_2461 H_2459 W_2462 A_2463 => ?_)
        have A_2464 : OAry Z h_2461 af .int [(.int (p0).toInt32), (.int ((XT.ushrL p0 (32 : Int32))).toInt32), (.int (p1).toInt32), (.int ((XT.ushrL p1 (32 : Int32))).toInt32)] := A_2463
        refine Own.iconst H_2459 (pc := 79) (4) at_79 rfl ?_
        refine Own.newarray H_2459 (pc := 80) (i := 4) 4 at_80 (hw _ (List.mem_of_getElem? (i := 0) rfl)) rfl (by decide) (by decide) (by decide) (by decide) (by decide) (fun T_2466 h_2467 al eq_al ge_al H_2465 Ext_al Ary_al => ?_)
        have lt_af_al : af < al := by have := A_2464.lt; omega
        have A_2468 := A_2464.ext Ext_al
        have A_2469 : OAry Z h_2467 al .int [(.int (0 : Int32)), (.int (0 : Int32)), (.int (0 : Int32)), (.int (0 : Int32))] := Ary_al
        refine Own.astore H_2465 (pc := 82) #[.val (.long p0), .second, .val (.long p1), .second, .val (.long p2), .second, .val (.long p3), .second, .val (.int p4), .val (.int sv), .val (.int (1 : Int32)), .val (.int (2 : Int32)), .val (.int (2 : Int32)), .val (.int (4 : Int32)), .val (.ref af), .val (.ref al), .unset, .unset, .unset, .unset, .unset] at_82 rfl rfl ?_
        refine Own.aload H_2465 (pc := 84) at_84 rfl rfl ?_
        refine Own.iconst H_2465 (pc := 86) (0) at_86 rfl ?_
        refine Own.lload H_2465 (pc := 87) at_87 rfl ?_
        refine Own.l2i H_2465 (pc := 89) at_89 ?_
        refine Own.iastore H_2465 (pc := 90) 0 at_90 A_2469 ge_al rfl (by simp) (fun T_2471 h_2472 H_2470 W_2473 A_2474 => ?_)
        have A_2475 := A_2468.other W_2473 (by omega)
        have A_2476 : OAry Z h_2472 al .int [(.int (p2).toInt32), (.int (0 : Int32)), (.int (0 : Int32)), (.int (0 : Int32))] := A_2474
        refine Own.aload H_2470 (pc := 91) at_91 rfl rfl ?_
        refine Own.iconst H_2470 (pc := 93) (1) at_93 rfl ?_
        refine Own.lload H_2470 (pc := 94) at_94 rfl ?_
        refine Own.bipush H_2470 (pc := 96) (32) at_96 rfl ?_
        refine Own.lushr H_2470 (pc := 98) at_98 ?_
        refine Own.l2i H_2470 (pc := 99) at_99 ?_
        refine Own.iastore H_2470 (pc := 100) 1 at_100 A_2476 ge_al rfl (by simp) (fun T_2478 h_2479 H_2477 W_2480 A_2481 => ?_)
        have A_2482 := A_2475.other W_2480 (by omega)
        have A_2483 : OAry Z h_2479 al .int [(.int (p2).toInt32), (.int ((XT.ushrL p2 (32 : Int32))).toInt32), (.int (0 : Int32)), (.int (0 : Int32))] := A_2481
        refine Own.aload H_2477 (pc := 101) at_101 rfl rfl ?_
        refine Own.iconst H_2477 (pc := 103) (2) at_103 rfl ?_
        refine Own.lload H_2477 (pc := 104) at_104 rfl ?_
        refine Own.l2i H_2477 (pc := 106) at_106 ?_
        refine Own.iastore H_2477 (pc := 107) 2 at_107 A_2483 ge_al rfl (by simp) (fun T_2485 h_2486 H_2484 W_2487 A_2488 => ?_)
        have A_2489 := A_2482.other W_2487 (by omega)
        have A_2490 : OAry Z h_2486 al .int [(.int (p2).toInt32), (.int ((XT.ushrL p2 (32 : Int32))).toInt32), (.int (p3).toInt32), (.int (0 : Int32))] := A_2488
        refine Own.aload H_2484 (pc := 108) at_108 rfl rfl ?_
        refine Own.iconst H_2484 (pc := 110) (3) at_110 rfl ?_
        refine Own.lload H_2484 (pc := 111) at_111 rfl ?_
        refine Own.bipush H_2484 (pc := 113) (32) at_113 rfl ?_
        refine Own.lushr H_2484 (pc := 115) at_115 ?_
        refine Own.l2i H_2484 (pc := 116) at_116 ?_
        refine Own.iastore H_2484 (pc := 117) 3 at_117 A_2490 ge_al rfl (by simp) (fun T_2492 h_2493 H_2491 W_2494 A_2495 => ?_)
        have A_2496 := A_2489.other W_2494 (by omega)
        have A_2497 : OAry Z h_2493 al .int [(.int (p2).toInt32), (.int ((XT.ushrL p2 (32 : Int32))).toInt32), (.int (p3).toInt32), (.int ((XT.ushrL p3 (32 : Int32))).toInt32)] := A_2495
        refine Own.iconst H_2491 (pc := 118) (2) at_118 rfl ?_
        refine Own.newarray H_2491 (pc := 119) (i := 2) 2 at_119 (hw _ (List.mem_of_getElem? (i := 0) rfl)) rfl (by decide) (by decide) (by decide) (by decide) (by decide) (fun T_2499 h_2500 ae eq_ae ge_ae H_2498 Ext_ae Ary_ae => ?_)
        have lt_af_ae : af < ae := by have := A_2496.lt; omega
        have A_2501 := A_2496.ext Ext_ae
        have lt_al_ae : al < ae := by have := A_2497.lt; omega
        have A_2502 := A_2497.ext Ext_ae
        have A_2503 : OAry Z h_2500 ae .int [(.int (0 : Int32)), (.int (0 : Int32))] := Ary_ae
        refine Own.astore H_2498 (pc := 121) #[.val (.long p0), .second, .val (.long p1), .second, .val (.long p2), .second, .val (.long p3), .second, .val (.int p4), .val (.int sv), .val (.int (1 : Int32)), .val (.int (2 : Int32)), .val (.int (2 : Int32)), .val (.int (4 : Int32)), .val (.ref af), .val (.ref al), .val (.ref ae), .unset, .unset, .unset, .unset] at_121 rfl rfl ?_
        refine Own.aload H_2498 (pc := 123) at_123 rfl rfl ?_
        refine Own.iconst H_2498 (pc := 125) (0) at_125 rfl ?_
        refine Own.iload H_2498 (pc := 126) at_126 rfl ?_
        refine Own.iastore H_2498 (pc := 128) 0 at_128 A_2503 ge_ae rfl (by simp) (fun T_2505 h_2506 H_2504 W_2507 A_2508 => ?_)
        have A_2509 := A_2501.other W_2507 (by omega)
        have A_2510 := A_2502.other W_2507 (by omega)
        have A_2511 : OAry Z h_2506 ae .int [(.int (2 : Int32)), (.int (0 : Int32))] := A_2508
        refine Own.aload H_2504 (pc := 129) at_129 rfl rfl ?_
        refine Own.iconst H_2504 (pc := 131) (1) at_131 rfl ?_
        refine Own.iload H_2504 (pc := 132) at_132 rfl ?_
        refine Own.iload H_2504 (pc := 134) at_134 rfl ?_
        refine Own.iadd_c H_2504 (pc := 136) (4) at_136 (by decide) ?_
        refine Own.iastore H_2504 (pc := 137) 1 at_137 A_2511 ge_ae rfl (by simp) (fun T_2513 h_2514 H_2512 W_2515 A_2516 => ?_)
        have A_2517 := A_2509.other W_2515 (by omega)
        have A_2518 := A_2510.other W_2515 (by omega)
        have A_2519 : OAry Z h_2514 ae .int [(.int (2 : Int32)), (.int (4 : Int32))] := A_2516
        refine Own.iconst H_2512 (pc := 138) (3) at_138 rfl ?_
        refine Own.newarray H_2512 (pc := 139) (i := 3) 3 at_139 (hw _ (List.mem_of_getElem? (i := 0) rfl)) rfl (by decide) (by decide) (by decide) (by decide) (by decide) (fun T_2521 h_2522 ac eq_ac ge_ac H_2520 Ext_ac Ary_ac => ?_)
        have lt_af_ac : af < ac := by have := A_2517.lt; omega
        have A_2523 := A_2517.ext Ext_ac
        have lt_al_ac : al < ac := by have := A_2518.lt; omega
        have A_2524 := A_2518.ext Ext_ac
        have lt_ae_ac : ae < ac := by have := A_2519.lt; omega
        have A_2525 := A_2519.ext Ext_ac
        have A_2526 : OAry Z h_2522 ac .int [(.int (0 : Int32)), (.int (0 : Int32)), (.int (0 : Int32))] := Ary_ac
        refine Own.astore H_2520 (pc := 141) #[.val (.long p0), .second, .val (.long p1), .second, .val (.long p2), .second, .val (.long p3), .second, .val (.int p4), .val (.int sv), .val (.int (1 : Int32)), .val (.int (2 : Int32)), .val (.int (2 : Int32)), .val (.int (4 : Int32)), .val (.ref af), .val (.ref al), .val (.ref ae), .val (.ref ac), .unset, .unset, .unset] at_141 rfl rfl ?_
        refine Own.aload H_2520 (pc := 143) at_143 rfl rfl ?_
        refine Own.iconst H_2520 (pc := 145) (0) at_145 rfl ?_
        refine Own.iload H_2520 (pc := 146) at_146 rfl ?_
        refine Own.iastore H_2520 (pc := 148) 0 at_148 A_2526 ge_ac rfl (by simp) (fun T_2528 h_2529 H_2527 W_2530 A_2531 => ?_)
        have A_2532 := A_2523.other W_2530 (by omega)
        have A_2533 := A_2524.other W_2530 (by omega)
        have A_2534 := A_2525.other W_2530 (by omega)
        have A_2535 : OAry Z h_2529 ac .int [(.int sv), (.int (0 : Int32)), (.int (0 : Int32))] := A_2531
        refine Own.aload H_2527 (pc := 149) at_149 rfl rfl ?_
        refine Own.iconst H_2527 (pc := 151) (1) at_151 rfl ?_
        refine Own.iload H_2527 (pc := 152) at_152 rfl ?_
        refine Own.iastore H_2527 (pc := 154) 1 at_154 A_2535 ge_ac rfl (by simp) (fun T_2537 h_2538 H_2536 W_2539 A_2540 => ?_)
        have A_2541 := A_2532.other W_2539 (by omega)
        have A_2542 := A_2533.other W_2539 (by omega)
        have A_2543 := A_2534.other W_2539 (by omega)
        have A_2544 : OAry Z h_2538 ac .int [(.int sv), (.int sv), (.int (0 : Int32))] := A_2540
        refine Own.aload H_2536 (pc := 155) at_155 rfl rfl ?_
        refine Own.iconst H_2536 (pc := 157) (2) at_157 rfl ?_
        refine Own.iload H_2536 (pc := 158) at_158 rfl ?_
        refine Own.iastore H_2536 (pc := 160) 2 at_160 A_2544 ge_ac rfl (by simp) (fun T_2546 h_2547 H_2545 W_2548 A_2549 => ?_)
        have A_2550 := A_2541.other W_2548 (by omega)
        have A_2551 := A_2542.other W_2548 (by omega)
        have A_2552 := A_2543.other W_2548 (by omega)
        have A_2553 : OAry Z h_2547 ac .int [(.int sv), (.int sv), (.int sv)] := A_2549
        refine Own.iconst H_2545 (pc := 161) (4) at_161 rfl ?_
        refine Own.newarray H_2545 (pc := 162) (i := 4) 4 at_162 (hw _ (List.mem_of_getElem? (i := 0) rfl)) rfl (by decide) (by decide) (by decide) (by decide) (by decide) (fun T_2555 h_2556 ar eq_ar ge_ar H_2554 Ext_ar Ary_ar => ?_)
        have lt_af_ar : af < ar := by have := A_2550.lt; omega
        have A_2557 := A_2550.ext Ext_ar
        have lt_al_ar : al < ar := by have := A_2551.lt; omega
        have A_2558 := A_2551.ext Ext_ar
        have lt_ae_ar : ae < ar := by have := A_2552.lt; omega
        have A_2559 := A_2552.ext Ext_ar
        have lt_ac_ar : ac < ar := by have := A_2553.lt; omega
        have A_2560 := A_2553.ext Ext_ar
        have A_2561 : OAry Z h_2556 ar .int [(.int (0 : Int32)), (.int (0 : Int32)), (.int (0 : Int32)), (.int (0 : Int32))] := Ary_ar
        refine Own.astore H_2554 (pc := 164) #[.val (.long p0), .second, .val (.long p1), .second, .val (.long p2), .second, .val (.long p3), .second, .val (.int p4), .val (.int sv), .val (.int (1 : Int32)), .val (.int (2 : Int32)), .val (.int (2 : Int32)), .val (.int (4 : Int32)), .val (.ref af), .val (.ref al), .val (.ref ae), .val (.ref ac), .val (.ref ar), .unset, .unset] at_164 rfl rfl ?_
        refine Own.iconst H_2554 (pc := 166) (4) at_166 rfl ?_
        refine Own.newarray H_2554 (pc := 167) (i := 4) 4 at_167 (hw _ (List.mem_of_getElem? (i := 0) rfl)) rfl (by decide) (by decide) (by decide) (by decide) (by decide) (fun T_2563 h_2564 as_ eq_as_ ge_as_ H_2562 Ext_as_ Ary_as_ => ?_)
        have lt_af_as_ : af < as_ := by have := A_2557.lt; omega
        have A_2565 := A_2557.ext Ext_as_
        have lt_al_as_ : al < as_ := by have := A_2558.lt; omega
        have A_2566 := A_2558.ext Ext_as_
        have lt_ae_as_ : ae < as_ := by have := A_2559.lt; omega
        have A_2567 := A_2559.ext Ext_as_
        have lt_ac_as_ : ac < as_ := by have := A_2560.lt; omega
        have A_2568 := A_2560.ext Ext_as_
        have lt_ar_as_ : ar < as_ := by have := A_2561.lt; omega
        have A_2569 := A_2561.ext Ext_as_
        have A_2570 : OAry Z h_2564 as_ .int [(.int (0 : Int32)), (.int (0 : Int32)), (.int (0 : Int32)), (.int (0 : Int32))] := Ary_as_
        refine Own.astore H_2562 (pc := 169) #[.val (.long p0), .second, .val (.long p1), .second, .val (.long p2), .second, .val (.long p3), .second, .val (.int p4), .val (.int sv), .val (.int (1 : Int32)), .val (.int (2 : Int32)), .val (.int (2 : Int32)), .val (.int (4 : Int32)), .val (.ref af), .val (.ref al), .val (.ref ae), .val (.ref ac), .val (.ref ar), .val (.ref as_), .unset] at_169 rfl rfl ?_
        refine Own.aload H_2562 (pc := 171) at_171 rfl rfl ?_
        refine Own.iconst H_2562 (pc := 173) (0) at_173 rfl ?_
        refine Own.iload H_2562 (pc := 174) at_174 rfl ?_
        refine Own.iastore H_2562 (pc := 176) 0 at_176 A_2569 ge_ar rfl (by simp) (fun T_2572 h_2573 H_2571 W_2574 A_2575 => ?_)
        have A_2576 := A_2565.other W_2574 (by omega)
        have A_2577 := A_2566.other W_2574 (by omega)
        have A_2578 := A_2567.other W_2574 (by omega)
        have A_2579 := A_2568.other W_2574 (by omega)
        have A_2580 : OAry Z h_2573 ar .int [(.int sv), (.int (0 : Int32)), (.int (0 : Int32)), (.int (0 : Int32))] := A_2575
        have A_2581 := A_2570.other W_2574 (by omega)
        refine Own.aload H_2571 (pc := 177) at_177 rfl rfl ?_
        refine Own.iconst H_2571 (pc := 179) (1) at_179 rfl ?_
        refine Own.iload H_2571 (pc := 180) at_180 rfl ?_
        refine Own.iastore H_2571 (pc := 182) 1 at_182 A_2580 ge_ar rfl (by simp) (fun T_2583 h_2584 H_2582 W_2585 A_2586 => ?_)
        have A_2587 := A_2576.other W_2585 (by omega)
        have A_2588 := A_2577.other W_2585 (by omega)
        have A_2589 := A_2578.other W_2585 (by omega)
        have A_2590 := A_2579.other W_2585 (by omega)
        have A_2591 : OAry Z h_2584 ar .int [(.int sv), (.int sv), (.int (0 : Int32)), (.int (0 : Int32))] := A_2586
        have A_2592 := A_2581.other W_2585 (by omega)
        refine Own.aload H_2582 (pc := 183) at_183 rfl rfl ?_
        refine Own.iconst H_2582 (pc := 185) (2) at_185 rfl ?_
        refine Own.iload H_2582 (pc := 186) at_186 rfl ?_
        refine Own.iastore H_2582 (pc := 188) 2 at_188 A_2591 ge_ar rfl (by simp) (fun T_2594 h_2595 H_2593 W_2596 A_2597 => ?_)
        have A_2598 := A_2587.other W_2596 (by omega)
        have A_2599 := A_2588.other W_2596 (by omega)
        have A_2600 := A_2589.other W_2596 (by omega)
        have A_2601 := A_2590.other W_2596 (by omega)
        have A_2602 : OAry Z h_2595 ar .int [(.int sv), (.int sv), (.int sv), (.int (0 : Int32))] := A_2597
        have A_2603 := A_2592.other W_2596 (by omega)
        refine Own.aload H_2593 (pc := 189) at_189 rfl rfl ?_
        refine Own.iconst H_2593 (pc := 191) (3) at_191 rfl ?_
        refine Own.iload H_2593 (pc := 192) at_192 rfl ?_
        refine Own.iastore H_2593 (pc := 194) 3 at_194 A_2602 ge_ar rfl (by simp) (fun T_2605 h_2606 H_2604 W_2607 A_2608 => ?_)
        have A_2609 := A_2598.other W_2607 (by omega)
        have A_2610 := A_2599.other W_2607 (by omega)
        have A_2611 := A_2600.other W_2607 (by omega)
        have A_2612 := A_2601.other W_2607 (by omega)
        have A_2613 : OAry Z h_2606 ar .int [(.int sv), (.int sv), (.int sv), (.int sv)] := A_2608
        have A_2614 := A_2603.other W_2607 (by omega)
        refine Own.aload H_2604 (pc := 195) at_195 rfl rfl ?_
        refine Own.iconst H_2604 (pc := 197) (0) at_197 rfl ?_
        refine Own.iload H_2604 (pc := 198) at_198 rfl ?_
        refine Own.iastore H_2604 (pc := 200) 0 at_200 A_2614 ge_as_ rfl (by simp) (fun T_2616 h_2617 H_2615 W_2618 A_2619 => ?_)
        have A_2620 := A_2609.other W_2618 (by omega)
        have A_2621 := A_2610.other W_2618 (by omega)
        have A_2622 := A_2611.other W_2618 (by omega)
        have A_2623 := A_2612.other W_2618 (by omega)
        have A_2624 := A_2613.other W_2618 (by omega)
        have A_2625 : OAry Z h_2617 as_ .int [(.int sv), (.int (0 : Int32)), (.int (0 : Int32)), (.int (0 : Int32))] := A_2619
        refine Own.aload H_2615 (pc := 201) at_201 rfl rfl ?_
        refine Own.iconst H_2615 (pc := 203) (1) at_203 rfl ?_
        refine Own.iload H_2615 (pc := 204) at_204 rfl ?_
        refine Own.iastore H_2615 (pc := 206) 1 at_206 A_2625 ge_as_ rfl (by simp) (fun T_2627 h_2628 H_2626 W_2629 A_2630 => ?_)
        have A_2631 := A_2620.other W_2629 (by omega)
        have A_2632 := A_2621.other W_2629 (by omega)
        have A_2633 := A_2622.other W_2629 (by omega)
        have A_2634 := A_2623.other W_2629 (by omega)
        have A_2635 := A_2624.other W_2629 (by omega)
        have A_2636 : OAry Z h_2628 as_ .int [(.int sv), (.int sv), (.int (0 : Int32)), (.int (0 : Int32))] := A_2630
        refine Own.aload H_2626 (pc := 207) at_207 rfl rfl ?_
        refine Own.iconst H_2626 (pc := 209) (2) at_209 rfl ?_
        refine Own.iload H_2626 (pc := 210) at_210 rfl ?_
        refine Own.iastore H_2626 (pc := 212) 2 at_212 A_2636 ge_as_ rfl (by simp) (fun T_2638 h_2639 H_2637 W_2640 A_2641 => ?_)
        have A_2642 := A_2631.other W_2640 (by omega)
        have A_2643 := A_2632.other W_2640 (by omega)
        have A_2644 := A_2633.other W_2640 (by omega)
        have A_2645 := A_2634.other W_2640 (by omega)
        have A_2646 := A_2635.other W_2640 (by omega)
        have A_2647 : OAry Z h_2639 as_ .int [(.int sv), (.int sv), (.int sv), (.int (0 : Int32))] := A_2641
        refine Own.aload H_2637 (pc := 213) at_213 rfl rfl ?_
        refine Own.iconst H_2637 (pc := 215) (3) at_215 rfl ?_
        refine Own.iload H_2637 (pc := 216) at_216 rfl ?_
        refine Own.iastore H_2637 (pc := 218) 3 at_218 A_2647 ge_as_ rfl (by simp) (fun T_2649 h_2650 H_2648 W_2651 A_2652 => ?_)
        have A_2653 := A_2642.other W_2651 (by omega)
        have A_2654 := A_2643.other W_2651 (by omega)
        have A_2655 := A_2644.other W_2651 (by omega)
        have A_2656 := A_2645.other W_2651 (by omega)
        have A_2657 := A_2646.other W_2651 (by omega)
        have A_2658 : OAry Z h_2650 as_ .int [(.int sv), (.int sv), (.int sv), (.int sv)] := A_2652
        refine Own.aload H_2648 (pc := 219) at_219 rfl rfl ?_
        refine Own.aload H_2648 (pc := 221) at_221 rfl rfl ?_
        refine Own.aload H_2648 (pc := 223) at_223 rfl rfl ?_
        refine Own.iload H_2648 (pc := 225) at_225 rfl ?_
        refine Own.aload H_2648 (pc := 227) at_227 rfl rfl ?_
        refine Own.aload H_2648 (pc := 229) at_229 rfl rfl ?_
        refine Own.aload H_2648 (pc := 231) at_231 rfl rfl ?_
        refine Own.callS H_2648 (pc := 233) (y := (⟨"termstone/postings/Impacts", "lay", "([I[I[II[I[I[I)V"⟩ : MethodName)) [(.ref af), (.ref al), (.ref ae), (.int (1 : Int32)), (.ref ac), (.ref ar), (.ref as_)] [] at_233 (hw _ (List.mem_of_getElem? (i := 1) rfl)) (hw _ (List.mem_of_getElem? (i := 2) rfl)) (hw _ (List.mem_of_getElem? (i := 3) rfl)) (hw _ (List.mem_of_getElem? (i := 4) rfl)) (by decide) (rm_lay122 l Z a0 hw af al ae (1 : Int32) ac ar as_ _ n0 H_2648.z0 (p0).toInt32 ((XT.ushrL p0 (32 : Int32))).toInt32 (p1).toInt32 ((XT.ushrL p1 (32 : Int32))).toInt32 (p2).toInt32 ((XT.ushrL p2 (32 : Int32))).toInt32 (p3).toInt32 ((XT.ushrL p3 (32 : Int32))).toInt32 sv A_2653 A_2654 A_2655 A_2656 A_2657 A_2658 lt_af_al lt_al_ae lt_ae_ac lt_ac_ar lt_ar_as_ ge_ac ge_ar ge_as_ rfl) (r := none) (ps := [(.array .int), (.array .int), (.array .int), .int, (.array .int), (.array .int), (.array .int)]) (by decide) rfl rfl 0 rfl (by decide) (by decide) (by decide) (by decide) rfl (fun T_2660 v_2662 h_2661 H_2659 z_2663 q_2664 => ?_)
        obtain ⟨rfl, C0, C1, C2, C3, C4, C5⟩ := q_2664
        show OEnds _ _ _ _ _ _ _ _ _ (mkF _ 236 #[.val (.long p0), .second, .val (.long p1), .second, .val (.long p2), .second, .val (.long p3), .second, .val (.int p4), .val (.int sv), .val (.int (1 : Int32)), .val (.int (2 : Int32)), .val (.int (2 : Int32)), .val (.int (4 : Int32)), .val (.ref af), .val (.ref al), .val (.ref ae), .val (.ref ac), .val (.ref ar), .val (.ref as_), .unset] [])
        refine Own.aload H_2659 (pc := 236) at_236 rfl rfl ?_
        refine Own.iconst H_2659 (pc := 238) (0) at_238 rfl ?_
        refine Own.iaload H_2659 (pc := 239) (v := (p0).toInt32) 0 at_239 C0 rfl rfl ?_
        refine Own.lload_n H_2659 (pc := 240) at_240 rfl ?_
        refine Own.l2i H_2659 (pc := 241) at_241 ?_
        refine Own.icmp_ne H_2659 (pc := 242) 349 at_242 (by decide) (by decide) (fun hX => absurd rfl hX) (fun _ => ?_)
        refine Own.aload H_2659 (pc := 245) at_245 rfl rfl ?_
        refine Own.iconst H_2659 (pc := 247) (1) at_247 rfl ?_
        refine Own.iaload H_2659 (pc := 248) (v := ((XT.ushrL p0 (32 : Int32))).toInt32) 1 at_248 C0 rfl rfl ?_
        refine Own.lload_n H_2659 (pc := 249) at_249 rfl ?_
        refine Own.bipush H_2659 (pc := 250) (32) at_250 rfl ?_
        refine Own.lushr H_2659 (pc := 252) at_252 ?_
        refine Own.l2i H_2659 (pc := 253) at_253 ?_
        refine Own.icmp_ne H_2659 (pc := 254) 349 at_254 (by decide) (by decide) (fun hX => absurd rfl hX) (fun _ => ?_)
        refine Own.aload H_2659 (pc := 257) at_257 rfl rfl ?_
        refine Own.iconst H_2659 (pc := 259) (2) at_259 rfl ?_
        refine Own.iaload H_2659 (pc := 260) (v := (p1).toInt32) 2 at_260 C0 rfl rfl ?_
        refine Own.lload_n H_2659 (pc := 261) at_261 rfl ?_
        refine Own.l2i H_2659 (pc := 262) at_262 ?_
        refine Own.icmp_ne H_2659 (pc := 263) 349 at_263 (by decide) (by decide) (fun hX => absurd rfl hX) (fun _ => ?_)
        refine Own.aload H_2659 (pc := 266) at_266 rfl rfl ?_
        refine Own.iconst H_2659 (pc := 268) (3) at_268 rfl ?_
        refine Own.iaload H_2659 (pc := 269) (v := ((XT.ushrL p1 (32 : Int32))).toInt32) 3 at_269 C0 rfl rfl ?_
        refine Own.lload_n H_2659 (pc := 270) at_270 rfl ?_
        refine Own.bipush H_2659 (pc := 271) (32) at_271 rfl ?_
        refine Own.lushr H_2659 (pc := 273) at_273 ?_
        refine Own.l2i H_2659 (pc := 274) at_274 ?_
        refine Own.icmp_ne H_2659 (pc := 275) 349 at_275 (by decide) (by decide) (fun hX => absurd rfl hX) (fun _ => ?_)
        refine Own.aload H_2659 (pc := 278) at_278 rfl rfl ?_
        refine Own.iconst H_2659 (pc := 280) (0) at_280 rfl ?_
        refine Own.iaload H_2659 (pc := 281) (v := (p2).toInt32) 0 at_281 C1 rfl rfl ?_
        refine Own.lload H_2659 (pc := 282) at_282 rfl ?_
        refine Own.l2i H_2659 (pc := 284) at_284 ?_
        refine Own.icmp_ne H_2659 (pc := 285) 349 at_285 (by decide) (by decide) (fun hX => absurd rfl hX) (fun _ => ?_)
        refine Own.aload H_2659 (pc := 288) at_288 rfl rfl ?_
        refine Own.iconst H_2659 (pc := 290) (1) at_290 rfl ?_
        refine Own.iaload H_2659 (pc := 291) (v := ((XT.ushrL p2 (32 : Int32))).toInt32) 1 at_291 C1 rfl rfl ?_
        refine Own.lload H_2659 (pc := 292) at_292 rfl ?_
        refine Own.bipush H_2659 (pc := 294) (32) at_294 rfl ?_
        refine Own.lushr H_2659 (pc := 296) at_296 ?_
        refine Own.l2i H_2659 (pc := 297) at_297 ?_
        refine Own.icmp_ne H_2659 (pc := 298) 349 at_298 (by decide) (by decide) (fun hX => absurd rfl hX) (fun _ => ?_)
        refine Own.aload H_2659 (pc := 301) at_301 rfl rfl ?_
        refine Own.iconst H_2659 (pc := 303) (2) at_303 rfl ?_
        refine Own.iaload H_2659 (pc := 304) (v := (p3).toInt32) 2 at_304 C1 rfl rfl ?_
        refine Own.lload H_2659 (pc := 305) at_305 rfl ?_
        refine Own.l2i H_2659 (pc := 307) at_307 ?_
        refine Own.icmp_ne H_2659 (pc := 308) 349 at_308 (by decide) (by decide) (fun hX => absurd rfl hX) (fun _ => ?_)
        refine Own.aload H_2659 (pc := 311) at_311 rfl rfl ?_
        refine Own.iconst H_2659 (pc := 313) (3) at_313 rfl ?_
        refine Own.iaload H_2659 (pc := 314) (v := ((XT.ushrL p3 (32 : Int32))).toInt32) 3 at_314 C1 rfl rfl ?_
        refine Own.lload H_2659 (pc := 315) at_315 rfl ?_
        refine Own.bipush H_2659 (pc := 317) (32) at_317 rfl ?_
        refine Own.lushr H_2659 (pc := 319) at_319 ?_
        refine Own.l2i H_2659 (pc := 320) at_320 ?_
        refine Own.icmp_ne H_2659 (pc := 321) 349 at_321 (by decide) (by decide) (fun hX => absurd rfl hX) (fun _ => ?_)
        refine Own.aload H_2659 (pc := 324) at_324 rfl rfl ?_
        refine Own.iconst H_2659 (pc := 326) (0) at_326 rfl ?_
        refine Own.iaload H_2659 (pc := 327) (v := (2 : Int32)) 0 at_327 C2 rfl rfl ?_
        refine Own.iload H_2659 (pc := 328) at_328 rfl ?_
        refine Own.icmp_ne H_2659 (pc := 330) 349 at_330 (by decide) (by decide) (fun hc => absurd hc (by decide)) (fun _ => ?_)
        refine Own.aload H_2659 (pc := 333) at_333 rfl rfl ?_
        refine Own.iconst H_2659 (pc := 335) (1) at_335 rfl ?_
        refine Own.iaload H_2659 (pc := 336) (v := (4 : Int32)) 1 at_336 C2 rfl rfl ?_
        refine Own.iload H_2659 (pc := 337) at_337 rfl ?_
        refine Own.iload H_2659 (pc := 339) at_339 rfl ?_
        refine Own.iadd_c H_2659 (pc := 341) (4) at_341 (by decide) ?_
        refine Own.icmp_ne H_2659 (pc := 342) 349 at_342 (by decide) (by decide) (fun hc => absurd hc (by decide)) (fun _ => ?_)
        refine Own.iconst H_2659 (pc := 345) (1) at_345 rfl ?_
        refine Own.goto H_2659 (pc := 346) 350 at_346 (by decide) (by decide) ?_
        refine Own.istore H_2659 (pc := 350) #[.val (.long p0), .second, .val (.long p1), .second, .val (.long p2), .second, .val (.long p3), .second, .val (.int p4), .val (.int sv), .val (.int (1 : Int32)), .val (.int (2 : Int32)), .val (.int (2 : Int32)), .val (.int (4 : Int32)), .val (.ref af), .val (.ref al), .val (.ref ae), .val (.ref ac), .val (.ref ar), .val (.ref as_), .val (.int (1 : Int32))] at_350 rfl ?_
        refine Own.iload H_2659 (pc := 352) at_352 rfl ?_
        refine Own.if_eq H_2659 (pc := 354) 378 at_354 (by decide) (by decide) (fun hc => absurd hc (by decide)) (fun _ => ?_)
        refine Own.aload H_2659 (pc := 357) at_357 rfl rfl ?_
        refine Own.aload H_2659 (pc := 359) at_359 rfl rfl ?_
        refine Own.aload H_2659 (pc := 361) at_361 rfl rfl ?_
        refine Own.aload H_2659 (pc := 363) at_363 rfl rfl ?_
        refine Own.iconst H_2659 (pc := 365) (0) at_365 rfl ?_
        refine Own.iload H_2659 (pc := 366) at_366 rfl ?_
        refine Own.callS H_2659 (pc := 368) (y := (⟨"termstone/postings/ImpactsLayPinLaw", "segment", "([I[I[I[III)Z"⟩ : MethodName)) [(.ref ar), (.ref as_), (.ref af), (.ref al), (.int (0 : Int32)), (.int (2 : Int32))] [] at_368 (hw _ (List.mem_of_getElem? (i := 5) rfl)) (hw _ (List.mem_of_getElem? (i := 6) rfl)) (hw _ (List.mem_of_getElem? (i := 7) rfl)) (hw _ (List.mem_of_getElem? (i := 8) rfl)) (by decide) (rm_seg l Z a0 hw ar as_ af al (0 : Int32) (2 : Int32) _ n0 H_2659.z0 [(((p0).toInt32 - (0 : Int32)) - (1 : Int32)), ((((XT.ushrL p0 (32 : Int32))).toInt32 - (p0).toInt32) - (1 : Int32)), (((p1).toInt32 - (0 : Int32)) - (1 : Int32)), ((((XT.ushrL p1 (32 : Int32))).toInt32 - (p1).toInt32) - (1 : Int32))] [(((p2).toInt32 - (-1 : Int32)) - (1 : Int32)), ((((XT.ushrL p2 (32 : Int32))).toInt32 - (p2).toInt32) - (1 : Int32)), (((p3).toInt32 - (-1 : Int32)) - (1 : Int32)), ((((XT.ushrL p3 (32 : Int32))).toInt32 - (p3).toInt32) - (1 : Int32))] [(p0).toInt32, ((XT.ushrL p0 (32 : Int32))).toInt32, (p1).toInt32, ((XT.ushrL p1 (32 : Int32))).toInt32] [(p2).toInt32, ((XT.ushrL p2 (32 : Int32))).toInt32, (p3).toInt32, ((XT.ushrL p3 (32 : Int32))).toInt32] C4 C5 C0 C1 rfl rfl rfl rfl 0 (by decide) rfl (own_a1 _) (own_a2 _) (fun _ => ⟨by decide, own_a3 _ _, own_a3 _ _⟩)) (r := (some .boolean)) (ps := [(.array .int), (.array .int), (.array .int), (.array .int), .int, .int]) (by decide) rfl rfl 0 rfl (by decide) (by decide) (by decide) (by decide) rfl (fun T_2666 v_2668 h_2667 H_2665 z_2669 q_2670 => ?_)
        obtain ⟨rfl, rfl⟩ := q_2670
        show OEnds _ _ _ _ _ _ _ _ _ (mkF _ 371 #[.val (.long p0), .second, .val (.long p1), .second, .val (.long p2), .second, .val (.long p3), .second, .val (.int p4), .val (.int sv), .val (.int (1 : Int32)), .val (.int (2 : Int32)), .val (.int (2 : Int32)), .val (.int (4 : Int32)), .val (.ref af), .val (.ref al), .val (.ref ae), .val (.ref ac), .val (.ref ar), .val (.ref as_), .val (.int (1 : Int32))] [(.int (1 : Int32))])
        refine Own.if_eq H_2665 (pc := 371) 378 at_371 (by decide) (by decide) (fun hc => absurd hc (by decide)) (fun _ => ?_)
        refine Own.iconst H_2665 (pc := 374) (1) at_374 rfl ?_
        refine Own.goto H_2665 (pc := 375) 379 at_375 (by decide) (by decide) ?_
        refine Own.istore H_2665 (pc := 379) #[.val (.long p0), .second, .val (.long p1), .second, .val (.long p2), .second, .val (.long p3), .second, .val (.int p4), .val (.int sv), .val (.int (1 : Int32)), .val (.int (2 : Int32)), .val (.int (2 : Int32)), .val (.int (4 : Int32)), .val (.ref af), .val (.ref al), .val (.ref ae), .val (.ref ac), .val (.ref ar), .val (.ref as_), .val (.int (1 : Int32))] at_379 rfl ?_
        refine Own.iload H_2665 (pc := 381) at_381 rfl ?_
        refine Own.iconst H_2665 (pc := 383) (1) at_383 rfl ?_
        refine Own.icmp_ne H_2665 (pc := 384) 417 at_384 (by decide) (by decide) (fun hc => absurd hc (by decide)) (fun _ => ?_)
        refine Own.iload H_2665 (pc := 387) at_387 rfl ?_
        refine Own.if_eq H_2665 (pc := 389) 414 at_389 (by decide) (by decide) (fun hc => absurd hc (by decide)) (fun _ => ?_)
        refine Own.aload H_2665 (pc := 392) at_392 rfl rfl ?_
        refine Own.aload H_2665 (pc := 394) at_394 rfl rfl ?_
        refine Own.aload H_2665 (pc := 396) at_396 rfl rfl ?_
        refine Own.aload H_2665 (pc := 398) at_398 rfl rfl ?_
        refine Own.iload H_2665 (pc := 400) at_400 rfl ?_
        refine Own.iload H_2665 (pc := 402) at_402 rfl ?_
        refine Own.callS H_2665 (pc := 404) (y := (⟨"termstone/postings/ImpactsLayPinLaw", "segment", "([I[I[I[III)Z"⟩ : MethodName)) [(.ref ar), (.ref as_), (.ref af), (.ref al), (.int (2 : Int32)), (.int (2 : Int32))] [] at_404 (hw _ (List.mem_of_getElem? (i := 5) rfl)) (hw _ (List.mem_of_getElem? (i := 6) rfl)) (hw _ (List.mem_of_getElem? (i := 7) rfl)) (hw _ (List.mem_of_getElem? (i := 8) rfl)) (by decide) (rm_seg l Z a0 hw ar as_ af al (2 : Int32) (2 : Int32) _ n0 H_2665.z0 [(((p0).toInt32 - (0 : Int32)) - (1 : Int32)), ((((XT.ushrL p0 (32 : Int32))).toInt32 - (p0).toInt32) - (1 : Int32)), (((p1).toInt32 - (0 : Int32)) - (1 : Int32)), ((((XT.ushrL p1 (32 : Int32))).toInt32 - (p1).toInt32) - (1 : Int32))] [(((p2).toInt32 - (-1 : Int32)) - (1 : Int32)), ((((XT.ushrL p2 (32 : Int32))).toInt32 - (p2).toInt32) - (1 : Int32)), (((p3).toInt32 - (-1 : Int32)) - (1 : Int32)), ((((XT.ushrL p3 (32 : Int32))).toInt32 - (p3).toInt32) - (1 : Int32))] [(p0).toInt32, ((XT.ushrL p0 (32 : Int32))).toInt32, (p1).toInt32, ((XT.ushrL p1 (32 : Int32))).toInt32] [(p2).toInt32, ((XT.ushrL p2 (32 : Int32))).toInt32, (p3).toInt32, ((XT.ushrL p3 (32 : Int32))).toInt32] C4 C5 C0 C1 rfl rfl rfl rfl 2 (by decide) rfl (own_a1 _) (own_a2 _) (fun _ => ⟨by decide, own_a3 _ _, own_a3 _ _⟩)) (r := (some .boolean)) (ps := [(.array .int), (.array .int), (.array .int), (.array .int), .int, .int]) (by decide) rfl rfl 0 rfl (by decide) (by decide) (by decide) (by decide) rfl (fun T_2672 v_2674 h_2673 H_2671 z_2675 q_2676 => ?_)
        obtain ⟨rfl, rfl⟩ := q_2676
        show OEnds _ _ _ _ _ _ _ _ _ (mkF _ 407 #[.val (.long p0), .second, .val (.long p1), .second, .val (.long p2), .second, .val (.long p3), .second, .val (.int p4), .val (.int sv), .val (.int (1 : Int32)), .val (.int (2 : Int32)), .val (.int (2 : Int32)), .val (.int (4 : Int32)), .val (.ref af), .val (.ref al), .val (.ref ae), .val (.ref ac), .val (.ref ar), .val (.ref as_), .val (.int (1 : Int32))] [(.int (1 : Int32))])
        refine Own.if_eq H_2671 (pc := 407) 414 at_407 (by decide) (by decide) (fun hc => absurd hc (by decide)) (fun _ => ?_)
        refine Own.iconst H_2671 (pc := 410) (1) at_410 rfl ?_
        refine Own.goto H_2671 (pc := 411) 415 at_411 (by decide) (by decide) ?_
        refine Own.istore H_2671 (pc := 415) #[.val (.long p0), .second, .val (.long p1), .second, .val (.long p2), .second, .val (.long p3), .second, .val (.int p4), .val (.int sv), .val (.int (1 : Int32)), .val (.int (2 : Int32)), .val (.int (2 : Int32)), .val (.int (4 : Int32)), .val (.ref af), .val (.ref al), .val (.ref ae), .val (.ref ac), .val (.ref ar), .val (.ref as_), .val (.int (1 : Int32))] at_415 rfl ?_
        refine Own.iload H_2671 (pc := 417) at_417 rfl ?_
        refine Own.if_eq H_2671 (pc := 419) 437 at_419 (by decide) (by decide) (fun hc => absurd hc (by decide)) (fun _ => ?_)
        refine Own.aload H_2671 (pc := 422) at_422 rfl rfl ?_
        refine Own.iconst H_2671 (pc := 424) (0) at_424 rfl ?_
        refine Own.iaload H_2671 (pc := 425) (v := (1 : Int32)) 0 at_425 C3 rfl rfl ?_
        refine Own.iload H_2671 (pc := 426) at_426 rfl ?_
        refine Own.iconst H_2671 (pc := 428) (1) at_428 rfl ?_
        refine Own.isub_c H_2671 (pc := 429) (1) at_429 (by decide) ?_
        refine Own.icmp_ne H_2671 (pc := 430) 437 at_430 (by decide) (by decide) (fun hc => absurd hc (by decide)) (fun _ => ?_)
        refine Own.iconst H_2671 (pc := 433) (1) at_433 rfl ?_
        refine Own.goto H_2671 (pc := 434) 438 at_434 (by decide) (by decide) ?_
        refine Own.istore H_2671 (pc := 438) #[.val (.long p0), .second, .val (.long p1), .second, .val (.long p2), .second, .val (.long p3), .second, .val (.int p4), .val (.int sv), .val (.int (1 : Int32)), .val (.int (2 : Int32)), .val (.int (2 : Int32)), .val (.int (4 : Int32)), .val (.ref af), .val (.ref al), .val (.ref ae), .val (.ref ac), .val (.ref ar), .val (.ref as_), .val (.int (1 : Int32))] at_438 rfl ?_
        refine Own.iload H_2671 (pc := 440) at_440 rfl ?_
        refine Own.if_eq H_2671 (pc := 442) 471 at_442 (by decide) (by decide) (fun hc => absurd hc (by decide)) (fun _ => ?_)
        refine Own.aload H_2671 (pc := 445) at_445 rfl rfl ?_
        refine Own.iconst H_2671 (pc := 447) (1) at_447 rfl ?_
        refine Own.iaload H_2671 (pc := 448) (v := (1 : Int32)) 1 at_448 C3 rfl rfl ?_
        refine Own.iload H_2671 (pc := 449) at_449 rfl ?_
        refine Own.iconst H_2671 (pc := 451) (1) at_451 rfl ?_
        refine Own.icmp_ne H_2671 (pc := 452) 462 at_452 (by decide) (by decide) (fun hc => absurd hc (by decide)) (fun _ => ?_)
        refine Own.iload H_2671 (pc := 455) at_455 rfl ?_
        refine Own.iconst H_2671 (pc := 457) (1) at_457 rfl ?_
        refine Own.isub_c H_2671 (pc := 458) (1) at_458 (by decide) ?_
        refine Own.goto H_2671 (pc := 459) 464 at_459 (by decide) (by decide) ?_
        refine Own.icmp_ne H_2671 (pc := 464) 471 at_464 (by decide) (by decide) (fun hc => absurd hc (by decide)) (fun _ => ?_)
        refine Own.iconst H_2671 (pc := 467) (1) at_467 rfl ?_
        refine Own.goto H_2671 (pc := 468) 472 at_468 (by decide) (by decide) ?_
        refine Own.istore H_2671 (pc := 472) #[.val (.long p0), .second, .val (.long p1), .second, .val (.long p2), .second, .val (.long p3), .second, .val (.int p4), .val (.int sv), .val (.int (1 : Int32)), .val (.int (2 : Int32)), .val (.int (2 : Int32)), .val (.int (4 : Int32)), .val (.ref af), .val (.ref al), .val (.ref ae), .val (.ref ac), .val (.ref ar), .val (.ref as_), .val (.int (1 : Int32))] at_472 rfl ?_
        refine Own.iload H_2671 (pc := 474) at_474 rfl ?_
        refine Own.if_eq H_2671 (pc := 476) 492 at_476 (by decide) (by decide) (fun hc => absurd hc (by decide)) (fun _ => ?_)
        refine Own.aload H_2671 (pc := 479) at_479 rfl rfl ?_
        refine Own.iconst H_2671 (pc := 481) (2) at_481 rfl ?_
        refine Own.iaload H_2671 (pc := 482) (v := sv) 2 at_482 C3 rfl rfl ?_
        refine Own.iload H_2671 (pc := 483) at_483 rfl ?_
        refine Own.icmp_ne H_2671 (pc := 485) 492 at_485 (by decide) (by decide) (fun hX => absurd rfl hX) (fun _ => ?_)
        refine Own.iconst H_2671 (pc := 488) (1) at_488 rfl ?_
        refine Own.goto H_2671 (pc := 489) 493 at_489 (by decide) (by decide) ?_
        refine Own.istore H_2671 (pc := 493) #[.val (.long p0), .second, .val (.long p1), .second, .val (.long p2), .second, .val (.long p3), .second, .val (.int p4), .val (.int sv), .val (.int (1 : Int32)), .val (.int (2 : Int32)), .val (.int (2 : Int32)), .val (.int (4 : Int32)), .val (.ref af), .val (.ref al), .val (.ref ae), .val (.ref ac), .val (.ref ar), .val (.ref as_), .val (.int (1 : Int32))] at_493 rfl ?_
        refine Own.iload H_2671 (pc := 495) at_495 rfl ?_
        refine Own.if_eq H_2671 (pc := 497) 543 at_497 (by decide) (by decide) (fun hc => absurd hc (by decide)) (fun _ => ?_)
        refine Own.aload H_2671 (pc := 500) at_500 rfl rfl ?_
        refine Own.iconst H_2671 (pc := 502) (1) at_502 rfl ?_
        refine Own.iload H_2671 (pc := 503) at_503 rfl ?_
        refine Own.iload H_2671 (pc := 505) at_505 rfl ?_
        refine Own.callS H_2671 (pc := 507) (y := (⟨"termstone/postings/ImpactsLayPinLaw", "untouched", "([IIII)Z"⟩ : MethodName)) [(.ref ar), (.int (1 : Int32)), (.int (4 : Int32)), (.int sv)] [] at_507 (hw _ (List.mem_of_getElem? (i := 9) rfl)) (hw _ (List.mem_of_getElem? (i := 10) rfl)) (hw _ (List.mem_of_getElem? (i := 7) rfl)) (hw _ (List.mem_of_getElem? (i := 11) rfl)) (by decide) (rm_unt l Z a0 hw ar (1 : Int32) (4 : Int32) sv _ n0 H_2671.z0 [(((p0).toInt32 - (0 : Int32)) - (1 : Int32)), ((((XT.ushrL p0 (32 : Int32))).toInt32 - (p0).toInt32) - (1 : Int32)), (((p1).toInt32 - (0 : Int32)) - (1 : Int32)), ((((XT.ushrL p1 (32 : Int32))).toInt32 - (p1).toInt32) - (1 : Int32))] C4 1 (by simp) rfl (fun q => absurd (by decide) q)) (r := (some .boolean)) (ps := [(.array .int), .int, .int, .int]) (by decide) rfl rfl 0 rfl (by decide) (by decide) (by decide) (by decide) rfl (fun T_2678 v_2680 h_2679 H_2677 z_2681 q_2682 => ?_)
        obtain ⟨rfl, rfl⟩ := q_2682
        show OEnds _ _ _ _ _ _ _ _ _ (mkF _ 510 #[.val (.long p0), .second, .val (.long p1), .second, .val (.long p2), .second, .val (.long p3), .second, .val (.int p4), .val (.int sv), .val (.int (1 : Int32)), .val (.int (2 : Int32)), .val (.int (2 : Int32)), .val (.int (4 : Int32)), .val (.ref af), .val (.ref al), .val (.ref ae), .val (.ref ac), .val (.ref ar), .val (.ref as_), .val (.int (1 : Int32))] [(.int (1 : Int32))])
        refine Own.if_eq H_2677 (pc := 510) 543 at_510 (by decide) (by decide) (fun hc => absurd hc (by decide)) (fun _ => ?_)
        refine Own.aload H_2677 (pc := 513) at_513 rfl rfl ?_
        refine Own.iconst H_2677 (pc := 515) (2) at_515 rfl ?_
        refine Own.iload H_2677 (pc := 516) at_516 rfl ?_
        refine Own.iload H_2677 (pc := 518) at_518 rfl ?_
        refine Own.callS H_2677 (pc := 520) (y := (⟨"termstone/postings/ImpactsLayPinLaw", "untouched", "([IIII)Z"⟩ : MethodName)) [(.ref ar), (.int (2 : Int32)), (.int (4 : Int32)), (.int sv)] [] at_520 (hw _ (List.mem_of_getElem? (i := 9) rfl)) (hw _ (List.mem_of_getElem? (i := 10) rfl)) (hw _ (List.mem_of_getElem? (i := 7) rfl)) (hw _ (List.mem_of_getElem? (i := 11) rfl)) (by decide) (rm_unt l Z a0 hw ar (2 : Int32) (4 : Int32) sv _ n0 H_2677.z0 [(((p0).toInt32 - (0 : Int32)) - (1 : Int32)), ((((XT.ushrL p0 (32 : Int32))).toInt32 - (p0).toInt32) - (1 : Int32)), (((p1).toInt32 - (0 : Int32)) - (1 : Int32)), ((((XT.ushrL p1 (32 : Int32))).toInt32 - (p1).toInt32) - (1 : Int32))] C4 2 (by simp) rfl (fun q => absurd (by decide) q)) (r := (some .boolean)) (ps := [(.array .int), .int, .int, .int]) (by decide) rfl rfl 0 rfl (by decide) (by decide) (by decide) (by decide) rfl (fun T_2684 v_2686 h_2685 H_2683 z_2687 q_2688 => ?_)
        obtain ⟨rfl, rfl⟩ := q_2688
        show OEnds _ _ _ _ _ _ _ _ _ (mkF _ 523 #[.val (.long p0), .second, .val (.long p1), .second, .val (.long p2), .second, .val (.long p3), .second, .val (.int p4), .val (.int sv), .val (.int (1 : Int32)), .val (.int (2 : Int32)), .val (.int (2 : Int32)), .val (.int (4 : Int32)), .val (.ref af), .val (.ref al), .val (.ref ae), .val (.ref ac), .val (.ref ar), .val (.ref as_), .val (.int (1 : Int32))] [(.int (1 : Int32))])
        refine Own.if_eq H_2683 (pc := 523) 543 at_523 (by decide) (by decide) (fun hc => absurd hc (by decide)) (fun _ => ?_)
        refine Own.aload H_2683 (pc := 526) at_526 rfl rfl ?_
        refine Own.iconst H_2683 (pc := 528) (3) at_528 rfl ?_
        refine Own.iload H_2683 (pc := 529) at_529 rfl ?_
        refine Own.iload H_2683 (pc := 531) at_531 rfl ?_
        refine Own.callS H_2683 (pc := 533) (y := (⟨"termstone/postings/ImpactsLayPinLaw", "untouched", "([IIII)Z"⟩ : MethodName)) [(.ref ar), (.int (3 : Int32)), (.int (4 : Int32)), (.int sv)] [] at_533 (hw _ (List.mem_of_getElem? (i := 9) rfl)) (hw _ (List.mem_of_getElem? (i := 10) rfl)) (hw _ (List.mem_of_getElem? (i := 7) rfl)) (hw _ (List.mem_of_getElem? (i := 11) rfl)) (by decide) (rm_unt l Z a0 hw ar (3 : Int32) (4 : Int32) sv _ n0 H_2683.z0 [(((p0).toInt32 - (0 : Int32)) - (1 : Int32)), ((((XT.ushrL p0 (32 : Int32))).toInt32 - (p0).toInt32) - (1 : Int32)), (((p1).toInt32 - (0 : Int32)) - (1 : Int32)), ((((XT.ushrL p1 (32 : Int32))).toInt32 - (p1).toInt32) - (1 : Int32))] C4 3 (by simp) rfl (fun q => absurd (by decide) q)) (r := (some .boolean)) (ps := [(.array .int), .int, .int, .int]) (by decide) rfl rfl 0 rfl (by decide) (by decide) (by decide) (by decide) rfl (fun T_2690 v_2692 h_2691 H_2689 z_2693 q_2694 => ?_)
        obtain ⟨rfl, rfl⟩ := q_2694
        show OEnds _ _ _ _ _ _ _ _ _ (mkF _ 536 #[.val (.long p0), .second, .val (.long p1), .second, .val (.long p2), .second, .val (.long p3), .second, .val (.int p4), .val (.int sv), .val (.int (1 : Int32)), .val (.int (2 : Int32)), .val (.int (2 : Int32)), .val (.int (4 : Int32)), .val (.ref af), .val (.ref al), .val (.ref ae), .val (.ref ac), .val (.ref ar), .val (.ref as_), .val (.int (1 : Int32))] [(.int (1 : Int32))])
        refine Own.if_eq H_2689 (pc := 536) 543 at_536 (by decide) (by decide) (fun hc => absurd hc (by decide)) (fun _ => ?_)
        refine Own.iconst H_2689 (pc := 539) (1) at_539 rfl ?_
        refine Own.goto H_2689 (pc := 540) 544 at_540 (by decide) (by decide) ?_
        refine Own.istore H_2689 (pc := 544) #[.val (.long p0), .second, .val (.long p1), .second, .val (.long p2), .second, .val (.long p3), .second, .val (.int p4), .val (.int sv), .val (.int (1 : Int32)), .val (.int (2 : Int32)), .val (.int (2 : Int32)), .val (.int (4 : Int32)), .val (.ref af), .val (.ref al), .val (.ref ae), .val (.ref ac), .val (.ref ar), .val (.ref as_), .val (.int (1 : Int32))] at_544 rfl ?_
        refine Own.iload H_2689 (pc := 546) at_546 rfl ?_
        refine Own.if_eq H_2689 (pc := 548) 594 at_548 (by decide) (by decide) (fun hc => absurd hc (by decide)) (fun _ => ?_)
        refine Own.aload H_2689 (pc := 551) at_551 rfl rfl ?_
        refine Own.iconst H_2689 (pc := 553) (1) at_553 rfl ?_
        refine Own.iload H_2689 (pc := 554) at_554 rfl ?_
        refine Own.iload H_2689 (pc := 556) at_556 rfl ?_
        refine Own.callS H_2689 (pc := 558) (y := (⟨"termstone/postings/ImpactsLayPinLaw", "untouched", "([IIII)Z"⟩ : MethodName)) [(.ref as_), (.int (1 : Int32)), (.int (4 : Int32)), (.int sv)] [] at_558 (hw _ (List.mem_of_getElem? (i := 9) rfl)) (hw _ (List.mem_of_getElem? (i := 10) rfl)) (hw _ (List.mem_of_getElem? (i := 7) rfl)) (hw _ (List.mem_of_getElem? (i := 11) rfl)) (by decide) (rm_unt l Z a0 hw as_ (1 : Int32) (4 : Int32) sv _ n0 H_2689.z0 [(((p2).toInt32 - (-1 : Int32)) - (1 : Int32)), ((((XT.ushrL p2 (32 : Int32))).toInt32 - (p2).toInt32) - (1 : Int32)), (((p3).toInt32 - (-1 : Int32)) - (1 : Int32)), ((((XT.ushrL p3 (32 : Int32))).toInt32 - (p3).toInt32) - (1 : Int32))] C5 1 (by simp) rfl (fun q => absurd (by decide) q)) (r := (some .boolean)) (ps := [(.array .int), .int, .int, .int]) (by decide) rfl rfl 0 rfl (by decide) (by decide) (by decide) (by decide) rfl (fun T_2696 v_2698 h_2697 H_2695 z_2699 q_2700 => ?_)
        obtain ⟨rfl, rfl⟩ := q_2700
        show OEnds _ _ _ _ _ _ _ _ _ (mkF _ 561 #[.val (.long p0), .second, .val (.long p1), .second, .val (.long p2), .second, .val (.long p3), .second, .val (.int p4), .val (.int sv), .val (.int (1 : Int32)), .val (.int (2 : Int32)), .val (.int (2 : Int32)), .val (.int (4 : Int32)), .val (.ref af), .val (.ref al), .val (.ref ae), .val (.ref ac), .val (.ref ar), .val (.ref as_), .val (.int (1 : Int32))] [(.int (1 : Int32))])
        refine Own.if_eq H_2695 (pc := 561) 594 at_561 (by decide) (by decide) (fun hc => absurd hc (by decide)) (fun _ => ?_)
        refine Own.aload H_2695 (pc := 564) at_564 rfl rfl ?_
        refine Own.iconst H_2695 (pc := 566) (2) at_566 rfl ?_
        refine Own.iload H_2695 (pc := 567) at_567 rfl ?_
        refine Own.iload H_2695 (pc := 569) at_569 rfl ?_
        refine Own.callS H_2695 (pc := 571) (y := (⟨"termstone/postings/ImpactsLayPinLaw", "untouched", "([IIII)Z"⟩ : MethodName)) [(.ref as_), (.int (2 : Int32)), (.int (4 : Int32)), (.int sv)] [] at_571 (hw _ (List.mem_of_getElem? (i := 9) rfl)) (hw _ (List.mem_of_getElem? (i := 10) rfl)) (hw _ (List.mem_of_getElem? (i := 7) rfl)) (hw _ (List.mem_of_getElem? (i := 11) rfl)) (by decide) (rm_unt l Z a0 hw as_ (2 : Int32) (4 : Int32) sv _ n0 H_2695.z0 [(((p2).toInt32 - (-1 : Int32)) - (1 : Int32)), ((((XT.ushrL p2 (32 : Int32))).toInt32 - (p2).toInt32) - (1 : Int32)), (((p3).toInt32 - (-1 : Int32)) - (1 : Int32)), ((((XT.ushrL p3 (32 : Int32))).toInt32 - (p3).toInt32) - (1 : Int32))] C5 2 (by simp) rfl (fun q => absurd (by decide) q)) (r := (some .boolean)) (ps := [(.array .int), .int, .int, .int]) (by decide) rfl rfl 0 rfl (by decide) (by decide) (by decide) (by decide) rfl (fun T_2702 v_2704 h_2703 H_2701 z_2705 q_2706 => ?_)
        obtain ⟨rfl, rfl⟩ := q_2706
        show OEnds _ _ _ _ _ _ _ _ _ (mkF _ 574 #[.val (.long p0), .second, .val (.long p1), .second, .val (.long p2), .second, .val (.long p3), .second, .val (.int p4), .val (.int sv), .val (.int (1 : Int32)), .val (.int (2 : Int32)), .val (.int (2 : Int32)), .val (.int (4 : Int32)), .val (.ref af), .val (.ref al), .val (.ref ae), .val (.ref ac), .val (.ref ar), .val (.ref as_), .val (.int (1 : Int32))] [(.int (1 : Int32))])
        refine Own.if_eq H_2701 (pc := 574) 594 at_574 (by decide) (by decide) (fun hc => absurd hc (by decide)) (fun _ => ?_)
        refine Own.aload H_2701 (pc := 577) at_577 rfl rfl ?_
        refine Own.iconst H_2701 (pc := 579) (3) at_579 rfl ?_
        refine Own.iload H_2701 (pc := 580) at_580 rfl ?_
        refine Own.iload H_2701 (pc := 582) at_582 rfl ?_
        refine Own.callS H_2701 (pc := 584) (y := (⟨"termstone/postings/ImpactsLayPinLaw", "untouched", "([IIII)Z"⟩ : MethodName)) [(.ref as_), (.int (3 : Int32)), (.int (4 : Int32)), (.int sv)] [] at_584 (hw _ (List.mem_of_getElem? (i := 9) rfl)) (hw _ (List.mem_of_getElem? (i := 10) rfl)) (hw _ (List.mem_of_getElem? (i := 7) rfl)) (hw _ (List.mem_of_getElem? (i := 11) rfl)) (by decide) (rm_unt l Z a0 hw as_ (3 : Int32) (4 : Int32) sv _ n0 H_2701.z0 [(((p2).toInt32 - (-1 : Int32)) - (1 : Int32)), ((((XT.ushrL p2 (32 : Int32))).toInt32 - (p2).toInt32) - (1 : Int32)), (((p3).toInt32 - (-1 : Int32)) - (1 : Int32)), ((((XT.ushrL p3 (32 : Int32))).toInt32 - (p3).toInt32) - (1 : Int32))] C5 3 (by simp) rfl (fun q => absurd (by decide) q)) (r := (some .boolean)) (ps := [(.array .int), .int, .int, .int]) (by decide) rfl rfl 0 rfl (by decide) (by decide) (by decide) (by decide) rfl (fun T_2708 v_2710 h_2709 H_2707 z_2711 q_2712 => ?_)
        obtain ⟨rfl, rfl⟩ := q_2712
        show OEnds _ _ _ _ _ _ _ _ _ (mkF _ 587 #[.val (.long p0), .second, .val (.long p1), .second, .val (.long p2), .second, .val (.long p3), .second, .val (.int p4), .val (.int sv), .val (.int (1 : Int32)), .val (.int (2 : Int32)), .val (.int (2 : Int32)), .val (.int (4 : Int32)), .val (.ref af), .val (.ref al), .val (.ref ae), .val (.ref ac), .val (.ref ar), .val (.ref as_), .val (.int (1 : Int32))] [(.int (1 : Int32))])
        refine Own.if_eq H_2707 (pc := 587) 594 at_587 (by decide) (by decide) (fun hc => absurd hc (by decide)) (fun _ => ?_)
        refine Own.iconst H_2707 (pc := 590) (1) at_590 rfl ?_
        refine Own.goto H_2707 (pc := 591) 595 at_591 (by decide) (by decide) ?_
        refine Own.istore H_2707 (pc := 595) #[.val (.long p0), .second, .val (.long p1), .second, .val (.long p2), .second, .val (.long p3), .second, .val (.int p4), .val (.int sv), .val (.int (1 : Int32)), .val (.int (2 : Int32)), .val (.int (2 : Int32)), .val (.int (4 : Int32)), .val (.ref af), .val (.ref al), .val (.ref ae), .val (.ref ac), .val (.ref ar), .val (.ref as_), .val (.int (1 : Int32))] at_595 rfl ?_
        refine Own.iload H_2707 (pc := 597) at_597 rfl ?_
        exact Own.ret_nar H_2707 (pc := 599) (1) at_599 rfl (by simp) (by decide) (by decide) (by decide) (rfl)
set_option maxRecDepth 65536 in
set_option maxHeartbeats 40000000 in
theorem comes_1 {Post : Tables → Env → Array Value → State → Outcome → State → Prop} (hpost : ∀ tb e args s v u, (limb_1_1.after args s (.returned v) u = true ∧ limb_1_2.after args s (.returned v) u = true ∧ True) → FrameEnd s (.returned v) u (Jvm.fieldLocs frame_1_writes args s ++ Jvm.arrayLocs frame_1_arrays args s ++ Jvm.staticLocs frame_1_statics s) 24 128 → Post tb e args s (.returned v) u) :
    ArmFor flags0 classFile x code maxLocals ret World_1 tables_1 room_1 Calls_1 rest_1 Pre_1 Post := by
  intro l hfl _ _ p e ha hc hk s m args below hf hA hF happ hP
  obtain ⟨hcalls, hrest, hpre⟩ := hP
  obtain ⟨-, -, -, hnamed, -, -, -, hat⟩ := (Spec.applies_iff hf).mp happ
  obtain ⟨hg, hn⟩ := and_e (Cond.before_iff.mp (show (Jvm.Cond.and given_1 narrow_1).before args s = true from hpre))
  obtain ⟨g0, k0⟩ := and_e hg
  obtain ⟨g1, k1⟩ := and_e k0
  obtain ⟨g2, k2⟩ := and_e k1
  obtain ⟨g3, k3⟩ := and_e k2
  obtain ⟨g4, k4⟩ := and_e k3
  obtain ⟨g5, k5⟩ := and_e k4
  obtain ⟨w0, w1, w2, w3, w4, w5, rfl⟩ : ∃ w0 w1 w2 w3 w4 w5 : Value, args = #[w0, w1, w2, w3, w4, w5] := by
    have hs : args.size = 6 := by simpa [Cond.value, given_1] using g0
    obtain ⟨L⟩ := args
    match L, hs with
    | [w0, w1, w2, w3, w4, w5], _ => exact ⟨w0, w1, w2, w3, w4, w5, rfl⟩
  have hw := fun d (hd : d ∈ tables_1) => atoms_spec (ws := Jvm.Cond.code x code maxLocals ret :: tables_1) hat d (List.mem_cons_of_mem _ hd)
  have hfit : Fit s := fun {y c} hc i hi => by
    obtain ⟨ha, rfl⟩ := Array.getElem?_eq_some_iff.mp hc
    have q := List.all_eq_true.mp ((Array.all_eq_true_iff_forall_mem.mp hF) _ (Array.getElem_mem ha)) i (List.mem_range.mpr hi)
    simpa [Array.getElem?_eq_getElem hi] using q
  obtain ⟨i0, e0⟩ := isL_v g1
  obtain rfl : w0 = (.long i0) := Option.some.inj e0
  obtain ⟨i1, e1⟩ := isL_v g2
  obtain rfl : w1 = (.long i1) := Option.some.inj e1
  obtain ⟨i2, e2⟩ := isL_v g3
  obtain rfl : w2 = (.long i2) := Option.some.inj e2
  obtain ⟨i3, e3⟩ := isL_v g4
  obtain rfl : w3 = (.long i3) := Option.some.inj e3
  obtain ⟨i4, e4⟩ := is_v g5
  obtain rfl : w4 = (.int i4) := Option.some.inj e4
  obtain ⟨i5, e5⟩ := is_v k5
  obtain rfl : w5 = (.int i5) := Option.some.inj e5
  obtain ⟨n, o, h1, h2, h3, _, L, rfl, ⟨N, -, rfl⟩, hq⟩ := rm_law l s _ hw i0 i1 i2 i3 i4 i5 s.heap s.heap.size (Nat.le_refl _)  tables_1 p e ha hc hk s m _ below hf ((Spec.applies_iff_loose hf).mp happ).1 ⟨rfl, State.Warmed39.refl s, rfl⟩ trivial
  refine ⟨n, _, h1, h2, h3, hpost _ _ _ _ _ _ ⟨Cond.after_iff.mpr rfl, Cond.after_iff.mpr (eq_i res_at (Term.int_eval (1)) rfl), trivial⟩ ⟨hq.1, hq.2.1, (hq.2.2.sift fun y hy => Or.inr (N y hy)).mono (by decide) (by decide)⟩⟩
theorem main_1_1 : Claimed_1_1 := comes_1 fun _ _ _ _ _ _ h hF => ⟨h.1, hF⟩
theorem main_1_2 : Claimed_1_2 := comes_1 fun _ _ _ _ _ _ h hF => ⟨h.2.1, hF⟩
end Jvm.Pilot.@@N@@
namespace Jvm.Pilot.@@N@@
open Jvm Jvm.ClassFile Sem Op Lib Jvm.Free Jvm.Stand Jvm.Pilot.@@N@@.Jvm.D
/-! MADE BY PROGRAM (witnessworld.py) out of the Statement's table words and the real class files: 9 classes; the members and pool entries that the words name. The judged class is class 1, her method 3. -/
namespace start1
open Jvm.ClassFile
def u (s : String) : CpInfo := .utf8 (stringToUtf16 s)
/-- a pool by its gaps: so many unusable entries, then the entry; so many at the end -/
def gap : Nat → List CpInfo → List CpInfo
  | 0, r => r
  | n + 1, r => .unusable :: gap n r
def poolList (es : List (Nat × CpInfo)) (last : Nat) : List CpInfo := es.foldr (fun e r => gap e.1 (e.2 :: r)) (gap last [])
def pool (es : List (Nat × CpInfo)) (last : Nat) : Array CpInfo := ⟨poolList es last⟩
def fileOf (pool : Array CpInfo) (this : Nat) (attrs : Array Attribute := #[]) (ms : Array MethodInfo := #[]) (fl : Nat := 33) (sup : Nat := 0) (ifs : Array Nat := #[]) (fds : Array FieldInfo := #[]) : ClassFile where
  minorVersion := 0
  majorVersion := 65
  constantPool := pool
  accessFlags := fl
  thisClass := this
  superClass := sup
  interfaces := ifs
  fields := fds
  methods := ms
  attributes := attrs
def plain (name : String) (sup : Option ClassId) : Class where
  name := name
  kind := .ordinary
  loader := none
  accessFlags := 33
  super := sup
  interfaces := #[]
  cf := none
  fields := #[]
  methods := #[]
  instanceTypes := #[]
  staticTypes := #[]
  resolved := #[]
  callSites := []
  init := .initialized
  statics := none
  mirror := none

def pool0 : Array CpInfo := pool [(5, u "<init>"), (0, u "()V"), (1, .class_ 10), (1, u "java/lang/Object")] 113

def k0m0 : Method := { name := "<init>", desc := "()V", sig := { parameters := [], returnType := none }, accessFlags := 1, code := none }
/-- java/lang/Object -/
def k0 : Class := { plain "java/lang/Object" none with
  accessFlags := 33
  interfaces := #[]
  cf := some (fileOf pool0 8 #[] #[{ accessFlags := 1, nameIndex := 5, descriptorIndex := 6, attributes := #[] }] 33 0 #[] #[])
  fields := #[]
  methods := #[k0m0]
  instanceTypes := #[]
  staticTypes := #[]
  resolved := Array.replicate 124 none
  statics := none }

def pool1 : Array CpInfo := pool [(2, .class_ 4), (1, u "java/lang/Object"), (0, u "<init>"), (0, u "()V"), (0, .methodref 8 9), (0, .class_ 10), (0, .nameAndType 11 12), (0, u "termstone/postings/Impacts"), (0, u "lay"), (0, u "([I[I[II[I[I[I)V"), (0, .methodref 14 15), (0, .class_ 16), (0, .nameAndType 17 18), (0, u "termstone/postings/ImpactsLayPinLaw"), (0, u "segment"), (0, u "([I[I[I[III)Z"), (0, .methodref 14 20), (0, .nameAndType 21 22), (0, u "untouched"), (0, u "([IIII)Z"), (3, u "law"), (0, u "(JJJJII)Z")] 4

def k1m0 : Method := { name := "<init>", desc := "()V", sig := { parameters := [], returnType := none }, accessFlags := 2, code := none }
def k1c1 : Code := { maxStack := 4, maxLocals := 7, code := method_2_code, exceptionTable := #[], attributes := #[] }
def k1m1 : Method := { name := "segment", desc := "([I[I[I[III)Z", sig := { parameters := [(.array .int), (.array .int), (.array .int), (.array .int), .int, .int], returnType := some .boolean }, accessFlags := 10, code := some k1c1 }
def k1c2 : Code := { maxStack := 2, maxLocals := 4, code := method_3_code, exceptionTable := #[], attributes := #[] }
def k1m2 : Method := { name := "untouched", desc := "([IIII)Z", sig := { parameters := [(.array .int), .int, .int, .int], returnType := some .boolean }, accessFlags := 10, code := some k1c2 }
def k1c3 : Code := { maxStack := 7, maxLocals := 21, code := code, exceptionTable := #[], attributes := #[] }
def k1m3 : Method := { name := "law", desc := "(JJJJII)Z", sig := { parameters := [.long, .long, .long, .long, .int, .int], returnType := some .boolean }, accessFlags := 9, code := some k1c3 }
/-- termstone/postings/ImpactsLayPinLaw -/
def k1 : Class := { plain "termstone/postings/ImpactsLayPinLaw" (some 0) with
  accessFlags := 49
  interfaces := #[]
  cf := some (fileOf pool1 14 #[] #[{ accessFlags := 2, nameIndex := 5, descriptorIndex := 6, attributes := #[] }, { accessFlags := 10, nameIndex := 17, descriptorIndex := 18, attributes := #[] }, { accessFlags := 10, nameIndex := 21, descriptorIndex := 22, attributes := #[] }, { accessFlags := 9, nameIndex := 26, descriptorIndex := 27, attributes := #[] }] 49 2 #[] #[])
  fields := #[]
  methods := #[k1m0, k1m1, k1m2, k1m3]
  instanceTypes := #[]
  staticTypes := #[]
  resolved := Array.replicate 32 none
  statics := none }

def pool2 : Array CpInfo := pool [(2, .class_ 4), (1, u "java/lang/Object"), (0, u "<init>"), (0, u "()V"), (36, .class_ 45), (1, u "termstone/postings/Impacts"), (30, u "lay"), (0, u "([I[I[II[I[I[I)V")] 29

def k2m0 : Method := { name := "<init>", desc := "()V", sig := { parameters := [], returnType := none }, accessFlags := 2, code := none }
def k2c1 : Code := { maxStack := 6, maxLocals := 11, code := prog_78_method_3_code, exceptionTable := #[], attributes := #[] }
def k2m1 : Method := { name := "lay", desc := "([I[I[II[I[I[I)V", sig := { parameters := [(.array .int), (.array .int), (.array .int), .int, (.array .int), (.array .int), (.array .int)], returnType := none }, accessFlags := 8, code := some k2c1 }
/-- termstone/postings/Impacts -/
def k2 : Class := { plain "termstone/postings/Impacts" (some 0) with
  accessFlags := 48
  interfaces := #[]
  cf := some (fileOf pool2 43 #[] #[{ accessFlags := 2, nameIndex := 5, descriptorIndex := 6, attributes := #[] }, { accessFlags := 8, nameIndex := 76, descriptorIndex := 77, attributes := #[] }] 48 2 #[] #[])
  fields := #[]
  methods := #[k2m0, k2m1]
  instanceTypes := #[]
  staticTypes := #[]
  resolved := Array.replicate 107 none
  statics := none }

def pool3 : Array CpInfo := pool [(1, u "java/lang/Cloneable"), (0, .class_ 1), (0, u "java/lang/Object"), (0, .class_ 3)] 3

/-- java/lang/Cloneable -/
def k3 : Class := { plain "java/lang/Cloneable" (some 0) with
  accessFlags := 1537
  interfaces := #[]
  cf := some (fileOf pool3 2 #[] #[] 1537 4 #[] #[])
  fields := #[]
  methods := #[]
  instanceTypes := #[]
  staticTypes := #[]
  resolved := Array.replicate 8 none
  statics := none }

def pool4 : Array CpInfo := pool [(1, u "java/io/Serializable"), (0, .class_ 1), (0, u "java/lang/Object"), (0, .class_ 3)] 3

/-- java/io/Serializable -/
def k4 : Class := { plain "java/io/Serializable" (some 0) with
  accessFlags := 1537
  interfaces := #[]
  cf := some (fileOf pool4 2 #[] #[] 1537 4 #[] #[])
  fields := #[]
  methods := #[]
  instanceTypes := #[]
  staticTypes := #[]
  resolved := Array.replicate 8 none
  statics := none }

/-- the primitive byte -/
def k5 : Class := { plain "byte" none with kind := .primitive 'B', accessFlags := 0x411 }
/-- [B -/
def k6 : Class := { plain "[B" (some 0) with kind := .array 5 .byte, interfaces := #[3, 4], accessFlags := 1041 }

/-- the primitive int -/
def k7 : Class := { plain "int" none with kind := .primitive 'I', accessFlags := 0x411 }
/-- [I -/
def k8 : Class := { plain "[I" (some 0) with kind := .array 7 .int, interfaces := #[3, 4], accessFlags := 1041 }

def heap : Heap := #[]
def classes : Array Class := #[k0, k1, k2, k3, k4, k5, k6, k7, k8]
def interned : List (Array UInt16 × Addr) := []
def slotsUsed : Nat := 0
def theMethod : MethodId := ⟨1, 3⟩
def args0 : Array Value := #[.long 5, .long 7, .long 9, .long 11, .int 3, .int 8]
def aboutOver (below : List Frame) : State where
  vm := { classes := classes, interned := interned.toArray }
  heap := heap
  slotsUsed := slotsUsed
  threads := #[{ frames := .invoking theMethod args0 :: below }]
def below0 : List Frame := [.native { method := ⟨0, 0⟩, args := #[] }]
def about1 : State := aboutOver below0
def p0 : Program := .bare "" "" ""
def e0 : Env := launch0.env 0 0 0
theorem w_frames : about1.frames = Frame.invoking theMethod args0 :: below0 := rfl
set_option maxRecDepth 65536 in
theorem w_args : argsFit about1.vm theMethod args0 = true := by decide +kernel
set_option maxRecDepth 65536 in
theorem w_heap : heapFits about1 = true := by decide +kernel
set_option maxRecDepth 65536 in
theorem w_runnable : about1.curStatus? = some .runnable := by decide +kernel
set_option maxRecDepth 65536 in
theorem w_alone : about1.alone = true := by decide +kernel
set_option maxRecDepth 65536 in
theorem w_named : about1.methodNamed? x = some theMethod := by decide +kernel
set_option maxRecDepth 65536 in
theorem w_hears : about1.hears theMethod below0 = true := by decide +kernel
set_option maxRecDepth 65536 in
theorem w_ripe : about1.ripe theMethod args0 below0 = true := by decide +kernel
theorem w_running : about1.status = .running := rfl
set_option maxRecDepth 65536 in
theorem w_room : about1.hasRoom e0.platform room_1 = true :=
  launch0.hasRoom_least _ room_1 (by decide +kernel) (by decide +kernel) (by decide +kernel) (by decide +kernel) (by decide +kernel) (by decide +kernel)
theorem allAtoms_all (ts : List Jvm.Cond) (a : Array Jvm.Value) (st : Jvm.State) : (allAtoms ts).before a st = ts.all (fun c => c.before a st) := by
  induction ts with
  | nil => rfl
  | cons c t ih =>
    show (Jvm.Cond.and c (allAtoms t)).before a st = _
    rw [Jvm.Cond.before_and, ih, List.all_cons]
def words1 : List Jvm.Cond := Jvm.Cond.code x code maxLocals ret :: tables_1
/-- a 'code' word, met by the world's own term for the bytes: nothing is compared byte by byte -/
theorem code_word {y : MethodName} {bytes : ByteArray} {mx : Nat} {rt : Option FieldType} {a : Array Value} {s : State} {m : MethodId} {meth : Method} {c : Code} (h1 : s.methodNamed? y = some m) (h2 : s.vm.method? m = some meth) (h3 : meth.code = some c) (h4 : c.code = bytes)
    (h5 : (c.maxLocals == mx && c.exceptionTable.isEmpty && decide (c.maxStack ≤ mostOperands) && decide (meth.sig.returnType = rt) && !meth.locks && decide (parseMethodDescriptor y.desc = some meth.sig)) = true) : (Jvm.Cond.code y bytes mx rt).before a s = true := by
  simp only [Bool.and_eq_true, beq_iff_eq, Bool.not_eq_true', decide_eq_true_eq] at h5
  obtain ⟨⟨⟨⟨⟨g1, g2⟩, g3⟩, g4⟩, g5⟩, g6⟩ := h5
  simp [Cond.before, Cond.holds, Cond.value, h1, h2, h3, h4, g1, g2, g3, g4, g5, g6]
def isCode : Jvm.Cond → Bool
  | .code _ _ _ _ => true
  | _ => false
theorem all_split {L : List Jvm.Cond} {P : Jvm.Cond → Bool} (h1 : L.all (fun c => isCode c || P c) = true) (h2 : ∀ c ∈ L.filter isCode, P c = true) : L.all P = true := by
  refine List.all_eq_true.mpr fun c hc => ?_
  have h := List.all_eq_true.mp h1 c hc
  rcases Bool.eq_false_or_eq_true (isCode c) with hi | hi
  · exact h2 c (List.mem_filter.mpr ⟨hc, hi⟩)
  · simpa [hi] using h
set_option maxRecDepth 65536 in
theorem w_c0 : (Jvm.Cond.code x code maxLocals ret).before args0 about1 = true := code_word (m := ⟨1, 3⟩) (meth := k1m3) (c := k1c3) (by decide +kernel) rfl rfl rfl (by decide +kernel)
set_option maxRecDepth 65536 in
theorem w_c1 : (Jvm.Cond.code ({ cls := "termstone/postings/Impacts", name := "lay", desc := "([I[I[II[I[I[I)V" } : Jvm.MethodName) prog_78_method_3_code (11 : Nat) (Option.none : Option Jvm.ClassFile.FieldType)).before args0 about1 = true := code_word (m := ⟨2, 1⟩) (meth := k2m1) (c := k2c1) (by decide +kernel) rfl rfl rfl (by decide +kernel)
set_option maxRecDepth 65536 in
theorem w_c2 : (Jvm.Cond.code ({ cls := "termstone/postings/ImpactsLayPinLaw", name := "segment", desc := "([I[I[I[III)Z" } : Jvm.MethodName) method_2_code (7 : Nat) (Option.some Jvm.ClassFile.FieldType.boolean)).before args0 about1 = true := code_word (m := ⟨1, 1⟩) (meth := k1m1) (c := k1c1) (by decide +kernel) rfl rfl rfl (by decide +kernel)
set_option maxRecDepth 65536 in
theorem w_c3 : (Jvm.Cond.code ({ cls := "termstone/postings/ImpactsLayPinLaw", name := "untouched", desc := "([IIII)Z" } : Jvm.MethodName) method_3_code (4 : Nat) (Option.some Jvm.ClassFile.FieldType.boolean)).before args0 about1 = true := code_word (m := ⟨1, 2⟩) (meth := k1m2) (c := k1c2) (by decide +kernel) rfl rfl rfl (by decide +kernel)
def codes1 : List Jvm.Cond := [Jvm.Cond.code x code maxLocals ret, Jvm.Cond.code ({ cls := "termstone/postings/Impacts", name := "lay", desc := "([I[I[II[I[I[I)V" } : Jvm.MethodName) prog_78_method_3_code (11 : Nat) (Option.none : Option Jvm.ClassFile.FieldType), Jvm.Cond.code ({ cls := "termstone/postings/ImpactsLayPinLaw", name := "segment", desc := "([I[I[I[III)Z" } : Jvm.MethodName) method_2_code (7 : Nat) (Option.some Jvm.ClassFile.FieldType.boolean), Jvm.Cond.code ({ cls := "termstone/postings/ImpactsLayPinLaw", name := "untouched", desc := "([IIII)Z" } : Jvm.MethodName) method_3_code (4 : Nat) (Option.some Jvm.ClassFile.FieldType.boolean)]
set_option maxRecDepth 65536 in
theorem codes_eq : words1.filter isCode = codes1 := rfl
theorem w_codes : ∀ c ∈ words1.filter isCode, c.before args0 about1 = true := by
  rw [codes_eq]
  intro c hc
  simp only [codes1, List.mem_cons, List.not_mem_nil, or_false] at hc
  rcases hc with rfl | rfl | rfl | rfl
  · exact w_c0
  · exact w_c1
  · exact w_c2
  · exact w_c3
set_option maxRecDepth 65536 in
theorem w_t1 : words1.all (fun c => isCode c || c.before args0 about1) = true := by decide +kernel
theorem w_tables : (allAtoms (Jvm.Cond.code x code maxLocals ret :: tables_1)).before args0 about1 = true := by
  rw [allAtoms_all]
  show words1.all (fun c => c.before args0 about1) = true
  refine all_split ?_ w_codes
  rw [w_t1]
set_option maxRecDepth 65536 in
theorem w_case : (Jvm.Cond.and given_1 narrow_1).before args0 about1 = true := by decide +kernel
theorem w_applies : (headSpec (Jvm.Cond.code x code maxLocals ret :: tables_1) room_1).applies x e0.platform about1 = true :=
  (Spec.applies_iff w_frames).mpr ⟨w_running, w_runnable, w_alone, w_named, w_hears, w_ripe, w_room, w_tables⟩
theorem atStart : AtStart classFile x code maxLocals ret World_1 tables_1 room_1 Calls_1 rest_1 Pre_1 launch0 p0 e0 about1 theMethod args0 below0 :=
  ⟨lists_1, trivial, launch0.admits_env _ _ _, launch0.least_env, fairChoices_fair.cas, fairChoices_fair.clock, w_frames, w_args, w_heap, w_applies, trivial, trivial, w_case⟩
end start1
theorem witness_1 : WitnessClaimed_1 := ⟨start1.p0, start1.e0, start1.about1, start1.theMethod, start1.args0, start1.below0, start1.atStart⟩
end Jvm.Pilot.@@N@@
