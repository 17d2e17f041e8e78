import JvmDerived
import JvmDerived.Pilot.@@N@@Statement
import JvmDerived.Pilot.@@N@@Code
set_option linter.unusedVariables false
set_option linter.unusedSimpArgs false
namespace Jvm.Own
open Jvm Jvm.ClassFile Sem Op Lib Jvm.Free Jvm.Stand Jvm.LawKit Jvm.RoadKit
def OHr (p : Program) (l : Launch) (e : Env) (R : Room) (s : State) (m : MethodId) (args : Array Value) (below : List Frame) (meth : Method) (c : Code) (Z : State) (n0 : Nat) (own nm : String) (code : ByteArray) (maxL : Nat) (ret : Option FieldType) (T : State) (h : Heap) (ce sl : Nat) : Prop :=
  (p.tables.exec = Jvm.exec ∧ Z.Warmed39 s.vm ∧ c.code = code ∧ c.maxLocals = maxL ∧ s.vm.findClass own = some m.cls ∧ meth.name = nm ∧ meth.sig.returnType = ret ∧ meth.locks = false) ∧
  ∃ locs, Stand p l e R s m args below meth c T locs ce sl ∧ T.heap = h ∧ Fr n0 locs ∧ n0 ≤ h.size
def OEnds (p : Program) (e : Env) (below : List Frame) (s : State) (n0 : Nat) (Q : Option Value → Heap → Prop) (C S : Nat) (T : State) (g : JFrame) : Prop :=
  ∃ s₂ o, Steps p.tables e below (T.setTop g) s₂ ∧ s₂.status = .running ∧ Ended s₂ below o ∧ ∃ v L, o = .returned v ∧ (Fr n0 L ∧ Q v s₂.heap) ∧ FrameEnd s o s₂ L C S
def OMet (l : Launch) (Z : State) (n0 : Nat) (y : MethodName) (bytes : ByteArray) (maxL : Nat) (ret : Option FieldType) (rm : Room) (as : Array Value) (h0 : Heap) (Q : Option Value → Heap → Prop) : Prop :=
  ∀ ws, MetFree l y (head1 (Cond.code y bytes maxL ret :: ws) rm) (fun a U => a = as ∧ Z.Warmed39 U.vm ∧ U.heap = h0) (fun _ _ _ _ _ => True) (fun _ U o U' => ∃ v L, o = .returned v ∧ (Fr n0 L ∧ h0.size ≤ U'.heap.size ∧ Q v U'.heap) ∧ FrameEnd U o U' L rm.cells rm.slots)
theorem OMet.of {l : Launch} {Z : State} {n0 : Nat} {y : MethodName} {bytes : ByteArray} {maxL : Nat} {ret : Option FieldType} {rm : Room} {as : Array Value} {h0 : Heap} {Q : Option Value → Heap → Prop} {Ls : Array Slot}
    (pn : plainFor y = true) (Z0 : n0 ≤ h0.size) (ef : ∀ m, entryFrame m as maxL = mkF m 0 Ls [])
    (body : ∀ p e s m below meth c T, OHr p l e rm s m as below meth c Z n0 y.cls y.name bytes maxL ret T h0 0 0 → OEnds p e below s n0 Q rm.cells rm.slots T (mkF m 0 Ls [])) : OMet l Z n0 y bytes maxL ret rm as h0 Q := by
  intro ws
  refine MetFree.of_bodySF pn hisR ?_
  intro p e s m args below meth c s₁ Bd hml0 hP hK
  obtain ⟨rfl, hZ, hh⟩ := hP
  have X0 : Stand p l e rm s m _ below meth c s₁ [] 0 0 := Stand.of_body Bd
  have e0 : s₁.heap = h0 := by rw [← hh, Bd.state]; rfl
  rw [ef]
  obtain ⟨s₂, o, g1, g2, g3, v, L, g4, ⟨g5, g6⟩, g7⟩ := body p e s m below meth c s₁ ⟨⟨Bd.exec, hZ, Bd.bytes, hml0, findClass_of_methodNamed Bd.named, (name_of_methodNamed Bd.named Bd.method).1, Bd.returns, Bd.notSynchronized⟩, [], X0, e0, Fr.nil n0, Z0⟩
  exact ⟨s₂, o, g1, g2, g3, v, L, g4, ⟨g5, by rw [← hh]; exact g7.2.2.2.1, g6⟩, g7⟩
theorem OMet.mono {l : Launch} {Z : State} {n0 : Nat} {y : MethodName} {bytes : ByteArray} {maxL : Nat} {ret : Option FieldType} {rm : Room} {as : Array Value} {h0 : Heap} {Q Q' : Option Value → Heap → Prop}
    (M : OMet l Z n0 y bytes maxL ret rm as h0 Q) (q : ∀ v h, Q v h → Q' v h) : OMet l Z n0 y bytes maxL ret rm as h0 Q' := by
  intro ws p e h1 h2 h3 s m args below h4 h5 h6 h7
  obtain ⟨n, o, k1, k2, k3, v, L, k4, ⟨k5, k5', k6⟩, k7⟩ := M ws p e h1 h2 h3 s m args below h4 h5 h6 h7
  exact ⟨n, o, k1, k2, k3, v, L, k4, ⟨k5, k5', q _ _ k6⟩, k7⟩
/-! arrays by the list of their values -/
def OAry (Z : State) (h : Heap) (a : Addr) (ty : FieldType) (vs : List Value) : Prop := ∃ c : Cell, Arr Z h a c ty ∧ c.slots.toList = vs ∧ vs.length < 2 ^ 31 ∧ ∀ v ∈ vs, fits ty v = true
section Facts
variable {Z : State} {h h' : Heap} {a b : Nat} {ty : FieldType} {vs : List Value} {v : Value} {sl : Nat} {ws : List Addr} {i : Nat}
theorem OAry.lt (A : OAry Z h a ty vs) : a < h.size := by obtain ⟨c, A, -⟩ := A; exact A.lt
theorem OAry.ext (A : OAry Z h a ty vs) (E : Ext h h') : OAry Z h' a ty vs := by obtain ⟨c, A, r⟩ := A; exact ⟨c, A.ext E, r⟩
theorem OAry.other (A : OAry Z h b ty vs) (W : Wr h h' a sl v) (q : b ≠ a) : OAry Z h' b ty vs := by obtain ⟨c, A, r⟩ := A; exact ⟨c, A.other W q, r⟩
theorem OAry.keep (A : OAry Z h a ty vs) (K : Keep h h' ws) (q : a ∉ ws) : OAry Z h' a ty vs := by obtain ⟨c, A, r⟩ := A; exact ⟨c, ⟨K.2.1 _ _ A.1 q, A.2⟩, r⟩
theorem OAry.len (A : OAry Z h a ty vs) : vs.length < 2 ^ 31 := by obtain ⟨c, A, -, r, -⟩ := A; exact r
theorem OAry.fit (A : OAry Z h a ty vs) (q : v ∈ vs) : fits ty v = true := by obtain ⟨c, A, -, -, r⟩ := A; exact r v q
theorem OAry.new {cA : ClassId} {n : Int32} (A : Arr Z h a (newA cA ty n) ty) (hf : fits ty (defaultValue ty) = true) : OAry Z h a ty (List.replicate n.toNatClampNeg (defaultValue ty)) := by
  refine ⟨_, A, by simp [newA], ?_, ?_⟩
  · rw [List.length_replicate]
    have := n.toInt_lt
    have e : n.toNatClampNeg = n.toInt.toNat := rfl
    omega
  · intro v hv
    rw [List.eq_of_mem_replicate hv]
    exact hf
theorem OAry.wr (A : OAry Z h a ty vs) (W : Wr h h' a i v) (hf : fits ty v = true) : OAry Z h' a ty (vs.set i v) := by
  obtain ⟨c, A, r1, r2, r3⟩ := A
  refine ⟨_, A.same W, by simp [Cell.setSlot, r1], by simpa using r2, fun w hw => ?_⟩
  rcases List.mem_or_eq_of_mem_set hw with q | q
  · exact r3 w q
  · rw [q]; exact hf
theorem OAry.uniq {ty' : FieldType} {vs' : List Value} (A : OAry Z h a ty vs) (B : OAry Z h a ty' vs') : vs = vs' := by
  obtain ⟨c, A, r1, -⟩ := A
  obtain ⟨c', B, r1', -⟩ := B
  have e : c = c' := Option.some.inj (A.1.symm.trans B.1)
  subst e
  rw [← r1, ← r1']
theorem nat_idx {j : Int32} {i : Nat} (hj : j.toInt = (i : Int)) : j.toNatClampNeg = i ∧ ¬ j < 0 := by
  have e : j.toNatClampNeg = j.toInt.toNat := rfl
  refine ⟨by omega, ?_⟩
  rw [Int32.lt_iff_toInt_lt]
  have : (0 : Int32).toInt = 0 := rfl
  omega
theorem Fr.one {k : Nat} {L : List Loc} {a : Addr} {i : Nat} (N : Fr k L) (q : k ≤ a) : Fr k (L ++ [⟨a, i⟩]) := Fr.app N (fun y hy => by
  have e : y = ⟨a, i⟩ := List.mem_singleton.mp hy
  subst e; exact q)
theorem ext_size (E : Ext h h') : h.size ≤ h'.size := E.1
end Facts
section Go
variable {p : Program} {l : Launch} {e : Env} {R : Room} {s : State} {m : MethodId} {args : Array Value} {below : List Frame} {meth : Method} {c : Code} {Z : State} {n0 : Nat} {own nm : String} {code : ByteArray} {maxL : Nat} {ret : Option FieldType} {T : State} {h : Heap} {ce sl : Nat} {Q : Option Value → Heap → Prop} {C S : Nat} {pc : Nat} {Ls : Array Slot} {st : List Value} {a0 : Array Value}
theorem OHr.mono (H : OHr p l e R s m args below meth c Z n0 own nm code maxL ret T h ce sl) {ce' sl' : Nat} (q1 : ce ≤ ce') (q2 : sl ≤ sl') : OHr p l e R s m args below meth c Z n0 own nm code maxL ret T h ce' sl' := by
  obtain ⟨K, locs, X, r⟩ := H
  exact ⟨K, locs, { X with same := X.same.mono q1 q2 }, r⟩
theorem OHr.z0 (H : OHr p l e R s m args below meth c Z n0 own nm code maxL ret T h ce sl) : n0 ≤ h.size := by obtain ⟨K, locs, X, r1, r2, r3⟩ := H; exact r3
theorem go {T' : State} {g g' : JFrame} (q : ∀ t, Steps p.tables e below (T'.setTop g') t → Steps p.tables e below (T.setTop g) t) (k : OEnds p e below s n0 Q C S T' (g')) : OEnds p e below s n0 Q C S T (g) := by
  obtain ⟨a, o, h1, h2⟩ := k
  exact ⟨a, o, q _ h1, h2⟩
theorem go1 {T' : State} {g g' : JFrame} (q : Steps p.tables e below (T.setTop g) (T'.setTop g')) (k : OEnds p e below s n0 Q C S T' (g')) : OEnds p e below s n0 Q C S T (g) := by
  obtain ⟨a, o, h1, h2⟩ := k
  exact ⟨a, o, q.trans h1, h2⟩
theorem cut {A : Type} (P : A → Prop) (g : A → JFrame) {g0 : JFrame} (k : ∀ a, P a → OEnds p e below s n0 Q C S T (g a)) (main : (∀ a, P a → OEnds p e below s n0 Q C S T (g a)) → OEnds p e below s n0 Q C S T (g0)) : OEnds p e below s n0 Q C S T (g0) := main k
theorem cast {g g' : JFrame} (q : g = g') (k : OEnds p e below s n0 Q C S T (g')) : OEnds p e below s n0 Q C S T (g) := q ▸ k
theorem iload_n (H : OHr p l e R s m args below meth c Z n0 own nm code maxL ret T h ce sl) {k : Fin 4} {v : Int32} (hd : decode code pc = .ok (.iload_n k, 1)) (hl : Ls[k.val]? = some (.val (.int v))) (k : OEnds p e below s n0 Q C S T (mkF m (pc + 1) Ls (.int v :: st))) : OEnds p e below s n0 Q C S T (mkF m pc Ls (st)) := by
  obtain ⟨⟨hx, hZ, hby, hml, hown, hnm, hrt, hlk⟩, locs, X, eT, N, z0⟩ := H
  exact go (fun t q => XS.iloadN X.here hx rfl (hb hby hd) hl q) k
theorem lload_n (H : OHr p l e R s m args below meth c Z n0 own nm code maxL ret T h ce sl) {k : Fin 4} {v : Int64} (hd : decode code pc = .ok (.lload_n k, 1)) (hl : Ls[k.val]? = some (.val (.long v))) (k : OEnds p e below s n0 Q C S T (mkF m (pc + 1) Ls (.long v :: st))) : OEnds p e below s n0 Q C S T (mkF m pc Ls (st)) := by
  obtain ⟨⟨hx, hZ, hby, hml, hown, hnm, hrt, hlk⟩, locs, X, eT, N, z0⟩ := H
  exact go (fun t q => XT.lloadN X.here hx rfl (hb hby hd) hl q) k
theorem iload (H : OHr p l e R s m args below meth c Z n0 own nm code maxL ret T h ce sl) {k : Nat} {v : Int32} (hd : decode code pc = .ok (.iload k, 2)) (hl : Ls[k]? = some (.val (.int v))) (k : OEnds p e below s n0 Q C S T (mkF m (pc + 2) Ls (.int v :: st))) : OEnds p e below s n0 Q C S T (mkF m pc Ls (st)) := by
  obtain ⟨⟨hx, hZ, hby, hml, hown, hnm, hrt, hlk⟩, locs, X, eT, N, z0⟩ := H
  exact go (fun t q => XS.iload X.here hx rfl (hb hby hd) hl q) k
theorem lload (H : OHr p l e R s m args below meth c Z n0 own nm code maxL ret T h ce sl) {k : Nat} {v : Int64} (hd : decode code pc = .ok (.lload k, 2)) (hl : Ls[k]? = some (.val (.long v))) (k : OEnds p e below s n0 Q C S T (mkF m (pc + 2) Ls (.long v :: st))) : OEnds p e below s n0 Q C S T (mkF m pc Ls (st)) := by
  obtain ⟨⟨hx, hZ, hby, hml, hown, hnm, hrt, hlk⟩, locs, X, eT, N, z0⟩ := H
  exact go (fun t q => XT.lload X.here hx rfl (hb hby hd) hl q) k
theorem aload_n (H : OHr p l e R s m args below meth c Z n0 own nm code maxL ret T h ce sl) {k : Fin 4} {v : Value} (hd : decode code pc = .ok (.aload_n k, 1)) (hl : Ls[k.val]? = some (.val v)) (hv : v.isRef = true) (k : OEnds p e below s n0 Q C S T (mkF m (pc + 1) Ls (v :: st))) : OEnds p e below s n0 Q C S T (mkF m pc Ls (st)) := by
  obtain ⟨⟨hx, hZ, hby, hml, hown, hnm, hrt, hlk⟩, locs, X, eT, N, z0⟩ := H
  exact go (fun t q => XS.aloadN X.here hx rfl (hb hby hd) hl hv q) k
theorem aload (H : OHr p l e R s m args below meth c Z n0 own nm code maxL ret T h ce sl) {k : Nat} {v : Value} (hd : decode code pc = .ok (.aload k, 2)) (hl : Ls[k]? = some (.val v)) (hv : v.isRef = true) (k : OEnds p e below s n0 Q C S T (mkF m (pc + 2) Ls (v :: st))) : OEnds p e below s n0 Q C S T (mkF m pc Ls (st)) := by
  obtain ⟨⟨hx, hZ, hby, hml, hown, hnm, hrt, hlk⟩, locs, X, eT, N, z0⟩ := H
  exact go (fun t q => XS.aload X.here hx rfl (hb hby hd) hl hv q) k
theorem istore_n (H : OHr p l e R s m args below meth c Z n0 own nm code maxL ret T h ce sl) {k : Fin 4} {v : Int32} (l' : Array Slot) (hd : decode code pc = .ok (.istore_n k, 1)) (hl : storeLocals Ls k.val (.int v) = some l') (k : OEnds p e below s n0 Q C S T (mkF m (pc + 1) l' (st))) : OEnds p e below s n0 Q C S T (mkF m pc Ls (.int v :: st)) := by
  obtain ⟨⟨hx, hZ, hby, hml, hown, hnm, hrt, hlk⟩, locs, X, eT, N, z0⟩ := H
  exact go (fun t q => XS.istoreN X.here hx rfl (hb hby hd) rfl hl q) k
theorem istore (H : OHr p l e R s m args below meth c Z n0 own nm code maxL ret T h ce sl) {k : Nat} {v : Int32} (l' : Array Slot) (hd : decode code pc = .ok (.istore k, 2)) (hl : storeLocals Ls k (.int v) = some l') (k : OEnds p e below s n0 Q C S T (mkF m (pc + 2) l' (st))) : OEnds p e below s n0 Q C S T (mkF m pc Ls (.int v :: st)) := by
  obtain ⟨⟨hx, hZ, hby, hml, hown, hnm, hrt, hlk⟩, locs, X, eT, N, z0⟩ := H
  exact go (fun t q => XS.istore X.here hx rfl (hb hby hd) rfl hl q) k
theorem lstore_n (H : OHr p l e R s m args below meth c Z n0 own nm code maxL ret T h ce sl) {k : Fin 4} {v : Int64} (l' : Array Slot) (hd : decode code pc = .ok (.lstore_n k, 1)) (hl : storeLocals Ls k.val (.long v) = some l') (k : OEnds p e below s n0 Q C S T (mkF m (pc + 1) l' (st))) : OEnds p e below s n0 Q C S T (mkF m pc Ls (.long v :: st)) := by
  obtain ⟨⟨hx, hZ, hby, hml, hown, hnm, hrt, hlk⟩, locs, X, eT, N, z0⟩ := H
  exact go (fun t q => XT.lstoreN X.here hx rfl (hb hby hd) rfl hl q) k
theorem lstore (H : OHr p l e R s m args below meth c Z n0 own nm code maxL ret T h ce sl) {k : Nat} {v : Int64} (l' : Array Slot) (hd : decode code pc = .ok (.lstore k, 2)) (hl : storeLocals Ls k (.long v) = some l') (k : OEnds p e below s n0 Q C S T (mkF m (pc + 2) l' (st))) : OEnds p e below s n0 Q C S T (mkF m pc Ls (.long v :: st)) := by
  obtain ⟨⟨hx, hZ, hby, hml, hown, hnm, hrt, hlk⟩, locs, X, eT, N, z0⟩ := H
  exact go (fun t q => XT.lstore X.here hx rfl (hb hby hd) rfl hl q) k
theorem astore_n (H : OHr p l e R s m args below meth c Z n0 own nm code maxL ret T h ce sl) {k : Fin 4} {v : Value} (l' : Array Slot) (hd : decode code pc = .ok (.astore_n k, 1)) (hv : v.isRef = true) (hl : storeLocals Ls k.val v = some l') (k : OEnds p e below s n0 Q C S T (mkF m (pc + 1) l' (st))) : OEnds p e below s n0 Q C S T (mkF m pc Ls (v :: st)) := by
  obtain ⟨⟨hx, hZ, hby, hml, hown, hnm, hrt, hlk⟩, locs, X, eT, N, z0⟩ := H
  exact go (fun t q => XS.astoreN X.here hx rfl (hb hby hd) rfl hv hl q) k
theorem astore (H : OHr p l e R s m args below meth c Z n0 own nm code maxL ret T h ce sl) {k : Nat} {v : Value} (l' : Array Slot) (hd : decode code pc = .ok (.astore k, 2)) (hv : v.isRef = true) (hl : storeLocals Ls k v = some l') (k : OEnds p e below s n0 Q C S T (mkF m (pc + 2) l' (st))) : OEnds p e below s n0 Q C S T (mkF m pc Ls (v :: st)) := by
  obtain ⟨⟨hx, hZ, hby, hml, hown, hnm, hrt, hlk⟩, locs, X, eT, N, z0⟩ := H
  exact go (fun t q => XS.astore X.here hx rfl (hb hby hd) rfl hv hl q) k
theorem iinc (H : OHr p l e R s m args below meth c Z n0 own nm code maxL ret T h ce sl) {k : Nat} {cst : Int} {x : Int32} (d : Int32) (l' : Array Slot) (hd : decode code pc = .ok (.iinc k cst, 3)) (hl : Ls[k]? = some (.val (.int x))) (hv : Int32.ofInt cst = d) (hl' : storeLocals Ls k (.int (x + d)) = some l') (k : OEnds p e below s n0 Q C S T (mkF m (pc + 3) l' (st))) : OEnds p e below s n0 Q C S T (mkF m pc Ls (st)) := by
  obtain ⟨⟨hx, hZ, hby, hml, hown, hnm, hrt, hlk⟩, locs, X, eT, N, z0⟩ := H
  exact go (fun t q => XS.iinc X.here hx rfl (hb hby hd) hl (by rw [hv]; exact hl') q) k
theorem iinc_c (H : OHr p l e R s m args below meth c Z n0 own nm code maxL ret T h ce sl) {k : Nat} {cst : Int} {x : Int32} (r : Int32) (l' : Array Slot) (hd : decode code pc = .ok (.iinc k cst, 3)) (hl : Ls[k]? = some (.val (.int x))) (hr : x + Int32.ofInt cst = r) (hl' : storeLocals Ls k (.int r) = some l') (kk : OEnds p e below s n0 Q C S T (mkF m (pc + 3) l' st)) : OEnds p e below s n0 Q C S T (mkF m pc Ls st) := by
  subst hr
  exact iinc H _ l' hd hl rfl hl' kk
theorem iconst (H : OHr p l e R s m args below meth c Z n0 own nm code maxL ret T h ce sl) {i : Int} (v : Int32) (hd : decode code pc = .ok (.iconst i, 1)) (hv : Int32.ofInt i = v) (k : OEnds p e below s n0 Q C S T (mkF m (pc + 1) Ls (.int v :: st))) : OEnds p e below s n0 Q C S T (mkF m pc Ls st) := by
  obtain ⟨⟨hx, hZ, hby, hml, hown, hnm, hrt, hlk⟩, locs, X, eT, N, z0⟩ := H
  subst hv
  exact go (fun t q => XS.iconst X.here hx rfl (hb hby hd) q) k
theorem bipush (H : OHr p l e R s m args below meth c Z n0 own nm code maxL ret T h ce sl) {i : Int} (v : Int32) (hd : decode code pc = .ok (.bipush i, 2)) (hv : (Int8.ofInt i).toInt32 = v) (k : OEnds p e below s n0 Q C S T (mkF m (pc + 2) Ls (.int v :: st))) : OEnds p e below s n0 Q C S T (mkF m pc Ls st) := by
  obtain ⟨⟨hx, hZ, hby, hml, hown, hnm, hrt, hlk⟩, locs, X, eT, N, z0⟩ := H
  subst hv
  exact go (fun t q => XS.bipush X.here hx rfl (hb hby hd) q) k
theorem sipush (H : OHr p l e R s m args below meth c Z n0 own nm code maxL ret T h ce sl) {i : Int} (v : Int32) (hd : decode code pc = .ok (.sipush i, 3)) (hv : (Int16.ofInt i).toInt32 = v) (k : OEnds p e below s n0 Q C S T (mkF m (pc + 3) Ls (.int v :: st))) : OEnds p e below s n0 Q C S T (mkF m pc Ls st) := by
  obtain ⟨⟨hx, hZ, hby, hml, hown, hnm, hrt, hlk⟩, locs, X, eT, N, z0⟩ := H
  subst hv
  exact go (fun t q => XS.sipush X.here hx rfl (hb hby hd) q) k
theorem lconst (H : OHr p l e R s m args below meth c Z n0 own nm code maxL ret T h ce sl) {i : Fin 2} (v : Int64) (hd : decode code pc = .ok (.lconst i, 1)) (hv : Int64.ofNat i = v) (k : OEnds p e below s n0 Q C S T (mkF m (pc + 1) Ls (.long v :: st))) : OEnds p e below s n0 Q C S T (mkF m pc Ls st) := by
  obtain ⟨⟨hx, hZ, hby, hml, hown, hnm, hrt, hlk⟩, locs, X, eT, N, z0⟩ := H
  subst hv
  exact go (fun t q => XT.lconst X.here hx rfl (hb hby hd) q) k
theorem aconst_null (H : OHr p l e R s m args below meth c Z n0 own nm code maxL ret T h ce sl)  (hd : decode code pc = .ok (.aconst_null, 1))  (k : OEnds p e below s n0 Q C S T (mkF m (pc + 1) Ls (.null :: st))) : OEnds p e below s n0 Q C S T (mkF m pc Ls (st)) := by
  obtain ⟨⟨hx, hZ, hby, hml, hown, hnm, hrt, hlk⟩, locs, X, eT, N, z0⟩ := H
  exact go (fun t q => XS.aconstNull X.here hx rfl (hb hby hd) q) k
theorem ldc (H : OHr p l e R s m args below meth c Z n0 own nm code maxL ret T h ce sl) {i : Nat} {v : Int32} (hd : decode code pc = .ok (.ldc i, 2)) (w : (Cond.constant own i v).before a0 Z = true) (k : OEnds p e below s n0 Q C S T (mkF m (pc + 2) Ls (.int v :: st))) : OEnds p e below s n0 Q C S T (mkF m pc Ls st) := by
  obtain ⟨⟨hx, hZ, hby, hml, hown, hnm, hrt, hlk⟩, locs, X, eT, N, z0⟩ := H
  exact go (X.ldcInt hx hown (mvT hZ w) rfl (hb hby hd)) k
theorem ldc2_w (H : OHr p l e R s m args below meth c Z n0 own nm code maxL ret T h ce sl) {i : Nat} {v : Int64} (hd : decode code pc = .ok (.ldc2_w i, 3)) (w : (Cond.constantLong own i v).before a0 Z = true) (k : OEnds p e below s n0 Q C S T (mkF m (pc + 3) Ls (.long v :: st))) : OEnds p e below s n0 Q C S T (mkF m pc Ls st) := by
  obtain ⟨⟨hx, hZ, hby, hml, hown, hnm, hrt, hlk⟩, locs, X, eT, N, z0⟩ := H
  exact go (X.ldc2Long hx hown (mvT hZ w) rfl (hb hby hd)) k
theorem iadd (H : OHr p l e R s m args below meth c Z n0 own nm code maxL ret T h ce sl) {x y : Int32} (hd : decode code pc = .ok (.iadd, 1))  (k : OEnds p e below s n0 Q C S T (mkF m (pc + 1) Ls (.int (x + y) :: st))) : OEnds p e below s n0 Q C S T (mkF m pc Ls (.int y :: .int x :: st)) := by
  obtain ⟨⟨hx, hZ, hby, hml, hown, hnm, hrt, hlk⟩, locs, X, eT, N, z0⟩ := H
  exact go (fun t q => XS.iadd X.here hx rfl (hb hby hd) rfl q) k
theorem isub (H : OHr p l e R s m args below meth c Z n0 own nm code maxL ret T h ce sl) {x y : Int32} (hd : decode code pc = .ok (.isub, 1))  (k : OEnds p e below s n0 Q C S T (mkF m (pc + 1) Ls (.int (x - y) :: st))) : OEnds p e below s n0 Q C S T (mkF m pc Ls (.int y :: .int x :: st)) := by
  obtain ⟨⟨hx, hZ, hby, hml, hown, hnm, hrt, hlk⟩, locs, X, eT, N, z0⟩ := H
  exact go (fun t q => XS.isub X.here hx rfl (hb hby hd) rfl q) k
theorem imul (H : OHr p l e R s m args below meth c Z n0 own nm code maxL ret T h ce sl) {x y : Int32} (hd : decode code pc = .ok (.imul, 1))  (k : OEnds p e below s n0 Q C S T (mkF m (pc + 1) Ls (.int (x * y) :: st))) : OEnds p e below s n0 Q C S T (mkF m pc Ls (.int y :: .int x :: st)) := by
  obtain ⟨⟨hx, hZ, hby, hml, hown, hnm, hrt, hlk⟩, locs, X, eT, N, z0⟩ := H
  exact go (fun t q => XS.imul X.here hx rfl (hb hby hd) rfl q) k
theorem iand (H : OHr p l e R s m args below meth c Z n0 own nm code maxL ret T h ce sl) {x y : Int32} (hd : decode code pc = .ok (.iand, 1))  (k : OEnds p e below s n0 Q C S T (mkF m (pc + 1) Ls (.int (x &&& y) :: st))) : OEnds p e below s n0 Q C S T (mkF m pc Ls (.int y :: .int x :: st)) := by
  obtain ⟨⟨hx, hZ, hby, hml, hown, hnm, hrt, hlk⟩, locs, X, eT, N, z0⟩ := H
  exact go (fun t q => XS.iand X.here hx rfl (hb hby hd) rfl q) k
theorem ior (H : OHr p l e R s m args below meth c Z n0 own nm code maxL ret T h ce sl) {x y : Int32} (hd : decode code pc = .ok (.ior, 1))  (k : OEnds p e below s n0 Q C S T (mkF m (pc + 1) Ls (.int (x ||| y) :: st))) : OEnds p e below s n0 Q C S T (mkF m pc Ls (.int y :: .int x :: st)) := by
  obtain ⟨⟨hx, hZ, hby, hml, hown, hnm, hrt, hlk⟩, locs, X, eT, N, z0⟩ := H
  exact go (fun t q => XT.ior X.here hx rfl (hb hby hd) rfl q) k
theorem ixor (H : OHr p l e R s m args below meth c Z n0 own nm code maxL ret T h ce sl) {x y : Int32} (hd : decode code pc = .ok (.ixor, 1))  (k : OEnds p e below s n0 Q C S T (mkF m (pc + 1) Ls (.int (x ^^^ y) :: st))) : OEnds p e below s n0 Q C S T (mkF m pc Ls (.int y :: .int x :: st)) := by
  obtain ⟨⟨hx, hZ, hby, hml, hown, hnm, hrt, hlk⟩, locs, X, eT, N, z0⟩ := H
  exact go (fun t q => XT.ixor X.here hx rfl (hb hby hd) rfl q) k
theorem ishl (H : OHr p l e R s m args below meth c Z n0 own nm code maxL ret T h ce sl) {x y : Int32} (hd : decode code pc = .ok (.ishl, 1))  (k : OEnds p e below s n0 Q C S T (mkF m (pc + 1) Ls (.int (x <<< (y &&& 31)) :: st))) : OEnds p e below s n0 Q C S T (mkF m pc Ls (.int y :: .int x :: st)) := by
  obtain ⟨⟨hx, hZ, hby, hml, hown, hnm, hrt, hlk⟩, locs, X, eT, N, z0⟩ := H
  exact go (fun t q => XT.ishl X.here hx rfl (hb hby hd) rfl q) k
theorem ishr (H : OHr p l e R s m args below meth c Z n0 own nm code maxL ret T h ce sl) {x y : Int32} (hd : decode code pc = .ok (.ishr, 1))  (k : OEnds p e below s n0 Q C S T (mkF m (pc + 1) Ls (.int (x >>> (y &&& 31)) :: st))) : OEnds p e below s n0 Q C S T (mkF m pc Ls (.int y :: .int x :: st)) := by
  obtain ⟨⟨hx, hZ, hby, hml, hown, hnm, hrt, hlk⟩, locs, X, eT, N, z0⟩ := H
  exact go (fun t q => XT.ishr X.here hx rfl (hb hby hd) rfl q) k
theorem iushr (H : OHr p l e R s m args below meth c Z n0 own nm code maxL ret T h ce sl) {x y : Int32} (hd : decode code pc = .ok (.iushr, 1))  (k : OEnds p e below s n0 Q C S T (mkF m (pc + 1) Ls (.int (XT.ushr x y) :: st))) : OEnds p e below s n0 Q C S T (mkF m pc Ls (.int y :: .int x :: st)) := by
  obtain ⟨⟨hx, hZ, hby, hml, hown, hnm, hrt, hlk⟩, locs, X, eT, N, z0⟩ := H
  exact go (fun t q => XT.iushr X.here hx rfl (hb hby hd) rfl q) k
theorem idiv (H : OHr p l e R s m args below meth c Z n0 own nm code maxL ret T h ce sl) {x y : Int32} (hd : decode code pc = .ok (.idiv, 1)) (hy : y ≠ 0) (k : OEnds p e below s n0 Q C S T (mkF m (pc + 1) Ls (.int (x / y) :: st))) : OEnds p e below s n0 Q C S T (mkF m pc Ls (.int y :: .int x :: st)) := by
  obtain ⟨⟨hx, hZ, hby, hml, hown, hnm, hrt, hlk⟩, locs, X, eT, N, z0⟩ := H
  exact go (fun t q => XS.idiv X.here hx rfl (hb hby hd) rfl hy q) k
theorem irem (H : OHr p l e R s m args below meth c Z n0 own nm code maxL ret T h ce sl) {x y : Int32} (hd : decode code pc = .ok (.irem, 1)) (hy : y ≠ 0) (k : OEnds p e below s n0 Q C S T (mkF m (pc + 1) Ls (.int (x % y) :: st))) : OEnds p e below s n0 Q C S T (mkF m pc Ls (.int y :: .int x :: st)) := by
  obtain ⟨⟨hx, hZ, hby, hml, hown, hnm, hrt, hlk⟩, locs, X, eT, N, z0⟩ := H
  exact go (fun t q => iremM X hx rfl (hb hby hd) rfl hy q) k
theorem iadd_c (H : OHr p l e R s m args below meth c Z n0 own nm code maxL ret T h ce sl) {x y : Int32} (r : Int32) (hd : decode code pc = .ok (.iadd, 1)) (hr : x + y = r) (k : OEnds p e below s n0 Q C S T (mkF m (pc + 1) Ls (.int r :: st))) : OEnds p e below s n0 Q C S T (mkF m pc Ls (.int y :: .int x :: st)) := by
  subst hr
  exact iadd H hd k
theorem isub_c (H : OHr p l e R s m args below meth c Z n0 own nm code maxL ret T h ce sl) {x y : Int32} (r : Int32) (hd : decode code pc = .ok (.isub, 1)) (hr : x - y = r) (k : OEnds p e below s n0 Q C S T (mkF m (pc + 1) Ls (.int r :: st))) : OEnds p e below s n0 Q C S T (mkF m pc Ls (.int y :: .int x :: st)) := by
  subst hr
  exact isub H hd k
theorem imul_c (H : OHr p l e R s m args below meth c Z n0 own nm code maxL ret T h ce sl) {x y : Int32} (r : Int32) (hd : decode code pc = .ok (.imul, 1)) (hr : x * y = r) (k : OEnds p e below s n0 Q C S T (mkF m (pc + 1) Ls (.int r :: st))) : OEnds p e below s n0 Q C S T (mkF m pc Ls (.int y :: .int x :: st)) := by
  subst hr
  exact imul H hd k
theorem iand_c (H : OHr p l e R s m args below meth c Z n0 own nm code maxL ret T h ce sl) {x y : Int32} (r : Int32) (hd : decode code pc = .ok (.iand, 1)) (hr : x &&& y = r) (k : OEnds p e below s n0 Q C S T (mkF m (pc + 1) Ls (.int r :: st))) : OEnds p e below s n0 Q C S T (mkF m pc Ls (.int y :: .int x :: st)) := by
  subst hr
  exact iand H hd k
theorem ior_c (H : OHr p l e R s m args below meth c Z n0 own nm code maxL ret T h ce sl) {x y : Int32} (r : Int32) (hd : decode code pc = .ok (.ior, 1)) (hr : x ||| y = r) (k : OEnds p e below s n0 Q C S T (mkF m (pc + 1) Ls (.int r :: st))) : OEnds p e below s n0 Q C S T (mkF m pc Ls (.int y :: .int x :: st)) := by
  subst hr
  exact ior H hd k
theorem ixor_c (H : OHr p l e R s m args below meth c Z n0 own nm code maxL ret T h ce sl) {x y : Int32} (r : Int32) (hd : decode code pc = .ok (.ixor, 1)) (hr : x ^^^ y = r) (k : OEnds p e below s n0 Q C S T (mkF m (pc + 1) Ls (.int r :: st))) : OEnds p e below s n0 Q C S T (mkF m pc Ls (.int y :: .int x :: st)) := by
  subst hr
  exact ixor H hd k
theorem ishl_c (H : OHr p l e R s m args below meth c Z n0 own nm code maxL ret T h ce sl) {x y : Int32} (r : Int32) (hd : decode code pc = .ok (.ishl, 1)) (hr : x <<< (y &&& 31) = r) (k : OEnds p e below s n0 Q C S T (mkF m (pc + 1) Ls (.int r :: st))) : OEnds p e below s n0 Q C S T (mkF m pc Ls (.int y :: .int x :: st)) := by
  subst hr
  exact ishl H hd k
theorem ishr_c (H : OHr p l e R s m args below meth c Z n0 own nm code maxL ret T h ce sl) {x y : Int32} (r : Int32) (hd : decode code pc = .ok (.ishr, 1)) (hr : x >>> (y &&& 31) = r) (k : OEnds p e below s n0 Q C S T (mkF m (pc + 1) Ls (.int r :: st))) : OEnds p e below s n0 Q C S T (mkF m pc Ls (.int y :: .int x :: st)) := by
  subst hr
  exact ishr H hd k
theorem iushr_c (H : OHr p l e R s m args below meth c Z n0 own nm code maxL ret T h ce sl) {x y : Int32} (r : Int32) (hd : decode code pc = .ok (.iushr, 1)) (hr : XT.ushr x y = r) (k : OEnds p e below s n0 Q C S T (mkF m (pc + 1) Ls (.int r :: st))) : OEnds p e below s n0 Q C S T (mkF m pc Ls (.int y :: .int x :: st)) := by
  subst hr
  exact iushr H hd k
theorem idiv_c (H : OHr p l e R s m args below meth c Z n0 own nm code maxL ret T h ce sl) {x y : Int32} (r : Int32) (hd : decode code pc = .ok (.idiv, 1)) (hy : y ≠ 0) (hr : x / y = r) (k : OEnds p e below s n0 Q C S T (mkF m (pc + 1) Ls (.int r :: st))) : OEnds p e below s n0 Q C S T (mkF m pc Ls (.int y :: .int x :: st)) := by
  subst hr
  exact idiv H hd hy k
theorem irem_c (H : OHr p l e R s m args below meth c Z n0 own nm code maxL ret T h ce sl) {x y : Int32} (r : Int32) (hd : decode code pc = .ok (.irem, 1)) (hy : y ≠ 0) (hr : x % y = r) (k : OEnds p e below s n0 Q C S T (mkF m (pc + 1) Ls (.int r :: st))) : OEnds p e below s n0 Q C S T (mkF m pc Ls (.int y :: .int x :: st)) := by
  subst hr
  exact irem H hd hy k
theorem ineg (H : OHr p l e R s m args below meth c Z n0 own nm code maxL ret T h ce sl) {x : Int32} (hd : decode code pc = .ok (.ineg, 1))  (k : OEnds p e below s n0 Q C S T (mkF m (pc + 1) Ls (.int (-x) :: st))) : OEnds p e below s n0 Q C S T (mkF m pc Ls (.int x :: st)) := by
  obtain ⟨⟨hx, hZ, hby, hml, hown, hnm, hrt, hlk⟩, locs, X, eT, N, z0⟩ := H
  exact go (fun t q => XS.ineg X.here hx rfl (hb hby hd) rfl q) k
theorem ladd (H : OHr p l e R s m args below meth c Z n0 own nm code maxL ret T h ce sl) {x y : Int64} (hd : decode code pc = .ok (.ladd, 1))  (k : OEnds p e below s n0 Q C S T (mkF m (pc + 1) Ls (.long (x + y) :: st))) : OEnds p e below s n0 Q C S T (mkF m pc Ls (.long y :: .long x :: st)) := by
  obtain ⟨⟨hx, hZ, hby, hml, hown, hnm, hrt, hlk⟩, locs, X, eT, N, z0⟩ := H
  exact go (fun t q => XT.ladd X.here hx rfl (hb hby hd) rfl q) k
theorem lsub (H : OHr p l e R s m args below meth c Z n0 own nm code maxL ret T h ce sl) {x y : Int64} (hd : decode code pc = .ok (.lsub, 1))  (k : OEnds p e below s n0 Q C S T (mkF m (pc + 1) Ls (.long (x - y) :: st))) : OEnds p e below s n0 Q C S T (mkF m pc Ls (.long y :: .long x :: st)) := by
  obtain ⟨⟨hx, hZ, hby, hml, hown, hnm, hrt, hlk⟩, locs, X, eT, N, z0⟩ := H
  exact go (fun t q => XT.lsub X.here hx rfl (hb hby hd) rfl q) k
theorem lmul (H : OHr p l e R s m args below meth c Z n0 own nm code maxL ret T h ce sl) {x y : Int64} (hd : decode code pc = .ok (.lmul, 1))  (k : OEnds p e below s n0 Q C S T (mkF m (pc + 1) Ls (.long (x * y) :: st))) : OEnds p e below s n0 Q C S T (mkF m pc Ls (.long y :: .long x :: st)) := by
  obtain ⟨⟨hx, hZ, hby, hml, hown, hnm, hrt, hlk⟩, locs, X, eT, N, z0⟩ := H
  exact go (fun t q => XT.lmul X.here hx rfl (hb hby hd) rfl q) k
theorem land (H : OHr p l e R s m args below meth c Z n0 own nm code maxL ret T h ce sl) {x y : Int64} (hd : decode code pc = .ok (.land, 1))  (k : OEnds p e below s n0 Q C S T (mkF m (pc + 1) Ls (.long (x &&& y) :: st))) : OEnds p e below s n0 Q C S T (mkF m pc Ls (.long y :: .long x :: st)) := by
  obtain ⟨⟨hx, hZ, hby, hml, hown, hnm, hrt, hlk⟩, locs, X, eT, N, z0⟩ := H
  exact go (fun t q => XT.land X.here hx rfl (hb hby hd) rfl q) k
theorem lor (H : OHr p l e R s m args below meth c Z n0 own nm code maxL ret T h ce sl) {x y : Int64} (hd : decode code pc = .ok (.lor, 1))  (k : OEnds p e below s n0 Q C S T (mkF m (pc + 1) Ls (.long (x ||| y) :: st))) : OEnds p e below s n0 Q C S T (mkF m pc Ls (.long y :: .long x :: st)) := by
  obtain ⟨⟨hx, hZ, hby, hml, hown, hnm, hrt, hlk⟩, locs, X, eT, N, z0⟩ := H
  exact go (fun t q => XT.lor X.here hx rfl (hb hby hd) rfl q) k
theorem lxor (H : OHr p l e R s m args below meth c Z n0 own nm code maxL ret T h ce sl) {x y : Int64} (hd : decode code pc = .ok (.lxor, 1))  (k : OEnds p e below s n0 Q C S T (mkF m (pc + 1) Ls (.long (x ^^^ y) :: st))) : OEnds p e below s n0 Q C S T (mkF m pc Ls (.long y :: .long x :: st)) := by
  obtain ⟨⟨hx, hZ, hby, hml, hown, hnm, hrt, hlk⟩, locs, X, eT, N, z0⟩ := H
  exact go (fun t q => XT.lxor X.here hx rfl (hb hby hd) rfl q) k
theorem lshl (H : OHr p l e R s m args below meth c Z n0 own nm code maxL ret T h ce sl) {x : Int64} {y : Int32} (hd : decode code pc = .ok (.lshl, 1))  (k : OEnds p e below s n0 Q C S T (mkF m (pc + 1) Ls (.long (x <<< (y.toInt64 &&& 63)) :: st))) : OEnds p e below s n0 Q C S T (mkF m pc Ls (.int y :: .long x :: st)) := by
  obtain ⟨⟨hx, hZ, hby, hml, hown, hnm, hrt, hlk⟩, locs, X, eT, N, z0⟩ := H
  exact go (fun t q => XT.lshl X.here hx rfl (hb hby hd) rfl q) k
theorem lshr (H : OHr p l e R s m args below meth c Z n0 own nm code maxL ret T h ce sl) {x : Int64} {y : Int32} (hd : decode code pc = .ok (.lshr, 1))  (k : OEnds p e below s n0 Q C S T (mkF m (pc + 1) Ls (.long (x >>> (y.toInt64 &&& 63)) :: st))) : OEnds p e below s n0 Q C S T (mkF m pc Ls (.int y :: .long x :: st)) := by
  obtain ⟨⟨hx, hZ, hby, hml, hown, hnm, hrt, hlk⟩, locs, X, eT, N, z0⟩ := H
  exact go (fun t q => XT.lshr X.here hx rfl (hb hby hd) rfl q) k
theorem lushr (H : OHr p l e R s m args below meth c Z n0 own nm code maxL ret T h ce sl) {x : Int64} {y : Int32} (hd : decode code pc = .ok (.lushr, 1))  (k : OEnds p e below s n0 Q C S T (mkF m (pc + 1) Ls (.long (XT.ushrL x y) :: st))) : OEnds p e below s n0 Q C S T (mkF m pc Ls (.int y :: .long x :: st)) := by
  obtain ⟨⟨hx, hZ, hby, hml, hown, hnm, hrt, hlk⟩, locs, X, eT, N, z0⟩ := H
  exact go (fun t q => XT.lushr X.here hx rfl (hb hby hd) rfl q) k
theorem lneg (H : OHr p l e R s m args below meth c Z n0 own nm code maxL ret T h ce sl) {x : Int64} (hd : decode code pc = .ok (.lneg, 1))  (k : OEnds p e below s n0 Q C S T (mkF m (pc + 1) Ls (.long (-x) :: st))) : OEnds p e below s n0 Q C S T (mkF m pc Ls (.long x :: st)) := by
  obtain ⟨⟨hx, hZ, hby, hml, hown, hnm, hrt, hlk⟩, locs, X, eT, N, z0⟩ := H
  exact go (fun t q => XT.lneg X.here hx rfl (hb hby hd) rfl q) k
theorem i2l (H : OHr p l e R s m args below meth c Z n0 own nm code maxL ret T h ce sl) {x : Int32} (hd : decode code pc = .ok (.i2l, 1))  (k : OEnds p e below s n0 Q C S T (mkF m (pc + 1) Ls (.long x.toInt64 :: st))) : OEnds p e below s n0 Q C S T (mkF m pc Ls (.int x :: st)) := by
  obtain ⟨⟨hx, hZ, hby, hml, hown, hnm, hrt, hlk⟩, locs, X, eT, N, z0⟩ := H
  exact go (fun t q => XT.i2l X.here hx rfl (hb hby hd) rfl q) k
theorem l2i (H : OHr p l e R s m args below meth c Z n0 own nm code maxL ret T h ce sl) {x : Int64} (hd : decode code pc = .ok (.l2i, 1))  (k : OEnds p e below s n0 Q C S T (mkF m (pc + 1) Ls (.int x.toInt32 :: st))) : OEnds p e below s n0 Q C S T (mkF m pc Ls (.long x :: st)) := by
  obtain ⟨⟨hx, hZ, hby, hml, hown, hnm, hrt, hlk⟩, locs, X, eT, N, z0⟩ := H
  exact go (fun t q => XT.l2i X.here hx rfl (hb hby hd) rfl q) k
theorem i2b (H : OHr p l e R s m args below meth c Z n0 own nm code maxL ret T h ce sl) {x : Int32} (hd : decode code pc = .ok (.i2b, 1))  (k : OEnds p e below s n0 Q C S T (mkF m (pc + 1) Ls (.int x.toInt8.toInt32 :: st))) : OEnds p e below s n0 Q C S T (mkF m pc Ls (.int x :: st)) := by
  obtain ⟨⟨hx, hZ, hby, hml, hown, hnm, hrt, hlk⟩, locs, X, eT, N, z0⟩ := H
  exact go (fun t q => XT.i2b X.here hx rfl (hb hby hd) rfl q) k
theorem i2c (H : OHr p l e R s m args below meth c Z n0 own nm code maxL ret T h ce sl) {x : Int32} (hd : decode code pc = .ok (.i2c, 1))  (k : OEnds p e below s n0 Q C S T (mkF m (pc + 1) Ls (.int x.toUInt32.toUInt16.toUInt32.toInt32 :: st))) : OEnds p e below s n0 Q C S T (mkF m pc Ls (.int x :: st)) := by
  obtain ⟨⟨hx, hZ, hby, hml, hown, hnm, hrt, hlk⟩, locs, X, eT, N, z0⟩ := H
  exact go (fun t q => XT.i2c X.here hx rfl (hb hby hd) rfl q) k
theorem lcmp (H : OHr p l e R s m args below meth c Z n0 own nm code maxL ret T h ce sl) {x y : Int64} (hd : decode code pc = .ok (.lcmp, 1))  (k : OEnds p e below s n0 Q C S T (mkF m (pc + 1) Ls (.int (XT.cmpL x y) :: st))) : OEnds p e below s n0 Q C S T (mkF m pc Ls (.long y :: .long x :: st)) := by
  obtain ⟨⟨hx, hZ, hby, hml, hown, hnm, hrt, hlk⟩, locs, X, eT, N, z0⟩ := H
  exact go (fun t q => XT.lcmp X.here hx rfl (hb hby hd) rfl q) k
theorem dup (H : OHr p l e R s m args below meth c Z n0 own nm code maxL ret T h ce sl) {x : Value} (hd : decode code pc = .ok (.dup, 1)) (hc : x.category = 1) (k : OEnds p e below s n0 Q C S T (mkF m (pc + 1) Ls (x :: x :: st))) : OEnds p e below s n0 Q C S T (mkF m pc Ls (x :: st)) := by
  obtain ⟨⟨hx, hZ, hby, hml, hown, hnm, hrt, hlk⟩, locs, X, eT, N, z0⟩ := H
  exact go (fun t q => XS.dup X.here hx rfl (hb hby hd) rfl hc q) k
theorem pop (H : OHr p l e R s m args below meth c Z n0 own nm code maxL ret T h ce sl) {x : Value} (hd : decode code pc = .ok (.pop, 1)) (hc : x.category = 1) (k : OEnds p e below s n0 Q C S T (mkF m (pc + 1) Ls (st))) : OEnds p e below s n0 Q C S T (mkF m pc Ls (x :: st)) := by
  obtain ⟨⟨hx, hZ, hby, hml, hown, hnm, hrt, hlk⟩, locs, X, eT, N, z0⟩ := H
  exact go (fun t q => XT.pop X.here hx rfl (hb hby hd) rfl hc q) k
theorem dup_x1 (H : OHr p l e R s m args below meth c Z n0 own nm code maxL ret T h ce sl) {x y : Value} (hd : decode code pc = .ok (.dup_x1, 1)) (hc : x.category = 1) (hc' : y.category = 1) (k : OEnds p e below s n0 Q C S T (mkF m (pc + 1) Ls (x :: y :: x :: st))) : OEnds p e below s n0 Q C S T (mkF m pc Ls (x :: y :: st)) := by
  obtain ⟨⟨hx, hZ, hby, hml, hown, hnm, hrt, hlk⟩, locs, X, eT, N, z0⟩ := H
  exact go (fun t q => XT.dupX1 X.here hx rfl (hb hby hd) rfl hc hc' q) k
theorem dup2 (H : OHr p l e R s m args below meth c Z n0 own nm code maxL ret T h ce sl) {x y : Value} (hd : decode code pc = .ok (.dup2, 1)) (hc : x.category = 1) (hc' : y.category = 1) (k : OEnds p e below s n0 Q C S T (mkF m (pc + 1) Ls (x :: y :: x :: y :: st))) : OEnds p e below s n0 Q C S T (mkF m pc Ls (x :: y :: st)) := by
  obtain ⟨⟨hx, hZ, hby, hml, hown, hnm, hrt, hlk⟩, locs, X, eT, N, z0⟩ := H
  exact go (fun t q => XT.dup2 X.here hx rfl (hb hby hd) rfl hc hc' q) k
theorem goto (H : OHr p l e R s m args below meth c Z n0 own nm code maxL ret T h ce sl) {o : Int} (pc' : Nat) (hd : decode code pc = .ok (.goto o, 3)) (ho : 0 ≤ (pc : Int) + o) (hp : ((pc : Int) + o).toNat = pc') (k : OEnds p e below s n0 Q C S T (mkF m pc' Ls st)) : OEnds p e below s n0 Q C S T (mkF m pc Ls st) := by
  obtain ⟨⟨hx, hZ, hby, hml, hown, hnm, hrt, hlk⟩, locs, X, eT, N, z0⟩ := H
  exact go (fun t q => XS.goto X.here hx rfl rfl (hb hby hd) ho hp q) k
theorem icmp_lt (H : OHr p l e R s m args below meth c Z n0 own nm code maxL ret T h ce sl) {x y : Int32} {o : Int} (pc' : Nat) (hd : decode code pc = .ok (.if_icmp .lt o, 3)) (ho : 0 ≤ (pc : Int) + o) (hp : ((pc : Int) + o).toNat = pc') (kt : x < y → OEnds p e below s n0 Q C S T (mkF m pc' Ls st)) (kf : ¬ x < y → OEnds p e below s n0 Q C S T (mkF m (pc + 3) Ls st)) : OEnds p e below s n0 Q C S T (mkF m pc Ls (.int y :: .int x :: st)) := by
  obtain ⟨⟨hx, hZ, hby, hml, hown, hnm, hrt, hlk⟩, locs, X, eT, N, z0⟩ := H
  by_cases q : x < y
  · exact go (fun t r => XS.icmpYes X.here hx rfl rfl (hb hby hd) rfl (tlt q).1 ho hp r) (kt q)
  · exact go (fun t r => XS.icmpNo X.here hx rfl (hb hby hd) rfl (flt q).1 r) (kf q)
theorem if_lt (H : OHr p l e R s m args below meth c Z n0 own nm code maxL ret T h ce sl) {x : Int32} {o : Int} (pc' : Nat) (hd : decode code pc = .ok (.ifCond .lt o, 3)) (ho : 0 ≤ (pc : Int) + o) (hp : ((pc : Int) + o).toNat = pc') (kt : x < (0 : Int32) → OEnds p e below s n0 Q C S T (mkF m pc' Ls st)) (kf : ¬ x < (0 : Int32) → OEnds p e below s n0 Q C S T (mkF m (pc + 3) Ls st)) : OEnds p e below s n0 Q C S T (mkF m pc Ls (.int x :: st)) := by
  obtain ⟨⟨hx, hZ, hby, hml, hown, hnm, hrt, hlk⟩, locs, X, eT, N, z0⟩ := H
  by_cases q : x < (0 : Int32)
  · exact go (fun t r => XS.ifYes X.here hx rfl rfl (hb hby hd) rfl ((if0 _ _).trans (tlt q).1) ho hp r) (kt q)
  · exact go (fun t r => XS.ifNo X.here hx rfl (hb hby hd) rfl ((if0 _ _).trans (flt q).1) r) (kf q)
theorem icmp_ge (H : OHr p l e R s m args below meth c Z n0 own nm code maxL ret T h ce sl) {x y : Int32} {o : Int} (pc' : Nat) (hd : decode code pc = .ok (.if_icmp .ge o, 3)) (ho : 0 ≤ (pc : Int) + o) (hp : ((pc : Int) + o).toNat = pc') (kt : ¬ x < y → OEnds p e below s n0 Q C S T (mkF m pc' Ls st)) (kf : x < y → OEnds p e below s n0 Q C S T (mkF m (pc + 3) Ls st)) : OEnds p e below s n0 Q C S T (mkF m pc Ls (.int y :: .int x :: st)) := by
  obtain ⟨⟨hx, hZ, hby, hml, hown, hnm, hrt, hlk⟩, locs, X, eT, N, z0⟩ := H
  by_cases q : x < y
  · exact go (fun t r => XS.icmpNo X.here hx rfl (hb hby hd) rfl (tlt q).2.1 r) (kf q)
  · exact go (fun t r => XS.icmpYes X.here hx rfl rfl (hb hby hd) rfl (flt q).2.1 ho hp r) (kt q)
theorem if_ge (H : OHr p l e R s m args below meth c Z n0 own nm code maxL ret T h ce sl) {x : Int32} {o : Int} (pc' : Nat) (hd : decode code pc = .ok (.ifCond .ge o, 3)) (ho : 0 ≤ (pc : Int) + o) (hp : ((pc : Int) + o).toNat = pc') (kt : ¬ x < (0 : Int32) → OEnds p e below s n0 Q C S T (mkF m pc' Ls st)) (kf : x < (0 : Int32) → OEnds p e below s n0 Q C S T (mkF m (pc + 3) Ls st)) : OEnds p e below s n0 Q C S T (mkF m pc Ls (.int x :: st)) := by
  obtain ⟨⟨hx, hZ, hby, hml, hown, hnm, hrt, hlk⟩, locs, X, eT, N, z0⟩ := H
  by_cases q : x < (0 : Int32)
  · exact go (fun t r => XS.ifNo X.here hx rfl (hb hby hd) rfl ((if0 _ _).trans (tlt q).2.1) r) (kf q)
  · exact go (fun t r => XS.ifYes X.here hx rfl rfl (hb hby hd) rfl ((if0 _ _).trans (flt q).2.1) ho hp r) (kt q)
theorem icmp_gt (H : OHr p l e R s m args below meth c Z n0 own nm code maxL ret T h ce sl) {x y : Int32} {o : Int} (pc' : Nat) (hd : decode code pc = .ok (.if_icmp .gt o, 3)) (ho : 0 ≤ (pc : Int) + o) (hp : ((pc : Int) + o).toNat = pc') (kt : y < x → OEnds p e below s n0 Q C S T (mkF m pc' Ls st)) (kf : ¬ y < x → OEnds p e below s n0 Q C S T (mkF m (pc + 3) Ls st)) : OEnds p e below s n0 Q C S T (mkF m pc Ls (.int y :: .int x :: st)) := by
  obtain ⟨⟨hx, hZ, hby, hml, hown, hnm, hrt, hlk⟩, locs, X, eT, N, z0⟩ := H
  by_cases q : y < x
  · exact go (fun t r => XS.icmpYes X.here hx rfl rfl (hb hby hd) rfl (tlt q).2.2.1 ho hp r) (kt q)
  · exact go (fun t r => XS.icmpNo X.here hx rfl (hb hby hd) rfl (flt q).2.2.1 r) (kf q)
theorem if_gt (H : OHr p l e R s m args below meth c Z n0 own nm code maxL ret T h ce sl) {x : Int32} {o : Int} (pc' : Nat) (hd : decode code pc = .ok (.ifCond .gt o, 3)) (ho : 0 ≤ (pc : Int) + o) (hp : ((pc : Int) + o).toNat = pc') (kt : (0 : Int32) < x → OEnds p e below s n0 Q C S T (mkF m pc' Ls st)) (kf : ¬ (0 : Int32) < x → OEnds p e below s n0 Q C S T (mkF m (pc + 3) Ls st)) : OEnds p e below s n0 Q C S T (mkF m pc Ls (.int x :: st)) := by
  obtain ⟨⟨hx, hZ, hby, hml, hown, hnm, hrt, hlk⟩, locs, X, eT, N, z0⟩ := H
  by_cases q : (0 : Int32) < x
  · exact go (fun t r => XS.ifYes X.here hx rfl rfl (hb hby hd) rfl ((if0 _ _).trans (tlt q).2.2.1) ho hp r) (kt q)
  · exact go (fun t r => XS.ifNo X.here hx rfl (hb hby hd) rfl ((if0 _ _).trans (flt q).2.2.1) r) (kf q)
theorem icmp_le (H : OHr p l e R s m args below meth c Z n0 own nm code maxL ret T h ce sl) {x y : Int32} {o : Int} (pc' : Nat) (hd : decode code pc = .ok (.if_icmp .le o, 3)) (ho : 0 ≤ (pc : Int) + o) (hp : ((pc : Int) + o).toNat = pc') (kt : ¬ y < x → OEnds p e below s n0 Q C S T (mkF m pc' Ls st)) (kf : y < x → OEnds p e below s n0 Q C S T (mkF m (pc + 3) Ls st)) : OEnds p e below s n0 Q C S T (mkF m pc Ls (.int y :: .int x :: st)) := by
  obtain ⟨⟨hx, hZ, hby, hml, hown, hnm, hrt, hlk⟩, locs, X, eT, N, z0⟩ := H
  by_cases q : y < x
  · exact go (fun t r => XS.icmpNo X.here hx rfl (hb hby hd) rfl (tlt q).2.2.2 r) (kf q)
  · exact go (fun t r => XS.icmpYes X.here hx rfl rfl (hb hby hd) rfl (flt q).2.2.2 ho hp r) (kt q)
theorem if_le (H : OHr p l e R s m args below meth c Z n0 own nm code maxL ret T h ce sl) {x : Int32} {o : Int} (pc' : Nat) (hd : decode code pc = .ok (.ifCond .le o, 3)) (ho : 0 ≤ (pc : Int) + o) (hp : ((pc : Int) + o).toNat = pc') (kt : ¬ (0 : Int32) < x → OEnds p e below s n0 Q C S T (mkF m pc' Ls st)) (kf : (0 : Int32) < x → OEnds p e below s n0 Q C S T (mkF m (pc + 3) Ls st)) : OEnds p e below s n0 Q C S T (mkF m pc Ls (.int x :: st)) := by
  obtain ⟨⟨hx, hZ, hby, hml, hown, hnm, hrt, hlk⟩, locs, X, eT, N, z0⟩ := H
  by_cases q : (0 : Int32) < x
  · exact go (fun t r => XS.ifNo X.here hx rfl (hb hby hd) rfl ((if0 _ _).trans (tlt q).2.2.2) r) (kf q)
  · exact go (fun t r => XS.ifYes X.here hx rfl rfl (hb hby hd) rfl ((if0 _ _).trans (flt q).2.2.2) ho hp r) (kt q)
theorem icmp_eq (H : OHr p l e R s m args below meth c Z n0 own nm code maxL ret T h ce sl) {x y : Int32} {o : Int} (pc' : Nat) (hd : decode code pc = .ok (.if_icmp .eq o, 3)) (ho : 0 ≤ (pc : Int) + o) (hp : ((pc : Int) + o).toNat = pc') (kt : x = y → OEnds p e below s n0 Q C S T (mkF m pc' Ls st)) (kf : ¬ x = y → OEnds p e below s n0 Q C S T (mkF m (pc + 3) Ls st)) : OEnds p e below s n0 Q C S T (mkF m pc Ls (.int y :: .int x :: st)) := by
  obtain ⟨⟨hx, hZ, hby, hml, hown, hnm, hrt, hlk⟩, locs, X, eT, N, z0⟩ := H
  by_cases q : x = y
  · exact go (fun t r => XS.icmpYes X.here hx rfl rfl (hb hby hd) rfl (teq q).1 ho hp r) (kt q)
  · exact go (fun t r => XS.icmpNo X.here hx rfl (hb hby hd) rfl (feq q).1 r) (kf q)
theorem if_eq (H : OHr p l e R s m args below meth c Z n0 own nm code maxL ret T h ce sl) {x : Int32} {o : Int} (pc' : Nat) (hd : decode code pc = .ok (.ifCond .eq o, 3)) (ho : 0 ≤ (pc : Int) + o) (hp : ((pc : Int) + o).toNat = pc') (kt : x = (0 : Int32) → OEnds p e below s n0 Q C S T (mkF m pc' Ls st)) (kf : ¬ x = (0 : Int32) → OEnds p e below s n0 Q C S T (mkF m (pc + 3) Ls st)) : OEnds p e below s n0 Q C S T (mkF m pc Ls (.int x :: st)) := by
  obtain ⟨⟨hx, hZ, hby, hml, hown, hnm, hrt, hlk⟩, locs, X, eT, N, z0⟩ := H
  by_cases q : x = (0 : Int32)
  · exact go (fun t r => XS.ifYes X.here hx rfl rfl (hb hby hd) rfl ((if0 _ _).trans (teq q).1) ho hp r) (kt q)
  · exact go (fun t r => XS.ifNo X.here hx rfl (hb hby hd) rfl ((if0 _ _).trans (feq q).1) r) (kf q)
theorem icmp_ne (H : OHr p l e R s m args below meth c Z n0 own nm code maxL ret T h ce sl) {x y : Int32} {o : Int} (pc' : Nat) (hd : decode code pc = .ok (.if_icmp .ne o, 3)) (ho : 0 ≤ (pc : Int) + o) (hp : ((pc : Int) + o).toNat = pc') (kt : ¬ x = y → OEnds p e below s n0 Q C S T (mkF m pc' Ls st)) (kf : x = y → OEnds p e below s n0 Q C S T (mkF m (pc + 3) Ls st)) : OEnds p e below s n0 Q C S T (mkF m pc Ls (.int y :: .int x :: st)) := by
  obtain ⟨⟨hx, hZ, hby, hml, hown, hnm, hrt, hlk⟩, locs, X, eT, N, z0⟩ := H
  by_cases q : x = y
  · exact go (fun t r => XS.icmpNo X.here hx rfl (hb hby hd) rfl (teq q).2 r) (kf q)
  · exact go (fun t r => XS.icmpYes X.here hx rfl rfl (hb hby hd) rfl (feq q).2 ho hp r) (kt q)
theorem if_ne (H : OHr p l e R s m args below meth c Z n0 own nm code maxL ret T h ce sl) {x : Int32} {o : Int} (pc' : Nat) (hd : decode code pc = .ok (.ifCond .ne o, 3)) (ho : 0 ≤ (pc : Int) + o) (hp : ((pc : Int) + o).toNat = pc') (kt : ¬ x = (0 : Int32) → OEnds p e below s n0 Q C S T (mkF m pc' Ls st)) (kf : x = (0 : Int32) → OEnds p e below s n0 Q C S T (mkF m (pc + 3) Ls st)) : OEnds p e below s n0 Q C S T (mkF m pc Ls (.int x :: st)) := by
  obtain ⟨⟨hx, hZ, hby, hml, hown, hnm, hrt, hlk⟩, locs, X, eT, N, z0⟩ := H
  by_cases q : x = (0 : Int32)
  · exact go (fun t r => XS.ifNo X.here hx rfl (hb hby hd) rfl ((if0 _ _).trans (teq q).2) r) (kf q)
  · exact go (fun t r => XS.ifYes X.here hx rfl rfl (hb hby hd) rfl ((if0 _ _).trans (feq q).2) ho hp r) (kt q)
theorem ifnull_ref (H : OHr p l e R s m args below meth c Z n0 own nm code maxL ret T h ce sl) {o : Int} {b : Addr} (hd : decode code pc = .ok (.ifnull o, 3)) (k : OEnds p e below s n0 Q C S T (mkF m (pc + 3) Ls st)) : OEnds p e below s n0 Q C S T (mkF m pc Ls (.ref b :: st)) := by
  obtain ⟨⟨hx, hZ, hby, hml, hown, hnm, hrt, hlk⟩, locs, X, eT, N, z0⟩ := H
  exact go (fun t q => XS.ifnullNo X.here hx rfl (hb hby hd) rfl q) k
theorem ifnonnull_ref (H : OHr p l e R s m args below meth c Z n0 own nm code maxL ret T h ce sl) {o : Int} {b : Addr} (pc' : Nat) (hd : decode code pc = .ok (.ifnonnull o, 3)) (ho : 0 ≤ (pc : Int) + o) (hp : ((pc : Int) + o).toNat = pc') (k : OEnds p e below s n0 Q C S T (mkF m pc' Ls st)) : OEnds p e below s n0 Q C S T (mkF m pc Ls (.ref b :: st)) := by
  obtain ⟨⟨hx, hZ, hby, hml, hown, hnm, hrt, hlk⟩, locs, X, eT, N, z0⟩ := H
  exact go (fun t q => XT.ifnonnullYes X.here hx rfl rfl (hb hby hd) rfl ho hp q) k
theorem acmp_ne (H : OHr p l e R s m args below meth c Z n0 own nm code maxL ret T h ce sl) {x y : Value} {o : Int} (pc' : Nat) (hd : decode code pc = .ok (.if_acmp .ne o, 3)) (h1 : x.isRef = true) (h2 : y.isRef = true) (ho : 0 ≤ (pc : Int) + o) (hp : ((pc : Int) + o).toNat = pc') (kt : ¬ x = y → OEnds p e below s n0 Q C S T (mkF m pc' Ls st)) (kf : x = y → OEnds p e below s n0 Q C S T (mkF m (pc + 3) Ls st)) : OEnds p e below s n0 Q C S T (mkF m pc Ls (y :: x :: st)) := by
  obtain ⟨⟨hx, hZ, hby, hml, hown, hnm, hrt, hlk⟩, locs, X, eT, N, z0⟩ := H
  by_cases q : x = y
  · exact go (fun t r => XT.acmpNo X.here hx rfl (hb hby hd) rfl h1 h2 (by simp [XT.acmp, q]) r) (kf q)
  · exact go (fun t r => XT.acmpYes X.here hx rfl rfl (hb hby hd) rfl h1 h2 (by simp [XT.acmp, q]) ho hp r) (kt q)
theorem acmp_eq (H : OHr p l e R s m args below meth c Z n0 own nm code maxL ret T h ce sl) {x y : Value} {o : Int} (pc' : Nat) (hd : decode code pc = .ok (.if_acmp .eq o, 3)) (h1 : x.isRef = true) (h2 : y.isRef = true) (ho : 0 ≤ (pc : Int) + o) (hp : ((pc : Int) + o).toNat = pc') (kt : x = y → OEnds p e below s n0 Q C S T (mkF m pc' Ls st)) (kf : ¬ x = y → OEnds p e below s n0 Q C S T (mkF m (pc + 3) Ls st)) : OEnds p e below s n0 Q C S T (mkF m pc Ls (y :: x :: st)) := by
  obtain ⟨⟨hx, hZ, hby, hml, hown, hnm, hrt, hlk⟩, locs, X, eT, N, z0⟩ := H
  by_cases q : x = y
  · exact go (fun t r => XT.acmpYes X.here hx rfl rfl (hb hby hd) rfl h1 h2 (by simp [XT.acmp, q]) ho hp r) (kt q)
  · exact go (fun t r => XT.acmpNo X.here hx rfl (hb hby hd) rfl h1 h2 (by simp [XT.acmp, q]) r) (kf q)
theorem ret_int (H : OHr p l e R s m args below meth c Z n0 own nm code maxL ret T h ce sl) {z : Int32} (hd : decode code pc = .ok (.ireturn, 1)) (hr : ret = some .int) (hC : ce ≤ C) (hS : sl ≤ S) (hq : Q (some (.int z)) h) : OEnds p e below s n0 Q C S T (mkF m pc Ls (.int z :: st)) := by
  obtain ⟨⟨hx, hZ, hby, hml, hown, hnm, hrt, hlk⟩, locs, X, eT, N, z0⟩ := H
  obtain ⟨fs, hrr, hrun, hended, hW, hsame⟩ := X.leave (v := some (.int z)) (fun q => by rw [hrt, hr] at q; cases q) hlk
  refine ⟨_, _, ?_, hrun, hended, _, _, rfl, ⟨N, ?_⟩, ⟨_, rfl⟩, hW, hsame.mono hC hS⟩
  · exact retOut X hx (hrt.trans hr) rfl (Or.inl ⟨rfl, Or.inl rfl, _, rfl⟩) (hb hby hd) hrr
  · show Q _ T.heap
    rw [eT]; exact hq
theorem ret_nar (H : OHr p l e R s m args below meth c Z n0 own nm code maxL ret T h ce sl) {z : Int32} (w : Int32) {t : FieldType} (hd : decode code pc = .ok (.ireturn, 1)) (hr : ret = some t) (ht : t = .boolean ∨ t = .byte ∨ t = .char ∨ t = .short) (hw : nar t z = w) (hC : ce ≤ C) (hS : sl ≤ S) (hq : Q (some (.int w)) h) : OEnds p e below s n0 Q C S T (mkF m pc Ls (.int z :: st)) := by
  obtain ⟨⟨hx, hZ, hby, hml, hown, hnm, hrt, hlk⟩, locs, X, eT, N, z0⟩ := H
  subst hw
  obtain ⟨fs, hrr, hrun, hended, hW, hsame⟩ := X.leave (v := some (.int (nar t z))) (fun q => by rw [hrt, hr] at q; cases q) hlk
  refine ⟨_, _, ?_, hrun, hended, _, _, rfl, ⟨N, ?_⟩, ⟨_, rfl⟩, hW, hsame.mono hC hS⟩
  · exact retN X hx (hrt.trans hr) ht (hb hby hd) hrr
  · show Q _ T.heap
    rw [eT]; exact hq
theorem ret_long (H : OHr p l e R s m args below meth c Z n0 own nm code maxL ret T h ce sl) {z : Int64} (hd : decode code pc = .ok (.lreturn, 1)) (hr : ret = some .long) (hC : ce ≤ C) (hS : sl ≤ S) (hq : Q (some (.long z)) h) : OEnds p e below s n0 Q C S T (mkF m pc Ls (.long z :: st)) := by
  obtain ⟨⟨hx, hZ, hby, hml, hown, hnm, hrt, hlk⟩, locs, X, eT, N, z0⟩ := H
  obtain ⟨fs, hrr, hrun, hended, hW, hsame⟩ := X.leave (v := some (.long z)) (fun q => by rw [hrt, hr] at q; cases q) hlk
  refine ⟨_, _, ?_, hrun, hended, _, _, rfl, ⟨N, ?_⟩, ⟨_, rfl⟩, hW, hsame.mono hC hS⟩
  · exact retOut X hx (hrt.trans hr) rfl (Or.inr (Or.inl ⟨rfl, rfl, _, rfl⟩)) (hb hby hd) hrr
  · show Q _ T.heap
    rw [eT]; exact hq
theorem ret_ref (H : OHr p l e R s m args below meth c Z n0 own nm code maxL ret T h ce sl) {z : Value} {t : FieldType} (hd : decode code pc = .ok (.areturn, 1)) (hr : ret = some t) (ht : t.isReference = true) (hn : narrow t z = z) (hz : z.isRef = true) (hC : ce ≤ C) (hS : sl ≤ S) (hq : Q (some z) h) : OEnds p e below s n0 Q C S T (mkF m pc Ls (z :: st)) := by
  obtain ⟨⟨hx, hZ, hby, hml, hown, hnm, hrt, hlk⟩, locs, X, eT, N, z0⟩ := H
  obtain ⟨fs, hrr, hrun, hended, hW, hsame⟩ := X.leave (v := some z) (fun q => by rw [hrt, hr] at q; cases q) hlk
  refine ⟨_, _, ?_, hrun, hended, _, _, rfl, ⟨N, ?_⟩, ⟨_, rfl⟩, hW, hsame.mono hC hS⟩
  · exact retOut X hx (hrt.trans hr) hn (Or.inr (Or.inr (Or.inr (Or.inr ⟨rfl, ht, hz⟩)))) (hb hby hd) hrr
  · show Q _ T.heap
    rw [eT]; exact hq
theorem ret_void (H : OHr p l e R s m args below meth c Z n0 own nm code maxL ret T h ce sl) (hd : decode code pc = .ok (.return_, 1)) (hr : ret = none) (hC : ce ≤ C) (hS : sl ≤ S) (hq : Q none h) : OEnds p e below s n0 Q C S T (mkF m pc Ls []) := by
  obtain ⟨⟨hx, hZ, hby, hml, hown, hnm, hrt, hlk⟩, locs, X, eT, N, z0⟩ := H
  obtain ⟨fs, hrr, hrun, hended, hW, hsame⟩ := X.leave (v := none) (fun _ => rfl) hlk
  refine ⟨_, _, ?_, hrun, hended, _, _, rfl, ⟨N, ?_⟩, ⟨_, rfl⟩, hW, hsame.mono hC hS⟩
  · exact X.returnOut hx (hrt.trans hr) (hb hby hd) hrr
  · show Q _ T.heap
    rw [eT]; exact hq
theorem getfield (H : OHr p l e R s m args below meth c Z n0 own nm code maxL ret T h ce sl) {O n d : String} {idx : Nat} {a : Addr} {v : Value} (hd : decode code pc = .ok (.getfield idx, 3)) (w : (Cond.fieldLink own idx O n d).before a0 Z = true) (F : Fld Z h a O n d v) (k : ∀ T', OHr p l e R s m args below meth c Z n0 own nm code maxL ret T' h ce sl → OEnds p e below s n0 Q C S T' (mkF m (pc + 3) Ls (v :: st))) : OEnds p e below s n0 Q C S T (mkF m pc Ls (.ref a :: st)) := by
  obtain ⟨⟨hx, hZ, hby, hml, hown, hnm, hrt, hlk⟩, locs, X, eT, N, z0⟩ := H
  obtain ⟨T', X', e', q⟩ := getF X hx hZ hown (host := "") (Or.inl w) Via.refl eT F (g := mkF m pc Ls (.ref a :: st)) rfl rfl (hb hby hd)
  exact go q (k T' ⟨⟨hx, hZ, hby, hml, hown, hnm, hrt, hlk⟩, locs, X', e', N, z0⟩)
theorem putfield (H : OHr p l e R s m args below meth c Z n0 own nm code maxL ret T h ce sl) {O n d CC : String} {idx kk : Nat} {ty : FieldType} {a : Addr} {v old : Value} (hd : decode code pc = .ok (.putfield idx, 3)) (w : (Cond.fieldLink own idx O n d).before a0 Z = true) (F : Fld Z h a O n d old) (E : Exa Z h a CC) (L : (Cond.lays CC O n d).before a0 Z = true ∨ ((Cond.laysFinal CC O n d).before a0 Z = true ∧ own = O ∧ nm = "<init>")) (wi : (Cond.instantiable CC kk).before a0 Z = true) (hty : parseFieldDescriptor d = some ty) (hn : narrow ty v = v) (hf : fits ty v = true) (ge : n0 ≤ a)
    (k : ∀ T' h', OHr p l e R s m args below meth c Z n0 own nm code maxL ret T' h' ce sl → Wr h h' a (Jvm.RoadKit.slotOf Z O n d) v → OEnds p e below s n0 Q C S T' (mkF m (pc + 3) Ls st)) : OEnds p e below s n0 Q C S T (mkF m pc Ls (v :: .ref a :: st)) := by
  obtain ⟨⟨hx, hZ, hby, hml, hown, hnm, hrt, hlk⟩, locs, X, eT, N, z0⟩ := H
  obtain ⟨T', h', X', e', W, q⟩ := putF X hx hZ hown (host := "") (Or.inl w) Via.refl eT F E (by rcases L with q | ⟨q1, q2, q3⟩; exact Or.inl q; exact Or.inr ⟨q1, q2, hnm.trans q3⟩) wi hty hn hf (g := mkF m pc Ls (v :: .ref a :: st)) rfl rfl (hb hby hd)
  exact go q (k T' h' ⟨⟨hx, hZ, hby, hml, hown, hnm, hrt, hlk⟩, _, X', e', Fr.one N ge, by rw [W.size]; exact z0⟩ W)
theorem getstatic (H : OHr p l e R s m args below meth c Z n0 own nm code maxL ret T h ce sl) {O n d : String} {idx : Nat} {v : Value} (hd : decode code pc = .ok (.getstatic idx, 3)) (w : (Cond.fieldLink own idx O n d).before a0 Z = true) (F : Sta Z h O n d v) (k : ∀ T', OHr p l e R s m args below meth c Z n0 own nm code maxL ret T' h ce sl → OEnds p e below s n0 Q C S T' (mkF m (pc + 3) Ls (v :: st))) : OEnds p e below s n0 Q C S T (mkF m pc Ls st) := by
  obtain ⟨⟨hx, hZ, hby, hml, hown, hnm, hrt, hlk⟩, locs, X, eT, N, z0⟩ := H
  obtain ⟨T', X', e', q⟩ := getS (host := "") X hx hZ hown w Via.refl eT F (g := mkF m pc Ls st) rfl (hb hby hd)
  exact go q (k T' ⟨⟨hx, hZ, hby, hml, hown, hnm, hrt, hlk⟩, locs, X', e', N, z0⟩)
theorem new_ (H : OHr p l e R s m args below meth c Z n0 own nm code maxL ret T h ce sl) {CC : String} {idx n : Nat} (hd : decode code pc = .ok (.new idx, 3)) (w : (Cond.classLink own idx CC).before a0 Z = true) (wi : (Cond.instantiable CC n).before a0 Z = true) (wz : (Cond.initialized CC).before a0 Z = true) (hc : ce + 1 ≤ R.cells) (hl : sl + n ≤ R.slots)
    (k : ∀ T' h' a, a = h.size → n0 ≤ a → OHr p l e R s m args below meth c Z n0 own nm code maxL ret T' h' (ce + 1) (sl + n) → Ext h h' → Exa Z h' a CC → (∀ {O nm d : String} {ty : FieldType}, Laid Z a0 CC O nm d → parseFieldDescriptor d = some ty → Fld Z h' a O nm d (defaultValue ty)) → OEnds p e below s n0 Q C S T' (mkF m (pc + 3) Ls (.ref a :: st))) : OEnds p e below s n0 Q C S T (mkF m pc Ls st) := by
  obtain ⟨⟨hx, hZ, hby, hml, hown, hnm, hrt, hlk⟩, locs, X, eT, N, z0⟩ := H
  obtain ⟨T', h', X', e', E', A', D', -, q⟩ := newO X hx hZ hown w wi wz eT (g := mkF m pc Ls st) rfl (hb hby hd) hc hl
  exact go q (k T' h' _ rfl z0 ⟨⟨hx, hZ, hby, hml, hown, hnm, hrt, hlk⟩, locs, X', e', N, Nat.le_trans z0 E'.1⟩ E' A' D')
theorem newarray (H : OHr p l e R s m args below meth c Z n0 own nm code maxL ret T h ce sl) {aty : ArrayType} {n : Int32} {i : Nat} (cap : Nat) (hd : decode code pc = .ok (.newarray aty, 2)) (w : (Cond.arrayClass (newarray.typeOf aty)).before a0 Z = true) (hn : n.toInt = (i : Int)) (hf : fits (newarray.typeOf aty) (defaultValue (newarray.typeOf aty)) = true) (hcap : i ≤ cap) (hb8 : cap * 8 ≤ 536870912) (hc : ce + 1 ≤ R.cells) (hl : sl + cap ≤ R.slots)
    (k : ∀ T' h' a, a = h.size → n0 ≤ a → OHr p l e R s m args below meth c Z n0 own nm code maxL ret T' h' (ce + 1) (sl + cap) → Ext h h' → OAry Z h' a (newarray.typeOf aty) (List.replicate i (defaultValue (newarray.typeOf aty))) → OEnds p e below s n0 Q C S T' (mkF m (pc + 2) Ls (.ref a :: st))) : OEnds p e below s n0 Q C S T (mkF m pc Ls (.int n :: st)) := by
  obtain ⟨⟨hx, hZ, hby, hml, hown, hnm, hrt, hlk⟩, locs, X, eT, N, z0⟩ := H
  obtain ⟨n1, n2⟩ := nat_idx hn
  obtain ⟨T', h', cA, X', e', E', A', q⟩ := newP X hx hZ w eT (g := mkF m pc Ls (.int n :: st)) rfl (hb hby hd) rfl n2 (cap := cap) (by rw [n1]; exact hcap) hb8 hc hl
  exact go q (k T' h' _ rfl z0 ⟨⟨hx, hZ, hby, hml, hown, hnm, hrt, hlk⟩, locs, X', e', N, Nat.le_trans z0 E'.1⟩ E' (by have := OAry.new A' hf; rw [n1] at this; exact this))
theorem arraylength (H : OHr p l e R s m args below meth c Z n0 own nm code maxL ret T h ce sl) {a : Addr} {ty : FieldType} {vs : List Value} (n : Int32) (hd : decode code pc = .ok (.arraylength, 1)) (A : OAry Z h a ty vs) (hn : n.toInt = (vs.length : Int)) (k : OEnds p e below s n0 Q C S T (mkF m (pc + 1) Ls (.int n :: st))) : OEnds p e below s n0 Q C S T (mkF m pc Ls (.ref a :: st)) := by
  obtain ⟨⟨hx, hZ, hby, hml, hown, hnm, hrt, hlk⟩, locs, X, eT, N, z0⟩ := H
  obtain ⟨c1, A, r1, r2, r3⟩ := A
  have hsz : c1.slots.size = vs.length := by rw [← r1]; simp
  obtain ⟨n1, n2⟩ := nat_idx hn
  have e1 : c1.slots.size.toInt32 = n := by rw [hsz, ← n1]; exact (back32 n2).1
  refine go (fun t q => X.arraylength hx (cell := c1) (by rw [eT]; exact A.1) (State.isArrayOf_alike hZ.alike A.2.1) (g := mkF m pc Ls (.ref a :: st)) rfl rfl (hb hby hd) t q) ?_
  rw [e1]
  exact k
theorem iaload (H : OHr p l e R s m args below meth c Z n0 own nm code maxL ret T h ce sl) {a : Addr} {vs : List Value} {j : Int32} {v : Int32} (i : Nat) (hd : decode code pc = .ok (.iaload, 1)) (A : OAry Z h a .int vs) (hj : j.toInt = (i : Int)) (hv : vs[i]? = some (.int v)) (k : OEnds p e below s n0 Q C S T (mkF m (pc + 1) Ls (.int v :: st))) : OEnds p e below s n0 Q C S T (mkF m pc Ls (.int j :: .ref a :: st)) := by
  obtain ⟨⟨hx, hZ, hby, hml, hown, hnm, hrt, hlk⟩, locs, X, eT, N, z0⟩ := H
  obtain ⟨c1, A, r1, r2, r3⟩ := A
  have hsz : c1.slots.size = vs.length := by rw [← r1]; simp
  obtain ⟨n1, n2⟩ := nat_idx hj
  have hi : i < vs.length := by rcases Nat.lt_or_ge i vs.length with q | q; exact q; rw [List.getElem?_eq_none q] at hv; cases hv
  have hat : c1.slots[j.toNatClampNeg]? = some (.int v) := by rw [n1, ← Array.getElem?_toList, r1]; exact hv
  have hin : ¬ (j < 0 ∨ c1.slots.size ≤ j.toNatClampNeg) := by rw [n1, hsz]; intro q; rcases q with q | q; exact n2 q; omega
  exact go (fun t q => X.iaload hx (by rw [eT]; exact A.1) (State.isArrayOf_alike hZ.alike A.2.1) A.2.2 hin hat (g := mkF m pc Ls (.int j :: .ref a :: st)) rfl rfl (hb hby hd) t q) k
theorem laload (H : OHr p l e R s m args below meth c Z n0 own nm code maxL ret T h ce sl) {a : Addr} {vs : List Value} {j : Int32} {v : Int64} (i : Nat) (hd : decode code pc = .ok (.laload, 1)) (A : OAry Z h a .long vs) (hj : j.toInt = (i : Int)) (hv : vs[i]? = some (.long v)) (k : OEnds p e below s n0 Q C S T (mkF m (pc + 1) Ls (.long v :: st))) : OEnds p e below s n0 Q C S T (mkF m pc Ls (.int j :: .ref a :: st)) := by
  obtain ⟨⟨hx, hZ, hby, hml, hown, hnm, hrt, hlk⟩, locs, X, eT, N, z0⟩ := H
  obtain ⟨c1, A, r1, r2, r3⟩ := A
  have hsz : c1.slots.size = vs.length := by rw [← r1]; simp
  obtain ⟨n1, n2⟩ := nat_idx hj
  have hi : i < vs.length := by rcases Nat.lt_or_ge i vs.length with q | q; exact q; rw [List.getElem?_eq_none q] at hv; cases hv
  have hat : c1.slots[j.toNatClampNeg]? = some (.long v) := by rw [n1, ← Array.getElem?_toList, r1]; exact hv
  have hin : ¬ (j < 0 ∨ c1.slots.size ≤ j.toNatClampNeg) := by rw [n1, hsz]; intro q; rcases q with q | q; exact n2 q; omega
  exact go (fun t q => X.laload hx (by rw [eT]; exact A.1) (State.isArrayOf_alike hZ.alike A.2.1) A.2.2 hin hat (g := mkF m pc Ls (.int j :: .ref a :: st)) rfl rfl (hb hby hd) t q) k
theorem caload (H : OHr p l e R s m args below meth c Z n0 own nm code maxL ret T h ce sl) {a : Addr} {vs : List Value} {j : Int32} {v : Int32} (i : Nat) (hd : decode code pc = .ok (.caload, 1)) (A : OAry Z h a .char vs) (hj : j.toInt = (i : Int)) (hv : vs[i]? = some (.int v)) (k : OEnds p e below s n0 Q C S T (mkF m (pc + 1) Ls (.int v :: st))) : OEnds p e below s n0 Q C S T (mkF m pc Ls (.int j :: .ref a :: st)) := by
  obtain ⟨⟨hx, hZ, hby, hml, hown, hnm, hrt, hlk⟩, locs, X, eT, N, z0⟩ := H
  obtain ⟨c1, A, r1, r2, r3⟩ := A
  have hsz : c1.slots.size = vs.length := by rw [← r1]; simp
  obtain ⟨n1, n2⟩ := nat_idx hj
  have hi : i < vs.length := by rcases Nat.lt_or_ge i vs.length with q | q; exact q; rw [List.getElem?_eq_none q] at hv; cases hv
  have hat : c1.slots[j.toNatClampNeg]? = some (.int v) := by rw [n1, ← Array.getElem?_toList, r1]; exact hv
  have hin : ¬ (j < 0 ∨ c1.slots.size ≤ j.toNatClampNeg) := by rw [n1, hsz]; intro q; rcases q with q | q; exact n2 q; omega
  exact go (fun t q => X.caload hx (by rw [eT]; exact A.1) (State.isArrayOf_alike hZ.alike A.2.1) A.2.2 hin hat (g := mkF m pc Ls (.int j :: .ref a :: st)) rfl rfl (hb hby hd) t q) k
theorem baload (H : OHr p l e R s m args below meth c Z n0 own nm code maxL ret T h ce sl) {a : Addr} {vs : List Value} {j : Int32} {v : Int32} (i : Nat) (hd : decode code pc = .ok (.baload, 1)) (A : OAry Z h a .byte vs) (hj : j.toInt = (i : Int)) (hv : vs[i]? = some (.int v)) (k : OEnds p e below s n0 Q C S T (mkF m (pc + 1) Ls (.int v :: st))) : OEnds p e below s n0 Q C S T (mkF m pc Ls (.int j :: .ref a :: st)) := by
  obtain ⟨⟨hx, hZ, hby, hml, hown, hnm, hrt, hlk⟩, locs, X, eT, N, z0⟩ := H
  obtain ⟨c1, A, r1, r2, r3⟩ := A
  have hsz : c1.slots.size = vs.length := by rw [← r1]; simp
  obtain ⟨n1, n2⟩ := nat_idx hj
  have hi : i < vs.length := by rcases Nat.lt_or_ge i vs.length with q | q; exact q; rw [List.getElem?_eq_none q] at hv; cases hv
  have hat : c1.slots[j.toNatClampNeg]? = some (.int v) := by rw [n1, ← Array.getElem?_toList, r1]; exact hv
  have hin : ¬ (j < 0 ∨ c1.slots.size ≤ j.toNatClampNeg) := by rw [n1, hsz]; intro q; rcases q with q | q; exact n2 q; omega
  exact go (fun t q => X.baloadBytes hx (by rw [eT]; exact A.1) (State.isArrayOf_alike hZ.alike A.2.1) A.2.2 hin hat (g := mkF m pc Ls (.int j :: .ref a :: st)) rfl rfl (hb hby hd) t q) k
theorem aaload (H : OHr p l e R s m args below meth c Z n0 own nm code maxL ret T h ce sl) {a : Addr} {ty : FieldType} {vs : List Value} {j : Int32} {v : Value} (i : Nat) (hd : decode code pc = .ok (.aaload, 1)) (A : OAry Z h a ty vs) (ht : ty.isReference = true) (hj : j.toInt = (i : Int)) (hv : vs[i]? = some v) (k : OEnds p e below s n0 Q C S T (mkF m (pc + 1) Ls (v :: st))) : OEnds p e below s n0 Q C S T (mkF m pc Ls (.int j :: .ref a :: st)) := by
  obtain ⟨⟨hx, hZ, hby, hml, hown, hnm, hrt, hlk⟩, locs, X, eT, N, z0⟩ := H
  obtain ⟨c1, A, r1, r2, r3⟩ := A
  have hsz : c1.slots.size = vs.length := by rw [← r1]; simp
  obtain ⟨n1, n2⟩ := nat_idx hj
  have hi : i < vs.length := by rcases Nat.lt_or_ge i vs.length with q | q; exact q; rw [List.getElem?_eq_none q] at hv; cases hv
  have hat : c1.slots[j.toNatClampNeg]? = some v := by rw [n1, ← Array.getElem?_toList, r1]; exact hv
  have hin : ¬ (j < 0 ∨ c1.slots.size ≤ j.toNatClampNeg) := by rw [n1, hsz]; intro q; rcases q with q | q; exact n2 q; omega
  exact go (fun t q => X.aaload hx (by rw [eT]; exact A.1) (State.isArrayOf_alike hZ.alike A.2.1) ht A.2.2 hin hat (g := mkF m pc Ls (.int j :: .ref a :: st)) rfl rfl (hb hby hd) t q) k
theorem iastore (H : OHr p l e R s m args below meth c Z n0 own nm code maxL ret T h ce sl) {a : Addr} {vs : List Value} {j : Int32} {v : Int32} (i : Nat) (hd : decode code pc = .ok (.iastore, 1)) (A : OAry Z h a .int vs) (ge : n0 ≤ a) (hj : j.toInt = (i : Int)) (hi : i < vs.length) (k : ∀ T' h', OHr p l e R s m args below meth c Z n0 own nm code maxL ret T' h' ce sl → Wr h h' a i (.int v) → OAry Z h' a .int (vs.set i (.int v)) → OEnds p e below s n0 Q C S T' (mkF m (pc + 1) Ls st)) : OEnds p e below s n0 Q C S T (mkF m pc Ls (.int v :: .int j :: .ref a :: st)) := by
  obtain ⟨⟨hx, hZ, hby, hml, hown, hnm, hrt, hlk⟩, locs, X, eT, N, z0⟩ := H
  have A0 := A
  obtain ⟨c1, A, r1, r2, r3⟩ := A
  have hsz : c1.slots.size = vs.length := by rw [← r1]; simp
  obtain ⟨n1, n2⟩ := nat_idx hj
  have hin : ¬ (j < 0 ∨ c1.slots.size ≤ j.toNatClampNeg) := by rw [n1, hsz]; intro q; rcases q with q | q; exact n2 q; omega
  obtain ⟨T', h', X', e', W, q⟩ := stI X hx hZ eT A hin (g := mkF m pc Ls (.int v :: .int j :: .ref a :: st)) rfl rfl (hb hby hd)
  rw [n1] at X' W
  exact go q (k T' h' ⟨⟨hx, hZ, hby, hml, hown, hnm, hrt, hlk⟩, _, X', e', Fr.one N ge, by rw [W.size]; exact z0⟩ W (A0.wr W rfl))
theorem lastore (H : OHr p l e R s m args below meth c Z n0 own nm code maxL ret T h ce sl) {a : Addr} {vs : List Value} {j : Int32} {v : Int64} (i : Nat) (hd : decode code pc = .ok (.lastore, 1)) (A : OAry Z h a .long vs) (ge : n0 ≤ a) (hj : j.toInt = (i : Int)) (hi : i < vs.length) (k : ∀ T' h', OHr p l e R s m args below meth c Z n0 own nm code maxL ret T' h' ce sl → Wr h h' a i (.long v) → OAry Z h' a .long (vs.set i (.long v)) → OEnds p e below s n0 Q C S T' (mkF m (pc + 1) Ls st)) : OEnds p e below s n0 Q C S T (mkF m pc Ls (.long v :: .int j :: .ref a :: st)) := by
  obtain ⟨⟨hx, hZ, hby, hml, hown, hnm, hrt, hlk⟩, locs, X, eT, N, z0⟩ := H
  have A0 := A
  obtain ⟨c1, A, r1, r2, r3⟩ := A
  have hsz : c1.slots.size = vs.length := by rw [← r1]; simp
  obtain ⟨n1, n2⟩ := nat_idx hj
  have hin : ¬ (j < 0 ∨ c1.slots.size ≤ j.toNatClampNeg) := by rw [n1, hsz]; intro q; rcases q with q | q; exact n2 q; omega
  obtain ⟨T', h', X', e', W, q⟩ := stJ X hx hZ eT A hin (g := mkF m pc Ls (.long v :: .int j :: .ref a :: st)) rfl rfl (hb hby hd)
  rw [n1] at X' W
  exact go q (k T' h' ⟨⟨hx, hZ, hby, hml, hown, hnm, hrt, hlk⟩, _, X', e', Fr.one N ge, by rw [W.size]; exact z0⟩ W (A0.wr W rfl))
theorem castore (H : OHr p l e R s m args below meth c Z n0 own nm code maxL ret T h ce sl) {a : Addr} {vs : List Value} {j : Int32} {v : Int32} (i : Nat) (hd : decode code pc = .ok (.castore, 1)) (A : OAry Z h a .char vs) (ge : n0 ≤ a) (hj : j.toInt = (i : Int)) (hi : i < vs.length) (k : ∀ T' h', OHr p l e R s m args below meth c Z n0 own nm code maxL ret T' h' ce sl → Wr h h' a i (.int (nar .char v)) → OAry Z h' a .char (vs.set i (.int (nar .char v))) → OEnds p e below s n0 Q C S T' (mkF m (pc + 1) Ls st)) : OEnds p e below s n0 Q C S T (mkF m pc Ls (.int v :: .int j :: .ref a :: st)) := by
  obtain ⟨⟨hx, hZ, hby, hml, hown, hnm, hrt, hlk⟩, locs, X, eT, N, z0⟩ := H
  have A0 := A
  obtain ⟨c1, A, r1, r2, r3⟩ := A
  have hsz : c1.slots.size = vs.length := by rw [← r1]; simp
  obtain ⟨n1, n2⟩ := nat_idx hj
  have hin : ¬ (j < 0 ∨ c1.slots.size ≤ j.toNatClampNeg) := by rw [n1, hsz]; intro q; rcases q with q | q; exact n2 q; omega
  obtain ⟨T', h', X', e', W, q⟩ := stC X hx hZ eT A hin (g := mkF m pc Ls (.int v :: .int j :: .ref a :: st)) rfl rfl (hb hby hd)
  rw [n1] at X' W
  exact go q (k T' h' ⟨⟨hx, hZ, hby, hml, hown, hnm, hrt, hlk⟩, _, X', e', Fr.one N ge, by rw [W.size]; exact z0⟩ W (A0.wr W (fits_nar_char v)))
theorem bastore (H : OHr p l e R s m args below meth c Z n0 own nm code maxL ret T h ce sl) {a : Addr} {vs : List Value} {j : Int32} {v : Int32} (i : Nat) (hd : decode code pc = .ok (.bastore, 1)) (A : OAry Z h a .byte vs) (ge : n0 ≤ a) (hj : j.toInt = (i : Int)) (hi : i < vs.length) (k : ∀ T' h', OHr p l e R s m args below meth c Z n0 own nm code maxL ret T' h' ce sl → Wr h h' a i (.int (nar .byte v)) → OAry Z h' a .byte (vs.set i (.int (nar .byte v))) → OEnds p e below s n0 Q C S T' (mkF m (pc + 1) Ls st)) : OEnds p e below s n0 Q C S T (mkF m pc Ls (.int v :: .int j :: .ref a :: st)) := by
  obtain ⟨⟨hx, hZ, hby, hml, hown, hnm, hrt, hlk⟩, locs, X, eT, N, z0⟩ := H
  have A0 := A
  obtain ⟨c1, A, r1, r2, r3⟩ := A
  have hsz : c1.slots.size = vs.length := by rw [← r1]; simp
  obtain ⟨n1, n2⟩ := nat_idx hj
  have hin : ¬ (j < 0 ∨ c1.slots.size ≤ j.toNatClampNeg) := by rw [n1, hsz]; intro q; rcases q with q | q; exact n2 q; omega
  obtain ⟨T', h', X', e', W, q⟩ := stB X hx hZ eT A hin (g := mkF m pc Ls (.int v :: .int j :: .ref a :: st)) rfl rfl (hb hby hd)
  rw [n1] at X' W
  exact go q (k T' h' ⟨⟨hx, hZ, hby, hml, hown, hnm, hrt, hlk⟩, _, X', e', Fr.one N ge, by rw [W.size]; exact z0⟩ W (A0.wr W (fits_nar_byte v)))
theorem callS (H : OHr p l e R s m args below meth c Z n0 own nm code maxL ret T h ce sl) {y : MethodName} {idx mxL : Nat} {bytes : ByteArray} {rt : Option FieldType} {rm : Room} {Q' : Option Value → Heap → Prop} {ps : List FieldType} {r : Option FieldType} (argsL rest : List Value) (hd : decode code pc = .ok (.invokestatic idx, 3)) (w1 : (Cond.methodLink own idx y).before a0 Z = true) (w2 : (Cond.static y).before a0 Z = true) (w3 : (Cond.initialized y.cls).before a0 Z = true) (w4 : (Cond.code y bytes mxL rt).before a0 Z = true) (hy : y.cls ≠ "java/lang/invoke/MethodHandle" ∧ y.cls ≠ "java/lang/invoke/VarHandle")
    (M : OMet l Z n0 y bytes mxL rt rm argsL.toArray h Q') (hde : parseMethodDescriptor y.desc = some ⟨ps, r⟩) (hlen : argsL.length = ps.length) (hst : st = argsL.reverse ++ rest) (W : Nat) (hW0 : (rest.map fun v => v.category).sum = W) (hfr : rm.frames + 1 ≤ R.frames) (hW : W + (mxL + 11) + rm.locals ≤ R.locals) (hc : ce + rm.cells ≤ R.cells) (hs : sl + rm.slots ≤ R.slots) (hL : Ls.size = maxL)
    (k : ∀ T' v h', OHr p l e R s m args below meth c Z n0 own nm code maxL ret T' h' (ce + rm.cells) (sl + rm.slots) → h.size ≤ h'.size → Q' v h' → OEnds p e below s n0 Q C S T' (mkF m (pc + 3) Ls (v.toList ++ rest))) : OEnds p e below s n0 Q C S T (mkF m pc Ls st) := by
  obtain ⟨⟨hx, hZ, hby, hml, hown, hnm, hrt, hlk⟩, locs, X, eT, N, z0⟩ := H
  obtain ⟨v, _, ⟨T1, L1, k1, n1⟩, -, X1, ⟨Lc, ⟨f1, hle, hQ1⟩, l1, y1, z1⟩, q⟩ := Jvm.LawKit.callS X hx (y := y) hown (mvT hZ w1) (mvT hZ w2) (mvT hZ w3) (mvT hZ w4) hy (backOf (W := W) (Q := fun v h' L => Fr n0 L ∧ h.size ≤ h'.size ∧ Q' v h') (M []) hZ w4 w3 hfr hW) (g := mkF m pc Ls st) rfl (hL.trans hml.symm) (argsL := argsL) (rest := rest) (lenOf hde hlen) hst (by show 2 * 0 + _ ≤ _; rw [hW0]; omega) (hb hby hd) (fun _ _ => ⟨rfl, eT, hc, hs⟩)
  dsimp only [Pt.U, Pt.locs, Pt.cells, Pt.slots] at X1 l1 y1 z1 q hQ1 hle
  subst l1 y1 z1
  exact go q (k T1 v _ ⟨⟨hx, hZ, hby, hml, hown, hnm, hrt, hlk⟩, _, X1, rfl, Fr.app N f1, Nat.le_trans z0 hle⟩ hle hQ1)
theorem callI (H : OHr p l e R s m args below meth c Z n0 own nm code maxL ret T h ce sl) {y : MethodName} {idx mxL : Nat} {bytes : ByteArray} {rm : Room} {Q' : Option Value → Heap → Prop} {ps : List FieldType} {r : Option FieldType} (a : Addr) (argsL rest : List Value) (hd : decode code pc = .ok (.invokespecial idx, 3)) (hy1 : y.name = "<init>") (w1 : (Cond.methodLink own idx y).before a0 Z = true) (w2 : (Cond.instanceMethod y).before a0 Z = true) (w3 : (Cond.initialized y.cls).before a0 Z = true) (w4 : (Cond.code y bytes mxL none).before a0 Z = true) (hy : y.cls ≠ "java/lang/invoke/MethodHandle" ∧ y.cls ≠ "java/lang/invoke/VarHandle")
    (M : OMet l Z n0 y bytes mxL none rm (.ref a :: argsL).toArray h Q') (hde : parseMethodDescriptor y.desc = some ⟨ps, r⟩) (hlen : argsL.length = ps.length) (hst : st = argsL.reverse ++ .ref a :: rest) (W : Nat) (hW0 : (rest.map fun v => v.category).sum = W) (hfr : rm.frames + 1 ≤ R.frames) (hW : W + (mxL + 11) + rm.locals ≤ R.locals) (hc : ce + rm.cells ≤ R.cells) (hs : sl + rm.slots ≤ R.slots) (hL : Ls.size = maxL)
    (k : ∀ T' v h', OHr p l e R s m args below meth c Z n0 own nm code maxL ret T' h' (ce + rm.cells) (sl + rm.slots) → h.size ≤ h'.size → Q' v h' → OEnds p e below s n0 Q C S T' (mkF m (pc + 3) Ls (v.toList ++ rest))) : OEnds p e below s n0 Q C S T (mkF m pc Ls st) := by
  obtain ⟨⟨hx, hZ, hby, hml, hown, hnm, hrt, hlk⟩, locs, X, eT, N, z0⟩ := H
  obtain ⟨v, _, ⟨T1, L1, k1, n1⟩, -, X1, ⟨Lc, ⟨f1, hle, hQ1⟩, l1, y1, z1⟩, q⟩ := X.specialBack hx (y := y) hy1 hown (mvT hZ w1) (mvT hZ w2) (mvT hZ w4) hy (backOf (W := W) (Q := fun v h' L => Fr n0 L ∧ h.size ≤ h'.size ∧ Q' v h') (M []) hZ w4 w3 hfr hW) (g := mkF m pc Ls st) rfl (hL.trans hml.symm) (Steps.refl _) (a := a) (argsL := argsL) (rest := rest) (lenOf hde hlen) hst (by show 2 * 0 + _ ≤ _; rw [hW0]; omega) (hb hby hd) (fun _ _ => ⟨rfl, eT, hc, hs⟩)
  dsimp only [Pt.U, Pt.locs, Pt.cells, Pt.slots] at X1 l1 y1 z1 q hQ1 hle
  subst l1 y1 z1
  exact go1 q (k T1 v _ ⟨⟨hx, hZ, hby, hml, hown, hnm, hrt, hlk⟩, _, X1, rfl, Fr.app N f1, Nat.le_trans z0 hle⟩ hle hQ1)
theorem callV (H : OHr p l e R s m args below meth c Z n0 own nm code maxL ret T h ce sl) {y z : MethodName} {CC : String} {idx mxL : Nat} {bytes : ByteArray} {rt : Option FieldType} {rm : Room} {Q' : Option Value → Heap → Prop} {ps : List FieldType} {r : Option FieldType} (a : Addr) (argsL rest : List Value) (hd : decode code pc = .ok (.invokevirtual idx, 3)) (w1 : (Cond.methodLink own idx y).before a0 Z = true) (w2 : (Cond.declares y).before a0 Z = true) (nf : NotFace s y) (w5 : (Cond.selects CC y z).before a0 Z = true) (w6 : (Cond.instanceMethod z).before a0 Z = true) (w3 : (Cond.initialized z.cls).before a0 Z = true) (w4 : (Cond.code z bytes mxL rt).before a0 Z = true) (hy : y.cls ≠ "java/lang/invoke/MethodHandle" ∧ y.cls ≠ "java/lang/invoke/VarHandle") (E : Exa Z h a CC)
    (M : OMet l Z n0 z bytes mxL rt rm (.ref a :: argsL).toArray h Q') (hde : parseMethodDescriptor y.desc = some ⟨ps, r⟩) (hlen : argsL.length = ps.length) (hst : st = argsL.reverse ++ .ref a :: rest) (W : Nat) (hW0 : (rest.map fun v => v.category).sum = W) (hfr : rm.frames + 1 ≤ R.frames) (hW : W + (mxL + 11) + rm.locals ≤ R.locals) (hc : ce + rm.cells ≤ R.cells) (hs : sl + rm.slots ≤ R.slots) (hL : Ls.size = maxL)
    (k : ∀ T' v h', OHr p l e R s m args below meth c Z n0 own nm code maxL ret T' h' (ce + rm.cells) (sl + rm.slots) → h.size ≤ h'.size → Q' v h' → OEnds p e below s n0 Q C S T' (mkF m (pc + 3) Ls (v.toList ++ rest))) : OEnds p e below s n0 Q C S T (mkF m pc Ls st) := by
  obtain ⟨⟨hx, hZ, hby, hml, hown, hnm, hrt, hlk⟩, locs, X, eT, N, z0⟩ := H
  obtain ⟨cq, kq, qa, qb, qc⟩ := isOf hZ eT E
  obtain ⟨v, _, ⟨T1, L1, k1, n1⟩, -, X1, ⟨Lc, ⟨f1, hle, hQ1⟩, l1, y1, z1⟩, q⟩ := X.virtualBack hx (y := y) (z := z) hown (mvT hZ w1) (mvT hZ w2) nf (mvT hZ w5) (mvT hZ w6) hy (backOf (W := W) (Q := fun v h' L => Fr n0 L ∧ h.size ≤ h'.size ∧ Q' v h') (M []) hZ w4 w3 hfr hW) qa qc (g := mkF m pc Ls st) rfl (hL.trans hml.symm) (Steps.refl _) (argsL := argsL) (rest := rest) (lenOf hde hlen) hst (by show 2 * 0 + _ ≤ _; rw [hW0]; omega) (hb hby hd) (fun _ _ => ⟨rfl, eT, hc, hs⟩)
  dsimp only [Pt.U, Pt.locs, Pt.cells, Pt.slots] at X1 l1 y1 z1 q hQ1 hle
  subst l1 y1 z1
  exact go1 q (k T1 v _ ⟨⟨hx, hZ, hby, hml, hown, hnm, hrt, hlk⟩, _, X1, rfl, Fr.app N f1, Nat.le_trans z0 hle⟩ hle hQ1)
theorem callO (H : OHr p l e R s m args below meth c Z n0 own nm code maxL ret T h ce sl) {idx : Nat} {a : Addr} (hd : decode code pc = .ok (.invokespecial idx, 3)) (w1 : (Cond.methodLink own idx Lib.objectInit).before a0 Z = true) (w2 : (Cond.instanceMethod Lib.objectInit).before a0 Z = true) (w3 : (Cond.code Lib.objectInit ⟨#[0xb1]⟩ 1 none).before a0 Z = true) (W : Nat) (hW0 : (st.map fun v => v.category).sum = W) (hfr : 1 ≤ R.frames) (hW : W + 12 ≤ R.locals) (hL : Ls.size = maxL) (k : ∀ T', OHr p l e R s m args below meth c Z n0 own nm code maxL ret T' h ce sl → OEnds p e below s n0 Q C S T' (mkF m (pc + 3) Ls st)) : OEnds p e below s n0 Q C S T (mkF m pc Ls (.ref a :: st)) := by
  obtain ⟨⟨hx, hZ, hby, hml, hown, hnm, hrt, hlk⟩, locs, X, eT, N, z0⟩ := H
  obtain ⟨T', X', e', q⟩ := initO X hx hZ hown w1 w2 w3 eT (g := mkF m pc Ls (.ref a :: st)) rfl (hL.trans hml.symm) rfl (hb hby hd) hfr (W := W) (by show 2 * 0 + _ ≤ _; rw [hW0]; omega) hW
  exact go q (k T' ⟨⟨hx, hZ, hby, hml, hown, hnm, hrt, hlk⟩, locs, X', e', N, z0⟩)
theorem OHr.nf (H : OHr p l e R s m args below meth c Z n0 own nm code maxL ret T h ce sl) {y : MethodName} {CC : String} (w : (Cond.selects CC y y).before a0 Z = true) : NotFace s y := by
  obtain ⟨⟨hx, hZ, hby, hml, hown, hnm, hrt, hlk⟩, locs, X, eT, N, z0⟩ := H
  exact notFace_of_selects (args := #[]) (mvT hZ w)
theorem clone_ (H : OHr p l e R s m args below meth c Z n0 own nm code maxL ret T h ce sl) {ad : String} {idx : Nat} {a : Addr} {ty : FieldType} {vs : List Value} (cap : Nat) (hd : decode code pc = .ok (.invokevirtual idx, 3)) (w1 : (Cond.methodLink own idx ⟨ad, "clone", "()Ljava/lang/Object;"⟩).before a0 Z = true) (w2 : (Cond.sameMethod ad "java/lang/Object" "clone" "()Ljava/lang/Object;").before a0 Z = true) (w3 : (Cond.native ⟨"java/lang/Object", "clone", "()Ljava/lang/Object;"⟩).before a0 Z = true)
    (w4 : (Cond.instanceMethod ⟨"java/lang/Object", "clone", "()Ljava/lang/Object;"⟩).before a0 Z = true) (w5 : (Cond.selects ad ⟨ad, "clone", "()Ljava/lang/Object;"⟩ ⟨"java/lang/Object", "clone", "()Ljava/lang/Object;"⟩).before a0 Z = true) (w6 : (Cond.castable ad "java/lang/Cloneable").before a0 Z = true) (A : OAry Z h a ty vs) (E : Exa Z h a ad) (W : Nat) (hW0 : (st.map fun v => v.category).sum = W) (hfr : 1 ≤ R.frames) (hW : W + 14 ≤ R.locals) (hcap : vs.length ≤ cap) (hc : ce + 1 ≤ R.cells) (hs : sl + cap ≤ R.slots) (hL : Ls.size = maxL)
    (k : ∀ T' h' b, b = h.size → n0 ≤ b → OHr p l e R s m args below meth c Z n0 own nm code maxL ret T' h' (ce + 1) (sl + cap) → Ext h h' → OAry Z h' b ty vs → Exa Z h' b ad → OEnds p e below s n0 Q C S T' (mkF m (pc + 3) Ls (.ref b :: st))) : OEnds p e below s n0 Q C S T (mkF m pc Ls (.ref a :: st)) := by
  obtain ⟨⟨hx, hZ, hby, hml, hown, hnm, hrt, hlk⟩, locs, X, eT, N, z0⟩ := H
  obtain ⟨c1, A, r1, r2, r3⟩ := A
  have hsz : c1.slots.size = vs.length := by rw [← r1]; simp
  have hF : FitC Z c1 := fitC_of A (fun i hi v hv => r3 v (by rw [← r1]; rw [← Array.getElem?_toList] at hv; exact List.mem_of_getElem? hv))
  obtain ⟨T', h', X', e', E', A', B', q⟩ := cloneA X hx hZ hown w1 w2 w3 w4 w5 w6 eT A E hF (g := mkF m pc Ls (.ref a :: st)) rfl (hL.trans hml.symm) rfl (hb hby hd) hfr (W := W) (by show 2 * 0 + _ ≤ _; rw [hW0]; omega) hW (cap := cap) (by rw [hsz]; exact hcap) hc hs
  exact go q (k T' h' _ rfl z0 ⟨⟨hx, hZ, hby, hml, hown, hnm, hrt, hlk⟩, locs, X', e', N, Nat.le_trans z0 E'.1⟩ E' ⟨_, A', r1, r2, r3⟩ B')
theorem checkcast (H : OHr p l e R s m args below meth c Z n0 own nm code maxL ret T h ce sl) {KK : String} {idx : Nat} {a : Addr} (hd : decode code pc = .ok (.checkcast idx, 3)) (w : (Cond.classLink own idx KK).before a0 Z = true) (F : Ins Z h a KK true) (k : ∀ T', OHr p l e R s m args below meth c Z n0 own nm code maxL ret T' h ce sl → OEnds p e below s n0 Q C S T' (mkF m (pc + 3) Ls (.ref a :: st))) : OEnds p e below s n0 Q C S T (mkF m pc Ls (.ref a :: st)) := by
  obtain ⟨⟨hx, hZ, hby, hml, hown, hnm, hrt, hlk⟩, locs, X, eT, N, z0⟩ := H
  obtain ⟨T', X', e', q⟩ := castY X hx hZ hown w eT F (g := mkF m pc Ls (.ref a :: st)) rfl rfl (hb hby hd)
  exact go q (k T' ⟨⟨hx, hZ, hby, hml, hown, hnm, hrt, hlk⟩, locs, X', e', N, z0⟩)
theorem dload (H : OHr p l e R s m args below meth c Z n0 own nm code maxL ret T h ce sl) {k : Nat} {v : UInt64} (hd : decode code pc = .ok (.dload k, 2)) (hl : Ls[k]? = some (.val (.double v))) (k : OEnds p e below s n0 Q C S T (mkF m (pc + 2) Ls (.double v :: st))) : OEnds p e below s n0 Q C S T (mkF m pc Ls (st)) := by
  obtain ⟨⟨hx, hZ, hby, hml, hown, hnm, hrt, hlk⟩, locs, X, eT, N, z0⟩ := H
  exact go (fun t q => XS.dload X.here hx rfl (hb hby hd) hl q) k
theorem dstore (H : OHr p l e R s m args below meth c Z n0 own nm code maxL ret T h ce sl) {k : Nat} {v : UInt64} (l' : Array Slot) (hd : decode code pc = .ok (.dstore k, 2)) (hl : storeLocals Ls k (.double v) = some l') (k : OEnds p e below s n0 Q C S T (mkF m (pc + 2) l' (st))) : OEnds p e below s n0 Q C S T (mkF m pc Ls (.double v :: st)) := by
  obtain ⟨⟨hx, hZ, hby, hml, hown, hnm, hrt, hlk⟩, locs, X, eT, N, z0⟩ := H
  exact go (fun t q => XS.dstore X.here hx rfl (hb hby hd) rfl hl q) k
theorem l2d (H : OHr p l e R s m args below meth c Z n0 own nm code maxL ret T h ce sl) {x : Int64} (hd : decode code pc = .ok (.l2d, 1))  (k : OEnds p e below s n0 Q C S T (mkF m (pc + 1) Ls (.double (FP.l2d x) :: st))) : OEnds p e below s n0 Q C S T (mkF m pc Ls (.long x :: st)) := by
  obtain ⟨⟨hx, hZ, hby, hml, hown, hnm, hrt, hlk⟩, locs, X, eT, N, z0⟩ := H
  exact go (fun t q => XS.l2dS X.here hx rfl (hb hby hd) rfl rfl q) k
theorem ddiv (H : OHr p l e R s m args below meth c Z n0 own nm code maxL ret T h ce sl) {x y : UInt64} (hd : decode code pc = .ok (.ddiv, 1)) (hn : Jvm.Free.Fl.NoNaN64 (FP.ddiv x y)) (k : OEnds p e below s n0 Q C S T (mkF m (pc + 1) Ls (.double (FP.ddiv x y) :: st))) : OEnds p e below s n0 Q C S T (mkF m pc Ls (.double y :: .double x :: st)) := by
  obtain ⟨⟨hx, hZ, hby, hml, hown, hnm, hrt, hlk⟩, locs, X, eT, N, z0⟩ := H
  exact go (fun t q => XS.ddivS X.here hx rfl (hb hby hd) rfl hn rfl q) k
theorem dadd (H : OHr p l e R s m args below meth c Z n0 own nm code maxL ret T h ce sl) {x y : UInt64} (hd : decode code pc = .ok (.dadd, 1)) (hn : Jvm.Free.Fl.NoNaN64 (FP.dadd x y)) (k : OEnds p e below s n0 Q C S T (mkF m (pc + 1) Ls (.double (FP.dadd x y) :: st))) : OEnds p e below s n0 Q C S T (mkF m pc Ls (.double y :: .double x :: st)) := by
  obtain ⟨⟨hx, hZ, hby, hml, hown, hnm, hrt, hlk⟩, locs, X, eT, N, z0⟩ := H
  exact go (fun t q => XS.daddS X.here hx rfl (hb hby hd) rfl hn rfl q) k
theorem dcmp (H : OHr p l e R s m args below meth c Z n0 own nm code maxL ret T h ce sl) {x y : UInt64} {o : CmpOp} (r : Int32) (hd : decode code pc = .ok (.dcmp o, 1)) (hv : cmpValue (FP.dcmp x y) o = r) (k : OEnds p e below s n0 Q C S T (mkF m (pc + 1) Ls (.int r :: st))) : OEnds p e below s n0 Q C S T (mkF m pc Ls (.double y :: .double x :: st)) := by
  obtain ⟨⟨hx, hZ, hby, hml, hown, hnm, hrt, hlk⟩, locs, X, eT, N, z0⟩ := H
  exact go (fun t q => XS.dcmpS X.here hx rfl (hb hby hd) rfl hv q) k
theorem ldc2_d (H : OHr p l e R s m args below meth c Z n0 own nm code maxL ret T h ce sl) {i : Nat} {v : UInt64} (hd : decode code pc = .ok (.ldc2_w i, 3)) (w : (Cond.constantDouble own i v).before a0 Z = true) (k : OEnds p e below s n0 Q C S T (mkF m (pc + 3) Ls (.double v :: st))) : OEnds p e below s n0 Q C S T (mkF m pc Ls st) := by
  obtain ⟨⟨hx, hZ, hby, hml, hown, hnm, hrt, hlk⟩, locs, X, eT, N, z0⟩ := H
  exact go (X.ldc2DoubleC hx hown (mvT hZ w) rfl (hb hby hd)) k
theorem ret_double (H : OHr p l e R s m args below meth c Z n0 own nm code maxL ret T h ce sl) {z : UInt64} (hd : decode code pc = .ok (.dreturn, 1)) (hr : ret = some .double) (hC : ce ≤ C) (hS : sl ≤ S) (hq : Q (some (.double z)) h) : OEnds p e below s n0 Q C S T (mkF m pc Ls (.double z :: st)) := by
  obtain ⟨⟨hx, hZ, hby, hml, hown, hnm, hrt, hlk⟩, locs, X, eT, N, z0⟩ := H
  obtain ⟨fs, hrr, hrun, hended, hW, hsame⟩ := X.leave (v := some (.double z)) (fun q => by rw [hrt, hr] at q; cases q) hlk
  refine ⟨_, _, ?_, hrun, hended, _, _, rfl, ⟨N, ?_⟩, ⟨_, rfl⟩, hW, hsame.mono hC hS⟩
  · exact retOut X hx (hrt.trans hr) rfl (Or.inr (Or.inr (Or.inl ⟨rfl, rfl, _, rfl⟩))) (hb hby hd) hrr
  · show Q _ T.heap
    rw [eT]; exact hq
end Go
end Jvm.Own
namespace Jvm.Pilot.@@N@@
open Jvm Jvm.ClassFile Sem Op Lib Jvm.Free Jvm.Stand Jvm.LawKit Jvm.RoadKit Bundle Jvm.Pilot.@@N@@.Jvm.D
open Jvm.Own (OHr OEnds OMet OAry)

theorem own_rem (x d : Int32) (hd : 0 < d.toInt) : 0 ≤ ((x &&& 2147483647) % d).toInt ∧ ((x &&& 2147483647) % d).toInt < d.toInt := by
  have h0 : 0 ≤ (x &&& 2147483647).toInt := (c_and x 2147483647 (by decide)).1
  have h1 := (c_iremV (x &&& 2147483647) d).1 h0 hd
  exact ⟨h1.1, h1.2.1⟩
theorem own_ne {x y : Int32} (h : x.toInt ≠ y.toInt) : ¬ x = y := fun e => h (by rw [e])
theorem own_eq {x y : Int32} (h : x.toInt = y.toInt) : x = y := Int32.toInt_inj.mp h
theorem own_lt {x y : Int32} : x < y ↔ x.toInt < y.toInt := Int32.lt_iff_toInt_lt


theorem own_cg (x y : Int64) : 0 < XT.cmpL x y ↔ y < x := lw_gt x y
theorem own_cl (x y : Int64) : XT.cmpL x y < 0 ↔ x < y := lw_lt x y
theorem own_ce (x y : Int64) : XT.cmpL x y = 0 ↔ x = y := lw_eq x y
theorem own_ltL {x y : Int64} : x < y ↔ x.toInt < y.toInt := Int64.lt_iff_toInt_lt
theorem own_eqL {x y : Int64} (h : x.toInt = y.toInt) : x = y := Int64.toInt_inj.mp h


theorem own_pow {n cc X Y U V k : Nat} (h : n * 2 ^ U = cc * 2 ^ V) (e : X + U = k + Y + V) : cc * 2 ^ X = n * 2 ^ k * 2 ^ Y := by
  apply Nat.eq_of_mul_eq_mul_right (Nat.two_pow_pos V)
  calc cc * 2 ^ X * 2 ^ V = cc * 2 ^ V * 2 ^ X := by ac_rfl
    _ = n * 2 ^ U * 2 ^ X := by rw [h]
    _ = n * 2 ^ (X + U) := by rw [Nat.pow_add]; ac_rfl
    _ = n * 2 ^ (k + Y + V) := by rw [e]
    _ = n * 2 ^ k * 2 ^ Y * 2 ^ V := by rw [Nat.pow_add, Nat.pow_add]; ac_rfl
theorem own_ofI {a : Int64} (h0 : 0 ≤ a.toInt) : FP.Core.ofInt a.toInt = .fin false a.toInt.toNat 0 := by
  unfold FP.Core.ofInt
  rw [decide_eq_false (by omega), show a.toInt.natAbs = a.toInt.toNat by omega]
theorem own_val {a : Int64} (h0 : 0 ≤ a.toInt) (h1 : a.toInt ≤ 9007199254740992) : ∃ (cc : Nat) (q : Int), FP.Core.val64 (FP.l2d a) = .fin false cc q ∧ a.toInt.toNat * 2 ^ (0 - q).toNat = cc * 2 ^ (q - 0).toNat := by
  obtain ⟨cc, q, hfit, hv⟩ := FP.Core.natFit FP.Core.good_b64 FP.Core.wide_b64 false (n := a.toInt.toNat) (by show _ ≤ 2 ^ 53; omega)
  refine ⟨cc, q, ?_, by rw [hv, Nat.mul_one]⟩
  rw [show FP.l2d a = FP.Core.l2d a from rfl, FP.Core.val64_l2d, own_ofI h0]
  exact FP.Core.roundRatio_exact FP.Core.good_b64 (by decide) hfit hv
theorem own_two : FP.Core.val64 (4611686018427387904 : UInt64) = .fin false (2 ^ 52) (-51) := by decide +kernel
theorem own_half : FP.Core.val64 (4602678819172646912 : UInt64) = .fin false (2 ^ 52) (-53) := by decide +kernel
theorem own_D1 {a : Int64} (h0 : 0 ≤ a.toInt) (h1 : a.toInt ≤ 9007199254740992) : FP.Core.val64 (FP.ddiv (FP.l2d a) 4611686018427387904) = FP.Core.roundRatio FP.Core.b64 false a.toInt.toNat 1 (-1) := by
  obtain ⟨cc, q, e, hv⟩ := own_val h0 h1
  rw [show FP.ddiv (FP.l2d a) 4611686018427387904 = FP.Core.ddiv (FP.l2d a) 4611686018427387904 from rfl, FP.Core.val64_ddiv, e, own_two]
  rw [FP.Core.quotient, if_neg (by decide)]
  refine FP.Core.roundRatio_congr (by decide) (by decide) ?_
  rw [Nat.mul_one]
  exact own_pow hv (by omega)
theorem own_D2 {a t : Int64} (h0 : 0 ≤ t.toInt) (h : a.toInt = 2 * t.toInt) : FP.Core.val64 (FP.l2d t) = FP.Core.roundRatio FP.Core.b64 false a.toInt.toNat 1 (-1) := by
  rw [show FP.l2d t = FP.Core.l2d t from rfl, FP.Core.val64_l2d, own_ofI h0]
  refine FP.Core.roundRatio_congr (by decide) (by decide) ?_
  show t.toInt.toNat * 1 * 2 ^ 1 = a.toInt.toNat * 1 * 2 ^ 0
  omega
theorem own_D3 {a t : Int64} (h0 : 0 ≤ t.toInt) (h1 : t.toInt ≤ 9007199254740992) (h : a.toInt = 2 * t.toInt + 1) : FP.Core.val64 (FP.dadd (FP.l2d t) 4602678819172646912) = FP.Core.roundRatio FP.Core.b64 false a.toInt.toNat 1 (-1) := by
  obtain ⟨cc, q, e, hv⟩ := own_val h0 h1
  rw [show FP.dadd (FP.l2d t) 4602678819172646912 = FP.Core.dadd (FP.l2d t) 4602678819172646912 from rfl, FP.Core.val64_dadd, e, own_half]
  generalize hm : min q (-53 : Int) = mn
  have m1 : mn ≤ q := by omega
  have m2 : mn ≤ -53 := by omega
  have eU : FP.Core.sumUnits false cc q false (2 ^ 52) (-53) mn = ((cc * 2 ^ (q - mn).toNat + 2 ^ 52 * 2 ^ (-53 - mn).toNat : Nat) : Int) := by
    unfold FP.Core.sumUnits FP.Core.signed FP.Core.inUnits
    simp
  show FP.Core.round FP.Core.b64 (.fin (FP.Core.sumSign false false (FP.Core.sumUnits false cc q false (2 ^ 52) (-53) (min q (-53)))) (FP.Core.sumUnits false cc q false (2 ^ 52) (-53) (min q (-53))).natAbs (min q (-53))) = _
  rw [hm, eU]
  generalize hA : cc * 2 ^ (q - mn).toNat + 2 ^ 52 * 2 ^ (-53 - mn).toNat = A
  have eS : FP.Core.sumSign false false ((A : Nat) : Int) = false := by
    unfold FP.Core.sumSign
    split
    · rfl
    · exact decide_eq_false (by omega)
  rw [eS, Int.natAbs_natCast]
  refine FP.Core.roundRatio_congr (by decide) (by decide) ?_
  rw [Nat.mul_one, Nat.mul_one, show (mn - -1).toNat = 0 by omega, Nat.pow_zero, Nat.mul_one, ← hA]
  have p1 : cc * 2 ^ (q - mn).toNat = t.toInt.toNat * 2 ^ 1 * 2 ^ (-1 - mn).toNat := own_pow hv (by omega)
  have p2 : 2 ^ 52 * 2 ^ (-53 - mn).toNat = 2 ^ (-1 - mn).toNat := by
    rw [← Nat.pow_add]
    congr 1
    omega
  have p3 : a.toInt.toNat = t.toInt.toNat * 2 ^ 1 + 1 := by omega
  rw [p1, p2, p3, Nat.add_mul, Nat.one_mul]
theorem own_nn (A B : Nat) (e : Int) : FP.Core.roundRatio FP.Core.b64 false A B e ≠ .nan := by
  unfold FP.Core.roundRatio
  split
  · simp
  · unfold FP.Core.roundAt FP.Core.settle FP.Core.bound
    split <;> split <;> simp
theorem own_even {a t : Int64} (h0 : 0 ≤ t.toInt) (h1 : a.toInt ≤ 9007199254740992) (h : a.toInt = 2 * t.toInt) : FP.l2d t = FP.ddiv (FP.l2d a) 4611686018427387904 :=
  FP.Core.val64_inj (by rw [own_D2 h0 h]; exact own_nn _ _ _) (by rw [own_D2 h0 h, own_D1 (by omega) h1])
theorem own_odd {a t : Int64} (h0 : 0 ≤ t.toInt) (h1 : a.toInt ≤ 9007199254740992) (h : a.toInt = 2 * t.toInt + 1) : FP.dadd (FP.l2d t) 4602678819172646912 = FP.ddiv (FP.l2d a) 4611686018427387904 :=
  FP.Core.val64_inj (by rw [own_D3 h0 (by omega) h]; exact own_nn _ _ _) (by rw [own_D3 h0 (by omega) h, own_D1 (by omega) h1])
theorem own_tn {x : Int64} (h : 0 ≤ x.toInt) : x.toInt = (x.toBitVec.toNat : Int) := by
  have e : x.toInt = x.toBitVec.toInt := rfl
  rw [e] at h ⊢
  rw [BitVec.toInt_eq_toNat_cond] at h ⊢
  have := x.toBitVec.isLt
  split
  · rfl
  · rename_i q
    rw [if_neg q] at h
    omega
theorem own_nt {x : Int64} (h : x.toBitVec.toNat < 9223372036854775808) : x.toInt = (x.toBitVec.toNat : Int) := by
  have e : x.toInt = x.toBitVec.toInt := rfl
  rw [e, BitVec.toInt_eq_toNat_cond, if_pos (by omega)]
theorem own_andL (x m : Int64) (hm : 0 ≤ m.toInt) : 0 ≤ (x &&& m).toInt ∧ (x &&& m).toInt ≤ m.toInt := by
  have e1 := own_tn hm
  have r := rng64 m
  have le : (x &&& m).toBitVec.toNat ≤ m.toBitVec.toNat := by
    rw [Int64.toBitVec_and, BitVec.toNat_and]
    exact Nat.and_le_right
  have e2 := own_nt (x := x &&& m) (by omega)
  omega
theorem own_and1 {x : Int64} (h : 0 ≤ x.toInt) : (x &&& 1).toInt = x.toInt % 2 := by
  have e1 := own_tn h
  have e : (x &&& 1).toBitVec.toNat = x.toBitVec.toNat % 2 := by
    rw [Int64.toBitVec_and, BitVec.toNat_and, show (1 : Int64).toBitVec.toNat = 1 from rfl]
    exact Nat.and_one_is_mod _
  have e2 := own_nt (x := x &&& 1) (by omega)
  omega
theorem own_shr (x : Int64) : (x >>> (((1 : Int32)).toInt64 &&& 63)).toInt = x.toInt / 2 := by
  have e : (x >>> (((1 : Int32)).toInt64 &&& 63)).toBitVec = x.toBitVec.sshiftRight 1 := by
    rw [Int64.toBitVec_shiftRight]
    rfl
  show (x >>> (((1 : Int32)).toInt64 &&& 63)).toBitVec.toInt = _
  rw [e, BitVec.toInt_sshiftRight, Int.shiftRight_eq_div_pow]
  rfl
theorem own_addL {x y : Int64} (hx : 0 ≤ x.toInt) (hy : 0 ≤ y.toInt) (h : x.toInt + y.toInt < 9223372036854775808) : (x + y).toInt = x.toInt + y.toInt := by
  have a := c_ladd x y
  have r := rng64 (x + y)
  omega

theorem d1_0 : decode prog_97_method_11_code 0 = .ok (.aload_n 0, 1) := by decide +kernel
theorem d1_1 : decode prog_97_method_11_code 1 = .ok (.arraylength, 1) := by decide +kernel
theorem d1_2 : decode prog_97_method_11_code 2 = .ok (.iconst 2, 1) := by decide +kernel
theorem d1_3 : decode prog_97_method_11_code 3 = .ok (.idiv, 1) := by decide +kernel
theorem d1_4 : decode prog_97_method_11_code 4 = .ok (.istore_n 1, 1) := by decide +kernel
theorem d1_5 : decode prog_97_method_11_code 5 = .ok (.aload_n 0, 1) := by decide +kernel
theorem d1_6 : decode prog_97_method_11_code 6 = .ok (.arraylength, 1) := by decide +kernel
theorem d1_7 : decode prog_97_method_11_code 7 = .ok (.iconst 2, 1) := by decide +kernel
theorem d1_8 : decode prog_97_method_11_code 8 = .ok (.irem, 1) := by decide +kernel
theorem d1_9 : decode prog_97_method_11_code 9 = .ok (.iconst 1, 1) := by decide +kernel
theorem d1_10 : decode prog_97_method_11_code 10 = .ok (.if_icmp .ne 10, 3) := by decide +kernel
theorem d1_13 : decode prog_97_method_11_code 13 = .ok (.aload_n 0, 1) := by decide +kernel
theorem d1_14 : decode prog_97_method_11_code 14 = .ok (.iload_n 1, 1) := by decide +kernel
theorem d1_15 : decode prog_97_method_11_code 15 = .ok (.laload, 1) := by decide +kernel
theorem d1_16 : decode prog_97_method_11_code 16 = .ok (.l2d, 1) := by decide +kernel
theorem d1_17 : decode prog_97_method_11_code 17 = .ok (.goto 17, 3) := by decide +kernel
theorem d1_20 : decode prog_97_method_11_code 20 = .ok (.aload_n 0, 1) := by decide +kernel
theorem d1_21 : decode prog_97_method_11_code 21 = .ok (.iload_n 1, 1) := by decide +kernel
theorem d1_22 : decode prog_97_method_11_code 22 = .ok (.iconst 1, 1) := by decide +kernel
theorem d1_23 : decode prog_97_method_11_code 23 = .ok (.isub, 1) := by decide +kernel
theorem d1_24 : decode prog_97_method_11_code 24 = .ok (.laload, 1) := by decide +kernel
theorem d1_25 : decode prog_97_method_11_code 25 = .ok (.aload_n 0, 1) := by decide +kernel
theorem d1_26 : decode prog_97_method_11_code 26 = .ok (.iload_n 1, 1) := by decide +kernel
theorem d1_27 : decode prog_97_method_11_code 27 = .ok (.laload, 1) := by decide +kernel
theorem d1_28 : decode prog_97_method_11_code 28 = .ok (.ladd, 1) := by decide +kernel
theorem d1_29 : decode prog_97_method_11_code 29 = .ok (.l2d, 1) := by decide +kernel
theorem d1_30 : decode prog_97_method_11_code 30 = .ok (.ldc2_w 315, 3) := by decide +kernel
theorem d1_33 : decode prog_97_method_11_code 33 = .ok (.ddiv, 1) := by decide +kernel
theorem d1_34 : decode prog_97_method_11_code 34 = .ok (.dreturn, 1) := by decide +kernel
theorem d2_0 : decode method_3_code 0 = .ok (.lload_n 0, 1) := by decide +kernel
theorem d2_1 : decode method_3_code 1 = .ok (.lload_n 2, 1) := by decide +kernel
theorem d2_2 : decode method_3_code 2 = .ok (.ladd, 1) := by decide +kernel
theorem d2_3 : decode method_3_code 3 = .ok (.lstore 4, 2) := by decide +kernel
theorem d2_5 : decode method_3_code 5 = .ok (.lload 4, 2) := by decide +kernel
theorem d2_7 : decode method_3_code 7 = .ok (.iconst 1, 1) := by decide +kernel
theorem d2_8 : decode method_3_code 8 = .ok (.lshr, 1) := by decide +kernel
theorem d2_9 : decode method_3_code 9 = .ok (.l2d, 1) := by decide +kernel
theorem d2_10 : decode method_3_code 10 = .ok (.dstore 6, 2) := by decide +kernel
theorem d2_12 : decode method_3_code 12 = .ok (.lload 4, 2) := by decide +kernel
theorem d2_14 : decode method_3_code 14 = .ok (.lconst 1, 1) := by decide +kernel
theorem d2_15 : decode method_3_code 15 = .ok (.land, 1) := by decide +kernel
theorem d2_16 : decode method_3_code 16 = .ok (.lconst 0, 1) := by decide +kernel
theorem d2_17 : decode method_3_code 17 = .ok (.lcmp, 1) := by decide +kernel
theorem d2_18 : decode method_3_code 18 = .ok (.ifCond .ne 8, 3) := by decide +kernel
theorem d2_21 : decode method_3_code 21 = .ok (.dload 6, 2) := by decide +kernel
theorem d2_23 : decode method_3_code 23 = .ok (.goto 9, 3) := by decide +kernel
theorem d2_26 : decode method_3_code 26 = .ok (.dload 6, 2) := by decide +kernel
theorem d2_28 : decode method_3_code 28 = .ok (.ldc2_w 24, 3) := by decide +kernel
theorem d2_31 : decode method_3_code 31 = .ok (.dadd, 1) := by decide +kernel
theorem d2_32 : decode method_3_code 32 = .ok (.dreturn, 1) := by decide +kernel

theorem own_nq (a : Int64) : Jvm.Free.Fl.NoNaN64 (FP.ddiv (FP.l2d a) (4611686018427387904 : UInt64)) := Jvm.Free.Fl.ddiv_out (Jvm.Free.Fl.l2d_fin a).noNaN (by unfold Jvm.Free.Fl.Fin64; decide) (by unfold Jvm.Free.Fl.Nz64; decide)
theorem own_ns (a : Int64) : Jvm.Free.Fl.NoNaN64 (FP.dadd (FP.l2d a) (4602678819172646912 : UInt64)) := Jvm.Free.Fl.dadd_out (Jvm.Free.Fl.l2d_fin a).noNaN (by unfold Jvm.Free.Fl.Fin64; decide)

theorem pn_rm_med1 : plainFor (⟨"com/example/firecrest/firecrest/cli/BenchCommand", "median", "([J)D"⟩ : MethodName) = true := by first | exact plainFor_of_name (by first | (simp [plainName, overriddenIn]; done) | decide +kernel) | decide +kernel
theorem ef_rm_med1 (b : Nat) (m : MethodId) : entryFrame m #[(.ref b)] 2 = mkF m 0 #[.val (.ref b), .unset] [] := by first | (simp [entryFrame, mkF, argsToLocals, Value.category]; done) | rfl
set_option maxRecDepth 65536 in
set_option maxHeartbeats 40000000 in
theorem rm_med1 (l : Launch) (Z : State) (a0 : Array Value) (hw : ∀ d ∈ tables_1, d.before a0 Z = true) (b : Nat) (h0 : Heap) (n0 : Nat) (Z0 : n0 ≤ h0.size) (y0 : Int64) (A : OAry Z h0 b .long [.long y0]) :
    OMet l Z n0 (⟨"com/example/firecrest/firecrest/cli/BenchCommand", "median", "([J)D"⟩ : MethodName) prog_97_method_11_code 2 (some .double) ({ frames := 0, cells := 0, slots := 0, locals := 0 } : Room) #[(.ref b)] h0 (fun v h => v = some (.double (FP.l2d y0)) ∧ h = h0) := by
  refine OMet.of pn_rm_med1 Z0 (ef_rm_med1 b) ?_
  intro p e s m below meth c T H
  refine Own.aload_n H (pc := 0) d1_0 rfl rfl ?_
  refine Own.arraylength H (pc := 1) (1) d1_1 A rfl ?_
  show OEnds _ _ _ _ _ _ _ _ _ (mkF _ 2 #[.val (.ref b), .unset] [(.int (1 : Int32))])
  refine Own.iconst H (pc := 2) (2) d1_2 rfl ?_
  refine Own.idiv_c H (pc := 3) (0) d1_3 (by decide) (by decide) ?_
  refine Own.istore_n H (pc := 4) #[.val (.ref b), .val (.int (0 : Int32))] d1_4 rfl ?_
  refine Own.aload_n H (pc := 5) d1_5 rfl rfl ?_
  refine Own.arraylength H (pc := 6) (1) d1_6 A rfl ?_
  show OEnds _ _ _ _ _ _ _ _ _ (mkF _ 7 #[.val (.ref b), .val (.int (0 : Int32))] [(.int (1 : Int32))])
  refine Own.iconst H (pc := 7) (2) d1_7 rfl ?_
  refine Own.irem_c H (pc := 8) (1) d1_8 (by decide) (by decide) ?_
  refine Own.iconst H (pc := 9) (1) d1_9 rfl ?_
  refine Own.icmp_ne H (pc := 10) 20 d1_10 (by decide) (by decide) (fun hc => absurd hc (by decide)) (fun _ => ?_)
  refine Own.aload_n H (pc := 13) d1_13 rfl rfl ?_
  refine Own.iload_n H (pc := 14) d1_14 rfl ?_
  refine Own.laload H (pc := 15) (v := y0) 0 d1_15 A rfl rfl ?_
  refine Own.l2d H (pc := 16) d1_16 ?_
  refine Own.goto H (pc := 17) 34 d1_17 (by decide) (by decide) ?_
  exact Own.ret_double H (pc := 34) d1_34 rfl (by decide) (by decide) (⟨rfl, rfl⟩)
theorem pn_rm_med2 : plainFor (⟨"com/example/firecrest/firecrest/cli/BenchCommand", "median", "([J)D"⟩ : MethodName) = true := by first | exact plainFor_of_name (by first | (simp [plainName, overriddenIn]; done) | decide +kernel) | decide +kernel
theorem ef_rm_med2 (b : Nat) (m : MethodId) : entryFrame m #[(.ref b)] 2 = mkF m 0 #[.val (.ref b), .unset] [] := by first | (simp [entryFrame, mkF, argsToLocals, Value.category]; done) | rfl
set_option maxRecDepth 65536 in
set_option maxHeartbeats 40000000 in
theorem rm_med2 (l : Launch) (Z : State) (a0 : Array Value) (hw : ∀ d ∈ tables_1, d.before a0 Z = true) (b : Nat) (h0 : Heap) (n0 : Nat) (Z0 : n0 ≤ h0.size) (y0 y1 : Int64) (A : OAry Z h0 b .long [.long y0, .long y1]) :
    OMet l Z n0 (⟨"com/example/firecrest/firecrest/cli/BenchCommand", "median", "([J)D"⟩ : MethodName) prog_97_method_11_code 2 (some .double) ({ frames := 0, cells := 0, slots := 0, locals := 0 } : Room) #[(.ref b)] h0 (fun v h => v = some (.double (FP.ddiv (FP.l2d (y0 + y1)) (4611686018427387904 : UInt64))) ∧ h = h0) := by
  refine OMet.of pn_rm_med2 Z0 (ef_rm_med2 b) ?_
  intro p e s m below meth c T H
  refine Own.aload_n H (pc := 0) d1_0 rfl rfl ?_
  refine Own.arraylength H (pc := 1) (2) d1_1 A rfl ?_
  show OEnds _ _ _ _ _ _ _ _ _ (mkF _ 2 #[.val (.ref b), .unset] [(.int (2 : Int32))])
  refine Own.iconst H (pc := 2) (2) d1_2 rfl ?_
  refine Own.idiv_c H (pc := 3) (1) d1_3 (by decide) (by decide) ?_
  refine Own.istore_n H (pc := 4) #[.val (.ref b), .val (.int (1 : Int32))] d1_4 rfl ?_
  refine Own.aload_n H (pc := 5) d1_5 rfl rfl ?_
  refine Own.arraylength H (pc := 6) (2) d1_6 A rfl ?_
  show OEnds _ _ _ _ _ _ _ _ _ (mkF _ 7 #[.val (.ref b), .val (.int (1 : Int32))] [(.int (2 : Int32))])
  refine Own.iconst H (pc := 7) (2) d1_7 rfl ?_
  refine Own.irem_c H (pc := 8) (0) d1_8 (by decide) (by decide) ?_
  refine Own.iconst H (pc := 9) (1) d1_9 rfl ?_
  refine Own.icmp_ne H (pc := 10) 20 d1_10 (by decide) (by decide) (fun _ => ?_) (fun hc => absurd hc (by decide))
  refine Own.aload_n H (pc := 20) d1_20 rfl rfl ?_
  refine Own.iload_n H (pc := 21) d1_21 rfl ?_
  refine Own.iconst H (pc := 22) (1) d1_22 rfl ?_
  refine Own.isub_c H (pc := 23) (0) d1_23 (by decide) ?_
  refine Own.laload H (pc := 24) (v := y0) 0 d1_24 A rfl rfl ?_
  refine Own.aload_n H (pc := 25) d1_25 rfl rfl ?_
  refine Own.iload_n H (pc := 26) d1_26 rfl ?_
  refine Own.laload H (pc := 27) (v := y1) 1 d1_27 A rfl rfl ?_
  refine Own.ladd H (pc := 28) d1_28 ?_
  refine Own.l2d H (pc := 29) d1_29 ?_
  refine Own.ldc2_d H (pc := 30) d1_30 (hw _ (List.mem_of_getElem? (i := 8) rfl)) ?_
  refine Own.ddiv H (pc := 33) d1_33 (own_nq _) ?_
  exact Own.ret_double H (pc := 34) d1_34 rfl (by decide) (by decide) (⟨rfl, rfl⟩)
theorem pn_rm_med3 : plainFor (⟨"com/example/firecrest/firecrest/cli/BenchCommand", "median", "([J)D"⟩ : MethodName) = true := by first | exact plainFor_of_name (by first | (simp [plainName, overriddenIn]; done) | decide +kernel) | decide +kernel
theorem ef_rm_med3 (b : Nat) (m : MethodId) : entryFrame m #[(.ref b)] 2 = mkF m 0 #[.val (.ref b), .unset] [] := by first | (simp [entryFrame, mkF, argsToLocals, Value.category]; done) | rfl
set_option maxRecDepth 65536 in
set_option maxHeartbeats 40000000 in
theorem rm_med3 (l : Launch) (Z : State) (a0 : Array Value) (hw : ∀ d ∈ tables_1, d.before a0 Z = true) (b : Nat) (h0 : Heap) (n0 : Nat) (Z0 : n0 ≤ h0.size) (y0 y1 y2 : Int64) (A : OAry Z h0 b .long [.long y0, .long y1, .long y2]) :
    OMet l Z n0 (⟨"com/example/firecrest/firecrest/cli/BenchCommand", "median", "([J)D"⟩ : MethodName) prog_97_method_11_code 2 (some .double) ({ frames := 0, cells := 0, slots := 0, locals := 0 } : Room) #[(.ref b)] h0 (fun v h => v = some (.double (FP.l2d y1)) ∧ h = h0) := by
  refine OMet.of pn_rm_med3 Z0 (ef_rm_med3 b) ?_
  intro p e s m below meth c T H
  refine Own.aload_n H (pc := 0) d1_0 rfl rfl ?_
  refine Own.arraylength H (pc := 1) (3) d1_1 A rfl ?_
  show OEnds _ _ _ _ _ _ _ _ _ (mkF _ 2 #[.val (.ref b), .unset] [(.int (3 : Int32))])
  refine Own.iconst H (pc := 2) (2) d1_2 rfl ?_
  refine Own.idiv_c H (pc := 3) (1) d1_3 (by decide) (by decide) ?_
  refine Own.istore_n H (pc := 4) #[.val (.ref b), .val (.int (1 : Int32))] d1_4 rfl ?_
  refine Own.aload_n H (pc := 5) d1_5 rfl rfl ?_
  refine Own.arraylength H (pc := 6) (3) d1_6 A rfl ?_
  show OEnds _ _ _ _ _ _ _ _ _ (mkF _ 7 #[.val (.ref b), .val (.int (1 : Int32))] [(.int (3 : Int32))])
  refine Own.iconst H (pc := 7) (2) d1_7 rfl ?_
  refine Own.irem_c H (pc := 8) (1) d1_8 (by decide) (by decide) ?_
  refine Own.iconst H (pc := 9) (1) d1_9 rfl ?_
  refine Own.icmp_ne H (pc := 10) 20 d1_10 (by decide) (by decide) (fun hc => absurd hc (by decide)) (fun _ => ?_)
  refine Own.aload_n H (pc := 13) d1_13 rfl rfl ?_
  refine Own.iload_n H (pc := 14) d1_14 rfl ?_
  refine Own.laload H (pc := 15) (v := y1) 1 d1_15 A rfl rfl ?_
  refine Own.l2d H (pc := 16) d1_16 ?_
  refine Own.goto H (pc := 17) 34 d1_17 (by decide) (by decide) ?_
  exact Own.ret_double H (pc := 34) d1_34 rfl (by decide) (by decide) (⟨rfl, rfl⟩)
theorem pn_rm_med4 : plainFor (⟨"com/example/firecrest/firecrest/cli/BenchCommand", "median", "([J)D"⟩ : MethodName) = true := by first | exact plainFor_of_name (by first | (simp [plainName, overriddenIn]; done) | decide +kernel) | decide +kernel
theorem ef_rm_med4 (b : Nat) (m : MethodId) : entryFrame m #[(.ref b)] 2 = mkF m 0 #[.val (.ref b), .unset] [] := by first | (simp [entryFrame, mkF, argsToLocals, Value.category]; done) | rfl
set_option maxRecDepth 65536 in
set_option maxHeartbeats 40000000 in
theorem rm_med4 (l : Launch) (Z : State) (a0 : Array Value) (hw : ∀ d ∈ tables_1, d.before a0 Z = true) (b : Nat) (h0 : Heap) (n0 : Nat) (Z0 : n0 ≤ h0.size) (y0 y1 y2 y3 : Int64) (A : OAry Z h0 b .long [.long y0, .long y1, .long y2, .long y3]) :
    OMet l Z n0 (⟨"com/example/firecrest/firecrest/cli/BenchCommand", "median", "([J)D"⟩ : MethodName) prog_97_method_11_code 2 (some .double) ({ frames := 0, cells := 0, slots := 0, locals := 0 } : Room) #[(.ref b)] h0 (fun v h => v = some (.double (FP.ddiv (FP.l2d (y1 + y2)) (4611686018427387904 : UInt64))) ∧ h = h0) := by
  refine OMet.of pn_rm_med4 Z0 (ef_rm_med4 b) ?_
  intro p e s m below meth c T H
  refine Own.aload_n H (pc := 0) d1_0 rfl rfl ?_
  refine Own.arraylength H (pc := 1) (4) d1_1 A rfl ?_
  show OEnds _ _ _ _ _ _ _ _ _ (mkF _ 2 #[.val (.ref b), .unset] [(.int (4 : Int32))])
  refine Own.iconst H (pc := 2) (2) d1_2 rfl ?_
  refine Own.idiv_c H (pc := 3) (2) d1_3 (by decide) (by decide) ?_
  refine Own.istore_n H (pc := 4) #[.val (.ref b), .val (.int (2 : Int32))] d1_4 rfl ?_
  refine Own.aload_n H (pc := 5) d1_5 rfl rfl ?_
  refine Own.arraylength H (pc := 6) (4) d1_6 A rfl ?_
  show OEnds _ _ _ _ _ _ _ _ _ (mkF _ 7 #[.val (.ref b), .val (.int (2 : Int32))] [(.int (4 : Int32))])
  refine Own.iconst H (pc := 7) (2) d1_7 rfl ?_
  refine Own.irem_c H (pc := 8) (0) d1_8 (by decide) (by decide) ?_
  refine Own.iconst H (pc := 9) (1) d1_9 rfl ?_
  refine Own.icmp_ne H (pc := 10) 20 d1_10 (by decide) (by decide) (fun _ => ?_) (fun hc => absurd hc (by decide))
  refine Own.aload_n H (pc := 20) d1_20 rfl rfl ?_
  refine Own.iload_n H (pc := 21) d1_21 rfl ?_
  refine Own.iconst H (pc := 22) (1) d1_22 rfl ?_
  refine Own.isub_c H (pc := 23) (1) d1_23 (by decide) ?_
  refine Own.laload H (pc := 24) (v := y1) 1 d1_24 A rfl rfl ?_
  refine Own.aload_n H (pc := 25) d1_25 rfl rfl ?_
  refine Own.iload_n H (pc := 26) d1_26 rfl ?_
  refine Own.laload H (pc := 27) (v := y2) 2 d1_27 A rfl rfl ?_
  refine Own.ladd H (pc := 28) d1_28 ?_
  refine Own.l2d H (pc := 29) d1_29 ?_
  refine Own.ldc2_d H (pc := 30) d1_30 (hw _ (List.mem_of_getElem? (i := 8) rfl)) ?_
  refine Own.ddiv H (pc := 33) d1_33 (own_nq _) ?_
  exact Own.ret_double H (pc := 34) d1_34 rfl (by decide) (by decide) (⟨rfl, rfl⟩)
theorem pn_rm_med5 : plainFor (⟨"com/example/firecrest/firecrest/cli/BenchCommand", "median", "([J)D"⟩ : MethodName) = true := by first | exact plainFor_of_name (by first | (simp [plainName, overriddenIn]; done) | decide +kernel) | decide +kernel
theorem ef_rm_med5 (b : Nat) (m : MethodId) : entryFrame m #[(.ref b)] 2 = mkF m 0 #[.val (.ref b), .unset] [] := by first | (simp [entryFrame, mkF, argsToLocals, Value.category]; done) | rfl
set_option maxRecDepth 65536 in
set_option maxHeartbeats 40000000 in
theorem rm_med5 (l : Launch) (Z : State) (a0 : Array Value) (hw : ∀ d ∈ tables_1, d.before a0 Z = true) (b : Nat) (h0 : Heap) (n0 : Nat) (Z0 : n0 ≤ h0.size) (y0 y1 y2 y3 y4 : Int64) (A : OAry Z h0 b .long [.long y0, .long y1, .long y2, .long y3, .long y4]) :
    OMet l Z n0 (⟨"com/example/firecrest/firecrest/cli/BenchCommand", "median", "([J)D"⟩ : MethodName) prog_97_method_11_code 2 (some .double) ({ frames := 0, cells := 0, slots := 0, locals := 0 } : Room) #[(.ref b)] h0 (fun v h => v = some (.double (FP.l2d y2)) ∧ h = h0) := by
  refine OMet.of pn_rm_med5 Z0 (ef_rm_med5 b) ?_
  intro p e s m below meth c T H
  refine Own.aload_n H (pc := 0) d1_0 rfl rfl ?_
  refine Own.arraylength H (pc := 1) (5) d1_1 A rfl ?_
  show OEnds _ _ _ _ _ _ _ _ _ (mkF _ 2 #[.val (.ref b), .unset] [(.int (5 : Int32))])
  refine Own.iconst H (pc := 2) (2) d1_2 rfl ?_
  refine Own.idiv_c H (pc := 3) (2) d1_3 (by decide) (by decide) ?_
  refine Own.istore_n H (pc := 4) #[.val (.ref b), .val (.int (2 : Int32))] d1_4 rfl ?_
  refine Own.aload_n H (pc := 5) d1_5 rfl rfl ?_
  refine Own.arraylength H (pc := 6) (5) d1_6 A rfl ?_
  show OEnds _ _ _ _ _ _ _ _ _ (mkF _ 7 #[.val (.ref b), .val (.int (2 : Int32))] [(.int (5 : Int32))])
  refine Own.iconst H (pc := 7) (2) d1_7 rfl ?_
  refine Own.irem_c H (pc := 8) (1) d1_8 (by decide) (by decide) ?_
  refine Own.iconst H (pc := 9) (1) d1_9 rfl ?_
  refine Own.icmp_ne H (pc := 10) 20 d1_10 (by decide) (by decide) (fun hc => absurd hc (by decide)) (fun _ => ?_)
  refine Own.aload_n H (pc := 13) d1_13 rfl rfl ?_
  refine Own.iload_n H (pc := 14) d1_14 rfl ?_
  refine Own.laload H (pc := 15) (v := y2) 2 d1_15 A rfl rfl ?_
  refine Own.l2d H (pc := 16) d1_16 ?_
  refine Own.goto H (pc := 17) 34 d1_17 (by decide) (by decide) ?_
  exact Own.ret_double H (pc := 34) d1_34 rfl (by decide) (by decide) (⟨rfl, rfl⟩)
theorem pn_rm_half : plainFor (⟨"com/example/firecrest/firecrest/cli/BenchCommandMedianPinLaw", "half", "(JJ)D"⟩ : MethodName) = true := by first | exact plainFor_of_name (by first | (simp [plainName, overriddenIn]; done) | decide +kernel) | decide +kernel
theorem ef_rm_half (x1 : Int64) (x2 : Int64) (m : MethodId) : entryFrame m #[(.long x1), (.long x2)] 8 = mkF m 0 #[.val (.long x1), .second, .val (.long x2), .second, .unset, .unset, .unset, .unset] [] := by first | (simp [entryFrame, mkF, argsToLocals, Value.category]; done) | rfl
set_option maxRecDepth 65536 in
set_option maxHeartbeats 40000000 in
theorem rm_half (l : Launch) (Z : State) (a0 : Array Value) (hw : ∀ d ∈ tables_1, d.before a0 Z = true) (x1 : Int64) (x2 : Int64) (h0 : Heap) (n0 : Nat) (Z0 : n0 ≤ h0.size) (h1 : 0 ≤ x1.toInt) (h2 : 0 ≤ x2.toInt) (h3 : x1.toInt + x2.toInt ≤ 9007199254740992) :
    OMet l Z n0 (⟨"com/example/firecrest/firecrest/cli/BenchCommandMedianPinLaw", "half", "(JJ)D"⟩ : MethodName) method_3_code 8 (some .double) ({ frames := 0, cells := 0, slots := 0, locals := 0 } : Room) #[(.long x1), (.long x2)] h0 (fun v h => v = some (.double (FP.ddiv (FP.l2d (x1 + x2)) (4611686018427387904 : UInt64))) ∧ h = h0) := by
  refine OMet.of pn_rm_half Z0 (ef_rm_half x1 x2) ?_
  intro p e s m below meth c T H
  refine Own.lload_n H (pc := 0) d2_0 rfl ?_
  refine Own.lload_n H (pc := 1) d2_1 rfl ?_
  refine Own.ladd H (pc := 2) d2_2 ?_
  refine Own.lstore H (pc := 3) #[.val (.long x1), .second, .val (.long x2), .second, .val (.long (x1 + x2)), .second, .unset, .unset] d2_3 rfl ?_
  refine Own.lload H (pc := 5) d2_5 rfl ?_
  refine Own.iconst H (pc := 7) (1) d2_7 rfl ?_
  refine Own.lshr H (pc := 8) d2_8 ?_
  refine Own.l2d H (pc := 9) d2_9 ?_
  refine Own.dstore H (pc := 10) #[.val (.long x1), .second, .val (.long x2), .second, .val (.long (x1 + x2)), .second, .val (.double (FP.l2d ((x1 + x2) >>> (((1 : Int32)).toInt64 &&& 63)))), .second] d2_10 rfl ?_
  refine Own.lload H (pc := 12) d2_12 rfl ?_
  refine Own.lconst H (pc := 14) (1) d2_14 rfl ?_
  refine Own.land H (pc := 15) d2_15 ?_
  refine Own.lconst H (pc := 16) (0) d2_16 rfl ?_
  refine Own.lcmp H (pc := 17) d2_17 ?_
  have e0 : (x1 + x2).toInt = x1.toInt + x2.toInt := own_addL h1 h2 (by omega)
  have e1 := own_and1 (x := (x1 + x2)) (by omega)
  have e2 := own_shr (x1 + x2)
  refine Own.if_ne H (pc := 18) 26 d2_18 (by decide) (by decide) (fun hb => ?_) (fun hb => ?_)
  · have e3 : ¬ (x1 + x2 &&& 1).toInt = 0 := fun q => hb ((own_ce _ _).mpr (own_eqL q))
    refine Own.dload H (pc := 26) d2_26 rfl ?_
    refine Own.ldc2_d H (pc := 28) d2_28 (hw _ (List.mem_of_getElem? (i := 13) rfl)) ?_
    refine Own.dadd H (pc := 31) d2_31 (own_ns _) ?_
    exact Own.ret_double H (pc := 32) d2_32 rfl (by decide) (by decide) (⟨by rw [own_odd (a := (x1 + x2)) (by omega) (by omega) (by omega)], rfl⟩)
  · have e3 : (x1 + x2 &&& 1).toInt = 0 := by rw [(own_ce _ _).mp hb]; rfl
    refine Own.dload H (pc := 21) d2_21 rfl ?_
    refine Own.goto H (pc := 23) 32 d2_23 (by decide) (by decide) ?_
    exact Own.ret_double H (pc := 32) d2_32 rfl (by decide) (by decide) (⟨by rw [own_even (a := (x1 + x2)) (by omega) (by omega) (by omega)], rfl⟩)
theorem pn_rm_law : plainFor x = true := by first | exact plainFor_of_name (by first | (simp [plainName, overriddenIn]; done) | decide +kernel) | decide +kernel
theorem ef_rm_law (p0 : Int32) (p1 : Int64) (p2 : Int64) (p3 : Int64) (p4 : Int64) (p5 : Int64) (m : MethodId) : entryFrame m #[(.int p0), (.long p1), (.long p2), (.long p3), (.long p4), (.long p5)] maxLocals = mkF m 0 #[.val (.int p0), .val (.long p1), .second, .val (.long p2), .second, .val (.long p3), .second, .val (.long p4), .second, .val (.long p5), .second, .unset, .unset, .unset, .unset, .unset, .unset, .unset, .unset, .unset, .unset, .unset, .unset, .unset, .unset, .unset, .unset] [] := by first | (simp [entryFrame, mkF, argsToLocals, Value.category, maxLocals]; done) | rfl
set_option maxRecDepth 65536 in
set_option maxHeartbeats 40000000 in
theorem rm_law (l : Launch) (Z : State) (a0 : Array Value) (hw : ∀ d ∈ tables_1, d.before a0 Z = true) (p0 : Int32) (p1 : Int64) (p2 : Int64) (p3 : Int64) (p4 : Int64) (p5 : Int64) (h0 : Heap) (n0 : Nat) (Z0 : n0 ≤ h0.size)  :
    OMet l Z n0 x code maxLocals ret room_1 #[(.int p0), (.long p1), (.long p2), (.long p3), (.long p4), (.long p5)] h0 (fun v h => v = some (.int 1)) := by
  refine OMet.of pn_rm_law Z0 (ef_rm_law p0 p1 p2 p3 p4 p5) ?_
  intro p e s m below meth c T H
  refine Own.iconst H (pc := 0) (1) at_0 rfl ?_
  refine Own.iload_n H (pc := 1) at_1 rfl ?_
  refine Own.ldc H (pc := 2) at_2 (hw _ (List.mem_of_getElem? (i := 0) rfl)) ?_
  refine Own.iand H (pc := 4) at_4 ?_
  refine Own.iconst H (pc := 5) (5) at_5 rfl ?_
  refine Own.irem H (pc := 6) at_6 (by decide) ?_
  refine Own.iadd H (pc := 7) at_7 ?_
  generalize ez : ((1 : Int32) + ((p0 &&& (2147483647 : Int32)) % (5 : Int32))) = z
  have hz : z = 1 ∨ z = 2 ∨ z = 3 ∨ z = 4 ∨ z = 5 := by
    have h1 := own_rem p0 5 (by decide)
    have h2 := c_iadd 1 ((p0 &&& 2147483647) % 5)
    have h3 := rng32 ((1 : Int32) + ((p0 &&& 2147483647) % 5))
    rw [ez] at h2 h3
    have o : (1 : Int32).toInt = 1 := rfl
    have o5 : (5 : Int32).toInt = 5 := rfl
    have hh : z.toInt = 1 ∨ z.toInt = 2 ∨ z.toInt = 3 ∨ z.toInt = 4 ∨ z.toInt = 5 := by omega
    rcases hh with q | q | q | q | q
    · exact Or.inl (own_eq q)
    · exact Or.inr (Or.inl (own_eq q))
    · exact Or.inr (Or.inr (Or.inl (own_eq q)))
    · exact Or.inr (Or.inr (Or.inr (Or.inl (own_eq q))))
    · exact Or.inr (Or.inr (Or.inr (Or.inr (own_eq q))))
  clear ez
  refine Own.istore H (pc := 8) #[.val (.int p0), .val (.long p1), .second, .val (.long p2), .second, .val (.long p3), .second, .val (.long p4), .second, .val (.long p5), .second, .val (.int z), .unset, .unset, .unset, .unset, .unset, .unset, .unset, .unset, .unset, .unset, .unset, .unset, .unset, .unset, .unset] at_8 rfl ?_
  refine Own.lload_n H (pc := 10) at_10 rfl ?_
  refine Own.ldc2_w H (pc := 11) at_11 (hw _ (List.mem_of_getElem? (i := 1) rfl)) ?_
  refine Own.land H (pc := 14) at_14 ?_
  generalize ex0 : (p1 &&& (562949953421311 : Int64)) = x0
  have b0 : 0 ≤ x0.toInt ∧ x0.toInt ≤ 562949953421311 := by rw [← ex0]; exact own_andL p1 562949953421311 (by decide)
  clear ex0
  refine Own.lstore H (pc := 15) #[.val (.int p0), .val (.long p1), .second, .val (.long p2), .second, .val (.long p3), .second, .val (.long p4), .second, .val (.long p5), .second, .val (.int z), .val (.long x0), .second, .unset, .unset, .unset, .unset, .unset, .unset, .unset, .unset, .unset, .unset, .unset, .unset, .unset] at_15 rfl ?_
  refine Own.lload H (pc := 17) at_17 rfl ?_
  refine Own.lload_n H (pc := 19) at_19 rfl ?_
  refine Own.ldc2_w H (pc := 20) at_20 (hw _ (List.mem_of_getElem? (i := 2) rfl)) ?_
  refine Own.land H (pc := 23) at_23 ?_
  refine Own.ladd H (pc := 24) at_24 ?_
  generalize ex1 : (x0 + (p2 &&& (140737488355327 : Int64))) = x1
  have b1 : 0 ≤ x1.toInt ∧ x1.toInt ≤ 703687441776638 := by
    have q := own_andL p2 140737488355327 (by decide)
    have o : (140737488355327 : Int64).toInt = 140737488355327 := rfl
    rw [← ex1, own_addL b0.1 q.1 (by omega)]
    omega
  clear ex1
  refine Own.lstore H (pc := 25) #[.val (.int p0), .val (.long p1), .second, .val (.long p2), .second, .val (.long p3), .second, .val (.long p4), .second, .val (.long p5), .second, .val (.int z), .val (.long x0), .second, .val (.long x1), .second, .unset, .unset, .unset, .unset, .unset, .unset, .unset, .unset, .unset, .unset, .unset] at_25 rfl ?_
  refine Own.lload H (pc := 27) at_27 rfl ?_
  refine Own.lload H (pc := 29) at_29 rfl ?_
  refine Own.ldc2_w H (pc := 31) at_31 (hw _ (List.mem_of_getElem? (i := 2) rfl)) ?_
  refine Own.land H (pc := 34) at_34 ?_
  refine Own.ladd H (pc := 35) at_35 ?_
  generalize ex2 : (x1 + (p3 &&& (140737488355327 : Int64))) = x2
  have b2 : 0 ≤ x2.toInt ∧ x2.toInt ≤ 844424930131965 := by
    have q := own_andL p3 140737488355327 (by decide)
    have o : (140737488355327 : Int64).toInt = 140737488355327 := rfl
    rw [← ex2, own_addL b1.1 q.1 (by omega)]
    omega
  clear ex2
  refine Own.lstore H (pc := 36) #[.val (.int p0), .val (.long p1), .second, .val (.long p2), .second, .val (.long p3), .second, .val (.long p4), .second, .val (.long p5), .second, .val (.int z), .val (.long x0), .second, .val (.long x1), .second, .val (.long x2), .second, .unset, .unset, .unset, .unset, .unset, .unset, .unset, .unset, .unset] at_36 rfl ?_
  refine Own.lload H (pc := 38) at_38 rfl ?_
  refine Own.lload H (pc := 40) at_40 rfl ?_
  refine Own.ldc2_w H (pc := 42) at_42 (hw _ (List.mem_of_getElem? (i := 2) rfl)) ?_
  refine Own.land H (pc := 45) at_45 ?_
  refine Own.ladd H (pc := 46) at_46 ?_
  generalize ex3 : (x2 + (p4 &&& (140737488355327 : Int64))) = x3
  have b3 : 0 ≤ x3.toInt ∧ x3.toInt ≤ 985162418487292 := by
    have q := own_andL p4 140737488355327 (by decide)
    have o : (140737488355327 : Int64).toInt = 140737488355327 := rfl
    rw [← ex3, own_addL b2.1 q.1 (by omega)]
    omega
  clear ex3
  refine Own.lstore H (pc := 47) #[.val (.int p0), .val (.long p1), .second, .val (.long p2), .second, .val (.long p3), .second, .val (.long p4), .second, .val (.long p5), .second, .val (.int z), .val (.long x0), .second, .val (.long x1), .second, .val (.long x2), .second, .val (.long x3), .second, .unset, .unset, .unset, .unset, .unset, .unset, .unset] at_47 rfl ?_
  refine Own.lload H (pc := 49) at_49 rfl ?_
  refine Own.lload H (pc := 51) at_51 rfl ?_
  refine Own.ldc2_w H (pc := 53) at_53 (hw _ (List.mem_of_getElem? (i := 2) rfl)) ?_
  refine Own.land H (pc := 56) at_56 ?_
  refine Own.ladd H (pc := 57) at_57 ?_
  generalize ex4 : (x3 + (p5 &&& (140737488355327 : Int64))) = x4
  have b4 : 0 ≤ x4.toInt ∧ x4.toInt ≤ 1125899906842619 := by
    have q := own_andL p5 140737488355327 (by decide)
    have o : (140737488355327 : Int64).toInt = 140737488355327 := rfl
    rw [← ex4, own_addL b3.1 q.1 (by omega)]
    omega
  clear ex4
  refine Own.lstore H (pc := 58) #[.val (.int p0), .val (.long p1), .second, .val (.long p2), .second, .val (.long p3), .second, .val (.long p4), .second, .val (.long p5), .second, .val (.int z), .val (.long x0), .second, .val (.long x1), .second, .val (.long x2), .second, .val (.long x3), .second, .val (.long x4), .second, .unset, .unset, .unset, .unset, .unset] at_58 rfl ?_
  rcases hz with rfl | rfl | rfl | rfl | rfl
  · refine Own.iload H (pc := 60) at_60 rfl ?_
    refine Own.newarray H (pc := 62) (i := 1) 1 at_62 (hw _ (List.mem_of_getElem? (i := 3) rfl)) rfl (by decide) (by decide) (by decide) (by decide) (by decide) (fun T_2 h_3 b eq_b ge_b H_1 Ext_b Ary_b => ?_)
    have A_4 : OAry Z h_3 b .long [(.long (0 : Int64))] := Ary_b
    refine Own.astore H_1 (pc := 64) #[.val (.int p0), .val (.long p1), .second, .val (.long p2), .second, .val (.long p3), .second, .val (.long p4), .second, .val (.long p5), .second, .val (.int (1 : Int32)), .val (.long x0), .second, .val (.long x1), .second, .val (.long x2), .second, .val (.long x3), .second, .val (.long x4), .second, .val (.ref b), .unset, .unset, .unset, .unset] at_64 rfl rfl ?_
    refine Own.aload H_1 (pc := 66) at_66 rfl rfl ?_
    refine Own.iconst H_1 (pc := 68) (0) at_68 rfl ?_
    refine Own.lload H_1 (pc := 69) at_69 rfl ?_
    refine Own.lastore H_1 (pc := 71) 0 at_71 A_4 ge_b rfl (by simp) (fun T_6 h_7 H_5 W_8 A_9 => ?_)
    have A_10 : OAry Z h_7 b .long [(.long x0)] := A_9
    refine Own.iload H_5 (pc := 72) at_72 rfl ?_
    refine Own.iconst H_5 (pc := 74) (1) at_74 rfl ?_
    refine Own.icmp_le H_5 (pc := 75) 84 at_75 (by decide) (by decide) (fun _ => ?_) (fun hc => absurd hc (by decide))
    refine Own.iload H_5 (pc := 84) at_84 rfl ?_
    refine Own.iconst H_5 (pc := 86) (2) at_86 rfl ?_
    refine Own.icmp_le H_5 (pc := 87) 96 at_87 (by decide) (by decide) (fun _ => ?_) (fun hc => absurd hc (by decide))
    refine Own.iload H_5 (pc := 96) at_96 rfl ?_
    refine Own.iconst H_5 (pc := 98) (3) at_98 rfl ?_
    refine Own.icmp_le H_5 (pc := 99) 108 at_99 (by decide) (by decide) (fun _ => ?_) (fun hc => absurd hc (by decide))
    refine Own.iload H_5 (pc := 108) at_108 rfl ?_
    refine Own.iconst H_5 (pc := 110) (4) at_110 rfl ?_
    refine Own.icmp_le H_5 (pc := 111) 120 at_111 (by decide) (by decide) (fun _ => ?_) (fun hc => absurd hc (by decide))
    refine Own.aload H_5 (pc := 120) at_120 rfl rfl ?_
    refine Own.callS H_5 (pc := 122) (y := (⟨"com/example/firecrest/firecrest/cli/BenchCommand", "median", "([J)D"⟩ : MethodName)) [(.ref b)] [] at_122 (hw _ (List.mem_of_getElem? (i := 4) rfl)) (hw _ (List.mem_of_getElem? (i := 5) rfl)) (hw _ (List.mem_of_getElem? (i := 6) rfl)) (hw _ (List.mem_of_getElem? (i := 7) rfl)) (by decide) (rm_med1 l Z a0 hw b _ n0 H_5.z0 x0 A_10) (r := (some .double)) (ps := [(.array .long)]) (by decide) rfl rfl 0 rfl (by decide) (by decide) (by decide) (by decide) rfl (fun T_12 v_14 h_13 H_11 z_15 q_16 => ?_)
    obtain ⟨rfl, rfl⟩ := q_16
    show OEnds _ _ _ _ _ _ _ _ _ (mkF _ 125 #[.val (.int p0), .val (.long p1), .second, .val (.long p2), .second, .val (.long p3), .second, .val (.long p4), .second, .val (.long p5), .second, .val (.int (1 : Int32)), .val (.long x0), .second, .val (.long x1), .second, .val (.long x2), .second, .val (.long x3), .second, .val (.long x4), .second, .val (.ref b), .unset, .unset, .unset, .unset] [(.double (FP.l2d x0))])
    refine Own.dstore H_11 (pc := 125) #[.val (.int p0), .val (.long p1), .second, .val (.long p2), .second, .val (.long p3), .second, .val (.long p4), .second, .val (.long p5), .second, .val (.int (1 : Int32)), .val (.long x0), .second, .val (.long x1), .second, .val (.long x2), .second, .val (.long x3), .second, .val (.long x4), .second, .val (.ref b), .val (.double (FP.l2d x0)), .second, .unset, .unset] at_125 rfl ?_
    refine Own.iload H_11 (pc := 127) at_127 rfl ?_
    refine Own.iconst H_11 (pc := 129) (1) at_129 rfl ?_
    refine Own.icmp_ne H_11 (pc := 130) 141 at_130 (by decide) (by decide) (fun hc => absurd hc (by decide)) (fun _ => ?_)
    refine Own.lload H_11 (pc := 133) at_133 rfl ?_
    refine Own.l2d H_11 (pc := 135) at_135 ?_
    refine Own.dstore H_11 (pc := 136) #[.val (.int p0), .val (.long p1), .second, .val (.long p2), .second, .val (.long p3), .second, .val (.long p4), .second, .val (.long p5), .second, .val (.int (1 : Int32)), .val (.long x0), .second, .val (.long x1), .second, .val (.long x2), .second, .val (.long x3), .second, .val (.long x4), .second, .val (.ref b), .val (.double (FP.l2d x0)), .second, .val (.double (FP.l2d x0)), .second] at_136 rfl ?_
    refine Own.goto H_11 (pc := 138) 196 at_138 (by decide) (by decide) ?_
    refine Own.dload H_11 (pc := 196) at_196 rfl ?_
    refine Own.dload H_11 (pc := 198) at_198 rfl ?_
    refine Own.dcmp H_11 (pc := 200) (0) at_200 (dcmpV_self (Jvm.Free.Fl.l2d_fin _).noNaN _) ?_
    refine Own.if_ne H_11 (pc := 201) 208 at_201 (by decide) (by decide) (fun hc => absurd hc (by decide)) (fun _ => ?_)
    refine Own.iconst H_11 (pc := 204) (1) at_204 rfl ?_
    refine Own.goto H_11 (pc := 205) 209 at_205 (by decide) (by decide) ?_
    exact Own.ret_nar H_11 (pc := 209) (1) at_209 rfl (by simp) (by decide) (by decide) (by decide) (rfl)
  · refine Own.iload H (pc := 60) at_60 rfl ?_
    refine Own.newarray H (pc := 62) (i := 2) 2 at_62 (hw _ (List.mem_of_getElem? (i := 3) rfl)) rfl (by decide) (by decide) (by decide) (by decide) (by decide) (fun T_18 h_19 b eq_b ge_b H_17 Ext_b Ary_b => ?_)
    have A_20 : OAry Z h_19 b .long [(.long (0 : Int64)), (.long (0 : Int64))] := Ary_b
    refine Own.astore H_17 (pc := 64) #[.val (.int p0), .val (.long p1), .second, .val (.long p2), .second, .val (.long p3), .second, .val (.long p4), .second, .val (.long p5), .second, .val (.int (2 : Int32)), .val (.long x0), .second, .val (.long x1), .second, .val (.long x2), .second, .val (.long x3), .second, .val (.long x4), .second, .val (.ref b), .unset, .unset, .unset, .unset] at_64 rfl rfl ?_
    refine Own.aload H_17 (pc := 66) at_66 rfl rfl ?_
    refine Own.iconst H_17 (pc := 68) (0) at_68 rfl ?_
    refine Own.lload H_17 (pc := 69) at_69 rfl ?_
    refine Own.lastore H_17 (pc := 71) 0 at_71 A_20 ge_b rfl (by simp) (fun T_22 h_23 H_21 W_24 A_25 => ?_)
    have A_26 : OAry Z h_23 b .long [(.long x0), (.long (0 : Int64))] := A_25
    refine Own.iload H_21 (pc := 72) at_72 rfl ?_
    refine Own.iconst H_21 (pc := 74) (1) at_74 rfl ?_
    refine Own.icmp_le H_21 (pc := 75) 84 at_75 (by decide) (by decide) (fun hc => absurd hc (by decide)) (fun _ => ?_)
    refine Own.aload H_21 (pc := 78) at_78 rfl rfl ?_
    refine Own.iconst H_21 (pc := 80) (1) at_80 rfl ?_
    refine Own.lload H_21 (pc := 81) at_81 rfl ?_
    refine Own.lastore H_21 (pc := 83) 1 at_83 A_26 ge_b rfl (by simp) (fun T_28 h_29 H_27 W_30 A_31 => ?_)
    have A_32 : OAry Z h_29 b .long [(.long x0), (.long x1)] := A_31
    refine Own.iload H_27 (pc := 84) at_84 rfl ?_
    refine Own.iconst H_27 (pc := 86) (2) at_86 rfl ?_
    refine Own.icmp_le H_27 (pc := 87) 96 at_87 (by decide) (by decide) (fun _ => ?_) (fun hc => absurd hc (by decide))
    refine Own.iload H_27 (pc := 96) at_96 rfl ?_
    refine Own.iconst H_27 (pc := 98) (3) at_98 rfl ?_
    refine Own.icmp_le H_27 (pc := 99) 108 at_99 (by decide) (by decide) (fun _ => ?_) (fun hc => absurd hc (by decide))
    refine Own.iload H_27 (pc := 108) at_108 rfl ?_
    refine Own.iconst H_27 (pc := 110) (4) at_110 rfl ?_
    refine Own.icmp_le H_27 (pc := 111) 120 at_111 (by decide) (by decide) (fun _ => ?_) (fun hc => absurd hc (by decide))
    refine Own.aload H_27 (pc := 120) at_120 rfl rfl ?_
    refine Own.callS H_27 (pc := 122) (y := (⟨"com/example/firecrest/firecrest/cli/BenchCommand", "median", "([J)D"⟩ : MethodName)) [(.ref b)] [] at_122 (hw _ (List.mem_of_getElem? (i := 4) rfl)) (hw _ (List.mem_of_getElem? (i := 5) rfl)) (hw _ (List.mem_of_getElem? (i := 6) rfl)) (hw _ (List.mem_of_getElem? (i := 7) rfl)) (by decide) (rm_med2 l Z a0 hw b _ n0 H_27.z0 x0 x1 A_32) (r := (some .double)) (ps := [(.array .long)]) (by decide) rfl rfl 0 rfl (by decide) (by decide) (by decide) (by decide) rfl (fun T_34 v_36 h_35 H_33 z_37 q_38 => ?_)
    obtain ⟨rfl, rfl⟩ := q_38
    show OEnds _ _ _ _ _ _ _ _ _ (mkF _ 125 #[.val (.int p0), .val (.long p1), .second, .val (.long p2), .second, .val (.long p3), .second, .val (.long p4), .second, .val (.long p5), .second, .val (.int (2 : Int32)), .val (.long x0), .second, .val (.long x1), .second, .val (.long x2), .second, .val (.long x3), .second, .val (.long x4), .second, .val (.ref b), .unset, .unset, .unset, .unset] [(.double (FP.ddiv (FP.l2d (x0 + x1)) (4611686018427387904 : UInt64)))])
    refine Own.dstore H_33 (pc := 125) #[.val (.int p0), .val (.long p1), .second, .val (.long p2), .second, .val (.long p3), .second, .val (.long p4), .second, .val (.long p5), .second, .val (.int (2 : Int32)), .val (.long x0), .second, .val (.long x1), .second, .val (.long x2), .second, .val (.long x3), .second, .val (.long x4), .second, .val (.ref b), .val (.double (FP.ddiv (FP.l2d (x0 + x1)) (4611686018427387904 : UInt64))), .second, .unset, .unset] at_125 rfl ?_
    refine Own.iload H_33 (pc := 127) at_127 rfl ?_
    refine Own.iconst H_33 (pc := 129) (1) at_129 rfl ?_
    refine Own.icmp_ne H_33 (pc := 130) 141 at_130 (by decide) (by decide) (fun _ => ?_) (fun hc => absurd hc (by decide))
    refine Own.iload H_33 (pc := 141) at_141 rfl ?_
    refine Own.iconst H_33 (pc := 143) (2) at_143 rfl ?_
    refine Own.icmp_ne H_33 (pc := 144) 159 at_144 (by decide) (by decide) (fun hc => absurd hc (by decide)) (fun _ => ?_)
    refine Own.lload H_33 (pc := 147) at_147 rfl ?_
    refine Own.lload H_33 (pc := 149) at_149 rfl ?_
    refine Own.callS H_33 (pc := 151) (y := (⟨"com/example/firecrest/firecrest/cli/BenchCommandMedianPinLaw", "half", "(JJ)D"⟩ : MethodName)) [(.long x0), (.long x1)] [] at_151 (hw _ (List.mem_of_getElem? (i := 9) rfl)) (hw _ (List.mem_of_getElem? (i := 10) rfl)) (hw _ (List.mem_of_getElem? (i := 11) rfl)) (hw _ (List.mem_of_getElem? (i := 12) rfl)) (by decide) (rm_half l Z a0 hw x0 x1 _ n0 H_33.z0 (by omega) (by omega) (by omega)) (r := (some .double)) (ps := [.long, .long]) (by decide) rfl rfl 0 rfl (by decide) (by decide) (by decide) (by decide) rfl (fun T_40 v_42 h_41 H_39 z_43 q_44 => ?_)
    obtain ⟨rfl, rfl⟩ := q_44
    show OEnds _ _ _ _ _ _ _ _ _ (mkF _ 154 #[.val (.int p0), .val (.long p1), .second, .val (.long p2), .second, .val (.long p3), .second, .val (.long p4), .second, .val (.long p5), .second, .val (.int (2 : Int32)), .val (.long x0), .second, .val (.long x1), .second, .val (.long x2), .second, .val (.long x3), .second, .val (.long x4), .second, .val (.ref b), .val (.double (FP.ddiv (FP.l2d (x0 + x1)) (4611686018427387904 : UInt64))), .second, .unset, .unset] [(.double (FP.ddiv (FP.l2d (x0 + x1)) (4611686018427387904 : UInt64)))])
    refine Own.dstore H_39 (pc := 154) #[.val (.int p0), .val (.long p1), .second, .val (.long p2), .second, .val (.long p3), .second, .val (.long p4), .second, .val (.long p5), .second, .val (.int (2 : Int32)), .val (.long x0), .second, .val (.long x1), .second, .val (.long x2), .second, .val (.long x3), .second, .val (.long x4), .second, .val (.ref b), .val (.double (FP.ddiv (FP.l2d (x0 + x1)) (4611686018427387904 : UInt64))), .second, .val (.double (FP.ddiv (FP.l2d (x0 + x1)) (4611686018427387904 : UInt64))), .second] at_154 rfl ?_
    refine Own.goto H_39 (pc := 156) 196 at_156 (by decide) (by decide) ?_
    refine Own.dload H_39 (pc := 196) at_196 rfl ?_
    refine Own.dload H_39 (pc := 198) at_198 rfl ?_
    refine Own.dcmp H_39 (pc := 200) (0) at_200 (dcmpV_self (own_nq _) _) ?_
    refine Own.if_ne H_39 (pc := 201) 208 at_201 (by decide) (by decide) (fun hc => absurd hc (by decide)) (fun _ => ?_)
    refine Own.iconst H_39 (pc := 204) (1) at_204 rfl ?_
    refine Own.goto H_39 (pc := 205) 209 at_205 (by decide) (by decide) ?_
    exact Own.ret_nar H_39 (pc := 209) (1) at_209 rfl (by simp) (by decide) (by decide) (by decide) (rfl)
  · refine Own.iload H (pc := 60) at_60 rfl ?_
    refine Own.newarray H (pc := 62) (i := 3) 3 at_62 (hw _ (List.mem_of_getElem? (i := 3) rfl)) rfl (by decide) (by decide) (by decide) (by decide) (by decide) (fun T_46 h_47 b eq_b ge_b H_45 Ext_b Ary_b => ?_)
    have A_48 : OAry Z h_47 b .long [(.long (0 : Int64)), (.long (0 : Int64)), (.long (0 : Int64))] := Ary_b
    refine Own.astore H_45 (pc := 64) #[.val (.int p0), .val (.long p1), .second, .val (.long p2), .second, .val (.long p3), .second, .val (.long p4), .second, .val (.long p5), .second, .val (.int (3 : Int32)), .val (.long x0), .second, .val (.long x1), .second, .val (.long x2), .second, .val (.long x3), .second, .val (.long x4), .second, .val (.ref b), .unset, .unset, .unset, .unset] at_64 rfl rfl ?_
    refine Own.aload H_45 (pc := 66) at_66 rfl rfl ?_
    refine Own.iconst H_45 (pc := 68) (0) at_68 rfl ?_
    refine Own.lload H_45 (pc := 69) at_69 rfl ?_
    refine Own.lastore H_45 (pc := 71) 0 at_71 A_48 ge_b rfl (by simp) (fun T_50 h_51 H_49 W_52 A_53 => ?_)
    have A_54 : OAry Z h_51 b .long [(.long x0), (.long (0 : Int64)), (.long (0 : Int64))] := A_53
    refine Own.iload H_49 (pc := 72) at_72 rfl ?_
    refine Own.iconst H_49 (pc := 74) (1) at_74 rfl ?_
    refine Own.icmp_le H_49 (pc := 75) 84 at_75 (by decide) (by decide) (fun hc => absurd hc (by decide)) (fun _ => ?_)
    refine Own.aload H_49 (pc := 78) at_78 rfl rfl ?_
    refine Own.iconst H_49 (pc := 80) (1) at_80 rfl ?_
    refine Own.lload H_49 (pc := 81) at_81 rfl ?_
    refine Own.lastore H_49 (pc := 83) 1 at_83 A_54 ge_b rfl (by simp) (fun T_56 h_57 H_55 W_58 A_59 => ?_)
    have A_60 : OAry Z h_57 b .long [(.long x0), (.long x1), (.long (0 : Int64))] := A_59
    refine Own.iload H_55 (pc := 84) at_84 rfl ?_
    refine Own.iconst H_55 (pc := 86) (2) at_86 rfl ?_
    refine Own.icmp_le H_55 (pc := 87) 96 at_87 (by decide) (by decide) (fun hc => absurd hc (by decide)) (fun _ => ?_)
    refine Own.aload H_55 (pc := 90) at_90 rfl rfl ?_
    refine Own.iconst H_55 (pc := 92) (2) at_92 rfl ?_
    refine Own.lload H_55 (pc := 93) at_93 rfl ?_
    refine Own.lastore H_55 (pc := 95) 2 at_95 A_60 ge_b rfl (by simp) (fun T_62 h_63 H_61 W_64 A_65 => ?_)
    have A_66 : OAry Z h_63 b .long [(.long x0), (.long x1), (.long x2)] := A_65
    refine Own.iload H_61 (pc := 96) at_96 rfl ?_
    refine Own.iconst H_61 (pc := 98) (3) at_98 rfl ?_
    refine Own.icmp_le H_61 (pc := 99) 108 at_99 (by decide) (by decide) (fun _ => ?_) (fun hc => absurd hc (by decide))
    refine Own.iload H_61 (pc := 108) at_108 rfl ?_
    refine Own.iconst H_61 (pc := 110) (4) at_110 rfl ?_
    refine Own.icmp_le H_61 (pc := 111) 120 at_111 (by decide) (by decide) (fun _ => ?_) (fun hc => absurd hc (by decide))
    refine Own.aload H_61 (pc := 120) at_120 rfl rfl ?_
    refine Own.callS H_61 (pc := 122) (y := (⟨"com/example/firecrest/firecrest/cli/BenchCommand", "median", "([J)D"⟩ : MethodName)) [(.ref b)] [] at_122 (hw _ (List.mem_of_getElem? (i := 4) rfl)) (hw _ (List.mem_of_getElem? (i := 5) rfl)) (hw _ (List.mem_of_getElem? (i := 6) rfl)) (hw _ (List.mem_of_getElem? (i := 7) rfl)) (by decide) (rm_med3 l Z a0 hw b _ n0 H_61.z0 x0 x1 x2 A_66) (r := (some .double)) (ps := [(.array .long)]) (by decide) rfl rfl 0 rfl (by decide) (by decide) (by decide) (by decide) rfl (fun T_68 v_70 h_69 H_67 z_71 q_72 => ?_)
    obtain ⟨rfl, rfl⟩ := q_72
    show OEnds _ _ _ _ _ _ _ _ _ (mkF _ 125 #[.val (.int p0), .val (.long p1), .second, .val (.long p2), .second, .val (.long p3), .second, .val (.long p4), .second, .val (.long p5), .second, .val (.int (3 : Int32)), .val (.long x0), .second, .val (.long x1), .second, .val (.long x2), .second, .val (.long x3), .second, .val (.long x4), .second, .val (.ref b), .unset, .unset, .unset, .unset] [(.double (FP.l2d x1))])
    refine Own.dstore H_67 (pc := 125) #[.val (.int p0), .val (.long p1), .second, .val (.long p2), .second, .val (.long p3), .second, .val (.long p4), .second, .val (.long p5), .second, .val (.int (3 : Int32)), .val (.long x0), .second, .val (.long x1), .second, .val (.long x2), .second, .val (.long x3), .second, .val (.long x4), .second, .val (.ref b), .val (.double (FP.l2d x1)), .second, .unset, .unset] at_125 rfl ?_
    refine Own.iload H_67 (pc := 127) at_127 rfl ?_
    refine Own.iconst H_67 (pc := 129) (1) at_129 rfl ?_
    refine Own.icmp_ne H_67 (pc := 130) 141 at_130 (by decide) (by decide) (fun _ => ?_) (fun hc => absurd hc (by decide))
    refine Own.iload H_67 (pc := 141) at_141 rfl ?_
    refine Own.iconst H_67 (pc := 143) (2) at_143 rfl ?_
    refine Own.icmp_ne H_67 (pc := 144) 159 at_144 (by decide) (by decide) (fun _ => ?_) (fun hc => absurd hc (by decide))
    refine Own.iload H_67 (pc := 159) at_159 rfl ?_
    refine Own.iconst H_67 (pc := 161) (3) at_161 rfl ?_
    refine Own.icmp_ne H_67 (pc := 162) 173 at_162 (by decide) (by decide) (fun hc => absurd hc (by decide)) (fun _ => ?_)
    refine Own.lload H_67 (pc := 165) at_165 rfl ?_
    refine Own.l2d H_67 (pc := 167) at_167 ?_
    refine Own.dstore H_67 (pc := 168) #[.val (.int p0), .val (.long p1), .second, .val (.long p2), .second, .val (.long p3), .second, .val (.long p4), .second, .val (.long p5), .second, .val (.int (3 : Int32)), .val (.long x0), .second, .val (.long x1), .second, .val (.long x2), .second, .val (.long x3), .second, .val (.long x4), .second, .val (.ref b), .val (.double (FP.l2d x1)), .second, .val (.double (FP.l2d x1)), .second] at_168 rfl ?_
    refine Own.goto H_67 (pc := 170) 196 at_170 (by decide) (by decide) ?_
    refine Own.dload H_67 (pc := 196) at_196 rfl ?_
    refine Own.dload H_67 (pc := 198) at_198 rfl ?_
    refine Own.dcmp H_67 (pc := 200) (0) at_200 (dcmpV_self (Jvm.Free.Fl.l2d_fin _).noNaN _) ?_
    refine Own.if_ne H_67 (pc := 201) 208 at_201 (by decide) (by decide) (fun hc => absurd hc (by decide)) (fun _ => ?_)
    refine Own.iconst H_67 (pc := 204) (1) at_204 rfl ?_
    refine Own.goto H_67 (pc := 205) 209 at_205 (by decide) (by decide) ?_
    exact Own.ret_nar H_67 (pc := 209) (1) at_209 rfl (by simp) (by decide) (by decide) (by decide) (rfl)
  · refine Own.iload H (pc := 60) at_60 rfl ?_
    refine Own.newarray H (pc := 62) (i := 4) 4 at_62 (hw _ (List.mem_of_getElem? (i := 3) rfl)) rfl (by decide) (by decide) (by decide) (by decide) (by decide) (fun T_74 h_75 b eq_b ge_b H_73 Ext_b Ary_b => ?_)
    have A_76 : OAry Z h_75 b .long [(.long (0 : Int64)), (.long (0 : Int64)), (.long (0 : Int64)), (.long (0 : Int64))] := Ary_b
    refine Own.astore H_73 (pc := 64) #[.val (.int p0), .val (.long p1), .second, .val (.long p2), .second, .val (.long p3), .second, .val (.long p4), .second, .val (.long p5), .second, .val (.int (4 : Int32)), .val (.long x0), .second, .val (.long x1), .second, .val (.long x2), .second, .val (.long x3), .second, .val (.long x4), .second, .val (.ref b), .unset, .unset, .unset, .unset] at_64 rfl rfl ?_
    refine Own.aload H_73 (pc := 66) at_66 rfl rfl ?_
    refine Own.iconst H_73 (pc := 68) (0) at_68 rfl ?_
    refine Own.lload H_73 (pc := 69) at_69 rfl ?_
    refine Own.lastore H_73 (pc := 71) 0 at_71 A_76 ge_b rfl (by simp) (fun T_78 h_79 H_77 W_80 A_81 => ?_)
    have A_82 : OAry Z h_79 b .long [(.long x0), (.long (0 : Int64)), (.long (0 : Int64)), (.long (0 : Int64))] := A_81
    refine Own.iload H_77 (pc := 72) at_72 rfl ?_
    refine Own.iconst H_77 (pc := 74) (1) at_74 rfl ?_
    refine Own.icmp_le H_77 (pc := 75) 84 at_75 (by decide) (by decide) (fun hc => absurd hc (by decide)) (fun _ => ?_)
    refine Own.aload H_77 (pc := 78) at_78 rfl rfl ?_
    refine Own.iconst H_77 (pc := 80) (1) at_80 rfl ?_
    refine Own.lload H_77 (pc := 81) at_81 rfl ?_
    refine Own.lastore H_77 (pc := 83) 1 at_83 A_82 ge_b rfl (by simp) (fun T_84 h_85 H_83 W_86 A_87 => ?_)
    have A_88 : OAry Z h_85 b .long [(.long x0), (.long x1), (.long (0 : Int64)), (.long (0 : Int64))] := A_87
    refine Own.iload H_83 (pc := 84) at_84 rfl ?_
    refine Own.iconst H_83 (pc := 86) (2) at_86 rfl ?_
    refine Own.icmp_le H_83 (pc := 87) 96 at_87 (by decide) (by decide) (fun hc => absurd hc (by decide)) (fun _ => ?_)
    refine Own.aload H_83 (pc := 90) at_90 rfl rfl ?_
    refine Own.iconst H_83 (pc := 92) (2) at_92 rfl ?_
    refine Own.lload H_83 (pc := 93) at_93 rfl ?_
    refine Own.lastore H_83 (pc := 95) 2 at_95 A_88 ge_b rfl (by simp) (fun T_90 h_91 H_89 W_92 A_93 => ?_)
    have A_94 : OAry Z h_91 b .long [(.long x0), (.long x1), (.long x2), (.long (0 : Int64))] := A_93
    refine Own.iload H_89 (pc := 96) at_96 rfl ?_
    refine Own.iconst H_89 (pc := 98) (3) at_98 rfl ?_
    refine Own.icmp_le H_89 (pc := 99) 108 at_99 (by decide) (by decide) (fun hc => absurd hc (by decide)) (fun _ => ?_)
    refine Own.aload H_89 (pc := 102) at_102 rfl rfl ?_
    refine Own.iconst H_89 (pc := 104) (3) at_104 rfl ?_
    refine Own.lload H_89 (pc := 105) at_105 rfl ?_
    refine Own.lastore H_89 (pc := 107) 3 at_107 A_94 ge_b rfl (by simp) (fun T_96 h_97 H_95 W_98 A_99 => ?_)
    have A_100 : OAry Z h_97 b .long [(.long x0), (.long x1), (.long x2), (.long x3)] := A_99
    refine Own.iload H_95 (pc := 108) at_108 rfl ?_
    refine Own.iconst H_95 (pc := 110) (4) at_110 rfl ?_
    refine Own.icmp_le H_95 (pc := 111) 120 at_111 (by decide) (by decide) (fun _ => ?_) (fun hc => absurd hc (by decide))
    refine Own.aload H_95 (pc := 120) at_120 rfl rfl ?_
    refine Own.callS H_95 (pc := 122) (y := (⟨"com/example/firecrest/firecrest/cli/BenchCommand", "median", "([J)D"⟩ : MethodName)) [(.ref b)] [] at_122 (hw _ (List.mem_of_getElem? (i := 4) rfl)) (hw _ (List.mem_of_getElem? (i := 5) rfl)) (hw _ (List.mem_of_getElem? (i := 6) rfl)) (hw _ (List.mem_of_getElem? (i := 7) rfl)) (by decide) (rm_med4 l Z a0 hw b _ n0 H_95.z0 x0 x1 x2 x3 A_100) (r := (some .double)) (ps := [(.array .long)]) (by decide) rfl rfl 0 rfl (by decide) (by decide) (by decide) (by decide) rfl (fun T_102 v_104 h_103 H_101 z_105 q_106 => ?_)
    obtain ⟨rfl, rfl⟩ := q_106
    show OEnds _ _ _ _ _ _ _ _ _ (mkF _ 125 #[.val (.int p0), .val (.long p1), .second, .val (.long p2), .second, .val (.long p3), .second, .val (.long p4), .second, .val (.long p5), .second, .val (.int (4 : Int32)), .val (.long x0), .second, .val (.long x1), .second, .val (.long x2), .second, .val (.long x3), .second, .val (.long x4), .second, .val (.ref b), .unset, .unset, .unset, .unset] [(.double (FP.ddiv (FP.l2d (x1 + x2)) (4611686018427387904 : UInt64)))])
    refine Own.dstore H_101 (pc := 125) #[.val (.int p0), .val (.long p1), .second, .val (.long p2), .second, .val (.long p3), .second, .val (.long p4), .second, .val (.long p5), .second, .val (.int (4 : Int32)), .val (.long x0), .second, .val (.long x1), .second, .val (.long x2), .second, .val (.long x3), .second, .val (.long x4), .second, .val (.ref b), .val (.double (FP.ddiv (FP.l2d (x1 + x2)) (4611686018427387904 : UInt64))), .second, .unset, .unset] at_125 rfl ?_
    refine Own.iload H_101 (pc := 127) at_127 rfl ?_
    refine Own.iconst H_101 (pc := 129) (1) at_129 rfl ?_
    refine Own.icmp_ne H_101 (pc := 130) 141 at_130 (by decide) (by decide) (fun _ => ?_) (fun hc => absurd hc (by decide))
    refine Own.iload H_101 (pc := 141) at_141 rfl ?_
    refine Own.iconst H_101 (pc := 143) (2) at_143 rfl ?_
    refine Own.icmp_ne H_101 (pc := 144) 159 at_144 (by decide) (by decide) (fun _ => ?_) (fun hc => absurd hc (by decide))
    refine Own.iload H_101 (pc := 159) at_159 rfl ?_
    refine Own.iconst H_101 (pc := 161) (3) at_161 rfl ?_
    refine Own.icmp_ne H_101 (pc := 162) 173 at_162 (by decide) (by decide) (fun _ => ?_) (fun hc => absurd hc (by decide))
    refine Own.iload H_101 (pc := 173) at_173 rfl ?_
    refine Own.iconst H_101 (pc := 175) (4) at_175 rfl ?_
    refine Own.icmp_ne H_101 (pc := 176) 191 at_176 (by decide) (by decide) (fun hc => absurd hc (by decide)) (fun _ => ?_)
    refine Own.lload H_101 (pc := 179) at_179 rfl ?_
    refine Own.lload H_101 (pc := 181) at_181 rfl ?_
    refine Own.callS H_101 (pc := 183) (y := (⟨"com/example/firecrest/firecrest/cli/BenchCommandMedianPinLaw", "half", "(JJ)D"⟩ : MethodName)) [(.long x1), (.long x2)] [] at_183 (hw _ (List.mem_of_getElem? (i := 9) rfl)) (hw _ (List.mem_of_getElem? (i := 10) rfl)) (hw _ (List.mem_of_getElem? (i := 11) rfl)) (hw _ (List.mem_of_getElem? (i := 12) rfl)) (by decide) (rm_half l Z a0 hw x1 x2 _ n0 H_101.z0 (by omega) (by omega) (by omega)) (r := (some .double)) (ps := [.long, .long]) (by decide) rfl rfl 0 rfl (by decide) (by decide) (by decide) (by decide) rfl (fun T_108 v_110 h_109 H_107 z_111 q_112 => ?_)
    obtain ⟨rfl, rfl⟩ := q_112
    show OEnds _ _ _ _ _ _ _ _ _ (mkF _ 186 #[.val (.int p0), .val (.long p1), .second, .val (.long p2), .second, .val (.long p3), .second, .val (.long p4), .second, .val (.long p5), .second, .val (.int (4 : Int32)), .val (.long x0), .second, .val (.long x1), .second, .val (.long x2), .second, .val (.long x3), .second, .val (.long x4), .second, .val (.ref b), .val (.double (FP.ddiv (FP.l2d (x1 + x2)) (4611686018427387904 : UInt64))), .second, .unset, .unset] [(.double (FP.ddiv (FP.l2d (x1 + x2)) (4611686018427387904 : UInt64)))])
    refine Own.dstore H_107 (pc := 186) #[.val (.int p0), .val (.long p1), .second, .val (.long p2), .second, .val (.long p3), .second, .val (.long p4), .second, .val (.long p5), .second, .val (.int (4 : Int32)), .val (.long x0), .second, .val (.long x1), .second, .val (.long x2), .second, .val (.long x3), .second, .val (.long x4), .second, .val (.ref b), .val (.double (FP.ddiv (FP.l2d (x1 + x2)) (4611686018427387904 : UInt64))), .second, .val (.double (FP.ddiv (FP.l2d (x1 + x2)) (4611686018427387904 : UInt64))), .second] at_186 rfl ?_
    refine Own.goto H_107 (pc := 188) 196 at_188 (by decide) (by decide) ?_
    refine Own.dload H_107 (pc := 196) at_196 rfl ?_
    refine Own.dload H_107 (pc := 198) at_198 rfl ?_
    refine Own.dcmp H_107 (pc := 200) (0) at_200 (dcmpV_self (own_nq _) _) ?_
    refine Own.if_ne H_107 (pc := 201) 208 at_201 (by decide) (by decide) (fun hc => absurd hc (by decide)) (fun _ => ?_)
    refine Own.iconst H_107 (pc := 204) (1) at_204 rfl ?_
    refine Own.goto H_107 (pc := 205) 209 at_205 (by decide) (by decide) ?_
    exact Own.ret_nar H_107 (pc := 209) (1) at_209 rfl (by simp) (by decide) (by decide) (by decide) (rfl)
  · refine Own.iload H (pc := 60) at_60 rfl ?_
    refine Own.newarray H (pc := 62) (i := 5) 5 at_62 (hw _ (List.mem_of_getElem? (i := 3) rfl)) rfl (by decide) (by decide) (by decide) (by decide) (by decide) (fun T_114 h_115 b eq_b ge_b H_113 Ext_b Ary_b => ?_)
    have A_116 : OAry Z h_115 b .long [(.long (0 : Int64)), (.long (0 : Int64)), (.long (0 : Int64)), (.long (0 : Int64)), (.long (0 : Int64))] := Ary_b
    refine Own.astore H_113 (pc := 64) #[.val (.int p0), .val (.long p1), .second, .val (.long p2), .second, .val (.long p3), .second, .val (.long p4), .second, .val (.long p5), .second, .val (.int (5 : Int32)), .val (.long x0), .second, .val (.long x1), .second, .val (.long x2), .second, .val (.long x3), .second, .val (.long x4), .second, .val (.ref b), .unset, .unset, .unset, .unset] at_64 rfl rfl ?_
    refine Own.aload H_113 (pc := 66) at_66 rfl rfl ?_
    refine Own.iconst H_113 (pc := 68) (0) at_68 rfl ?_
    refine Own.lload H_113 (pc := 69) at_69 rfl ?_
    refine Own.lastore H_113 (pc := 71) 0 at_71 A_116 ge_b rfl (by simp) (fun T_118 h_119 H_117 W_120 A_121 => ?_)
    have A_122 : OAry Z h_119 b .long [(.long x0), (.long (0 : Int64)), (.long (0 : Int64)), (.long (0 : Int64)), (.long (0 : Int64))] := A_121
    refine Own.iload H_117 (pc := 72) at_72 rfl ?_
    refine Own.iconst H_117 (pc := 74) (1) at_74 rfl ?_
    refine Own.icmp_le H_117 (pc := 75) 84 at_75 (by decide) (by decide) (fun hc => absurd hc (by decide)) (fun _ => ?_)
    refine Own.aload H_117 (pc := 78) at_78 rfl rfl ?_
    refine Own.iconst H_117 (pc := 80) (1) at_80 rfl ?_
    refine Own.lload H_117 (pc := 81) at_81 rfl ?_
    refine Own.lastore H_117 (pc := 83) 1 at_83 A_122 ge_b rfl (by simp) (fun T_124 h_125 H_123 W_126 A_127 => ?_)
    have A_128 : OAry Z h_125 b .long [(.long x0), (.long x1), (.long (0 : Int64)), (.long (0 : Int64)), (.long (0 : Int64))] := A_127
    refine Own.iload H_123 (pc := 84) at_84 rfl ?_
    refine Own.iconst H_123 (pc := 86) (2) at_86 rfl ?_
    refine Own.icmp_le H_123 (pc := 87) 96 at_87 (by decide) (by decide) (fun hc => absurd hc (by decide)) (fun _ => ?_)
    refine Own.aload H_123 (pc := 90) at_90 rfl rfl ?_
    refine Own.iconst H_123 (pc := 92) (2) at_92 rfl ?_
    refine Own.lload H_123 (pc := 93) at_93 rfl ?_
    refine Own.lastore H_123 (pc := 95) 2 at_95 A_128 ge_b rfl (by simp) (fun T_130 h_131 H_129 W_132 A_133 => ?_)
    have A_134 : OAry Z h_131 b .long [(.long x0), (.long x1), (.long x2), (.long (0 : Int64)), (.long (0 : Int64))] := A_133
    refine Own.iload H_129 (pc := 96) at_96 rfl ?_
    refine Own.iconst H_129 (pc := 98) (3) at_98 rfl ?_
    refine Own.icmp_le H_129 (pc := 99) 108 at_99 (by decide) (by decide) (fun hc => absurd hc (by decide)) (fun _ => ?_)
    refine Own.aload H_129 (pc := 102) at_102 rfl rfl ?_
    refine Own.iconst H_129 (pc := 104) (3) at_104 rfl ?_
    refine Own.lload H_129 (pc := 105) at_105 rfl ?_
    refine Own.lastore H_129 (pc := 107) 3 at_107 A_134 ge_b rfl (by simp) (fun T_136 h_137 H_135 W_138 A_139 => ?_)
    have A_140 : OAry Z h_137 b .long [(.long x0), (.long x1), (.long x2), (.long x3), (.long (0 : Int64))] := A_139
    refine Own.iload H_135 (pc := 108) at_108 rfl ?_
    refine Own.iconst H_135 (pc := 110) (4) at_110 rfl ?_
    refine Own.icmp_le H_135 (pc := 111) 120 at_111 (by decide) (by decide) (fun hc => absurd hc (by decide)) (fun _ => ?_)
    refine Own.aload H_135 (pc := 114) at_114 rfl rfl ?_
    refine Own.iconst H_135 (pc := 116) (4) at_116 rfl ?_
    refine Own.lload H_135 (pc := 117) at_117 rfl ?_
    refine Own.lastore H_135 (pc := 119) 4 at_119 A_140 ge_b rfl (by simp) (fun T_142 h_143 H_141 W_144 A_145 => ?_)
    have A_146 : OAry Z h_143 b .long [(.long x0), (.long x1), (.long x2), (.long x3), (.long x4)] := A_145
    refine Own.aload H_141 (pc := 120) at_120 rfl rfl ?_
    refine Own.callS H_141 (pc := 122) (y := (⟨"com/example/firecrest/firecrest/cli/BenchCommand", "median", "([J)D"⟩ : MethodName)) [(.ref b)] [] at_122 (hw _ (List.mem_of_getElem? (i := 4) rfl)) (hw _ (List.mem_of_getElem? (i := 5) rfl)) (hw _ (List.mem_of_getElem? (i := 6) rfl)) (hw _ (List.mem_of_getElem? (i := 7) rfl)) (by decide) (rm_med5 l Z a0 hw b _ n0 H_141.z0 x0 x1 x2 x3 x4 A_146) (r := (some .double)) (ps := [(.array .long)]) (by decide) rfl rfl 0 rfl (by decide) (by decide) (by decide) (by decide) rfl (fun T_148 v_150 h_149 H_147 z_151 q_152 => ?_)
    obtain ⟨rfl, rfl⟩ := q_152
    show OEnds _ _ _ _ _ _ _ _ _ (mkF _ 125 #[.val (.int p0), .val (.long p1), .second, .val (.long p2), .second, .val (.long p3), .second, .val (.long p4), .second, .val (.long p5), .second, .val (.int (5 : Int32)), .val (.long x0), .second, .val (.long x1), .second, .val (.long x2), .second, .val (.long x3), .second, .val (.long x4), .second, .val (.ref b), .unset, .unset, .unset, .unset] [(.double (FP.l2d x2))])
    refine Own.dstore H_147 (pc := 125) #[.val (.int p0), .val (.long p1), .second, .val (.long p2), .second, .val (.long p3), .second, .val (.long p4), .second, .val (.long p5), .second, .val (.int (5 : Int32)), .val (.long x0), .second, .val (.long x1), .second, .val (.long x2), .second, .val (.long x3), .second, .val (.long x4), .second, .val (.ref b), .val (.double (FP.l2d x2)), .second, .unset, .unset] at_125 rfl ?_
    refine Own.iload H_147 (pc := 127) at_127 rfl ?_
    refine Own.iconst H_147 (pc := 129) (1) at_129 rfl ?_
    refine Own.icmp_ne H_147 (pc := 130) 141 at_130 (by decide) (by decide) (fun _ => ?_) (fun hc => absurd hc (by decide))
    refine Own.iload H_147 (pc := 141) at_141 rfl ?_
    refine Own.iconst H_147 (pc := 143) (2) at_143 rfl ?_
    refine Own.icmp_ne H_147 (pc := 144) 159 at_144 (by decide) (by decide) (fun _ => ?_) (fun hc => absurd hc (by decide))
    refine Own.iload H_147 (pc := 159) at_159 rfl ?_
    refine Own.iconst H_147 (pc := 161) (3) at_161 rfl ?_
    refine Own.icmp_ne H_147 (pc := 162) 173 at_162 (by decide) (by decide) (fun _ => ?_) (fun hc => absurd hc (by decide))
    refine Own.iload H_147 (pc := 173) at_173 rfl ?_
    refine Own.iconst H_147 (pc := 175) (4) at_175 rfl ?_
    refine Own.icmp_ne H_147 (pc := 176) 191 at_176 (by decide) (by decide) (fun _ => ?_) (fun hc => absurd hc (by decide))
    refine Own.lload H_147 (pc := 191) at_191 rfl ?_
    refine Own.l2d H_147 (pc := 193) at_193 ?_
    refine Own.dstore H_147 (pc := 194) #[.val (.int p0), .val (.long p1), .second, .val (.long p2), .second, .val (.long p3), .second, .val (.long p4), .second, .val (.long p5), .second, .val (.int (5 : Int32)), .val (.long x0), .second, .val (.long x1), .second, .val (.long x2), .second, .val (.long x3), .second, .val (.long x4), .second, .val (.ref b), .val (.double (FP.l2d x2)), .second, .val (.double (FP.l2d x2)), .second] at_194 rfl ?_
    refine Own.dload H_147 (pc := 196) at_196 rfl ?_
    refine Own.dload H_147 (pc := 198) at_198 rfl ?_
    refine Own.dcmp H_147 (pc := 200) (0) at_200 (dcmpV_self (Jvm.Free.Fl.l2d_fin _).noNaN _) ?_
    refine Own.if_ne H_147 (pc := 201) 208 at_201 (by decide) (by decide) (fun hc => absurd hc (by decide)) (fun _ => ?_)
    refine Own.iconst H_147 (pc := 204) (1) at_204 rfl ?_
    refine Own.goto H_147 (pc := 205) 209 at_205 (by decide) (by decide) ?_
    exact Own.ret_nar H_147 (pc := 209) (1) at_209 rfl (by simp) (by decide) (by decide) (by decide) (rfl)
set_option maxRecDepth 65536 in
set_option maxHeartbeats 40000000 in
theorem comes_1 {Post : Tables → Env → Array Value → State → Outcome → State → Prop} (hpost : ∀ tb e args s v u, (limb_1_1.after args s (.returned v) u = true ∧ limb_1_2.after args s (.returned v) u = true ∧ True) → FrameEnd s (.returned v) u (Jvm.fieldLocs frame_1_writes args s ++ Jvm.arrayLocs frame_1_arrays args s ++ Jvm.staticLocs frame_1_statics s) 16 128 → Post tb e args s (.returned v) u) :
    ArmFor flags0 classFile x code maxLocals ret World_1 tables_1 room_1 Calls_1 rest_1 Pre_1 Post := by
  intro l hfl _ _ p e ha hc hk s m args below hf hA hF happ hP
  obtain ⟨hcalls, hrest, hpre⟩ := hP
  obtain ⟨-, -, -, hnamed, -, -, -, hat⟩ := (Spec.applies_iff hf).mp happ
  obtain ⟨hg, hn⟩ := and_e (Cond.before_iff.mp (show (Jvm.Cond.and given_1 narrow_1).before args s = true from hpre))
  obtain ⟨g0, k0⟩ := and_e hg
  obtain ⟨g1, k1⟩ := and_e k0
  obtain ⟨g2, k2⟩ := and_e k1
  obtain ⟨g3, k3⟩ := and_e k2
  obtain ⟨g4, k4⟩ := and_e k3
  obtain ⟨g5, k5⟩ := and_e k4
  obtain ⟨w0, w1, w2, w3, w4, w5, rfl⟩ : ∃ w0 w1 w2 w3 w4 w5 : Value, args = #[w0, w1, w2, w3, w4, w5] := by
    have hs : args.size = 6 := by simpa [Cond.value, given_1] using g0
    obtain ⟨L⟩ := args
    match L, hs with
    | [w0, w1, w2, w3, w4, w5], _ => exact ⟨w0, w1, w2, w3, w4, w5, rfl⟩
  have hw := fun d (hd : d ∈ tables_1) => atoms_spec (ws := Jvm.Cond.code x code maxLocals ret :: tables_1) hat d (List.mem_cons_of_mem _ hd)
  have hfit : Fit s := fun {y c} hc i hi => by
    obtain ⟨ha, rfl⟩ := Array.getElem?_eq_some_iff.mp hc
    have q := List.all_eq_true.mp ((Array.all_eq_true_iff_forall_mem.mp hF) _ (Array.getElem_mem ha)) i (List.mem_range.mpr hi)
    simpa [Array.getElem?_eq_getElem hi] using q
  obtain ⟨i0, e0⟩ := is_v g1
  obtain rfl : w0 = (.int i0) := Option.some.inj e0
  obtain ⟨i1, e1⟩ := isL_v g2
  obtain rfl : w1 = (.long i1) := Option.some.inj e1
  obtain ⟨i2, e2⟩ := isL_v g3
  obtain rfl : w2 = (.long i2) := Option.some.inj e2
  obtain ⟨i3, e3⟩ := isL_v g4
  obtain rfl : w3 = (.long i3) := Option.some.inj e3
  obtain ⟨i4, e4⟩ := isL_v g5
  obtain rfl : w4 = (.long i4) := Option.some.inj e4
  obtain ⟨i5, e5⟩ := isL_v k5
  obtain rfl : w5 = (.long i5) := Option.some.inj e5
  obtain ⟨n, o, h1, h2, h3, _, L, rfl, ⟨N, -, rfl⟩, hq⟩ := rm_law l s _ hw i0 i1 i2 i3 i4 i5 s.heap s.heap.size (Nat.le_refl _)  tables_1 p e ha hc hk s m _ below hf ((Spec.applies_iff_loose hf).mp happ).1 ⟨rfl, State.Warmed39.refl s, rfl⟩ trivial
  refine ⟨n, _, h1, h2, h3, hpost _ _ _ _ _ _ ⟨Cond.after_iff.mpr rfl, Cond.after_iff.mpr (eq_i res_at (Term.int_eval (1)) rfl), trivial⟩ ⟨hq.1, hq.2.1, (hq.2.2.sift fun y hy => Or.inr (N y hy)).mono (by decide) (by decide)⟩⟩
theorem main_1_1 : Claimed_1_1 := comes_1 fun _ _ _ _ _ _ h hF => ⟨h.1, hF⟩
theorem main_1_2 : Claimed_1_2 := comes_1 fun _ _ _ _ _ _ h hF => ⟨h.2.1, hF⟩
end Jvm.Pilot.@@N@@
namespace Jvm.Pilot.@@N@@
open Jvm Jvm.ClassFile Sem Op Lib Jvm.Free Jvm.Stand Jvm.Pilot.@@N@@.Jvm.D
/-! MADE BY PROGRAM (witnessworld.py) out of the Statement's table words and the real class files: 12 classes; the members and pool entries that the words name. The judged class is class 1, her method 1. -/
namespace start1
open Jvm.ClassFile
def u (s : String) : CpInfo := .utf8 (stringToUtf16 s)
/-- a pool by its gaps: so many unusable entries, then the entry; so many at the end -/
def gap : Nat → List CpInfo → List CpInfo
  | 0, r => r
  | n + 1, r => .unusable :: gap n r
def poolList (es : List (Nat × CpInfo)) (last : Nat) : List CpInfo := es.foldr (fun e r => gap e.1 (e.2 :: r)) (gap last [])
def pool (es : List (Nat × CpInfo)) (last : Nat) : Array CpInfo := ⟨poolList es last⟩
def fileOf (pool : Array CpInfo) (this : Nat) (attrs : Array Attribute := #[]) (ms : Array MethodInfo := #[]) (fl : Nat := 33) (sup : Nat := 0) (ifs : Array Nat := #[]) (fds : Array FieldInfo := #[]) : ClassFile where
  minorVersion := 0
  majorVersion := 65
  constantPool := pool
  accessFlags := fl
  thisClass := this
  superClass := sup
  interfaces := ifs
  fields := fds
  methods := ms
  attributes := attrs
def plain (name : String) (sup : Option ClassId) : Class where
  name := name
  kind := .ordinary
  loader := none
  accessFlags := 33
  super := sup
  interfaces := #[]
  cf := none
  fields := #[]
  methods := #[]
  instanceTypes := #[]
  staticTypes := #[]
  resolved := #[]
  callSites := []
  init := .initialized
  statics := none
  mirror := none

def pool0 : Array CpInfo := pool [(5, u "<init>"), (0, u "()V"), (1, .class_ 10), (1, u "java/lang/Object")] 113

def k0m0 : Method := { name := "<init>", desc := "()V", sig := { parameters := [], returnType := none }, accessFlags := 1, code := none }
/-- java/lang/Object -/
def k0 : Class := { plain "java/lang/Object" none with
  accessFlags := 33
  interfaces := #[]
  cf := some (fileOf pool0 8 #[] #[{ accessFlags := 1, nameIndex := 5, descriptorIndex := 6, attributes := #[] }] 33 0 #[] #[])
  fields := #[]
  methods := #[k0m0]
  instanceTypes := #[]
  staticTypes := #[]
  resolved := Array.replicate 124 none
  statics := none }

def pool1 : Array CpInfo := pool [(2, .class_ 4), (1, u "java/lang/Object"), (0, u "<init>"), (0, u "()V"), (0, .integer 2147483647), (0, .long 562949953421311), (1, .long 140737488355327), (1, .methodref 13 14), (0, .class_ 15), (0, .nameAndType 16 17), (0, u "com/example/firecrest/firecrest/cli/BenchCommand"), (0, u "median"), (0, u "([J)D"), (0, .methodref 19 20), (0, .class_ 21), (0, .nameAndType 22 23), (0, u "com/example/firecrest/firecrest/cli/BenchCommandMedianPinLaw"), (0, u "half"), (0, u "(JJ)D"), (0, .double 4602678819172646912), (3, u "law"), (0, u "(IJJJJJ)Z")] 5

def k1m0 : Method := { name := "<init>", desc := "()V", sig := { parameters := [], returnType := none }, accessFlags := 1, code := none }
def k1c1 : Code := { maxStack := 6, maxLocals := 27, code := code, exceptionTable := #[], attributes := #[] }
def k1m1 : Method := { name := "law", desc := "(IJJJJJ)Z", sig := { parameters := [.int, .long, .long, .long, .long, .long], returnType := some .boolean }, accessFlags := 9, code := some k1c1 }
def k1c2 : Code := { maxStack := 4, maxLocals := 8, code := method_3_code, exceptionTable := #[], attributes := #[] }
def k1m2 : Method := { name := "half", desc := "(JJ)D", sig := { parameters := [.long, .long], returnType := some .double }, accessFlags := 10, code := some k1c2 }
/-- com/example/firecrest/firecrest/cli/BenchCommandMedianPinLaw -/
def k1 : Class := { plain "com/example/firecrest/firecrest/cli/BenchCommandMedianPinLaw" (some 0) with
  accessFlags := 49
  interfaces := #[]
  cf := some (fileOf pool1 19 #[] #[{ accessFlags := 1, nameIndex := 5, descriptorIndex := 6, attributes := #[] }, { accessFlags := 9, nameIndex := 28, descriptorIndex := 29, attributes := #[] }, { accessFlags := 10, nameIndex := 22, descriptorIndex := 23, attributes := #[] }] 49 2 #[] #[])
  fields := #[]
  methods := #[k1m0, k1m1, k1m2]
  instanceTypes := #[]
  staticTypes := #[]
  resolved := Array.replicate 35 none
  statics := none }

def pool2 : Array CpInfo := pool [(25, .class_ 26), (0, u "com/example/firecrest/firecrest/cli/Command"), (0, .class_ 28), (0, u "java/lang/Object"), (0, u "FOUND"), (0, u "I"), (2, u "NOT_FOUND"), (1, u "ERROR"), (1, u "CLOSED_PIPE")] 31

/-- com/example/firecrest/firecrest/cli/Command -/
def k2 : Class := { plain "com/example/firecrest/firecrest/cli/Command" (some 0) with
  accessFlags := 1536
  interfaces := #[]
  cf := some (fileOf pool2 25 #[] #[] 1536 27 #[] #[{ accessFlags := 25, nameIndex := 29, descriptorIndex := 30, attributes := #[] }, { accessFlags := 25, nameIndex := 33, descriptorIndex := 30, attributes := #[] }, { accessFlags := 25, nameIndex := 35, descriptorIndex := 30, attributes := #[] }, { accessFlags := 25, nameIndex := 37, descriptorIndex := 30, attributes := #[] }])
  fields := #[{ name := "FOUND", type := .int, accessFlags := 25, slot := 0, constantValue := 0 }, { name := "NOT_FOUND", type := .int, accessFlags := 25, slot := 1, constantValue := 0 }, { name := "ERROR", type := .int, accessFlags := 25, slot := 2, constantValue := 0 }, { name := "CLOSED_PIPE", type := .int, accessFlags := 25, slot := 3, constantValue := 0 }]
  methods := #[]
  instanceTypes := #[]
  staticTypes := #[.int, .int, .int, .int]
  resolved := Array.replicate 69 none
  statics := none }

def pool3 : Array CpInfo := pool [(2, .class_ 4), (1, u "java/lang/Object"), (3, .class_ 10), (1, u "com/example/firecrest/firecrest/cli/BenchCommand"), (0, u "file"), (0, u "Lcom/example/firecrest/firecrest/cli/InputFile;"), (2, u "seed"), (0, u "J"), (2, u "runs"), (0, u "I"), (4, u "USAGE"), (0, u "Lcom/example/firecrest/firecrest/cli/Usage;"), (7, .class_ 35), (0, u "com/example/firecrest/firecrest/cli/BenchCommand$BenchOption"), (86, .class_ 123), (0, u "com/example/firecrest/firecrest/cli/BenchCommand$Contender"), (67, .class_ 192), (0, u "com/example/firecrest/firecrest/cli/BenchCommand$Measurement"), (46, .class_ 240), (0, u "com/example/firecrest/firecrest/cli/Command"), (61, u "median"), (0, u "([J)D"), (11, .double 4611686018427387904), (62, u "INDEX_OF"), (0, u "Ljava/lang/String;"), (1, u "SHORTEST"), (1, u "LONGEST"), (1, u "PATTERNS"), (1, u "MOST_RUNS")] 68

def k3c0 : Code := { maxStack := 4, maxLocals := 2, code := prog_97_method_11_code, exceptionTable := #[], attributes := #[] }
def k3m0 : Method := { name := "median", desc := "([J)D", sig := { parameters := [(.array .long)], returnType := some .double }, accessFlags := 8, code := some k3c0 }
/-- com/example/firecrest/firecrest/cli/BenchCommand -/
def k3 : Class := { plain "com/example/firecrest/firecrest/cli/BenchCommand" (some 0) with
  accessFlags := 48
  interfaces := #[2]
  cf := some (fileOf pool3 8 #[.nestMembers #[191, 122, 34]] #[{ accessFlags := 8, nameIndex := 302, descriptorIndex := 303, attributes := #[] }] 48 2 #[239] #[{ accessFlags := 24, nameIndex := 25, descriptorIndex := 26, attributes := #[] }, { accessFlags := 26, nameIndex := 378, descriptorIndex := 379, attributes := #[] }, { accessFlags := 26, nameIndex := 381, descriptorIndex := 20, attributes := #[] }, { accessFlags := 26, nameIndex := 383, descriptorIndex := 20, attributes := #[] }, { accessFlags := 26, nameIndex := 385, descriptorIndex := 20, attributes := #[] }, { accessFlags := 26, nameIndex := 387, descriptorIndex := 20, attributes := #[] }, { accessFlags := 18, nameIndex := 11, descriptorIndex := 12, attributes := #[] }, { accessFlags := 18, nameIndex := 15, descriptorIndex := 16, attributes := #[] }, { accessFlags := 18, nameIndex := 19, descriptorIndex := 20, attributes := #[] }])
  fields := #[{ name := "USAGE", type := (.object "com/example/firecrest/firecrest/cli/Usage"), accessFlags := 24, slot := 0, constantValue := 0 }, { name := "INDEX_OF", type := (.object "java/lang/String"), accessFlags := 26, slot := 1, constantValue := 0 }, { name := "SHORTEST", type := .int, accessFlags := 26, slot := 2, constantValue := 0 }, { name := "LONGEST", type := .int, accessFlags := 26, slot := 3, constantValue := 0 }, { name := "PATTERNS", type := .int, accessFlags := 26, slot := 4, constantValue := 0 }, { name := "MOST_RUNS", type := .int, accessFlags := 26, slot := 5, constantValue := 0 }, { name := "file", type := (.object "com/example/firecrest/firecrest/cli/InputFile"), accessFlags := 18, slot := 0, constantValue := 0 }, { name := "seed", type := .long, accessFlags := 18, slot := 1, constantValue := 0 }, { name := "runs", type := .int, accessFlags := 18, slot := 2, constantValue := 0 }]
  methods := #[k3m0]
  instanceTypes := #[(.object "com/example/firecrest/firecrest/cli/InputFile"), .long, .int]
  staticTypes := #[(.object "com/example/firecrest/firecrest/cli/Usage"), (.object "java/lang/String"), .int, .int, .int, .int]
  resolved := Array.replicate 456 none
  statics := none }

def pool4 : Array CpInfo := pool [(1, u "java/lang/Cloneable"), (0, .class_ 1), (0, u "java/lang/Object"), (0, .class_ 3)] 3

/-- java/lang/Cloneable -/
def k4 : Class := { plain "java/lang/Cloneable" (some 0) with
  accessFlags := 1537
  interfaces := #[]
  cf := some (fileOf pool4 2 #[] #[] 1537 4 #[] #[])
  fields := #[]
  methods := #[]
  instanceTypes := #[]
  staticTypes := #[]
  resolved := Array.replicate 8 none
  statics := none }

def pool5 : Array CpInfo := pool [(1, u "java/io/Serializable"), (0, .class_ 1), (0, u "java/lang/Object"), (0, .class_ 3)] 3

/-- java/io/Serializable -/
def k5 : Class := { plain "java/io/Serializable" (some 0) with
  accessFlags := 1537
  interfaces := #[]
  cf := some (fileOf pool5 2 #[] #[] 1537 4 #[] #[])
  fields := #[]
  methods := #[]
  instanceTypes := #[]
  staticTypes := #[]
  resolved := Array.replicate 8 none
  statics := none }

/-- the primitive byte -/
def k6 : Class := { plain "byte" none with kind := .primitive 'B', accessFlags := 0x411 }
/-- [B -/
def k7 : Class := { plain "[B" (some 0) with kind := .array 6 .byte, interfaces := #[4, 5], accessFlags := 1041 }

/-- the primitive int -/
def k8 : Class := { plain "int" none with kind := .primitive 'I', accessFlags := 0x411 }
/-- [I -/
def k9 : Class := { plain "[I" (some 0) with kind := .array 8 .int, interfaces := #[4, 5], accessFlags := 1041 }

/-- the primitive long -/
def k10 : Class := { plain "long" none with kind := .primitive 'J', accessFlags := 0x411 }
/-- [J -/
def k11 : Class := { plain "[J" (some 0) with kind := .array 10 .long, interfaces := #[4, 5], accessFlags := 1041 }

def heap : Heap := #[]
def classes : Array Class := #[k0, k1, k2, k3, k4, k5, k6, k7, k8, k9, k10, k11]
def interned : List (Array UInt16 × Addr) := []
def slotsUsed : Nat := 0
def theMethod : MethodId := ⟨1, 1⟩
def args0 : Array Value := #[.int 1, .long 5, .long 8, .long 9, .long 11, .long 13]
def aboutOver (below : List Frame) : State where
  vm := { classes := classes, interned := interned.toArray }
  heap := heap
  slotsUsed := slotsUsed
  threads := #[{ frames := .invoking theMethod args0 :: below }]
def below0 : List Frame := [.native { method := ⟨0, 0⟩, args := #[] }]
def about1 : State := aboutOver below0
def p0 : Program := .bare "" "" ""
def e0 : Env := launch0.env 0 0 0
theorem w_frames : about1.frames = Frame.invoking theMethod args0 :: below0 := rfl
set_option maxRecDepth 65536 in
theorem w_args : argsFit about1.vm theMethod args0 = true := by decide +kernel
set_option maxRecDepth 65536 in
theorem w_heap : heapFits about1 = true := by decide +kernel
set_option maxRecDepth 65536 in
theorem w_runnable : about1.curStatus? = some .runnable := by decide +kernel
set_option maxRecDepth 65536 in
theorem w_alone : about1.alone = true := by decide +kernel
set_option maxRecDepth 65536 in
theorem w_named : about1.methodNamed? x = some theMethod := by decide +kernel
set_option maxRecDepth 65536 in
theorem w_hears : about1.hears theMethod below0 = true := by decide +kernel
set_option maxRecDepth 65536 in
theorem w_ripe : about1.ripe theMethod args0 below0 = true := by decide +kernel
theorem w_running : about1.status = .running := rfl
set_option maxRecDepth 65536 in
theorem w_room : about1.hasRoom e0.platform room_1 = true :=
  launch0.hasRoom_least _ room_1 (by decide +kernel) (by decide +kernel) (by decide +kernel) (by decide +kernel) (by decide +kernel) (by decide +kernel)
theorem allAtoms_all (ts : List Jvm.Cond) (a : Array Jvm.Value) (st : Jvm.State) : (allAtoms ts).before a st = ts.all (fun c => c.before a st) := by
  induction ts with
  | nil => rfl
  | cons c t ih =>
    show (Jvm.Cond.and c (allAtoms t)).before a st = _
    rw [Jvm.Cond.before_and, ih, List.all_cons]
def words1 : List Jvm.Cond := Jvm.Cond.code x code maxLocals ret :: tables_1
/-- a 'code' word, met by the world's own term for the bytes: nothing is compared byte by byte -/
theorem code_word {y : MethodName} {bytes : ByteArray} {mx : Nat} {rt : Option FieldType} {a : Array Value} {s : State} {m : MethodId} {meth : Method} {c : Code} (h1 : s.methodNamed? y = some m) (h2 : s.vm.method? m = some meth) (h3 : meth.code = some c) (h4 : c.code = bytes)
    (h5 : (c.maxLocals == mx && c.exceptionTable.isEmpty && decide (c.maxStack ≤ mostOperands) && decide (meth.sig.returnType = rt) && !meth.locks && decide (parseMethodDescriptor y.desc = some meth.sig)) = true) : (Jvm.Cond.code y bytes mx rt).before a s = true := by
  simp only [Bool.and_eq_true, beq_iff_eq, Bool.not_eq_true', decide_eq_true_eq] at h5
  obtain ⟨⟨⟨⟨⟨g1, g2⟩, g3⟩, g4⟩, g5⟩, g6⟩ := h5
  simp [Cond.before, Cond.holds, Cond.value, h1, h2, h3, h4, g1, g2, g3, g4, g5, g6]
def isCode : Jvm.Cond → Bool
  | .code _ _ _ _ => true
  | _ => false
theorem all_split {L : List Jvm.Cond} {P : Jvm.Cond → Bool} (h1 : L.all (fun c => isCode c || P c) = true) (h2 : ∀ c ∈ L.filter isCode, P c = true) : L.all P = true := by
  refine List.all_eq_true.mpr fun c hc => ?_
  have h := List.all_eq_true.mp h1 c hc
  rcases Bool.eq_false_or_eq_true (isCode c) with hi | hi
  · exact h2 c (List.mem_filter.mpr ⟨hc, hi⟩)
  · simpa [hi] using h
set_option maxRecDepth 65536 in
theorem w_c0 : (Jvm.Cond.code x code maxLocals ret).before args0 about1 = true := code_word (m := ⟨1, 1⟩) (meth := k1m1) (c := k1c1) (by decide +kernel) rfl rfl rfl (by decide +kernel)
set_option maxRecDepth 65536 in
theorem w_c1 : (Jvm.Cond.code ({ cls := "com/example/firecrest/firecrest/cli/BenchCommand", name := "median", desc := "([J)D" } : Jvm.MethodName) prog_97_method_11_code (2 : Nat) (Option.some Jvm.ClassFile.FieldType.double)).before args0 about1 = true := code_word (m := ⟨3, 0⟩) (meth := k3m0) (c := k3c0) (by decide +kernel) rfl rfl rfl (by decide +kernel)
set_option maxRecDepth 65536 in
theorem w_c2 : (Jvm.Cond.code ({ cls := "com/example/firecrest/firecrest/cli/BenchCommandMedianPinLaw", name := "half", desc := "(JJ)D" } : Jvm.MethodName) method_3_code (8 : Nat) (Option.some Jvm.ClassFile.FieldType.double)).before args0 about1 = true := code_word (m := ⟨1, 2⟩) (meth := k1m2) (c := k1c2) (by decide +kernel) rfl rfl rfl (by decide +kernel)
def codes1 : List Jvm.Cond := [Jvm.Cond.code x code maxLocals ret, Jvm.Cond.code ({ cls := "com/example/firecrest/firecrest/cli/BenchCommand", name := "median", desc := "([J)D" } : Jvm.MethodName) prog_97_method_11_code (2 : Nat) (Option.some Jvm.ClassFile.FieldType.double), Jvm.Cond.code ({ cls := "com/example/firecrest/firecrest/cli/BenchCommandMedianPinLaw", name := "half", desc := "(JJ)D" } : Jvm.MethodName) method_3_code (8 : Nat) (Option.some Jvm.ClassFile.FieldType.double)]
set_option maxRecDepth 65536 in
theorem codes_eq : words1.filter isCode = codes1 := rfl
theorem w_codes : ∀ c ∈ words1.filter isCode, c.before args0 about1 = true := by
  rw [codes_eq]
  intro c hc
  simp only [codes1, List.mem_cons, List.not_mem_nil, or_false] at hc
  rcases hc with rfl | rfl | rfl
  · exact w_c0
  · exact w_c1
  · exact w_c2
set_option maxRecDepth 65536 in
theorem w_t1 : words1.all (fun c => isCode c || c.before args0 about1) = true := by decide +kernel
theorem w_tables : (allAtoms (Jvm.Cond.code x code maxLocals ret :: tables_1)).before args0 about1 = true := by
  rw [allAtoms_all]
  show words1.all (fun c => c.before args0 about1) = true
  refine all_split ?_ w_codes
  rw [w_t1]
set_option maxRecDepth 65536 in
theorem w_case : (Jvm.Cond.and given_1 narrow_1).before args0 about1 = true := by decide +kernel
theorem w_applies : (headSpec (Jvm.Cond.code x code maxLocals ret :: tables_1) room_1).applies x e0.platform about1 = true :=
  (Spec.applies_iff w_frames).mpr ⟨w_running, w_runnable, w_alone, w_named, w_hears, w_ripe, w_room, w_tables⟩
theorem atStart : AtStart classFile x code maxLocals ret World_1 tables_1 room_1 Calls_1 rest_1 Pre_1 launch0 p0 e0 about1 theMethod args0 below0 :=
  ⟨lists_1, trivial, launch0.admits_env _ _ _, launch0.least_env, fairChoices_fair.cas, fairChoices_fair.clock, w_frames, w_args, w_heap, w_applies, trivial, trivial, w_case⟩
end start1
theorem witness_1 : WitnessClaimed_1 := ⟨start1.p0, start1.e0, start1.about1, start1.theMethod, start1.args0, start1.below0, start1.atStart⟩
end Jvm.Pilot.@@N@@
