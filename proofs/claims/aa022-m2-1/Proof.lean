import JvmDerived
import JvmDerived.Pilot.@@N@@Statement
import JvmDerived.Pilot.@@N@@Code
set_option linter.unusedVariables false
set_option linter.unusedSimpArgs false
namespace Jvm.Own
open Jvm Jvm.ClassFile Sem Op Lib Jvm.Free Jvm.Stand Jvm.LawKit Jvm.RoadKit
def OHr (p : Program) (l : Launch) (e : Env) (R : Room) (s : State) (m : MethodId) (args : Array Value) (below : List Frame) (meth : Method) (c : Code) (Z : State) (n0 : Nat) (own nm : String) (code : ByteArray) (maxL : Nat) (ret : Option FieldType) (T : State) (h : Heap) (ce sl : Nat) : Prop :=
  (p.tables.exec = Jvm.exec ∧ Z.Warmed39 s.vm ∧ c.code = code ∧ c.maxLocals = maxL ∧ s.vm.findClass own = some m.cls ∧ meth.name = nm ∧ meth.sig.returnType = ret ∧ meth.locks = false) ∧
  ∃ locs, Stand p l e R s m args below meth c T locs ce sl ∧ T.heap = h ∧ Fr n0 locs ∧ n0 ≤ h.size
def OEnds (p : Program) (e : Env) (below : List Frame) (s : State) (n0 : Nat) (Q : Option Value → Heap → Prop) (C S : Nat) (T : State) (g : JFrame) : Prop :=
  ∃ s₂ o, Steps p.tables e below (T.setTop g) s₂ ∧ s₂.status = .running ∧ Ended s₂ below o ∧ ∃ v L, o = .returned v ∧ (Fr n0 L ∧ Q v s₂.heap) ∧ FrameEnd s o s₂ L C S
def OMet (l : Launch) (Z : State) (n0 : Nat) (y : MethodName) (bytes : ByteArray) (maxL : Nat) (ret : Option FieldType) (rm : Room) (as : Array Value) (h0 : Heap) (Q : Option Value → Heap → Prop) : Prop :=
  ∀ ws, MetFree l y (head1 (Cond.code y bytes maxL ret :: ws) rm) (fun a U => a = as ∧ Z.Warmed39 U.vm ∧ U.heap = h0) (fun _ _ _ _ _ => True) (fun _ U o U' => ∃ v L, o = .returned v ∧ (Fr n0 L ∧ h0.size ≤ U'.heap.size ∧ Q v U'.heap) ∧ FrameEnd U o U' L rm.cells rm.slots)
theorem OMet.of {l : Launch} {Z : State} {n0 : Nat} {y : MethodName} {bytes : ByteArray} {maxL : Nat} {ret : Option FieldType} {rm : Room} {as : Array Value} {h0 : Heap} {Q : Option Value → Heap → Prop} {Ls : Array Slot}
    (pn : plainFor y = true) (Z0 : n0 ≤ h0.size) (ef : ∀ m, entryFrame m as maxL = mkF m 0 Ls [])
    (body : ∀ p e s m below meth c T, OHr p l e rm s m as below meth c Z n0 y.cls y.name bytes maxL ret T h0 0 0 → OEnds p e below s n0 Q rm.cells rm.slots T (mkF m 0 Ls [])) : OMet l Z n0 y bytes maxL ret rm as h0 Q := by
  intro ws
  refine MetFree.of_bodySF pn hisR ?_
  intro p e s m args below meth c s₁ Bd hml0 hP hK
  obtain ⟨rfl, hZ, hh⟩ := hP
  have X0 : Stand p l e rm s m _ below meth c s₁ [] 0 0 := Stand.of_body Bd
  have e0 : s₁.heap = h0 := by rw [← hh, Bd.state]; rfl
  rw [ef]
  obtain ⟨s₂, o, g1, g2, g3, v, L, g4, ⟨g5, g6⟩, g7⟩ := body p e s m below meth c s₁ ⟨⟨Bd.exec, hZ, Bd.bytes, hml0, findClass_of_methodNamed Bd.named, (name_of_methodNamed Bd.named Bd.method).1, Bd.returns, Bd.notSynchronized⟩, [], X0, e0, Fr.nil n0, Z0⟩
  exact ⟨s₂, o, g1, g2, g3, v, L, g4, ⟨g5, by rw [← hh]; exact g7.2.2.2.1, g6⟩, g7⟩
theorem OMet.mono {l : Launch} {Z : State} {n0 : Nat} {y : MethodName} {bytes : ByteArray} {maxL : Nat} {ret : Option FieldType} {rm : Room} {as : Array Value} {h0 : Heap} {Q Q' : Option Value → Heap → Prop}
    (M : OMet l Z n0 y bytes maxL ret rm as h0 Q) (q : ∀ v h, Q v h → Q' v h) : OMet l Z n0 y bytes maxL ret rm as h0 Q' := by
  intro ws p e h1 h2 h3 s m args below h4 h5 h6 h7
  obtain ⟨n, o, k1, k2, k3, v, L, k4, ⟨k5, k5', k6⟩, k7⟩ := M ws p e h1 h2 h3 s m args below h4 h5 h6 h7
  exact ⟨n, o, k1, k2, k3, v, L, k4, ⟨k5, k5', q _ _ k6⟩, k7⟩
/-! arrays by the list of their values -/
def OAry (Z : State) (h : Heap) (a : Addr) (ty : FieldType) (vs : List Value) : Prop := ∃ c : Cell, Arr Z h a c ty ∧ c.slots.toList = vs ∧ vs.length < 2 ^ 31 ∧ ∀ v ∈ vs, fits ty v = true
section Facts
variable {Z : State} {h h' : Heap} {a b : Nat} {ty : FieldType} {vs : List Value} {v : Value} {sl : Nat} {ws : List Addr} {i : Nat}
theorem OAry.lt (A : OAry Z h a ty vs) : a < h.size := by obtain ⟨c, A, -⟩ := A; exact A.lt
theorem OAry.ext (A : OAry Z h a ty vs) (E : Ext h h') : OAry Z h' a ty vs := by obtain ⟨c, A, r⟩ := A; exact ⟨c, A.ext E, r⟩
theorem OAry.other (A : OAry Z h b ty vs) (W : Wr h h' a sl v) (q : b ≠ a) : OAry Z h' b ty vs := by obtain ⟨c, A, r⟩ := A; exact ⟨c, A.other W q, r⟩
theorem OAry.keep (A : OAry Z h a ty vs) (K : Keep h h' ws) (q : a ∉ ws) : OAry Z h' a ty vs := by obtain ⟨c, A, r⟩ := A; exact ⟨c, ⟨K.2.1 _ _ A.1 q, A.2⟩, r⟩
theorem OAry.len (A : OAry Z h a ty vs) : vs.length < 2 ^ 31 := by obtain ⟨c, A, -, r, -⟩ := A; exact r
theorem OAry.fit (A : OAry Z h a ty vs) (q : v ∈ vs) : fits ty v = true := by obtain ⟨c, A, -, -, r⟩ := A; exact r v q
theorem OAry.new {cA : ClassId} {n : Int32} (A : Arr Z h a (newA cA ty n) ty) (hf : fits ty (defaultValue ty) = true) : OAry Z h a ty (List.replicate n.toNatClampNeg (defaultValue ty)) := by
  refine ⟨_, A, by simp [newA], ?_, ?_⟩
  · rw [List.length_replicate]
    have := n.toInt_lt
    have e : n.toNatClampNeg = n.toInt.toNat := rfl
    omega
  · intro v hv
    rw [List.eq_of_mem_replicate hv]
    exact hf
theorem OAry.wr (A : OAry Z h a ty vs) (W : Wr h h' a i v) (hf : fits ty v = true) : OAry Z h' a ty (vs.set i v) := by
  obtain ⟨c, A, r1, r2, r3⟩ := A
  refine ⟨_, A.same W, by simp [Cell.setSlot, r1], by simpa using r2, fun w hw => ?_⟩
  rcases List.mem_or_eq_of_mem_set hw with q | q
  · exact r3 w q
  · rw [q]; exact hf
theorem OAry.uniq {ty' : FieldType} {vs' : List Value} (A : OAry Z h a ty vs) (B : OAry Z h a ty' vs') : vs = vs' := by
  obtain ⟨c, A, r1, -⟩ := A
  obtain ⟨c', B, r1', -⟩ := B
  have e : c = c' := Option.some.inj (A.1.symm.trans B.1)
  subst e
  rw [← r1, ← r1']
theorem nat_idx {j : Int32} {i : Nat} (hj : j.toInt = (i : Int)) : j.toNatClampNeg = i ∧ ¬ j < 0 := by
  have e : j.toNatClampNeg = j.toInt.toNat := rfl
  refine ⟨by omega, ?_⟩
  rw [Int32.lt_iff_toInt_lt]
  have : (0 : Int32).toInt = 0 := rfl
  omega
theorem Fr.one {k : Nat} {L : List Loc} {a : Addr} {i : Nat} (N : Fr k L) (q : k ≤ a) : Fr k (L ++ [⟨a, i⟩]) := Fr.app N (fun y hy => by
  have e : y = ⟨a, i⟩ := List.mem_singleton.mp hy
  subst e; exact q)
theorem ext_size (E : Ext h h') : h.size ≤ h'.size := E.1
end Facts
section Go
variable {p : Program} {l : Launch} {e : Env} {R : Room} {s : State} {m : MethodId} {args : Array Value} {below : List Frame} {meth : Method} {c : Code} {Z : State} {n0 : Nat} {own nm : String} {code : ByteArray} {maxL : Nat} {ret : Option FieldType} {T : State} {h : Heap} {ce sl : Nat} {Q : Option Value → Heap → Prop} {C S : Nat} {pc : Nat} {Ls : Array Slot} {st : List Value} {a0 : Array Value}
theorem OHr.mono (H : OHr p l e R s m args below meth c Z n0 own nm code maxL ret T h ce sl) {ce' sl' : Nat} (q1 : ce ≤ ce') (q2 : sl ≤ sl') : OHr p l e R s m args below meth c Z n0 own nm code maxL ret T h ce' sl' := by
  obtain ⟨K, locs, X, r⟩ := H
  exact ⟨K, locs, { X with same := X.same.mono q1 q2 }, r⟩
theorem OHr.z0 (H : OHr p l e R s m args below meth c Z n0 own nm code maxL ret T h ce sl) : n0 ≤ h.size := by obtain ⟨K, locs, X, r1, r2, r3⟩ := H; exact r3
theorem go {T' : State} {g g' : JFrame} (q : ∀ t, Steps p.tables e below (T'.setTop g') t → Steps p.tables e below (T.setTop g) t) (k : OEnds p e below s n0 Q C S T' (g')) : OEnds p e below s n0 Q C S T (g) := by
  obtain ⟨a, o, h1, h2⟩ := k
  exact ⟨a, o, q _ h1, h2⟩
theorem go1 {T' : State} {g g' : JFrame} (q : Steps p.tables e below (T.setTop g) (T'.setTop g')) (k : OEnds p e below s n0 Q C S T' (g')) : OEnds p e below s n0 Q C S T (g) := by
  obtain ⟨a, o, h1, h2⟩ := k
  exact ⟨a, o, q.trans h1, h2⟩
theorem cut {A : Type} (P : A → Prop) (g : A → JFrame) {g0 : JFrame} (k : ∀ a, P a → OEnds p e below s n0 Q C S T (g a)) (main : (∀ a, P a → OEnds p e below s n0 Q C S T (g a)) → OEnds p e below s n0 Q C S T (g0)) : OEnds p e below s n0 Q C S T (g0) := main k
theorem cast {g g' : JFrame} (q : g = g') (k : OEnds p e below s n0 Q C S T (g')) : OEnds p e below s n0 Q C S T (g) := q ▸ k
theorem iload_n (H : OHr p l e R s m args below meth c Z n0 own nm code maxL ret T h ce sl) {k : Fin 4} {v : Int32} (hd : decode code pc = .ok (.iload_n k, 1)) (hl : Ls[k.val]? = some (.val (.int v))) (k : OEnds p e below s n0 Q C S T (mkF m (pc + 1) Ls (.int v :: st))) : OEnds p e below s n0 Q C S T (mkF m pc Ls (st)) := by
  obtain ⟨⟨hx, hZ, hby, hml, hown, hnm, hrt, hlk⟩, locs, X, eT, N, z0⟩ := H
  exact go (fun t q => XS.iloadN X.here hx rfl (hb hby hd) hl q) k
theorem lload_n (H : OHr p l e R s m args below meth c Z n0 own nm code maxL ret T h ce sl) {k : Fin 4} {v : Int64} (hd : decode code pc = .ok (.lload_n k, 1)) (hl : Ls[k.val]? = some (.val (.long v))) (k : OEnds p e below s n0 Q C S T (mkF m (pc + 1) Ls (.long v :: st))) : OEnds p e below s n0 Q C S T (mkF m pc Ls (st)) := by
  obtain ⟨⟨hx, hZ, hby, hml, hown, hnm, hrt, hlk⟩, locs, X, eT, N, z0⟩ := H
  exact go (fun t q => XT.lloadN X.here hx rfl (hb hby hd) hl q) k
theorem iload (H : OHr p l e R s m args below meth c Z n0 own nm code maxL ret T h ce sl) {k : Nat} {v : Int32} (hd : decode code pc = .ok (.iload k, 2)) (hl : Ls[k]? = some (.val (.int v))) (k : OEnds p e below s n0 Q C S T (mkF m (pc + 2) Ls (.int v :: st))) : OEnds p e below s n0 Q C S T (mkF m pc Ls (st)) := by
  obtain ⟨⟨hx, hZ, hby, hml, hown, hnm, hrt, hlk⟩, locs, X, eT, N, z0⟩ := H
  exact go (fun t q => XS.iload X.here hx rfl (hb hby hd) hl q) k
theorem lload (H : OHr p l e R s m args below meth c Z n0 own nm code maxL ret T h ce sl) {k : Nat} {v : Int64} (hd : decode code pc = .ok (.lload k, 2)) (hl : Ls[k]? = some (.val (.long v))) (k : OEnds p e below s n0 Q C S T (mkF m (pc + 2) Ls (.long v :: st))) : OEnds p e below s n0 Q C S T (mkF m pc Ls (st)) := by
  obtain ⟨⟨hx, hZ, hby, hml, hown, hnm, hrt, hlk⟩, locs, X, eT, N, z0⟩ := H
  exact go (fun t q => XT.lload X.here hx rfl (hb hby hd) hl q) k
theorem aload_n (H : OHr p l e R s m args below meth c Z n0 own nm code maxL ret T h ce sl) {k : Fin 4} {v : Value} (hd : decode code pc = .ok (.aload_n k, 1)) (hl : Ls[k.val]? = some (.val v)) (hv : v.isRef = true) (k : OEnds p e below s n0 Q C S T (mkF m (pc + 1) Ls (v :: st))) : OEnds p e below s n0 Q C S T (mkF m pc Ls (st)) := by
  obtain ⟨⟨hx, hZ, hby, hml, hown, hnm, hrt, hlk⟩, locs, X, eT, N, z0⟩ := H
  exact go (fun t q => XS.aloadN X.here hx rfl (hb hby hd) hl hv q) k
theorem aload (H : OHr p l e R s m args below meth c Z n0 own nm code maxL ret T h ce sl) {k : Nat} {v : Value} (hd : decode code pc = .ok (.aload k, 2)) (hl : Ls[k]? = some (.val v)) (hv : v.isRef = true) (k : OEnds p e below s n0 Q C S T (mkF m (pc + 2) Ls (v :: st))) : OEnds p e below s n0 Q C S T (mkF m pc Ls (st)) := by
  obtain ⟨⟨hx, hZ, hby, hml, hown, hnm, hrt, hlk⟩, locs, X, eT, N, z0⟩ := H
  exact go (fun t q => XS.aload X.here hx rfl (hb hby hd) hl hv q) k
theorem istore_n (H : OHr p l e R s m args below meth c Z n0 own nm code maxL ret T h ce sl) {k : Fin 4} {v : Int32} (l' : Array Slot) (hd : decode code pc = .ok (.istore_n k, 1)) (hl : storeLocals Ls k.val (.int v) = some l') (k : OEnds p e below s n0 Q C S T (mkF m (pc + 1) l' (st))) : OEnds p e below s n0 Q C S T (mkF m pc Ls (.int v :: st)) := by
  obtain ⟨⟨hx, hZ, hby, hml, hown, hnm, hrt, hlk⟩, locs, X, eT, N, z0⟩ := H
  exact go (fun t q => XS.istoreN X.here hx rfl (hb hby hd) rfl hl q) k
theorem istore (H : OHr p l e R s m args below meth c Z n0 own nm code maxL ret T h ce sl) {k : Nat} {v : Int32} (l' : Array Slot) (hd : decode code pc = .ok (.istore k, 2)) (hl : storeLocals Ls k (.int v) = some l') (k : OEnds p e below s n0 Q C S T (mkF m (pc + 2) l' (st))) : OEnds p e below s n0 Q C S T (mkF m pc Ls (.int v :: st)) := by
  obtain ⟨⟨hx, hZ, hby, hml, hown, hnm, hrt, hlk⟩, locs, X, eT, N, z0⟩ := H
  exact go (fun t q => XS.istore X.here hx rfl (hb hby hd) rfl hl q) k
theorem lstore_n (H : OHr p l e R s m args below meth c Z n0 own nm code maxL ret T h ce sl) {k : Fin 4} {v : Int64} (l' : Array Slot) (hd : decode code pc = .ok (.lstore_n k, 1)) (hl : storeLocals Ls k.val (.long v) = some l') (k : OEnds p e below s n0 Q C S T (mkF m (pc + 1) l' (st))) : OEnds p e below s n0 Q C S T (mkF m pc Ls (.long v :: st)) := by
  obtain ⟨⟨hx, hZ, hby, hml, hown, hnm, hrt, hlk⟩, locs, X, eT, N, z0⟩ := H
  exact go (fun t q => XT.lstoreN X.here hx rfl (hb hby hd) rfl hl q) k
theorem lstore (H : OHr p l e R s m args below meth c Z n0 own nm code maxL ret T h ce sl) {k : Nat} {v : Int64} (l' : Array Slot) (hd : decode code pc = .ok (.lstore k, 2)) (hl : storeLocals Ls k (.long v) = some l') (k : OEnds p e below s n0 Q C S T (mkF m (pc + 2) l' (st))) : OEnds p e below s n0 Q C S T (mkF m pc Ls (.long v :: st)) := by
  obtain ⟨⟨hx, hZ, hby, hml, hown, hnm, hrt, hlk⟩, locs, X, eT, N, z0⟩ := H
  exact go (fun t q => XT.lstore X.here hx rfl (hb hby hd) rfl hl q) k
theorem astore_n (H : OHr p l e R s m args below meth c Z n0 own nm code maxL ret T h ce sl) {k : Fin 4} {v : Value} (l' : Array Slot) (hd : decode code pc = .ok (.astore_n k, 1)) (hv : v.isRef = true) (hl : storeLocals Ls k.val v = some l') (k : OEnds p e below s n0 Q C S T (mkF m (pc + 1) l' (st))) : OEnds p e below s n0 Q C S T (mkF m pc Ls (v :: st)) := by
  obtain ⟨⟨hx, hZ, hby, hml, hown, hnm, hrt, hlk⟩, locs, X, eT, N, z0⟩ := H
  exact go (fun t q => XS.astoreN X.here hx rfl (hb hby hd) rfl hv hl q) k
theorem astore (H : OHr p l e R s m args below meth c Z n0 own nm code maxL ret T h ce sl) {k : Nat} {v : Value} (l' : Array Slot) (hd : decode code pc = .ok (.astore k, 2)) (hv : v.isRef = true) (hl : storeLocals Ls k v = some l') (k : OEnds p e below s n0 Q C S T (mkF m (pc + 2) l' (st))) : OEnds p e below s n0 Q C S T (mkF m pc Ls (v :: st)) := by
  obtain ⟨⟨hx, hZ, hby, hml, hown, hnm, hrt, hlk⟩, locs, X, eT, N, z0⟩ := H
  exact go (fun t q => XS.astore X.here hx rfl (hb hby hd) rfl hv hl q) k
theorem iinc (H : OHr p l e R s m args below meth c Z n0 own nm code maxL ret T h ce sl) {k : Nat} {cst : Int} {x : Int32} (d : Int32) (l' : Array Slot) (hd : decode code pc = .ok (.iinc k cst, 3)) (hl : Ls[k]? = some (.val (.int x))) (hv : Int32.ofInt cst = d) (hl' : storeLocals Ls k (.int (x + d)) = some l') (k : OEnds p e below s n0 Q C S T (mkF m (pc + 3) l' (st))) : OEnds p e below s n0 Q C S T (mkF m pc Ls (st)) := by
  obtain ⟨⟨hx, hZ, hby, hml, hown, hnm, hrt, hlk⟩, locs, X, eT, N, z0⟩ := H
  exact go (fun t q => XS.iinc X.here hx rfl (hb hby hd) hl (by rw [hv]; exact hl') q) k
theorem iinc_c (H : OHr p l e R s m args below meth c Z n0 own nm code maxL ret T h ce sl) {k : Nat} {cst : Int} {x : Int32} (r : Int32) (l' : Array Slot) (hd : decode code pc = .ok (.iinc k cst, 3)) (hl : Ls[k]? = some (.val (.int x))) (hr : x + Int32.ofInt cst = r) (hl' : storeLocals Ls k (.int r) = some l') (kk : OEnds p e below s n0 Q C S T (mkF m (pc + 3) l' st)) : OEnds p e below s n0 Q C S T (mkF m pc Ls st) := by
  subst hr
  exact iinc H _ l' hd hl rfl hl' kk
theorem iconst (H : OHr p l e R s m args below meth c Z n0 own nm code maxL ret T h ce sl) {i : Int} (v : Int32) (hd : decode code pc = .ok (.iconst i, 1)) (hv : Int32.ofInt i = v) (k : OEnds p e below s n0 Q C S T (mkF m (pc + 1) Ls (.int v :: st))) : OEnds p e below s n0 Q C S T (mkF m pc Ls st) := by
  obtain ⟨⟨hx, hZ, hby, hml, hown, hnm, hrt, hlk⟩, locs, X, eT, N, z0⟩ := H
  subst hv
  exact go (fun t q => XS.iconst X.here hx rfl (hb hby hd) q) k
theorem bipush (H : OHr p l e R s m args below meth c Z n0 own nm code maxL ret T h ce sl) {i : Int} (v : Int32) (hd : decode code pc = .ok (.bipush i, 2)) (hv : (Int8.ofInt i).toInt32 = v) (k : OEnds p e below s n0 Q C S T (mkF m (pc + 2) Ls (.int v :: st))) : OEnds p e below s n0 Q C S T (mkF m pc Ls st) := by
  obtain ⟨⟨hx, hZ, hby, hml, hown, hnm, hrt, hlk⟩, locs, X, eT, N, z0⟩ := H
  subst hv
  exact go (fun t q => XS.bipush X.here hx rfl (hb hby hd) q) k
theorem sipush (H : OHr p l e R s m args below meth c Z n0 own nm code maxL ret T h ce sl) {i : Int} (v : Int32) (hd : decode code pc = .ok (.sipush i, 3)) (hv : (Int16.ofInt i).toInt32 = v) (k : OEnds p e below s n0 Q C S T (mkF m (pc + 3) Ls (.int v :: st))) : OEnds p e below s n0 Q C S T (mkF m pc Ls st) := by
  obtain ⟨⟨hx, hZ, hby, hml, hown, hnm, hrt, hlk⟩, locs, X, eT, N, z0⟩ := H
  subst hv
  exact go (fun t q => XS.sipush X.here hx rfl (hb hby hd) q) k
theorem lconst (H : OHr p l e R s m args below meth c Z n0 own nm code maxL ret T h ce sl) {i : Fin 2} (v : Int64) (hd : decode code pc = .ok (.lconst i, 1)) (hv : Int64.ofNat i = v) (k : OEnds p e below s n0 Q C S T (mkF m (pc + 1) Ls (.long v :: st))) : OEnds p e below s n0 Q C S T (mkF m pc Ls st) := by
  obtain ⟨⟨hx, hZ, hby, hml, hown, hnm, hrt, hlk⟩, locs, X, eT, N, z0⟩ := H
  subst hv
  exact go (fun t q => XT.lconst X.here hx rfl (hb hby hd) q) k
theorem aconst_null (H : OHr p l e R s m args below meth c Z n0 own nm code maxL ret T h ce sl)  (hd : decode code pc = .ok (.aconst_null, 1))  (k : OEnds p e below s n0 Q C S T (mkF m (pc + 1) Ls (.null :: st))) : OEnds p e below s n0 Q C S T (mkF m pc Ls (st)) := by
  obtain ⟨⟨hx, hZ, hby, hml, hown, hnm, hrt, hlk⟩, locs, X, eT, N, z0⟩ := H
  exact go (fun t q => XS.aconstNull X.here hx rfl (hb hby hd) q) k
theorem ldc (H : OHr p l e R s m args below meth c Z n0 own nm code maxL ret T h ce sl) {i : Nat} {v : Int32} (hd : decode code pc = .ok (.ldc i, 2)) (w : (Cond.constant own i v).before a0 Z = true) (k : OEnds p e below s n0 Q C S T (mkF m (pc + 2) Ls (.int v :: st))) : OEnds p e below s n0 Q C S T (mkF m pc Ls st) := by
  obtain ⟨⟨hx, hZ, hby, hml, hown, hnm, hrt, hlk⟩, locs, X, eT, N, z0⟩ := H
  exact go (X.ldcInt hx hown (mvT hZ w) rfl (hb hby hd)) k
theorem ldc2_w (H : OHr p l e R s m args below meth c Z n0 own nm code maxL ret T h ce sl) {i : Nat} {v : Int64} (hd : decode code pc = .ok (.ldc2_w i, 3)) (w : (Cond.constantLong own i v).before a0 Z = true) (k : OEnds p e below s n0 Q C S T (mkF m (pc + 3) Ls (.long v :: st))) : OEnds p e below s n0 Q C S T (mkF m pc Ls st) := by
  obtain ⟨⟨hx, hZ, hby, hml, hown, hnm, hrt, hlk⟩, locs, X, eT, N, z0⟩ := H
  exact go (X.ldc2Long hx hown (mvT hZ w) rfl (hb hby hd)) k
theorem iadd (H : OHr p l e R s m args below meth c Z n0 own nm code maxL ret T h ce sl) {x y : Int32} (hd : decode code pc = .ok (.iadd, 1))  (k : OEnds p e below s n0 Q C S T (mkF m (pc + 1) Ls (.int (x + y) :: st))) : OEnds p e below s n0 Q C S T (mkF m pc Ls (.int y :: .int x :: st)) := by
  obtain ⟨⟨hx, hZ, hby, hml, hown, hnm, hrt, hlk⟩, locs, X, eT, N, z0⟩ := H
  exact go (fun t q => XS.iadd X.here hx rfl (hb hby hd) rfl q) k
theorem isub (H : OHr p l e R s m args below meth c Z n0 own nm code maxL ret T h ce sl) {x y : Int32} (hd : decode code pc = .ok (.isub, 1))  (k : OEnds p e below s n0 Q C S T (mkF m (pc + 1) Ls (.int (x - y) :: st))) : OEnds p e below s n0 Q C S T (mkF m pc Ls (.int y :: .int x :: st)) := by
  obtain ⟨⟨hx, hZ, hby, hml, hown, hnm, hrt, hlk⟩, locs, X, eT, N, z0⟩ := H
  exact go (fun t q => XS.isub X.here hx rfl (hb hby hd) rfl q) k
theorem imul (H : OHr p l e R s m args below meth c Z n0 own nm code maxL ret T h ce sl) {x y : Int32} (hd : decode code pc = .ok (.imul, 1))  (k : OEnds p e below s n0 Q C S T (mkF m (pc + 1) Ls (.int (x * y) :: st))) : OEnds p e below s n0 Q C S T (mkF m pc Ls (.int y :: .int x :: st)) := by
  obtain ⟨⟨hx, hZ, hby, hml, hown, hnm, hrt, hlk⟩, locs, X, eT, N, z0⟩ := H
  exact go (fun t q => XS.imul X.here hx rfl (hb hby hd) rfl q) k
theorem iand (H : OHr p l e R s m args below meth c Z n0 own nm code maxL ret T h ce sl) {x y : Int32} (hd : decode code pc = .ok (.iand, 1))  (k : OEnds p e below s n0 Q C S T (mkF m (pc + 1) Ls (.int (x &&& y) :: st))) : OEnds p e below s n0 Q C S T (mkF m pc Ls (.int y :: .int x :: st)) := by
  obtain ⟨⟨hx, hZ, hby, hml, hown, hnm, hrt, hlk⟩, locs, X, eT, N, z0⟩ := H
  exact go (fun t q => XS.iand X.here hx rfl (hb hby hd) rfl q) k
theorem ior (H : OHr p l e R s m args below meth c Z n0 own nm code maxL ret T h ce sl) {x y : Int32} (hd : decode code pc = .ok (.ior, 1))  (k : OEnds p e below s n0 Q C S T (mkF m (pc + 1) Ls (.int (x ||| y) :: st))) : OEnds p e below s n0 Q C S T (mkF m pc Ls (.int y :: .int x :: st)) := by
  obtain ⟨⟨hx, hZ, hby, hml, hown, hnm, hrt, hlk⟩, locs, X, eT, N, z0⟩ := H
  exact go (fun t q => XT.ior X.here hx rfl (hb hby hd) rfl q) k
theorem ixor (H : OHr p l e R s m args below meth c Z n0 own nm code maxL ret T h ce sl) {x y : Int32} (hd : decode code pc = .ok (.ixor, 1))  (k : OEnds p e below s n0 Q C S T (mkF m (pc + 1) Ls (.int (x ^^^ y) :: st))) : OEnds p e below s n0 Q C S T (mkF m pc Ls (.int y :: .int x :: st)) := by
  obtain ⟨⟨hx, hZ, hby, hml, hown, hnm, hrt, hlk⟩, locs, X, eT, N, z0⟩ := H
  exact go (fun t q => XT.ixor X.here hx rfl (hb hby hd) rfl q) k
theorem ishl (H : OHr p l e R s m args below meth c Z n0 own nm code maxL ret T h ce sl) {x y : Int32} (hd : decode code pc = .ok (.ishl, 1))  (k : OEnds p e below s n0 Q C S T (mkF m (pc + 1) Ls (.int (x <<< (y &&& 31)) :: st))) : OEnds p e below s n0 Q C S T (mkF m pc Ls (.int y :: .int x :: st)) := by
  obtain ⟨⟨hx, hZ, hby, hml, hown, hnm, hrt, hlk⟩, locs, X, eT, N, z0⟩ := H
  exact go (fun t q => XT.ishl X.here hx rfl (hb hby hd) rfl q) k
theorem ishr (H : OHr p l e R s m args below meth c Z n0 own nm code maxL ret T h ce sl) {x y : Int32} (hd : decode code pc = .ok (.ishr, 1))  (k : OEnds p e below s n0 Q C S T (mkF m (pc + 1) Ls (.int (x >>> (y &&& 31)) :: st))) : OEnds p e below s n0 Q C S T (mkF m pc Ls (.int y :: .int x :: st)) := by
  obtain ⟨⟨hx, hZ, hby, hml, hown, hnm, hrt, hlk⟩, locs, X, eT, N, z0⟩ := H
  exact go (fun t q => XT.ishr X.here hx rfl (hb hby hd) rfl q) k
theorem iushr (H : OHr p l e R s m args below meth c Z n0 own nm code maxL ret T h ce sl) {x y : Int32} (hd : decode code pc = .ok (.iushr, 1))  (k : OEnds p e below s n0 Q C S T (mkF m (pc + 1) Ls (.int (XT.ushr x y) :: st))) : OEnds p e below s n0 Q C S T (mkF m pc Ls (.int y :: .int x :: st)) := by
  obtain ⟨⟨hx, hZ, hby, hml, hown, hnm, hrt, hlk⟩, locs, X, eT, N, z0⟩ := H
  exact go (fun t q => XT.iushr X.here hx rfl (hb hby hd) rfl q) k
theorem idiv (H : OHr p l e R s m args below meth c Z n0 own nm code maxL ret T h ce sl) {x y : Int32} (hd : decode code pc = .ok (.idiv, 1)) (hy : y ≠ 0) (k : OEnds p e below s n0 Q C S T (mkF m (pc + 1) Ls (.int (x / y) :: st))) : OEnds p e below s n0 Q C S T (mkF m pc Ls (.int y :: .int x :: st)) := by
  obtain ⟨⟨hx, hZ, hby, hml, hown, hnm, hrt, hlk⟩, locs, X, eT, N, z0⟩ := H
  exact go (fun t q => XS.idiv X.here hx rfl (hb hby hd) rfl hy q) k
theorem irem (H : OHr p l e R s m args below meth c Z n0 own nm code maxL ret T h ce sl) {x y : Int32} (hd : decode code pc = .ok (.irem, 1)) (hy : y ≠ 0) (k : OEnds p e below s n0 Q C S T (mkF m (pc + 1) Ls (.int (x % y) :: st))) : OEnds p e below s n0 Q C S T (mkF m pc Ls (.int y :: .int x :: st)) := by
  obtain ⟨⟨hx, hZ, hby, hml, hown, hnm, hrt, hlk⟩, locs, X, eT, N, z0⟩ := H
  exact go (fun t q => iremM X hx rfl (hb hby hd) rfl hy q) k
theorem iadd_c (H : OHr p l e R s m args below meth c Z n0 own nm code maxL ret T h ce sl) {x y : Int32} (r : Int32) (hd : decode code pc = .ok (.iadd, 1)) (hr : x + y = r) (k : OEnds p e below s n0 Q C S T (mkF m (pc + 1) Ls (.int r :: st))) : OEnds p e below s n0 Q C S T (mkF m pc Ls (.int y :: .int x :: st)) := by
  subst hr
  exact iadd H hd k
theorem isub_c (H : OHr p l e R s m args below meth c Z n0 own nm code maxL ret T h ce sl) {x y : Int32} (r : Int32) (hd : decode code pc = .ok (.isub, 1)) (hr : x - y = r) (k : OEnds p e below s n0 Q C S T (mkF m (pc + 1) Ls (.int r :: st))) : OEnds p e below s n0 Q C S T (mkF m pc Ls (.int y :: .int x :: st)) := by
  subst hr
  exact isub H hd k
theorem imul_c (H : OHr p l e R s m args below meth c Z n0 own nm code maxL ret T h ce sl) {x y : Int32} (r : Int32) (hd : decode code pc = .ok (.imul, 1)) (hr : x * y = r) (k : OEnds p e below s n0 Q C S T (mkF m (pc + 1) Ls (.int r :: st))) : OEnds p e below s n0 Q C S T (mkF m pc Ls (.int y :: .int x :: st)) := by
  subst hr
  exact imul H hd k
theorem iand_c (H : OHr p l e R s m args below meth c Z n0 own nm code maxL ret T h ce sl) {x y : Int32} (r : Int32) (hd : decode code pc = .ok (.iand, 1)) (hr : x &&& y = r) (k : OEnds p e below s n0 Q C S T (mkF m (pc + 1) Ls (.int r :: st))) : OEnds p e below s n0 Q C S T (mkF m pc Ls (.int y :: .int x :: st)) := by
  subst hr
  exact iand H hd k
theorem ior_c (H : OHr p l e R s m args below meth c Z n0 own nm code maxL ret T h ce sl) {x y : Int32} (r : Int32) (hd : decode code pc = .ok (.ior, 1)) (hr : x ||| y = r) (k : OEnds p e below s n0 Q C S T (mkF m (pc + 1) Ls (.int r :: st))) : OEnds p e below s n0 Q C S T (mkF m pc Ls (.int y :: .int x :: st)) := by
  subst hr
  exact ior H hd k
theorem ixor_c (H : OHr p l e R s m args below meth c Z n0 own nm code maxL ret T h ce sl) {x y : Int32} (r : Int32) (hd : decode code pc = .ok (.ixor, 1)) (hr : x ^^^ y = r) (k : OEnds p e below s n0 Q C S T (mkF m (pc + 1) Ls (.int r :: st))) : OEnds p e below s n0 Q C S T (mkF m pc Ls (.int y :: .int x :: st)) := by
  subst hr
  exact ixor H hd k
theorem ishl_c (H : OHr p l e R s m args below meth c Z n0 own nm code maxL ret T h ce sl) {x y : Int32} (r : Int32) (hd : decode code pc = .ok (.ishl, 1)) (hr : x <<< (y &&& 31) = r) (k : OEnds p e below s n0 Q C S T (mkF m (pc + 1) Ls (.int r :: st))) : OEnds p e below s n0 Q C S T (mkF m pc Ls (.int y :: .int x :: st)) := by
  subst hr
  exact ishl H hd k
theorem ishr_c (H : OHr p l e R s m args below meth c Z n0 own nm code maxL ret T h ce sl) {x y : Int32} (r : Int32) (hd : decode code pc = .ok (.ishr, 1)) (hr : x >>> (y &&& 31) = r) (k : OEnds p e below s n0 Q C S T (mkF m (pc + 1) Ls (.int r :: st))) : OEnds p e below s n0 Q C S T (mkF m pc Ls (.int y :: .int x :: st)) := by
  subst hr
  exact ishr H hd k
theorem iushr_c (H : OHr p l e R s m args below meth c Z n0 own nm code maxL ret T h ce sl) {x y : Int32} (r : Int32) (hd : decode code pc = .ok (.iushr, 1)) (hr : XT.ushr x y = r) (k : OEnds p e below s n0 Q C S T (mkF m (pc + 1) Ls (.int r :: st))) : OEnds p e below s n0 Q C S T (mkF m pc Ls (.int y :: .int x :: st)) := by
  subst hr
  exact iushr H hd k
theorem idiv_c (H : OHr p l e R s m args below meth c Z n0 own nm code maxL ret T h ce sl) {x y : Int32} (r : Int32) (hd : decode code pc = .ok (.idiv, 1)) (hy : y ≠ 0) (hr : x / y = r) (k : OEnds p e below s n0 Q C S T (mkF m (pc + 1) Ls (.int r :: st))) : OEnds p e below s n0 Q C S T (mkF m pc Ls (.int y :: .int x :: st)) := by
  subst hr
  exact idiv H hd hy k
theorem irem_c (H : OHr p l e R s m args below meth c Z n0 own nm code maxL ret T h ce sl) {x y : Int32} (r : Int32) (hd : decode code pc = .ok (.irem, 1)) (hy : y ≠ 0) (hr : x % y = r) (k : OEnds p e below s n0 Q C S T (mkF m (pc + 1) Ls (.int r :: st))) : OEnds p e below s n0 Q C S T (mkF m pc Ls (.int y :: .int x :: st)) := by
  subst hr
  exact irem H hd hy k
theorem ineg (H : OHr p l e R s m args below meth c Z n0 own nm code maxL ret T h ce sl) {x : Int32} (hd : decode code pc = .ok (.ineg, 1))  (k : OEnds p e below s n0 Q C S T (mkF m (pc + 1) Ls (.int (-x) :: st))) : OEnds p e below s n0 Q C S T (mkF m pc Ls (.int x :: st)) := by
  obtain ⟨⟨hx, hZ, hby, hml, hown, hnm, hrt, hlk⟩, locs, X, eT, N, z0⟩ := H
  exact go (fun t q => XS.ineg X.here hx rfl (hb hby hd) rfl q) k
theorem ladd (H : OHr p l e R s m args below meth c Z n0 own nm code maxL ret T h ce sl) {x y : Int64} (hd : decode code pc = .ok (.ladd, 1))  (k : OEnds p e below s n0 Q C S T (mkF m (pc + 1) Ls (.long (x + y) :: st))) : OEnds p e below s n0 Q C S T (mkF m pc Ls (.long y :: .long x :: st)) := by
  obtain ⟨⟨hx, hZ, hby, hml, hown, hnm, hrt, hlk⟩, locs, X, eT, N, z0⟩ := H
  exact go (fun t q => XT.ladd X.here hx rfl (hb hby hd) rfl q) k
theorem lsub (H : OHr p l e R s m args below meth c Z n0 own nm code maxL ret T h ce sl) {x y : Int64} (hd : decode code pc = .ok (.lsub, 1))  (k : OEnds p e below s n0 Q C S T (mkF m (pc + 1) Ls (.long (x - y) :: st))) : OEnds p e below s n0 Q C S T (mkF m pc Ls (.long y :: .long x :: st)) := by
  obtain ⟨⟨hx, hZ, hby, hml, hown, hnm, hrt, hlk⟩, locs, X, eT, N, z0⟩ := H
  exact go (fun t q => XT.lsub X.here hx rfl (hb hby hd) rfl q) k
theorem lmul (H : OHr p l e R s m args below meth c Z n0 own nm code maxL ret T h ce sl) {x y : Int64} (hd : decode code pc = .ok (.lmul, 1))  (k : OEnds p e below s n0 Q C S T (mkF m (pc + 1) Ls (.long (x * y) :: st))) : OEnds p e below s n0 Q C S T (mkF m pc Ls (.long y :: .long x :: st)) := by
  obtain ⟨⟨hx, hZ, hby, hml, hown, hnm, hrt, hlk⟩, locs, X, eT, N, z0⟩ := H
  exact go (fun t q => XT.lmul X.here hx rfl (hb hby hd) rfl q) k
theorem land (H : OHr p l e R s m args below meth c Z n0 own nm code maxL ret T h ce sl) {x y : Int64} (hd : decode code pc = .ok (.land, 1))  (k : OEnds p e below s n0 Q C S T (mkF m (pc + 1) Ls (.long (x &&& y) :: st))) : OEnds p e below s n0 Q C S T (mkF m pc Ls (.long y :: .long x :: st)) := by
  obtain ⟨⟨hx, hZ, hby, hml, hown, hnm, hrt, hlk⟩, locs, X, eT, N, z0⟩ := H
  exact go (fun t q => XT.land X.here hx rfl (hb hby hd) rfl q) k
theorem lor (H : OHr p l e R s m args below meth c Z n0 own nm code maxL ret T h ce sl) {x y : Int64} (hd : decode code pc = .ok (.lor, 1))  (k : OEnds p e below s n0 Q C S T (mkF m (pc + 1) Ls (.long (x ||| y) :: st))) : OEnds p e below s n0 Q C S T (mkF m pc Ls (.long y :: .long x :: st)) := by
  obtain ⟨⟨hx, hZ, hby, hml, hown, hnm, hrt, hlk⟩, locs, X, eT, N, z0⟩ := H
  exact go (fun t q => XT.lor X.here hx rfl (hb hby hd) rfl q) k
theorem lxor (H : OHr p l e R s m args below meth c Z n0 own nm code maxL ret T h ce sl) {x y : Int64} (hd : decode code pc = .ok (.lxor, 1))  (k : OEnds p e below s n0 Q C S T (mkF m (pc + 1) Ls (.long (x ^^^ y) :: st))) : OEnds p e below s n0 Q C S T (mkF m pc Ls (.long y :: .long x :: st)) := by
  obtain ⟨⟨hx, hZ, hby, hml, hown, hnm, hrt, hlk⟩, locs, X, eT, N, z0⟩ := H
  exact go (fun t q => XT.lxor X.here hx rfl (hb hby hd) rfl q) k
theorem lshl (H : OHr p l e R s m args below meth c Z n0 own nm code maxL ret T h ce sl) {x : Int64} {y : Int32} (hd : decode code pc = .ok (.lshl, 1))  (k : OEnds p e below s n0 Q C S T (mkF m (pc + 1) Ls (.long (x <<< (y.toInt64 &&& 63)) :: st))) : OEnds p e below s n0 Q C S T (mkF m pc Ls (.int y :: .long x :: st)) := by
  obtain ⟨⟨hx, hZ, hby, hml, hown, hnm, hrt, hlk⟩, locs, X, eT, N, z0⟩ := H
  exact go (fun t q => XT.lshl X.here hx rfl (hb hby hd) rfl q) k
theorem lshr (H : OHr p l e R s m args below meth c Z n0 own nm code maxL ret T h ce sl) {x : Int64} {y : Int32} (hd : decode code pc = .ok (.lshr, 1))  (k : OEnds p e below s n0 Q C S T (mkF m (pc + 1) Ls (.long (x >>> (y.toInt64 &&& 63)) :: st))) : OEnds p e below s n0 Q C S T (mkF m pc Ls (.int y :: .long x :: st)) := by
  obtain ⟨⟨hx, hZ, hby, hml, hown, hnm, hrt, hlk⟩, locs, X, eT, N, z0⟩ := H
  exact go (fun t q => XT.lshr X.here hx rfl (hb hby hd) rfl q) k
theorem lushr (H : OHr p l e R s m args below meth c Z n0 own nm code maxL ret T h ce sl) {x : Int64} {y : Int32} (hd : decode code pc = .ok (.lushr, 1))  (k : OEnds p e below s n0 Q C S T (mkF m (pc + 1) Ls (.long (XT.ushrL x y) :: st))) : OEnds p e below s n0 Q C S T (mkF m pc Ls (.int y :: .long x :: st)) := by
  obtain ⟨⟨hx, hZ, hby, hml, hown, hnm, hrt, hlk⟩, locs, X, eT, N, z0⟩ := H
  exact go (fun t q => XT.lushr X.here hx rfl (hb hby hd) rfl q) k
theorem lneg (H : OHr p l e R s m args below meth c Z n0 own nm code maxL ret T h ce sl) {x : Int64} (hd : decode code pc = .ok (.lneg, 1))  (k : OEnds p e below s n0 Q C S T (mkF m (pc + 1) Ls (.long (-x) :: st))) : OEnds p e below s n0 Q C S T (mkF m pc Ls (.long x :: st)) := by
  obtain ⟨⟨hx, hZ, hby, hml, hown, hnm, hrt, hlk⟩, locs, X, eT, N, z0⟩ := H
  exact go (fun t q => XT.lneg X.here hx rfl (hb hby hd) rfl q) k
theorem i2l (H : OHr p l e R s m args below meth c Z n0 own nm code maxL ret T h ce sl) {x : Int32} (hd : decode code pc = .ok (.i2l, 1))  (k : OEnds p e below s n0 Q C S T (mkF m (pc + 1) Ls (.long x.toInt64 :: st))) : OEnds p e below s n0 Q C S T (mkF m pc Ls (.int x :: st)) := by
  obtain ⟨⟨hx, hZ, hby, hml, hown, hnm, hrt, hlk⟩, locs, X, eT, N, z0⟩ := H
  exact go (fun t q => XT.i2l X.here hx rfl (hb hby hd) rfl q) k
theorem l2i (H : OHr p l e R s m args below meth c Z n0 own nm code maxL ret T h ce sl) {x : Int64} (hd : decode code pc = .ok (.l2i, 1))  (k : OEnds p e below s n0 Q C S T (mkF m (pc + 1) Ls (.int x.toInt32 :: st))) : OEnds p e below s n0 Q C S T (mkF m pc Ls (.long x :: st)) := by
  obtain ⟨⟨hx, hZ, hby, hml, hown, hnm, hrt, hlk⟩, locs, X, eT, N, z0⟩ := H
  exact go (fun t q => XT.l2i X.here hx rfl (hb hby hd) rfl q) k
theorem i2b (H : OHr p l e R s m args below meth c Z n0 own nm code maxL ret T h ce sl) {x : Int32} (hd : decode code pc = .ok (.i2b, 1))  (k : OEnds p e below s n0 Q C S T (mkF m (pc + 1) Ls (.int x.toInt8.toInt32 :: st))) : OEnds p e below s n0 Q C S T (mkF m pc Ls (.int x :: st)) := by
  obtain ⟨⟨hx, hZ, hby, hml, hown, hnm, hrt, hlk⟩, locs, X, eT, N, z0⟩ := H
  exact go (fun t q => XT.i2b X.here hx rfl (hb hby hd) rfl q) k
theorem i2c (H : OHr p l e R s m args below meth c Z n0 own nm code maxL ret T h ce sl) {x : Int32} (hd : decode code pc = .ok (.i2c, 1))  (k : OEnds p e below s n0 Q C S T (mkF m (pc + 1) Ls (.int x.toUInt32.toUInt16.toUInt32.toInt32 :: st))) : OEnds p e below s n0 Q C S T (mkF m pc Ls (.int x :: st)) := by
  obtain ⟨⟨hx, hZ, hby, hml, hown, hnm, hrt, hlk⟩, locs, X, eT, N, z0⟩ := H
  exact go (fun t q => XT.i2c X.here hx rfl (hb hby hd) rfl q) k
theorem lcmp (H : OHr p l e R s m args below meth c Z n0 own nm code maxL ret T h ce sl) {x y : Int64} (hd : decode code pc = .ok (.lcmp, 1))  (k : OEnds p e below s n0 Q C S T (mkF m (pc + 1) Ls (.int (XT.cmpL x y) :: st))) : OEnds p e below s n0 Q C S T (mkF m pc Ls (.long y :: .long x :: st)) := by
  obtain ⟨⟨hx, hZ, hby, hml, hown, hnm, hrt, hlk⟩, locs, X, eT, N, z0⟩ := H
  exact go (fun t q => XT.lcmp X.here hx rfl (hb hby hd) rfl q) k
theorem dup (H : OHr p l e R s m args below meth c Z n0 own nm code maxL ret T h ce sl) {x : Value} (hd : decode code pc = .ok (.dup, 1)) (hc : x.category = 1) (k : OEnds p e below s n0 Q C S T (mkF m (pc + 1) Ls (x :: x :: st))) : OEnds p e below s n0 Q C S T (mkF m pc Ls (x :: st)) := by
  obtain ⟨⟨hx, hZ, hby, hml, hown, hnm, hrt, hlk⟩, locs, X, eT, N, z0⟩ := H
  exact go (fun t q => XS.dup X.here hx rfl (hb hby hd) rfl hc q) k
theorem pop (H : OHr p l e R s m args below meth c Z n0 own nm code maxL ret T h ce sl) {x : Value} (hd : decode code pc = .ok (.pop, 1)) (hc : x.category = 1) (k : OEnds p e below s n0 Q C S T (mkF m (pc + 1) Ls (st))) : OEnds p e below s n0 Q C S T (mkF m pc Ls (x :: st)) := by
  obtain ⟨⟨hx, hZ, hby, hml, hown, hnm, hrt, hlk⟩, locs, X, eT, N, z0⟩ := H
  exact go (fun t q => XT.pop X.here hx rfl (hb hby hd) rfl hc q) k
theorem dup_x1 (H : OHr p l e R s m args below meth c Z n0 own nm code maxL ret T h ce sl) {x y : Value} (hd : decode code pc = .ok (.dup_x1, 1)) (hc : x.category = 1) (hc' : y.category = 1) (k : OEnds p e below s n0 Q C S T (mkF m (pc + 1) Ls (x :: y :: x :: st))) : OEnds p e below s n0 Q C S T (mkF m pc Ls (x :: y :: st)) := by
  obtain ⟨⟨hx, hZ, hby, hml, hown, hnm, hrt, hlk⟩, locs, X, eT, N, z0⟩ := H
  exact go (fun t q => XT.dupX1 X.here hx rfl (hb hby hd) rfl hc hc' q) k
theorem dup2 (H : OHr p l e R s m args below meth c Z n0 own nm code maxL ret T h ce sl) {x y : Value} (hd : decode code pc = .ok (.dup2, 1)) (hc : x.category = 1) (hc' : y.category = 1) (k : OEnds p e below s n0 Q C S T (mkF m (pc + 1) Ls (x :: y :: x :: y :: st))) : OEnds p e below s n0 Q C S T (mkF m pc Ls (x :: y :: st)) := by
  obtain ⟨⟨hx, hZ, hby, hml, hown, hnm, hrt, hlk⟩, locs, X, eT, N, z0⟩ := H
  exact go (fun t q => XT.dup2 X.here hx rfl (hb hby hd) rfl hc hc' q) k
theorem goto (H : OHr p l e R s m args below meth c Z n0 own nm code maxL ret T h ce sl) {o : Int} (pc' : Nat) (hd : decode code pc = .ok (.goto o, 3)) (ho : 0 ≤ (pc : Int) + o) (hp : ((pc : Int) + o).toNat = pc') (k : OEnds p e below s n0 Q C S T (mkF m pc' Ls st)) : OEnds p e below s n0 Q C S T (mkF m pc Ls st) := by
  obtain ⟨⟨hx, hZ, hby, hml, hown, hnm, hrt, hlk⟩, locs, X, eT, N, z0⟩ := H
  exact go (fun t q => XS.goto X.here hx rfl rfl (hb hby hd) ho hp q) k
theorem icmp_lt (H : OHr p l e R s m args below meth c Z n0 own nm code maxL ret T h ce sl) {x y : Int32} {o : Int} (pc' : Nat) (hd : decode code pc = .ok (.if_icmp .lt o, 3)) (ho : 0 ≤ (pc : Int) + o) (hp : ((pc : Int) + o).toNat = pc') (kt : x < y → OEnds p e below s n0 Q C S T (mkF m pc' Ls st)) (kf : ¬ x < y → OEnds p e below s n0 Q C S T (mkF m (pc + 3) Ls st)) : OEnds p e below s n0 Q C S T (mkF m pc Ls (.int y :: .int x :: st)) := by
  obtain ⟨⟨hx, hZ, hby, hml, hown, hnm, hrt, hlk⟩, locs, X, eT, N, z0⟩ := H
  by_cases q : x < y
  · exact go (fun t r => XS.icmpYes X.here hx rfl rfl (hb hby hd) rfl (tlt q).1 ho hp r) (kt q)
  · exact go (fun t r => XS.icmpNo X.here hx rfl (hb hby hd) rfl (flt q).1 r) (kf q)
theorem if_lt (H : OHr p l e R s m args below meth c Z n0 own nm code maxL ret T h ce sl) {x : Int32} {o : Int} (pc' : Nat) (hd : decode code pc = .ok (.ifCond .lt o, 3)) (ho : 0 ≤ (pc : Int) + o) (hp : ((pc : Int) + o).toNat = pc') (kt : x < (0 : Int32) → OEnds p e below s n0 Q C S T (mkF m pc' Ls st)) (kf : ¬ x < (0 : Int32) → OEnds p e below s n0 Q C S T (mkF m (pc + 3) Ls st)) : OEnds p e below s n0 Q C S T (mkF m pc Ls (.int x :: st)) := by
  obtain ⟨⟨hx, hZ, hby, hml, hown, hnm, hrt, hlk⟩, locs, X, eT, N, z0⟩ := H
  by_cases q : x < (0 : Int32)
  · exact go (fun t r => XS.ifYes X.here hx rfl rfl (hb hby hd) rfl ((if0 _ _).trans (tlt q).1) ho hp r) (kt q)
  · exact go (fun t r => XS.ifNo X.here hx rfl (hb hby hd) rfl ((if0 _ _).trans (flt q).1) r) (kf q)
theorem icmp_ge (H : OHr p l e R s m args below meth c Z n0 own nm code maxL ret T h ce sl) {x y : Int32} {o : Int} (pc' : Nat) (hd : decode code pc = .ok (.if_icmp .ge o, 3)) (ho : 0 ≤ (pc : Int) + o) (hp : ((pc : Int) + o).toNat = pc') (kt : ¬ x < y → OEnds p e below s n0 Q C S T (mkF m pc' Ls st)) (kf : x < y → OEnds p e below s n0 Q C S T (mkF m (pc + 3) Ls st)) : OEnds p e below s n0 Q C S T (mkF m pc Ls (.int y :: .int x :: st)) := by
  obtain ⟨⟨hx, hZ, hby, hml, hown, hnm, hrt, hlk⟩, locs, X, eT, N, z0⟩ := H
  by_cases q : x < y
  · exact go (fun t r => XS.icmpNo X.here hx rfl (hb hby hd) rfl (tlt q).2.1 r) (kf q)
  · exact go (fun t r => XS.icmpYes X.here hx rfl rfl (hb hby hd) rfl (flt q).2.1 ho hp r) (kt q)
theorem if_ge (H : OHr p l e R s m args below meth c Z n0 own nm code maxL ret T h ce sl) {x : Int32} {o : Int} (pc' : Nat) (hd : decode code pc = .ok (.ifCond .ge o, 3)) (ho : 0 ≤ (pc : Int) + o) (hp : ((pc : Int) + o).toNat = pc') (kt : ¬ x < (0 : Int32) → OEnds p e below s n0 Q C S T (mkF m pc' Ls st)) (kf : x < (0 : Int32) → OEnds p e below s n0 Q C S T (mkF m (pc + 3) Ls st)) : OEnds p e below s n0 Q C S T (mkF m pc Ls (.int x :: st)) := by
  obtain ⟨⟨hx, hZ, hby, hml, hown, hnm, hrt, hlk⟩, locs, X, eT, N, z0⟩ := H
  by_cases q : x < (0 : Int32)
  · exact go (fun t r => XS.ifNo X.here hx rfl (hb hby hd) rfl ((if0 _ _).trans (tlt q).2.1) r) (kf q)
  · exact go (fun t r => XS.ifYes X.here hx rfl rfl (hb hby hd) rfl ((if0 _ _).trans (flt q).2.1) ho hp r) (kt q)
theorem icmp_gt (H : OHr p l e R s m args below meth c Z n0 own nm code maxL ret T h ce sl) {x y : Int32} {o : Int} (pc' : Nat) (hd : decode code pc = .ok (.if_icmp .gt o, 3)) (ho : 0 ≤ (pc : Int) + o) (hp : ((pc : Int) + o).toNat = pc') (kt : y < x → OEnds p e below s n0 Q C S T (mkF m pc' Ls st)) (kf : ¬ y < x → OEnds p e below s n0 Q C S T (mkF m (pc + 3) Ls st)) : OEnds p e below s n0 Q C S T (mkF m pc Ls (.int y :: .int x :: st)) := by
  obtain ⟨⟨hx, hZ, hby, hml, hown, hnm, hrt, hlk⟩, locs, X, eT, N, z0⟩ := H
  by_cases q : y < x
  · exact go (fun t r => XS.icmpYes X.here hx rfl rfl (hb hby hd) rfl (tlt q).2.2.1 ho hp r) (kt q)
  · exact go (fun t r => XS.icmpNo X.here hx rfl (hb hby hd) rfl (flt q).2.2.1 r) (kf q)
theorem if_gt (H : OHr p l e R s m args below meth c Z n0 own nm code maxL ret T h ce sl) {x : Int32} {o : Int} (pc' : Nat) (hd : decode code pc = .ok (.ifCond .gt o, 3)) (ho : 0 ≤ (pc : Int) + o) (hp : ((pc : Int) + o).toNat = pc') (kt : (0 : Int32) < x → OEnds p e below s n0 Q C S T (mkF m pc' Ls st)) (kf : ¬ (0 : Int32) < x → OEnds p e below s n0 Q C S T (mkF m (pc + 3) Ls st)) : OEnds p e below s n0 Q C S T (mkF m pc Ls (.int x :: st)) := by
  obtain ⟨⟨hx, hZ, hby, hml, hown, hnm, hrt, hlk⟩, locs, X, eT, N, z0⟩ := H
  by_cases q : (0 : Int32) < x
  · exact go (fun t r => XS.ifYes X.here hx rfl rfl (hb hby hd) rfl ((if0 _ _).trans (tlt q).2.2.1) ho hp r) (kt q)
  · exact go (fun t r => XS.ifNo X.here hx rfl (hb hby hd) rfl ((if0 _ _).trans (flt q).2.2.1) r) (kf q)
theorem icmp_le (H : OHr p l e R s m args below meth c Z n0 own nm code maxL ret T h ce sl) {x y : Int32} {o : Int} (pc' : Nat) (hd : decode code pc = .ok (.if_icmp .le o, 3)) (ho : 0 ≤ (pc : Int) + o) (hp : ((pc : Int) + o).toNat = pc') (kt : ¬ y < x → OEnds p e below s n0 Q C S T (mkF m pc' Ls st)) (kf : y < x → OEnds p e below s n0 Q C S T (mkF m (pc + 3) Ls st)) : OEnds p e below s n0 Q C S T (mkF m pc Ls (.int y :: .int x :: st)) := by
  obtain ⟨⟨hx, hZ, hby, hml, hown, hnm, hrt, hlk⟩, locs, X, eT, N, z0⟩ := H
  by_cases q : y < x
  · exact go (fun t r => XS.icmpNo X.here hx rfl (hb hby hd) rfl (tlt q).2.2.2 r) (kf q)
  · exact go (fun t r => XS.icmpYes X.here hx rfl rfl (hb hby hd) rfl (flt q).2.2.2 ho hp r) (kt q)
theorem if_le (H : OHr p l e R s m args below meth c Z n0 own nm code maxL ret T h ce sl) {x : Int32} {o : Int} (pc' : Nat) (hd : decode code pc = .ok (.ifCond .le o, 3)) (ho : 0 ≤ (pc : Int) + o) (hp : ((pc : Int) + o).toNat = pc') (kt : ¬ (0 : Int32) < x → OEnds p e below s n0 Q C S T (mkF m pc' Ls st)) (kf : (0 : Int32) < x → OEnds p e below s n0 Q C S T (mkF m (pc + 3) Ls st)) : OEnds p e below s n0 Q C S T (mkF m pc Ls (.int x :: st)) := by
  obtain ⟨⟨hx, hZ, hby, hml, hown, hnm, hrt, hlk⟩, locs, X, eT, N, z0⟩ := H
  by_cases q : (0 : Int32) < x
  · exact go (fun t r => XS.ifNo X.here hx rfl (hb hby hd) rfl ((if0 _ _).trans (tlt q).2.2.2) r) (kf q)
  · exact go (fun t r => XS.ifYes X.here hx rfl rfl (hb hby hd) rfl ((if0 _ _).trans (flt q).2.2.2) ho hp r) (kt q)
theorem icmp_eq (H : OHr p l e R s m args below meth c Z n0 own nm code maxL ret T h ce sl) {x y : Int32} {o : Int} (pc' : Nat) (hd : decode code pc = .ok (.if_icmp .eq o, 3)) (ho : 0 ≤ (pc : Int) + o) (hp : ((pc : Int) + o).toNat = pc') (kt : x = y → OEnds p e below s n0 Q C S T (mkF m pc' Ls st)) (kf : ¬ x = y → OEnds p e below s n0 Q C S T (mkF m (pc + 3) Ls st)) : OEnds p e below s n0 Q C S T (mkF m pc Ls (.int y :: .int x :: st)) := by
  obtain ⟨⟨hx, hZ, hby, hml, hown, hnm, hrt, hlk⟩, locs, X, eT, N, z0⟩ := H
  by_cases q : x = y
  · exact go (fun t r => XS.icmpYes X.here hx rfl rfl (hb hby hd) rfl (teq q).1 ho hp r) (kt q)
  · exact go (fun t r => XS.icmpNo X.here hx rfl (hb hby hd) rfl (feq q).1 r) (kf q)
theorem if_eq (H : OHr p l e R s m args below meth c Z n0 own nm code maxL ret T h ce sl) {x : Int32} {o : Int} (pc' : Nat) (hd : decode code pc = .ok (.ifCond .eq o, 3)) (ho : 0 ≤ (pc : Int) + o) (hp : ((pc : Int) + o).toNat = pc') (kt : x = (0 : Int32) → OEnds p e below s n0 Q C S T (mkF m pc' Ls st)) (kf : ¬ x = (0 : Int32) → OEnds p e below s n0 Q C S T (mkF m (pc + 3) Ls st)) : OEnds p e below s n0 Q C S T (mkF m pc Ls (.int x :: st)) := by
  obtain ⟨⟨hx, hZ, hby, hml, hown, hnm, hrt, hlk⟩, locs, X, eT, N, z0⟩ := H
  by_cases q : x = (0 : Int32)
  · exact go (fun t r => XS.ifYes X.here hx rfl rfl (hb hby hd) rfl ((if0 _ _).trans (teq q).1) ho hp r) (kt q)
  · exact go (fun t r => XS.ifNo X.here hx rfl (hb hby hd) rfl ((if0 _ _).trans (feq q).1) r) (kf q)
theorem icmp_ne (H : OHr p l e R s m args below meth c Z n0 own nm code maxL ret T h ce sl) {x y : Int32} {o : Int} (pc' : Nat) (hd : decode code pc = .ok (.if_icmp .ne o, 3)) (ho : 0 ≤ (pc : Int) + o) (hp : ((pc : Int) + o).toNat = pc') (kt : ¬ x = y → OEnds p e below s n0 Q C S T (mkF m pc' Ls st)) (kf : x = y → OEnds p e below s n0 Q C S T (mkF m (pc + 3) Ls st)) : OEnds p e below s n0 Q C S T (mkF m pc Ls (.int y :: .int x :: st)) := by
  obtain ⟨⟨hx, hZ, hby, hml, hown, hnm, hrt, hlk⟩, locs, X, eT, N, z0⟩ := H
  by_cases q : x = y
  · exact go (fun t r => XS.icmpNo X.here hx rfl (hb hby hd) rfl (teq q).2 r) (kf q)
  · exact go (fun t r => XS.icmpYes X.here hx rfl rfl (hb hby hd) rfl (feq q).2 ho hp r) (kt q)
theorem if_ne (H : OHr p l e R s m args below meth c Z n0 own nm code maxL ret T h ce sl) {x : Int32} {o : Int} (pc' : Nat) (hd : decode code pc = .ok (.ifCond .ne o, 3)) (ho : 0 ≤ (pc : Int) + o) (hp : ((pc : Int) + o).toNat = pc') (kt : ¬ x = (0 : Int32) → OEnds p e below s n0 Q C S T (mkF m pc' Ls st)) (kf : x = (0 : Int32) → OEnds p e below s n0 Q C S T (mkF m (pc + 3) Ls st)) : OEnds p e below s n0 Q C S T (mkF m pc Ls (.int x :: st)) := by
  obtain ⟨⟨hx, hZ, hby, hml, hown, hnm, hrt, hlk⟩, locs, X, eT, N, z0⟩ := H
  by_cases q : x = (0 : Int32)
  · exact go (fun t r => XS.ifNo X.here hx rfl (hb hby hd) rfl ((if0 _ _).trans (teq q).2) r) (kf q)
  · exact go (fun t r => XS.ifYes X.here hx rfl rfl (hb hby hd) rfl ((if0 _ _).trans (feq q).2) ho hp r) (kt q)
theorem ifnull_ref (H : OHr p l e R s m args below meth c Z n0 own nm code maxL ret T h ce sl) {o : Int} {b : Addr} (hd : decode code pc = .ok (.ifnull o, 3)) (k : OEnds p e below s n0 Q C S T (mkF m (pc + 3) Ls st)) : OEnds p e below s n0 Q C S T (mkF m pc Ls (.ref b :: st)) := by
  obtain ⟨⟨hx, hZ, hby, hml, hown, hnm, hrt, hlk⟩, locs, X, eT, N, z0⟩ := H
  exact go (fun t q => XS.ifnullNo X.here hx rfl (hb hby hd) rfl q) k
theorem ifnonnull_ref (H : OHr p l e R s m args below meth c Z n0 own nm code maxL ret T h ce sl) {o : Int} {b : Addr} (pc' : Nat) (hd : decode code pc = .ok (.ifnonnull o, 3)) (ho : 0 ≤ (pc : Int) + o) (hp : ((pc : Int) + o).toNat = pc') (k : OEnds p e below s n0 Q C S T (mkF m pc' Ls st)) : OEnds p e below s n0 Q C S T (mkF m pc Ls (.ref b :: st)) := by
  obtain ⟨⟨hx, hZ, hby, hml, hown, hnm, hrt, hlk⟩, locs, X, eT, N, z0⟩ := H
  exact go (fun t q => XT.ifnonnullYes X.here hx rfl rfl (hb hby hd) rfl ho hp q) k
theorem acmp_ne (H : OHr p l e R s m args below meth c Z n0 own nm code maxL ret T h ce sl) {x y : Value} {o : Int} (pc' : Nat) (hd : decode code pc = .ok (.if_acmp .ne o, 3)) (h1 : x.isRef = true) (h2 : y.isRef = true) (ho : 0 ≤ (pc : Int) + o) (hp : ((pc : Int) + o).toNat = pc') (kt : ¬ x = y → OEnds p e below s n0 Q C S T (mkF m pc' Ls st)) (kf : x = y → OEnds p e below s n0 Q C S T (mkF m (pc + 3) Ls st)) : OEnds p e below s n0 Q C S T (mkF m pc Ls (y :: x :: st)) := by
  obtain ⟨⟨hx, hZ, hby, hml, hown, hnm, hrt, hlk⟩, locs, X, eT, N, z0⟩ := H
  by_cases q : x = y
  · exact go (fun t r => XT.acmpNo X.here hx rfl (hb hby hd) rfl h1 h2 (by simp [XT.acmp, q]) r) (kf q)
  · exact go (fun t r => XT.acmpYes X.here hx rfl rfl (hb hby hd) rfl h1 h2 (by simp [XT.acmp, q]) ho hp r) (kt q)
theorem acmp_eq (H : OHr p l e R s m args below meth c Z n0 own nm code maxL ret T h ce sl) {x y : Value} {o : Int} (pc' : Nat) (hd : decode code pc = .ok (.if_acmp .eq o, 3)) (h1 : x.isRef = true) (h2 : y.isRef = true) (ho : 0 ≤ (pc : Int) + o) (hp : ((pc : Int) + o).toNat = pc') (kt : x = y → OEnds p e below s n0 Q C S T (mkF m pc' Ls st)) (kf : ¬ x = y → OEnds p e below s n0 Q C S T (mkF m (pc + 3) Ls st)) : OEnds p e below s n0 Q C S T (mkF m pc Ls (y :: x :: st)) := by
  obtain ⟨⟨hx, hZ, hby, hml, hown, hnm, hrt, hlk⟩, locs, X, eT, N, z0⟩ := H
  by_cases q : x = y
  · exact go (fun t r => XT.acmpYes X.here hx rfl rfl (hb hby hd) rfl h1 h2 (by simp [XT.acmp, q]) ho hp r) (kt q)
  · exact go (fun t r => XT.acmpNo X.here hx rfl (hb hby hd) rfl h1 h2 (by simp [XT.acmp, q]) r) (kf q)
theorem ret_int (H : OHr p l e R s m args below meth c Z n0 own nm code maxL ret T h ce sl) {z : Int32} (hd : decode code pc = .ok (.ireturn, 1)) (hr : ret = some .int) (hC : ce ≤ C) (hS : sl ≤ S) (hq : Q (some (.int z)) h) : OEnds p e below s n0 Q C S T (mkF m pc Ls (.int z :: st)) := by
  obtain ⟨⟨hx, hZ, hby, hml, hown, hnm, hrt, hlk⟩, locs, X, eT, N, z0⟩ := H
  obtain ⟨fs, hrr, hrun, hended, hW, hsame⟩ := X.leave (v := some (.int z)) (fun q => by rw [hrt, hr] at q; cases q) hlk
  refine ⟨_, _, ?_, hrun, hended, _, _, rfl, ⟨N, ?_⟩, ⟨_, rfl⟩, hW, hsame.mono hC hS⟩
  · exact retOut X hx (hrt.trans hr) rfl (Or.inl ⟨rfl, Or.inl rfl, _, rfl⟩) (hb hby hd) hrr
  · show Q _ T.heap
    rw [eT]; exact hq
theorem ret_nar (H : OHr p l e R s m args below meth c Z n0 own nm code maxL ret T h ce sl) {z : Int32} (w : Int32) {t : FieldType} (hd : decode code pc = .ok (.ireturn, 1)) (hr : ret = some t) (ht : t = .boolean ∨ t = .byte ∨ t = .char ∨ t = .short) (hw : nar t z = w) (hC : ce ≤ C) (hS : sl ≤ S) (hq : Q (some (.int w)) h) : OEnds p e below s n0 Q C S T (mkF m pc Ls (.int z :: st)) := by
  obtain ⟨⟨hx, hZ, hby, hml, hown, hnm, hrt, hlk⟩, locs, X, eT, N, z0⟩ := H
  subst hw
  obtain ⟨fs, hrr, hrun, hended, hW, hsame⟩ := X.leave (v := some (.int (nar t z))) (fun q => by rw [hrt, hr] at q; cases q) hlk
  refine ⟨_, _, ?_, hrun, hended, _, _, rfl, ⟨N, ?_⟩, ⟨_, rfl⟩, hW, hsame.mono hC hS⟩
  · exact retN X hx (hrt.trans hr) ht (hb hby hd) hrr
  · show Q _ T.heap
    rw [eT]; exact hq
theorem ret_long (H : OHr p l e R s m args below meth c Z n0 own nm code maxL ret T h ce sl) {z : Int64} (hd : decode code pc = .ok (.lreturn, 1)) (hr : ret = some .long) (hC : ce ≤ C) (hS : sl ≤ S) (hq : Q (some (.long z)) h) : OEnds p e below s n0 Q C S T (mkF m pc Ls (.long z :: st)) := by
  obtain ⟨⟨hx, hZ, hby, hml, hown, hnm, hrt, hlk⟩, locs, X, eT, N, z0⟩ := H
  obtain ⟨fs, hrr, hrun, hended, hW, hsame⟩ := X.leave (v := some (.long z)) (fun q => by rw [hrt, hr] at q; cases q) hlk
  refine ⟨_, _, ?_, hrun, hended, _, _, rfl, ⟨N, ?_⟩, ⟨_, rfl⟩, hW, hsame.mono hC hS⟩
  · exact retOut X hx (hrt.trans hr) rfl (Or.inr (Or.inl ⟨rfl, rfl, _, rfl⟩)) (hb hby hd) hrr
  · show Q _ T.heap
    rw [eT]; exact hq
theorem ret_ref (H : OHr p l e R s m args below meth c Z n0 own nm code maxL ret T h ce sl) {z : Value} {t : FieldType} (hd : decode code pc = .ok (.areturn, 1)) (hr : ret = some t) (ht : t.isReference = true) (hn : narrow t z = z) (hz : z.isRef = true) (hC : ce ≤ C) (hS : sl ≤ S) (hq : Q (some z) h) : OEnds p e below s n0 Q C S T (mkF m pc Ls (z :: st)) := by
  obtain ⟨⟨hx, hZ, hby, hml, hown, hnm, hrt, hlk⟩, locs, X, eT, N, z0⟩ := H
  obtain ⟨fs, hrr, hrun, hended, hW, hsame⟩ := X.leave (v := some z) (fun q => by rw [hrt, hr] at q; cases q) hlk
  refine ⟨_, _, ?_, hrun, hended, _, _, rfl, ⟨N, ?_⟩, ⟨_, rfl⟩, hW, hsame.mono hC hS⟩
  · exact retOut X hx (hrt.trans hr) hn (Or.inr (Or.inr (Or.inr (Or.inr ⟨rfl, ht, hz⟩)))) (hb hby hd) hrr
  · show Q _ T.heap
    rw [eT]; exact hq
theorem ret_void (H : OHr p l e R s m args below meth c Z n0 own nm code maxL ret T h ce sl) (hd : decode code pc = .ok (.return_, 1)) (hr : ret = none) (hC : ce ≤ C) (hS : sl ≤ S) (hq : Q none h) : OEnds p e below s n0 Q C S T (mkF m pc Ls []) := by
  obtain ⟨⟨hx, hZ, hby, hml, hown, hnm, hrt, hlk⟩, locs, X, eT, N, z0⟩ := H
  obtain ⟨fs, hrr, hrun, hended, hW, hsame⟩ := X.leave (v := none) (fun _ => rfl) hlk
  refine ⟨_, _, ?_, hrun, hended, _, _, rfl, ⟨N, ?_⟩, ⟨_, rfl⟩, hW, hsame.mono hC hS⟩
  · exact X.returnOut hx (hrt.trans hr) (hb hby hd) hrr
  · show Q _ T.heap
    rw [eT]; exact hq
theorem getfield (H : OHr p l e R s m args below meth c Z n0 own nm code maxL ret T h ce sl) {O n d : String} {idx : Nat} {a : Addr} {v : Value} (hd : decode code pc = .ok (.getfield idx, 3)) (w : (Cond.fieldLink own idx O n d).before a0 Z = true) (F : Fld Z h a O n d v) (k : ∀ T', OHr p l e R s m args below meth c Z n0 own nm code maxL ret T' h ce sl → OEnds p e below s n0 Q C S T' (mkF m (pc + 3) Ls (v :: st))) : OEnds p e below s n0 Q C S T (mkF m pc Ls (.ref a :: st)) := by
  obtain ⟨⟨hx, hZ, hby, hml, hown, hnm, hrt, hlk⟩, locs, X, eT, N, z0⟩ := H
  obtain ⟨T', X', e', q⟩ := getF X hx hZ hown (host := "") (Or.inl w) Via.refl eT F (g := mkF m pc Ls (.ref a :: st)) rfl rfl (hb hby hd)
  exact go q (k T' ⟨⟨hx, hZ, hby, hml, hown, hnm, hrt, hlk⟩, locs, X', e', N, z0⟩)
theorem putfield (H : OHr p l e R s m args below meth c Z n0 own nm code maxL ret T h ce sl) {O n d CC : String} {idx kk : Nat} {ty : FieldType} {a : Addr} {v old : Value} (hd : decode code pc = .ok (.putfield idx, 3)) (w : (Cond.fieldLink own idx O n d).before a0 Z = true) (F : Fld Z h a O n d old) (E : Exa Z h a CC) (L : (Cond.lays CC O n d).before a0 Z = true ∨ ((Cond.laysFinal CC O n d).before a0 Z = true ∧ own = O ∧ nm = "<init>")) (wi : (Cond.instantiable CC kk).before a0 Z = true) (hty : parseFieldDescriptor d = some ty) (hn : narrow ty v = v) (hf : fits ty v = true) (ge : n0 ≤ a)
    (k : ∀ T' h', OHr p l e R s m args below meth c Z n0 own nm code maxL ret T' h' ce sl → Wr h h' a (Jvm.RoadKit.slotOf Z O n d) v → OEnds p e below s n0 Q C S T' (mkF m (pc + 3) Ls st)) : OEnds p e below s n0 Q C S T (mkF m pc Ls (v :: .ref a :: st)) := by
  obtain ⟨⟨hx, hZ, hby, hml, hown, hnm, hrt, hlk⟩, locs, X, eT, N, z0⟩ := H
  obtain ⟨T', h', X', e', W, q⟩ := putF X hx hZ hown (host := "") (Or.inl w) Via.refl eT F E (by rcases L with q | ⟨q1, q2, q3⟩; exact Or.inl q; exact Or.inr ⟨q1, q2, hnm.trans q3⟩) wi hty hn hf (g := mkF m pc Ls (v :: .ref a :: st)) rfl rfl (hb hby hd)
  exact go q (k T' h' ⟨⟨hx, hZ, hby, hml, hown, hnm, hrt, hlk⟩, _, X', e', Fr.one N ge, by rw [W.size]; exact z0⟩ W)
theorem getstatic (H : OHr p l e R s m args below meth c Z n0 own nm code maxL ret T h ce sl) {O n d : String} {idx : Nat} {v : Value} (hd : decode code pc = .ok (.getstatic idx, 3)) (w : (Cond.fieldLink own idx O n d).before a0 Z = true) (F : Sta Z h O n d v) (k : ∀ T', OHr p l e R s m args below meth c Z n0 own nm code maxL ret T' h ce sl → OEnds p e below s n0 Q C S T' (mkF m (pc + 3) Ls (v :: st))) : OEnds p e below s n0 Q C S T (mkF m pc Ls st) := by
  obtain ⟨⟨hx, hZ, hby, hml, hown, hnm, hrt, hlk⟩, locs, X, eT, N, z0⟩ := H
  obtain ⟨T', X', e', q⟩ := getS (host := "") X hx hZ hown w Via.refl eT F (g := mkF m pc Ls st) rfl (hb hby hd)
  exact go q (k T' ⟨⟨hx, hZ, hby, hml, hown, hnm, hrt, hlk⟩, locs, X', e', N, z0⟩)
theorem new_ (H : OHr p l e R s m args below meth c Z n0 own nm code maxL ret T h ce sl) {CC : String} {idx n : Nat} (hd : decode code pc = .ok (.new idx, 3)) (w : (Cond.classLink own idx CC).before a0 Z = true) (wi : (Cond.instantiable CC n).before a0 Z = true) (wz : (Cond.initialized CC).before a0 Z = true) (hc : ce + 1 ≤ R.cells) (hl : sl + n ≤ R.slots)
    (k : ∀ T' h' a, a = h.size → n0 ≤ a → OHr p l e R s m args below meth c Z n0 own nm code maxL ret T' h' (ce + 1) (sl + n) → Ext h h' → Exa Z h' a CC → (∀ {O nm d : String} {ty : FieldType}, Laid Z a0 CC O nm d → parseFieldDescriptor d = some ty → Fld Z h' a O nm d (defaultValue ty)) → OEnds p e below s n0 Q C S T' (mkF m (pc + 3) Ls (.ref a :: st))) : OEnds p e below s n0 Q C S T (mkF m pc Ls st) := by
  obtain ⟨⟨hx, hZ, hby, hml, hown, hnm, hrt, hlk⟩, locs, X, eT, N, z0⟩ := H
  obtain ⟨T', h', X', e', E', A', D', -, q⟩ := newO X hx hZ hown w wi wz eT (g := mkF m pc Ls st) rfl (hb hby hd) hc hl
  exact go q (k T' h' _ rfl z0 ⟨⟨hx, hZ, hby, hml, hown, hnm, hrt, hlk⟩, locs, X', e', N, Nat.le_trans z0 E'.1⟩ E' A' D')
theorem newarray (H : OHr p l e R s m args below meth c Z n0 own nm code maxL ret T h ce sl) {aty : ArrayType} {n : Int32} {i : Nat} (cap : Nat) (hd : decode code pc = .ok (.newarray aty, 2)) (w : (Cond.arrayClass (newarray.typeOf aty)).before a0 Z = true) (hn : n.toInt = (i : Int)) (hf : fits (newarray.typeOf aty) (defaultValue (newarray.typeOf aty)) = true) (hcap : i ≤ cap) (hb8 : cap * 8 ≤ 536870912) (hc : ce + 1 ≤ R.cells) (hl : sl + cap ≤ R.slots)
    (k : ∀ T' h' a, a = h.size → n0 ≤ a → OHr p l e R s m args below meth c Z n0 own nm code maxL ret T' h' (ce + 1) (sl + cap) → Ext h h' → OAry Z h' a (newarray.typeOf aty) (List.replicate i (defaultValue (newarray.typeOf aty))) → OEnds p e below s n0 Q C S T' (mkF m (pc + 2) Ls (.ref a :: st))) : OEnds p e below s n0 Q C S T (mkF m pc Ls (.int n :: st)) := by
  obtain ⟨⟨hx, hZ, hby, hml, hown, hnm, hrt, hlk⟩, locs, X, eT, N, z0⟩ := H
  obtain ⟨n1, n2⟩ := nat_idx hn
  obtain ⟨T', h', cA, X', e', E', A', q⟩ := newP X hx hZ w eT (g := mkF m pc Ls (.int n :: st)) rfl (hb hby hd) rfl n2 (cap := cap) (by rw [n1]; exact hcap) hb8 hc hl
  exact go q (k T' h' _ rfl z0 ⟨⟨hx, hZ, hby, hml, hown, hnm, hrt, hlk⟩, locs, X', e', N, Nat.le_trans z0 E'.1⟩ E' (by have := OAry.new A' hf; rw [n1] at this; exact this))
theorem arraylength (H : OHr p l e R s m args below meth c Z n0 own nm code maxL ret T h ce sl) {a : Addr} {ty : FieldType} {vs : List Value} (n : Int32) (hd : decode code pc = .ok (.arraylength, 1)) (A : OAry Z h a ty vs) (hn : n.toInt = (vs.length : Int)) (k : OEnds p e below s n0 Q C S T (mkF m (pc + 1) Ls (.int n :: st))) : OEnds p e below s n0 Q C S T (mkF m pc Ls (.ref a :: st)) := by
  obtain ⟨⟨hx, hZ, hby, hml, hown, hnm, hrt, hlk⟩, locs, X, eT, N, z0⟩ := H
  obtain ⟨c1, A, r1, r2, r3⟩ := A
  have hsz : c1.slots.size = vs.length := by rw [← r1]; simp
  obtain ⟨n1, n2⟩ := nat_idx hn
  have e1 : c1.slots.size.toInt32 = n := by rw [hsz, ← n1]; exact (back32 n2).1
  refine go (fun t q => X.arraylength hx (cell := c1) (by rw [eT]; exact A.1) (State.isArrayOf_alike hZ.alike A.2.1) (g := mkF m pc Ls (.ref a :: st)) rfl rfl (hb hby hd) t q) ?_
  rw [e1]
  exact k
theorem iaload (H : OHr p l e R s m args below meth c Z n0 own nm code maxL ret T h ce sl) {a : Addr} {vs : List Value} {j : Int32} {v : Int32} (i : Nat) (hd : decode code pc = .ok (.iaload, 1)) (A : OAry Z h a .int vs) (hj : j.toInt = (i : Int)) (hv : vs[i]? = some (.int v)) (k : OEnds p e below s n0 Q C S T (mkF m (pc + 1) Ls (.int v :: st))) : OEnds p e below s n0 Q C S T (mkF m pc Ls (.int j :: .ref a :: st)) := by
  obtain ⟨⟨hx, hZ, hby, hml, hown, hnm, hrt, hlk⟩, locs, X, eT, N, z0⟩ := H
  obtain ⟨c1, A, r1, r2, r3⟩ := A
  have hsz : c1.slots.size = vs.length := by rw [← r1]; simp
  obtain ⟨n1, n2⟩ := nat_idx hj
  have hi : i < vs.length := by rcases Nat.lt_or_ge i vs.length with q | q; exact q; rw [List.getElem?_eq_none q] at hv; cases hv
  have hat : c1.slots[j.toNatClampNeg]? = some (.int v) := by rw [n1, ← Array.getElem?_toList, r1]; exact hv
  have hin : ¬ (j < 0 ∨ c1.slots.size ≤ j.toNatClampNeg) := by rw [n1, hsz]; intro q; rcases q with q | q; exact n2 q; omega
  exact go (fun t q => X.iaload hx (by rw [eT]; exact A.1) (State.isArrayOf_alike hZ.alike A.2.1) A.2.2 hin hat (g := mkF m pc Ls (.int j :: .ref a :: st)) rfl rfl (hb hby hd) t q) k
theorem laload (H : OHr p l e R s m args below meth c Z n0 own nm code maxL ret T h ce sl) {a : Addr} {vs : List Value} {j : Int32} {v : Int64} (i : Nat) (hd : decode code pc = .ok (.laload, 1)) (A : OAry Z h a .long vs) (hj : j.toInt = (i : Int)) (hv : vs[i]? = some (.long v)) (k : OEnds p e below s n0 Q C S T (mkF m (pc + 1) Ls (.long v :: st))) : OEnds p e below s n0 Q C S T (mkF m pc Ls (.int j :: .ref a :: st)) := by
  obtain ⟨⟨hx, hZ, hby, hml, hown, hnm, hrt, hlk⟩, locs, X, eT, N, z0⟩ := H
  obtain ⟨c1, A, r1, r2, r3⟩ := A
  have hsz : c1.slots.size = vs.length := by rw [← r1]; simp
  obtain ⟨n1, n2⟩ := nat_idx hj
  have hi : i < vs.length := by rcases Nat.lt_or_ge i vs.length with q | q; exact q; rw [List.getElem?_eq_none q] at hv; cases hv
  have hat : c1.slots[j.toNatClampNeg]? = some (.long v) := by rw [n1, ← Array.getElem?_toList, r1]; exact hv
  have hin : ¬ (j < 0 ∨ c1.slots.size ≤ j.toNatClampNeg) := by rw [n1, hsz]; intro q; rcases q with q | q; exact n2 q; omega
  exact go (fun t q => X.laload hx (by rw [eT]; exact A.1) (State.isArrayOf_alike hZ.alike A.2.1) A.2.2 hin hat (g := mkF m pc Ls (.int j :: .ref a :: st)) rfl rfl (hb hby hd) t q) k
theorem caload (H : OHr p l e R s m args below meth c Z n0 own nm code maxL ret T h ce sl) {a : Addr} {vs : List Value} {j : Int32} {v : Int32} (i : Nat) (hd : decode code pc = .ok (.caload, 1)) (A : OAry Z h a .char vs) (hj : j.toInt = (i : Int)) (hv : vs[i]? = some (.int v)) (k : OEnds p e below s n0 Q C S T (mkF m (pc + 1) Ls (.int v :: st))) : OEnds p e below s n0 Q C S T (mkF m pc Ls (.int j :: .ref a :: st)) := by
  obtain ⟨⟨hx, hZ, hby, hml, hown, hnm, hrt, hlk⟩, locs, X, eT, N, z0⟩ := H
  obtain ⟨c1, A, r1, r2, r3⟩ := A
  have hsz : c1.slots.size = vs.length := by rw [← r1]; simp
  obtain ⟨n1, n2⟩ := nat_idx hj
  have hi : i < vs.length := by rcases Nat.lt_or_ge i vs.length with q | q; exact q; rw [List.getElem?_eq_none q] at hv; cases hv
  have hat : c1.slots[j.toNatClampNeg]? = some (.int v) := by rw [n1, ← Array.getElem?_toList, r1]; exact hv
  have hin : ¬ (j < 0 ∨ c1.slots.size ≤ j.toNatClampNeg) := by rw [n1, hsz]; intro q; rcases q with q | q; exact n2 q; omega
  exact go (fun t q => X.caload hx (by rw [eT]; exact A.1) (State.isArrayOf_alike hZ.alike A.2.1) A.2.2 hin hat (g := mkF m pc Ls (.int j :: .ref a :: st)) rfl rfl (hb hby hd) t q) k
theorem baload (H : OHr p l e R s m args below meth c Z n0 own nm code maxL ret T h ce sl) {a : Addr} {vs : List Value} {j : Int32} {v : Int32} (i : Nat) (hd : decode code pc = .ok (.baload, 1)) (A : OAry Z h a .byte vs) (hj : j.toInt = (i : Int)) (hv : vs[i]? = some (.int v)) (k : OEnds p e below s n0 Q C S T (mkF m (pc + 1) Ls (.int v :: st))) : OEnds p e below s n0 Q C S T (mkF m pc Ls (.int j :: .ref a :: st)) := by
  obtain ⟨⟨hx, hZ, hby, hml, hown, hnm, hrt, hlk⟩, locs, X, eT, N, z0⟩ := H
  obtain ⟨c1, A, r1, r2, r3⟩ := A
  have hsz : c1.slots.size = vs.length := by rw [← r1]; simp
  obtain ⟨n1, n2⟩ := nat_idx hj
  have hi : i < vs.length := by rcases Nat.lt_or_ge i vs.length with q | q; exact q; rw [List.getElem?_eq_none q] at hv; cases hv
  have hat : c1.slots[j.toNatClampNeg]? = some (.int v) := by rw [n1, ← Array.getElem?_toList, r1]; exact hv
  have hin : ¬ (j < 0 ∨ c1.slots.size ≤ j.toNatClampNeg) := by rw [n1, hsz]; intro q; rcases q with q | q; exact n2 q; omega
  exact go (fun t q => X.baloadBytes hx (by rw [eT]; exact A.1) (State.isArrayOf_alike hZ.alike A.2.1) A.2.2 hin hat (g := mkF m pc Ls (.int j :: .ref a :: st)) rfl rfl (hb hby hd) t q) k
theorem aaload (H : OHr p l e R s m args below meth c Z n0 own nm code maxL ret T h ce sl) {a : Addr} {ty : FieldType} {vs : List Value} {j : Int32} {v : Value} (i : Nat) (hd : decode code pc = .ok (.aaload, 1)) (A : OAry Z h a ty vs) (ht : ty.isReference = true) (hj : j.toInt = (i : Int)) (hv : vs[i]? = some v) (k : OEnds p e below s n0 Q C S T (mkF m (pc + 1) Ls (v :: st))) : OEnds p e below s n0 Q C S T (mkF m pc Ls (.int j :: .ref a :: st)) := by
  obtain ⟨⟨hx, hZ, hby, hml, hown, hnm, hrt, hlk⟩, locs, X, eT, N, z0⟩ := H
  obtain ⟨c1, A, r1, r2, r3⟩ := A
  have hsz : c1.slots.size = vs.length := by rw [← r1]; simp
  obtain ⟨n1, n2⟩ := nat_idx hj
  have hi : i < vs.length := by rcases Nat.lt_or_ge i vs.length with q | q; exact q; rw [List.getElem?_eq_none q] at hv; cases hv
  have hat : c1.slots[j.toNatClampNeg]? = some v := by rw [n1, ← Array.getElem?_toList, r1]; exact hv
  have hin : ¬ (j < 0 ∨ c1.slots.size ≤ j.toNatClampNeg) := by rw [n1, hsz]; intro q; rcases q with q | q; exact n2 q; omega
  exact go (fun t q => X.aaload hx (by rw [eT]; exact A.1) (State.isArrayOf_alike hZ.alike A.2.1) ht A.2.2 hin hat (g := mkF m pc Ls (.int j :: .ref a :: st)) rfl rfl (hb hby hd) t q) k
theorem iastore (H : OHr p l e R s m args below meth c Z n0 own nm code maxL ret T h ce sl) {a : Addr} {vs : List Value} {j : Int32} {v : Int32} (i : Nat) (hd : decode code pc = .ok (.iastore, 1)) (A : OAry Z h a .int vs) (ge : n0 ≤ a) (hj : j.toInt = (i : Int)) (hi : i < vs.length) (k : ∀ T' h', OHr p l e R s m args below meth c Z n0 own nm code maxL ret T' h' ce sl → Wr h h' a i (.int v) → OAry Z h' a .int (vs.set i (.int v)) → OEnds p e below s n0 Q C S T' (mkF m (pc + 1) Ls st)) : OEnds p e below s n0 Q C S T (mkF m pc Ls (.int v :: .int j :: .ref a :: st)) := by
  obtain ⟨⟨hx, hZ, hby, hml, hown, hnm, hrt, hlk⟩, locs, X, eT, N, z0⟩ := H
  have A0 := A
  obtain ⟨c1, A, r1, r2, r3⟩ := A
  have hsz : c1.slots.size = vs.length := by rw [← r1]; simp
  obtain ⟨n1, n2⟩ := nat_idx hj
  have hin : ¬ (j < 0 ∨ c1.slots.size ≤ j.toNatClampNeg) := by rw [n1, hsz]; intro q; rcases q with q | q; exact n2 q; omega
  obtain ⟨T', h', X', e', W, q⟩ := stI X hx hZ eT A hin (g := mkF m pc Ls (.int v :: .int j :: .ref a :: st)) rfl rfl (hb hby hd)
  rw [n1] at X' W
  exact go q (k T' h' ⟨⟨hx, hZ, hby, hml, hown, hnm, hrt, hlk⟩, _, X', e', Fr.one N ge, by rw [W.size]; exact z0⟩ W (A0.wr W rfl))
theorem lastore (H : OHr p l e R s m args below meth c Z n0 own nm code maxL ret T h ce sl) {a : Addr} {vs : List Value} {j : Int32} {v : Int64} (i : Nat) (hd : decode code pc = .ok (.lastore, 1)) (A : OAry Z h a .long vs) (ge : n0 ≤ a) (hj : j.toInt = (i : Int)) (hi : i < vs.length) (k : ∀ T' h', OHr p l e R s m args below meth c Z n0 own nm code maxL ret T' h' ce sl → Wr h h' a i (.long v) → OAry Z h' a .long (vs.set i (.long v)) → OEnds p e below s n0 Q C S T' (mkF m (pc + 1) Ls st)) : OEnds p e below s n0 Q C S T (mkF m pc Ls (.long v :: .int j :: .ref a :: st)) := by
  obtain ⟨⟨hx, hZ, hby, hml, hown, hnm, hrt, hlk⟩, locs, X, eT, N, z0⟩ := H
  have A0 := A
  obtain ⟨c1, A, r1, r2, r3⟩ := A
  have hsz : c1.slots.size = vs.length := by rw [← r1]; simp
  obtain ⟨n1, n2⟩ := nat_idx hj
  have hin : ¬ (j < 0 ∨ c1.slots.size ≤ j.toNatClampNeg) := by rw [n1, hsz]; intro q; rcases q with q | q; exact n2 q; omega
  obtain ⟨T', h', X', e', W, q⟩ := stJ X hx hZ eT A hin (g := mkF m pc Ls (.long v :: .int j :: .ref a :: st)) rfl rfl (hb hby hd)
  rw [n1] at X' W
  exact go q (k T' h' ⟨⟨hx, hZ, hby, hml, hown, hnm, hrt, hlk⟩, _, X', e', Fr.one N ge, by rw [W.size]; exact z0⟩ W (A0.wr W rfl))
theorem castore (H : OHr p l e R s m args below meth c Z n0 own nm code maxL ret T h ce sl) {a : Addr} {vs : List Value} {j : Int32} {v : Int32} (i : Nat) (hd : decode code pc = .ok (.castore, 1)) (A : OAry Z h a .char vs) (ge : n0 ≤ a) (hj : j.toInt = (i : Int)) (hi : i < vs.length) (k : ∀ T' h', OHr p l e R s m args below meth c Z n0 own nm code maxL ret T' h' ce sl → Wr h h' a i (.int (nar .char v)) → OAry Z h' a .char (vs.set i (.int (nar .char v))) → OEnds p e below s n0 Q C S T' (mkF m (pc + 1) Ls st)) : OEnds p e below s n0 Q C S T (mkF m pc Ls (.int v :: .int j :: .ref a :: st)) := by
  obtain ⟨⟨hx, hZ, hby, hml, hown, hnm, hrt, hlk⟩, locs, X, eT, N, z0⟩ := H
  have A0 := A
  obtain ⟨c1, A, r1, r2, r3⟩ := A
  have hsz : c1.slots.size = vs.length := by rw [← r1]; simp
  obtain ⟨n1, n2⟩ := nat_idx hj
  have hin : ¬ (j < 0 ∨ c1.slots.size ≤ j.toNatClampNeg) := by rw [n1, hsz]; intro q; rcases q with q | q; exact n2 q; omega
  obtain ⟨T', h', X', e', W, q⟩ := stC X hx hZ eT A hin (g := mkF m pc Ls (.int v :: .int j :: .ref a :: st)) rfl rfl (hb hby hd)
  rw [n1] at X' W
  exact go q (k T' h' ⟨⟨hx, hZ, hby, hml, hown, hnm, hrt, hlk⟩, _, X', e', Fr.one N ge, by rw [W.size]; exact z0⟩ W (A0.wr W (fits_nar_char v)))
theorem bastore (H : OHr p l e R s m args below meth c Z n0 own nm code maxL ret T h ce sl) {a : Addr} {vs : List Value} {j : Int32} {v : Int32} (i : Nat) (hd : decode code pc = .ok (.bastore, 1)) (A : OAry Z h a .byte vs) (ge : n0 ≤ a) (hj : j.toInt = (i : Int)) (hi : i < vs.length) (k : ∀ T' h', OHr p l e R s m args below meth c Z n0 own nm code maxL ret T' h' ce sl → Wr h h' a i (.int (nar .byte v)) → OAry Z h' a .byte (vs.set i (.int (nar .byte v))) → OEnds p e below s n0 Q C S T' (mkF m (pc + 1) Ls st)) : OEnds p e below s n0 Q C S T (mkF m pc Ls (.int v :: .int j :: .ref a :: st)) := by
  obtain ⟨⟨hx, hZ, hby, hml, hown, hnm, hrt, hlk⟩, locs, X, eT, N, z0⟩ := H
  have A0 := A
  obtain ⟨c1, A, r1, r2, r3⟩ := A
  have hsz : c1.slots.size = vs.length := by rw [← r1]; simp
  obtain ⟨n1, n2⟩ := nat_idx hj
  have hin : ¬ (j < 0 ∨ c1.slots.size ≤ j.toNatClampNeg) := by rw [n1, hsz]; intro q; rcases q with q | q; exact n2 q; omega
  obtain ⟨T', h', X', e', W, q⟩ := stB X hx hZ eT A hin (g := mkF m pc Ls (.int v :: .int j :: .ref a :: st)) rfl rfl (hb hby hd)
  rw [n1] at X' W
  exact go q (k T' h' ⟨⟨hx, hZ, hby, hml, hown, hnm, hrt, hlk⟩, _, X', e', Fr.one N ge, by rw [W.size]; exact z0⟩ W (A0.wr W (fits_nar_byte v)))
theorem callS (H : OHr p l e R s m args below meth c Z n0 own nm code maxL ret T h ce sl) {y : MethodName} {idx mxL : Nat} {bytes : ByteArray} {rt : Option FieldType} {rm : Room} {Q' : Option Value → Heap → Prop} {ps : List FieldType} {r : Option FieldType} (argsL rest : List Value) (hd : decode code pc = .ok (.invokestatic idx, 3)) (w1 : (Cond.methodLink own idx y).before a0 Z = true) (w2 : (Cond.static y).before a0 Z = true) (w3 : (Cond.initialized y.cls).before a0 Z = true) (w4 : (Cond.code y bytes mxL rt).before a0 Z = true) (hy : y.cls ≠ "java/lang/invoke/MethodHandle" ∧ y.cls ≠ "java/lang/invoke/VarHandle")
    (M : OMet l Z n0 y bytes mxL rt rm argsL.toArray h Q') (hde : parseMethodDescriptor y.desc = some ⟨ps, r⟩) (hlen : argsL.length = ps.length) (hst : st = argsL.reverse ++ rest) (W : Nat) (hW0 : (rest.map fun v => v.category).sum = W) (hfr : rm.frames + 1 ≤ R.frames) (hW : W + (mxL + 11) + rm.locals ≤ R.locals) (hc : ce + rm.cells ≤ R.cells) (hs : sl + rm.slots ≤ R.slots) (hL : Ls.size = maxL)
    (k : ∀ T' v h', OHr p l e R s m args below meth c Z n0 own nm code maxL ret T' h' (ce + rm.cells) (sl + rm.slots) → h.size ≤ h'.size → Q' v h' → OEnds p e below s n0 Q C S T' (mkF m (pc + 3) Ls (v.toList ++ rest))) : OEnds p e below s n0 Q C S T (mkF m pc Ls st) := by
  obtain ⟨⟨hx, hZ, hby, hml, hown, hnm, hrt, hlk⟩, locs, X, eT, N, z0⟩ := H
  obtain ⟨v, _, ⟨T1, L1, k1, n1⟩, -, X1, ⟨Lc, ⟨f1, hle, hQ1⟩, l1, y1, z1⟩, q⟩ := Jvm.LawKit.callS X hx (y := y) hown (mvT hZ w1) (mvT hZ w2) (mvT hZ w3) (mvT hZ w4) hy (backOf (W := W) (Q := fun v h' L => Fr n0 L ∧ h.size ≤ h'.size ∧ Q' v h') (M []) hZ w4 w3 hfr hW) (g := mkF m pc Ls st) rfl (hL.trans hml.symm) (argsL := argsL) (rest := rest) (lenOf hde hlen) hst (by show 2 * 0 + _ ≤ _; rw [hW0]; omega) (hb hby hd) (fun _ _ => ⟨rfl, eT, hc, hs⟩)
  dsimp only [Pt.U, Pt.locs, Pt.cells, Pt.slots] at X1 l1 y1 z1 q hQ1 hle
  subst l1 y1 z1
  exact go q (k T1 v _ ⟨⟨hx, hZ, hby, hml, hown, hnm, hrt, hlk⟩, _, X1, rfl, Fr.app N f1, Nat.le_trans z0 hle⟩ hle hQ1)
theorem callI (H : OHr p l e R s m args below meth c Z n0 own nm code maxL ret T h ce sl) {y : MethodName} {idx mxL : Nat} {bytes : ByteArray} {rm : Room} {Q' : Option Value → Heap → Prop} {ps : List FieldType} {r : Option FieldType} (a : Addr) (argsL rest : List Value) (hd : decode code pc = .ok (.invokespecial idx, 3)) (hy1 : y.name = "<init>") (w1 : (Cond.methodLink own idx y).before a0 Z = true) (w2 : (Cond.instanceMethod y).before a0 Z = true) (w3 : (Cond.initialized y.cls).before a0 Z = true) (w4 : (Cond.code y bytes mxL none).before a0 Z = true) (hy : y.cls ≠ "java/lang/invoke/MethodHandle" ∧ y.cls ≠ "java/lang/invoke/VarHandle")
    (M : OMet l Z n0 y bytes mxL none rm (.ref a :: argsL).toArray h Q') (hde : parseMethodDescriptor y.desc = some ⟨ps, r⟩) (hlen : argsL.length = ps.length) (hst : st = argsL.reverse ++ .ref a :: rest) (W : Nat) (hW0 : (rest.map fun v => v.category).sum = W) (hfr : rm.frames + 1 ≤ R.frames) (hW : W + (mxL + 11) + rm.locals ≤ R.locals) (hc : ce + rm.cells ≤ R.cells) (hs : sl + rm.slots ≤ R.slots) (hL : Ls.size = maxL)
    (k : ∀ T' v h', OHr p l e R s m args below meth c Z n0 own nm code maxL ret T' h' (ce + rm.cells) (sl + rm.slots) → h.size ≤ h'.size → Q' v h' → OEnds p e below s n0 Q C S T' (mkF m (pc + 3) Ls (v.toList ++ rest))) : OEnds p e below s n0 Q C S T (mkF m pc Ls st) := by
  obtain ⟨⟨hx, hZ, hby, hml, hown, hnm, hrt, hlk⟩, locs, X, eT, N, z0⟩ := H
  obtain ⟨v, _, ⟨T1, L1, k1, n1⟩, -, X1, ⟨Lc, ⟨f1, hle, hQ1⟩, l1, y1, z1⟩, q⟩ := X.specialBack hx (y := y) hy1 hown (mvT hZ w1) (mvT hZ w2) (mvT hZ w4) hy (backOf (W := W) (Q := fun v h' L => Fr n0 L ∧ h.size ≤ h'.size ∧ Q' v h') (M []) hZ w4 w3 hfr hW) (g := mkF m pc Ls st) rfl (hL.trans hml.symm) (Steps.refl _) (a := a) (argsL := argsL) (rest := rest) (lenOf hde hlen) hst (by show 2 * 0 + _ ≤ _; rw [hW0]; omega) (hb hby hd) (fun _ _ => ⟨rfl, eT, hc, hs⟩)
  dsimp only [Pt.U, Pt.locs, Pt.cells, Pt.slots] at X1 l1 y1 z1 q hQ1 hle
  subst l1 y1 z1
  exact go1 q (k T1 v _ ⟨⟨hx, hZ, hby, hml, hown, hnm, hrt, hlk⟩, _, X1, rfl, Fr.app N f1, Nat.le_trans z0 hle⟩ hle hQ1)
theorem callV (H : OHr p l e R s m args below meth c Z n0 own nm code maxL ret T h ce sl) {y z : MethodName} {CC : String} {idx mxL : Nat} {bytes : ByteArray} {rt : Option FieldType} {rm : Room} {Q' : Option Value → Heap → Prop} {ps : List FieldType} {r : Option FieldType} (a : Addr) (argsL rest : List Value) (hd : decode code pc = .ok (.invokevirtual idx, 3)) (w1 : (Cond.methodLink own idx y).before a0 Z = true) (w2 : (Cond.declares y).before a0 Z = true) (nf : NotFace s y) (w5 : (Cond.selects CC y z).before a0 Z = true) (w6 : (Cond.instanceMethod z).before a0 Z = true) (w3 : (Cond.initialized z.cls).before a0 Z = true) (w4 : (Cond.code z bytes mxL rt).before a0 Z = true) (hy : y.cls ≠ "java/lang/invoke/MethodHandle" ∧ y.cls ≠ "java/lang/invoke/VarHandle") (E : Exa Z h a CC)
    (M : OMet l Z n0 z bytes mxL rt rm (.ref a :: argsL).toArray h Q') (hde : parseMethodDescriptor y.desc = some ⟨ps, r⟩) (hlen : argsL.length = ps.length) (hst : st = argsL.reverse ++ .ref a :: rest) (W : Nat) (hW0 : (rest.map fun v => v.category).sum = W) (hfr : rm.frames + 1 ≤ R.frames) (hW : W + (mxL + 11) + rm.locals ≤ R.locals) (hc : ce + rm.cells ≤ R.cells) (hs : sl + rm.slots ≤ R.slots) (hL : Ls.size = maxL)
    (k : ∀ T' v h', OHr p l e R s m args below meth c Z n0 own nm code maxL ret T' h' (ce + rm.cells) (sl + rm.slots) → h.size ≤ h'.size → Q' v h' → OEnds p e below s n0 Q C S T' (mkF m (pc + 3) Ls (v.toList ++ rest))) : OEnds p e below s n0 Q C S T (mkF m pc Ls st) := by
  obtain ⟨⟨hx, hZ, hby, hml, hown, hnm, hrt, hlk⟩, locs, X, eT, N, z0⟩ := H
  obtain ⟨cq, kq, qa, qb, qc⟩ := isOf hZ eT E
  obtain ⟨v, _, ⟨T1, L1, k1, n1⟩, -, X1, ⟨Lc, ⟨f1, hle, hQ1⟩, l1, y1, z1⟩, q⟩ := X.virtualBack hx (y := y) (z := z) hown (mvT hZ w1) (mvT hZ w2) nf (mvT hZ w5) (mvT hZ w6) hy (backOf (W := W) (Q := fun v h' L => Fr n0 L ∧ h.size ≤ h'.size ∧ Q' v h') (M []) hZ w4 w3 hfr hW) qa qc (g := mkF m pc Ls st) rfl (hL.trans hml.symm) (Steps.refl _) (argsL := argsL) (rest := rest) (lenOf hde hlen) hst (by show 2 * 0 + _ ≤ _; rw [hW0]; omega) (hb hby hd) (fun _ _ => ⟨rfl, eT, hc, hs⟩)
  dsimp only [Pt.U, Pt.locs, Pt.cells, Pt.slots] at X1 l1 y1 z1 q hQ1 hle
  subst l1 y1 z1
  exact go1 q (k T1 v _ ⟨⟨hx, hZ, hby, hml, hown, hnm, hrt, hlk⟩, _, X1, rfl, Fr.app N f1, Nat.le_trans z0 hle⟩ hle hQ1)
theorem callO (H : OHr p l e R s m args below meth c Z n0 own nm code maxL ret T h ce sl) {idx : Nat} {a : Addr} (hd : decode code pc = .ok (.invokespecial idx, 3)) (w1 : (Cond.methodLink own idx Lib.objectInit).before a0 Z = true) (w2 : (Cond.instanceMethod Lib.objectInit).before a0 Z = true) (w3 : (Cond.code Lib.objectInit ⟨#[0xb1]⟩ 1 none).before a0 Z = true) (W : Nat) (hW0 : (st.map fun v => v.category).sum = W) (hfr : 1 ≤ R.frames) (hW : W + 12 ≤ R.locals) (hL : Ls.size = maxL) (k : ∀ T', OHr p l e R s m args below meth c Z n0 own nm code maxL ret T' h ce sl → OEnds p e below s n0 Q C S T' (mkF m (pc + 3) Ls st)) : OEnds p e below s n0 Q C S T (mkF m pc Ls (.ref a :: st)) := by
  obtain ⟨⟨hx, hZ, hby, hml, hown, hnm, hrt, hlk⟩, locs, X, eT, N, z0⟩ := H
  obtain ⟨T', X', e', q⟩ := initO X hx hZ hown w1 w2 w3 eT (g := mkF m pc Ls (.ref a :: st)) rfl (hL.trans hml.symm) rfl (hb hby hd) hfr (W := W) (by show 2 * 0 + _ ≤ _; rw [hW0]; omega) hW
  exact go q (k T' ⟨⟨hx, hZ, hby, hml, hown, hnm, hrt, hlk⟩, locs, X', e', N, z0⟩)
theorem OHr.nf (H : OHr p l e R s m args below meth c Z n0 own nm code maxL ret T h ce sl) {y : MethodName} {CC : String} (w : (Cond.selects CC y y).before a0 Z = true) : NotFace s y := by
  obtain ⟨⟨hx, hZ, hby, hml, hown, hnm, hrt, hlk⟩, locs, X, eT, N, z0⟩ := H
  exact notFace_of_selects (args := #[]) (mvT hZ w)
theorem clone_ (H : OHr p l e R s m args below meth c Z n0 own nm code maxL ret T h ce sl) {ad : String} {idx : Nat} {a : Addr} {ty : FieldType} {vs : List Value} (cap : Nat) (hd : decode code pc = .ok (.invokevirtual idx, 3)) (w1 : (Cond.methodLink own idx ⟨ad, "clone", "()Ljava/lang/Object;"⟩).before a0 Z = true) (w2 : (Cond.sameMethod ad "java/lang/Object" "clone" "()Ljava/lang/Object;").before a0 Z = true) (w3 : (Cond.native ⟨"java/lang/Object", "clone", "()Ljava/lang/Object;"⟩).before a0 Z = true)
    (w4 : (Cond.instanceMethod ⟨"java/lang/Object", "clone", "()Ljava/lang/Object;"⟩).before a0 Z = true) (w5 : (Cond.selects ad ⟨ad, "clone", "()Ljava/lang/Object;"⟩ ⟨"java/lang/Object", "clone", "()Ljava/lang/Object;"⟩).before a0 Z = true) (w6 : (Cond.castable ad "java/lang/Cloneable").before a0 Z = true) (A : OAry Z h a ty vs) (E : Exa Z h a ad) (W : Nat) (hW0 : (st.map fun v => v.category).sum = W) (hfr : 1 ≤ R.frames) (hW : W + 14 ≤ R.locals) (hcap : vs.length ≤ cap) (hc : ce + 1 ≤ R.cells) (hs : sl + cap ≤ R.slots) (hL : Ls.size = maxL)
    (k : ∀ T' h' b, b = h.size → n0 ≤ b → OHr p l e R s m args below meth c Z n0 own nm code maxL ret T' h' (ce + 1) (sl + cap) → Ext h h' → OAry Z h' b ty vs → Exa Z h' b ad → OEnds p e below s n0 Q C S T' (mkF m (pc + 3) Ls (.ref b :: st))) : OEnds p e below s n0 Q C S T (mkF m pc Ls (.ref a :: st)) := by
  obtain ⟨⟨hx, hZ, hby, hml, hown, hnm, hrt, hlk⟩, locs, X, eT, N, z0⟩ := H
  obtain ⟨c1, A, r1, r2, r3⟩ := A
  have hsz : c1.slots.size = vs.length := by rw [← r1]; simp
  have hF : FitC Z c1 := fitC_of A (fun i hi v hv => r3 v (by rw [← r1]; rw [← Array.getElem?_toList] at hv; exact List.mem_of_getElem? hv))
  obtain ⟨T', h', X', e', E', A', B', q⟩ := cloneA X hx hZ hown w1 w2 w3 w4 w5 w6 eT A E hF (g := mkF m pc Ls (.ref a :: st)) rfl (hL.trans hml.symm) rfl (hb hby hd) hfr (W := W) (by show 2 * 0 + _ ≤ _; rw [hW0]; omega) hW (cap := cap) (by rw [hsz]; exact hcap) hc hs
  exact go q (k T' h' _ rfl z0 ⟨⟨hx, hZ, hby, hml, hown, hnm, hrt, hlk⟩, locs, X', e', N, Nat.le_trans z0 E'.1⟩ E' ⟨_, A', r1, r2, r3⟩ B')
theorem checkcast (H : OHr p l e R s m args below meth c Z n0 own nm code maxL ret T h ce sl) {KK : String} {idx : Nat} {a : Addr} (hd : decode code pc = .ok (.checkcast idx, 3)) (w : (Cond.classLink own idx KK).before a0 Z = true) (F : Ins Z h a KK true) (k : ∀ T', OHr p l e R s m args below meth c Z n0 own nm code maxL ret T' h ce sl → OEnds p e below s n0 Q C S T' (mkF m (pc + 3) Ls (.ref a :: st))) : OEnds p e below s n0 Q C S T (mkF m pc Ls (.ref a :: st)) := by
  obtain ⟨⟨hx, hZ, hby, hml, hown, hnm, hrt, hlk⟩, locs, X, eT, N, z0⟩ := H
  obtain ⟨T', X', e', q⟩ := castY X hx hZ hown w eT F (g := mkF m pc Ls (.ref a :: st)) rfl rfl (hb hby hd)
  exact go q (k T' ⟨⟨hx, hZ, hby, hml, hown, hnm, hrt, hlk⟩, locs, X', e', N, z0⟩)
def ORef (Z : State) (h : Heap) (a : Nat) (ty : FieldType) (CC : String) (vs : List Value) : Prop := ∃ c : Cell, Arr Z h a c (.array ty) ∧ OvrA Z c.cls ty CC ∧ c.slots.toList = vs ∧ vs.length < 2 ^ 31 ∧ ∀ v ∈ vs, fits (.array ty) v = true
theorem ORef.ary {Z : State} {h : Heap} {a : Nat} {ty : FieldType} {CC : String} {vs : List Value} (A : ORef Z h a ty CC vs) : OAry Z h a (.array ty) vs := by obtain ⟨c, A, -, r⟩ := A; exact ⟨c, A, r⟩
theorem ORef.ext {Z : State} {h h' : Heap} {a : Nat} {ty : FieldType} {CC : String} {vs : List Value} (A : ORef Z h a ty CC vs) (E : Ext h h') : ORef Z h' a ty CC vs := by obtain ⟨c, A, r⟩ := A; exact ⟨c, A.ext E, r⟩
theorem ORef.other {Z : State} {h h' : Heap} {a b : Nat} {sl : Nat} {v : Value} {ty : FieldType} {CC : String} {vs : List Value} (A : ORef Z h b ty CC vs) (W : Wr h h' a sl v) (q : b ≠ a) : ORef Z h' b ty CC vs := by obtain ⟨c, A, r⟩ := A; exact ⟨c, A.other W q, r⟩
theorem ORef.keep {Z : State} {h h' : Heap} {a : Nat} {ws : List Addr} {ty : FieldType} {CC : String} {vs : List Value} (A : ORef Z h a ty CC vs) (K : Keep h h' ws) (q : a ∉ ws) : ORef Z h' a ty CC vs := by obtain ⟨c, A, r⟩ := A; exact ⟨c, ⟨K.2.1 _ _ A.1 q, A.2⟩, r⟩
theorem ORef.lt {Z : State} {h : Heap} {a : Nat} {ty : FieldType} {CC : String} {vs : List Value} (A : ORef Z h a ty CC vs) : a < h.size := A.ary.lt
theorem ORef.wr {Z : State} {h h' : Heap} {a i y : Nat} {ty : FieldType} {CC : String} {vs : List Value} (A : ORef Z h a ty CC vs) (W : Wr h h' a i (.ref y)) : ORef Z h' a ty CC (vs.set i (.ref y)) := by
  obtain ⟨c, A, r0, r1, r2, r3⟩ := A
  refine ⟨_, A.same W, r0, by simp [Cell.setSlot, r1], by simpa using r2, fun w hw => ?_⟩
  rcases List.mem_or_eq_of_mem_set hw with q | q
  · exact r3 w q
  · rw [q]; rfl
theorem anewarray (H : OHr p l e R s m args below meth c Z n0 own nm code maxL ret T h ce sl) {ty : FieldType} {CC : String} {idx : Nat} {n : Int32} {i : Nat} (cap : Nat) (hd : decode code pc = .ok (.anewarray idx, 3)) (w1 : (Cond.classLink own idx CC).before a0 Z = true) (w2 : (Cond.arrayOver (.array ty)).before a0 Z = true) (hC : (FieldType.array ty).toString = CC) (hn : n.toInt = (i : Int)) (hcap : i ≤ cap) (hb8 : cap * 8 ≤ 536870912) (hc : ce + 1 ≤ R.cells) (hl : sl + cap ≤ R.slots)
    (k : ∀ T' h' a, a = h.size → n0 ≤ a → OHr p l e R s m args below meth c Z n0 own nm code maxL ret T' h' (ce + 1) (sl + cap) → Ext h h' → ORef Z h' a ty CC (List.replicate i .null) → OEnds p e below s n0 Q C S T' (mkF m (pc + 3) Ls (.ref a :: st))) : OEnds p e below s n0 Q C S T (mkF m pc Ls (.int n :: st)) := by
  obtain ⟨⟨hx, hZ, hby, hml, hown, hnm, hrt, hlk⟩, locs, X, eT, N, z0⟩ := H
  obtain ⟨n1, n2⟩ := nat_idx hn
  obtain ⟨T', h', cA, X', e', E', A', -, O', q⟩ := newRA X hx hZ hown hC w1 w2 eT (g := mkF m pc Ls (.int n :: st)) rfl (hb hby hd) rfl n2 (cap := cap) (by rw [n1]; exact hcap) hb8 hc hl rfl
  refine go q (k T' h' _ rfl z0 ⟨⟨hx, hZ, hby, hml, hown, hnm, hrt, hlk⟩, locs, X', e', N, Nat.le_trans z0 E'.1⟩ E' ⟨_, A', O', ?_, ?_, ?_⟩)
  · show (Array.replicate n.toNatClampNeg (defaultValue (.array ty))).toList = _
    rw [n1, Array.toList_replicate]; rfl
  · rw [List.length_replicate]
    have := n.toInt_lt
    omega
  · intro v hv
    rw [List.eq_of_mem_replicate hv]
    rfl
theorem newarrayE (H : OHr p l e R s m args below meth c Z n0 own nm code maxL ret T h ce sl) {aty : ArrayType} {n : Int32} {i : Nat} {ad : String} (cap : Nat) (hd : decode code pc = .ok (.newarray aty, 2)) (w : (Cond.arrayClass (newarray.typeOf aty)).before a0 Z = true) (hn : n.toInt = (i : Int)) (hf : fits (newarray.typeOf aty) (defaultValue (newarray.typeOf aty)) = true) (had : "[" ++ (newarray.typeOf aty).toString = ad) (hcap : i ≤ cap) (hb8 : cap * 8 ≤ 536870912) (hc : ce + 1 ≤ R.cells) (hl : sl + cap ≤ R.slots)
    (k : ∀ T' h' a, a = h.size → n0 ≤ a → OHr p l e R s m args below meth c Z n0 own nm code maxL ret T' h' (ce + 1) (sl + cap) → Ext h h' → OAry Z h' a (newarray.typeOf aty) (List.replicate i (defaultValue (newarray.typeOf aty))) → Exa Z h' a ad → OEnds p e below s n0 Q C S T' (mkF m (pc + 2) Ls (.ref a :: st))) : OEnds p e below s n0 Q C S T (mkF m pc Ls (.int n :: st)) := by
  obtain ⟨⟨hx, hZ, hby, hml, hown, hnm, hrt, hlk⟩, locs, X, eT, N, z0⟩ := H
  obtain ⟨n1, n2⟩ := nat_idx hn
  obtain ⟨T', h', cA, X', e', E', A', B', q⟩ := newPE X hx hZ w eT (g := mkF m pc Ls (.int n :: st)) rfl (hb hby hd) rfl n2 (cap := cap) (by rw [n1]; exact hcap) hb8 hc hl had
  exact go q (k T' h' _ rfl z0 ⟨⟨hx, hZ, hby, hml, hown, hnm, hrt, hlk⟩, locs, X', e', N, Nat.le_trans z0 E'.1⟩ E' (by have := OAry.new A' hf; rw [n1] at this; exact this) B')
theorem aastore (H : OHr p l e R s m args below meth c Z n0 own nm code maxL ret T h ce sl) {a y : Nat} {ty : FieldType} {CC : String} {vs : List Value} {j : Int32} (i : Nat) (hd : decode code pc = .ok (.aastore, 1)) (A : ORef Z h a ty CC vs) (I : Ins Z h y CC true) (ge : n0 ≤ a) (hj : j.toInt = (i : Int)) (hi : i < vs.length) (k : ∀ T' h', OHr p l e R s m args below meth c Z n0 own nm code maxL ret T' h' ce sl → Wr h h' a i (.ref y) → ORef Z h' a ty CC (vs.set i (.ref y)) → OEnds p e below s n0 Q C S T' (mkF m (pc + 1) Ls st)) : OEnds p e below s n0 Q C S T (mkF m pc Ls (.ref y :: .int j :: .ref a :: st)) := by
  obtain ⟨⟨hx, hZ, hby, hml, hown, hnm, hrt, hlk⟩, locs, X, eT, N, z0⟩ := H
  have A0 := A
  obtain ⟨c1, A, r0, r1, r2, r3⟩ := A
  have hsz : c1.slots.size = vs.length := by rw [← r1]; simp
  obtain ⟨n1, n2⟩ := nat_idx hj
  have hin : ¬ (j < 0 ∨ c1.slots.size ≤ j.toNatClampNeg) := by rw [n1, hsz]; intro q; rcases q with q | q; exact n2 q; omega
  obtain ⟨T', h', X', e', W, q⟩ := stR X hx hZ eT A hin rfl (Sto.ofVA A rfl r0 I) (g := mkF m pc Ls (.ref y :: .int j :: .ref a :: st)) rfl rfl (hb hby hd)
  rw [n1] at X' W
  exact go q (k T' h' ⟨⟨hx, hZ, hby, hml, hown, hnm, hrt, hlk⟩, _, X', e', Fr.one N ge, by rw [W.size]; exact z0⟩ W (A0.wr W))
theorem OAry.arv {Z : State} {h : Heap} {a : Nat} {ty : FieldType} {vs : List Value} (A : OAry Z h a ty vs) (dv : Value) : ∃ k, Arv Z h a k ty (Int32.ofNat vs.length) vs dv := by
  obtain ⟨c1, A, r1, r2, r3⟩ := A
  have hsz : c1.slots.size = vs.length := by rw [← r1]; simp
  have hz : (Int32.ofNat vs.length).toInt = (vs.length : Int) := Int32.toInt_ofNat_of_lt r2
  obtain ⟨n1, n2⟩ := nat_idx hz
  have hg : ∀ i, i < c1.slots.size → c1.slots[i]? = some (vs.getD i dv) := by
    intro i hi
    rw [← Array.getElem?_toList, r1, List.getD_eq_getElem?_getD, List.getElem?_eq_getElem (by omega)]
    rfl
  refine ⟨c1.cls, c1, A, rfl, by rw [n1, hsz], n2, hg, fun i hi => ?_⟩
  have h1 := hg i hi
  rw [← Array.getElem?_toList, r1] at h1
  exact r3 _ (List.mem_of_getElem? h1)
theorem OAry.of_arv {Z : State} {h : Heap} {a : Nat} {k : ClassId} {ty : FieldType} {z : Int32} {vs : List Value} {dv : Value} (V : Arv Z h a k ty z vs dv) (hz : z.toInt = (vs.length : Int)) : OAry Z h a ty vs := by
  obtain ⟨c1, A, -, s1, s2, H1, G1⟩ := V
  obtain ⟨n1, n2⟩ := nat_idx hz
  rw [n1] at s1
  have e : c1.slots.toList = vs := by
    apply List.ext_getElem?
    intro i
    by_cases q : i < vs.length
    · rw [Array.getElem?_toList, H1 i (by omega), List.getD_eq_getElem?_getD, List.getElem?_eq_getElem q]
      rfl
    · rw [List.getElem?_eq_none (by simpa [s1] using q), List.getElem?_eq_none (by omega)]
  have := z.toInt_lt
  refine ⟨c1, A, e, by omega, fun v hv => ?_⟩
  obtain ⟨i, hi, rfl⟩ := List.getElem_of_mem hv
  have g := G1 i (by omega)
  rw [List.getD_eq_getElem?_getD, List.getElem?_eq_getElem hi] at g
  exact g
theorem arraycopy (H : OHr p l e R s m args below meth c Z n0 own nm code maxL ret T h ce sl) {idx : Nat} {a b : Nat} {ty : FieldType} {vs ws : List Value} {sp dp nn : Int32} (s1 d1 n1 : Nat) (hd : decode code pc = .ok (.invokestatic idx, 3)) (w1 : (Cond.methodLink own idx Jvm.Stand.acN).before a0 Z = true) (w2 : (Cond.native Jvm.Stand.acN).before a0 Z = true) (w3 : (Cond.static Jvm.Stand.acN).before a0 Z = true) (w4 : (Cond.initialized "java/lang/System").before a0 Z = true) (A : OAry Z h a ty vs) (B : OAry Z h b ty ws) (hty : refKind ty = false) (hs1 : sp.toInt = (s1 : Int)) (hd1 : dp.toInt = (d1 : Int)) (hn1 : nn.toInt = (n1 : Int)) (hA : s1 + n1 ≤ vs.length) (hB : d1 + n1 ≤ ws.length) (ge : n0 ≤ b) (W : Nat) (hW0 : (st.map fun v => v.category).sum = W) (hfr : 1 ≤ R.frames) (hW : W + (nativeFrameWords "java/lang/System" "arraycopy" 5 + 11) ≤ R.locals) (hL : Ls.size = maxL)
    (k : ∀ T' h', OHr p l e R s m args below meth c Z n0 own nm code maxL ret T' h' ce sl → Keep h h' [b] → OAry Z h' b ty (ws.take d1 ++ (vs.drop s1).take n1 ++ ws.drop (d1 + n1)) → OEnds p e below s n0 Q C S T' (mkF m (pc + 3) Ls st)) : OEnds p e below s n0 Q C S T (mkF m pc Ls (.int nn :: .int dp :: .ref b :: .int sp :: .ref a :: st)) := by
  obtain ⟨⟨hx, hZ, hby, hml, hown, hnm, hrt, hlk⟩, locs, X, eT, N, z0⟩ := H
  obtain ⟨p1, p2⟩ := nat_idx hs1
  obtain ⟨p3, p4⟩ := nat_idx hd1
  obtain ⟨p5, p6⟩ := nat_idx hn1
  have lA := A.len
  have lB := B.len
  obtain ⟨kA, VA⟩ := A.arv .null
  obtain ⟨kB, VB⟩ := B.arv .null
  have zA : (Int32.ofNat vs.length).toInt = (vs.length : Int) := Int32.toInt_ofNat_of_lt lA
  have zB : (Int32.ofNat ws.length).toInt = (ws.length : Int) := Int32.toInt_ofNat_of_lt lB
  obtain ⟨T', h', L, X', e', N', K', V', q⟩ := cpA X hx hZ hown w1 w2 w3 w4 eT VA VB (Or.inl ⟨rfl, hty⟩) p2 p4 p6 (by rw [p1, p5, (nat_idx zA).1]; exact hA) (by rw [p3, p5, (nat_idx zB).1]; exact hB) rfl (by rw [p3, p5]; exact hB) N ge (g := mkF m pc Ls (.int nn :: .int dp :: .ref b :: .int sp :: .ref a :: st)) rfl (hL.trans hml.symm) rfl (hb hby hd) hfr (W := W) (by show 2 * 0 + _ ≤ _; rw [hW0]; omega) hW
  rw [p1, p3, p5] at V'
  have eus : ((List.range n1).map fun i => vs.getD (s1 + i) .null) = (vs.drop s1).take n1 := by
    apply List.ext_getElem?
    intro i
    by_cases q : i < n1
    · rw [List.getElem?_map, List.getElem?_range q, List.getElem?_take, if_pos q, List.getElem?_drop, List.getElem?_eq_getElem (by omega)]
      simp [List.getD_eq_getElem?_getD, List.getElem?_eq_getElem (show s1 + i < vs.length by omega)]
    · rw [List.getElem?_eq_none (by simp; omega), List.getElem?_eq_none (by simp; omega)]
  rw [eus] at V'
  have V2 := OAry.of_arv V' (by rw [zB]; simp; omega)
  exact go q (k T' h' ⟨⟨hx, hZ, hby, hml, hown, hnm, hrt, hlk⟩, L, X', e', N', Nat.le_trans z0 K'.1⟩ K' V2)
end Go
end Jvm.Own
namespace Jvm.Pilot.@@N@@
open Jvm Jvm.ClassFile Sem Op Lib Jvm.Free Jvm.Stand Jvm.LawKit Jvm.RoadKit Bundle Jvm.Pilot.@@N@@.Jvm.D
open Jvm.Own (OHr OEnds OMet OAry ORef)

theorem own_rem (x d : Int32) (hd : 0 < d.toInt) : 0 ≤ ((x &&& 2147483647) % d).toInt ∧ ((x &&& 2147483647) % d).toInt < d.toInt := by
  have h0 : 0 ≤ (x &&& 2147483647).toInt := (c_and x 2147483647 (by decide)).1
  have h1 := (c_iremV (x &&& 2147483647) d).1 h0 hd
  exact ⟨h1.1, h1.2.1⟩
theorem own_ne {x y : Int32} (h : x.toInt ≠ y.toInt) : ¬ x = y := fun e => h (by rw [e])
theorem own_eq {x y : Int32} (h : x.toInt = y.toInt) : x = y := Int32.toInt_inj.mp h
theorem own_lt {x y : Int32} : x < y ↔ x.toInt < y.toInt := Int32.lt_iff_toInt_lt


theorem own_map {cs : List Int32} {i : Nat} (h : i < cs.length) : (cs.map Value.int)[i]? = some (.int (cs.getD i 0)) := by
  simp [List.getElem?_map, List.getD_eq_getElem?_getD, List.getElem?_eq_getElem h]
theorem own_fill {L : List Value} {d v : Value} {i : Nat} (h : L[i]? = some v) : (L.take i ++ List.replicate (L.length - i) d).set i v = L.take (i + 1) ++ List.replicate (L.length - (i + 1)) d := by
  have hi : i < L.length := by rcases Nat.lt_or_ge i L.length with q | q; exact q; rw [List.getElem?_eq_none q] at h; cases h
  have e : L.length - i = (L.length - (i + 1)) + 1 := by omega
  rw [e, List.replicate_succ, List.set_append_right _ _ (by simp; omega)]
  have e2 : i - (L.take i).length = 0 := by simp; omega
  rw [e2, List.set_cons_zero, List.take_add_one, h]
  simp
theorem own_ofNat {i : Nat} (h : i < 2147483648) : (Int32.ofNat i).toInt = (i : Int) := Int32.toInt_ofNat_of_lt h
theorem own_one (i : Nat) : Int32.ofNat i + (1 : Int32) = Int32.ofNat (i + 1) := (Int32.ofNat_add i 1).symm


theorem own_addn {x d : Int32} {s j : Nat} (hx : x.toInt = (s : Int)) (hd : d.toInt = (j : Int)) (h : s + j < 2147483648) : (x + d).toInt = ((s + j : Nat) : Int) := by
  have a := c_iadd x d
  have r := rng32 (x + d)
  omega


theorem own_eqi {x y : Int32} : x = y ↔ x.toInt = y.toInt := ⟨fun q => by rw [q], own_eq⟩
def own_F (cs : List Int32) : List Bool := cs.map fun x => decide (x = 10)
def own_lfB : List Bool → Nat → Nat
  | [], _ => 0
  | true :: _, 0 => 0
  | true :: F, r + 1 => own_lfB F r + 1
  | false :: F, r => own_lfB F r + 1
def own_stB (F : List Bool) : Nat → Nat
  | 0 => 0
  | j + 1 => own_lfB F j + 1
def own_lnB (F : List Bool) : Nat := F.count true + (if F.getLast? = some false then 1 else 0)
def own_cn (cs : List Int32) (i : Nat) : Nat := ((own_F cs).take i).count true
def own_ln (cs : List Int32) : Nat := own_lnB (own_F cs)
def own_lf (cs : List Int32) (r : Nat) : Nat := own_lfB (own_F cs) r
def own_st (cs : List Int32) (j : Nat) : Nat := own_stB (own_F cs) j
def own_en (cs : List Int32) (j : Nat) : Nat := if own_lf cs j < cs.length ∧ own_st cs j < own_lf cs j ∧ cs.getD (own_lf cs j - 1) 0 = 13 then own_lf cs j - 1 else own_lf cs j
theorem own_Flen (cs : List Int32) : (own_F cs).length = cs.length := by simp [own_F]
theorem own_Fat {cs : List Int32} {t : Nat} (ht : t < cs.length) (d : Bool) : (own_F cs).getD t d = decide (cs.getD t 0 = 10) := by
  simp [own_F, List.getD_eq_getElem?_getD, List.getElem?_map, List.getElem?_eq_getElem ht]
theorem own_cnY {cs : List Int32} {i : Nat} (hi : i < cs.length) (q : cs.getD i 0 = 10) : own_cn cs (i + 1) = own_cn cs i + 1 := by
  have e : cs[i] = 10 := by simpa [List.getD_eq_getElem?_getD, List.getElem?_eq_getElem hi] using q
  unfold own_cn own_F
  rw [List.take_add_one, List.count_append, List.getElem?_map, List.getElem?_eq_getElem hi]
  simp [e]
theorem own_cnN {cs : List Int32} {i : Nat} (hi : i < cs.length) (q : ¬ cs.getD i 0 = 10) : own_cn cs (i + 1) = own_cn cs i := by
  have e : ¬ cs[i] = 10 := by simpa [List.getD_eq_getElem?_getD, List.getElem?_eq_getElem hi] using q
  unfold own_cn own_F
  rw [List.take_add_one, List.count_append, List.getElem?_map, List.getElem?_eq_getElem hi]
  simp [e]
theorem own_cnA {cs : List Int32} {i : Nat} (hi : cs.length ≤ i) : own_cn cs i = (own_F cs).count true := by
  unfold own_cn
  rw [List.take_of_length_le (by rw [own_Flen]; exact hi)]
theorem own_cnO {cs : List Int32} {i : Nat} (hi : ¬ i < cs.length) : own_cn cs (i + 1) = own_cn cs i := by
  rw [own_cnA (by omega), own_cnA (by omega)]
theorem own_lnY {cs : List Int32} {i : Nat} (hi : cs.length ≤ i) (h0 : 0 < cs.length) (q : ¬ cs.getD (cs.length - 1) 0 = 10) : own_ln cs = own_cn cs i + 1 := by
  have hl : cs.length - 1 < cs.length := by omega
  have e : ¬ cs[cs.length - 1] = 10 := by simpa [List.getD_eq_getElem?_getD, List.getElem?_eq_getElem hl] using q
  unfold own_ln own_lnB
  rw [own_cnA hi, List.getLast?_eq_getElem?, own_Flen, own_F, List.getElem?_map, List.getElem?_eq_getElem hl]
  simp [e]
theorem own_lnN {cs : List Int32} {i : Nat} (hi : cs.length ≤ i) (h0 : 0 < cs.length) (q : cs.getD (cs.length - 1) 0 = 10) : own_ln cs = own_cn cs i := by
  have hl : cs.length - 1 < cs.length := by omega
  have e : cs[cs.length - 1] = 10 := by simpa [List.getD_eq_getElem?_getD, List.getElem?_eq_getElem hl] using q
  unfold own_ln own_lnB
  rw [own_cnA hi, List.getLast?_eq_getElem?, own_Flen, own_F, List.getElem?_map, List.getElem?_eq_getElem hl]
  simp [e]
theorem own_ln0 {cs : List Int32} {i : Nat} (h0 : ¬ 0 < cs.length) : own_ln cs = own_cn cs i := by
  have e : cs = [] := List.eq_nil_of_length_eq_zero (by omega)
  subst e
  simp [own_ln, own_lnB, own_cn, own_F]
theorem own_facts (F : List Bool) (h : F.length ≤ 4) : own_lnB F ≤ 4 ∧ (∀ j : Fin 4, j.val < own_lnB F → (own_stB F j.val ≤ own_lfB F j.val ∧ own_lfB F j.val ≤ F.length ∧ (∀ t : Fin 4, own_stB F j.val ≤ t.val → t.val < own_lfB F j.val → F.getD t.val true = false) ∧ (own_lfB F j.val = F.length ∨ (own_lfB F j.val < F.length ∧ F.getD (own_lfB F j.val) false = true)))) ∧ (∀ i : Fin 4, i.val < F.length → F.getD i.val false = true → own_lfB F ((F.take i.val).count true) = i.val) ∧ (∀ r : Fin 4, (F.take 4).count true ≤ r.val → own_lfB F r.val = F.length) := by
  match F, h with
  | [], _ => decide
  | [a], _ => revert a; decide
  | [a, b], _ => revert a b; decide
  | [a, b, c], _ => revert a b c; decide
  | [a, b, c, d], _ => revert a b c d; decide
  | _ :: _ :: _ :: _ :: _ :: _, h => exact absurd h (by simp)
theorem own_lines {cs : List Int32} (h : cs.length ≤ 4) : own_ln cs ≤ 4 := (own_facts (own_F cs) (by rw [own_Flen]; exact h)).1
theorem own_row {cs : List Int32} (h : cs.length ≤ 4) {j : Nat} (hj : j < own_ln cs) : own_st cs j ≤ own_lf cs j ∧ own_lf cs j ≤ cs.length ∧ (∀ t, own_st cs j ≤ t → t < own_lf cs j → ¬ cs.getD t 0 = 10) ∧ (own_lf cs j = cs.length ∨ (own_lf cs j < cs.length ∧ cs.getD (own_lf cs j) 0 = 10)) := by
  have L := own_lines h
  obtain ⟨a1, a2, a3, a4⟩ := (own_facts (own_F cs) (by rw [own_Flen]; exact h)).2.1 ⟨j, by omega⟩ hj
  rw [own_Flen] at a2 a4
  refine ⟨a1, a2, fun t h1 h2 q => ?_, ?_⟩
  · have ht : t < cs.length := Nat.lt_of_lt_of_le h2 a2
    have z := a3 ⟨t, by omega⟩ h1 h2
    rw [own_Fat ht] at z
    exact absurd q (by simpa using z)
  · rcases a4 with q | ⟨q1, q2⟩
    · exact Or.inl q
    · rw [own_Fat q1] at q2
      exact Or.inr ⟨q1, of_decide_eq_true q2⟩
theorem own_hit {cs : List Int32} (h : cs.length ≤ 4) {i : Nat} (hi : i < cs.length) (q : cs.getD i 0 = 10) : own_lf cs (own_cn cs i) = i := by
  refine (own_facts (own_F cs) (by rw [own_Flen]; exact h)).2.2.1 ⟨i, by omega⟩ (by rw [own_Flen]; exact hi) ?_
  rw [own_Fat hi]
  simpa using q
theorem own_miss {cs : List Int32} (h : cs.length ≤ 4) {r : Nat} (hr : r ≤ 3) (q : own_cn cs 4 ≤ r) : own_lf cs r = cs.length := by
  have z := (own_facts (own_F cs) (by rw [own_Flen]; exact h)).2.2.2 ⟨r, by omega⟩ q
  rw [own_Flen] at z
  exact z
theorem own_enb {cs : List Int32} (h : cs.length ≤ 4) {j : Nat} (hj : j < own_ln cs) : own_st cs j ≤ own_en cs j ∧ own_en cs j ≤ cs.length := by
  obtain ⟨a1, a2, -, -⟩ := own_row h hj
  unfold own_en
  split
  · omega
  · omega
theorem own_stb {cs : List Int32} (h : cs.length ≤ 4) {j : Nat} (hj : j ≤ own_ln cs) : own_st cs j ≤ 5 := by
  match j, hj with
  | 0, _ => exact Nat.zero_le _
  | j + 1, hj =>
    have a2 := (own_row h (Nat.lt_of_succ_le hj)).2.1
    show own_lf cs j + 1 ≤ 5
    omega
theorem own_cnb {cs : List Int32} (h : cs.length ≤ 4) (i : Nat) : own_cn cs i ≤ 4 := by
  have a : ((own_F cs).take i).count true ≤ ((own_F cs).take i).length := List.count_le_length
  have b : ((own_F cs).take i).length ≤ cs.length := by rw [List.length_take, own_Flen]; exact Nat.min_le_right _ _
  exact Nat.le_trans a (Nat.le_trans b h)
theorem own_sub {a b : Nat} (h : b ≤ a) (ha : a < 2147483648) : Int32.ofNat a - Int32.ofNat b = Int32.ofNat (a - b) := by
  apply own_eq
  have e1 := own_ofNat ha
  have e2 := own_ofNat (show b < 2147483648 by omega)
  have e3 := own_ofNat (show a - b < 2147483648 by omega)
  have q := c_isub (Int32.ofNat a) (Int32.ofNat b)
  have r := rng32 (Int32.ofNat a - Int32.ofNat b)
  omega
theorem own_sub1 {a : Nat} (h : 1 ≤ a) (ha : a < 2147483648) : Int32.ofNat a - (1 : Int32) = Int32.ofNat (a - 1) := own_sub h ha
theorem own_addI {a : Nat} (b : Nat) : Int32.ofNat a + Int32.ofNat b = Int32.ofNat (a + b) := (Int32.ofNat_add a b).symm
theorem own_rg {f : Nat → Int32} {L i : Nat} (h : i < L) : ((List.range L).map fun t => Value.int (f t))[i]? = some (.int (f i)) := by
  rw [List.getElem?_map, List.getElem?_range h]
  rfl
theorem own_rgE {f : Nat → Int32} {L : Nat} {vs : List Value} (hl : vs.length = L) (h : ∀ t, t < L → vs[t]? = some (.int (f t))) : vs = (List.range L).map fun t => Value.int (f t) := by
  apply List.ext_getElem?
  intro i
  by_cases q : i < L
  · rw [h i q, own_rg q]
  · rw [List.getElem?_eq_none (by omega), List.getElem?_eq_none (by simp; omega)]
theorem own_cut {cs : List Int32} {a k i : Nat} (hk : a + k ≤ cs.length) (hi : i < k) : (((cs.drop a).take k).map Value.int)[i]? = some (.int (cs.getD (a + i) 0)) := by
  rw [List.getElem?_map, List.getElem?_take, if_pos hi, List.getElem?_drop, List.getElem?_eq_getElem (show a + i < cs.length by omega)]
  simp [List.getD_eq_getElem?_getD, List.getElem?_eq_getElem (show a + i < cs.length by omega)]
theorem own_cutl {cs : List Int32} {a k : Nat} (hk : a + k ≤ cs.length) : (((cs.drop a).take k).map Value.int).length = k := by
  simp
  omega
theorem own_cutw {cs : List Int32} (a k : Nat) : ((cs.map Value.int).drop a).take k = ((cs.drop a).take k).map Value.int := by
  rw [List.map_take, List.map_drop]
theorem own_set {L i : Nat} {vs : List Value} {f : Nat → Int32} {w : Int32} (hl : vs.length = L) (hi : i < L) (h : ∀ t, t < i → vs[t]? = some (.int (f t))) (hw : w = f i) : ∀ t, t < i + 1 → (vs.set i (.int w))[t]? = some (.int (f t)) := by
  intro t ht
  by_cases q : t = i
  · subst q; rw [List.getElem?_set_self (by omega), hw]
  · rw [List.getElem?_set_ne (by omega)]; exact h t (by omega)

theorem d1_0 : decode prog_1_method_3_code 0 = .ok (.iconst 0, 1) := by decide +kernel
theorem d1_1 : decode prog_1_method_3_code 1 = .ok (.istore_n 1, 1) := by decide +kernel
theorem d1_2 : decode prog_1_method_3_code 2 = .ok (.aload_n 0, 1) := by decide +kernel
theorem d1_3 : decode prog_1_method_3_code 3 = .ok (.astore_n 2, 1) := by decide +kernel
theorem d1_4 : decode prog_1_method_3_code 4 = .ok (.aload_n 2, 1) := by decide +kernel
theorem d1_5 : decode prog_1_method_3_code 5 = .ok (.arraylength, 1) := by decide +kernel
theorem d1_6 : decode prog_1_method_3_code 6 = .ok (.istore_n 3, 1) := by decide +kernel
theorem d1_7 : decode prog_1_method_3_code 7 = .ok (.iconst 0, 1) := by decide +kernel
theorem d1_8 : decode prog_1_method_3_code 8 = .ok (.istore 4, 2) := by decide +kernel
theorem d1_10 : decode prog_1_method_3_code 10 = .ok (.iload 4, 2) := by decide +kernel
theorem d1_12 : decode prog_1_method_3_code 12 = .ok (.iload_n 3, 1) := by decide +kernel
theorem d1_13 : decode prog_1_method_3_code 13 = .ok (.if_icmp .ge 25, 3) := by decide +kernel
theorem d1_16 : decode prog_1_method_3_code 16 = .ok (.aload_n 2, 1) := by decide +kernel
theorem d1_17 : decode prog_1_method_3_code 17 = .ok (.iload 4, 2) := by decide +kernel
theorem d1_19 : decode prog_1_method_3_code 19 = .ok (.baload, 1) := by decide +kernel
theorem d1_20 : decode prog_1_method_3_code 20 = .ok (.istore 5, 2) := by decide +kernel
theorem d1_22 : decode prog_1_method_3_code 22 = .ok (.iload 5, 2) := by decide +kernel
theorem d1_24 : decode prog_1_method_3_code 24 = .ok (.bipush 10, 2) := by decide +kernel
theorem d1_26 : decode prog_1_method_3_code 26 = .ok (.if_icmp .ne 6, 3) := by decide +kernel
theorem d1_29 : decode prog_1_method_3_code 29 = .ok (.iinc 1 1, 3) := by decide +kernel
theorem d1_32 : decode prog_1_method_3_code 32 = .ok (.iinc 4 1, 3) := by decide +kernel
theorem d1_35 : decode prog_1_method_3_code 35 = .ok (.goto (-25), 3) := by decide +kernel
theorem d1_38 : decode prog_1_method_3_code 38 = .ok (.aload_n 0, 1) := by decide +kernel
theorem d1_39 : decode prog_1_method_3_code 39 = .ok (.arraylength, 1) := by decide +kernel
theorem d1_40 : decode prog_1_method_3_code 40 = .ok (.ifCond .le 17, 3) := by decide +kernel
theorem d1_43 : decode prog_1_method_3_code 43 = .ok (.aload_n 0, 1) := by decide +kernel
theorem d1_44 : decode prog_1_method_3_code 44 = .ok (.aload_n 0, 1) := by decide +kernel
theorem d1_45 : decode prog_1_method_3_code 45 = .ok (.arraylength, 1) := by decide +kernel
theorem d1_46 : decode prog_1_method_3_code 46 = .ok (.iconst 1, 1) := by decide +kernel
theorem d1_47 : decode prog_1_method_3_code 47 = .ok (.isub, 1) := by decide +kernel
theorem d1_48 : decode prog_1_method_3_code 48 = .ok (.baload, 1) := by decide +kernel
theorem d1_49 : decode prog_1_method_3_code 49 = .ok (.bipush 10, 2) := by decide +kernel
theorem d1_51 : decode prog_1_method_3_code 51 = .ok (.if_icmp .eq 6, 3) := by decide +kernel
theorem d1_54 : decode prog_1_method_3_code 54 = .ok (.iinc 1 1, 3) := by decide +kernel
theorem d1_57 : decode prog_1_method_3_code 57 = .ok (.iload_n 1, 1) := by decide +kernel
theorem d1_58 : decode prog_1_method_3_code 58 = .ok (.newarray .int, 2) := by decide +kernel
theorem d1_60 : decode prog_1_method_3_code 60 = .ok (.astore_n 2, 1) := by decide +kernel
theorem d1_61 : decode prog_1_method_3_code 61 = .ok (.iload_n 1, 1) := by decide +kernel
theorem d1_62 : decode prog_1_method_3_code 62 = .ok (.newarray .int, 2) := by decide +kernel
theorem d1_64 : decode prog_1_method_3_code 64 = .ok (.astore_n 3, 1) := by decide +kernel
theorem d1_65 : decode prog_1_method_3_code 65 = .ok (.iconst 0, 1) := by decide +kernel
theorem d1_66 : decode prog_1_method_3_code 66 = .ok (.istore 4, 2) := by decide +kernel
theorem d1_68 : decode prog_1_method_3_code 68 = .ok (.iconst 0, 1) := by decide +kernel
theorem d1_69 : decode prog_1_method_3_code 69 = .ok (.istore 5, 2) := by decide +kernel
theorem d1_71 : decode prog_1_method_3_code 71 = .ok (.iload 5, 2) := by decide +kernel
theorem d1_73 : decode prog_1_method_3_code 73 = .ok (.iload_n 1, 1) := by decide +kernel
theorem d1_74 : decode prog_1_method_3_code 74 = .ok (.if_icmp .ge 97, 3) := by decide +kernel
theorem d1_77 : decode prog_1_method_3_code 77 = .ok (.iload 4, 2) := by decide +kernel
theorem d1_79 : decode prog_1_method_3_code 79 = .ok (.istore 6, 2) := by decide +kernel
theorem d1_81 : decode prog_1_method_3_code 81 = .ok (.iload 6, 2) := by decide +kernel
theorem d1_83 : decode prog_1_method_3_code 83 = .ok (.aload_n 0, 1) := by decide +kernel
theorem d1_84 : decode prog_1_method_3_code 84 = .ok (.arraylength, 1) := by decide +kernel
theorem d1_85 : decode prog_1_method_3_code 85 = .ok (.if_icmp .ge 18, 3) := by decide +kernel
theorem d1_88 : decode prog_1_method_3_code 88 = .ok (.aload_n 0, 1) := by decide +kernel
theorem d1_89 : decode prog_1_method_3_code 89 = .ok (.iload 6, 2) := by decide +kernel
theorem d1_91 : decode prog_1_method_3_code 91 = .ok (.baload, 1) := by decide +kernel
theorem d1_92 : decode prog_1_method_3_code 92 = .ok (.bipush 10, 2) := by decide +kernel
theorem d1_94 : decode prog_1_method_3_code 94 = .ok (.if_icmp .eq 9, 3) := by decide +kernel
theorem d1_97 : decode prog_1_method_3_code 97 = .ok (.iinc 6 1, 3) := by decide +kernel
theorem d1_100 : decode prog_1_method_3_code 100 = .ok (.goto (-19), 3) := by decide +kernel
theorem d1_103 : decode prog_1_method_3_code 103 = .ok (.iload 6, 2) := by decide +kernel
theorem d1_105 : decode prog_1_method_3_code 105 = .ok (.aload_n 0, 1) := by decide +kernel
theorem d1_106 : decode prog_1_method_3_code 106 = .ok (.arraylength, 1) := by decide +kernel
theorem d1_107 : decode prog_1_method_3_code 107 = .ok (.if_icmp .ge 25, 3) := by decide +kernel
theorem d1_110 : decode prog_1_method_3_code 110 = .ok (.iload 6, 2) := by decide +kernel
theorem d1_112 : decode prog_1_method_3_code 112 = .ok (.iload 4, 2) := by decide +kernel
theorem d1_114 : decode prog_1_method_3_code 114 = .ok (.if_icmp .le 18, 3) := by decide +kernel
theorem d1_117 : decode prog_1_method_3_code 117 = .ok (.aload_n 0, 1) := by decide +kernel
theorem d1_118 : decode prog_1_method_3_code 118 = .ok (.iload 6, 2) := by decide +kernel
theorem d1_120 : decode prog_1_method_3_code 120 = .ok (.iconst 1, 1) := by decide +kernel
theorem d1_121 : decode prog_1_method_3_code 121 = .ok (.isub, 1) := by decide +kernel
theorem d1_122 : decode prog_1_method_3_code 122 = .ok (.baload, 1) := by decide +kernel
theorem d1_123 : decode prog_1_method_3_code 123 = .ok (.bipush 13, 2) := by decide +kernel
theorem d1_125 : decode prog_1_method_3_code 125 = .ok (.if_icmp .ne 7, 3) := by decide +kernel
theorem d1_128 : decode prog_1_method_3_code 128 = .ok (.iconst 1, 1) := by decide +kernel
theorem d1_129 : decode prog_1_method_3_code 129 = .ok (.goto 4, 3) := by decide +kernel
theorem d1_132 : decode prog_1_method_3_code 132 = .ok (.iconst 0, 1) := by decide +kernel
theorem d1_133 : decode prog_1_method_3_code 133 = .ok (.istore 7, 2) := by decide +kernel
theorem d1_135 : decode prog_1_method_3_code 135 = .ok (.aload_n 2, 1) := by decide +kernel
theorem d1_136 : decode prog_1_method_3_code 136 = .ok (.iload 5, 2) := by decide +kernel
theorem d1_138 : decode prog_1_method_3_code 138 = .ok (.iload 4, 2) := by decide +kernel
theorem d1_140 : decode prog_1_method_3_code 140 = .ok (.iastore, 1) := by decide +kernel
theorem d1_141 : decode prog_1_method_3_code 141 = .ok (.aload_n 3, 1) := by decide +kernel
theorem d1_142 : decode prog_1_method_3_code 142 = .ok (.iload 5, 2) := by decide +kernel
theorem d1_144 : decode prog_1_method_3_code 144 = .ok (.iload 7, 2) := by decide +kernel
theorem d1_146 : decode prog_1_method_3_code 146 = .ok (.ifCond .eq 10, 3) := by decide +kernel
theorem d1_149 : decode prog_1_method_3_code 149 = .ok (.iload 6, 2) := by decide +kernel
theorem d1_151 : decode prog_1_method_3_code 151 = .ok (.iconst 1, 1) := by decide +kernel
theorem d1_152 : decode prog_1_method_3_code 152 = .ok (.isub, 1) := by decide +kernel
theorem d1_153 : decode prog_1_method_3_code 153 = .ok (.goto 5, 3) := by decide +kernel
theorem d1_156 : decode prog_1_method_3_code 156 = .ok (.iload 6, 2) := by decide +kernel
theorem d1_158 : decode prog_1_method_3_code 158 = .ok (.iastore, 1) := by decide +kernel
theorem d1_159 : decode prog_1_method_3_code 159 = .ok (.iload 6, 2) := by decide +kernel
theorem d1_161 : decode prog_1_method_3_code 161 = .ok (.iconst 1, 1) := by decide +kernel
theorem d1_162 : decode prog_1_method_3_code 162 = .ok (.iadd, 1) := by decide +kernel
theorem d1_163 : decode prog_1_method_3_code 163 = .ok (.istore 4, 2) := by decide +kernel
theorem d1_165 : decode prog_1_method_3_code 165 = .ok (.iinc 5 1, 3) := by decide +kernel
theorem d1_168 : decode prog_1_method_3_code 168 = .ok (.goto (-97), 3) := by decide +kernel
theorem d1_171 : decode prog_1_method_3_code 171 = .ok (.new 10, 3) := by decide +kernel
theorem d1_174 : decode prog_1_method_3_code 174 = .ok (.dup, 1) := by decide +kernel
theorem d1_175 : decode prog_1_method_3_code 175 = .ok (.aload_n 0, 1) := by decide +kernel
theorem d1_176 : decode prog_1_method_3_code 176 = .ok (.aload_n 2, 1) := by decide +kernel
theorem d1_177 : decode prog_1_method_3_code 177 = .ok (.aload_n 3, 1) := by decide +kernel
theorem d1_178 : decode prog_1_method_3_code 178 = .ok (.invokespecial 53, 3) := by decide +kernel
theorem d1_181 : decode prog_1_method_3_code 181 = .ok (.areturn, 1) := by decide +kernel
theorem d2_0 : decode prog_1_method_1_code 0 = .ok (.aload_n 0, 1) := by decide +kernel
theorem d2_1 : decode prog_1_method_1_code 1 = .ok (.invokespecial 3, 3) := by decide +kernel
theorem d2_4 : decode prog_1_method_1_code 4 = .ok (.aload_n 0, 1) := by decide +kernel
theorem d2_5 : decode prog_1_method_1_code 5 = .ok (.aload_n 1, 1) := by decide +kernel
theorem d2_6 : decode prog_1_method_1_code 6 = .ok (.putfield 9, 3) := by decide +kernel
theorem d2_9 : decode prog_1_method_1_code 9 = .ok (.aload_n 0, 1) := by decide +kernel
theorem d2_10 : decode prog_1_method_1_code 10 = .ok (.aload_n 2, 1) := by decide +kernel
theorem d2_11 : decode prog_1_method_1_code 11 = .ok (.putfield 15, 3) := by decide +kernel
theorem d2_14 : decode prog_1_method_1_code 14 = .ok (.aload_n 0, 1) := by decide +kernel
theorem d2_15 : decode prog_1_method_1_code 15 = .ok (.aload_n 3, 1) := by decide +kernel
theorem d2_16 : decode prog_1_method_1_code 16 = .ok (.putfield 19, 3) := by decide +kernel
theorem d2_19 : decode prog_1_method_1_code 19 = .ok (.return_, 1) := by decide +kernel
theorem d4_0 : decode prog_1_method_4_code 0 = .ok (.aload_n 0, 1) := by decide +kernel
theorem d4_1 : decode prog_1_method_4_code 1 = .ok (.getfield 15, 3) := by decide +kernel
theorem d4_4 : decode prog_1_method_4_code 4 = .ok (.arraylength, 1) := by decide +kernel
theorem d4_5 : decode prog_1_method_4_code 5 = .ok (.ireturn, 1) := by decide +kernel
theorem d5_0 : decode method_2_code 0 = .ok (.iload_n 0, 1) := by decide +kernel
theorem d5_1 : decode method_2_code 1 = .ok (.iconst 3, 1) := by decide +kernel
theorem d5_2 : decode method_2_code 2 = .ok (.iand, 1) := by decide +kernel
theorem d5_3 : decode method_2_code 3 = .ok (.istore_n 1, 1) := by decide +kernel
theorem d5_4 : decode method_2_code 4 = .ok (.iload_n 1, 1) := by decide +kernel
theorem d5_5 : decode method_2_code 5 = .ok (.ifCond .ne 6, 3) := by decide +kernel
theorem d5_8 : decode method_2_code 8 = .ok (.bipush 10, 2) := by decide +kernel
theorem d5_10 : decode method_2_code 10 = .ok (.ireturn, 1) := by decide +kernel
theorem d5_11 : decode method_2_code 11 = .ok (.iload_n 1, 1) := by decide +kernel
theorem d5_12 : decode method_2_code 12 = .ok (.iconst 1, 1) := by decide +kernel
theorem d5_13 : decode method_2_code 13 = .ok (.if_icmp .ne 6, 3) := by decide +kernel
theorem d5_16 : decode method_2_code 16 = .ok (.bipush 13, 2) := by decide +kernel
theorem d5_18 : decode method_2_code 18 = .ok (.ireturn, 1) := by decide +kernel
theorem d5_19 : decode method_2_code 19 = .ok (.iload_n 0, 1) := by decide +kernel
theorem d5_20 : decode method_2_code 20 = .ok (.iconst 2, 1) := by decide +kernel
theorem d5_21 : decode method_2_code 21 = .ok (.ishr, 1) := by decide +kernel
theorem d5_22 : decode method_2_code 22 = .ok (.i2b, 1) := by decide +kernel
theorem d5_23 : decode method_2_code 23 = .ok (.ireturn, 1) := by decide +kernel
theorem d6_0 : decode method_4_code 0 = .ok (.aload_n 0, 1) := by decide +kernel
theorem d6_1 : decode method_4_code 1 = .ok (.iload_n 3, 1) := by decide +kernel
theorem d6_2 : decode method_4_code 2 = .ok (.invokevirtual 7, 3) := by decide +kernel
theorem d6_5 : decode method_4_code 5 = .ok (.astore 4, 2) := by decide +kernel
theorem d6_7 : decode method_4_code 7 = .ok (.iload_n 3, 1) := by decide +kernel
theorem d6_8 : decode method_4_code 8 = .ok (.ifCond .ne 7, 3) := by decide +kernel
theorem d6_11 : decode method_4_code 11 = .ok (.iconst 0, 1) := by decide +kernel
theorem d6_12 : decode method_4_code 12 = .ok (.goto 13, 3) := by decide +kernel
theorem d6_15 : decode method_4_code 15 = .ok (.aload_n 1, 1) := by decide +kernel
theorem d6_16 : decode method_4_code 16 = .ok (.iload_n 2, 1) := by decide +kernel
theorem d6_17 : decode method_4_code 17 = .ok (.iload_n 3, 1) := by decide +kernel
theorem d6_18 : decode method_4_code 18 = .ok (.iconst 1, 1) := by decide +kernel
theorem d6_19 : decode method_4_code 19 = .ok (.isub, 1) := by decide +kernel
theorem d6_20 : decode method_4_code 20 = .ok (.invokestatic 13, 3) := by decide +kernel
theorem d6_23 : decode method_4_code 23 = .ok (.iconst 1, 1) := by decide +kernel
theorem d6_24 : decode method_4_code 24 = .ok (.iadd, 1) := by decide +kernel
theorem d6_25 : decode method_4_code 25 = .ok (.istore 5, 2) := by decide +kernel
theorem d6_27 : decode method_4_code 27 = .ok (.aload_n 1, 1) := by decide +kernel
theorem d6_28 : decode method_4_code 28 = .ok (.iload_n 2, 1) := by decide +kernel
theorem d6_29 : decode method_4_code 29 = .ok (.iload_n 3, 1) := by decide +kernel
theorem d6_30 : decode method_4_code 30 = .ok (.invokestatic 13, 3) := by decide +kernel
theorem d6_33 : decode method_4_code 33 = .ok (.istore 6, 2) := by decide +kernel
theorem d6_35 : decode method_4_code 35 = .ok (.iload 6, 2) := by decide +kernel
theorem d6_37 : decode method_4_code 37 = .ok (.iload_n 2, 1) := by decide +kernel
theorem d6_38 : decode method_4_code 38 = .ok (.if_icmp .ge 25, 3) := by decide +kernel
theorem d6_41 : decode method_4_code 41 = .ok (.iload 6, 2) := by decide +kernel
theorem d6_43 : decode method_4_code 43 = .ok (.iload 5, 2) := by decide +kernel
theorem d6_45 : decode method_4_code 45 = .ok (.if_icmp .le 18, 3) := by decide +kernel
theorem d6_48 : decode method_4_code 48 = .ok (.aload_n 1, 1) := by decide +kernel
theorem d6_49 : decode method_4_code 49 = .ok (.iload 6, 2) := by decide +kernel
theorem d6_51 : decode method_4_code 51 = .ok (.iconst 1, 1) := by decide +kernel
theorem d6_52 : decode method_4_code 52 = .ok (.isub, 1) := by decide +kernel
theorem d6_53 : decode method_4_code 53 = .ok (.baload, 1) := by decide +kernel
theorem d6_54 : decode method_4_code 54 = .ok (.bipush 13, 2) := by decide +kernel
theorem d6_56 : decode method_4_code 56 = .ok (.if_icmp .ne 7, 3) := by decide +kernel
theorem d6_59 : decode method_4_code 59 = .ok (.iconst 1, 1) := by decide +kernel
theorem d6_60 : decode method_4_code 60 = .ok (.goto 4, 3) := by decide +kernel
theorem d6_63 : decode method_4_code 63 = .ok (.iconst 0, 1) := by decide +kernel
theorem d6_64 : decode method_4_code 64 = .ok (.istore 7, 2) := by decide +kernel
theorem d6_66 : decode method_4_code 66 = .ok (.iload 7, 2) := by decide +kernel
theorem d6_68 : decode method_4_code 68 = .ok (.ifCond .eq 10, 3) := by decide +kernel
theorem d6_71 : decode method_4_code 71 = .ok (.iload 6, 2) := by decide +kernel
theorem d6_73 : decode method_4_code 73 = .ok (.iconst 1, 1) := by decide +kernel
theorem d6_74 : decode method_4_code 74 = .ok (.isub, 1) := by decide +kernel
theorem d6_75 : decode method_4_code 75 = .ok (.goto 5, 3) := by decide +kernel
theorem d6_78 : decode method_4_code 78 = .ok (.iload 6, 2) := by decide +kernel
theorem d6_80 : decode method_4_code 80 = .ok (.istore 8, 2) := by decide +kernel
theorem d6_82 : decode method_4_code 82 = .ok (.aload 4, 2) := by decide +kernel
theorem d6_84 : decode method_4_code 84 = .ok (.arraylength, 1) := by decide +kernel
theorem d6_85 : decode method_4_code 85 = .ok (.iload 8, 2) := by decide +kernel
theorem d6_87 : decode method_4_code 87 = .ok (.iload 5, 2) := by decide +kernel
theorem d6_89 : decode method_4_code 89 = .ok (.isub, 1) := by decide +kernel
theorem d6_90 : decode method_4_code 90 = .ok (.if_icmp .eq 5, 3) := by decide +kernel
theorem d6_93 : decode method_4_code 93 = .ok (.iconst 0, 1) := by decide +kernel
theorem d6_94 : decode method_4_code 94 = .ok (.ireturn, 1) := by decide +kernel
theorem d6_95 : decode method_4_code 95 = .ok (.aload 4, 2) := by decide +kernel
theorem d6_97 : decode method_4_code 97 = .ok (.arraylength, 1) := by decide +kernel
theorem d6_98 : decode method_4_code 98 = .ok (.ifCond .le 16, 3) := by decide +kernel
theorem d6_101 : decode method_4_code 101 = .ok (.aload 4, 2) := by decide +kernel
theorem d6_103 : decode method_4_code 103 = .ok (.iconst 0, 1) := by decide +kernel
theorem d6_104 : decode method_4_code 104 = .ok (.baload, 1) := by decide +kernel
theorem d6_105 : decode method_4_code 105 = .ok (.aload_n 1, 1) := by decide +kernel
theorem d6_106 : decode method_4_code 106 = .ok (.iload 5, 2) := by decide +kernel
theorem d6_108 : decode method_4_code 108 = .ok (.baload, 1) := by decide +kernel
theorem d6_109 : decode method_4_code 109 = .ok (.if_icmp .eq 5, 3) := by decide +kernel
theorem d6_112 : decode method_4_code 112 = .ok (.iconst 0, 1) := by decide +kernel
theorem d6_113 : decode method_4_code 113 = .ok (.ireturn, 1) := by decide +kernel
theorem d6_114 : decode method_4_code 114 = .ok (.aload 4, 2) := by decide +kernel
theorem d6_116 : decode method_4_code 116 = .ok (.arraylength, 1) := by decide +kernel
theorem d6_117 : decode method_4_code 117 = .ok (.iconst 1, 1) := by decide +kernel
theorem d6_118 : decode method_4_code 118 = .ok (.if_icmp .le 18, 3) := by decide +kernel
theorem d6_121 : decode method_4_code 121 = .ok (.aload 4, 2) := by decide +kernel
theorem d6_123 : decode method_4_code 123 = .ok (.iconst 1, 1) := by decide +kernel
theorem d6_124 : decode method_4_code 124 = .ok (.baload, 1) := by decide +kernel
theorem d6_125 : decode method_4_code 125 = .ok (.aload_n 1, 1) := by decide +kernel
theorem d6_126 : decode method_4_code 126 = .ok (.iload 5, 2) := by decide +kernel
theorem d6_128 : decode method_4_code 128 = .ok (.iconst 1, 1) := by decide +kernel
theorem d6_129 : decode method_4_code 129 = .ok (.iadd, 1) := by decide +kernel
theorem d6_130 : decode method_4_code 130 = .ok (.baload, 1) := by decide +kernel
theorem d6_131 : decode method_4_code 131 = .ok (.if_icmp .eq 5, 3) := by decide +kernel
theorem d6_134 : decode method_4_code 134 = .ok (.iconst 0, 1) := by decide +kernel
theorem d6_135 : decode method_4_code 135 = .ok (.ireturn, 1) := by decide +kernel
theorem d6_136 : decode method_4_code 136 = .ok (.aload 4, 2) := by decide +kernel
theorem d6_138 : decode method_4_code 138 = .ok (.arraylength, 1) := by decide +kernel
theorem d6_139 : decode method_4_code 139 = .ok (.iconst 2, 1) := by decide +kernel
theorem d6_140 : decode method_4_code 140 = .ok (.if_icmp .le 18, 3) := by decide +kernel
theorem d6_143 : decode method_4_code 143 = .ok (.aload 4, 2) := by decide +kernel
theorem d6_145 : decode method_4_code 145 = .ok (.iconst 2, 1) := by decide +kernel
theorem d6_146 : decode method_4_code 146 = .ok (.baload, 1) := by decide +kernel
theorem d6_147 : decode method_4_code 147 = .ok (.aload_n 1, 1) := by decide +kernel
theorem d6_148 : decode method_4_code 148 = .ok (.iload 5, 2) := by decide +kernel
theorem d6_150 : decode method_4_code 150 = .ok (.iconst 2, 1) := by decide +kernel
theorem d6_151 : decode method_4_code 151 = .ok (.iadd, 1) := by decide +kernel
theorem d6_152 : decode method_4_code 152 = .ok (.baload, 1) := by decide +kernel
theorem d6_153 : decode method_4_code 153 = .ok (.if_icmp .eq 5, 3) := by decide +kernel
theorem d6_156 : decode method_4_code 156 = .ok (.iconst 0, 1) := by decide +kernel
theorem d6_157 : decode method_4_code 157 = .ok (.ireturn, 1) := by decide +kernel
theorem d6_158 : decode method_4_code 158 = .ok (.aload 4, 2) := by decide +kernel
theorem d6_160 : decode method_4_code 160 = .ok (.arraylength, 1) := by decide +kernel
theorem d6_161 : decode method_4_code 161 = .ok (.iconst 3, 1) := by decide +kernel
theorem d6_162 : decode method_4_code 162 = .ok (.if_icmp .le 18, 3) := by decide +kernel
theorem d6_165 : decode method_4_code 165 = .ok (.aload 4, 2) := by decide +kernel
theorem d6_167 : decode method_4_code 167 = .ok (.iconst 3, 1) := by decide +kernel
theorem d6_168 : decode method_4_code 168 = .ok (.baload, 1) := by decide +kernel
theorem d6_169 : decode method_4_code 169 = .ok (.aload_n 1, 1) := by decide +kernel
theorem d6_170 : decode method_4_code 170 = .ok (.iload 5, 2) := by decide +kernel
theorem d6_172 : decode method_4_code 172 = .ok (.iconst 3, 1) := by decide +kernel
theorem d6_173 : decode method_4_code 173 = .ok (.iadd, 1) := by decide +kernel
theorem d6_174 : decode method_4_code 174 = .ok (.baload, 1) := by decide +kernel
theorem d6_175 : decode method_4_code 175 = .ok (.if_icmp .eq 5, 3) := by decide +kernel
theorem d6_178 : decode method_4_code 178 = .ok (.iconst 0, 1) := by decide +kernel
theorem d6_179 : decode method_4_code 179 = .ok (.ireturn, 1) := by decide +kernel
theorem d6_180 : decode method_4_code 180 = .ok (.iconst 1, 1) := by decide +kernel
theorem d6_181 : decode method_4_code 181 = .ok (.ireturn, 1) := by decide +kernel
theorem d7_0 : decode prog_1_method_6_code 0 = .ok (.aload_n 0, 1) := by decide +kernel
theorem d7_1 : decode prog_1_method_6_code 1 = .ok (.getfield 9, 3) := by decide +kernel
theorem d7_4 : decode prog_1_method_6_code 4 = .ok (.aload_n 0, 1) := by decide +kernel
theorem d7_5 : decode prog_1_method_6_code 5 = .ok (.getfield 15, 3) := by decide +kernel
theorem d7_8 : decode prog_1_method_6_code 8 = .ok (.iload_n 1, 1) := by decide +kernel
theorem d7_9 : decode prog_1_method_6_code 9 = .ok (.iaload, 1) := by decide +kernel
theorem d7_10 : decode prog_1_method_6_code 10 = .ok (.aload_n 0, 1) := by decide +kernel
theorem d7_11 : decode prog_1_method_6_code 11 = .ok (.getfield 19, 3) := by decide +kernel
theorem d7_14 : decode prog_1_method_6_code 14 = .ok (.iload_n 1, 1) := by decide +kernel
theorem d7_15 : decode prog_1_method_6_code 15 = .ok (.iaload, 1) := by decide +kernel
theorem d7_16 : decode prog_1_method_6_code 16 = .ok (.invokestatic 62, 3) := by decide +kernel
theorem d7_19 : decode prog_1_method_6_code 19 = .ok (.areturn, 1) := by decide +kernel
theorem d8_0 : decode jdk_65_method_132_code 0 = .ok (.iload_n 1, 1) := by decide +kernel
theorem d8_1 : decode jdk_65_method_132_code 1 = .ok (.ifCond .ne 9, 3) := by decide +kernel
theorem d8_4 : decode jdk_65_method_132_code 4 = .ok (.iload_n 2, 1) := by decide +kernel
theorem d8_5 : decode jdk_65_method_132_code 5 = .ok (.aload_n 0, 1) := by decide +kernel
theorem d8_6 : decode jdk_65_method_132_code 6 = .ok (.arraylength, 1) := by decide +kernel
theorem d8_7 : decode jdk_65_method_132_code 7 = .ok (.if_icmp .eq 10, 3) := by decide +kernel
theorem d8_10 : decode jdk_65_method_132_code 10 = .ok (.aload_n 0, 1) := by decide +kernel
theorem d8_11 : decode jdk_65_method_132_code 11 = .ok (.iload_n 1, 1) := by decide +kernel
theorem d8_12 : decode jdk_65_method_132_code 12 = .ok (.iload_n 2, 1) := by decide +kernel
theorem d8_13 : decode jdk_65_method_132_code 13 = .ok (.invokestatic 339, 3) := by decide +kernel
theorem d8_16 : decode jdk_65_method_132_code 16 = .ok (.areturn, 1) := by decide +kernel
theorem d8_17 : decode jdk_65_method_132_code 17 = .ok (.aload_n 0, 1) := by decide +kernel
theorem d8_18 : decode jdk_65_method_132_code 18 = .ok (.invokevirtual 310, 3) := by decide +kernel
theorem d8_21 : decode jdk_65_method_132_code 21 = .ok (.checkcast 311, 3) := by decide +kernel
theorem d8_24 : decode jdk_65_method_132_code 24 = .ok (.areturn, 1) := by decide +kernel
theorem d9_0 : decode jdk_65_method_133_code 0 = .ok (.iload_n 1, 1) := by decide +kernel
theorem d9_1 : decode jdk_65_method_133_code 1 = .ok (.iload_n 2, 1) := by decide +kernel
theorem d9_2 : decode jdk_65_method_133_code 2 = .ok (.invokestatic 343, 3) := by decide +kernel
theorem d9_5 : decode jdk_65_method_133_code 5 = .ok (.iload_n 2, 1) := by decide +kernel
theorem d9_6 : decode jdk_65_method_133_code 6 = .ok (.iload_n 1, 1) := by decide +kernel
theorem d9_7 : decode jdk_65_method_133_code 7 = .ok (.isub, 1) := by decide +kernel
theorem d9_8 : decode jdk_65_method_133_code 8 = .ok (.istore_n 3, 1) := by decide +kernel
theorem d9_9 : decode jdk_65_method_133_code 9 = .ok (.iload_n 3, 1) := by decide +kernel
theorem d9_10 : decode jdk_65_method_133_code 10 = .ok (.newarray .byte, 2) := by decide +kernel
theorem d9_12 : decode jdk_65_method_133_code 12 = .ok (.astore 4, 2) := by decide +kernel
theorem d9_14 : decode jdk_65_method_133_code 14 = .ok (.aload_n 0, 1) := by decide +kernel
theorem d9_15 : decode jdk_65_method_133_code 15 = .ok (.iload_n 1, 1) := by decide +kernel
theorem d9_16 : decode jdk_65_method_133_code 16 = .ok (.aload 4, 2) := by decide +kernel
theorem d9_18 : decode jdk_65_method_133_code 18 = .ok (.iconst 0, 1) := by decide +kernel
theorem d9_19 : decode jdk_65_method_133_code 19 = .ok (.aload_n 0, 1) := by decide +kernel
theorem d9_20 : decode jdk_65_method_133_code 20 = .ok (.arraylength, 1) := by decide +kernel
theorem d9_21 : decode jdk_65_method_133_code 21 = .ok (.iload_n 1, 1) := by decide +kernel
theorem d9_22 : decode jdk_65_method_133_code 22 = .ok (.isub, 1) := by decide +kernel
theorem d9_23 : decode jdk_65_method_133_code 23 = .ok (.iload_n 3, 1) := by decide +kernel
theorem d9_24 : decode jdk_65_method_133_code 24 = .ok (.invokestatic 304, 3) := by decide +kernel
theorem d9_27 : decode jdk_65_method_133_code 27 = .ok (.invokestatic 150, 3) := by decide +kernel
theorem d9_30 : decode jdk_65_method_133_code 30 = .ok (.aload 4, 2) := by decide +kernel
theorem d9_32 : decode jdk_65_method_133_code 32 = .ok (.areturn, 1) := by decide +kernel
theorem d11_0 : decode jdk_29_method_69_code 0 = .ok (.iload_n 0, 1) := by decide +kernel
theorem d11_1 : decode jdk_29_method_69_code 1 = .ok (.iload_n 1, 1) := by decide +kernel
theorem d11_2 : decode jdk_29_method_69_code 2 = .ok (.if_icmp .gt 7, 3) := by decide +kernel
theorem d11_5 : decode jdk_29_method_69_code 5 = .ok (.iload_n 0, 1) := by decide +kernel
theorem d11_6 : decode jdk_29_method_69_code 6 = .ok (.goto 4, 3) := by decide +kernel
theorem d11_9 : decode jdk_29_method_69_code 9 = .ok (.iload_n 1, 1) := by decide +kernel
theorem d11_10 : decode jdk_29_method_69_code 10 = .ok (.ireturn, 1) := by decide +kernel
theorem d12_0 : decode method_3_code 0 = .ok (.iconst 0, 1) := by decide +kernel
theorem d12_1 : decode method_3_code 1 = .ok (.istore_n 3, 1) := by decide +kernel
theorem d12_2 : decode method_3_code 2 = .ok (.iload_n 1, 1) := by decide +kernel
theorem d12_3 : decode method_3_code 3 = .ok (.ifCond .le 21, 3) := by decide +kernel
theorem d12_6 : decode method_3_code 6 = .ok (.aload_n 0, 1) := by decide +kernel
theorem d12_7 : decode method_3_code 7 = .ok (.iconst 0, 1) := by decide +kernel
theorem d12_8 : decode method_3_code 8 = .ok (.baload, 1) := by decide +kernel
theorem d12_9 : decode method_3_code 9 = .ok (.bipush 10, 2) := by decide +kernel
theorem d12_11 : decode method_3_code 11 = .ok (.if_icmp .ne 13, 3) := by decide +kernel
theorem d12_14 : decode method_3_code 14 = .ok (.iload_n 3, 1) := by decide +kernel
theorem d12_15 : decode method_3_code 15 = .ok (.iload_n 2, 1) := by decide +kernel
theorem d12_16 : decode method_3_code 16 = .ok (.if_icmp .ne 5, 3) := by decide +kernel
theorem d12_19 : decode method_3_code 19 = .ok (.iconst 0, 1) := by decide +kernel
theorem d12_20 : decode method_3_code 20 = .ok (.ireturn, 1) := by decide +kernel
theorem d12_21 : decode method_3_code 21 = .ok (.iinc 3 1, 3) := by decide +kernel
theorem d12_24 : decode method_3_code 24 = .ok (.iload_n 1, 1) := by decide +kernel
theorem d12_25 : decode method_3_code 25 = .ok (.iconst 1, 1) := by decide +kernel
theorem d12_26 : decode method_3_code 26 = .ok (.if_icmp .le 21, 3) := by decide +kernel
theorem d12_29 : decode method_3_code 29 = .ok (.aload_n 0, 1) := by decide +kernel
theorem d12_30 : decode method_3_code 30 = .ok (.iconst 1, 1) := by decide +kernel
theorem d12_31 : decode method_3_code 31 = .ok (.baload, 1) := by decide +kernel
theorem d12_32 : decode method_3_code 32 = .ok (.bipush 10, 2) := by decide +kernel
theorem d12_34 : decode method_3_code 34 = .ok (.if_icmp .ne 13, 3) := by decide +kernel
theorem d12_37 : decode method_3_code 37 = .ok (.iload_n 3, 1) := by decide +kernel
theorem d12_38 : decode method_3_code 38 = .ok (.iload_n 2, 1) := by decide +kernel
theorem d12_39 : decode method_3_code 39 = .ok (.if_icmp .ne 5, 3) := by decide +kernel
theorem d12_42 : decode method_3_code 42 = .ok (.iconst 1, 1) := by decide +kernel
theorem d12_43 : decode method_3_code 43 = .ok (.ireturn, 1) := by decide +kernel
theorem d12_44 : decode method_3_code 44 = .ok (.iinc 3 1, 3) := by decide +kernel
theorem d12_47 : decode method_3_code 47 = .ok (.iload_n 1, 1) := by decide +kernel
theorem d12_48 : decode method_3_code 48 = .ok (.iconst 2, 1) := by decide +kernel
theorem d12_49 : decode method_3_code 49 = .ok (.if_icmp .le 21, 3) := by decide +kernel
theorem d12_52 : decode method_3_code 52 = .ok (.aload_n 0, 1) := by decide +kernel
theorem d12_53 : decode method_3_code 53 = .ok (.iconst 2, 1) := by decide +kernel
theorem d12_54 : decode method_3_code 54 = .ok (.baload, 1) := by decide +kernel
theorem d12_55 : decode method_3_code 55 = .ok (.bipush 10, 2) := by decide +kernel
theorem d12_57 : decode method_3_code 57 = .ok (.if_icmp .ne 13, 3) := by decide +kernel
theorem d12_60 : decode method_3_code 60 = .ok (.iload_n 3, 1) := by decide +kernel
theorem d12_61 : decode method_3_code 61 = .ok (.iload_n 2, 1) := by decide +kernel
theorem d12_62 : decode method_3_code 62 = .ok (.if_icmp .ne 5, 3) := by decide +kernel
theorem d12_65 : decode method_3_code 65 = .ok (.iconst 2, 1) := by decide +kernel
theorem d12_66 : decode method_3_code 66 = .ok (.ireturn, 1) := by decide +kernel
theorem d12_67 : decode method_3_code 67 = .ok (.iinc 3 1, 3) := by decide +kernel
theorem d12_70 : decode method_3_code 70 = .ok (.iload_n 1, 1) := by decide +kernel
theorem d12_71 : decode method_3_code 71 = .ok (.iconst 3, 1) := by decide +kernel
theorem d12_72 : decode method_3_code 72 = .ok (.if_icmp .le 21, 3) := by decide +kernel
theorem d12_75 : decode method_3_code 75 = .ok (.aload_n 0, 1) := by decide +kernel
theorem d12_76 : decode method_3_code 76 = .ok (.iconst 3, 1) := by decide +kernel
theorem d12_77 : decode method_3_code 77 = .ok (.baload, 1) := by decide +kernel
theorem d12_78 : decode method_3_code 78 = .ok (.bipush 10, 2) := by decide +kernel
theorem d12_80 : decode method_3_code 80 = .ok (.if_icmp .ne 13, 3) := by decide +kernel
theorem d12_83 : decode method_3_code 83 = .ok (.iload_n 3, 1) := by decide +kernel
theorem d12_84 : decode method_3_code 84 = .ok (.iload_n 2, 1) := by decide +kernel
theorem d12_85 : decode method_3_code 85 = .ok (.if_icmp .ne 5, 3) := by decide +kernel
theorem d12_88 : decode method_3_code 88 = .ok (.iconst 3, 1) := by decide +kernel
theorem d12_89 : decode method_3_code 89 = .ok (.ireturn, 1) := by decide +kernel
theorem d12_90 : decode method_3_code 90 = .ok (.iinc 3 1, 3) := by decide +kernel
theorem d12_93 : decode method_3_code 93 = .ok (.iload_n 1, 1) := by decide +kernel
theorem d12_94 : decode method_3_code 94 = .ok (.ireturn, 1) := by decide +kernel
theorem d10_0 : decode jdk_65_method_131_code 0 = .ok (.iload_n 1, 1) := by decide +kernel
theorem d10_1 : decode jdk_65_method_131_code 1 = .ok (.iload_n 0, 1) := by decide +kernel
theorem d10_2 : decode jdk_65_method_131_code 2 = .ok (.if_icmp .ge 35, 3) := by decide +kernel
theorem d10_37 : decode jdk_65_method_131_code 37 = .ok (.return_, 1) := by decide +kernel
theorem pn_rm_init : plainFor (⟨"com/example/herder/herder/Dictionary", "<init>", "([B[I[I)V"⟩ : MethodName) = true := by first | exact plainFor_of_name (by first | (simp [plainName, overriddenIn]; done) | decide +kernel) | decide +kernel
theorem ef_rm_init (a : Nat) (x1 : Nat) (x2 : Nat) (x3 : Nat) (m : MethodId) : entryFrame m #[(.ref a), (.ref x1), (.ref x2), (.ref x3)] 4 = mkF m 0 #[.val (.ref a), .val (.ref x1), .val (.ref x2), .val (.ref x3)] [] := by first | (simp [entryFrame, mkF, argsToLocals, Value.category]; done) | rfl
set_option maxRecDepth 65536 in
set_option maxHeartbeats 40000000 in
theorem rm_init (l : Launch) (Z : State) (a0 : Array Value) (hw : ∀ d ∈ tables_1, d.before a0 Z = true) (a : Nat) (x1 : Nat) (x2 : Nat) (x3 : Nat) (h0 : Heap) (n0 : Nat) (Z0 : n0 ≤ h0.size) (u_content : Value) (F_content : Fld Z h0 a "com/example/herder/herder/Dictionary" "content" "[B" u_content) (u_starts : Value) (F_starts : Fld Z h0 a "com/example/herder/herder/Dictionary" "starts" "[I" u_starts) (u_ends : Value) (F_ends : Fld Z h0 a "com/example/herder/herder/Dictionary" "ends" "[I" u_ends) (E : Exa Z h0 a "com/example/herder/herder/Dictionary") (ge : n0 ≤ a) :
    OMet l Z n0 (⟨"com/example/herder/herder/Dictionary", "<init>", "([B[I[I)V"⟩ : MethodName) prog_1_method_1_code 4 none ({ frames := 1, cells := 0, slots := 0, locals := 12 } : Room) #[(.ref a), (.ref x1), (.ref x2), (.ref x3)] h0 (fun v h => v = none ∧ Exa Z h a "com/example/herder/herder/Dictionary" ∧ Keep h0 h [a] ∧ Fld Z h a "com/example/herder/herder/Dictionary" "content" "[B" (.ref x1) ∧ Fld Z h a "com/example/herder/herder/Dictionary" "starts" "[I" (.ref x2) ∧ Fld Z h a "com/example/herder/herder/Dictionary" "ends" "[I" (.ref x3)) := by
  refine OMet.of pn_rm_init Z0 (ef_rm_init a x1 x2 x3) ?_
  intro p e s m below meth c T H
  refine Own.aload_n H (pc := 0) d2_0 rfl rfl ?_
  refine Own.callO H (pc := 1) d2_1 (hw _ (List.mem_of_getElem? (i := 12) rfl)) (hw _ (List.mem_of_getElem? (i := 13) rfl)) (hw _ (List.mem_of_getElem? (i := 14) rfl)) 0 rfl (by decide) (by decide) rfl (fun T_2 H_1 => ?_)
  refine Own.aload_n H_1 (pc := 4) d2_4 rfl rfl ?_
  refine Own.aload_n H_1 (pc := 5) d2_5 rfl rfl ?_
  refine Own.putfield H_1 (pc := 6) d2_6 (hw _ (List.mem_of_getElem? (i := 15) rfl)) F_content E (Or.inr ⟨(hw _ (List.mem_of_getElem? (i := 16) rfl)), rfl, rfl⟩) (hw _ (List.mem_of_getElem? (i := 8) rfl)) (ty := (.array .byte)) (by decide) rfl rfl ge (fun T_4 h_5 H_3 W_6 => ?_)
  have E_7 := E.wr W_6
  have F_8 := F_content.same W_6
  have F_9 := F_starts.other W_6 (Or.inr (slot_ne (Or.inr (hw _ (List.mem_of_getElem? (i := 18) rfl))) (Or.inr (hw _ (List.mem_of_getElem? (i := 16) rfl))) (by decide) (t := (.array .int)) (t' := (.array .byte)) (by decide) (by decide)))
  have F_10 := F_ends.other W_6 (Or.inr (slot_ne (Or.inr (hw _ (List.mem_of_getElem? (i := 20) rfl))) (Or.inr (hw _ (List.mem_of_getElem? (i := 16) rfl))) (by decide) (t := (.array .int)) (t' := (.array .byte)) (by decide) (by decide)))
  have K_11 := (Keep.refl h0 [a]).wr W_6 (Or.inl List.mem_cons_self)
  refine Own.aload_n H_3 (pc := 9) d2_9 rfl rfl ?_
  refine Own.aload_n H_3 (pc := 10) d2_10 rfl rfl ?_
  refine Own.putfield H_3 (pc := 11) d2_11 (hw _ (List.mem_of_getElem? (i := 17) rfl)) F_9 E_7 (Or.inr ⟨(hw _ (List.mem_of_getElem? (i := 18) rfl)), rfl, rfl⟩) (hw _ (List.mem_of_getElem? (i := 8) rfl)) (ty := (.array .int)) (by decide) rfl rfl ge (fun T_13 h_14 H_12 W_15 => ?_)
  have E_16 := E_7.wr W_15
  have F_17 := F_8.other W_15 (Or.inr (slot_ne (Or.inr (hw _ (List.mem_of_getElem? (i := 16) rfl))) (Or.inr (hw _ (List.mem_of_getElem? (i := 18) rfl))) (by decide) (t := (.array .byte)) (t' := (.array .int)) (by decide) (by decide)))
  have F_18 := F_9.same W_15
  have F_19 := F_10.other W_15 (Or.inr (slot_ne (Or.inr (hw _ (List.mem_of_getElem? (i := 20) rfl))) (Or.inr (hw _ (List.mem_of_getElem? (i := 18) rfl))) (by decide) (t := (.array .int)) (t' := (.array .int)) (by decide) (by decide)))
  have K_20 := K_11.wr W_15 (Or.inl List.mem_cons_self)
  refine Own.aload_n H_12 (pc := 14) d2_14 rfl rfl ?_
  refine Own.aload_n H_12 (pc := 15) d2_15 rfl rfl ?_
  refine Own.putfield H_12 (pc := 16) d2_16 (hw _ (List.mem_of_getElem? (i := 19) rfl)) F_19 E_16 (Or.inr ⟨(hw _ (List.mem_of_getElem? (i := 20) rfl)), rfl, rfl⟩) (hw _ (List.mem_of_getElem? (i := 8) rfl)) (ty := (.array .int)) (by decide) rfl rfl ge (fun T_22 h_23 H_21 W_24 => ?_)
  have E_25 := E_16.wr W_24
  have F_26 := F_17.other W_24 (Or.inr (slot_ne (Or.inr (hw _ (List.mem_of_getElem? (i := 16) rfl))) (Or.inr (hw _ (List.mem_of_getElem? (i := 20) rfl))) (by decide) (t := (.array .byte)) (t' := (.array .int)) (by decide) (by decide)))
  have F_27 := F_18.other W_24 (Or.inr (slot_ne (Or.inr (hw _ (List.mem_of_getElem? (i := 18) rfl))) (Or.inr (hw _ (List.mem_of_getElem? (i := 20) rfl))) (by decide) (t := (.array .int)) (t' := (.array .int)) (by decide) (by decide)))
  have F_28 := F_19.same W_24
  have K_29 := K_20.wr W_24 (Or.inl List.mem_cons_self)
  exact Own.ret_void H_21 (pc := 19) d2_19 rfl (by decide) (by decide) (⟨rfl, E_25, K_29, F_26, F_27, F_28⟩)
theorem pn_rm_size : plainFor (⟨"com/example/herder/herder/Dictionary", "size", "()I"⟩ : MethodName) = true := by first | exact plainFor_of_name (by first | (simp [plainName, overriddenIn]; done) | decide +kernel) | decide +kernel
theorem ef_rm_size (a : Nat) (m : MethodId) : entryFrame m #[(.ref a)] 1 = mkF m 0 #[.val (.ref a)] [] := by first | (simp [entryFrame, mkF, argsToLocals, Value.category]; done) | rfl
set_option maxRecDepth 65536 in
set_option maxHeartbeats 40000000 in
theorem rm_size (l : Launch) (Z : State) (a0 : Array Value) (hw : ∀ d ∈ tables_1, d.before a0 Z = true) (a : Nat) (h0 : Heap) (n0 : Nat) (Z0 : n0 ≤ h0.size) (sA L : Nat) (vs : List Value) (F : Fld Z h0 a "com/example/herder/herder/Dictionary" "starts" "[I" (.ref sA)) (A : OAry Z h0 sA .int vs) (hl : vs.length = L) (h4 : L ≤ 4) :
    OMet l Z n0 (⟨"com/example/herder/herder/Dictionary", "size", "()I"⟩ : MethodName) prog_1_method_4_code 1 (some .int) ({ frames := 0, cells := 0, slots := 0, locals := 0 } : Room) #[(.ref a)] h0 (fun v h => v = some (.int (Int32.ofNat L)) ∧ h = h0) := by
  refine OMet.of pn_rm_size Z0 (ef_rm_size a) ?_
  intro p e s m below meth c T H
  refine Own.aload_n H (pc := 0) d4_0 rfl rfl ?_
  refine Own.getfield H (pc := 1) d4_1 (hw _ (List.mem_of_getElem? (i := 17) rfl)) F (fun T_31 H_30 => ?_)
  refine Own.arraylength H_30 (pc := 4) (Int32.ofNat L) d4_4 A (by rw [hl]; exact own_ofNat (by omega)) ?_
  exact Own.ret_int H_30 (pc := 5) d4_5 rfl (by decide) (by decide) (⟨rfl, rfl⟩)
theorem pn_rm_pick : plainFor (⟨"com/example/herder/herder/DictionaryOfPinLaw", "pick", "(I)B"⟩ : MethodName) = true := by first | exact plainFor_of_name (by first | (simp [plainName, overriddenIn]; done) | decide +kernel) | decide +kernel
theorem ef_rm_pick (x0 : Int32) (m : MethodId) : entryFrame m #[(.int x0)] 2 = mkF m 0 #[.val (.int x0), .unset] [] := by first | (simp [entryFrame, mkF, argsToLocals, Value.category]; done) | rfl
set_option maxRecDepth 65536 in
set_option maxHeartbeats 40000000 in
theorem rm_pick (l : Launch) (Z : State) (a0 : Array Value) (hw : ∀ d ∈ tables_1, d.before a0 Z = true) (x0 : Int32) (h0 : Heap) (n0 : Nat) (Z0 : n0 ≤ h0.size)  :
    OMet l Z n0 (⟨"com/example/herder/herder/DictionaryOfPinLaw", "pick", "(I)B"⟩ : MethodName) method_2_code 2 (some .byte) ({ frames := 0, cells := 0, slots := 0, locals := 0 } : Room) #[(.int x0)] h0 (fun v h => ∃ y : Int32, v = some (.int y) ∧ h = h0) := by
  refine OMet.of pn_rm_pick Z0 (ef_rm_pick x0) ?_
  intro p e s m below meth c T H
  refine Own.iload_n H (pc := 0) d5_0 rfl ?_
  refine Own.iconst H (pc := 1) (3) d5_1 rfl ?_
  refine Own.iand H (pc := 2) d5_2 ?_
  refine Own.istore_n H (pc := 3) #[.val (.int x0), .val (.int (x0 &&& (3 : Int32)))] d5_3 rfl ?_
  refine Own.iload_n H (pc := 4) d5_4 rfl ?_
  refine Own.if_ne H (pc := 5) 11 d5_5 (by decide) (by decide) (fun hc5 => ?_) (fun hc5 => ?_)
  · refine Own.iload_n H (pc := 11) d5_11 rfl ?_
    refine Own.iconst H (pc := 12) (1) d5_12 rfl ?_
    refine Own.icmp_ne H (pc := 13) 19 d5_13 (by decide) (by decide) (fun hc13 => ?_) (fun hc13 => ?_)
    · refine Own.iload_n H (pc := 19) d5_19 rfl ?_
      refine Own.iconst H (pc := 20) (2) d5_20 rfl ?_
      refine Own.ishr H (pc := 21) d5_21 ?_
      refine Own.i2b H (pc := 22) d5_22 ?_
      exact Own.ret_nar H (pc := 23) (nar .byte ((x0 >>> ((2 : Int32) &&& 31))).toInt8.toInt32) d5_23 rfl (by simp) (rfl) (by decide) (by decide) (⟨_, rfl, rfl⟩)
    · refine Own.bipush H (pc := 16) (13) d5_16 rfl ?_
      exact Own.ret_nar H (pc := 18) (13) d5_18 rfl (by simp) (by decide) (by decide) (by decide) (⟨_, rfl, rfl⟩)
  · refine Own.bipush H (pc := 8) (10) d5_8 rfl ?_
    exact Own.ret_nar H (pc := 10) (10) d5_10 rfl (by simp) (by decide) (by decide) (by decide) (⟨_, rfl, rfl⟩)
theorem pn_rm_min : plainFor (⟨"java/lang/Math", "min", "(II)I"⟩ : MethodName) = true := by first | exact plainFor_of_name (by first | (simp [plainName, overriddenIn]; done) | decide +kernel) | decide +kernel
theorem ef_rm_min (x1 : Int32) (x2 : Int32) (m : MethodId) : entryFrame m #[(.int x1), (.int x2)] 2 = mkF m 0 #[.val (.int x1), .val (.int x2)] [] := by first | (simp [entryFrame, mkF, argsToLocals, Value.category]; done) | rfl
set_option maxRecDepth 65536 in
set_option maxHeartbeats 40000000 in
theorem rm_min (l : Launch) (Z : State) (a0 : Array Value) (hw : ∀ d ∈ tables_1, d.before a0 Z = true) (x1 : Int32) (x2 : Int32) (h0 : Heap) (n0 : Nat) (Z0 : n0 ≤ h0.size) (hx : x2.toInt ≤ x1.toInt) :
    OMet l Z n0 (⟨"java/lang/Math", "min", "(II)I"⟩ : MethodName) jdk_29_method_69_code 2 (some .int) ({ frames := 0, cells := 0, slots := 0, locals := 0 } : Room) #[(.int x1), (.int x2)] h0 (fun v h => v = some (.int x2) ∧ h = h0) := by
  refine OMet.of pn_rm_min Z0 (ef_rm_min x1 x2) ?_
  intro p e s m below meth c T H
  refine Own.iload_n H (pc := 0) d11_0 rfl ?_
  refine Own.iload_n H (pc := 1) d11_1 rfl ?_
  refine Own.icmp_gt H (pc := 2) 9 d11_2 (by decide) (by decide) (fun hq => ?_) (fun hq => ?_)
  · replace hq : (x2).toInt < (x1).toInt := own_lt.mp hq
    refine Own.iload_n H (pc := 9) d11_9 rfl ?_
    exact Own.ret_int H (pc := 10) d11_10 rfl (by decide) (by decide) (⟨rfl, rfl⟩)
  · replace hq : ¬ (x2).toInt < (x1).toInt := fun q => hq (own_lt.mpr q)
    refine Own.iload_n H (pc := 5) d11_5 rfl ?_
    refine Own.goto H (pc := 6) 10 d11_6 (by decide) (by decide) ?_
    have ee : x1 = x2 := own_eq (by omega)
    exact Own.ret_int H (pc := 10) d11_10 rfl (by decide) (by decide) (⟨by rw [ee], rfl⟩)
theorem pn_rm_chk : plainFor (⟨"java/util/Arrays", "checkLength", "(II)V"⟩ : MethodName) = true := by first | exact plainFor_of_name (by first | (simp [plainName, overriddenIn]; done) | decide +kernel) | decide +kernel
theorem ef_rm_chk (x1 : Int32) (x2 : Int32) (m : MethodId) : entryFrame m #[(.int x1), (.int x2)] 2 = mkF m 0 #[.val (.int x1), .val (.int x2)] [] := by first | (simp [entryFrame, mkF, argsToLocals, Value.category]; done) | rfl
set_option maxRecDepth 65536 in
set_option maxHeartbeats 40000000 in
theorem rm_chk (l : Launch) (Z : State) (a0 : Array Value) (hw : ∀ d ∈ tables_1, d.before a0 Z = true) (x1 : Int32) (x2 : Int32) (h0 : Heap) (n0 : Nat) (Z0 : n0 ≤ h0.size) (hx : x1.toInt ≤ x2.toInt) :
    OMet l Z n0 (⟨"java/util/Arrays", "checkLength", "(II)V"⟩ : MethodName) jdk_65_method_131_code 2 none ({ frames := 0, cells := 0, slots := 0, locals := 0 } : Room) #[(.int x1), (.int x2)] h0 (fun v h => v = none ∧ h = h0) := by
  refine OMet.of pn_rm_chk Z0 (ef_rm_chk x1 x2) ?_
  intro p e s m below meth c T H
  refine Own.iload_n H (pc := 0) d10_0 rfl ?_
  refine Own.iload_n H (pc := 1) d10_1 rfl ?_
  refine Own.icmp_ge H (pc := 2) 37 d10_2 (by decide) (by decide) (fun _ => ?_) (fun hX => absurd hX (by rw [own_lt]; omega))
  exact Own.ret_void H (pc := 37) d10_37 rfl (by decide) (by decide) (⟨rfl, rfl⟩)
theorem pn_rm_cob : plainFor (⟨"java/util/Arrays", "copyOfRangeByte", "([BII)[B"⟩ : MethodName) = true := by first | exact plainFor_of_name (by first | (simp [plainName, overriddenIn]; done) | decide +kernel) | decide +kernel
theorem ef_rm_cob (b : Nat) (i1 : Int32) (i2 : Int32) (m : MethodId) : entryFrame m #[(.ref b), (.int i1), (.int i2)] 5 = mkF m 0 #[.val (.ref b), .val (.int i1), .val (.int i2), .unset, .unset] [] := by first | (simp [entryFrame, mkF, argsToLocals, Value.category]; done) | rfl
set_option maxRecDepth 65536 in
set_option maxHeartbeats 40000000 in
theorem rm_cob (l : Launch) (Z : State) (a0 : Array Value) (hw : ∀ d ∈ tables_1, d.before a0 Z = true) (b : Nat) (i1 : Int32) (i2 : Int32) (h0 : Heap) (n0 : Nat) (Z0 : n0 ≤ h0.size) (cs : List Int32) (hc : cs.length ≤ 4) (A : OAry Z h0 b .byte (cs.map Value.int)) (x1 x2 : Nat) (e1 : i1.toInt = (x1 : Int)) (e2 : i2.toInt = (x2 : Int)) (h12 : x1 ≤ x2) (h2 : x2 ≤ cs.length) :
    OMet l Z n0 (⟨"java/util/Arrays", "copyOfRangeByte", "([BII)[B"⟩ : MethodName) jdk_65_method_133_code 5 (some (.array .byte)) ({ frames := 1, cells := 1, slots := 4, locals := 40 } : Room) #[(.ref b), (.int i1), (.int i2)] h0 (fun v h => ∃ g : Nat, v = some (.ref g) ∧ OAry Z h g .byte (((cs.drop x1).take (x2 - x1)).map Value.int) ∧ Keep h0 h []) := by
  refine OMet.of pn_rm_cob Z0 (ef_rm_cob b i1 i2) ?_
  intro p e s m below meth c T H
  refine Own.iload_n H (pc := 0) d9_0 rfl ?_
  refine Own.iload_n H (pc := 1) d9_1 rfl ?_
  refine Own.callS H (pc := 2) (y := (⟨"java/util/Arrays", "checkLength", "(II)V"⟩ : MethodName)) [(.int i1), (.int i2)] [] d9_2 (hw _ (List.mem_of_getElem? (i := 45) rfl)) (hw _ (List.mem_of_getElem? (i := 46) rfl)) (hw _ (List.mem_of_getElem? (i := 40) rfl)) (hw _ (List.mem_of_getElem? (i := 47) rfl)) (by decide) (rm_chk l Z a0 hw i1 i2 _ n0 H.z0 (by omega)) (r := none) (ps := [.int, .int]) (by decide) rfl rfl 0 rfl (by decide) (by decide) (by decide) (by decide) rfl (fun T_33 v_35 h_34 H_32 z_36 q_37 => ?_)
  obtain ⟨rfl, rfl⟩ := q_37
  show OEnds _ _ _ _ _ _ _ _ _ (mkF _ 5 #[.val (.ref b), .val (.int i1), .val (.int i2), .unset, .unset] [])
  refine Own.iload_n H_32 (pc := 5) d9_5 rfl ?_
  refine Own.iload_n H_32 (pc := 6) d9_6 rfl ?_
  refine Own.isub H_32 (pc := 7) d9_7 ?_
  refine Own.istore_n H_32 (pc := 8) #[.val (.ref b), .val (.int i1), .val (.int i2), .val (.int (i2 - i1)), .unset] d9_8 rfl ?_
  refine Own.iload_n H_32 (pc := 9) d9_9 rfl ?_
  have e3 : (i2 - i1).toInt = ((x2 - x1 : Nat) : Int) := by
    have q := c_isub i2 i1
    have r := rng32 (i2 - i1)
    omega
  refine Own.newarray H_32 (pc := 10) (i := (x2 - x1)) 4 d9_10 (hw _ (List.mem_of_getElem? (i := 1) rfl)) e3 (by decide) (by omega) (by decide) (by decide) (by decide) (fun T_39 h_40 g eq_g ge_g H_38 Ext_g Ary_g => ?_)
  have A2 := A.ext Ext_g
  have lg : b < g := by have := A.lt; omega
  refine Own.astore H_38 (pc := 12) #[.val (.ref b), .val (.int i1), .val (.int i2), .val (.int (i2 - i1)), .val (.ref g)] d9_12 rfl rfl ?_
  refine Own.aload_n H_38 (pc := 14) d9_14 rfl rfl ?_
  refine Own.iload_n H_38 (pc := 15) d9_15 rfl ?_
  refine Own.aload H_38 (pc := 16) d9_16 rfl rfl ?_
  refine Own.iconst H_38 (pc := 18) (0) d9_18 rfl ?_
  refine Own.aload_n H_38 (pc := 19) d9_19 rfl rfl ?_
  refine Own.arraylength H_38 (pc := 20) (Int32.ofNat cs.length) d9_20 A2 (by rw [List.length_map]; exact own_ofNat (by omega)) ?_
  refine Own.iload_n H_38 (pc := 21) d9_21 rfl ?_
  refine Own.isub H_38 (pc := 22) d9_22 ?_
  refine Own.iload_n H_38 (pc := 23) d9_23 rfl ?_
  refine Own.callS H_38 (pc := 24) (y := (⟨"java/lang/Math", "min", "(II)I"⟩ : MethodName)) [(.int ((Int32.ofNat cs.length) - i1)), (.int (i2 - i1))] [(.int (0 : Int32)), (.ref g), (.int i1), (.ref b)] d9_24 (hw _ (List.mem_of_getElem? (i := 48) rfl)) (hw _ (List.mem_of_getElem? (i := 49) rfl)) (hw _ (List.mem_of_getElem? (i := 50) rfl)) (hw _ (List.mem_of_getElem? (i := 51) rfl)) (by decide) (rm_min l Z a0 hw _ _ _ n0 H_38.z0 (by
    have q := c_isub (Int32.ofNat cs.length) i1
    have r := rng32 ((Int32.ofNat cs.length) - i1)
    have z := own_ofNat (show cs.length < 2147483648 by omega)
    omega)) (r := (some .int)) (ps := [.int, .int]) (by decide) rfl rfl 4 rfl (by decide) (by decide) (by decide) (by decide) rfl (fun T_42 v_44 h_43 H_41 z_45 q_46 => ?_)
  obtain ⟨rfl, rfl⟩ := q_46
  show OEnds _ _ _ _ _ _ _ _ _ (mkF _ 27 #[.val (.ref b), .val (.int i1), .val (.int i2), .val (.int (i2 - i1)), .val (.ref g)] [(.int (i2 - i1)), (.int (0 : Int32)), (.ref g), (.int i1), (.ref b)])
  refine Own.arraycopy H_41 (pc := 27) x1 0 (x2 - x1) d9_27 (hw _ (List.mem_of_getElem? (i := 52) rfl)) (hw _ (List.mem_of_getElem? (i := 55) rfl)) (hw _ (List.mem_of_getElem? (i := 53) rfl)) (hw _ (List.mem_of_getElem? (i := 54) rfl)) A2 Ary_g rfl e1 rfl e3 (by rw [List.length_map]; omega) (by rw [List.length_replicate]; omega) ge_g 0 rfl (by decide) (by decide) rfl (fun T_48 h_49 H_47 KC G => ?_)
  have eg : ((List.replicate (x2 - x1) (Value.int 0)).take 0 ++ (List.drop x1 (cs.map Value.int)).take (x2 - x1) ++ (List.replicate (x2 - x1) (Value.int 0)).drop (0 + (x2 - x1))) = ((cs.drop x1).take (x2 - x1)).map Value.int := by
    rw [show (List.replicate (x2 - x1) (Value.int 0)).drop (0 + (x2 - x1)) = [] from List.drop_eq_nil_of_le (by rw [List.length_replicate]; omega), List.take_zero, List.append_nil, List.nil_append, own_cutw]
  have G2 : OAry Z _ g .byte _ := G
  have G3 : OAry Z h_49 g .byte (((cs.drop x1).take (x2 - x1)).map Value.int) := by rw [← eg]; exact G2
  have K3 : Keep _ h_49 [] := ((Keep.refl _ []).ext Ext_g).trans KC (fun y hy => Or.inr (by
    have q : y = g := by simpa using hy
    rw [q, eq_g]; exact Nat.le_refl _))
  refine Own.aload H_47 (pc := 30) d9_30 rfl rfl ?_
  exact Own.ret_ref H_47 (pc := 32) d9_32 rfl rfl rfl rfl (by decide) (by decide) (⟨g, rfl, G3, K3⟩)
theorem pn_rm_cor : plainFor (⟨"java/util/Arrays", "copyOfRange", "([BII)[B"⟩ : MethodName) = true := by first | exact plainFor_of_name (by first | (simp [plainName, overriddenIn]; done) | decide +kernel) | decide +kernel
theorem ef_rm_cor (b : Nat) (i1 : Int32) (i2 : Int32) (m : MethodId) : entryFrame m #[(.ref b), (.int i1), (.int i2)] 3 = mkF m 0 #[.val (.ref b), .val (.int i1), .val (.int i2)] [] := by first | (simp [entryFrame, mkF, argsToLocals, Value.category]; done) | rfl
set_option maxRecDepth 65536 in
set_option maxHeartbeats 40000000 in
theorem rm_cor (l : Launch) (Z : State) (a0 : Array Value) (hw : ∀ d ∈ tables_1, d.before a0 Z = true) (b : Nat) (i1 : Int32) (i2 : Int32) (h0 : Heap) (n0 : Nat) (Z0 : n0 ≤ h0.size) (cs : List Int32) (hc : cs.length ≤ 4) (A : OAry Z h0 b .byte (cs.map Value.int)) (E : Exa Z h0 b "[B") (x1 x2 : Nat) (e1 : i1.toInt = (x1 : Int)) (e2 : i2.toInt = (x2 : Int)) (h12 : x1 ≤ x2) (h2 : x2 ≤ cs.length) :
    OMet l Z n0 (⟨"java/util/Arrays", "copyOfRange", "([BII)[B"⟩ : MethodName) jdk_65_method_132_code 3 (some (.array .byte)) ({ frames := 2, cells := 1, slots := 4, locals := 60 } : Room) #[(.ref b), (.int i1), (.int i2)] h0 (fun v h => ∃ g : Nat, v = some (.ref g) ∧ OAry Z h g .byte (((cs.drop x1).take (x2 - x1)).map Value.int) ∧ Keep h0 h []) := by
  refine OMet.of pn_rm_cor Z0 (ef_rm_cor b i1 i2) ?_
  intro p e s m below meth c T H
  refine Own.iload_n H (pc := 0) d8_0 rfl ?_
  refine Own.if_ne H (pc := 1) 10 d8_1 (by decide) (by decide) (fun hz => ?_) (fun hz => ?_)
  · replace hz : ¬ (i1).toInt = 0 := fun q => hz (own_eqi.mpr q)
    refine Own.aload_n H (pc := 10) d8_10 rfl rfl ?_
    refine Own.iload_n H (pc := 11) d8_11 rfl ?_
    refine Own.iload_n H (pc := 12) d8_12 rfl ?_
    refine Own.callS H (pc := 13) (y := (⟨"java/util/Arrays", "copyOfRangeByte", "([BII)[B"⟩ : MethodName)) [(.ref b), (.int i1), (.int i2)] [] d8_13 (hw _ (List.mem_of_getElem? (i := 42) rfl)) (hw _ (List.mem_of_getElem? (i := 43) rfl)) (hw _ (List.mem_of_getElem? (i := 40) rfl)) (hw _ (List.mem_of_getElem? (i := 44) rfl)) (by decide) (rm_cob l Z a0 hw b i1 i2 _ n0 H.z0 cs hc A x1 x2 e1 e2 h12 h2) (r := (some (.array .byte))) (ps := [(.array .byte), .int, .int]) (by decide) rfl rfl 0 rfl (by decide) (by decide) (by decide) (by decide) rfl (fun T_51 v_53 h_52 H_50 z_54 q_55 => ?_)
    obtain ⟨g, rfl, G, KG⟩ := q_55
    show OEnds _ _ _ _ _ _ _ _ _ (mkF _ 16 #[.val (.ref b), .val (.int i1), .val (.int i2)] [(.ref g)])
    exact Own.ret_ref H_50 (pc := 16) d8_16 rfl rfl rfl rfl (by decide) (by decide) (⟨g, rfl, G, KG⟩)
  · replace hz : (i1).toInt = 0 := own_eqi.mp hz
    refine Own.iload_n H (pc := 4) d8_4 rfl ?_
    refine Own.aload_n H (pc := 5) d8_5 rfl rfl ?_
    refine Own.arraylength H (pc := 6) (Int32.ofNat cs.length) d8_6 A (by rw [List.length_map]; exact own_ofNat (by omega)) ?_
    refine Own.icmp_eq H (pc := 7) 17 d8_7 (by decide) (by decide) (fun hn => ?_) (fun hn => ?_)
    · replace hn : (i2).toInt = ((Int32.ofNat cs.length)).toInt := own_eqi.mp hn
      refine Own.aload_n H (pc := 17) d8_17 rfl rfl ?_
      refine Own.clone_ H (pc := 18) (ad := "[B") 4 d8_18 (hw _ (List.mem_of_getElem? (i := 59) rfl)) (hw _ (List.mem_of_getElem? (i := 60) rfl)) (hw _ (List.mem_of_getElem? (i := 64) rfl)) (hw _ (List.mem_of_getElem? (i := 62) rfl)) (hw _ (List.mem_of_getElem? (i := 63) rfl)) (hw _ (List.mem_of_getElem? (i := 65) rfl)) A E 0 rfl (by decide) (by decide) (by rw [List.length_map]; exact hc) (by decide) (by decide) rfl (fun T_63 h_64 g eq_g ge_g H_62 Ext_g Ary_g Exa_g => ?_)
      refine Own.checkcast H_62 (pc := 21) d8_21 (hw _ (List.mem_of_getElem? (i := 66) rfl)) (Ins.of_exa Exa_g (hw _ (List.mem_of_getElem? (i := 67) rfl))) (fun T_66 H_65 => ?_)
      have z1 : x1 = 0 := by omega
      have z2 : x2 = cs.length := by
        have z := own_ofNat (show cs.length < 2147483648 by omega)
        omega
      have G : OAry Z h_64 g .byte (((cs.drop x1).take (x2 - x1)).map Value.int) := by
        rw [z1, z2, List.drop_zero, Nat.sub_zero, List.take_length]
        exact Ary_g
      exact Own.ret_ref H_65 (pc := 24) d8_24 rfl rfl rfl rfl (by decide) (by decide) (⟨g, rfl, G, (Keep.refl h0 []).ext Ext_g⟩)
    · replace hn : ¬ (i2).toInt = ((Int32.ofNat cs.length)).toInt := fun q => hn (own_eqi.mpr q)
      refine Own.aload_n H (pc := 10) d8_10 rfl rfl ?_
      refine Own.iload_n H (pc := 11) d8_11 rfl ?_
      refine Own.iload_n H (pc := 12) d8_12 rfl ?_
      refine Own.callS H (pc := 13) (y := (⟨"java/util/Arrays", "copyOfRangeByte", "([BII)[B"⟩ : MethodName)) [(.ref b), (.int i1), (.int i2)] [] d8_13 (hw _ (List.mem_of_getElem? (i := 42) rfl)) (hw _ (List.mem_of_getElem? (i := 43) rfl)) (hw _ (List.mem_of_getElem? (i := 40) rfl)) (hw _ (List.mem_of_getElem? (i := 44) rfl)) (by decide) (rm_cob l Z a0 hw b i1 i2 _ n0 H.z0 cs hc A x1 x2 e1 e2 h12 h2) (r := (some (.array .byte))) (ps := [(.array .byte), .int, .int]) (by decide) rfl rfl 0 rfl (by decide) (by decide) (by decide) (by decide) rfl (fun T_57 v_59 h_58 H_56 z_60 q_61 => ?_)
      obtain ⟨g, rfl, G, KG⟩ := q_61
      show OEnds _ _ _ _ _ _ _ _ _ (mkF _ 16 #[.val (.ref b), .val (.int i1), .val (.int i2)] [(.ref g)])
      exact Own.ret_ref H_56 (pc := 16) d8_16 rfl rfl rfl rfl (by decide) (by decide) (⟨g, rfl, G, KG⟩)
theorem pn_rm_line : plainFor (⟨"com/example/herder/herder/Dictionary", "line", "(I)[B"⟩ : MethodName) = true := by first | exact plainFor_of_name (by first | (simp [plainName, overriddenIn]; done) | decide +kernel) | decide +kernel
theorem ef_rm_line (d : Nat) (k : Int32) (m : MethodId) : entryFrame m #[(.ref d), (.int k)] 2 = mkF m 0 #[.val (.ref d), .val (.int k)] [] := by first | (simp [entryFrame, mkF, argsToLocals, Value.category]; done) | rfl
set_option maxRecDepth 65536 in
set_option maxHeartbeats 40000000 in
theorem rm_line (l : Launch) (Z : State) (a0 : Array Value) (hw : ∀ d ∈ tables_1, d.before a0 Z = true) (d : Nat) (k : Int32) (h0 : Heap) (n0 : Nat) (Z0 : n0 ≤ h0.size) (b sA eA : Nat) (cs : List Int32) (hc : cs.length ≤ 4) (dd : Fld Z h0 d "com/example/herder/herder/Dictionary" "content" "[B" (.ref b) ∧ Fld Z h0 d "com/example/herder/herder/Dictionary" "starts" "[I" (.ref sA) ∧ Fld Z h0 d "com/example/herder/herder/Dictionary" "ends" "[I" (.ref eA) ∧ OAry Z h0 sA .int ((List.range (own_ln cs)).map fun t => Value.int (Int32.ofNat (own_st cs t))) ∧ OAry Z h0 eA .int ((List.range (own_ln cs)).map fun t => Value.int (Int32.ofNat (own_en cs t))) ∧ OAry Z h0 b .byte (cs.map Value.int) ∧ Exa Z h0 b "[B" ∧ Exa Z h0 d "com/example/herder/herder/Dictionary") (kk : Nat) (hk : k.toInt = (kk : Int)) (hl : kk < own_ln cs) :
    OMet l Z n0 (⟨"com/example/herder/herder/Dictionary", "line", "(I)[B"⟩ : MethodName) prog_1_method_6_code 2 (some (.array .byte)) ({ frames := 3, cells := 1, slots := 4, locals := 80 } : Room) #[(.ref d), (.int k)] h0 (fun v h => ∃ g : Nat, v = some (.ref g) ∧ OAry Z h g .byte (((cs.drop (own_st cs kk)).take (own_en cs kk - own_st cs kk)).map Value.int) ∧ Keep h0 h []) := by
  refine OMet.of pn_rm_line Z0 (ef_rm_line d k) ?_
  intro p e s m below meth c T H
  obtain ⟨F1, F2, F3, A1, A2, A, E, ED⟩ := dd
  have eb := own_enb hc hl
  refine Own.aload_n H (pc := 0) d7_0 rfl rfl ?_
  refine Own.getfield H (pc := 1) d7_1 (hw _ (List.mem_of_getElem? (i := 15) rfl)) F1 (fun T_68 H_67 => ?_)
  refine Own.aload_n H_67 (pc := 4) d7_4 rfl rfl ?_
  refine Own.getfield H_67 (pc := 5) d7_5 (hw _ (List.mem_of_getElem? (i := 17) rfl)) F2 (fun T_70 H_69 => ?_)
  refine Own.iload_n H_69 (pc := 8) d7_8 rfl ?_
  refine Own.iaload H_69 (pc := 9) (v := (Int32.ofNat (own_st cs kk))) kk d7_9 A1 hk (own_rg (f := fun t => Int32.ofNat (own_st cs t)) hl) ?_
  refine Own.aload_n H_69 (pc := 10) d7_10 rfl rfl ?_
  refine Own.getfield H_69 (pc := 11) d7_11 (hw _ (List.mem_of_getElem? (i := 19) rfl)) F3 (fun T_72 H_71 => ?_)
  refine Own.iload_n H_71 (pc := 14) d7_14 rfl ?_
  refine Own.iaload H_71 (pc := 15) (v := (Int32.ofNat (own_en cs kk))) kk d7_15 A2 hk (own_rg (f := fun t => Int32.ofNat (own_en cs t)) hl) ?_
  refine Own.callS H_71 (pc := 16) (y := (⟨"java/util/Arrays", "copyOfRange", "([BII)[B"⟩ : MethodName)) [(.ref b), (.int (Int32.ofNat (own_st cs kk))), (.int (Int32.ofNat (own_en cs kk)))] [] d7_16 (hw _ (List.mem_of_getElem? (i := 38) rfl)) (hw _ (List.mem_of_getElem? (i := 39) rfl)) (hw _ (List.mem_of_getElem? (i := 40) rfl)) (hw _ (List.mem_of_getElem? (i := 41) rfl)) (by decide) (rm_cor l Z a0 hw b (Int32.ofNat (own_st cs kk)) (Int32.ofNat (own_en cs kk)) _ n0 H_71.z0 cs hc A E (own_st cs kk) (own_en cs kk) (own_ofNat (by omega)) (own_ofNat (by omega)) eb.1 eb.2) (r := (some (.array .byte))) (ps := [(.array .byte), .int, .int]) (by decide) rfl rfl 0 rfl (by decide) (by decide) (by decide) (by decide) rfl (fun T_74 v_76 h_75 H_73 z_77 q_78 => ?_)
  obtain ⟨g, rfl, G, KG⟩ := q_78
  show OEnds _ _ _ _ _ _ _ _ _ (mkF _ 19 #[.val (.ref d), .val (.int k)] [(.ref g)])
  exact Own.ret_ref H_73 (pc := 19) d7_19 rfl rfl rfl rfl (by decide) (by decide) (⟨g, rfl, G, KG⟩)
theorem pn_rm_lf : plainFor (⟨"com/example/herder/herder/DictionaryOfPinLaw", "lfPos", "([BII)I"⟩ : MethodName) = true := by first | exact plainFor_of_name (by first | (simp [plainName, overriddenIn]; done) | decide +kernel) | decide +kernel
theorem ef_rm_lf (b : Nat) (z : Int32) (r : Int32) (m : MethodId) : entryFrame m #[(.ref b), (.int z), (.int r)] 4 = mkF m 0 #[.val (.ref b), .val (.int z), .val (.int r), .unset] [] := by first | (simp [entryFrame, mkF, argsToLocals, Value.category]; done) | rfl
set_option maxRecDepth 65536 in
set_option maxHeartbeats 40000000 in
theorem rm_lf (l : Launch) (Z : State) (a0 : Array Value) (hw : ∀ d ∈ tables_1, d.before a0 Z = true) (b : Nat) (z : Int32) (r : Int32) (h0 : Heap) (n0 : Nat) (Z0 : n0 ≤ h0.size) (cs : List Int32) (hc : cs.length ≤ 4) (A : OAry Z h0 b .byte (cs.map Value.int)) (hz : z.toInt = (cs.length : Int)) (rr : Nat) (hr : r.toInt = (rr : Int)) (h3 : rr ≤ 3) :
    OMet l Z n0 (⟨"com/example/herder/herder/DictionaryOfPinLaw", "lfPos", "([BII)I"⟩ : MethodName) method_3_code 4 (some .int) ({ frames := 0, cells := 0, slots := 0, locals := 0 } : Room) #[(.ref b), (.int z), (.int r)] h0 (fun v h => v = some (.int (Int32.ofNat (own_lf cs rr))) ∧ h = h0) := by
  refine OMet.of pn_rm_lf Z0 (ef_rm_lf b z r) ?_
  intro p e s m below meth c T H
  refine Own.iconst H (pc := 0) (0) d12_0 rfl ?_
  refine Own.istore_n H (pc := 1) #[.val (.ref b), .val (.int z), .val (.int r), .val (.int (0 : Int32))] d12_1 rfl ?_
  have k4 : own_cn cs 4 ≤ rr → OEnds p e below s n0 (fun v h => v = some (.int (Int32.ofNat (own_lf cs rr))) ∧ h = h0) ({ frames := 0, cells := 0, slots := 0, locals := 0 } : Room).cells ({ frames := 0, cells := 0, slots := 0, locals := 0 } : Room).slots T (mkF m 93 #[.val (.ref b), .val (.int z), .val (.int r), .val (.int (Int32.ofNat (own_cn cs 4)))] []) := by
    intro hq
    refine Own.iload_n H (pc := 93) d12_93 rfl ?_
    exact Own.ret_int H (pc := 94) d12_94 rfl (by decide) (by decide) (⟨by rw [own_miss hc h3 hq, show z = Int32.ofNat cs.length from own_eq (by rw [own_ofNat (by omega)]; exact hz)], rfl⟩)
  have k3 : own_cn cs 3 ≤ rr → OEnds p e below s n0 (fun v h => v = some (.int (Int32.ofNat (own_lf cs rr))) ∧ h = h0) ({ frames := 0, cells := 0, slots := 0, locals := 0 } : Room).cells ({ frames := 0, cells := 0, slots := 0, locals := 0 } : Room).slots T (mkF m 70 #[.val (.ref b), .val (.int z), .val (.int r), .val (.int (Int32.ofNat (own_cn cs 3)))] []) := by
    intro hq
    refine Own.iload_n H (pc := 70) d12_70 rfl ?_
    refine Own.iconst H (pc := 71) (3) d12_71 rfl ?_
    refine Own.icmp_le H (pc := 72) 93 d12_72 (by decide) (by decide) (fun hn => ?_) (fun hn => ?_)
    · replace hn : ¬ 3 < (z).toInt := fun q => hn (own_lt.mpr q)
      have e1 : own_cn cs 4 = own_cn cs 3 := own_cnO (by omega)
      rw [← e1]
      exact k4 (by omega)
    · replace hn : 3 < (z).toInt := own_lt.mp hn
      refine Own.aload_n H (pc := 75) d12_75 rfl rfl ?_
      refine Own.iconst H (pc := 76) (3) d12_76 rfl ?_
      refine Own.baload H (pc := 77) (v := (cs.getD 3 0)) 3 d12_77 A rfl (own_map (i := 3) (by omega)) ?_
      refine Own.bipush H (pc := 78) (10) d12_78 rfl ?_
      refine Own.icmp_ne H (pc := 80) 93 d12_80 (by decide) (by decide) (fun hx => ?_) (fun hx => ?_)
      · have e1 : own_cn cs 4 = own_cn cs 3 := own_cnN (i := 3) (by omega) hx
        rw [← e1]
        exact k4 (by omega)
      · refine Own.iload_n H (pc := 83) d12_83 rfl ?_
        refine Own.iload_n H (pc := 84) d12_84 rfl ?_
        refine Own.icmp_ne H (pc := 85) 90 d12_85 (by decide) (by decide) (fun hs => ?_) (fun hs => ?_)
        · have e1 : own_cn cs 4 = own_cn cs 3 + 1 := own_cnY (i := 3) (by omega) hx
          have e2 : own_cn cs 3 ≠ rr := fun q => hs (own_eq (by rw [own_ofNat (by omega), hr, q]))
          refine Own.iinc H (pc := 90) (1) #[.val (.ref b), .val (.int z), .val (.int r), .val (.int ((Int32.ofNat (own_cn cs 3)) + (1 : Int32)))] d12_90 rfl rfl rfl ?_
          rw [own_one, ← e1]
          exact k4 (by omega)
        · have e2 : rr = own_cn cs 3 := by
            have q := own_ofNat (show own_cn cs 3 < 2147483648 by omega)
            rw [hs, hr] at q
            omega
          refine Own.iconst H (pc := 88) (3) d12_88 rfl ?_
          exact Own.ret_int H (pc := 89) d12_89 rfl (by decide) (by decide) (⟨by rw [e2, own_hit hc (i := 3) (by omega) hx]; rfl, rfl⟩)
  have k2 : own_cn cs 2 ≤ rr → OEnds p e below s n0 (fun v h => v = some (.int (Int32.ofNat (own_lf cs rr))) ∧ h = h0) ({ frames := 0, cells := 0, slots := 0, locals := 0 } : Room).cells ({ frames := 0, cells := 0, slots := 0, locals := 0 } : Room).slots T (mkF m 47 #[.val (.ref b), .val (.int z), .val (.int r), .val (.int (Int32.ofNat (own_cn cs 2)))] []) := by
    intro hq
    refine Own.iload_n H (pc := 47) d12_47 rfl ?_
    refine Own.iconst H (pc := 48) (2) d12_48 rfl ?_
    refine Own.icmp_le H (pc := 49) 70 d12_49 (by decide) (by decide) (fun hn => ?_) (fun hn => ?_)
    · replace hn : ¬ 2 < (z).toInt := fun q => hn (own_lt.mpr q)
      have e1 : own_cn cs 3 = own_cn cs 2 := own_cnO (by omega)
      rw [← e1]
      exact k3 (by omega)
    · replace hn : 2 < (z).toInt := own_lt.mp hn
      refine Own.aload_n H (pc := 52) d12_52 rfl rfl ?_
      refine Own.iconst H (pc := 53) (2) d12_53 rfl ?_
      refine Own.baload H (pc := 54) (v := (cs.getD 2 0)) 2 d12_54 A rfl (own_map (i := 2) (by omega)) ?_
      refine Own.bipush H (pc := 55) (10) d12_55 rfl ?_
      refine Own.icmp_ne H (pc := 57) 70 d12_57 (by decide) (by decide) (fun hx => ?_) (fun hx => ?_)
      · have e1 : own_cn cs 3 = own_cn cs 2 := own_cnN (i := 2) (by omega) hx
        rw [← e1]
        exact k3 (by omega)
      · refine Own.iload_n H (pc := 60) d12_60 rfl ?_
        refine Own.iload_n H (pc := 61) d12_61 rfl ?_
        refine Own.icmp_ne H (pc := 62) 67 d12_62 (by decide) (by decide) (fun hs => ?_) (fun hs => ?_)
        · have e1 : own_cn cs 3 = own_cn cs 2 + 1 := own_cnY (i := 2) (by omega) hx
          have e2 : own_cn cs 2 ≠ rr := fun q => hs (own_eq (by rw [own_ofNat (by omega), hr, q]))
          refine Own.iinc H (pc := 67) (1) #[.val (.ref b), .val (.int z), .val (.int r), .val (.int ((Int32.ofNat (own_cn cs 2)) + (1 : Int32)))] d12_67 rfl rfl rfl ?_
          rw [own_one, ← e1]
          exact k3 (by omega)
        · have e2 : rr = own_cn cs 2 := by
            have q := own_ofNat (show own_cn cs 2 < 2147483648 by omega)
            rw [hs, hr] at q
            omega
          refine Own.iconst H (pc := 65) (2) d12_65 rfl ?_
          exact Own.ret_int H (pc := 66) d12_66 rfl (by decide) (by decide) (⟨by rw [e2, own_hit hc (i := 2) (by omega) hx]; rfl, rfl⟩)
  have k1 : own_cn cs 1 ≤ rr → OEnds p e below s n0 (fun v h => v = some (.int (Int32.ofNat (own_lf cs rr))) ∧ h = h0) ({ frames := 0, cells := 0, slots := 0, locals := 0 } : Room).cells ({ frames := 0, cells := 0, slots := 0, locals := 0 } : Room).slots T (mkF m 24 #[.val (.ref b), .val (.int z), .val (.int r), .val (.int (Int32.ofNat (own_cn cs 1)))] []) := by
    intro hq
    refine Own.iload_n H (pc := 24) d12_24 rfl ?_
    refine Own.iconst H (pc := 25) (1) d12_25 rfl ?_
    refine Own.icmp_le H (pc := 26) 47 d12_26 (by decide) (by decide) (fun hn => ?_) (fun hn => ?_)
    · replace hn : ¬ 1 < (z).toInt := fun q => hn (own_lt.mpr q)
      have e1 : own_cn cs 2 = own_cn cs 1 := own_cnO (by omega)
      rw [← e1]
      exact k2 (by omega)
    · replace hn : 1 < (z).toInt := own_lt.mp hn
      refine Own.aload_n H (pc := 29) d12_29 rfl rfl ?_
      refine Own.iconst H (pc := 30) (1) d12_30 rfl ?_
      refine Own.baload H (pc := 31) (v := (cs.getD 1 0)) 1 d12_31 A rfl (own_map (i := 1) (by omega)) ?_
      refine Own.bipush H (pc := 32) (10) d12_32 rfl ?_
      refine Own.icmp_ne H (pc := 34) 47 d12_34 (by decide) (by decide) (fun hx => ?_) (fun hx => ?_)
      · have e1 : own_cn cs 2 = own_cn cs 1 := own_cnN (i := 1) (by omega) hx
        rw [← e1]
        exact k2 (by omega)
      · refine Own.iload_n H (pc := 37) d12_37 rfl ?_
        refine Own.iload_n H (pc := 38) d12_38 rfl ?_
        refine Own.icmp_ne H (pc := 39) 44 d12_39 (by decide) (by decide) (fun hs => ?_) (fun hs => ?_)
        · have e1 : own_cn cs 2 = own_cn cs 1 + 1 := own_cnY (i := 1) (by omega) hx
          have e2 : own_cn cs 1 ≠ rr := fun q => hs (own_eq (by rw [own_ofNat (by omega), hr, q]))
          refine Own.iinc H (pc := 44) (1) #[.val (.ref b), .val (.int z), .val (.int r), .val (.int ((Int32.ofNat (own_cn cs 1)) + (1 : Int32)))] d12_44 rfl rfl rfl ?_
          rw [own_one, ← e1]
          exact k2 (by omega)
        · have e2 : rr = own_cn cs 1 := by
            have q := own_ofNat (show own_cn cs 1 < 2147483648 by omega)
            rw [hs, hr] at q
            omega
          refine Own.iconst H (pc := 42) (1) d12_42 rfl ?_
          exact Own.ret_int H (pc := 43) d12_43 rfl (by decide) (by decide) (⟨by rw [e2, own_hit hc (i := 1) (by omega) hx]; rfl, rfl⟩)
  have k0 : own_cn cs 0 ≤ rr → OEnds p e below s n0 (fun v h => v = some (.int (Int32.ofNat (own_lf cs rr))) ∧ h = h0) ({ frames := 0, cells := 0, slots := 0, locals := 0 } : Room).cells ({ frames := 0, cells := 0, slots := 0, locals := 0 } : Room).slots T (mkF m 2 #[.val (.ref b), .val (.int z), .val (.int r), .val (.int (Int32.ofNat (own_cn cs 0)))] []) := by
    intro hq
    refine Own.iload_n H (pc := 2) d12_2 rfl ?_
    refine Own.if_le H (pc := 3) 24 d12_3 (by decide) (by decide) (fun hn => ?_) (fun hn => ?_)
    · replace hn : ¬ 0 < (z).toInt := fun q => hn (own_lt.mpr q)
      have e1 : own_cn cs 1 = own_cn cs 0 := own_cnO (by omega)
      rw [← e1]
      exact k1 (by omega)
    · replace hn : 0 < (z).toInt := own_lt.mp hn
      refine Own.aload_n H (pc := 6) d12_6 rfl rfl ?_
      refine Own.iconst H (pc := 7) (0) d12_7 rfl ?_
      refine Own.baload H (pc := 8) (v := (cs.getD 0 0)) 0 d12_8 A rfl (own_map (i := 0) (by omega)) ?_
      refine Own.bipush H (pc := 9) (10) d12_9 rfl ?_
      refine Own.icmp_ne H (pc := 11) 24 d12_11 (by decide) (by decide) (fun hx => ?_) (fun hx => ?_)
      · have e1 : own_cn cs 1 = own_cn cs 0 := own_cnN (i := 0) (by omega) hx
        rw [← e1]
        exact k1 (by omega)
      · refine Own.iload_n H (pc := 14) d12_14 rfl ?_
        refine Own.iload_n H (pc := 15) d12_15 rfl ?_
        refine Own.icmp_ne H (pc := 16) 21 d12_16 (by decide) (by decide) (fun hs => ?_) (fun hs => ?_)
        · have e1 : own_cn cs 1 = own_cn cs 0 + 1 := own_cnY (i := 0) (by omega) hx
          have e2 : own_cn cs 0 ≠ rr := fun q => hs (own_eq (by rw [own_ofNat (by omega), hr, q]))
          refine Own.iinc H (pc := 21) (1) #[.val (.ref b), .val (.int z), .val (.int r), .val (.int ((Int32.ofNat (own_cn cs 0)) + (1 : Int32)))] d12_21 rfl rfl rfl ?_
          rw [own_one, ← e1]
          exact k1 (by omega)
        · have e2 : rr = own_cn cs 0 := by
            have q := own_ofNat (show own_cn cs 0 < 2147483648 by omega)
            rw [hs, hr] at q
            omega
          refine Own.iconst H (pc := 19) (0) d12_19 rfl ?_
          exact Own.ret_int H (pc := 20) d12_20 rfl (by decide) (by decide) (⟨by rw [e2, own_hit hc (i := 0) (by omega) hx]; rfl, rfl⟩)
  exact k0 (Nat.zero_le _)
theorem pn_rm_lok : plainFor (⟨"com/example/herder/herder/DictionaryOfPinLaw", "lineOk", "(Lcom/example/herder/herder/Dictionary;[BII)Z"⟩ : MethodName) = true := by first | exact plainFor_of_name (by first | (simp [plainName, overriddenIn]; done) | decide +kernel) | decide +kernel
theorem ef_rm_lok (d : Nat) (b : Nat) (z : Int32) (k : Int32) (m : MethodId) : entryFrame m #[(.ref d), (.ref b), (.int z), (.int k)] 9 = mkF m 0 #[.val (.ref d), .val (.ref b), .val (.int z), .val (.int k), .unset, .unset, .unset, .unset, .unset] [] := by first | (simp [entryFrame, mkF, argsToLocals, Value.category]; done) | rfl
set_option maxRecDepth 65536 in
set_option maxHeartbeats 40000000 in
theorem rm_lok (l : Launch) (Z : State) (a0 : Array Value) (hw : ∀ d ∈ tables_1, d.before a0 Z = true) (d : Nat) (b : Nat) (z : Int32) (k : Int32) (h0 : Heap) (n0 : Nat) (Z0 : n0 ≤ h0.size) (sA eA : Nat) (cs : List Int32) (hc : cs.length ≤ 4) (dd : Fld Z h0 d "com/example/herder/herder/Dictionary" "content" "[B" (.ref b) ∧ Fld Z h0 d "com/example/herder/herder/Dictionary" "starts" "[I" (.ref sA) ∧ Fld Z h0 d "com/example/herder/herder/Dictionary" "ends" "[I" (.ref eA) ∧ OAry Z h0 sA .int ((List.range (own_ln cs)).map fun t => Value.int (Int32.ofNat (own_st cs t))) ∧ OAry Z h0 eA .int ((List.range (own_ln cs)).map fun t => Value.int (Int32.ofNat (own_en cs t))) ∧ OAry Z h0 b .byte (cs.map Value.int) ∧ Exa Z h0 b "[B" ∧ Exa Z h0 d "com/example/herder/herder/Dictionary") (hz : z.toInt = (cs.length : Int)) (kk : Nat) (hk : k.toInt = (kk : Int)) (hl : kk < own_ln cs) :
    OMet l Z n0 (⟨"com/example/herder/herder/DictionaryOfPinLaw", "lineOk", "(Lcom/example/herder/herder/Dictionary;[BII)Z"⟩ : MethodName) method_4_code 9 (some .boolean) ({ frames := 4, cells := 1, slots := 4, locals := 100 } : Room) #[(.ref d), (.ref b), (.int z), (.int k)] h0 (fun v h => v = some (.int 1) ∧ Keep h0 h []) := by
  refine OMet.of pn_rm_lok Z0 (ef_rm_lok d b z k) ?_
  intro p e s m below meth c T H
  obtain ⟨F1, F2, F3, A1, A2, A, E, ED⟩ := dd
  have eb := own_enb hc hl
  have h4 := own_lines hc
  obtain ⟨a1, a2, a3, a4⟩ := own_row hc hl
  refine Own.aload_n H (pc := 0) d6_0 rfl rfl ?_
  refine Own.iload_n H (pc := 1) d6_1 rfl ?_
  refine Own.callV H (pc := 2) (y := (⟨"com/example/herder/herder/Dictionary", "line", "(I)[B"⟩ : MethodName)) (z := (⟨"com/example/herder/herder/Dictionary", "line", "(I)[B"⟩ : MethodName)) (CC := "com/example/herder/herder/Dictionary") d [(.int k)] [] d6_2 (hw _ (List.mem_of_getElem? (i := 33) rfl)) (hw _ (List.mem_of_getElem? (i := 34) rfl)) (H.nf (hw _ (List.mem_of_getElem? (i := 36) rfl))) (hw _ (List.mem_of_getElem? (i := 36) rfl)) (hw _ (List.mem_of_getElem? (i := 35) rfl)) (hw _ (List.mem_of_getElem? (i := 4) rfl)) (hw _ (List.mem_of_getElem? (i := 37) rfl)) (by decide) ED (rm_line l Z a0 hw d k _ n0 H.z0 b sA eA cs hc ⟨F1, F2, F3, A1, A2, A, E, ED⟩ kk hk hl) (r := (some (.array .byte))) (ps := [.int]) (by decide) rfl rfl 0 rfl (by decide) (by decide) (by decide) (by decide) rfl (fun T_80 v_82 h_81 H_79 z_83 q_84 => ?_)
  obtain ⟨g, rfl, G, KG⟩ := q_84
  show OEnds _ _ _ _ _ _ _ _ _ (mkF _ 5 #[.val (.ref d), .val (.ref b), .val (.int z), .val (.int k), .unset, .unset, .unset, .unset, .unset] [(.ref g)])
  have B := A.keep KG (by simp)
  refine Own.astore H_79 (pc := 5) #[.val (.ref d), .val (.ref b), .val (.int z), .val (.int k), .val (.ref g), .unset, .unset, .unset, .unset] d6_5 rfl rfl ?_
  refine Own.iload_n H_79 (pc := 7) d6_7 rfl ?_
  have k82 : ∀ (x7 : Int32) (T : State), OHr p l e ({ frames := 4, cells := 1, slots := 4, locals := 100 } : Room) s m #[(.ref d), (.ref b), (.int z), (.int k)] below meth c Z n0 "com/example/herder/herder/DictionaryOfPinLaw" "lineOk" method_4_code 9 (some .boolean) T h_81 1 4 → OEnds p e below s n0 (fun v h => v = some (.int 1) ∧ Keep h0 h []) ({ frames := 4, cells := 1, slots := 4, locals := 100 } : Room).cells ({ frames := 4, cells := 1, slots := 4, locals := 100 } : Room).slots T (mkF m 82 #[.val (.ref d), .val (.ref b), .val (.int z), .val (.int k), .val (.ref g), .val (.int (Int32.ofNat (own_st cs kk))), .val (.int (Int32.ofNat (own_lf cs kk))), .val (.int x7), .val (.int (Int32.ofNat (own_en cs kk)))] []) := by
    intro x7 T H
    refine Own.aload H (pc := 82) d6_82 rfl rfl ?_
    refine Own.arraylength H (pc := 84) (Int32.ofNat (own_en cs kk - own_st cs kk)) d6_84 G (by rw [own_cutl (by omega)]; exact own_ofNat (by omega)) ?_
    refine Own.iload H (pc := 85) d6_85 rfl ?_
    refine Own.iload H (pc := 87) d6_87 rfl ?_
    refine Own.isub H (pc := 89) d6_89 ?_
    refine Own.icmp_eq H (pc := 90) 95 d6_90 (by decide) (by decide) (fun _ => ?_) (fun hX => absurd (own_sub eb.1 (by omega)).symm hX)
    have lq : (Int32.ofNat (own_en cs kk - own_st cs kk)).toInt = ((own_en cs kk - own_st cs kk : Nat) : Int) := own_ofNat (by omega)
    refine Own.aload H (pc := 95) d6_95 rfl rfl ?_
    refine Own.arraylength H (pc := 97) (Int32.ofNat (own_en cs kk - own_st cs kk)) d6_97 G (by rw [own_cutl (by omega)]; exact own_ofNat (by omega)) ?_
    refine Own.if_le H (pc := 98) 114 d6_98 (by decide) (by decide) (fun hg0 => ?_) (fun hg0 => ?_)
    · replace hg0 : ¬ 0 < ((Int32.ofNat (own_en cs kk - own_st cs kk))).toInt := fun q => hg0 (own_lt.mpr q)
      refine Own.aload H (pc := 114) d6_114 rfl rfl ?_
      refine Own.arraylength H (pc := 116) (Int32.ofNat (own_en cs kk - own_st cs kk)) d6_116 G (by rw [own_cutl (by omega)]; exact own_ofNat (by omega)) ?_
      refine Own.iconst H (pc := 117) (1) d6_117 rfl ?_
      refine Own.icmp_le H (pc := 118) 136 d6_118 (by decide) (by decide) (fun _ => ?_) (fun hX => absurd hX (fun q => absurd (own_lt.mp q) (show ¬ (1 : Int) < (Int32.ofNat (own_en cs kk - own_st cs kk)).toInt by omega)))
      refine Own.aload H (pc := 136) d6_136 rfl rfl ?_
      refine Own.arraylength H (pc := 138) (Int32.ofNat (own_en cs kk - own_st cs kk)) d6_138 G (by rw [own_cutl (by omega)]; exact own_ofNat (by omega)) ?_
      refine Own.iconst H (pc := 139) (2) d6_139 rfl ?_
      refine Own.icmp_le H (pc := 140) 158 d6_140 (by decide) (by decide) (fun _ => ?_) (fun hX => absurd hX (fun q => absurd (own_lt.mp q) (show ¬ (2 : Int) < (Int32.ofNat (own_en cs kk - own_st cs kk)).toInt by omega)))
      refine Own.aload H (pc := 158) d6_158 rfl rfl ?_
      refine Own.arraylength H (pc := 160) (Int32.ofNat (own_en cs kk - own_st cs kk)) d6_160 G (by rw [own_cutl (by omega)]; exact own_ofNat (by omega)) ?_
      refine Own.iconst H (pc := 161) (3) d6_161 rfl ?_
      refine Own.icmp_le H (pc := 162) 180 d6_162 (by decide) (by decide) (fun _ => ?_) (fun hX => absurd hX (fun q => absurd (own_lt.mp q) (show ¬ (3 : Int) < (Int32.ofNat (own_en cs kk - own_st cs kk)).toInt by omega)))
      refine Own.iconst H (pc := 180) (1) d6_180 rfl ?_
      exact Own.ret_nar H (pc := 181) (1) d6_181 rfl (by simp) (by decide) (by decide) (by decide) (⟨rfl, KG⟩)
    · replace hg0 : 0 < ((Int32.ofNat (own_en cs kk - own_st cs kk))).toInt := own_lt.mp hg0
      refine Own.aload H (pc := 101) d6_101 rfl rfl ?_
      refine Own.iconst H (pc := 103) (0) d6_103 rfl ?_
      refine Own.baload H (pc := 104) (v := (cs.getD (own_st cs kk + 0) 0)) 0 d6_104 G rfl (own_cut (i := 0) (by omega) (by omega)) ?_
      refine Own.aload_n H (pc := 105) d6_105 rfl rfl ?_
      refine Own.iload H (pc := 106) d6_106 rfl ?_
      refine Own.baload H (pc := 108) (v := (cs.getD (own_st cs kk + 0) 0)) (own_st cs kk + 0) d6_108 B (own_ofNat (by omega)) (own_map (i := own_st cs kk + 0) (by omega)) ?_
      refine Own.icmp_eq H (pc := 109) 114 d6_109 (by decide) (by decide) (fun _ => ?_) (fun hX => absurd rfl hX)
      refine Own.aload H (pc := 114) d6_114 rfl rfl ?_
      refine Own.arraylength H (pc := 116) (Int32.ofNat (own_en cs kk - own_st cs kk)) d6_116 G (by rw [own_cutl (by omega)]; exact own_ofNat (by omega)) ?_
      refine Own.iconst H (pc := 117) (1) d6_117 rfl ?_
      refine Own.icmp_le H (pc := 118) 136 d6_118 (by decide) (by decide) (fun hg1 => ?_) (fun hg1 => ?_)
      · replace hg1 : ¬ 1 < ((Int32.ofNat (own_en cs kk - own_st cs kk))).toInt := fun q => hg1 (own_lt.mpr q)
        refine Own.aload H (pc := 136) d6_136 rfl rfl ?_
        refine Own.arraylength H (pc := 138) (Int32.ofNat (own_en cs kk - own_st cs kk)) d6_138 G (by rw [own_cutl (by omega)]; exact own_ofNat (by omega)) ?_
        refine Own.iconst H (pc := 139) (2) d6_139 rfl ?_
        refine Own.icmp_le H (pc := 140) 158 d6_140 (by decide) (by decide) (fun _ => ?_) (fun hX => absurd hX (fun q => absurd (own_lt.mp q) (show ¬ (2 : Int) < (Int32.ofNat (own_en cs kk - own_st cs kk)).toInt by omega)))
        refine Own.aload H (pc := 158) d6_158 rfl rfl ?_
        refine Own.arraylength H (pc := 160) (Int32.ofNat (own_en cs kk - own_st cs kk)) d6_160 G (by rw [own_cutl (by omega)]; exact own_ofNat (by omega)) ?_
        refine Own.iconst H (pc := 161) (3) d6_161 rfl ?_
        refine Own.icmp_le H (pc := 162) 180 d6_162 (by decide) (by decide) (fun _ => ?_) (fun hX => absurd hX (fun q => absurd (own_lt.mp q) (show ¬ (3 : Int) < (Int32.ofNat (own_en cs kk - own_st cs kk)).toInt by omega)))
        refine Own.iconst H (pc := 180) (1) d6_180 rfl ?_
        exact Own.ret_nar H (pc := 181) (1) d6_181 rfl (by simp) (by decide) (by decide) (by decide) (⟨rfl, KG⟩)
      · replace hg1 : 1 < ((Int32.ofNat (own_en cs kk - own_st cs kk))).toInt := own_lt.mp hg1
        refine Own.aload H (pc := 121) d6_121 rfl rfl ?_
        refine Own.iconst H (pc := 123) (1) d6_123 rfl ?_
        refine Own.baload H (pc := 124) (v := (cs.getD (own_st cs kk + 1) 0)) 1 d6_124 G rfl (own_cut (i := 1) (by omega) (by omega)) ?_
        refine Own.aload_n H (pc := 125) d6_125 rfl rfl ?_
        refine Own.iload H (pc := 126) d6_126 rfl ?_
        refine Own.iconst H (pc := 128) (1) d6_128 rfl ?_
        refine Own.iadd H (pc := 129) d6_129 ?_
        refine Own.baload H (pc := 130) (v := (cs.getD (own_st cs kk + 1) 0)) (own_st cs kk + 1) d6_130 B (own_addn (own_ofNat (by omega)) rfl (by omega)) (own_map (i := own_st cs kk + 1) (by omega)) ?_
        refine Own.icmp_eq H (pc := 131) 136 d6_131 (by decide) (by decide) (fun _ => ?_) (fun hX => absurd rfl hX)
        refine Own.aload H (pc := 136) d6_136 rfl rfl ?_
        refine Own.arraylength H (pc := 138) (Int32.ofNat (own_en cs kk - own_st cs kk)) d6_138 G (by rw [own_cutl (by omega)]; exact own_ofNat (by omega)) ?_
        refine Own.iconst H (pc := 139) (2) d6_139 rfl ?_
        refine Own.icmp_le H (pc := 140) 158 d6_140 (by decide) (by decide) (fun hg2 => ?_) (fun hg2 => ?_)
        · replace hg2 : ¬ 2 < ((Int32.ofNat (own_en cs kk - own_st cs kk))).toInt := fun q => hg2 (own_lt.mpr q)
          refine Own.aload H (pc := 158) d6_158 rfl rfl ?_
          refine Own.arraylength H (pc := 160) (Int32.ofNat (own_en cs kk - own_st cs kk)) d6_160 G (by rw [own_cutl (by omega)]; exact own_ofNat (by omega)) ?_
          refine Own.iconst H (pc := 161) (3) d6_161 rfl ?_
          refine Own.icmp_le H (pc := 162) 180 d6_162 (by decide) (by decide) (fun _ => ?_) (fun hX => absurd hX (fun q => absurd (own_lt.mp q) (show ¬ (3 : Int) < (Int32.ofNat (own_en cs kk - own_st cs kk)).toInt by omega)))
          refine Own.iconst H (pc := 180) (1) d6_180 rfl ?_
          exact Own.ret_nar H (pc := 181) (1) d6_181 rfl (by simp) (by decide) (by decide) (by decide) (⟨rfl, KG⟩)
        · replace hg2 : 2 < ((Int32.ofNat (own_en cs kk - own_st cs kk))).toInt := own_lt.mp hg2
          refine Own.aload H (pc := 143) d6_143 rfl rfl ?_
          refine Own.iconst H (pc := 145) (2) d6_145 rfl ?_
          refine Own.baload H (pc := 146) (v := (cs.getD (own_st cs kk + 2) 0)) 2 d6_146 G rfl (own_cut (i := 2) (by omega) (by omega)) ?_
          refine Own.aload_n H (pc := 147) d6_147 rfl rfl ?_
          refine Own.iload H (pc := 148) d6_148 rfl ?_
          refine Own.iconst H (pc := 150) (2) d6_150 rfl ?_
          refine Own.iadd H (pc := 151) d6_151 ?_
          refine Own.baload H (pc := 152) (v := (cs.getD (own_st cs kk + 2) 0)) (own_st cs kk + 2) d6_152 B (own_addn (own_ofNat (by omega)) rfl (by omega)) (own_map (i := own_st cs kk + 2) (by omega)) ?_
          refine Own.icmp_eq H (pc := 153) 158 d6_153 (by decide) (by decide) (fun _ => ?_) (fun hX => absurd rfl hX)
          refine Own.aload H (pc := 158) d6_158 rfl rfl ?_
          refine Own.arraylength H (pc := 160) (Int32.ofNat (own_en cs kk - own_st cs kk)) d6_160 G (by rw [own_cutl (by omega)]; exact own_ofNat (by omega)) ?_
          refine Own.iconst H (pc := 161) (3) d6_161 rfl ?_
          refine Own.icmp_le H (pc := 162) 180 d6_162 (by decide) (by decide) (fun hg3 => ?_) (fun hg3 => ?_)
          · replace hg3 : ¬ 3 < ((Int32.ofNat (own_en cs kk - own_st cs kk))).toInt := fun q => hg3 (own_lt.mpr q)
            refine Own.iconst H (pc := 180) (1) d6_180 rfl ?_
            exact Own.ret_nar H (pc := 181) (1) d6_181 rfl (by simp) (by decide) (by decide) (by decide) (⟨rfl, KG⟩)
          · replace hg3 : 3 < ((Int32.ofNat (own_en cs kk - own_st cs kk))).toInt := own_lt.mp hg3
            refine Own.aload H (pc := 165) d6_165 rfl rfl ?_
            refine Own.iconst H (pc := 167) (3) d6_167 rfl ?_
            refine Own.baload H (pc := 168) (v := (cs.getD (own_st cs kk + 3) 0)) 3 d6_168 G rfl (own_cut (i := 3) (by omega) (by omega)) ?_
            refine Own.aload_n H (pc := 169) d6_169 rfl rfl ?_
            refine Own.iload H (pc := 170) d6_170 rfl ?_
            refine Own.iconst H (pc := 172) (3) d6_172 rfl ?_
            refine Own.iadd H (pc := 173) d6_173 ?_
            refine Own.baload H (pc := 174) (v := (cs.getD (own_st cs kk + 3) 0)) (own_st cs kk + 3) d6_174 B (own_addn (own_ofNat (by omega)) rfl (by omega)) (own_map (i := own_st cs kk + 3) (by omega)) ?_
            refine Own.icmp_eq H (pc := 175) 180 d6_175 (by decide) (by decide) (fun _ => ?_) (fun hX => absurd rfl hX)
            refine Own.iconst H (pc := 180) (1) d6_180 rfl ?_
            exact Own.ret_nar H (pc := 181) (1) d6_181 rfl (by simp) (by decide) (by decide) (by decide) (⟨rfl, KG⟩)
  have k25 : ∀ (T : State), OHr p l e ({ frames := 4, cells := 1, slots := 4, locals := 100 } : Room) s m #[(.ref d), (.ref b), (.int z), (.int k)] below meth c Z n0 "com/example/herder/herder/DictionaryOfPinLaw" "lineOk" method_4_code 9 (some .boolean) T h_81 1 4 → OEnds p e below s n0 (fun v h => v = some (.int 1) ∧ Keep h0 h []) ({ frames := 4, cells := 1, slots := 4, locals := 100 } : Room).cells ({ frames := 4, cells := 1, slots := 4, locals := 100 } : Room).slots T (mkF m 25 #[.val (.ref d), .val (.ref b), .val (.int z), .val (.int k), .val (.ref g), .unset, .unset, .unset, .unset] [(.int (Int32.ofNat (own_st cs kk)))]) := by
    intro T H
    refine Own.istore H (pc := 25) #[.val (.ref d), .val (.ref b), .val (.int z), .val (.int k), .val (.ref g), .val (.int (Int32.ofNat (own_st cs kk))), .unset, .unset, .unset] d6_25 rfl ?_
    refine Own.aload_n H (pc := 27) d6_27 rfl rfl ?_
    refine Own.iload_n H (pc := 28) d6_28 rfl ?_
    refine Own.iload_n H (pc := 29) d6_29 rfl ?_
    refine Own.callS H (pc := 30) (y := (⟨"com/example/herder/herder/DictionaryOfPinLaw", "lfPos", "([BII)I"⟩ : MethodName)) [(.ref b), (.int z), (.int k)] [] d6_30 (hw _ (List.mem_of_getElem? (i := 56) rfl)) (hw _ (List.mem_of_getElem? (i := 57) rfl)) (hw _ (List.mem_of_getElem? (i := 28) rfl)) (hw _ (List.mem_of_getElem? (i := 58) rfl)) (by decide) (rm_lf l Z a0 hw b z k _ n0 H.z0 cs hc B hz kk hk (by omega)) (r := (some .int)) (ps := [(.array .byte), .int, .int]) (by decide) rfl rfl 0 rfl (by decide) (by decide) (by decide) (by decide) rfl (fun T_86 v_88 h_87 H_85 z_89 q_90 => ?_)
    obtain ⟨rfl, rfl⟩ := q_90
    show OEnds _ _ _ _ _ _ _ _ _ (mkF _ 33 #[.val (.ref d), .val (.ref b), .val (.int z), .val (.int k), .val (.ref g), .val (.int (Int32.ofNat (own_st cs kk))), .unset, .unset, .unset] [(.int (Int32.ofNat (own_lf cs kk)))])
    refine Own.istore H_85 (pc := 33) #[.val (.ref d), .val (.ref b), .val (.int z), .val (.int k), .val (.ref g), .val (.int (Int32.ofNat (own_st cs kk))), .val (.int (Int32.ofNat (own_lf cs kk))), .unset, .unset] d6_33 rfl ?_
    refine Own.iload H_85 (pc := 35) d6_35 rfl ?_
    refine Own.iload_n H_85 (pc := 37) d6_37 rfl ?_
    have lp : (Int32.ofNat (own_lf cs kk)).toInt = ((own_lf cs kk : Nat) : Int) := own_ofNat (by omega)
    have sp : (Int32.ofNat (own_st cs kk)).toInt = ((own_st cs kk : Nat) : Int) := own_ofNat (by omega)
    refine Own.icmp_ge H_85 (pc := 38) 63 d6_38 (by decide) (by decide) (fun hn => ?_) (fun hn => ?_)
    · replace hn : ¬ ((Int32.ofNat (own_lf cs kk))).toInt < (z).toInt := fun q => hn (own_lt.mpr q)
      have ee : own_en cs kk = own_lf cs kk := by unfold own_en; rw [if_neg (fun q => absurd q (by
        intro q
        obtain ⟨u1, u2, u3⟩ := q
        first | omega | exact hx u3))]
      refine Own.iconst H_85 (pc := 63) (0) d6_63 rfl ?_
      refine Own.istore H_85 (pc := 64) #[.val (.ref d), .val (.ref b), .val (.int z), .val (.int k), .val (.ref g), .val (.int (Int32.ofNat (own_st cs kk))), .val (.int (Int32.ofNat (own_lf cs kk))), .val (.int (0 : Int32)), .unset] d6_64 rfl ?_
      refine Own.iload H_85 (pc := 66) d6_66 rfl ?_
      refine Own.if_eq H_85 (pc := 68) 78 d6_68 (by decide) (by decide) (fun _ => ?_) (fun hc => absurd hc (by decide))
      refine Own.iload H_85 (pc := 78) d6_78 rfl ?_
      skip
      refine Own.cast (show _ = mkF m 80 #[.val (.ref d), .val (.ref b), .val (.int z), .val (.int k), .val (.ref g), .val (.int (Int32.ofNat (own_st cs kk))), .val (.int (Int32.ofNat (own_lf cs kk))), .val (.int (0 : Int32)), .unset] [(.int (Int32.ofNat (own_en cs kk)))] by rw [ee]) ?_
      refine Own.istore H_85 (pc := 80) #[.val (.ref d), .val (.ref b), .val (.int z), .val (.int k), .val (.ref g), .val (.int (Int32.ofNat (own_st cs kk))), .val (.int (Int32.ofNat (own_lf cs kk))), .val (.int (0 : Int32)), .val (.int (Int32.ofNat (own_en cs kk)))] d6_80 rfl ?_
      exact k82 _ _ (H_85.mono (by decide) (by decide))
    · replace hn : ((Int32.ofNat (own_lf cs kk))).toInt < (z).toInt := own_lt.mp hn
      refine Own.iload H_85 (pc := 41) d6_41 rfl ?_
      refine Own.iload H_85 (pc := 43) d6_43 rfl ?_
      refine Own.icmp_le H_85 (pc := 45) 63 d6_45 (by decide) (by decide) (fun hs => ?_) (fun hs => ?_)
      · replace hs : ¬ ((Int32.ofNat (own_st cs kk))).toInt < ((Int32.ofNat (own_lf cs kk))).toInt := fun q => hs (own_lt.mpr q)
        have ee : own_en cs kk = own_lf cs kk := by unfold own_en; rw [if_neg (fun q => absurd q (by
          intro q
          obtain ⟨u1, u2, u3⟩ := q
          first | omega | exact hx u3))]
        refine Own.iconst H_85 (pc := 63) (0) d6_63 rfl ?_
        refine Own.istore H_85 (pc := 64) #[.val (.ref d), .val (.ref b), .val (.int z), .val (.int k), .val (.ref g), .val (.int (Int32.ofNat (own_st cs kk))), .val (.int (Int32.ofNat (own_lf cs kk))), .val (.int (0 : Int32)), .unset] d6_64 rfl ?_
        refine Own.iload H_85 (pc := 66) d6_66 rfl ?_
        refine Own.if_eq H_85 (pc := 68) 78 d6_68 (by decide) (by decide) (fun _ => ?_) (fun hc => absurd hc (by decide))
        refine Own.iload H_85 (pc := 78) d6_78 rfl ?_
        skip
        refine Own.cast (show _ = mkF m 80 #[.val (.ref d), .val (.ref b), .val (.int z), .val (.int k), .val (.ref g), .val (.int (Int32.ofNat (own_st cs kk))), .val (.int (Int32.ofNat (own_lf cs kk))), .val (.int (0 : Int32)), .unset] [(.int (Int32.ofNat (own_en cs kk)))] by rw [ee]) ?_
        refine Own.istore H_85 (pc := 80) #[.val (.ref d), .val (.ref b), .val (.int z), .val (.int k), .val (.ref g), .val (.int (Int32.ofNat (own_st cs kk))), .val (.int (Int32.ofNat (own_lf cs kk))), .val (.int (0 : Int32)), .val (.int (Int32.ofNat (own_en cs kk)))] d6_80 rfl ?_
        exact k82 _ _ (H_85.mono (by decide) (by decide))
      · replace hs : ((Int32.ofNat (own_st cs kk))).toInt < ((Int32.ofNat (own_lf cs kk))).toInt := own_lt.mp hs
        refine Own.aload_n H_85 (pc := 48) d6_48 rfl rfl ?_
        refine Own.iload H_85 (pc := 49) d6_49 rfl ?_
        refine Own.iconst H_85 (pc := 51) (1) d6_51 rfl ?_
        refine Own.isub H_85 (pc := 52) d6_52 ?_
        refine Own.baload H_85 (pc := 53) (v := (cs.getD (own_lf cs kk - 1) 0)) (own_lf cs kk - 1) d6_53 B (by rw [own_sub1 (by omega) (by omega)]; exact own_ofNat (by omega)) (own_map (i := own_lf cs kk - 1) (by omega)) ?_
        refine Own.bipush H_85 (pc := 54) (13) d6_54 rfl ?_
        refine Own.icmp_ne H_85 (pc := 56) 63 d6_56 (by decide) (by decide) (fun hx => ?_) (fun hx => ?_)
        · have ee : own_en cs kk = own_lf cs kk := by unfold own_en; rw [if_neg (fun q => absurd q (by
            intro q
            obtain ⟨u1, u2, u3⟩ := q
            first | omega | exact hx u3))]
          refine Own.iconst H_85 (pc := 63) (0) d6_63 rfl ?_
          refine Own.istore H_85 (pc := 64) #[.val (.ref d), .val (.ref b), .val (.int z), .val (.int k), .val (.ref g), .val (.int (Int32.ofNat (own_st cs kk))), .val (.int (Int32.ofNat (own_lf cs kk))), .val (.int (0 : Int32)), .unset] d6_64 rfl ?_
          refine Own.iload H_85 (pc := 66) d6_66 rfl ?_
          refine Own.if_eq H_85 (pc := 68) 78 d6_68 (by decide) (by decide) (fun _ => ?_) (fun hc => absurd hc (by decide))
          refine Own.iload H_85 (pc := 78) d6_78 rfl ?_
          skip
          refine Own.cast (show _ = mkF m 80 #[.val (.ref d), .val (.ref b), .val (.int z), .val (.int k), .val (.ref g), .val (.int (Int32.ofNat (own_st cs kk))), .val (.int (Int32.ofNat (own_lf cs kk))), .val (.int (0 : Int32)), .unset] [(.int (Int32.ofNat (own_en cs kk)))] by rw [ee]) ?_
          refine Own.istore H_85 (pc := 80) #[.val (.ref d), .val (.ref b), .val (.int z), .val (.int k), .val (.ref g), .val (.int (Int32.ofNat (own_st cs kk))), .val (.int (Int32.ofNat (own_lf cs kk))), .val (.int (0 : Int32)), .val (.int (Int32.ofNat (own_en cs kk)))] d6_80 rfl ?_
          exact k82 _ _ (H_85.mono (by decide) (by decide))
        · have ee : own_en cs kk = own_lf cs kk - 1 := by unfold own_en; rw [if_pos ⟨by omega, by omega, hx⟩]
          refine Own.iconst H_85 (pc := 59) (1) d6_59 rfl ?_
          refine Own.goto H_85 (pc := 60) 64 d6_60 (by decide) (by decide) ?_
          refine Own.istore H_85 (pc := 64) #[.val (.ref d), .val (.ref b), .val (.int z), .val (.int k), .val (.ref g), .val (.int (Int32.ofNat (own_st cs kk))), .val (.int (Int32.ofNat (own_lf cs kk))), .val (.int (1 : Int32)), .unset] d6_64 rfl ?_
          refine Own.iload H_85 (pc := 66) d6_66 rfl ?_
          refine Own.if_eq H_85 (pc := 68) 78 d6_68 (by decide) (by decide) (fun hc => absurd hc (by decide)) (fun _ => ?_)
          refine Own.iload H_85 (pc := 71) d6_71 rfl ?_
          refine Own.iconst H_85 (pc := 73) (1) d6_73 rfl ?_
          refine Own.isub H_85 (pc := 74) d6_74 ?_
          refine Own.goto H_85 (pc := 75) 80 d6_75 (by decide) (by decide) ?_
          rw [own_sub1 (by omega) (by omega), ← ee]
          show OEnds _ _ _ _ _ _ _ _ _ (mkF _ 80 #[.val (.ref d), .val (.ref b), .val (.int z), .val (.int k), .val (.ref g), .val (.int (Int32.ofNat (own_st cs kk))), .val (.int (Int32.ofNat (own_lf cs kk))), .val (.int (1 : Int32)), .unset] [(.int (Int32.ofNat (own_en cs kk)))])
          refine Own.istore H_85 (pc := 80) #[.val (.ref d), .val (.ref b), .val (.int z), .val (.int k), .val (.ref g), .val (.int (Int32.ofNat (own_st cs kk))), .val (.int (Int32.ofNat (own_lf cs kk))), .val (.int (1 : Int32)), .val (.int (Int32.ofNat (own_en cs kk)))] d6_80 rfl ?_
          exact k82 _ _ (H_85.mono (by decide) (by decide))
  refine Own.if_ne H_79 (pc := 8) 15 d6_8 (by decide) (by decide) (fun hk0 => ?_) (fun hk0 => ?_)
  · replace hk0 : ¬ (k).toInt = 0 := fun q => hk0 (own_eqi.mpr q)
    refine Own.aload_n H_79 (pc := 15) d6_15 rfl rfl ?_
    refine Own.iload_n H_79 (pc := 16) d6_16 rfl ?_
    refine Own.iload_n H_79 (pc := 17) d6_17 rfl ?_
    refine Own.iconst H_79 (pc := 18) (1) d6_18 rfl ?_
    refine Own.isub H_79 (pc := 19) d6_19 ?_
    obtain ⟨jj, rfl⟩ : ∃ jj : Nat, kk = jj + 1 := ⟨kk - 1, by omega⟩
    have ek : (k - (1 : Int32)).toInt = (jj : Int) := by
      have q := c_isub k 1
      have r := rng32 (k - 1)
      have o : (1 : Int32).toInt = 1 := rfl
      omega
    refine Own.callS H_79 (pc := 20) (y := (⟨"com/example/herder/herder/DictionaryOfPinLaw", "lfPos", "([BII)I"⟩ : MethodName)) [(.ref b), (.int z), (.int (k - (1 : Int32)))] [] d6_20 (hw _ (List.mem_of_getElem? (i := 56) rfl)) (hw _ (List.mem_of_getElem? (i := 57) rfl)) (hw _ (List.mem_of_getElem? (i := 28) rfl)) (hw _ (List.mem_of_getElem? (i := 58) rfl)) (by decide) (rm_lf l Z a0 hw b z (k - (1 : Int32)) _ n0 H_79.z0 cs hc B hz jj ek (by omega)) (r := (some .int)) (ps := [(.array .byte), .int, .int]) (by decide) rfl rfl 0 rfl (by decide) (by decide) (by decide) (by decide) rfl (fun T_92 v_94 h_93 H_91 z_95 q_96 => ?_)
    obtain ⟨rfl, rfl⟩ := q_96
    show OEnds _ _ _ _ _ _ _ _ _ (mkF _ 23 #[.val (.ref d), .val (.ref b), .val (.int z), .val (.int k), .val (.ref g), .unset, .unset, .unset, .unset] [(.int (Int32.ofNat (own_lf cs jj)))])
    refine Own.iconst H_91 (pc := 23) (1) d6_23 rfl ?_
    refine Own.iadd H_91 (pc := 24) d6_24 ?_
    rw [own_one]
    exact k25 _ (H_91.mono (by decide) (by decide))
  · replace hk0 : (k).toInt = 0 := own_eqi.mp hk0
    obtain rfl : kk = 0 := by omega
    refine Own.iconst H_79 (pc := 11) (0) d6_11 rfl ?_
    refine Own.goto H_79 (pc := 12) 25 d6_12 (by decide) (by decide) ?_
    exact k25 _ (H_79.mono (by decide) (by decide))

theorem own_nin {x y : Nat} (q : x ≠ y) : x ∉ ([y] : List Addr) := by simpa using q
theorem own_all {x n : Nat} (q : n ≤ x) : ∀ y ∈ ([x] : List Addr), n ≤ y := by
  intro y hy
  have e : y = x := by simpa using hy
  rw [e]; exact q

theorem own_dd {Z : State} {h h' : Heap} {d b sA eA : Nat} {cs : List Int32} (dd : Fld Z h d "com/example/herder/herder/Dictionary" "content" "[B" (.ref b) ∧ Fld Z h d "com/example/herder/herder/Dictionary" "starts" "[I" (.ref sA) ∧ Fld Z h d "com/example/herder/herder/Dictionary" "ends" "[I" (.ref eA) ∧ OAry Z h sA .int ((List.range (own_ln cs)).map fun t => Value.int (Int32.ofNat (own_st cs t))) ∧ OAry Z h eA .int ((List.range (own_ln cs)).map fun t => Value.int (Int32.ofNat (own_en cs t))) ∧ OAry Z h b .byte (cs.map Value.int) ∧ Exa Z h b "[B" ∧ Exa Z h d "com/example/herder/herder/Dictionary") (K : Keep h h' []) : Fld Z h' d "com/example/herder/herder/Dictionary" "content" "[B" (.ref b) ∧ Fld Z h' d "com/example/herder/herder/Dictionary" "starts" "[I" (.ref sA) ∧ Fld Z h' d "com/example/herder/herder/Dictionary" "ends" "[I" (.ref eA) ∧ OAry Z h' sA .int ((List.range (own_ln cs)).map fun t => Value.int (Int32.ofNat (own_st cs t))) ∧ OAry Z h' eA .int ((List.range (own_ln cs)).map fun t => Value.int (Int32.ofNat (own_en cs t))) ∧ OAry Z h' b .byte (cs.map Value.int) ∧ Exa Z h' b "[B" ∧ Exa Z h' d "com/example/herder/herder/Dictionary" := by
  obtain ⟨F1, F2, F3, A1, A2, A, E, ED⟩ := dd
  exact ⟨F1.keep K (by simp), F2.keep K (by simp), F3.keep K (by simp), A1.keep K (by simp), A2.keep K (by simp), A.keep K (by simp), E.keep K, ED.keep K⟩

theorem pn_rm_of : plainFor (⟨"com/example/herder/herder/Dictionary", "of", "([B)Lcom/example/herder/herder/Dictionary;"⟩ : MethodName) = true := by first | exact plainFor_of_name (by first | (simp [plainName, overriddenIn]; done) | decide +kernel) | decide +kernel
theorem ef_rm_of (b : Nat) (m : MethodId) : entryFrame m #[(.ref b)] 8 = mkF m 0 #[.val (.ref b), .unset, .unset, .unset, .unset, .unset, .unset, .unset] [] := by first | (simp [entryFrame, mkF, argsToLocals, Value.category]; done) | rfl
set_option maxRecDepth 65536 in
set_option maxHeartbeats 40000000 in
theorem rm_of (l : Launch) (Z : State) (a0 : Array Value) (hw : ∀ d ∈ tables_1, d.before a0 Z = true) (b : Nat) (h0 : Heap) (n0 : Nat) (Z0 : n0 ≤ h0.size) (cs : List Int32) (hc : cs.length ≤ 4) (A : OAry Z h0 b .byte (cs.map Value.int)) (E : Exa Z h0 b "[B") :
    OMet l Z n0 (⟨"com/example/herder/herder/Dictionary", "of", "([B)Lcom/example/herder/herder/Dictionary;"⟩ : MethodName) prog_1_method_3_code 8 (some (.object "com/example/herder/herder/Dictionary")) ({ frames := 2, cells := 3, slots := 11, locals := 30 } : Room) #[(.ref b)] h0 (fun v h => ∃ d sA eA : Nat, v = some (.ref d) ∧ Fld Z h d "com/example/herder/herder/Dictionary" "content" "[B" (.ref b) ∧ Fld Z h d "com/example/herder/herder/Dictionary" "starts" "[I" (.ref sA) ∧ Fld Z h d "com/example/herder/herder/Dictionary" "ends" "[I" (.ref eA) ∧ OAry Z h sA .int ((List.range (own_ln cs)).map fun t => Value.int (Int32.ofNat (own_st cs t))) ∧ OAry Z h eA .int ((List.range (own_ln cs)).map fun t => Value.int (Int32.ofNat (own_en cs t))) ∧ OAry Z h b .byte (cs.map Value.int) ∧ Exa Z h b "[B" ∧ Exa Z h d "com/example/herder/herder/Dictionary") := by
  refine OMet.of pn_rm_of Z0 (ef_rm_of b) ?_
  intro p e s m below meth c T H
  have hN : (Int32.ofNat cs.length).toInt = (cs.length : Int) := own_ofNat (by omega)
  have h4 := own_lines hc
  refine Own.iconst H (pc := 0) (0) d1_0 rfl ?_
  refine Own.istore_n H (pc := 1) #[.val (.ref b), .val (.int (0 : Int32)), .unset, .unset, .unset, .unset, .unset, .unset] d1_1 rfl ?_
  refine Own.aload_n H (pc := 2) d1_2 rfl rfl ?_
  refine Own.astore_n H (pc := 3) #[.val (.ref b), .val (.int (0 : Int32)), .val (.ref b), .unset, .unset, .unset, .unset, .unset] d1_3 rfl rfl ?_
  refine Own.aload_n H (pc := 4) d1_4 rfl rfl ?_
  refine Own.arraylength H (pc := 5) (Int32.ofNat cs.length) d1_5 A (by rw [List.length_map]; exact hN) ?_
  refine Own.istore_n H (pc := 6) #[.val (.ref b), .val (.int (0 : Int32)), .val (.ref b), .val (.int (Int32.ofNat cs.length)), .unset, .unset, .unset, .unset] d1_6 rfl ?_
  refine Own.iconst H (pc := 7) (0) d1_7 rfl ?_
  refine Own.istore H (pc := 8) #[.val (.ref b), .val (.int (0 : Int32)), .val (.ref b), .val (.int (Int32.ofNat cs.length)), .val (.int (0 : Int32)), .unset, .unset, .unset] d1_8 rfl ?_
  have k57 : ∀ (o5 : Slot), (o5 = Slot.unset ∨ ∃ x : Int32, o5 = .val (.int x)) → OEnds p e below s n0 (fun v h => ∃ d sA eA : Nat, v = some (.ref d) ∧ Fld Z h d "com/example/herder/herder/Dictionary" "content" "[B" (.ref b) ∧ Fld Z h d "com/example/herder/herder/Dictionary" "starts" "[I" (.ref sA) ∧ Fld Z h d "com/example/herder/herder/Dictionary" "ends" "[I" (.ref eA) ∧ OAry Z h sA .int ((List.range (own_ln cs)).map fun t => Value.int (Int32.ofNat (own_st cs t))) ∧ OAry Z h eA .int ((List.range (own_ln cs)).map fun t => Value.int (Int32.ofNat (own_en cs t))) ∧ OAry Z h b .byte (cs.map Value.int) ∧ Exa Z h b "[B" ∧ Exa Z h d "com/example/herder/herder/Dictionary") ({ frames := 2, cells := 3, slots := 11, locals := 30 } : Room).cells ({ frames := 2, cells := 3, slots := 11, locals := 30 } : Room).slots T (mkF m 57 #[.val (.ref b), .val (.int (Int32.ofNat (own_ln cs))), .val (.ref b), .val (.int (Int32.ofNat cs.length)), .val (.int (Int32.ofNat cs.length)), o5, .unset, .unset] []) := by
    intro o5 h_o5
    refine Own.iload_n H (pc := 57) d1_57 rfl ?_
    refine Own.newarray H (pc := 58) (i := (own_ln cs)) 4 d1_58 (hw _ (List.mem_of_getElem? (i := 6) rfl)) (own_ofNat (by omega)) (by decide) h4 (by decide) (by decide) (by decide) (fun T_98 h_99 sA eq_sA ge_sA H_97 Ext_sA Ary_sA => ?_)
    have lt1 : b < sA := by have := A.lt; omega
    have A_a := A.ext Ext_sA
    have E_a := E.ext Ext_sA
    refine Own.astore_n H_97 (pc := 60) #[.val (.ref b), .val (.int (Int32.ofNat (own_ln cs))), .val (.ref sA), .val (.int (Int32.ofNat cs.length)), .val (.int (Int32.ofNat cs.length)), o5, .unset, .unset] d1_60 rfl rfl ?_
    refine Own.iload_n H_97 (pc := 61) d1_61 rfl ?_
    refine Own.newarray H_97 (pc := 62) (i := (own_ln cs)) 4 d1_62 (hw _ (List.mem_of_getElem? (i := 6) rfl)) (own_ofNat (by omega)) (by decide) h4 (by decide) (by decide) (by decide) (fun T_101 h_102 eA eq_eA ge_eA H_100 Ext_eA Ary_eA => ?_)
    have lt2 : sA < eA := by have := Ary_sA.lt; omega
    have A_b := A_a.ext Ext_eA
    have E_b := E_a.ext Ext_eA
    have S_b := Ary_sA.ext Ext_eA
    refine Own.astore_n H_100 (pc := 64) #[.val (.ref b), .val (.int (Int32.ofNat (own_ln cs))), .val (.ref sA), .val (.ref eA), .val (.int (Int32.ofNat cs.length)), o5, .unset, .unset] d1_64 rfl rfl ?_
    refine Own.iconst H_100 (pc := 65) (0) d1_65 rfl ?_
    refine Own.istore H_100 (pc := 66) #[.val (.ref b), .val (.int (Int32.ofNat (own_ln cs))), .val (.ref sA), .val (.ref eA), .val (.int (0 : Int32)), o5, .unset, .unset] d1_66 rfl ?_
    refine Own.iconst H_100 (pc := 68) (0) d1_68 rfl ?_
    refine Own.istore H_100 (pc := 69) #[.val (.ref b), .val (.int (Int32.ofNat (own_ln cs))), .val (.ref sA), .val (.ref eA), .val (.int (0 : Int32)), .val (.int (0 : Int32)), .unset, .unset] d1_69 (by rcases h_o5 with q | ⟨x, q⟩ <;> subst q <;> rfl) ?_
    have outer : ∀ (k j : Nat) (T : State) (h : Heap) (o6 o7 : Slot) (SV EV : List Value), j + k = own_ln cs → OHr p l e ({ frames := 2, cells := 3, slots := 11, locals := 30 } : Room) s m #[(.ref b)] below meth c Z n0 "com/example/herder/herder/Dictionary" "of" prog_1_method_3_code 8 (some (.object "com/example/herder/herder/Dictionary")) T h 2 8 → OAry Z h b .byte (cs.map Value.int) → Exa Z h b "[B" → OAry Z h sA .int SV → SV.length = own_ln cs → (∀ t, t < j → SV[t]? = some (.int (Int32.ofNat (own_st cs t)))) → OAry Z h eA .int EV → EV.length = own_ln cs → (∀ t, t < j → EV[t]? = some (.int (Int32.ofNat (own_en cs t)))) → (o6 = Slot.unset ∨ ∃ x : Int32, o6 = .val (.int x)) → (o7 = Slot.unset ∨ ∃ x : Int32, o7 = .val (.int x)) → OEnds p e below s n0 (fun v h => ∃ d sA eA : Nat, v = some (.ref d) ∧ Fld Z h d "com/example/herder/herder/Dictionary" "content" "[B" (.ref b) ∧ Fld Z h d "com/example/herder/herder/Dictionary" "starts" "[I" (.ref sA) ∧ Fld Z h d "com/example/herder/herder/Dictionary" "ends" "[I" (.ref eA) ∧ OAry Z h sA .int ((List.range (own_ln cs)).map fun t => Value.int (Int32.ofNat (own_st cs t))) ∧ OAry Z h eA .int ((List.range (own_ln cs)).map fun t => Value.int (Int32.ofNat (own_en cs t))) ∧ OAry Z h b .byte (cs.map Value.int) ∧ Exa Z h b "[B" ∧ Exa Z h d "com/example/herder/herder/Dictionary") ({ frames := 2, cells := 3, slots := 11, locals := 30 } : Room).cells ({ frames := 2, cells := 3, slots := 11, locals := 30 } : Room).slots T (mkF m 71 #[.val (.ref b), .val (.int (Int32.ofNat (own_ln cs))), .val (.ref sA), .val (.ref eA), .val (.int (Int32.ofNat (own_st cs j))), .val (.int (Int32.ofNat j)), o6, o7] []) := by
      intro k
      induction k with
      | zero =>
        intro j T h o6 o7 SV EV hj H A E AS lS hS AE lE hE h_o6 h_o7
        refine Own.iload H (pc := 71) d1_71 rfl ?_
        refine Own.iload_n H (pc := 73) d1_73 rfl ?_
        refine Own.icmp_ge H (pc := 74) 171 d1_74 (by decide) (by decide) (fun _ => ?_) (fun hX => absurd hX (by rw [own_lt, own_ofNat (by omega), own_ofNat (by omega)]; omega))
        refine Own.new_ H (pc := 171) d1_171 (hw _ (List.mem_of_getElem? (i := 7) rfl)) (hw _ (List.mem_of_getElem? (i := 8) rfl)) (hw _ (List.mem_of_getElem? (i := 4) rfl)) (by decide) (by decide) (fun T_104 h_105 d eq_d ge_d H_103 Ext_d Exa_d D_d => ?_)
        have lt3 : eA < d := by have := AE.lt; omega
        have A_1 := A.ext Ext_d
        have E_1 := E.ext Ext_d
        have AS_1 := AS.ext Ext_d
        have AE_1 := AE.ext Ext_d
        refine Own.dup H_103 (pc := 174) d1_174 rfl ?_
        refine Own.aload_n H_103 (pc := 175) d1_175 rfl rfl ?_
        refine Own.aload_n H_103 (pc := 176) d1_176 rfl rfl ?_
        refine Own.aload_n H_103 (pc := 177) d1_177 rfl rfl ?_
        refine Own.callI H_103 (pc := 178) (y := (⟨"com/example/herder/herder/Dictionary", "<init>", "([B[I[I)V"⟩ : MethodName)) d [(.ref b), (.ref sA), (.ref eA)] [(.ref d)] d1_178 rfl (hw _ (List.mem_of_getElem? (i := 9) rfl)) (hw _ (List.mem_of_getElem? (i := 10) rfl)) (hw _ (List.mem_of_getElem? (i := 4) rfl)) (hw _ (List.mem_of_getElem? (i := 11) rfl)) (by decide) (rm_init l Z a0 hw d b sA eA _ n0 H_103.z0 _ (D_d (Or.inr (hw _ (List.mem_of_getElem? (i := 16) rfl))) (ty := (.array .byte)) (by decide)) _ (D_d (Or.inr (hw _ (List.mem_of_getElem? (i := 18) rfl))) (ty := (.array .int)) (by decide)) _ (D_d (Or.inr (hw _ (List.mem_of_getElem? (i := 20) rfl))) (ty := (.array .int)) (by decide)) Exa_d ge_d) (r := none) (ps := [(.array .byte), (.array .int), (.array .int)]) (by decide) rfl rfl 1 rfl (by decide) (by decide) (by decide) (by decide) rfl (fun T_107 v_109 h_108 H_106 z_110 q_111 => ?_)
        obtain ⟨rfl, ED, KD, G1, G2, G3⟩ := q_111
        show OEnds _ _ _ _ _ _ _ _ _ (mkF _ 181 #[.val (.ref b), .val (.int (Int32.ofNat (own_ln cs))), .val (.ref sA), .val (.ref eA), .val (.int (Int32.ofNat (own_st cs j))), .val (.int (Int32.ofNat j)), o6, o7] [(.ref d)])
        have eS : SV = ((List.range (own_ln cs)).map fun t => Value.int (Int32.ofNat (own_st cs t))) := own_rgE (f := (fun t => Int32.ofNat (own_st cs t))) lS (fun t ht => hS t (by omega))
        have eE : EV = ((List.range (own_ln cs)).map fun t => Value.int (Int32.ofNat (own_en cs t))) := own_rgE (f := (fun t => Int32.ofNat (own_en cs t))) lE (fun t ht => hE t (by omega))
        have A_2 := A_1.keep KD (own_nin (show (b : Nat) ≠ d by omega))
        have E_2 := E_1.keep KD
        have S_2 := AS_1.keep KD (own_nin (show (sA : Nat) ≠ d by omega))
        have X_2 := AE_1.keep KD (own_nin (show (eA : Nat) ≠ d by omega))
        rw [eS] at S_2
        rw [eE] at X_2
        exact Own.ret_ref H_106 (pc := 181) d1_181 rfl rfl rfl rfl (by decide) (by decide) (⟨d, sA, eA, rfl, G1, G2, G3, S_2, X_2, A_2, E_2, ED⟩)
      | succ k ih =>
        intro j T h o6 o7 SV EV hj H A E AS lS hS AE lE hE h_o6 h_o7
        obtain ⟨a1, a2, a3, a4⟩ := own_row hc (show j < own_ln cs by omega)
        have hL : (Int32.ofNat (own_lf cs j)).toInt = ((own_lf cs j : Nat) : Int) := own_ofNat (by omega)
        have hT : (Int32.ofNat (own_st cs j)).toInt = ((own_st cs j : Nat) : Int) := own_ofNat (by omega)
        refine Own.iload H (pc := 71) d1_71 rfl ?_
        refine Own.iload_n H (pc := 73) d1_73 rfl ?_
        refine Own.icmp_ge H (pc := 74) 171 d1_74 (by decide) (by decide) (fun hX => absurd (by rw [own_lt, own_ofNat (by omega), own_ofNat (by omega)]; omega) hX) (fun _ => ?_)
        refine Own.iload H (pc := 77) d1_77 rfl ?_
        refine Own.istore H (pc := 79) #[.val (.ref b), .val (.int (Int32.ofNat (own_ln cs))), .val (.ref sA), .val (.ref eA), .val (.int (Int32.ofNat (own_st cs j))), .val (.int (Int32.ofNat j)), .val (.int (Int32.ofNat (own_st cs j))), o7] d1_79 (by rcases h_o6 with q | ⟨x, q⟩ <;> subst q <;> rfl) ?_
        have k103 : OEnds p e below s n0 (fun v h => ∃ d sA eA : Nat, v = some (.ref d) ∧ Fld Z h d "com/example/herder/herder/Dictionary" "content" "[B" (.ref b) ∧ Fld Z h d "com/example/herder/herder/Dictionary" "starts" "[I" (.ref sA) ∧ Fld Z h d "com/example/herder/herder/Dictionary" "ends" "[I" (.ref eA) ∧ OAry Z h sA .int ((List.range (own_ln cs)).map fun t => Value.int (Int32.ofNat (own_st cs t))) ∧ OAry Z h eA .int ((List.range (own_ln cs)).map fun t => Value.int (Int32.ofNat (own_en cs t))) ∧ OAry Z h b .byte (cs.map Value.int) ∧ Exa Z h b "[B" ∧ Exa Z h d "com/example/herder/herder/Dictionary") ({ frames := 2, cells := 3, slots := 11, locals := 30 } : Room).cells ({ frames := 2, cells := 3, slots := 11, locals := 30 } : Room).slots T (mkF m 103 #[.val (.ref b), .val (.int (Int32.ofNat (own_ln cs))), .val (.ref sA), .val (.ref eA), .val (.int (Int32.ofNat (own_st cs j))), .val (.int (Int32.ofNat j)), .val (.int (Int32.ofNat (own_lf cs j))), o7] []) := by
          refine Own.iload H (pc := 103) d1_103 rfl ?_
          refine Own.aload_n H (pc := 105) d1_105 rfl rfl ?_
          refine Own.arraylength H (pc := 106) (Int32.ofNat cs.length) d1_106 A (by rw [List.length_map]; exact hN) ?_
          refine Own.icmp_ge H (pc := 107) 132 d1_107 (by decide) (by decide) (fun hn => ?_) (fun hn => ?_)
          · replace hn : ¬ ((Int32.ofNat (own_lf cs j))).toInt < ((Int32.ofNat cs.length)).toInt := fun q => hn (own_lt.mpr q)
            have ee : own_en cs j = own_lf cs j := by unfold own_en; rw [if_neg (fun q => absurd q (by
              intro q
              obtain ⟨u1, u2, u3⟩ := q
              first | omega | exact hx u3))]
            refine Own.iconst H (pc := 132) (0) d1_132 rfl ?_
            refine Own.istore H (pc := 133) #[.val (.ref b), .val (.int (Int32.ofNat (own_ln cs))), .val (.ref sA), .val (.ref eA), .val (.int (Int32.ofNat (own_st cs j))), .val (.int (Int32.ofNat j)), .val (.int (Int32.ofNat (own_lf cs j))), .val (.int (0 : Int32))] d1_133 (by rcases h_o7 with q | ⟨x, q⟩ <;> subst q <;> rfl) ?_
            refine Own.aload_n H (pc := 135) d1_135 rfl rfl ?_
            refine Own.iload H (pc := 136) d1_136 rfl ?_
            refine Own.iload H (pc := 138) d1_138 rfl ?_
            refine Own.iastore H (pc := 140) j d1_140 AS ge_sA (own_ofNat (by omega)) (by omega) (fun T_113 h_114 H_112 W_115 A_116 => ?_)
            have A_1 := A.other W_115 (by omega)
            have E_1 := E.wr W_115
            have AE_1 := AE.other W_115 (by omega)
            refine Own.aload_n H_112 (pc := 141) d1_141 rfl rfl ?_
            refine Own.iload H_112 (pc := 142) d1_142 rfl ?_
            refine Own.iload H_112 (pc := 144) d1_144 rfl ?_
            refine Own.if_eq H_112 (pc := 146) 156 d1_146 (by decide) (by decide) (fun _ => ?_) (fun hc => absurd hc (by decide))
            refine Own.iload H_112 (pc := 156) d1_156 rfl ?_
            refine Own.iastore H_112 (pc := 158) j d1_158 AE_1 ge_eA (own_ofNat (by omega)) (by omega) (fun T_118 h_119 H_117 W_120 A_121 => ?_)
            have A_2 := A_1.other W_120 (by omega)
            have E_2 := E_1.wr W_120
            have S_2 := A_116.other W_120 (by omega)
            refine Own.iload H_117 (pc := 159) d1_159 rfl ?_
            refine Own.iconst H_117 (pc := 161) (1) d1_161 rfl ?_
            refine Own.iadd H_117 (pc := 162) d1_162 ?_
            refine Own.istore H_117 (pc := 163) #[.val (.ref b), .val (.int (Int32.ofNat (own_ln cs))), .val (.ref sA), .val (.ref eA), .val (.int ((Int32.ofNat (own_lf cs j)) + (1 : Int32))), .val (.int (Int32.ofNat j)), .val (.int (Int32.ofNat (own_lf cs j))), .val (.int (0 : Int32))] d1_163 rfl ?_
            refine Own.iinc H_117 (pc := 165) (1) #[.val (.ref b), .val (.int (Int32.ofNat (own_ln cs))), .val (.ref sA), .val (.ref eA), .val (.int ((Int32.ofNat (own_lf cs j)) + (1 : Int32))), .val (.int ((Int32.ofNat j) + (1 : Int32))), .val (.int (Int32.ofNat (own_lf cs j))), .val (.int (0 : Int32))] d1_165 rfl rfl rfl ?_
            refine Own.goto H_117 (pc := 168) 71 d1_168 (by decide) (by decide) ?_
            rw [own_one (own_lf cs j), own_one j]
            exact ih (j + 1) _ _ _ _ _ _ (by omega) H_117 A_2 E_2 S_2 (by rw [List.length_set]; exact lS) (own_set (f := (fun t => Int32.ofNat (own_st cs t))) lS (by omega) hS rfl) A_121 (by rw [List.length_set]; exact lE) (own_set (f := (fun t => Int32.ofNat (own_en cs t))) lE (by omega) hE (by show Int32.ofNat (own_lf cs j) = Int32.ofNat (own_en cs j); rw [ee])) (Or.inr ⟨_, rfl⟩) (Or.inr ⟨_, rfl⟩)
          · replace hn : ((Int32.ofNat (own_lf cs j))).toInt < ((Int32.ofNat cs.length)).toInt := own_lt.mp hn
            refine Own.iload H (pc := 110) d1_110 rfl ?_
            refine Own.iload H (pc := 112) d1_112 rfl ?_
            refine Own.icmp_le H (pc := 114) 132 d1_114 (by decide) (by decide) (fun hs => ?_) (fun hs => ?_)
            · replace hs : ¬ ((Int32.ofNat (own_st cs j))).toInt < ((Int32.ofNat (own_lf cs j))).toInt := fun q => hs (own_lt.mpr q)
              have ee : own_en cs j = own_lf cs j := by unfold own_en; rw [if_neg (fun q => absurd q (by
                intro q
                obtain ⟨u1, u2, u3⟩ := q
                first | omega | exact hx u3))]
              refine Own.iconst H (pc := 132) (0) d1_132 rfl ?_
              refine Own.istore H (pc := 133) #[.val (.ref b), .val (.int (Int32.ofNat (own_ln cs))), .val (.ref sA), .val (.ref eA), .val (.int (Int32.ofNat (own_st cs j))), .val (.int (Int32.ofNat j)), .val (.int (Int32.ofNat (own_lf cs j))), .val (.int (0 : Int32))] d1_133 (by rcases h_o7 with q | ⟨x, q⟩ <;> subst q <;> rfl) ?_
              refine Own.aload_n H (pc := 135) d1_135 rfl rfl ?_
              refine Own.iload H (pc := 136) d1_136 rfl ?_
              refine Own.iload H (pc := 138) d1_138 rfl ?_
              refine Own.iastore H (pc := 140) j d1_140 AS ge_sA (own_ofNat (by omega)) (by omega) (fun T_123 h_124 H_122 W_125 A_126 => ?_)
              have A_1 := A.other W_125 (by omega)
              have E_1 := E.wr W_125
              have AE_1 := AE.other W_125 (by omega)
              refine Own.aload_n H_122 (pc := 141) d1_141 rfl rfl ?_
              refine Own.iload H_122 (pc := 142) d1_142 rfl ?_
              refine Own.iload H_122 (pc := 144) d1_144 rfl ?_
              refine Own.if_eq H_122 (pc := 146) 156 d1_146 (by decide) (by decide) (fun _ => ?_) (fun hc => absurd hc (by decide))
              refine Own.iload H_122 (pc := 156) d1_156 rfl ?_
              refine Own.iastore H_122 (pc := 158) j d1_158 AE_1 ge_eA (own_ofNat (by omega)) (by omega) (fun T_128 h_129 H_127 W_130 A_131 => ?_)
              have A_2 := A_1.other W_130 (by omega)
              have E_2 := E_1.wr W_130
              have S_2 := A_126.other W_130 (by omega)
              refine Own.iload H_127 (pc := 159) d1_159 rfl ?_
              refine Own.iconst H_127 (pc := 161) (1) d1_161 rfl ?_
              refine Own.iadd H_127 (pc := 162) d1_162 ?_
              refine Own.istore H_127 (pc := 163) #[.val (.ref b), .val (.int (Int32.ofNat (own_ln cs))), .val (.ref sA), .val (.ref eA), .val (.int ((Int32.ofNat (own_lf cs j)) + (1 : Int32))), .val (.int (Int32.ofNat j)), .val (.int (Int32.ofNat (own_lf cs j))), .val (.int (0 : Int32))] d1_163 rfl ?_
              refine Own.iinc H_127 (pc := 165) (1) #[.val (.ref b), .val (.int (Int32.ofNat (own_ln cs))), .val (.ref sA), .val (.ref eA), .val (.int ((Int32.ofNat (own_lf cs j)) + (1 : Int32))), .val (.int ((Int32.ofNat j) + (1 : Int32))), .val (.int (Int32.ofNat (own_lf cs j))), .val (.int (0 : Int32))] d1_165 rfl rfl rfl ?_
              refine Own.goto H_127 (pc := 168) 71 d1_168 (by decide) (by decide) ?_
              rw [own_one (own_lf cs j), own_one j]
              exact ih (j + 1) _ _ _ _ _ _ (by omega) H_127 A_2 E_2 S_2 (by rw [List.length_set]; exact lS) (own_set (f := (fun t => Int32.ofNat (own_st cs t))) lS (by omega) hS rfl) A_131 (by rw [List.length_set]; exact lE) (own_set (f := (fun t => Int32.ofNat (own_en cs t))) lE (by omega) hE (by show Int32.ofNat (own_lf cs j) = Int32.ofNat (own_en cs j); rw [ee])) (Or.inr ⟨_, rfl⟩) (Or.inr ⟨_, rfl⟩)
            · replace hs : ((Int32.ofNat (own_st cs j))).toInt < ((Int32.ofNat (own_lf cs j))).toInt := own_lt.mp hs
              refine Own.aload_n H (pc := 117) d1_117 rfl rfl ?_
              refine Own.iload H (pc := 118) d1_118 rfl ?_
              refine Own.iconst H (pc := 120) (1) d1_120 rfl ?_
              refine Own.isub H (pc := 121) d1_121 ?_
              refine Own.baload H (pc := 122) (v := (cs.getD (own_lf cs j - 1) 0)) (own_lf cs j - 1) d1_122 A (by rw [own_sub1 (by omega) (by omega)]; exact own_ofNat (by omega)) (own_map (i := own_lf cs j - 1) (by omega)) ?_
              refine Own.bipush H (pc := 123) (13) d1_123 rfl ?_
              refine Own.icmp_ne H (pc := 125) 132 d1_125 (by decide) (by decide) (fun hx => ?_) (fun hx => ?_)
              · have ee : own_en cs j = own_lf cs j := by unfold own_en; rw [if_neg (fun q => absurd q (by
                  intro q
                  obtain ⟨u1, u2, u3⟩ := q
                  first | omega | exact hx u3))]
                refine Own.iconst H (pc := 132) (0) d1_132 rfl ?_
                refine Own.istore H (pc := 133) #[.val (.ref b), .val (.int (Int32.ofNat (own_ln cs))), .val (.ref sA), .val (.ref eA), .val (.int (Int32.ofNat (own_st cs j))), .val (.int (Int32.ofNat j)), .val (.int (Int32.ofNat (own_lf cs j))), .val (.int (0 : Int32))] d1_133 (by rcases h_o7 with q | ⟨x, q⟩ <;> subst q <;> rfl) ?_
                refine Own.aload_n H (pc := 135) d1_135 rfl rfl ?_
                refine Own.iload H (pc := 136) d1_136 rfl ?_
                refine Own.iload H (pc := 138) d1_138 rfl ?_
                refine Own.iastore H (pc := 140) j d1_140 AS ge_sA (own_ofNat (by omega)) (by omega) (fun T_133 h_134 H_132 W_135 A_136 => ?_)
                have A_1 := A.other W_135 (by omega)
                have E_1 := E.wr W_135
                have AE_1 := AE.other W_135 (by omega)
                refine Own.aload_n H_132 (pc := 141) d1_141 rfl rfl ?_
                refine Own.iload H_132 (pc := 142) d1_142 rfl ?_
                refine Own.iload H_132 (pc := 144) d1_144 rfl ?_
                refine Own.if_eq H_132 (pc := 146) 156 d1_146 (by decide) (by decide) (fun _ => ?_) (fun hc => absurd hc (by decide))
                refine Own.iload H_132 (pc := 156) d1_156 rfl ?_
                refine Own.iastore H_132 (pc := 158) j d1_158 AE_1 ge_eA (own_ofNat (by omega)) (by omega) (fun T_138 h_139 H_137 W_140 A_141 => ?_)
                have A_2 := A_1.other W_140 (by omega)
                have E_2 := E_1.wr W_140
                have S_2 := A_136.other W_140 (by omega)
                refine Own.iload H_137 (pc := 159) d1_159 rfl ?_
                refine Own.iconst H_137 (pc := 161) (1) d1_161 rfl ?_
                refine Own.iadd H_137 (pc := 162) d1_162 ?_
                refine Own.istore H_137 (pc := 163) #[.val (.ref b), .val (.int (Int32.ofNat (own_ln cs))), .val (.ref sA), .val (.ref eA), .val (.int ((Int32.ofNat (own_lf cs j)) + (1 : Int32))), .val (.int (Int32.ofNat j)), .val (.int (Int32.ofNat (own_lf cs j))), .val (.int (0 : Int32))] d1_163 rfl ?_
                refine Own.iinc H_137 (pc := 165) (1) #[.val (.ref b), .val (.int (Int32.ofNat (own_ln cs))), .val (.ref sA), .val (.ref eA), .val (.int ((Int32.ofNat (own_lf cs j)) + (1 : Int32))), .val (.int ((Int32.ofNat j) + (1 : Int32))), .val (.int (Int32.ofNat (own_lf cs j))), .val (.int (0 : Int32))] d1_165 rfl rfl rfl ?_
                refine Own.goto H_137 (pc := 168) 71 d1_168 (by decide) (by decide) ?_
                rw [own_one (own_lf cs j), own_one j]
                exact ih (j + 1) _ _ _ _ _ _ (by omega) H_137 A_2 E_2 S_2 (by rw [List.length_set]; exact lS) (own_set (f := (fun t => Int32.ofNat (own_st cs t))) lS (by omega) hS rfl) A_141 (by rw [List.length_set]; exact lE) (own_set (f := (fun t => Int32.ofNat (own_en cs t))) lE (by omega) hE (by show Int32.ofNat (own_lf cs j) = Int32.ofNat (own_en cs j); rw [ee])) (Or.inr ⟨_, rfl⟩) (Or.inr ⟨_, rfl⟩)
              · have ee : own_en cs j = own_lf cs j - 1 := by unfold own_en; rw [if_pos ⟨by omega, by omega, hx⟩]
                refine Own.iconst H (pc := 128) (1) d1_128 rfl ?_
                refine Own.goto H (pc := 129) 133 d1_129 (by decide) (by decide) ?_
                refine Own.istore H (pc := 133) #[.val (.ref b), .val (.int (Int32.ofNat (own_ln cs))), .val (.ref sA), .val (.ref eA), .val (.int (Int32.ofNat (own_st cs j))), .val (.int (Int32.ofNat j)), .val (.int (Int32.ofNat (own_lf cs j))), .val (.int (1 : Int32))] d1_133 (by rcases h_o7 with q | ⟨x, q⟩ <;> subst q <;> rfl) ?_
                refine Own.aload_n H (pc := 135) d1_135 rfl rfl ?_
                refine Own.iload H (pc := 136) d1_136 rfl ?_
                refine Own.iload H (pc := 138) d1_138 rfl ?_
                refine Own.iastore H (pc := 140) j d1_140 AS ge_sA (own_ofNat (by omega)) (by omega) (fun T_143 h_144 H_142 W_145 A_146 => ?_)
                have A_1 := A.other W_145 (by omega)
                have E_1 := E.wr W_145
                have AE_1 := AE.other W_145 (by omega)
                refine Own.aload_n H_142 (pc := 141) d1_141 rfl rfl ?_
                refine Own.iload H_142 (pc := 142) d1_142 rfl ?_
                refine Own.iload H_142 (pc := 144) d1_144 rfl ?_
                refine Own.if_eq H_142 (pc := 146) 156 d1_146 (by decide) (by decide) (fun hc => absurd hc (by decide)) (fun _ => ?_)
                refine Own.iload H_142 (pc := 149) d1_149 rfl ?_
                refine Own.iconst H_142 (pc := 151) (1) d1_151 rfl ?_
                refine Own.isub H_142 (pc := 152) d1_152 ?_
                refine Own.goto H_142 (pc := 153) 158 d1_153 (by decide) (by decide) ?_
                refine Own.iastore H_142 (pc := 158) j d1_158 AE_1 ge_eA (own_ofNat (by omega)) (by omega) (fun T_148 h_149 H_147 W_150 A_151 => ?_)
                have A_2 := A_1.other W_150 (by omega)
                have E_2 := E_1.wr W_150
                have S_2 := A_146.other W_150 (by omega)
                refine Own.iload H_147 (pc := 159) d1_159 rfl ?_
                refine Own.iconst H_147 (pc := 161) (1) d1_161 rfl ?_
                refine Own.iadd H_147 (pc := 162) d1_162 ?_
                refine Own.istore H_147 (pc := 163) #[.val (.ref b), .val (.int (Int32.ofNat (own_ln cs))), .val (.ref sA), .val (.ref eA), .val (.int ((Int32.ofNat (own_lf cs j)) + (1 : Int32))), .val (.int (Int32.ofNat j)), .val (.int (Int32.ofNat (own_lf cs j))), .val (.int (1 : Int32))] d1_163 rfl ?_
                refine Own.iinc H_147 (pc := 165) (1) #[.val (.ref b), .val (.int (Int32.ofNat (own_ln cs))), .val (.ref sA), .val (.ref eA), .val (.int ((Int32.ofNat (own_lf cs j)) + (1 : Int32))), .val (.int ((Int32.ofNat j) + (1 : Int32))), .val (.int (Int32.ofNat (own_lf cs j))), .val (.int (1 : Int32))] d1_165 rfl rfl rfl ?_
                refine Own.goto H_147 (pc := 168) 71 d1_168 (by decide) (by decide) ?_
                rw [own_one (own_lf cs j), own_one j]
                exact ih (j + 1) _ _ _ _ _ _ (by omega) H_147 A_2 E_2 S_2 (by rw [List.length_set]; exact lS) (own_set (f := (fun t => Int32.ofNat (own_st cs t))) lS (by omega) hS rfl) A_151 (by rw [List.length_set]; exact lE) (own_set (f := (fun t => Int32.ofNat (own_en cs t))) lE (by omega) hE (by show Int32.ofNat (own_lf cs j) - (1 : Int32) = Int32.ofNat (own_en cs j); rw [own_sub1 (by omega) (by omega), ee])) (Or.inr ⟨_, rfl⟩) (Or.inr ⟨_, rfl⟩)
        have inner : ∀ (k2 i : Nat), i + k2 = own_lf cs j → own_st cs j ≤ i → OEnds p e below s n0 (fun v h => ∃ d sA eA : Nat, v = some (.ref d) ∧ Fld Z h d "com/example/herder/herder/Dictionary" "content" "[B" (.ref b) ∧ Fld Z h d "com/example/herder/herder/Dictionary" "starts" "[I" (.ref sA) ∧ Fld Z h d "com/example/herder/herder/Dictionary" "ends" "[I" (.ref eA) ∧ OAry Z h sA .int ((List.range (own_ln cs)).map fun t => Value.int (Int32.ofNat (own_st cs t))) ∧ OAry Z h eA .int ((List.range (own_ln cs)).map fun t => Value.int (Int32.ofNat (own_en cs t))) ∧ OAry Z h b .byte (cs.map Value.int) ∧ Exa Z h b "[B" ∧ Exa Z h d "com/example/herder/herder/Dictionary") ({ frames := 2, cells := 3, slots := 11, locals := 30 } : Room).cells ({ frames := 2, cells := 3, slots := 11, locals := 30 } : Room).slots T (mkF m 81 #[.val (.ref b), .val (.int (Int32.ofNat (own_ln cs))), .val (.ref sA), .val (.ref eA), .val (.int (Int32.ofNat (own_st cs j))), .val (.int (Int32.ofNat j)), .val (.int (Int32.ofNat i)), o7] []) := by
          intro k2
          induction k2 with
          | zero =>
            intro i hi hs
            obtain rfl : i = own_lf cs j := by omega
            refine Own.iload H (pc := 81) d1_81 rfl ?_
            refine Own.aload_n H (pc := 83) d1_83 rfl rfl ?_
            refine Own.arraylength H (pc := 84) (Int32.ofNat cs.length) d1_84 A (by rw [List.length_map]; exact hN) ?_
            refine Own.icmp_ge H (pc := 85) 103 d1_85 (by decide) (by decide) (fun hn => ?_) (fun hn => ?_)
            · replace hn : ¬ ((Int32.ofNat (own_lf cs j))).toInt < ((Int32.ofNat cs.length)).toInt := fun q => hn (own_lt.mpr q)
              exact k103
            · replace hn : ((Int32.ofNat (own_lf cs j))).toInt < ((Int32.ofNat cs.length)).toInt := own_lt.mp hn
              refine Own.aload_n H (pc := 88) d1_88 rfl rfl ?_
              refine Own.iload H (pc := 89) d1_89 rfl ?_
              refine Own.baload H (pc := 91) (v := (cs.getD (own_lf cs j) 0)) (own_lf cs j) d1_91 A hL (own_map (i := own_lf cs j) (by omega)) ?_
              refine Own.bipush H (pc := 92) (10) d1_92 rfl ?_
              have hx : cs.getD (own_lf cs j) 0 = 10 := by
                rcases a4 with q | ⟨q1, q2⟩
                · omega
                · exact q2
              refine Own.icmp_eq H (pc := 94) 103 d1_94 (by decide) (by decide) (fun _ => ?_) (fun hX => absurd hx hX)
              exact k103
          | succ k2 ih2 =>
            intro i hi hs
            have hI : (Int32.ofNat i).toInt = ((i : Nat) : Int) := own_ofNat (by omega)
            refine Own.iload H (pc := 81) d1_81 rfl ?_
            refine Own.aload_n H (pc := 83) d1_83 rfl rfl ?_
            refine Own.arraylength H (pc := 84) (Int32.ofNat cs.length) d1_84 A (by rw [List.length_map]; exact hN) ?_
            refine Own.icmp_ge H (pc := 85) 103 d1_85 (by decide) (by decide) (fun hX => absurd (by rw [own_lt]; omega) hX) (fun _ => ?_)
            refine Own.aload_n H (pc := 88) d1_88 rfl rfl ?_
            refine Own.iload H (pc := 89) d1_89 rfl ?_
            refine Own.baload H (pc := 91) (v := (cs.getD i 0)) i d1_91 A hI (own_map (i := i) (by omega)) ?_
            refine Own.bipush H (pc := 92) (10) d1_92 rfl ?_
            refine Own.icmp_eq H (pc := 94) 103 d1_94 (by decide) (by decide) (fun hX => absurd hX (a3 i hs (by omega))) (fun _ => ?_)
            refine Own.iinc H (pc := 97) (1) #[.val (.ref b), .val (.int (Int32.ofNat (own_ln cs))), .val (.ref sA), .val (.ref eA), .val (.int (Int32.ofNat (own_st cs j))), .val (.int (Int32.ofNat j)), .val (.int ((Int32.ofNat i) + (1 : Int32))), o7] d1_97 rfl rfl rfl ?_
            refine Own.goto H (pc := 100) 81 d1_100 (by decide) (by decide) ?_
            rw [own_one i]
            exact ih2 (i + 1) (by omega) (by omega)
        exact inner (own_lf cs j - own_st cs j) (own_st cs j) (by omega) (Nat.le_refl _)
    exact outer (own_ln cs) 0 _ _ .unset .unset _ _ (by omega) (H_100.mono (by decide) (by decide)) A_b E_b S_b (by rw [List.length_replicate]) (fun t ht => absurd ht (by omega)) Ary_eA (by rw [List.length_replicate]) (fun t ht => absurd ht (by omega)) (Or.inl rfl) (Or.inl rfl)
  have k38 : ∀ (o5 : Slot), (o5 = Slot.unset ∨ ∃ x : Int32, o5 = .val (.int x)) → OEnds p e below s n0 (fun v h => ∃ d sA eA : Nat, v = some (.ref d) ∧ Fld Z h d "com/example/herder/herder/Dictionary" "content" "[B" (.ref b) ∧ Fld Z h d "com/example/herder/herder/Dictionary" "starts" "[I" (.ref sA) ∧ Fld Z h d "com/example/herder/herder/Dictionary" "ends" "[I" (.ref eA) ∧ OAry Z h sA .int ((List.range (own_ln cs)).map fun t => Value.int (Int32.ofNat (own_st cs t))) ∧ OAry Z h eA .int ((List.range (own_ln cs)).map fun t => Value.int (Int32.ofNat (own_en cs t))) ∧ OAry Z h b .byte (cs.map Value.int) ∧ Exa Z h b "[B" ∧ Exa Z h d "com/example/herder/herder/Dictionary") ({ frames := 2, cells := 3, slots := 11, locals := 30 } : Room).cells ({ frames := 2, cells := 3, slots := 11, locals := 30 } : Room).slots T (mkF m 38 #[.val (.ref b), .val (.int (Int32.ofNat (own_cn cs cs.length))), .val (.ref b), .val (.int (Int32.ofNat cs.length)), .val (.int (Int32.ofNat cs.length)), o5, .unset, .unset] []) := by
    intro o5 h_o5
    refine Own.aload_n H (pc := 38) d1_38 rfl rfl ?_
    refine Own.arraylength H (pc := 39) (Int32.ofNat cs.length) d1_39 A (by rw [List.length_map]; exact hN) ?_
    refine Own.if_le H (pc := 40) 57 d1_40 (by decide) (by decide) (fun hn => ?_) (fun hn => ?_)
    · replace hn : ¬ 0 < ((Int32.ofNat cs.length)).toInt := fun q => hn (own_lt.mpr q)
      have e1 : own_ln cs = own_cn cs cs.length := own_ln0 (by omega)
      rw [← e1]
      exact k57 o5 h_o5
    · replace hn : 0 < ((Int32.ofNat cs.length)).toInt := own_lt.mp hn
      refine Own.aload_n H (pc := 43) d1_43 rfl rfl ?_
      refine Own.aload_n H (pc := 44) d1_44 rfl rfl ?_
      refine Own.arraylength H (pc := 45) (Int32.ofNat cs.length) d1_45 A (by rw [List.length_map]; exact hN) ?_
      refine Own.iconst H (pc := 46) (1) d1_46 rfl ?_
      refine Own.isub H (pc := 47) d1_47 ?_
      refine Own.baload H (pc := 48) (v := (cs.getD (cs.length - 1) 0)) (cs.length - 1) d1_48 A (by rw [own_sub1 (by omega) (by omega)]; exact own_ofNat (by omega)) (own_map (i := cs.length - 1) (by omega)) ?_
      refine Own.bipush H (pc := 49) (10) d1_49 rfl ?_
      refine Own.icmp_eq H (pc := 51) 57 d1_51 (by decide) (by decide) (fun hx => ?_) (fun hx => ?_)
      · have e1 : own_ln cs = own_cn cs cs.length := own_lnN (Nat.le_refl _) (by omega) hx
        rw [← e1]
        exact k57 o5 h_o5
      · have e1 : own_ln cs = own_cn cs cs.length + 1 := own_lnY (Nat.le_refl _) (by omega) hx
        refine Own.iinc H (pc := 54) (1) #[.val (.ref b), .val (.int ((Int32.ofNat (own_cn cs cs.length)) + (1 : Int32))), .val (.ref b), .val (.int (Int32.ofNat cs.length)), .val (.int (Int32.ofNat cs.length)), o5, .unset, .unset] d1_54 rfl rfl rfl ?_
        rw [own_one, ← e1]
        exact k57 o5 h_o5
  have loop : ∀ (k i : Nat) (o5 : Slot), i + k = cs.length → (o5 = Slot.unset ∨ ∃ x : Int32, o5 = .val (.int x)) → OEnds p e below s n0 (fun v h => ∃ d sA eA : Nat, v = some (.ref d) ∧ Fld Z h d "com/example/herder/herder/Dictionary" "content" "[B" (.ref b) ∧ Fld Z h d "com/example/herder/herder/Dictionary" "starts" "[I" (.ref sA) ∧ Fld Z h d "com/example/herder/herder/Dictionary" "ends" "[I" (.ref eA) ∧ OAry Z h sA .int ((List.range (own_ln cs)).map fun t => Value.int (Int32.ofNat (own_st cs t))) ∧ OAry Z h eA .int ((List.range (own_ln cs)).map fun t => Value.int (Int32.ofNat (own_en cs t))) ∧ OAry Z h b .byte (cs.map Value.int) ∧ Exa Z h b "[B" ∧ Exa Z h d "com/example/herder/herder/Dictionary") ({ frames := 2, cells := 3, slots := 11, locals := 30 } : Room).cells ({ frames := 2, cells := 3, slots := 11, locals := 30 } : Room).slots T (mkF m 10 #[.val (.ref b), .val (.int (Int32.ofNat (own_cn cs i))), .val (.ref b), .val (.int (Int32.ofNat cs.length)), .val (.int (Int32.ofNat i)), o5, .unset, .unset] []) := by
    intro k
    induction k with
    | zero =>
      intro i o5 hi h_o5
      obtain rfl : i = cs.length := by omega
      refine Own.iload H (pc := 10) d1_10 rfl ?_
      refine Own.iload_n H (pc := 12) d1_12 rfl ?_
      refine Own.icmp_ge H (pc := 13) 38 d1_13 (by decide) (by decide) (fun _ => ?_) (fun hX => absurd hX (by rw [own_lt]; omega))
      exact k38 o5 h_o5
    | succ k ih =>
      intro i o5 hi h_o5
      have hI : (Int32.ofNat i).toInt = ((i : Nat) : Int) := own_ofNat (by omega)
      refine Own.iload H (pc := 10) d1_10 rfl ?_
      refine Own.iload_n H (pc := 12) d1_12 rfl ?_
      refine Own.icmp_ge H (pc := 13) 38 d1_13 (by decide) (by decide) (fun hX => absurd (by rw [own_lt]; omega) hX) (fun _ => ?_)
      refine Own.aload_n H (pc := 16) d1_16 rfl rfl ?_
      refine Own.iload H (pc := 17) d1_17 rfl ?_
      refine Own.baload H (pc := 19) (v := (cs.getD i 0)) i d1_19 A hI (own_map (i := i) (by omega)) ?_
      refine Own.istore H (pc := 20) #[.val (.ref b), .val (.int (Int32.ofNat (own_cn cs i))), .val (.ref b), .val (.int (Int32.ofNat cs.length)), .val (.int (Int32.ofNat i)), .val (.int (cs.getD i 0)), .unset, .unset] d1_20 (by rcases h_o5 with q | ⟨x, q⟩ <;> subst q <;> rfl) ?_
      refine Own.iload H (pc := 22) d1_22 rfl ?_
      refine Own.bipush H (pc := 24) (10) d1_24 rfl ?_
      refine Own.icmp_ne H (pc := 26) 32 d1_26 (by decide) (by decide) (fun hx => ?_) (fun hx => ?_)
      · have e1 : own_cn cs (i + 1) = own_cn cs i := own_cnN (by omega) hx
        refine Own.iinc H (pc := 32) (1) #[.val (.ref b), .val (.int (Int32.ofNat (own_cn cs i))), .val (.ref b), .val (.int (Int32.ofNat cs.length)), .val (.int ((Int32.ofNat i) + (1 : Int32))), .val (.int (cs.getD i 0)), .unset, .unset] d1_32 rfl rfl rfl ?_
        refine Own.goto H (pc := 35) 10 d1_35 (by decide) (by decide) ?_
        rw [own_one i, ← e1]
        exact ih (i + 1) _ (by omega) (Or.inr ⟨_, rfl⟩)
      · have e1 : own_cn cs (i + 1) = own_cn cs i + 1 := own_cnY (by omega) hx
        refine Own.iinc H (pc := 29) (1) #[.val (.ref b), .val (.int ((Int32.ofNat (own_cn cs i)) + (1 : Int32))), .val (.ref b), .val (.int (Int32.ofNat cs.length)), .val (.int (Int32.ofNat i)), .val (.int (cs.getD i 0)), .unset, .unset] d1_29 rfl rfl rfl ?_
        refine Own.iinc H (pc := 32) (1) #[.val (.ref b), .val (.int ((Int32.ofNat (own_cn cs i)) + (1 : Int32))), .val (.ref b), .val (.int (Int32.ofNat cs.length)), .val (.int ((Int32.ofNat i) + (1 : Int32))), .val (.int (cs.getD i 0)), .unset, .unset] d1_32 rfl rfl rfl ?_
        refine Own.goto H (pc := 35) 10 d1_35 (by decide) (by decide) ?_
        rw [own_one (own_cn cs i), own_one i, ← e1]
        exact ih (i + 1) _ (by omega) (Or.inr ⟨_, rfl⟩)
  exact loop cs.length 0 .unset (by omega) (Or.inl rfl)
theorem pn_rm_law : plainFor x = true := by first | exact plainFor_of_name (by first | (simp [plainName, overriddenIn]; done) | decide +kernel) | decide +kernel
theorem ef_rm_law (p0 : Int32) (p1 : Int32) (p2 : Int32) (p3 : Int32) (p4 : Int32) (m : MethodId) : entryFrame m #[(.int p0), (.int p1), (.int p2), (.int p3), (.int p4)] maxLocals = mkF m 0 #[.val (.int p0), .val (.int p1), .val (.int p2), .val (.int p3), .val (.int p4), .unset, .unset, .unset, .unset, .unset, .unset] [] := by first | (simp [entryFrame, mkF, argsToLocals, Value.category, maxLocals]; done) | rfl
set_option maxRecDepth 65536 in
set_option maxHeartbeats 40000000 in
theorem rm_law (l : Launch) (Z : State) (a0 : Array Value) (hw : ∀ d ∈ tables_1, d.before a0 Z = true) (p0 : Int32) (p1 : Int32) (p2 : Int32) (p3 : Int32) (p4 : Int32) (h0 : Heap) (n0 : Nat) (Z0 : n0 ≤ h0.size)  :
    OMet l Z n0 x code maxLocals ret room_1 #[(.int p0), (.int p1), (.int p2), (.int p3), (.int p4)] h0 (fun v h => v = some (.int 1)) := by
  refine OMet.of pn_rm_law Z0 (ef_rm_law p0 p1 p2 p3 p4) ?_
  intro p e s m below meth c T H
  refine Own.iload_n H (pc := 0) at_0 rfl ?_
  refine Own.ldc H (pc := 1) at_1 (hw _ (List.mem_of_getElem? (i := 0) rfl)) ?_
  refine Own.iand H (pc := 3) at_3 ?_
  refine Own.iconst H (pc := 4) (5) at_4 rfl ?_
  refine Own.irem H (pc := 5) at_5 (by decide) ?_
  generalize ez : ((p0 &&& (2147483647 : Int32)) % (5 : Int32)) = z
  have hz5 : 0 ≤ z.toInt ∧ z.toInt < 5 := by
    rw [← ez]
    exact own_rem p0 5 (by decide)
  clear ez
  obtain ⟨nn, hz⟩ : ∃ nn : Nat, z.toInt = (nn : Int) := ⟨z.toInt.toNat, by omega⟩
  have h4 : nn ≤ 4 := by omega
  refine Own.istore H (pc := 6) #[.val (.int p0), .val (.int p1), .val (.int p2), .val (.int p3), .val (.int p4), .val (.int z), .unset, .unset, .unset, .unset, .unset] at_6 rfl ?_
  refine Own.iload H (pc := 8) at_8 rfl ?_
  refine Own.newarrayE H (pc := 10) (i := nn) (ad := "[B") 4 at_10 (hw _ (List.mem_of_getElem? (i := 1) rfl)) hz (by decide) (by decide) h4 (by decide) (by decide) (by decide) (fun T_153 h_154 b eq_b ge_b H_152 Ext_b Ary_b Exa_b => ?_)
  refine Own.astore H_152 (pc := 12) #[.val (.int p0), .val (.int p1), .val (.int p2), .val (.int p3), .val (.int p4), .val (.int z), .val (.ref b), .unset, .unset, .unset, .unset] at_12 rfl rfl ?_
  have tail : ∀ (cs : List Int32) (T : State) (h : Heap), cs.length = nn → OHr p l e room_1 s m #[(.int p0), (.int p1), (.int p2), (.int p3), (.int p4)] below meth c Z n0 x.cls x.name code maxLocals ret T h 1 4 → OAry Z h b .byte (cs.map Value.int) → Exa Z h b "[B" → OEnds p e below s n0 (fun v h => v = some (.int 1)) room_1.cells room_1.slots T (mkF m 70 #[.val (.int p0), .val (.int p1), .val (.int p2), .val (.int p3), .val (.int p4), .val (.int z), .val (.ref b), .unset, .unset, .unset, .unset] []) := by
    intro cs T h hcl H A E
    have hc : cs.length ≤ 4 := by omega
    have hzc : z.toInt = (cs.length : Int) := by omega
    have h4l := own_lines hc
    refine Own.aload H (pc := 70) at_70 rfl rfl ?_
    refine Own.callS H (pc := 72) (y := (⟨"com/example/herder/herder/Dictionary", "of", "([B)Lcom/example/herder/herder/Dictionary;"⟩ : MethodName)) [(.ref b)] [] at_72 (hw _ (List.mem_of_getElem? (i := 2) rfl)) (hw _ (List.mem_of_getElem? (i := 3) rfl)) (hw _ (List.mem_of_getElem? (i := 4) rfl)) (hw _ (List.mem_of_getElem? (i := 5) rfl)) (by decide) (rm_of l Z a0 hw b _ n0 H.z0 cs hc A E) (r := (some (.object "com/example/herder/herder/Dictionary"))) (ps := [(.array .byte)]) (by decide) rfl rfl 0 rfl (by decide) (by decide) (by decide) (by decide) rfl (fun T_156 v_158 h_157 H_155 z_159 q_160 => ?_)
    obtain ⟨d, sA, eA, rfl, dd⟩ := q_160
    show OEnds _ _ _ _ _ _ _ _ _ (mkF _ 75 #[.val (.int p0), .val (.int p1), .val (.int p2), .val (.int p3), .val (.int p4), .val (.int z), .val (.ref b), .unset, .unset, .unset, .unset] [(.ref d)])
    have dd' := dd
    obtain ⟨F1, F2, F3, A1, A2, B, EB, ED⟩ := dd'
    refine Own.astore H_155 (pc := 75) #[.val (.int p0), .val (.int p1), .val (.int p2), .val (.int p3), .val (.int p4), .val (.int z), .val (.ref b), .val (.ref d), .unset, .unset, .unset] at_75 rfl rfl ?_
    refine Own.iconst H_155 (pc := 77) (0) at_77 rfl ?_
    refine Own.istore H_155 (pc := 78) #[.val (.int p0), .val (.int p1), .val (.int p2), .val (.int p3), .val (.int p4), .val (.int z), .val (.ref b), .val (.ref d), .val (.int (0 : Int32)), .unset, .unset] at_78 rfl ?_
    have k178 : ∀ (u8 : Int32) (T : State), OHr p l e room_1 s m #[(.int p0), (.int p1), (.int p2), (.int p3), (.int p4)] below meth c Z n0 x.cls x.name code maxLocals ret T h_157 4 15 → OEnds p e below s n0 (fun v h => v = some (.int 1)) room_1.cells room_1.slots T (mkF m 178 #[.val (.int p0), .val (.int p1), .val (.int p2), .val (.int p3), .val (.int p4), .val (.int z), .val (.ref b), .val (.ref d), .val (.int u8), .val (.int (Int32.ofNat (own_ln cs))), .unset] []) := by
      intro u8 T H
      refine Own.aload H (pc := 178) at_178 rfl rfl ?_
      refine Own.callV H (pc := 180) (y := (⟨"com/example/herder/herder/Dictionary", "size", "()I"⟩ : MethodName)) (z := (⟨"com/example/herder/herder/Dictionary", "size", "()I"⟩ : MethodName)) (CC := "com/example/herder/herder/Dictionary") d [] [] at_180 (hw _ (List.mem_of_getElem? (i := 21) rfl)) (hw _ (List.mem_of_getElem? (i := 22) rfl)) (H.nf (hw _ (List.mem_of_getElem? (i := 24) rfl))) (hw _ (List.mem_of_getElem? (i := 24) rfl)) (hw _ (List.mem_of_getElem? (i := 23) rfl)) (hw _ (List.mem_of_getElem? (i := 4) rfl)) (hw _ (List.mem_of_getElem? (i := 25) rfl)) (by decide) ED (rm_size l Z a0 hw d _ n0 H.z0 sA (own_ln cs) _ F2 A1 (by simp) h4l) (r := (some .int)) (ps := []) (by decide) rfl rfl 0 rfl (by decide) (by decide) (by decide) (by decide) rfl (fun T_162 v_164 h_163 H_161 z_165 q_166 => ?_)
      obtain ⟨rfl, rfl⟩ := q_166
      show OEnds _ _ _ _ _ _ _ _ _ (mkF _ 183 #[.val (.int p0), .val (.int p1), .val (.int p2), .val (.int p3), .val (.int p4), .val (.int z), .val (.ref b), .val (.ref d), .val (.int u8), .val (.int (Int32.ofNat (own_ln cs))), .unset] [(.int (Int32.ofNat (own_ln cs)))])
      refine Own.iload H_161 (pc := 183) at_183 rfl ?_
      refine Own.icmp_eq H_161 (pc := 185) 190 at_185 (by decide) (by decide) (fun _ => ?_) (fun hX => absurd rfl hX)
      have hln : (Int32.ofNat (own_ln cs)).toInt = ((own_ln cs : Nat) : Int) := own_ofNat (by omega)
      refine Own.iconst H_161 (pc := 190) (1) at_190 rfl ?_
      refine Own.istore H_161 (pc := 191) #[.val (.int p0), .val (.int p1), .val (.int p2), .val (.int p3), .val (.int p4), .val (.int z), .val (.ref b), .val (.ref d), .val (.int u8), .val (.int (Int32.ofNat (own_ln cs))), .val (.int (1 : Int32))] at_191 rfl ?_
      refine Own.iload H_161 (pc := 193) at_193 rfl ?_
      refine Own.if_le H_161 (pc := 195) 223 at_195 (by decide) (by decide) (fun hl0 => ?_) (fun hl0 => ?_)
      · replace hl0 : ¬ 0 < ((Int32.ofNat (own_ln cs))).toInt := fun q => hl0 (own_lt.mpr q)
        refine Own.iload H_161 (pc := 223) at_223 rfl ?_
        refine Own.iconst H_161 (pc := 225) (1) at_225 rfl ?_
        refine Own.icmp_le H_161 (pc := 226) 254 at_226 (by decide) (by decide) (fun _ => ?_) (fun hX => absurd hX (fun q => absurd (own_lt.mp q) (show ¬ (1 : Int) < (Int32.ofNat (own_ln cs)).toInt by omega)))
        refine Own.iload H_161 (pc := 254) at_254 rfl ?_
        refine Own.iconst H_161 (pc := 256) (2) at_256 rfl ?_
        refine Own.icmp_le H_161 (pc := 257) 285 at_257 (by decide) (by decide) (fun _ => ?_) (fun hX => absurd hX (fun q => absurd (own_lt.mp q) (show ¬ (2 : Int) < (Int32.ofNat (own_ln cs)).toInt by omega)))
        refine Own.iload H_161 (pc := 285) at_285 rfl ?_
        refine Own.iconst H_161 (pc := 287) (3) at_287 rfl ?_
        refine Own.icmp_le H_161 (pc := 288) 316 at_288 (by decide) (by decide) (fun _ => ?_) (fun hX => absurd hX (fun q => absurd (own_lt.mp q) (show ¬ (3 : Int) < (Int32.ofNat (own_ln cs)).toInt by omega)))
        refine Own.iload H_161 (pc := 316) at_316 rfl ?_
        exact Own.ret_nar H_161 (pc := 318) (1) at_318 rfl (by simp) (by decide) (by decide) (by decide) (rfl)
      · replace hl0 : 0 < ((Int32.ofNat (own_ln cs))).toInt := own_lt.mp hl0
        refine Own.iload H_161 (pc := 198) at_198 rfl ?_
        refine Own.if_eq H_161 (pc := 200) 220 at_200 (by decide) (by decide) (fun hc => absurd hc (by decide)) (fun _ => ?_)
        refine Own.aload H_161 (pc := 203) at_203 rfl rfl ?_
        refine Own.aload H_161 (pc := 205) at_205 rfl rfl ?_
        refine Own.iload H_161 (pc := 207) at_207 rfl ?_
        refine Own.iconst H_161 (pc := 209) (0) at_209 rfl ?_
        refine Own.callS H_161 (pc := 210) (y := (⟨"com/example/herder/herder/DictionaryOfPinLaw", "lineOk", "(Lcom/example/herder/herder/Dictionary;[BII)Z"⟩ : MethodName)) [(.ref d), (.ref b), (.int z), (.int (0 : Int32))] [] at_210 (hw _ (List.mem_of_getElem? (i := 30) rfl)) (hw _ (List.mem_of_getElem? (i := 31) rfl)) (hw _ (List.mem_of_getElem? (i := 28) rfl)) (hw _ (List.mem_of_getElem? (i := 32) rfl)) (by decide) (rm_lok l Z a0 hw d b z (0 : Int32) _ n0 H_161.z0 sA eA cs hc dd hzc 0 rfl (by omega)) (r := (some .boolean)) (ps := [(.object "com/example/herder/herder/Dictionary"), (.array .byte), .int, .int]) (by decide) rfl rfl 0 rfl (by decide) (by decide) (by decide) (by decide) rfl (fun T_168 v_170 h_169 H_167 z_171 q_172 => ?_)
        obtain ⟨rfl, KL0⟩ := q_172
        show OEnds _ _ _ _ _ _ _ _ _ (mkF _ 213 #[.val (.int p0), .val (.int p1), .val (.int p2), .val (.int p3), .val (.int p4), .val (.int z), .val (.ref b), .val (.ref d), .val (.int u8), .val (.int (Int32.ofNat (own_ln cs))), .val (.int (1 : Int32))] [(.int (1 : Int32))])
        have dd0 := own_dd dd KL0
        refine Own.if_eq H_167 (pc := 213) 220 at_213 (by decide) (by decide) (fun hc => absurd hc (by decide)) (fun _ => ?_)
        refine Own.iconst H_167 (pc := 216) (1) at_216 rfl ?_
        refine Own.goto H_167 (pc := 217) 221 at_217 (by decide) (by decide) ?_
        refine Own.istore H_167 (pc := 221) #[.val (.int p0), .val (.int p1), .val (.int p2), .val (.int p3), .val (.int p4), .val (.int z), .val (.ref b), .val (.ref d), .val (.int u8), .val (.int (Int32.ofNat (own_ln cs))), .val (.int (1 : Int32))] at_221 rfl ?_
        refine Own.iload H_167 (pc := 223) at_223 rfl ?_
        refine Own.iconst H_167 (pc := 225) (1) at_225 rfl ?_
        refine Own.icmp_le H_167 (pc := 226) 254 at_226 (by decide) (by decide) (fun hl1 => ?_) (fun hl1 => ?_)
        · replace hl1 : ¬ 1 < ((Int32.ofNat (own_ln cs))).toInt := fun q => hl1 (own_lt.mpr q)
          refine Own.iload H_167 (pc := 254) at_254 rfl ?_
          refine Own.iconst H_167 (pc := 256) (2) at_256 rfl ?_
          refine Own.icmp_le H_167 (pc := 257) 285 at_257 (by decide) (by decide) (fun _ => ?_) (fun hX => absurd hX (fun q => absurd (own_lt.mp q) (show ¬ (2 : Int) < (Int32.ofNat (own_ln cs)).toInt by omega)))
          refine Own.iload H_167 (pc := 285) at_285 rfl ?_
          refine Own.iconst H_167 (pc := 287) (3) at_287 rfl ?_
          refine Own.icmp_le H_167 (pc := 288) 316 at_288 (by decide) (by decide) (fun _ => ?_) (fun hX => absurd hX (fun q => absurd (own_lt.mp q) (show ¬ (3 : Int) < (Int32.ofNat (own_ln cs)).toInt by omega)))
          refine Own.iload H_167 (pc := 316) at_316 rfl ?_
          exact Own.ret_nar H_167 (pc := 318) (1) at_318 rfl (by simp) (by decide) (by decide) (by decide) (rfl)
        · replace hl1 : 1 < ((Int32.ofNat (own_ln cs))).toInt := own_lt.mp hl1
          refine Own.iload H_167 (pc := 229) at_229 rfl ?_
          refine Own.if_eq H_167 (pc := 231) 251 at_231 (by decide) (by decide) (fun hc => absurd hc (by decide)) (fun _ => ?_)
          refine Own.aload H_167 (pc := 234) at_234 rfl rfl ?_
          refine Own.aload H_167 (pc := 236) at_236 rfl rfl ?_
          refine Own.iload H_167 (pc := 238) at_238 rfl ?_
          refine Own.iconst H_167 (pc := 240) (1) at_240 rfl ?_
          refine Own.callS H_167 (pc := 241) (y := (⟨"com/example/herder/herder/DictionaryOfPinLaw", "lineOk", "(Lcom/example/herder/herder/Dictionary;[BII)Z"⟩ : MethodName)) [(.ref d), (.ref b), (.int z), (.int (1 : Int32))] [] at_241 (hw _ (List.mem_of_getElem? (i := 30) rfl)) (hw _ (List.mem_of_getElem? (i := 31) rfl)) (hw _ (List.mem_of_getElem? (i := 28) rfl)) (hw _ (List.mem_of_getElem? (i := 32) rfl)) (by decide) (rm_lok l Z a0 hw d b z (1 : Int32) _ n0 H_167.z0 sA eA cs hc dd0 hzc 1 rfl (by omega)) (r := (some .boolean)) (ps := [(.object "com/example/herder/herder/Dictionary"), (.array .byte), .int, .int]) (by decide) rfl rfl 0 rfl (by decide) (by decide) (by decide) (by decide) rfl (fun T_174 v_176 h_175 H_173 z_177 q_178 => ?_)
          obtain ⟨rfl, KL1⟩ := q_178
          show OEnds _ _ _ _ _ _ _ _ _ (mkF _ 244 #[.val (.int p0), .val (.int p1), .val (.int p2), .val (.int p3), .val (.int p4), .val (.int z), .val (.ref b), .val (.ref d), .val (.int u8), .val (.int (Int32.ofNat (own_ln cs))), .val (.int (1 : Int32))] [(.int (1 : Int32))])
          have dd1 := own_dd dd0 KL1
          refine Own.if_eq H_173 (pc := 244) 251 at_244 (by decide) (by decide) (fun hc => absurd hc (by decide)) (fun _ => ?_)
          refine Own.iconst H_173 (pc := 247) (1) at_247 rfl ?_
          refine Own.goto H_173 (pc := 248) 252 at_248 (by decide) (by decide) ?_
          refine Own.istore H_173 (pc := 252) #[.val (.int p0), .val (.int p1), .val (.int p2), .val (.int p3), .val (.int p4), .val (.int z), .val (.ref b), .val (.ref d), .val (.int u8), .val (.int (Int32.ofNat (own_ln cs))), .val (.int (1 : Int32))] at_252 rfl ?_
          refine Own.iload H_173 (pc := 254) at_254 rfl ?_
          refine Own.iconst H_173 (pc := 256) (2) at_256 rfl ?_
          refine Own.icmp_le H_173 (pc := 257) 285 at_257 (by decide) (by decide) (fun hl2 => ?_) (fun hl2 => ?_)
          · replace hl2 : ¬ 2 < ((Int32.ofNat (own_ln cs))).toInt := fun q => hl2 (own_lt.mpr q)
            refine Own.iload H_173 (pc := 285) at_285 rfl ?_
            refine Own.iconst H_173 (pc := 287) (3) at_287 rfl ?_
            refine Own.icmp_le H_173 (pc := 288) 316 at_288 (by decide) (by decide) (fun _ => ?_) (fun hX => absurd hX (fun q => absurd (own_lt.mp q) (show ¬ (3 : Int) < (Int32.ofNat (own_ln cs)).toInt by omega)))
            refine Own.iload H_173 (pc := 316) at_316 rfl ?_
            exact Own.ret_nar H_173 (pc := 318) (1) at_318 rfl (by simp) (by decide) (by decide) (by decide) (rfl)
          · replace hl2 : 2 < ((Int32.ofNat (own_ln cs))).toInt := own_lt.mp hl2
            refine Own.iload H_173 (pc := 260) at_260 rfl ?_
            refine Own.if_eq H_173 (pc := 262) 282 at_262 (by decide) (by decide) (fun hc => absurd hc (by decide)) (fun _ => ?_)
            refine Own.aload H_173 (pc := 265) at_265 rfl rfl ?_
            refine Own.aload H_173 (pc := 267) at_267 rfl rfl ?_
            refine Own.iload H_173 (pc := 269) at_269 rfl ?_
            refine Own.iconst H_173 (pc := 271) (2) at_271 rfl ?_
            refine Own.callS H_173 (pc := 272) (y := (⟨"com/example/herder/herder/DictionaryOfPinLaw", "lineOk", "(Lcom/example/herder/herder/Dictionary;[BII)Z"⟩ : MethodName)) [(.ref d), (.ref b), (.int z), (.int (2 : Int32))] [] at_272 (hw _ (List.mem_of_getElem? (i := 30) rfl)) (hw _ (List.mem_of_getElem? (i := 31) rfl)) (hw _ (List.mem_of_getElem? (i := 28) rfl)) (hw _ (List.mem_of_getElem? (i := 32) rfl)) (by decide) (rm_lok l Z a0 hw d b z (2 : Int32) _ n0 H_173.z0 sA eA cs hc dd1 hzc 2 rfl (by omega)) (r := (some .boolean)) (ps := [(.object "com/example/herder/herder/Dictionary"), (.array .byte), .int, .int]) (by decide) rfl rfl 0 rfl (by decide) (by decide) (by decide) (by decide) rfl (fun T_180 v_182 h_181 H_179 z_183 q_184 => ?_)
            obtain ⟨rfl, KL2⟩ := q_184
            show OEnds _ _ _ _ _ _ _ _ _ (mkF _ 275 #[.val (.int p0), .val (.int p1), .val (.int p2), .val (.int p3), .val (.int p4), .val (.int z), .val (.ref b), .val (.ref d), .val (.int u8), .val (.int (Int32.ofNat (own_ln cs))), .val (.int (1 : Int32))] [(.int (1 : Int32))])
            have dd2 := own_dd dd1 KL2
            refine Own.if_eq H_179 (pc := 275) 282 at_275 (by decide) (by decide) (fun hc => absurd hc (by decide)) (fun _ => ?_)
            refine Own.iconst H_179 (pc := 278) (1) at_278 rfl ?_
            refine Own.goto H_179 (pc := 279) 283 at_279 (by decide) (by decide) ?_
            refine Own.istore H_179 (pc := 283) #[.val (.int p0), .val (.int p1), .val (.int p2), .val (.int p3), .val (.int p4), .val (.int z), .val (.ref b), .val (.ref d), .val (.int u8), .val (.int (Int32.ofNat (own_ln cs))), .val (.int (1 : Int32))] at_283 rfl ?_
            refine Own.iload H_179 (pc := 285) at_285 rfl ?_
            refine Own.iconst H_179 (pc := 287) (3) at_287 rfl ?_
            refine Own.icmp_le H_179 (pc := 288) 316 at_288 (by decide) (by decide) (fun hl3 => ?_) (fun hl3 => ?_)
            · replace hl3 : ¬ 3 < ((Int32.ofNat (own_ln cs))).toInt := fun q => hl3 (own_lt.mpr q)
              refine Own.iload H_179 (pc := 316) at_316 rfl ?_
              exact Own.ret_nar H_179 (pc := 318) (1) at_318 rfl (by simp) (by decide) (by decide) (by decide) (rfl)
            · replace hl3 : 3 < ((Int32.ofNat (own_ln cs))).toInt := own_lt.mp hl3
              refine Own.iload H_179 (pc := 291) at_291 rfl ?_
              refine Own.if_eq H_179 (pc := 293) 313 at_293 (by decide) (by decide) (fun hc => absurd hc (by decide)) (fun _ => ?_)
              refine Own.aload H_179 (pc := 296) at_296 rfl rfl ?_
              refine Own.aload H_179 (pc := 298) at_298 rfl rfl ?_
              refine Own.iload H_179 (pc := 300) at_300 rfl ?_
              refine Own.iconst H_179 (pc := 302) (3) at_302 rfl ?_
              refine Own.callS H_179 (pc := 303) (y := (⟨"com/example/herder/herder/DictionaryOfPinLaw", "lineOk", "(Lcom/example/herder/herder/Dictionary;[BII)Z"⟩ : MethodName)) [(.ref d), (.ref b), (.int z), (.int (3 : Int32))] [] at_303 (hw _ (List.mem_of_getElem? (i := 30) rfl)) (hw _ (List.mem_of_getElem? (i := 31) rfl)) (hw _ (List.mem_of_getElem? (i := 28) rfl)) (hw _ (List.mem_of_getElem? (i := 32) rfl)) (by decide) (rm_lok l Z a0 hw d b z (3 : Int32) _ n0 H_179.z0 sA eA cs hc dd2 hzc 3 rfl (by omega)) (r := (some .boolean)) (ps := [(.object "com/example/herder/herder/Dictionary"), (.array .byte), .int, .int]) (by decide) rfl rfl 0 rfl (by decide) (by decide) (by decide) (by decide) rfl (fun T_186 v_188 h_187 H_185 z_189 q_190 => ?_)
              obtain ⟨rfl, KL3⟩ := q_190
              show OEnds _ _ _ _ _ _ _ _ _ (mkF _ 306 #[.val (.int p0), .val (.int p1), .val (.int p2), .val (.int p3), .val (.int p4), .val (.int z), .val (.ref b), .val (.ref d), .val (.int u8), .val (.int (Int32.ofNat (own_ln cs))), .val (.int (1 : Int32))] [(.int (1 : Int32))])
              have dd3 := own_dd dd2 KL3
              refine Own.if_eq H_185 (pc := 306) 313 at_306 (by decide) (by decide) (fun hc => absurd hc (by decide)) (fun _ => ?_)
              refine Own.iconst H_185 (pc := 309) (1) at_309 rfl ?_
              refine Own.goto H_185 (pc := 310) 314 at_310 (by decide) (by decide) ?_
              refine Own.istore H_185 (pc := 314) #[.val (.int p0), .val (.int p1), .val (.int p2), .val (.int p3), .val (.int p4), .val (.int z), .val (.ref b), .val (.ref d), .val (.int u8), .val (.int (Int32.ofNat (own_ln cs))), .val (.int (1 : Int32))] at_314 rfl ?_
              refine Own.iload H_185 (pc := 316) at_316 rfl ?_
              exact Own.ret_nar H_185 (pc := 318) (1) at_318 rfl (by simp) (by decide) (by decide) (by decide) (rfl)
    have k4 : ∀ (T : State), OHr p l e room_1 s m #[(.int p0), (.int p1), (.int p2), (.int p3), (.int p4)] below meth c Z n0 x.cls x.name code maxLocals ret T h_157 4 15 → OEnds p e below s n0 (fun v h => v = some (.int 1)) room_1.cells room_1.slots T (mkF m 151 #[.val (.int p0), .val (.int p1), .val (.int p2), .val (.int p3), .val (.int p4), .val (.int z), .val (.ref b), .val (.ref d), .val (.int (Int32.ofNat (own_cn cs 4))), .unset, .unset] []) := by
      intro T H
      refine Own.iload H (pc := 151) at_151 rfl ?_
      refine Own.iload H (pc := 153) at_153 rfl ?_
      refine Own.if_le H (pc := 155) 174 at_155 (by decide) (by decide) (fun hn => ?_) (fun hn => ?_)
      · replace hn : ¬ 0 < (z).toInt := fun q => hn (own_lt.mpr q)
        have e1 : own_ln cs = own_cn cs 4 := own_ln0 (by omega)
        refine Own.iconst H (pc := 174) (0) at_174 rfl ?_
        refine Own.iadd H (pc := 175) at_175 ?_
        refine Own.istore H (pc := 176) #[.val (.int p0), .val (.int p1), .val (.int p2), .val (.int p3), .val (.int p4), .val (.int z), .val (.ref b), .val (.ref d), .val (.int (Int32.ofNat (own_cn cs 4))), .val (.int ((Int32.ofNat (own_cn cs 4)) + (0 : Int32))), .unset] at_176 rfl ?_
        have e2 : Int32.ofNat (own_cn cs 4) + (0 : Int32) = Int32.ofNat (own_ln cs) := by rw [Int32.add_zero, ← e1]
        rw [e2]
        exact k178 _ _ H
      · replace hn : 0 < (z).toInt := own_lt.mp hn
        refine Own.aload H (pc := 158) at_158 rfl rfl ?_
        refine Own.iload H (pc := 160) at_160 rfl ?_
        refine Own.iconst H (pc := 162) (1) at_162 rfl ?_
        refine Own.isub H (pc := 163) at_163 ?_
        have ez1 : (z - (1 : Int32)).toInt = ((cs.length - 1 : Nat) : Int) := by
          have q := c_isub z 1
          have r := rng32 (z - 1)
          have o : (1 : Int32).toInt = 1 := rfl
          omega
        refine Own.baload H (pc := 164) (v := (cs.getD (cs.length - 1) 0)) (cs.length - 1) at_164 B ez1 (own_map (i := cs.length - 1) (by omega)) ?_
        refine Own.bipush H (pc := 165) (10) at_165 rfl ?_
        refine Own.icmp_eq H (pc := 167) 174 at_167 (by decide) (by decide) (fun hx => ?_) (fun hx => ?_)
        · have e1 : own_ln cs = own_cn cs 4 := own_lnN (by omega) (by omega) hx
          refine Own.iconst H (pc := 174) (0) at_174 rfl ?_
          refine Own.iadd H (pc := 175) at_175 ?_
          refine Own.istore H (pc := 176) #[.val (.int p0), .val (.int p1), .val (.int p2), .val (.int p3), .val (.int p4), .val (.int z), .val (.ref b), .val (.ref d), .val (.int (Int32.ofNat (own_cn cs 4))), .val (.int ((Int32.ofNat (own_cn cs 4)) + (0 : Int32))), .unset] at_176 rfl ?_
          have e2 : Int32.ofNat (own_cn cs 4) + (0 : Int32) = Int32.ofNat (own_ln cs) := by rw [Int32.add_zero, ← e1]
          rw [e2]
          exact k178 _ _ H
        · have e1 : own_ln cs = own_cn cs 4 + 1 := own_lnY (by omega) (by omega) hx
          refine Own.iconst H (pc := 170) (1) at_170 rfl ?_
          refine Own.goto H (pc := 171) 175 at_171 (by decide) (by decide) ?_
          refine Own.iadd H (pc := 175) at_175 ?_
          refine Own.istore H (pc := 176) #[.val (.int p0), .val (.int p1), .val (.int p2), .val (.int p3), .val (.int p4), .val (.int z), .val (.ref b), .val (.ref d), .val (.int (Int32.ofNat (own_cn cs 4))), .val (.int ((Int32.ofNat (own_cn cs 4)) + (1 : Int32))), .unset] at_176 rfl ?_
          have e2 : Int32.ofNat (own_cn cs 4) + (1 : Int32) = Int32.ofNat (own_ln cs) := by rw [own_one, ← e1]
          rw [e2]
          exact k178 _ _ H
    have k3 : ∀ (T : State), OHr p l e room_1 s m #[(.int p0), (.int p1), (.int p2), (.int p3), (.int p4)] below meth c Z n0 x.cls x.name code maxLocals ret T h_157 4 15 → OEnds p e below s n0 (fun v h => v = some (.int 1)) room_1.cells room_1.slots T (mkF m 133 #[.val (.int p0), .val (.int p1), .val (.int p2), .val (.int p3), .val (.int p4), .val (.int z), .val (.ref b), .val (.ref d), .val (.int (Int32.ofNat (own_cn cs 3))), .unset, .unset] []) := by
      intro T H
      refine Own.iload H (pc := 133) at_133 rfl ?_
      refine Own.iconst H (pc := 135) (3) at_135 rfl ?_
      refine Own.icmp_le H (pc := 136) 151 at_136 (by decide) (by decide) (fun hn => ?_) (fun hn => ?_)
      · replace hn : ¬ 3 < (z).toInt := fun q => hn (own_lt.mpr q)
        have e1 : own_cn cs 4 = own_cn cs 3 := own_cnO (by omega)
        rw [← e1]
        exact k4 _ H
      · replace hn : 3 < (z).toInt := own_lt.mp hn
        refine Own.aload H (pc := 139) at_139 rfl rfl ?_
        refine Own.iconst H (pc := 141) (3) at_141 rfl ?_
        refine Own.baload H (pc := 142) (v := (cs.getD 3 0)) 3 at_142 B rfl (own_map (i := 3) (by omega)) ?_
        refine Own.bipush H (pc := 143) (10) at_143 rfl ?_
        refine Own.icmp_ne H (pc := 145) 151 at_145 (by decide) (by decide) (fun hx => ?_) (fun hx => ?_)
        · have e1 : own_cn cs 4 = own_cn cs 3 := own_cnN (i := 3) (by omega) hx
          rw [← e1]
          exact k4 _ H
        · have e1 : own_cn cs 4 = own_cn cs 3 + 1 := own_cnY (i := 3) (by omega) hx
          refine Own.iinc H (pc := 148) (1) #[.val (.int p0), .val (.int p1), .val (.int p2), .val (.int p3), .val (.int p4), .val (.int z), .val (.ref b), .val (.ref d), .val (.int ((Int32.ofNat (own_cn cs 3)) + (1 : Int32))), .unset, .unset] at_148 rfl rfl rfl ?_
          rw [own_one, ← e1]
          exact k4 _ H
    have k2 : ∀ (T : State), OHr p l e room_1 s m #[(.int p0), (.int p1), (.int p2), (.int p3), (.int p4)] below meth c Z n0 x.cls x.name code maxLocals ret T h_157 4 15 → OEnds p e below s n0 (fun v h => v = some (.int 1)) room_1.cells room_1.slots T (mkF m 115 #[.val (.int p0), .val (.int p1), .val (.int p2), .val (.int p3), .val (.int p4), .val (.int z), .val (.ref b), .val (.ref d), .val (.int (Int32.ofNat (own_cn cs 2))), .unset, .unset] []) := by
      intro T H
      refine Own.iload H (pc := 115) at_115 rfl ?_
      refine Own.iconst H (pc := 117) (2) at_117 rfl ?_
      refine Own.icmp_le H (pc := 118) 133 at_118 (by decide) (by decide) (fun hn => ?_) (fun hn => ?_)
      · replace hn : ¬ 2 < (z).toInt := fun q => hn (own_lt.mpr q)
        have e1 : own_cn cs 3 = own_cn cs 2 := own_cnO (by omega)
        rw [← e1]
        exact k3 _ H
      · replace hn : 2 < (z).toInt := own_lt.mp hn
        refine Own.aload H (pc := 121) at_121 rfl rfl ?_
        refine Own.iconst H (pc := 123) (2) at_123 rfl ?_
        refine Own.baload H (pc := 124) (v := (cs.getD 2 0)) 2 at_124 B rfl (own_map (i := 2) (by omega)) ?_
        refine Own.bipush H (pc := 125) (10) at_125 rfl ?_
        refine Own.icmp_ne H (pc := 127) 133 at_127 (by decide) (by decide) (fun hx => ?_) (fun hx => ?_)
        · have e1 : own_cn cs 3 = own_cn cs 2 := own_cnN (i := 2) (by omega) hx
          rw [← e1]
          exact k3 _ H
        · have e1 : own_cn cs 3 = own_cn cs 2 + 1 := own_cnY (i := 2) (by omega) hx
          refine Own.iinc H (pc := 130) (1) #[.val (.int p0), .val (.int p1), .val (.int p2), .val (.int p3), .val (.int p4), .val (.int z), .val (.ref b), .val (.ref d), .val (.int ((Int32.ofNat (own_cn cs 2)) + (1 : Int32))), .unset, .unset] at_130 rfl rfl rfl ?_
          rw [own_one, ← e1]
          exact k3 _ H
    have k1 : ∀ (T : State), OHr p l e room_1 s m #[(.int p0), (.int p1), (.int p2), (.int p3), (.int p4)] below meth c Z n0 x.cls x.name code maxLocals ret T h_157 4 15 → OEnds p e below s n0 (fun v h => v = some (.int 1)) room_1.cells room_1.slots T (mkF m 97 #[.val (.int p0), .val (.int p1), .val (.int p2), .val (.int p3), .val (.int p4), .val (.int z), .val (.ref b), .val (.ref d), .val (.int (Int32.ofNat (own_cn cs 1))), .unset, .unset] []) := by
      intro T H
      refine Own.iload H (pc := 97) at_97 rfl ?_
      refine Own.iconst H (pc := 99) (1) at_99 rfl ?_
      refine Own.icmp_le H (pc := 100) 115 at_100 (by decide) (by decide) (fun hn => ?_) (fun hn => ?_)
      · replace hn : ¬ 1 < (z).toInt := fun q => hn (own_lt.mpr q)
        have e1 : own_cn cs 2 = own_cn cs 1 := own_cnO (by omega)
        rw [← e1]
        exact k2 _ H
      · replace hn : 1 < (z).toInt := own_lt.mp hn
        refine Own.aload H (pc := 103) at_103 rfl rfl ?_
        refine Own.iconst H (pc := 105) (1) at_105 rfl ?_
        refine Own.baload H (pc := 106) (v := (cs.getD 1 0)) 1 at_106 B rfl (own_map (i := 1) (by omega)) ?_
        refine Own.bipush H (pc := 107) (10) at_107 rfl ?_
        refine Own.icmp_ne H (pc := 109) 115 at_109 (by decide) (by decide) (fun hx => ?_) (fun hx => ?_)
        · have e1 : own_cn cs 2 = own_cn cs 1 := own_cnN (i := 1) (by omega) hx
          rw [← e1]
          exact k2 _ H
        · have e1 : own_cn cs 2 = own_cn cs 1 + 1 := own_cnY (i := 1) (by omega) hx
          refine Own.iinc H (pc := 112) (1) #[.val (.int p0), .val (.int p1), .val (.int p2), .val (.int p3), .val (.int p4), .val (.int z), .val (.ref b), .val (.ref d), .val (.int ((Int32.ofNat (own_cn cs 1)) + (1 : Int32))), .unset, .unset] at_112 rfl rfl rfl ?_
          rw [own_one, ← e1]
          exact k2 _ H
    have k0 : ∀ (T : State), OHr p l e room_1 s m #[(.int p0), (.int p1), (.int p2), (.int p3), (.int p4)] below meth c Z n0 x.cls x.name code maxLocals ret T h_157 4 15 → OEnds p e below s n0 (fun v h => v = some (.int 1)) room_1.cells room_1.slots T (mkF m 80 #[.val (.int p0), .val (.int p1), .val (.int p2), .val (.int p3), .val (.int p4), .val (.int z), .val (.ref b), .val (.ref d), .val (.int (Int32.ofNat (own_cn cs 0))), .unset, .unset] []) := by
      intro T H
      refine Own.iload H (pc := 80) at_80 rfl ?_
      refine Own.if_le H (pc := 82) 97 at_82 (by decide) (by decide) (fun hn => ?_) (fun hn => ?_)
      · replace hn : ¬ 0 < (z).toInt := fun q => hn (own_lt.mpr q)
        have e1 : own_cn cs 1 = own_cn cs 0 := own_cnO (by omega)
        rw [← e1]
        exact k1 _ H
      · replace hn : 0 < (z).toInt := own_lt.mp hn
        refine Own.aload H (pc := 85) at_85 rfl rfl ?_
        refine Own.iconst H (pc := 87) (0) at_87 rfl ?_
        refine Own.baload H (pc := 88) (v := (cs.getD 0 0)) 0 at_88 B rfl (own_map (i := 0) (by omega)) ?_
        refine Own.bipush H (pc := 89) (10) at_89 rfl ?_
        refine Own.icmp_ne H (pc := 91) 97 at_91 (by decide) (by decide) (fun hx => ?_) (fun hx => ?_)
        · have e1 : own_cn cs 1 = own_cn cs 0 := own_cnN (i := 0) (by omega) hx
          rw [← e1]
          exact k1 _ H
        · have e1 : own_cn cs 1 = own_cn cs 0 + 1 := own_cnY (i := 0) (by omega) hx
          refine Own.iinc H (pc := 94) (1) #[.val (.int p0), .val (.int p1), .val (.int p2), .val (.int p3), .val (.int p4), .val (.int z), .val (.ref b), .val (.ref d), .val (.int ((Int32.ofNat (own_cn cs 0)) + (1 : Int32))), .unset, .unset] at_94 rfl rfl rfl ?_
          rw [own_one, ← e1]
          exact k1 _ H
    exact k0 _ (H_155.mono (by decide) (by decide))
  refine Own.iload H_152 (pc := 14) at_14 rfl ?_
  refine Own.if_le H_152 (pc := 16) 27 at_16 (by decide) (by decide) (fun hs0 => ?_) (fun hs0 => ?_)
  · replace hs0 : ¬ 0 < (z).toInt := fun q => hs0 (own_lt.mpr q)
    refine Own.iload H_152 (pc := 27) at_27 rfl ?_
    refine Own.iconst H_152 (pc := 29) (1) at_29 rfl ?_
    refine Own.icmp_le H_152 (pc := 30) 41 at_30 (by decide) (by decide) (fun _ => ?_) (fun hX => absurd hX (fun q => absurd (own_lt.mp q) (show ¬ (1 : Int) < z.toInt by omega)))
    refine Own.iload H_152 (pc := 41) at_41 rfl ?_
    refine Own.iconst H_152 (pc := 43) (2) at_43 rfl ?_
    refine Own.icmp_le H_152 (pc := 44) 55 at_44 (by decide) (by decide) (fun _ => ?_) (fun hX => absurd hX (fun q => absurd (own_lt.mp q) (show ¬ (2 : Int) < z.toInt by omega)))
    refine Own.iload H_152 (pc := 55) at_55 rfl ?_
    refine Own.iconst H_152 (pc := 57) (3) at_57 rfl ?_
    refine Own.icmp_le H_152 (pc := 58) 70 at_58 (by decide) (by decide) (fun _ => ?_) (fun hX => absurd hX (fun q => absurd (own_lt.mp q) (show ¬ (3 : Int) < z.toInt by omega)))
    obtain rfl : nn = 0 := by omega
    exact tail [] _ _ rfl (H_152.mono (by decide) (by decide)) Ary_b Exa_b
  · replace hs0 : 0 < (z).toInt := own_lt.mp hs0
    refine Own.aload H_152 (pc := 19) at_19 rfl rfl ?_
    refine Own.iconst H_152 (pc := 21) (0) at_21 rfl ?_
    refine Own.iload_n H_152 (pc := 22) at_22 rfl ?_
    refine Own.callS H_152 (pc := 23) (y := (⟨"com/example/herder/herder/DictionaryOfPinLaw", "pick", "(I)B"⟩ : MethodName)) [(.int p1)] [(.int (0 : Int32)), (.ref b)] at_23 (hw _ (List.mem_of_getElem? (i := 26) rfl)) (hw _ (List.mem_of_getElem? (i := 27) rfl)) (hw _ (List.mem_of_getElem? (i := 28) rfl)) (hw _ (List.mem_of_getElem? (i := 29) rfl)) (by decide) (rm_pick l Z a0 hw p1 _ n0 H_152.z0) (r := (some .byte)) (ps := [.int]) (by decide) rfl rfl 2 rfl (by decide) (by decide) (by decide) (by decide) rfl (fun T_192 v_194 h_193 H_191 z_195 q_196 => ?_)
    obtain ⟨y0, rfl, rfl⟩ := q_196
    show OEnds _ _ _ _ _ _ _ _ _ (mkF _ 26 #[.val (.int p0), .val (.int p1), .val (.int p2), .val (.int p3), .val (.int p4), .val (.int z), .val (.ref b), .unset, .unset, .unset, .unset] [(.int y0), (.int (0 : Int32)), (.ref b)])
    refine Own.bastore H_191 (pc := 26) 0 at_26 Ary_b ge_b rfl (by (try simp); omega) (fun T_198 h_199 H_197 W_200 A_201 => ?_)
    have E_202 := Exa_b.wr W_200
    refine Own.iload H_197 (pc := 27) at_27 rfl ?_
    refine Own.iconst H_197 (pc := 29) (1) at_29 rfl ?_
    refine Own.icmp_le H_197 (pc := 30) 41 at_30 (by decide) (by decide) (fun hs1 => ?_) (fun hs1 => ?_)
    · replace hs1 : ¬ 1 < (z).toInt := fun q => hs1 (own_lt.mpr q)
      refine Own.iload H_197 (pc := 41) at_41 rfl ?_
      refine Own.iconst H_197 (pc := 43) (2) at_43 rfl ?_
      refine Own.icmp_le H_197 (pc := 44) 55 at_44 (by decide) (by decide) (fun _ => ?_) (fun hX => absurd hX (fun q => absurd (own_lt.mp q) (show ¬ (2 : Int) < z.toInt by omega)))
      refine Own.iload H_197 (pc := 55) at_55 rfl ?_
      refine Own.iconst H_197 (pc := 57) (3) at_57 rfl ?_
      refine Own.icmp_le H_197 (pc := 58) 70 at_58 (by decide) (by decide) (fun _ => ?_) (fun hX => absurd hX (fun q => absurd (own_lt.mp q) (show ¬ (3 : Int) < z.toInt by omega)))
      obtain rfl : nn = 1 := by omega
      exact tail [(nar .byte y0)] _ _ rfl (H_197.mono (by decide) (by decide)) A_201 E_202
    · replace hs1 : 1 < (z).toInt := own_lt.mp hs1
      refine Own.aload H_197 (pc := 33) at_33 rfl rfl ?_
      refine Own.iconst H_197 (pc := 35) (1) at_35 rfl ?_
      refine Own.iload_n H_197 (pc := 36) at_36 rfl ?_
      refine Own.callS H_197 (pc := 37) (y := (⟨"com/example/herder/herder/DictionaryOfPinLaw", "pick", "(I)B"⟩ : MethodName)) [(.int p2)] [(.int (1 : Int32)), (.ref b)] at_37 (hw _ (List.mem_of_getElem? (i := 26) rfl)) (hw _ (List.mem_of_getElem? (i := 27) rfl)) (hw _ (List.mem_of_getElem? (i := 28) rfl)) (hw _ (List.mem_of_getElem? (i := 29) rfl)) (by decide) (rm_pick l Z a0 hw p2 _ n0 H_197.z0) (r := (some .byte)) (ps := [.int]) (by decide) rfl rfl 2 rfl (by decide) (by decide) (by decide) (by decide) rfl (fun T_204 v_206 h_205 H_203 z_207 q_208 => ?_)
      obtain ⟨y1, rfl, rfl⟩ := q_208
      show OEnds _ _ _ _ _ _ _ _ _ (mkF _ 40 #[.val (.int p0), .val (.int p1), .val (.int p2), .val (.int p3), .val (.int p4), .val (.int z), .val (.ref b), .unset, .unset, .unset, .unset] [(.int y1), (.int (1 : Int32)), (.ref b)])
      refine Own.bastore H_203 (pc := 40) 1 at_40 A_201 ge_b rfl (by (try simp); omega) (fun T_210 h_211 H_209 W_212 A_213 => ?_)
      have E_214 := E_202.wr W_212
      refine Own.iload H_209 (pc := 41) at_41 rfl ?_
      refine Own.iconst H_209 (pc := 43) (2) at_43 rfl ?_
      refine Own.icmp_le H_209 (pc := 44) 55 at_44 (by decide) (by decide) (fun hs2 => ?_) (fun hs2 => ?_)
      · replace hs2 : ¬ 2 < (z).toInt := fun q => hs2 (own_lt.mpr q)
        refine Own.iload H_209 (pc := 55) at_55 rfl ?_
        refine Own.iconst H_209 (pc := 57) (3) at_57 rfl ?_
        refine Own.icmp_le H_209 (pc := 58) 70 at_58 (by decide) (by decide) (fun _ => ?_) (fun hX => absurd hX (fun q => absurd (own_lt.mp q) (show ¬ (3 : Int) < z.toInt by omega)))
        obtain rfl : nn = 2 := by omega
        exact tail [(nar .byte y0), (nar .byte y1)] _ _ rfl (H_209.mono (by decide) (by decide)) A_213 E_214
      · replace hs2 : 2 < (z).toInt := own_lt.mp hs2
        refine Own.aload H_209 (pc := 47) at_47 rfl rfl ?_
        refine Own.iconst H_209 (pc := 49) (2) at_49 rfl ?_
        refine Own.iload_n H_209 (pc := 50) at_50 rfl ?_
        refine Own.callS H_209 (pc := 51) (y := (⟨"com/example/herder/herder/DictionaryOfPinLaw", "pick", "(I)B"⟩ : MethodName)) [(.int p3)] [(.int (2 : Int32)), (.ref b)] at_51 (hw _ (List.mem_of_getElem? (i := 26) rfl)) (hw _ (List.mem_of_getElem? (i := 27) rfl)) (hw _ (List.mem_of_getElem? (i := 28) rfl)) (hw _ (List.mem_of_getElem? (i := 29) rfl)) (by decide) (rm_pick l Z a0 hw p3 _ n0 H_209.z0) (r := (some .byte)) (ps := [.int]) (by decide) rfl rfl 2 rfl (by decide) (by decide) (by decide) (by decide) rfl (fun T_216 v_218 h_217 H_215 z_219 q_220 => ?_)
        obtain ⟨y2, rfl, rfl⟩ := q_220
        show OEnds _ _ _ _ _ _ _ _ _ (mkF _ 54 #[.val (.int p0), .val (.int p1), .val (.int p2), .val (.int p3), .val (.int p4), .val (.int z), .val (.ref b), .unset, .unset, .unset, .unset] [(.int y2), (.int (2 : Int32)), (.ref b)])
        refine Own.bastore H_215 (pc := 54) 2 at_54 A_213 ge_b rfl (by (try simp); omega) (fun T_222 h_223 H_221 W_224 A_225 => ?_)
        have E_226 := E_214.wr W_224
        refine Own.iload H_221 (pc := 55) at_55 rfl ?_
        refine Own.iconst H_221 (pc := 57) (3) at_57 rfl ?_
        refine Own.icmp_le H_221 (pc := 58) 70 at_58 (by decide) (by decide) (fun hs3 => ?_) (fun hs3 => ?_)
        · replace hs3 : ¬ 3 < (z).toInt := fun q => hs3 (own_lt.mpr q)
          obtain rfl : nn = 3 := by omega
          exact tail [(nar .byte y0), (nar .byte y1), (nar .byte y2)] _ _ rfl (H_221.mono (by decide) (by decide)) A_225 E_226
        · replace hs3 : 3 < (z).toInt := own_lt.mp hs3
          refine Own.aload H_221 (pc := 61) at_61 rfl rfl ?_
          refine Own.iconst H_221 (pc := 63) (3) at_63 rfl ?_
          refine Own.iload H_221 (pc := 64) at_64 rfl ?_
          refine Own.callS H_221 (pc := 66) (y := (⟨"com/example/herder/herder/DictionaryOfPinLaw", "pick", "(I)B"⟩ : MethodName)) [(.int p4)] [(.int (3 : Int32)), (.ref b)] at_66 (hw _ (List.mem_of_getElem? (i := 26) rfl)) (hw _ (List.mem_of_getElem? (i := 27) rfl)) (hw _ (List.mem_of_getElem? (i := 28) rfl)) (hw _ (List.mem_of_getElem? (i := 29) rfl)) (by decide) (rm_pick l Z a0 hw p4 _ n0 H_221.z0) (r := (some .byte)) (ps := [.int]) (by decide) rfl rfl 2 rfl (by decide) (by decide) (by decide) (by decide) rfl (fun T_228 v_230 h_229 H_227 z_231 q_232 => ?_)
          obtain ⟨y3, rfl, rfl⟩ := q_232
          show OEnds _ _ _ _ _ _ _ _ _ (mkF _ 69 #[.val (.int p0), .val (.int p1), .val (.int p2), .val (.int p3), .val (.int p4), .val (.int z), .val (.ref b), .unset, .unset, .unset, .unset] [(.int y3), (.int (3 : Int32)), (.ref b)])
          refine Own.bastore H_227 (pc := 69) 3 at_69 A_225 ge_b rfl (by (try simp); omega) (fun T_234 h_235 H_233 W_236 A_237 => ?_)
          have E_238 := E_226.wr W_236
          obtain rfl : nn = 4 := by omega
          exact tail [(nar .byte y0), (nar .byte y1), (nar .byte y2), (nar .byte y3)] _ _ rfl (H_233.mono (by decide) (by decide)) A_237 E_238
set_option maxRecDepth 65536 in
set_option maxHeartbeats 40000000 in
theorem comes_1 {Post : Tables → Env → Array Value → State → Outcome → State → Prop} (hpost : ∀ tb e args s v u, (limb_1_1.after args s (.returned v) u = true ∧ limb_1_2.after args s (.returned v) u = true ∧ True) → FrameEnd s (.returned v) u (Jvm.fieldLocs frame_1_writes args s ++ Jvm.arrayLocs frame_1_arrays args s ++ Jvm.staticLocs frame_1_statics s) 24 128 → Post tb e args s (.returned v) u) :
    ArmFor flags0 classFile x code maxLocals ret World_1 tables_1 room_1 Calls_1 rest_1 Pre_1 Post := by
  intro l hfl _ _ p e ha hc hk s m args below hf hA hF happ hP
  obtain ⟨hcalls, hrest, hpre⟩ := hP
  obtain ⟨-, -, -, hnamed, -, -, -, hat⟩ := (Spec.applies_iff hf).mp happ
  obtain ⟨hg, hn⟩ := and_e (Cond.before_iff.mp (show (Jvm.Cond.and given_1 narrow_1).before args s = true from hpre))
  obtain ⟨g0, k0⟩ := and_e hg
  obtain ⟨g1, k1⟩ := and_e k0
  obtain ⟨g2, k2⟩ := and_e k1
  obtain ⟨g3, k3⟩ := and_e k2
  obtain ⟨g4, k4⟩ := and_e k3
  obtain ⟨w0, w1, w2, w3, w4, rfl⟩ : ∃ w0 w1 w2 w3 w4 : Value, args = #[w0, w1, w2, w3, w4] := by
    have hs : args.size = 5 := by simpa [Cond.value, given_1] using g0
    obtain ⟨L⟩ := args
    match L, hs with
    | [w0, w1, w2, w3, w4], _ => exact ⟨w0, w1, w2, w3, w4, rfl⟩
  have hw := fun d (hd : d ∈ tables_1) => atoms_spec (ws := Jvm.Cond.code x code maxLocals ret :: tables_1) hat d (List.mem_cons_of_mem _ hd)
  have hfit : Fit s := fun {y c} hc i hi => by
    obtain ⟨ha, rfl⟩ := Array.getElem?_eq_some_iff.mp hc
    have q := List.all_eq_true.mp ((Array.all_eq_true_iff_forall_mem.mp hF) _ (Array.getElem_mem ha)) i (List.mem_range.mpr hi)
    simpa [Array.getElem?_eq_getElem hi] using q
  obtain ⟨i0, e0⟩ := is_v g1
  obtain rfl : w0 = (.int i0) := Option.some.inj e0
  obtain ⟨i1, e1⟩ := is_v g2
  obtain rfl : w1 = (.int i1) := Option.some.inj e1
  obtain ⟨i2, e2⟩ := is_v g3
  obtain rfl : w2 = (.int i2) := Option.some.inj e2
  obtain ⟨i3, e3⟩ := is_v g4
  obtain rfl : w3 = (.int i3) := Option.some.inj e3
  obtain ⟨i4, e4⟩ := is_v k4
  obtain rfl : w4 = (.int i4) := Option.some.inj e4
  obtain ⟨n, o, h1, h2, h3, _, L, rfl, ⟨N, -, rfl⟩, hq⟩ := rm_law l s _ hw i0 i1 i2 i3 i4 s.heap s.heap.size (Nat.le_refl _)  tables_1 p e ha hc hk s m _ below hf ((Spec.applies_iff_loose hf).mp happ).1 ⟨rfl, State.Warmed39.refl s, rfl⟩ trivial
  refine ⟨n, _, h1, h2, h3, hpost _ _ _ _ _ _ ⟨Cond.after_iff.mpr rfl, Cond.after_iff.mpr (eq_i res_at (Term.int_eval (1)) rfl), trivial⟩ ⟨hq.1, hq.2.1, (hq.2.2.sift fun y hy => Or.inr (N y hy)).mono (by decide) (by decide)⟩⟩
theorem main_1_1 : Claimed_1_1 := comes_1 fun _ _ _ _ _ _ h hF => ⟨h.1, hF⟩
theorem main_1_2 : Claimed_1_2 := comes_1 fun _ _ _ _ _ _ h hF => ⟨h.2.1, hF⟩
end Jvm.Pilot.@@N@@
namespace Jvm.Pilot.@@N@@
open Jvm Jvm.ClassFile Sem Op Lib Jvm.Free Jvm.Stand Jvm.Pilot.@@N@@.Jvm.D
/-! MADE BY PROGRAM (witnessworld.py) out of the Statement's table words and the real class files: 12 classes; the members and pool entries that the words name. The judged class is class 1, her method 4. -/
namespace start1
open Jvm.ClassFile
def u (s : String) : CpInfo := .utf8 (stringToUtf16 s)
/-- a pool by its gaps: so many unusable entries, then the entry; so many at the end -/
def gap : Nat → List CpInfo → List CpInfo
  | 0, r => r
  | n + 1, r => .unusable :: gap n r
def poolList (es : List (Nat × CpInfo)) (last : Nat) : List CpInfo := es.foldr (fun e r => gap e.1 (e.2 :: r)) (gap last [])
def pool (es : List (Nat × CpInfo)) (last : Nat) : Array CpInfo := ⟨poolList es last⟩
def fileOf (pool : Array CpInfo) (this : Nat) (attrs : Array Attribute := #[]) (ms : Array MethodInfo := #[]) (fl : Nat := 33) (sup : Nat := 0) (ifs : Array Nat := #[]) (fds : Array FieldInfo := #[]) : ClassFile where
  minorVersion := 0
  majorVersion := 65
  constantPool := pool
  accessFlags := fl
  thisClass := this
  superClass := sup
  interfaces := ifs
  fields := fds
  methods := ms
  attributes := attrs
def plain (name : String) (sup : Option ClassId) : Class where
  name := name
  kind := .ordinary
  loader := none
  accessFlags := 33
  super := sup
  interfaces := #[]
  cf := none
  fields := #[]
  methods := #[]
  instanceTypes := #[]
  staticTypes := #[]
  resolved := #[]
  callSites := []
  init := .initialized
  statics := none
  mirror := none

def pool0 : Array CpInfo := pool [(5, u "<init>"), (0, u "()V"), (1, .class_ 10), (1, u "java/lang/Object"), (85, u "clone"), (0, u "()Ljava/lang/Object;")] 26

def k0c0 : Code := { maxStack := 0, maxLocals := 1, code := object_method_1_code, exceptionTable := #[], attributes := #[] }
def k0m0 : Method := { name := "<init>", desc := "()V", sig := { parameters := [], returnType := none }, accessFlags := 1, code := some k0c0 }
def k0m1 : Method := { name := "clone", desc := "()Ljava/lang/Object;", sig := { parameters := [], returnType := some (.object "java/lang/Object") }, accessFlags := 260, code := none }
/-- java/lang/Object -/
def k0 : Class := { plain "java/lang/Object" none with
  accessFlags := 33
  interfaces := #[]
  cf := some (fileOf pool0 8 #[] #[{ accessFlags := 1, nameIndex := 5, descriptorIndex := 6, attributes := #[] }, { accessFlags := 260, nameIndex := 96, descriptorIndex := 97, attributes := #[] }] 33 0 #[] #[])
  fields := #[]
  methods := #[k0m0, k0m1]
  instanceTypes := #[]
  staticTypes := #[]
  resolved := Array.replicate 124 none
  statics := none }

def pool1 : Array CpInfo := pool [(2, .class_ 4), (1, u "java/lang/Object"), (0, u "<init>"), (0, u "()V"), (0, .methodref 8 9), (0, .class_ 10), (0, .nameAndType 11 12), (0, u "com/example/herder/herder/Dictionary"), (0, u "line"), (0, u "(I)[B"), (0, .methodref 14 15), (0, .class_ 16), (0, .nameAndType 17 18), (0, u "com/example/herder/herder/DictionaryOfPinLaw"), (0, u "lfPos"), (0, u "([BII)I"), (0, .integer 2147483647), (0, .methodref 14 21), (0, .nameAndType 22 23), (0, u "pick"), (0, u "(I)B"), (0, .methodref 8 25), (0, .nameAndType 26 27), (0, u "of"), (0, u "([B)Lcom/example/herder/herder/Dictionary;"), (0, .methodref 8 29), (0, .nameAndType 30 31), (0, u "size"), (0, u "()I"), (0, .methodref 14 33), (0, .nameAndType 34 35), (0, u "lineOk"), (0, u "(Lcom/example/herder/herder/Dictionary;[BII)Z"), (5, u "law"), (0, u "(IIIII)Z")] 2

def k1m0 : Method := { name := "<init>", desc := "()V", sig := { parameters := [], returnType := none }, accessFlags := 2, code := none }
def k1c1 : Code := { maxStack := 2, maxLocals := 2, code := method_2_code, exceptionTable := #[], attributes := #[] }
def k1m1 : Method := { name := "pick", desc := "(I)B", sig := { parameters := [.int], returnType := some .byte }, accessFlags := 10, code := some k1c1 }
def k1c2 : Code := { maxStack := 2, maxLocals := 4, code := method_3_code, exceptionTable := #[], attributes := #[] }
def k1m2 : Method := { name := "lfPos", desc := "([BII)I", sig := { parameters := [(.array .byte), .int, .int], returnType := some .int }, accessFlags := 10, code := some k1c2 }
def k1c3 : Code := { maxStack := 4, maxLocals := 9, code := method_4_code, exceptionTable := #[], attributes := #[] }
def k1m3 : Method := { name := "lineOk", desc := "(Lcom/example/herder/herder/Dictionary;[BII)Z", sig := { parameters := [(.object "com/example/herder/herder/Dictionary"), (.array .byte), .int, .int], returnType := some .boolean }, accessFlags := 10, code := some k1c3 }
def k1c4 : Code := { maxStack := 4, maxLocals := 11, code := code, exceptionTable := #[], attributes := #[] }
def k1m4 : Method := { name := "law", desc := "(IIIII)Z", sig := { parameters := [.int, .int, .int, .int, .int], returnType := some .boolean }, accessFlags := 9, code := some k1c4 }
/-- com/example/herder/herder/DictionaryOfPinLaw -/
def k1 : Class := { plain "com/example/herder/herder/DictionaryOfPinLaw" (some 0) with
  accessFlags := 49
  interfaces := #[]
  cf := some (fileOf pool1 14 #[] #[{ accessFlags := 2, nameIndex := 5, descriptorIndex := 6, attributes := #[] }, { accessFlags := 10, nameIndex := 22, descriptorIndex := 23, attributes := #[] }, { accessFlags := 10, nameIndex := 17, descriptorIndex := 18, attributes := #[] }, { accessFlags := 10, nameIndex := 34, descriptorIndex := 35, attributes := #[] }, { accessFlags := 9, nameIndex := 41, descriptorIndex := 42, attributes := #[] }] 49 2 #[] #[])
  fields := #[]
  methods := #[k1m0, k1m1, k1m2, k1m3, k1m4]
  instanceTypes := #[]
  staticTypes := #[]
  resolved := Array.replicate 45 none
  statics := none }

def pool2 : Array CpInfo := pool [(3, .methodref 4 5), (0, .class_ 6), (0, .nameAndType 7 8), (0, u "java/lang/Object"), (0, u "<init>"), (0, u "()V"), (0, .fieldref 10 11), (0, .class_ 12), (0, .nameAndType 13 14), (0, u "com/example/herder/herder/Dictionary"), (0, u "content"), (0, u "[B"), (0, .fieldref 10 16), (0, .nameAndType 17 18), (0, u "starts"), (0, u "[I"), (0, .fieldref 10 20), (0, .nameAndType 21 18), (0, u "ends"), (4, u "size"), (24, u "of"), (0, u "([B)Lcom/example/herder/herder/Dictionary;"), (0, .methodref 10 54), (0, .nameAndType 7 55), (0, u "([B[I[I)V"), (6, .methodref 63 64), (0, .class_ 65), (0, .nameAndType 66 67), (0, u "java/util/Arrays"), (0, u "copyOfRange"), (0, u "([BII)[B"), (0, u "MAX_BYTES"), (0, u "J"), (1, u "LF"), (0, u "B"), (1, u "CR"), (9, u "()I"), (2, u "line"), (0, u "(I)[B")] 17

def k2c0 : Code := { maxStack := 2, maxLocals := 4, code := prog_1_method_1_code, exceptionTable := #[], attributes := #[] }
def k2m0 : Method := { name := "<init>", desc := "([B[I[I)V", sig := { parameters := [(.array .byte), (.array .int), (.array .int)], returnType := none }, accessFlags := 2, code := some k2c0 }
def k2c1 : Code := { maxStack := 5, maxLocals := 8, code := prog_1_method_3_code, exceptionTable := #[], attributes := #[] }
def k2m1 : Method := { name := "of", desc := "([B)Lcom/example/herder/herder/Dictionary;", sig := { parameters := [(.array .byte)], returnType := some (.object "com/example/herder/herder/Dictionary") }, accessFlags := 8, code := some k2c1 }
def k2c2 : Code := { maxStack := 1, maxLocals := 1, code := prog_1_method_4_code, exceptionTable := #[], attributes := #[] }
def k2m2 : Method := { name := "size", desc := "()I", sig := { parameters := [], returnType := some .int }, accessFlags := 0, code := some k2c2 }
def k2c3 : Code := { maxStack := 4, maxLocals := 2, code := prog_1_method_6_code, exceptionTable := #[], attributes := #[] }
def k2m3 : Method := { name := "line", desc := "(I)[B", sig := { parameters := [.int], returnType := some (.array .byte) }, accessFlags := 0, code := some k2c3 }
/-- com/example/herder/herder/Dictionary -/
def k2 : Class := { plain "com/example/herder/herder/Dictionary" (some 0) with
  accessFlags := 32
  interfaces := #[]
  cf := some (fileOf pool2 10 #[] #[{ accessFlags := 2, nameIndex := 7, descriptorIndex := 55, attributes := #[] }, { accessFlags := 8, nameIndex := 51, descriptorIndex := 52, attributes := #[] }, { accessFlags := 0, nameIndex := 26, descriptorIndex := 84, attributes := #[] }, { accessFlags := 0, nameIndex := 87, descriptorIndex := 88, attributes := #[] }] 32 4 #[] #[{ accessFlags := 26, nameIndex := 68, descriptorIndex := 69, attributes := #[] }, { accessFlags := 26, nameIndex := 71, descriptorIndex := 72, attributes := #[] }, { accessFlags := 26, nameIndex := 74, descriptorIndex := 72, attributes := #[] }, { accessFlags := 18, nameIndex := 13, descriptorIndex := 14, attributes := #[] }, { accessFlags := 18, nameIndex := 17, descriptorIndex := 18, attributes := #[] }, { accessFlags := 18, nameIndex := 21, descriptorIndex := 18, attributes := #[] }])
  fields := #[{ name := "MAX_BYTES", type := .long, accessFlags := 26, slot := 0, constantValue := 0 }, { name := "LF", type := .byte, accessFlags := 26, slot := 1, constantValue := 0 }, { name := "CR", type := .byte, accessFlags := 26, slot := 2, constantValue := 0 }, { name := "content", type := (.array .byte), accessFlags := 18, slot := 0, constantValue := 0 }, { name := "starts", type := (.array .int), accessFlags := 18, slot := 1, constantValue := 0 }, { name := "ends", type := (.array .int), accessFlags := 18, slot := 2, constantValue := 0 }]
  methods := #[k2m0, k2m1, k2m2, k2m3]
  instanceTypes := #[(.array .byte), (.array .int), (.array .int)]
  staticTypes := #[.long, .byte, .byte]
  resolved := Array.replicate 106 none
  statics := none }

def pool3 : Array CpInfo := pool [(2, .class_ 4), (1, u "java/lang/Object"), (0, u "<init>"), (0, u "()V"), (7, .class_ 16), (1, u "java/util/Arrays"), (57, .class_ 76), (1, u "java/util/Arrays$NaturalOrder"), (32, u "()Ljava/lang/Object;"), (3, .class_ 115), (1, u "java/util/Arrays$LegacyMergeSort"), (1, u "Z"), (10, .nameAndType 129 109), (0, u "clone"), (9, u "copyOfRange"), (10, .methodref 151 152), (0, .class_ 153), (0, .nameAndType 154 155), (0, u "java/lang/System"), (0, u "arraycopy"), (0, u "(Ljava/lang/Object;ILjava/lang/Object;II)V"), (148, .methodref 305 306), (0, .class_ 307), (0, .nameAndType 308 309), (0, u "java/lang/Math"), (0, u "min"), (0, u "(II)I"), (0, .methodref 311 128), (0, .class_ 312), (0, u "[B"), (26, .methodref 14 340), (0, .nameAndType 341 342), (0, u "copyOfRangeByte"), (0, u "([BII)[B"), (0, .methodref 14 344), (0, .nameAndType 345 346), (0, u "checkLength"), (0, u "(II)V"), (28, .class_ 376), (0, u "java/util/Arrays$ArrayList"), (68, u "$assertionsDisabled"), (269, u "MIN_ARRAY_SORT_GRAN"), (0, u "I"), (2, u "INSERTIONSORT_THRESHOLD"), (255, .class_ 976), (0, u "java/util/Arrays$ArrayItr")] 52

def k3m0 : Method := { name := "<init>", desc := "()V", sig := { parameters := [], returnType := none }, accessFlags := 2, code := none }
def k3c1 : Code := { maxStack := 4, maxLocals := 2, code := jdk_65_method_131_code, exceptionTable := #[], attributes := #[] }
def k3m1 : Method := { name := "checkLength", desc := "(II)V", sig := { parameters := [.int, .int], returnType := none }, accessFlags := 10, code := some k3c1 }
def k3c2 : Code := { maxStack := 3, maxLocals := 3, code := jdk_65_method_132_code, exceptionTable := #[], attributes := #[] }
def k3m2 : Method := { name := "copyOfRange", desc := "([BII)[B", sig := { parameters := [(.array .byte), .int, .int], returnType := some (.array .byte) }, accessFlags := 9, code := some k3c2 }
def k3c3 : Code := { maxStack := 6, maxLocals := 5, code := jdk_65_method_133_code, exceptionTable := #[], attributes := #[] }
def k3m3 : Method := { name := "copyOfRangeByte", desc := "([BII)[B", sig := { parameters := [(.array .byte), .int, .int], returnType := some (.array .byte) }, accessFlags := 10, code := some k3c3 }
/-- java/util/Arrays -/
def k3 : Class := { plain "java/util/Arrays" (some 0) with
  accessFlags := 49
  interfaces := #[]
  cf := some (fileOf pool3 14 #[.nestMembers #[975, 375, 113, 74]] #[{ accessFlags := 2, nameIndex := 5, descriptorIndex := 6, attributes := #[] }, { accessFlags := 10, nameIndex := 345, descriptorIndex := 346, attributes := #[] }, { accessFlags := 9, nameIndex := 139, descriptorIndex := 342, attributes := #[] }, { accessFlags := 10, nameIndex := 341, descriptorIndex := 342, attributes := #[] }] 49 2 #[] #[{ accessFlags := 26, nameIndex := 715, descriptorIndex := 716, attributes := #[] }, { accessFlags := 26, nameIndex := 719, descriptorIndex := 716, attributes := #[] }, { accessFlags := 4120, nameIndex := 445, descriptorIndex := 117, attributes := #[] }])
  fields := #[{ name := "MIN_ARRAY_SORT_GRAN", type := .int, accessFlags := 26, slot := 0, constantValue := 0 }, { name := "INSERTIONSORT_THRESHOLD", type := .int, accessFlags := 26, slot := 1, constantValue := 0 }, { name := "$assertionsDisabled", type := .boolean, accessFlags := 4120, slot := 2, constantValue := 0 }]
  methods := #[k3m0, k3m1, k3m2, k3m3]
  instanceTypes := #[]
  staticTypes := #[.int, .int, .boolean]
  resolved := Array.replicate 1029 none
  statics := none }

def pool4 : Array CpInfo := pool [(1, .class_ 2), (0, u "java/lang/Math"), (1, .class_ 6), (1, u "java/lang/Object"), (0, u "<init>"), (0, u "()V"), (89, .class_ 100), (1, u "java/lang/Math$RandomNumberGeneratorHolder"), (71, u "negativeZeroFloatBits"), (0, u "J"), (2, u "negativeZeroDoubleBits"), (24, u "min"), (43, u "$assertionsDisabled"), (0, u "Z"), (88, u "(II)I"), (2, u "twoToTheDoubleScaleDown"), (0, u "D"), (4, u "twoToTheDoubleScaleUp"), (9, u "E"), (3, u "PI"), (2, u "TAU"), (2, u "DEGREES_TO_RADIANS"), (0, u "RADIANS_TO_DEGREES")] 94

def k4m0 : Method := { name := "<init>", desc := "()V", sig := { parameters := [], returnType := none }, accessFlags := 2, code := none }
def k4c1 : Code := { maxStack := 2, maxLocals := 2, code := jdk_29_method_69_code, exceptionTable := #[], attributes := #[] }
def k4m1 : Method := { name := "min", desc := "(II)I", sig := { parameters := [.int, .int], returnType := some .int }, accessFlags := 9, code := some k4c1 }
/-- java/lang/Math -/
def k4 : Class := { plain "java/lang/Math" (some 0) with
  accessFlags := 49
  interfaces := #[]
  cf := some (fileOf pool4 1 #[.nestMembers #[98]] #[{ accessFlags := 2, nameIndex := 7, descriptorIndex := 8, attributes := #[] }, { accessFlags := 9, nameIndex := 201, descriptorIndex := 335, attributes := #[] }] 49 4 #[] #[{ accessFlags := 25, nameIndex := 354, descriptorIndex := 339, attributes := #[] }, { accessFlags := 25, nameIndex := 358, descriptorIndex := 339, attributes := #[] }, { accessFlags := 25, nameIndex := 361, descriptorIndex := 339, attributes := #[] }, { accessFlags := 26, nameIndex := 364, descriptorIndex := 339, attributes := #[] }, { accessFlags := 26, nameIndex := 365, descriptorIndex := 339, attributes := #[] }, { accessFlags := 26, nameIndex := 172, descriptorIndex := 173, attributes := #[] }, { accessFlags := 26, nameIndex := 176, descriptorIndex := 173, attributes := #[] }, { accessFlags := 8, nameIndex := 344, descriptorIndex := 339, attributes := #[] }, { accessFlags := 8, nameIndex := 338, descriptorIndex := 339, attributes := #[] }, { accessFlags := 4120, nameIndex := 245, descriptorIndex := 246, attributes := #[] }])
  fields := #[{ name := "E", type := .double, accessFlags := 25, slot := 0, constantValue := 0 }, { name := "PI", type := .double, accessFlags := 25, slot := 1, constantValue := 0 }, { name := "TAU", type := .double, accessFlags := 25, slot := 2, constantValue := 0 }, { name := "DEGREES_TO_RADIANS", type := .double, accessFlags := 26, slot := 3, constantValue := 0 }, { name := "RADIANS_TO_DEGREES", type := .double, accessFlags := 26, slot := 4, constantValue := 0 }, { name := "negativeZeroFloatBits", type := .long, accessFlags := 26, slot := 5, constantValue := 0 }, { name := "negativeZeroDoubleBits", type := .long, accessFlags := 26, slot := 6, constantValue := 0 }, { name := "twoToTheDoubleScaleUp", type := .double, accessFlags := 8, slot := 7, constantValue := 0 }, { name := "twoToTheDoubleScaleDown", type := .double, accessFlags := 8, slot := 8, constantValue := 0 }, { name := "$assertionsDisabled", type := .boolean, accessFlags := 4120, slot := 9, constantValue := 0 }]
  methods := #[k4m0, k4m1]
  instanceTypes := #[]
  staticTypes := #[.double, .double, .double, .double, .double, .long, .long, .double, .double, .boolean]
  resolved := Array.replicate 460 none
  statics := none }

def pool5 : Array CpInfo := pool [(2, .class_ 4), (1, u "java/lang/Object"), (0, u "<init>"), (0, u "()V"), (1, .class_ 10), (1, u "java/lang/System"), (0, u "allowSecurityManager"), (0, u "I"), (16, u "cons"), (0, u "Ljava/io/Console;"), (77, .class_ 110), (1, u "java/lang/System$CallersHolder"), (43, u "initialErrStream"), (0, u "Ljava/io/PrintStream;"), (19, u "security"), (0, u "Ljava/lang/SecurityManager;"), (31, .class_ 209), (0, u "java/lang/System$1"), (7, u "props"), (0, u "Ljava/util/Properties;"), (2, u "lineSeparator"), (0, u "Ljava/lang/String;"), (96, .class_ 321), (1, u "java/lang/System$LoggerFinder"), (5, .class_ 328), (0, u "java/lang/System$Logger"), (67, u "err"), (2, u "out"), (91, u "notSupportedJnuEncoding"), (15, u "in"), (17, u "initialIn"), (0, u "Ljava/io/InputStream;"), (35, u "bootLayer"), (0, u "Ljava/lang/ModuleLayer;"), (99, .class_ 664), (0, u "java/lang/System$2"), (9, u "NEVER"), (2, u "MAYBE"), (49, u "arraycopy"), (0, u "(Ljava/lang/Object;ILjava/lang/Object;II)V"), (72, .class_ 802), (0, u "java/lang/System$Logger$Level")] 31

def k5m0 : Method := { name := "<init>", desc := "()V", sig := { parameters := [], returnType := none }, accessFlags := 2, code := none }
def k5m1 : Method := { name := "arraycopy", desc := "(Ljava/lang/Object;ILjava/lang/Object;II)V", sig := { parameters := [(.object "java/lang/Object"), .int, (.object "java/lang/Object"), .int, .int], returnType := none }, accessFlags := 265, code := none }
/-- java/lang/System -/
def k5 : Class := { plain "java/lang/System" (some 0) with
  accessFlags := 49
  interfaces := #[]
  cf := some (fileOf pool5 8 #[.nestMembers #[319, 327, 801, 108, 663, 208]] #[{ accessFlags := 2, nameIndex := 5, descriptorIndex := 6, attributes := #[] }, { accessFlags := 265, nameIndex := 727, descriptorIndex := 728, attributes := #[] }] 49 2 #[] #[{ accessFlags := 25, nameIndex := 507, descriptorIndex := 526, attributes := #[] }, { accessFlags := 25, nameIndex := 399, descriptorIndex := 155, attributes := #[] }, { accessFlags := 25, nameIndex := 396, descriptorIndex := 155, attributes := #[] }, { accessFlags := 10, nameIndex := 525, descriptorIndex := 526, attributes := #[] }, { accessFlags := 26, nameIndex := 674, descriptorIndex := 12, attributes := #[] }, { accessFlags := 26, nameIndex := 677, descriptorIndex := 12, attributes := #[] }, { accessFlags := 10, nameIndex := 11, descriptorIndex := 12, attributes := #[] }, { accessFlags := 74, nameIndex := 175, descriptorIndex := 176, attributes := #[] }, { accessFlags := 10, nameIndex := 491, descriptorIndex := 222, attributes := #[] }, { accessFlags := 74, nameIndex := 29, descriptorIndex := 30, attributes := #[] }, { accessFlags := 74, nameIndex := 154, descriptorIndex := 155, attributes := #[] }, { accessFlags := 10, nameIndex := 217, descriptorIndex := 218, attributes := #[] }, { accessFlags := 10, nameIndex := 221, descriptorIndex := 222, attributes := #[] }, { accessFlags := 8, nameIndex := 562, descriptorIndex := 563, attributes := #[] }])
  fields := #[{ name := "in", type := (.object "java/io/InputStream"), accessFlags := 25, slot := 0, constantValue := 0 }, { name := "out", type := (.object "java/io/PrintStream"), accessFlags := 25, slot := 1, constantValue := 0 }, { name := "err", type := (.object "java/io/PrintStream"), accessFlags := 25, slot := 2, constantValue := 0 }, { name := "initialIn", type := (.object "java/io/InputStream"), accessFlags := 10, slot := 3, constantValue := 0 }, { name := "NEVER", type := .int, accessFlags := 26, slot := 4, constantValue := 0 }, { name := "MAYBE", type := .int, accessFlags := 26, slot := 5, constantValue := 0 }, { name := "allowSecurityManager", type := .int, accessFlags := 10, slot := 6, constantValue := 0 }, { name := "security", type := (.object "java/lang/SecurityManager"), accessFlags := 74, slot := 7, constantValue := 0 }, { name := "notSupportedJnuEncoding", type := (.object "java/lang/String"), accessFlags := 10, slot := 8, constantValue := 0 }, { name := "cons", type := (.object "java/io/Console"), accessFlags := 74, slot := 9, constantValue := 0 }, { name := "initialErrStream", type := (.object "java/io/PrintStream"), accessFlags := 74, slot := 10, constantValue := 0 }, { name := "props", type := (.object "java/util/Properties"), accessFlags := 10, slot := 11, constantValue := 0 }, { name := "lineSeparator", type := (.object "java/lang/String"), accessFlags := 10, slot := 12, constantValue := 0 }, { name := "bootLayer", type := (.object "java/lang/ModuleLayer"), accessFlags := 8, slot := 13, constantValue := 0 }]
  methods := #[k5m0, k5m1]
  instanceTypes := #[]
  staticTypes := #[(.object "java/io/InputStream"), (.object "java/io/PrintStream"), (.object "java/io/PrintStream"), (.object "java/io/InputStream"), .int, .int, .int, (.object "java/lang/SecurityManager"), (.object "java/lang/String"), (.object "java/io/Console"), (.object "java/io/PrintStream"), (.object "java/util/Properties"), (.object "java/lang/String"), (.object "java/lang/ModuleLayer")]
  resolved := Array.replicate 834 none
  statics := none }

def pool6 : Array CpInfo := pool [(1, .class_ 2), (0, u "java/lang/Cloneable"), (0, .class_ 4), (0, u "java/lang/Object")] 2

/-- java/lang/Cloneable -/
def k6 : Class := { plain "java/lang/Cloneable" (some 0) with
  accessFlags := 1537
  interfaces := #[]
  cf := some (fileOf pool6 1 #[] #[] 1537 3 #[] #[])
  fields := #[]
  methods := #[]
  instanceTypes := #[]
  staticTypes := #[]
  resolved := Array.replicate 7 none
  statics := none }

def pool7 : Array CpInfo := pool [(1, u "java/io/Serializable"), (0, .class_ 1), (0, u "java/lang/Object"), (0, .class_ 3)] 3

/-- java/io/Serializable -/
def k7 : Class := { plain "java/io/Serializable" (some 0) with
  accessFlags := 1537
  interfaces := #[]
  cf := some (fileOf pool7 2 #[] #[] 1537 4 #[] #[])
  fields := #[]
  methods := #[]
  instanceTypes := #[]
  staticTypes := #[]
  resolved := Array.replicate 8 none
  statics := none }

/-- the primitive byte -/
def k8 : Class := { plain "byte" none with kind := .primitive 'B', accessFlags := 0x411 }
/-- [B -/
def k9 : Class := { plain "[B" (some 0) with kind := .array 8 .byte, interfaces := #[6, 7], accessFlags := 1041 }

/-- the primitive int -/
def k10 : Class := { plain "int" none with kind := .primitive 'I', accessFlags := 0x411 }
/-- [I -/
def k11 : Class := { plain "[I" (some 0) with kind := .array 10 .int, interfaces := #[6, 7], accessFlags := 1041 }

def heap : Heap := #[]
def classes : Array Class := #[k0, k1, k2, k3, k4, k5, k6, k7, k8, k9, k10, k11]
def interned : List (Array UInt16 × Addr) := []
def slotsUsed : Nat := 0
def theMethod : MethodId := ⟨1, 4⟩
def args0 : Array Value := #[.int 3, .int 5, .int 0, .int 262, .int 7]
def aboutOver (below : List Frame) : State where
  vm := { classes := classes, interned := interned.toArray }
  heap := heap
  slotsUsed := slotsUsed
  threads := #[{ frames := .invoking theMethod args0 :: below }]
def below0 : List Frame := [.native { method := ⟨0, 0⟩, args := #[] }]
def about1 : State := aboutOver below0
def p0 : Program := .bare "" "" ""
def e0 : Env := launch0.env 0 0 0
theorem w_frames : about1.frames = Frame.invoking theMethod args0 :: below0 := rfl
set_option maxRecDepth 65536 in
theorem w_args : argsFit about1.vm theMethod args0 = true := by decide +kernel
set_option maxRecDepth 65536 in
theorem w_heap : heapFits about1 = true := by decide +kernel
set_option maxRecDepth 65536 in
theorem w_runnable : about1.curStatus? = some .runnable := by decide +kernel
set_option maxRecDepth 65536 in
theorem w_alone : about1.alone = true := by decide +kernel
set_option maxRecDepth 65536 in
theorem w_named : about1.methodNamed? x = some theMethod := by decide +kernel
set_option maxRecDepth 65536 in
theorem w_hears : about1.hears theMethod below0 = true := by decide +kernel
set_option maxRecDepth 65536 in
theorem w_ripe : about1.ripe theMethod args0 below0 = true := by decide +kernel
theorem w_running : about1.status = .running := rfl
set_option maxRecDepth 65536 in
theorem w_room : about1.hasRoom e0.platform room_1 = true :=
  launch0.hasRoom_least _ room_1 (by decide +kernel) (by decide +kernel) (by decide +kernel) (by decide +kernel) (by decide +kernel) (by decide +kernel)
theorem allAtoms_all (ts : List Jvm.Cond) (a : Array Jvm.Value) (st : Jvm.State) : (allAtoms ts).before a st = ts.all (fun c => c.before a st) := by
  induction ts with
  | nil => rfl
  | cons c t ih =>
    show (Jvm.Cond.and c (allAtoms t)).before a st = _
    rw [Jvm.Cond.before_and, ih, List.all_cons]
def words1 : List Jvm.Cond := Jvm.Cond.code x code maxLocals ret :: tables_1
/-- a 'code' word, met by the world's own term for the bytes: nothing is compared byte by byte -/
theorem code_word {y : MethodName} {bytes : ByteArray} {mx : Nat} {rt : Option FieldType} {a : Array Value} {s : State} {m : MethodId} {meth : Method} {c : Code} (h1 : s.methodNamed? y = some m) (h2 : s.vm.method? m = some meth) (h3 : meth.code = some c) (h4 : c.code = bytes)
    (h5 : (c.maxLocals == mx && c.exceptionTable.isEmpty && decide (c.maxStack ≤ mostOperands) && decide (meth.sig.returnType = rt) && !meth.locks && decide (parseMethodDescriptor y.desc = some meth.sig)) = true) : (Jvm.Cond.code y bytes mx rt).before a s = true := by
  simp only [Bool.and_eq_true, beq_iff_eq, Bool.not_eq_true', decide_eq_true_eq] at h5
  obtain ⟨⟨⟨⟨⟨g1, g2⟩, g3⟩, g4⟩, g5⟩, g6⟩ := h5
  simp [Cond.before, Cond.holds, Cond.value, h1, h2, h3, h4, g1, g2, g3, g4, g5, g6]
def isCode : Jvm.Cond → Bool
  | .code _ _ _ _ => true
  | _ => false
theorem all_split {L : List Jvm.Cond} {P : Jvm.Cond → Bool} (h1 : L.all (fun c => isCode c || P c) = true) (h2 : ∀ c ∈ L.filter isCode, P c = true) : L.all P = true := by
  refine List.all_eq_true.mpr fun c hc => ?_
  have h := List.all_eq_true.mp h1 c hc
  rcases Bool.eq_false_or_eq_true (isCode c) with hi | hi
  · exact h2 c (List.mem_filter.mpr ⟨hc, hi⟩)
  · simpa [hi] using h
set_option maxRecDepth 65536 in
theorem w_c0 : (Jvm.Cond.code x code maxLocals ret).before args0 about1 = true := code_word (m := ⟨1, 4⟩) (meth := k1m4) (c := k1c4) (by decide +kernel) rfl rfl rfl (by decide +kernel)
set_option maxRecDepth 65536 in
theorem w_c1 : (Jvm.Cond.code ({ cls := "com/example/herder/herder/Dictionary", name := "of", desc := "([B)Lcom/example/herder/herder/Dictionary;" } : Jvm.MethodName) prog_1_method_3_code (8 : Nat) (Option.some (Jvm.ClassFile.FieldType.object "com/example/herder/herder/Dictionary"))).before args0 about1 = true := code_word (m := ⟨2, 1⟩) (meth := k2m1) (c := k2c1) (by decide +kernel) rfl rfl rfl (by decide +kernel)
set_option maxRecDepth 65536 in
theorem w_c2 : (Jvm.Cond.code ({ cls := "com/example/herder/herder/Dictionary", name := "<init>", desc := "([B[I[I)V" } : Jvm.MethodName) prog_1_method_1_code (4 : Nat) (Option.none : Option Jvm.ClassFile.FieldType)).before args0 about1 = true := code_word (m := ⟨2, 0⟩) (meth := k2m0) (c := k2c0) (by decide +kernel) rfl rfl rfl (by decide +kernel)
set_option maxRecDepth 65536 in
theorem w_c3 : (Jvm.Cond.code ({ cls := "java/lang/Object", name := "<init>", desc := "()V" } : Jvm.MethodName) object_method_1_code (1 : Nat) (Option.none : Option Jvm.ClassFile.FieldType)).before args0 about1 = true := code_word (m := ⟨0, 0⟩) (meth := k0m0) (c := k0c0) (by decide +kernel) rfl rfl rfl (by decide +kernel)
set_option maxRecDepth 65536 in
theorem w_c4 : (Jvm.Cond.code ({ cls := "com/example/herder/herder/Dictionary", name := "size", desc := "()I" } : Jvm.MethodName) prog_1_method_4_code (1 : Nat) (Option.some Jvm.ClassFile.FieldType.int)).before args0 about1 = true := code_word (m := ⟨2, 2⟩) (meth := k2m2) (c := k2c2) (by decide +kernel) rfl rfl rfl (by decide +kernel)
set_option maxRecDepth 65536 in
theorem w_c5 : (Jvm.Cond.code ({ cls := "com/example/herder/herder/DictionaryOfPinLaw", name := "pick", desc := "(I)B" } : Jvm.MethodName) method_2_code (2 : Nat) (Option.some Jvm.ClassFile.FieldType.byte)).before args0 about1 = true := code_word (m := ⟨1, 1⟩) (meth := k1m1) (c := k1c1) (by decide +kernel) rfl rfl rfl (by decide +kernel)
set_option maxRecDepth 65536 in
theorem w_c6 : (Jvm.Cond.code ({ cls := "com/example/herder/herder/DictionaryOfPinLaw", name := "lineOk", desc := "(Lcom/example/herder/herder/Dictionary;[BII)Z" } : Jvm.MethodName) method_4_code (9 : Nat) (Option.some Jvm.ClassFile.FieldType.boolean)).before args0 about1 = true := code_word (m := ⟨1, 3⟩) (meth := k1m3) (c := k1c3) (by decide +kernel) rfl rfl rfl (by decide +kernel)
set_option maxRecDepth 65536 in
theorem w_c7 : (Jvm.Cond.code ({ cls := "com/example/herder/herder/Dictionary", name := "line", desc := "(I)[B" } : Jvm.MethodName) prog_1_method_6_code (2 : Nat) (Option.some (Jvm.ClassFile.FieldType.array Jvm.ClassFile.FieldType.byte))).before args0 about1 = true := code_word (m := ⟨2, 3⟩) (meth := k2m3) (c := k2c3) (by decide +kernel) rfl rfl rfl (by decide +kernel)
set_option maxRecDepth 65536 in
theorem w_c8 : (Jvm.Cond.code ({ cls := "java/util/Arrays", name := "copyOfRange", desc := "([BII)[B" } : Jvm.MethodName) jdk_65_method_132_code (3 : Nat) (Option.some (Jvm.ClassFile.FieldType.array Jvm.ClassFile.FieldType.byte))).before args0 about1 = true := code_word (m := ⟨3, 2⟩) (meth := k3m2) (c := k3c2) (by decide +kernel) rfl rfl rfl (by decide +kernel)
set_option maxRecDepth 65536 in
theorem w_c9 : (Jvm.Cond.code ({ cls := "java/util/Arrays", name := "copyOfRangeByte", desc := "([BII)[B" } : Jvm.MethodName) jdk_65_method_133_code (5 : Nat) (Option.some (Jvm.ClassFile.FieldType.array Jvm.ClassFile.FieldType.byte))).before args0 about1 = true := code_word (m := ⟨3, 3⟩) (meth := k3m3) (c := k3c3) (by decide +kernel) rfl rfl rfl (by decide +kernel)
set_option maxRecDepth 65536 in
theorem w_c10 : (Jvm.Cond.code ({ cls := "java/util/Arrays", name := "checkLength", desc := "(II)V" } : Jvm.MethodName) jdk_65_method_131_code (2 : Nat) (Option.none : Option Jvm.ClassFile.FieldType)).before args0 about1 = true := code_word (m := ⟨3, 1⟩) (meth := k3m1) (c := k3c1) (by decide +kernel) rfl rfl rfl (by decide +kernel)
set_option maxRecDepth 65536 in
theorem w_c11 : (Jvm.Cond.code ({ cls := "java/lang/Math", name := "min", desc := "(II)I" } : Jvm.MethodName) jdk_29_method_69_code (2 : Nat) (Option.some Jvm.ClassFile.FieldType.int)).before args0 about1 = true := code_word (m := ⟨4, 1⟩) (meth := k4m1) (c := k4c1) (by decide +kernel) rfl rfl rfl (by decide +kernel)
set_option maxRecDepth 65536 in
theorem w_c12 : (Jvm.Cond.code ({ cls := "com/example/herder/herder/DictionaryOfPinLaw", name := "lfPos", desc := "([BII)I" } : Jvm.MethodName) method_3_code (4 : Nat) (Option.some Jvm.ClassFile.FieldType.int)).before args0 about1 = true := code_word (m := ⟨1, 2⟩) (meth := k1m2) (c := k1c2) (by decide +kernel) rfl rfl rfl (by decide +kernel)
def codes1 : List Jvm.Cond := [Jvm.Cond.code x code maxLocals ret, Jvm.Cond.code ({ cls := "com/example/herder/herder/Dictionary", name := "of", desc := "([B)Lcom/example/herder/herder/Dictionary;" } : Jvm.MethodName) prog_1_method_3_code (8 : Nat) (Option.some (Jvm.ClassFile.FieldType.object "com/example/herder/herder/Dictionary")), Jvm.Cond.code ({ cls := "com/example/herder/herder/Dictionary", name := "<init>", desc := "([B[I[I)V" } : Jvm.MethodName) prog_1_method_1_code (4 : Nat) (Option.none : Option Jvm.ClassFile.FieldType), Jvm.Cond.code ({ cls := "java/lang/Object", name := "<init>", desc := "()V" } : Jvm.MethodName) object_method_1_code (1 : Nat) (Option.none : Option Jvm.ClassFile.FieldType), Jvm.Cond.code ({ cls := "com/example/herder/herder/Dictionary", name := "size", desc := "()I" } : Jvm.MethodName) prog_1_method_4_code (1 : Nat) (Option.some Jvm.ClassFile.FieldType.int), Jvm.Cond.code ({ cls := "com/example/herder/herder/DictionaryOfPinLaw", name := "pick", desc := "(I)B" } : Jvm.MethodName) method_2_code (2 : Nat) (Option.some Jvm.ClassFile.FieldType.byte), Jvm.Cond.code ({ cls := "com/example/herder/herder/DictionaryOfPinLaw", name := "lineOk", desc := "(Lcom/example/herder/herder/Dictionary;[BII)Z" } : Jvm.MethodName) method_4_code (9 : Nat) (Option.some Jvm.ClassFile.FieldType.boolean), Jvm.Cond.code ({ cls := "com/example/herder/herder/Dictionary", name := "line", desc := "(I)[B" } : Jvm.MethodName) prog_1_method_6_code (2 : Nat) (Option.some (Jvm.ClassFile.FieldType.array Jvm.ClassFile.FieldType.byte)), Jvm.Cond.code ({ cls := "java/util/Arrays", name := "copyOfRange", desc := "([BII)[B" } : Jvm.MethodName) jdk_65_method_132_code (3 : Nat) (Option.some (Jvm.ClassFile.FieldType.array Jvm.ClassFile.FieldType.byte)), Jvm.Cond.code ({ cls := "java/util/Arrays", name := "copyOfRangeByte", desc := "([BII)[B" } : Jvm.MethodName) jdk_65_method_133_code (5 : Nat) (Option.some (Jvm.ClassFile.FieldType.array Jvm.ClassFile.FieldType.byte)), Jvm.Cond.code ({ cls := "java/util/Arrays", name := "checkLength", desc := "(II)V" } : Jvm.MethodName) jdk_65_method_131_code (2 : Nat) (Option.none : Option Jvm.ClassFile.FieldType), Jvm.Cond.code ({ cls := "java/lang/Math", name := "min", desc := "(II)I" } : Jvm.MethodName) jdk_29_method_69_code (2 : Nat) (Option.some Jvm.ClassFile.FieldType.int), Jvm.Cond.code ({ cls := "com/example/herder/herder/DictionaryOfPinLaw", name := "lfPos", desc := "([BII)I" } : Jvm.MethodName) method_3_code (4 : Nat) (Option.some Jvm.ClassFile.FieldType.int)]
set_option maxRecDepth 65536 in
theorem codes_eq : words1.filter isCode = codes1 := rfl
theorem w_codes : ∀ c ∈ words1.filter isCode, c.before args0 about1 = true := by
  rw [codes_eq]
  intro c hc
  simp only [codes1, List.mem_cons, List.not_mem_nil, or_false] at hc
  rcases hc with rfl | rfl | rfl | rfl | rfl | rfl | rfl | rfl | rfl | rfl | rfl | rfl | rfl
  · exact w_c0
  · exact w_c1
  · exact w_c2
  · exact w_c3
  · exact w_c4
  · exact w_c5
  · exact w_c6
  · exact w_c7
  · exact w_c8
  · exact w_c9
  · exact w_c10
  · exact w_c11
  · exact w_c12
set_option maxRecDepth 65536 in
theorem w_t1 : (words1.take 24).all (fun c => isCode c || c.before args0 about1) = true := by decide +kernel
set_option maxRecDepth 65536 in
theorem w_t2 : ((words1.drop 24).take 24).all (fun c => isCode c || c.before args0 about1) = true := by decide +kernel
set_option maxRecDepth 65536 in
theorem w_t3 : ((words1.drop 24).drop 24).all (fun c => isCode c || c.before args0 about1) = true := by decide +kernel
theorem w_tables : (allAtoms (Jvm.Cond.code x code maxLocals ret :: tables_1)).before args0 about1 = true := by
  rw [allAtoms_all]
  show words1.all (fun c => c.before args0 about1) = true
  refine all_split ?_ w_codes
  rw [← List.take_append_drop 24 words1, List.all_append, w_t1, ← List.take_append_drop 24 (words1.drop 24), List.all_append, w_t2, w_t3]
  rfl
set_option maxRecDepth 65536 in
theorem w_case : (Jvm.Cond.and given_1 narrow_1).before args0 about1 = true := by decide +kernel
theorem w_applies : (headSpec (Jvm.Cond.code x code maxLocals ret :: tables_1) room_1).applies x e0.platform about1 = true :=
  (Spec.applies_iff w_frames).mpr ⟨w_running, w_runnable, w_alone, w_named, w_hears, w_ripe, w_room, w_tables⟩
theorem atStart : AtStart classFile x code maxLocals ret World_1 tables_1 room_1 Calls_1 rest_1 Pre_1 launch0 p0 e0 about1 theMethod args0 below0 :=
  ⟨lists_1, trivial, launch0.admits_env _ _ _, launch0.least_env, fairChoices_fair.cas, fairChoices_fair.clock, w_frames, w_args, w_heap, w_applies, trivial, trivial, w_case⟩
end start1
theorem witness_1 : WitnessClaimed_1 := ⟨start1.p0, start1.e0, start1.about1, start1.theMethod, start1.args0, start1.below0, start1.atStart⟩
end Jvm.Pilot.@@N@@
