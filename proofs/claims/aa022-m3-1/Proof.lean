import JvmDerived
import JvmDerived.Pilot.@@N@@Statement
import JvmDerived.Pilot.@@N@@Code
set_option linter.unusedVariables false
set_option linter.unusedSimpArgs false
namespace Jvm.Own
open Jvm Jvm.ClassFile Sem Op Lib Jvm.Free Jvm.Stand Jvm.LawKit Jvm.RoadKit
def OHr (p : Program) (l : Launch) (e : Env) (R : Room) (s : State) (m : MethodId) (args : Array Value) (below : List Frame) (meth : Method) (c : Code) (Z : State) (n0 : Nat) (own nm : String) (code : ByteArray) (maxL : Nat) (ret : Option FieldType) (T : State) (h : Heap) (ce sl : Nat) : Prop :=
  (p.tables.exec = Jvm.exec ∧ Z.Warmed39 s.vm ∧ c.code = code ∧ c.maxLocals = maxL ∧ s.vm.findClass own = some m.cls ∧ meth.name = nm ∧ meth.sig.returnType = ret ∧ meth.locks = false) ∧
  ∃ locs, Stand p l e R s m args below meth c T locs ce sl ∧ T.heap = h ∧ Fr n0 locs ∧ n0 ≤ h.size
def OEnds (p : Program) (e : Env) (below : List Frame) (s : State) (n0 : Nat) (Q : Option Value → Heap → Prop) (C S : Nat) (T : State) (g : JFrame) : Prop :=
  ∃ s₂ o, Steps p.tables e below (T.setTop g) s₂ ∧ s₂.status = .running ∧ Ended s₂ below o ∧ ∃ v L, o = .returned v ∧ (Fr n0 L ∧ Q v s₂.heap) ∧ FrameEnd s o s₂ L C S
def OMet (l : Launch) (Z : State) (n0 : Nat) (y : MethodName) (bytes : ByteArray) (maxL : Nat) (ret : Option FieldType) (rm : Room) (as : Array Value) (h0 : Heap) (Q : Option Value → Heap → Prop) : Prop :=
  ∀ ws, MetFree l y (head1 (Cond.code y bytes maxL ret :: ws) rm) (fun a U => a = as ∧ Z.Warmed39 U.vm ∧ U.heap = h0) (fun _ _ _ _ _ => True) (fun _ U o U' => ∃ v L, o = .returned v ∧ (Fr n0 L ∧ h0.size ≤ U'.heap.size ∧ Q v U'.heap) ∧ FrameEnd U o U' L rm.cells rm.slots)
theorem OMet.of {l : Launch} {Z : State} {n0 : Nat} {y : MethodName} {bytes : ByteArray} {maxL : Nat} {ret : Option FieldType} {rm : Room} {as : Array Value} {h0 : Heap} {Q : Option Value → Heap → Prop} {Ls : Array Slot}
    (pn : plainFor y = true) (Z0 : n0 ≤ h0.size) (ef : ∀ m, entryFrame m as maxL = mkF m 0 Ls [])
    (body : ∀ p e s m below meth c T, OHr p l e rm s m as below meth c Z n0 y.cls y.name bytes maxL ret T h0 0 0 → OEnds p e below s n0 Q rm.cells rm.slots T (mkF m 0 Ls [])) : OMet l Z n0 y bytes maxL ret rm as h0 Q := by
  intro ws
  refine MetFree.of_bodySF pn hisR ?_
  intro p e s m args below meth c s₁ Bd hml0 hP hK
  obtain ⟨rfl, hZ, hh⟩ := hP
  have X0 : Stand p l e rm s m _ below meth c s₁ [] 0 0 := Stand.of_body Bd
  have e0 : s₁.heap = h0 := by rw [← hh, Bd.state]; rfl
  rw [ef]
  obtain ⟨s₂, o, g1, g2, g3, v, L, g4, ⟨g5, g6⟩, g7⟩ := body p e s m below meth c s₁ ⟨⟨Bd.exec, hZ, Bd.bytes, hml0, findClass_of_methodNamed Bd.named, (name_of_methodNamed Bd.named Bd.method).1, Bd.returns, Bd.notSynchronized⟩, [], X0, e0, Fr.nil n0, Z0⟩
  exact ⟨s₂, o, g1, g2, g3, v, L, g4, ⟨g5, by rw [← hh]; exact g7.2.2.2.1, g6⟩, g7⟩
theorem OMet.mono {l : Launch} {Z : State} {n0 : Nat} {y : MethodName} {bytes : ByteArray} {maxL : Nat} {ret : Option FieldType} {rm : Room} {as : Array Value} {h0 : Heap} {Q Q' : Option Value → Heap → Prop}
    (M : OMet l Z n0 y bytes maxL ret rm as h0 Q) (q : ∀ v h, Q v h → Q' v h) : OMet l Z n0 y bytes maxL ret rm as h0 Q' := by
  intro ws p e h1 h2 h3 s m args below h4 h5 h6 h7
  obtain ⟨n, o, k1, k2, k3, v, L, k4, ⟨k5, k5', k6⟩, k7⟩ := M ws p e h1 h2 h3 s m args below h4 h5 h6 h7
  exact ⟨n, o, k1, k2, k3, v, L, k4, ⟨k5, k5', q _ _ k6⟩, k7⟩
/-! arrays by the list of their values -/
def OAry (Z : State) (h : Heap) (a : Addr) (ty : FieldType) (vs : List Value) : Prop := ∃ c : Cell, Arr Z h a c ty ∧ c.slots.toList = vs ∧ vs.length < 2 ^ 31 ∧ ∀ v ∈ vs, fits ty v = true
section Facts
variable {Z : State} {h h' : Heap} {a b : Nat} {ty : FieldType} {vs : List Value} {v : Value} {sl : Nat} {ws : List Addr} {i : Nat}
theorem OAry.lt (A : OAry Z h a ty vs) : a < h.size := by obtain ⟨c, A, -⟩ := A; exact A.lt
theorem OAry.ext (A : OAry Z h a ty vs) (E : Ext h h') : OAry Z h' a ty vs := by obtain ⟨c, A, r⟩ := A; exact ⟨c, A.ext E, r⟩
theorem OAry.other (A : OAry Z h b ty vs) (W : Wr h h' a sl v) (q : b ≠ a) : OAry Z h' b ty vs := by obtain ⟨c, A, r⟩ := A; exact ⟨c, A.other W q, r⟩
theorem OAry.keep (A : OAry Z h a ty vs) (K : Keep h h' ws) (q : a ∉ ws) : OAry Z h' a ty vs := by obtain ⟨c, A, r⟩ := A; exact ⟨c, ⟨K.2.1 _ _ A.1 q, A.2⟩, r⟩
theorem OAry.len (A : OAry Z h a ty vs) : vs.length < 2 ^ 31 := by obtain ⟨c, A, -, r, -⟩ := A; exact r
theorem OAry.fit (A : OAry Z h a ty vs) (q : v ∈ vs) : fits ty v = true := by obtain ⟨c, A, -, -, r⟩ := A; exact r v q
theorem OAry.new {cA : ClassId} {n : Int32} (A : Arr Z h a (newA cA ty n) ty) (hf : fits ty (defaultValue ty) = true) : OAry Z h a ty (List.replicate n.toNatClampNeg (defaultValue ty)) := by
  refine ⟨_, A, by simp [newA], ?_, ?_⟩
  · rw [List.length_replicate]
    have := n.toInt_lt
    have e : n.toNatClampNeg = n.toInt.toNat := rfl
    omega
  · intro v hv
    rw [List.eq_of_mem_replicate hv]
    exact hf
theorem OAry.wr (A : OAry Z h a ty vs) (W : Wr h h' a i v) (hf : fits ty v = true) : OAry Z h' a ty (vs.set i v) := by
  obtain ⟨c, A, r1, r2, r3⟩ := A
  refine ⟨_, A.same W, by simp [Cell.setSlot, r1], by simpa using r2, fun w hw => ?_⟩
  rcases List.mem_or_eq_of_mem_set hw with q | q
  · exact r3 w q
  · rw [q]; exact hf
theorem OAry.uniq {ty' : FieldType} {vs' : List Value} (A : OAry Z h a ty vs) (B : OAry Z h a ty' vs') : vs = vs' := by
  obtain ⟨c, A, r1, -⟩ := A
  obtain ⟨c', B, r1', -⟩ := B
  have e : c = c' := Option.some.inj (A.1.symm.trans B.1)
  subst e
  rw [← r1, ← r1']
theorem nat_idx {j : Int32} {i : Nat} (hj : j.toInt = (i : Int)) : j.toNatClampNeg = i ∧ ¬ j < 0 := by
  have e : j.toNatClampNeg = j.toInt.toNat := rfl
  refine ⟨by omega, ?_⟩
  rw [Int32.lt_iff_toInt_lt]
  have : (0 : Int32).toInt = 0 := rfl
  omega
theorem Fr.one {k : Nat} {L : List Loc} {a : Addr} {i : Nat} (N : Fr k L) (q : k ≤ a) : Fr k (L ++ [⟨a, i⟩]) := Fr.app N (fun y hy => by
  have e : y = ⟨a, i⟩ := List.mem_singleton.mp hy
  subst e; exact q)
theorem ext_size (E : Ext h h') : h.size ≤ h'.size := E.1
end Facts
section Go
variable {p : Program} {l : Launch} {e : Env} {R : Room} {s : State} {m : MethodId} {args : Array Value} {below : List Frame} {meth : Method} {c : Code} {Z : State} {n0 : Nat} {own nm : String} {code : ByteArray} {maxL : Nat} {ret : Option FieldType} {T : State} {h : Heap} {ce sl : Nat} {Q : Option Value → Heap → Prop} {C S : Nat} {pc : Nat} {Ls : Array Slot} {st : List Value} {a0 : Array Value}
theorem OHr.mono (H : OHr p l e R s m args below meth c Z n0 own nm code maxL ret T h ce sl) {ce' sl' : Nat} (q1 : ce ≤ ce') (q2 : sl ≤ sl') : OHr p l e R s m args below meth c Z n0 own nm code maxL ret T h ce' sl' := by
  obtain ⟨K, locs, X, r⟩ := H
  exact ⟨K, locs, { X with same := X.same.mono q1 q2 }, r⟩
theorem OHr.z0 (H : OHr p l e R s m args below meth c Z n0 own nm code maxL ret T h ce sl) : n0 ≤ h.size := by obtain ⟨K, locs, X, r1, r2, r3⟩ := H; exact r3
theorem go {T' : State} {g g' : JFrame} (q : ∀ t, Steps p.tables e below (T'.setTop g') t → Steps p.tables e below (T.setTop g) t) (k : OEnds p e below s n0 Q C S T' (g')) : OEnds p e below s n0 Q C S T (g) := by
  obtain ⟨a, o, h1, h2⟩ := k
  exact ⟨a, o, q _ h1, h2⟩
theorem go1 {T' : State} {g g' : JFrame} (q : Steps p.tables e below (T.setTop g) (T'.setTop g')) (k : OEnds p e below s n0 Q C S T' (g')) : OEnds p e below s n0 Q C S T (g) := by
  obtain ⟨a, o, h1, h2⟩ := k
  exact ⟨a, o, q.trans h1, h2⟩
theorem cut {A : Type} (P : A → Prop) (g : A → JFrame) {g0 : JFrame} (k : ∀ a, P a → OEnds p e below s n0 Q C S T (g a)) (main : (∀ a, P a → OEnds p e below s n0 Q C S T (g a)) → OEnds p e below s n0 Q C S T (g0)) : OEnds p e below s n0 Q C S T (g0) := main k
theorem cast {g g' : JFrame} (q : g = g') (k : OEnds p e below s n0 Q C S T (g')) : OEnds p e below s n0 Q C S T (g) := q ▸ k
theorem iload_n (H : OHr p l e R s m args below meth c Z n0 own nm code maxL ret T h ce sl) {k : Fin 4} {v : Int32} (hd : decode code pc = .ok (.iload_n k, 1)) (hl : Ls[k.val]? = some (.val (.int v))) (k : OEnds p e below s n0 Q C S T (mkF m (pc + 1) Ls (.int v :: st))) : OEnds p e below s n0 Q C S T (mkF m pc Ls (st)) := by
  obtain ⟨⟨hx, hZ, hby, hml, hown, hnm, hrt, hlk⟩, locs, X, eT, N, z0⟩ := H
  exact go (fun t q => XS.iloadN X.here hx rfl (hb hby hd) hl q) k
theorem lload_n (H : OHr p l e R s m args below meth c Z n0 own nm code maxL ret T h ce sl) {k : Fin 4} {v : Int64} (hd : decode code pc = .ok (.lload_n k, 1)) (hl : Ls[k.val]? = some (.val (.long v))) (k : OEnds p e below s n0 Q C S T (mkF m (pc + 1) Ls (.long v :: st))) : OEnds p e below s n0 Q C S T (mkF m pc Ls (st)) := by
  obtain ⟨⟨hx, hZ, hby, hml, hown, hnm, hrt, hlk⟩, locs, X, eT, N, z0⟩ := H
  exact go (fun t q => XT.lloadN X.here hx rfl (hb hby hd) hl q) k
theorem iload (H : OHr p l e R s m args below meth c Z n0 own nm code maxL ret T h ce sl) {k : Nat} {v : Int32} (hd : decode code pc = .ok (.iload k, 2)) (hl : Ls[k]? = some (.val (.int v))) (k : OEnds p e below s n0 Q C S T (mkF m (pc + 2) Ls (.int v :: st))) : OEnds p e below s n0 Q C S T (mkF m pc Ls (st)) := by
  obtain ⟨⟨hx, hZ, hby, hml, hown, hnm, hrt, hlk⟩, locs, X, eT, N, z0⟩ := H
  exact go (fun t q => XS.iload X.here hx rfl (hb hby hd) hl q) k
theorem lload (H : OHr p l e R s m args below meth c Z n0 own nm code maxL ret T h ce sl) {k : Nat} {v : Int64} (hd : decode code pc = .ok (.lload k, 2)) (hl : Ls[k]? = some (.val (.long v))) (k : OEnds p e below s n0 Q C S T (mkF m (pc + 2) Ls (.long v :: st))) : OEnds p e below s n0 Q C S T (mkF m pc Ls (st)) := by
  obtain ⟨⟨hx, hZ, hby, hml, hown, hnm, hrt, hlk⟩, locs, X, eT, N, z0⟩ := H
  exact go (fun t q => XT.lload X.here hx rfl (hb hby hd) hl q) k
theorem aload_n (H : OHr p l e R s m args below meth c Z n0 own nm code maxL ret T h ce sl) {k : Fin 4} {v : Value} (hd : decode code pc = .ok (.aload_n k, 1)) (hl : Ls[k.val]? = some (.val v)) (hv : v.isRef = true) (k : OEnds p e below s n0 Q C S T (mkF m (pc + 1) Ls (v :: st))) : OEnds p e below s n0 Q C S T (mkF m pc Ls (st)) := by
  obtain ⟨⟨hx, hZ, hby, hml, hown, hnm, hrt, hlk⟩, locs, X, eT, N, z0⟩ := H
  exact go (fun t q => XS.aloadN X.here hx rfl (hb hby hd) hl hv q) k
theorem aload (H : OHr p l e R s m args below meth c Z n0 own nm code maxL ret T h ce sl) {k : Nat} {v : Value} (hd : decode code pc = .ok (.aload k, 2)) (hl : Ls[k]? = some (.val v)) (hv : v.isRef = true) (k : OEnds p e below s n0 Q C S T (mkF m (pc + 2) Ls (v :: st))) : OEnds p e below s n0 Q C S T (mkF m pc Ls (st)) := by
  obtain ⟨⟨hx, hZ, hby, hml, hown, hnm, hrt, hlk⟩, locs, X, eT, N, z0⟩ := H
  exact go (fun t q => XS.aload X.here hx rfl (hb hby hd) hl hv q) k
theorem istore_n (H : OHr p l e R s m args below meth c Z n0 own nm code maxL ret T h ce sl) {k : Fin 4} {v : Int32} (l' : Array Slot) (hd : decode code pc = .ok (.istore_n k, 1)) (hl : storeLocals Ls k.val (.int v) = some l') (k : OEnds p e below s n0 Q C S T (mkF m (pc + 1) l' (st))) : OEnds p e below s n0 Q C S T (mkF m pc Ls (.int v :: st)) := by
  obtain ⟨⟨hx, hZ, hby, hml, hown, hnm, hrt, hlk⟩, locs, X, eT, N, z0⟩ := H
  exact go (fun t q => XS.istoreN X.here hx rfl (hb hby hd) rfl hl q) k
theorem istore (H : OHr p l e R s m args below meth c Z n0 own nm code maxL ret T h ce sl) {k : Nat} {v : Int32} (l' : Array Slot) (hd : decode code pc = .ok (.istore k, 2)) (hl : storeLocals Ls k (.int v) = some l') (k : OEnds p e below s n0 Q C S T (mkF m (pc + 2) l' (st))) : OEnds p e below s n0 Q C S T (mkF m pc Ls (.int v :: st)) := by
  obtain ⟨⟨hx, hZ, hby, hml, hown, hnm, hrt, hlk⟩, locs, X, eT, N, z0⟩ := H
  exact go (fun t q => XS.istore X.here hx rfl (hb hby hd) rfl hl q) k
theorem lstore_n (H : OHr p l e R s m args below meth c Z n0 own nm code maxL ret T h ce sl) {k : Fin 4} {v : Int64} (l' : Array Slot) (hd : decode code pc = .ok (.lstore_n k, 1)) (hl : storeLocals Ls k.val (.long v) = some l') (k : OEnds p e below s n0 Q C S T (mkF m (pc + 1) l' (st))) : OEnds p e below s n0 Q C S T (mkF m pc Ls (.long v :: st)) := by
  obtain ⟨⟨hx, hZ, hby, hml, hown, hnm, hrt, hlk⟩, locs, X, eT, N, z0⟩ := H
  exact go (fun t q => XT.lstoreN X.here hx rfl (hb hby hd) rfl hl q) k
theorem lstore (H : OHr p l e R s m args below meth c Z n0 own nm code maxL ret T h ce sl) {k : Nat} {v : Int64} (l' : Array Slot) (hd : decode code pc = .ok (.lstore k, 2)) (hl : storeLocals Ls k (.long v) = some l') (k : OEnds p e below s n0 Q C S T (mkF m (pc + 2) l' (st))) : OEnds p e below s n0 Q C S T (mkF m pc Ls (.long v :: st)) := by
  obtain ⟨⟨hx, hZ, hby, hml, hown, hnm, hrt, hlk⟩, locs, X, eT, N, z0⟩ := H
  exact go (fun t q => XT.lstore X.here hx rfl (hb hby hd) rfl hl q) k
theorem astore_n (H : OHr p l e R s m args below meth c Z n0 own nm code maxL ret T h ce sl) {k : Fin 4} {v : Value} (l' : Array Slot) (hd : decode code pc = .ok (.astore_n k, 1)) (hv : v.isRef = true) (hl : storeLocals Ls k.val v = some l') (k : OEnds p e below s n0 Q C S T (mkF m (pc + 1) l' (st))) : OEnds p e below s n0 Q C S T (mkF m pc Ls (v :: st)) := by
  obtain ⟨⟨hx, hZ, hby, hml, hown, hnm, hrt, hlk⟩, locs, X, eT, N, z0⟩ := H
  exact go (fun t q => XS.astoreN X.here hx rfl (hb hby hd) rfl hv hl q) k
theorem astore (H : OHr p l e R s m args below meth c Z n0 own nm code maxL ret T h ce sl) {k : Nat} {v : Value} (l' : Array Slot) (hd : decode code pc = .ok (.astore k, 2)) (hv : v.isRef = true) (hl : storeLocals Ls k v = some l') (k : OEnds p e below s n0 Q C S T (mkF m (pc + 2) l' (st))) : OEnds p e below s n0 Q C S T (mkF m pc Ls (v :: st)) := by
  obtain ⟨⟨hx, hZ, hby, hml, hown, hnm, hrt, hlk⟩, locs, X, eT, N, z0⟩ := H
  exact go (fun t q => XS.astore X.here hx rfl (hb hby hd) rfl hv hl q) k
theorem iinc (H : OHr p l e R s m args below meth c Z n0 own nm code maxL ret T h ce sl) {k : Nat} {cst : Int} {x : Int32} (d : Int32) (l' : Array Slot) (hd : decode code pc = .ok (.iinc k cst, 3)) (hl : Ls[k]? = some (.val (.int x))) (hv : Int32.ofInt cst = d) (hl' : storeLocals Ls k (.int (x + d)) = some l') (k : OEnds p e below s n0 Q C S T (mkF m (pc + 3) l' (st))) : OEnds p e below s n0 Q C S T (mkF m pc Ls (st)) := by
  obtain ⟨⟨hx, hZ, hby, hml, hown, hnm, hrt, hlk⟩, locs, X, eT, N, z0⟩ := H
  exact go (fun t q => XS.iinc X.here hx rfl (hb hby hd) hl (by rw [hv]; exact hl') q) k
theorem iinc_c (H : OHr p l e R s m args below meth c Z n0 own nm code maxL ret T h ce sl) {k : Nat} {cst : Int} {x : Int32} (r : Int32) (l' : Array Slot) (hd : decode code pc = .ok (.iinc k cst, 3)) (hl : Ls[k]? = some (.val (.int x))) (hr : x + Int32.ofInt cst = r) (hl' : storeLocals Ls k (.int r) = some l') (kk : OEnds p e below s n0 Q C S T (mkF m (pc + 3) l' st)) : OEnds p e below s n0 Q C S T (mkF m pc Ls st) := by
  subst hr
  exact iinc H _ l' hd hl rfl hl' kk
theorem iconst (H : OHr p l e R s m args below meth c Z n0 own nm code maxL ret T h ce sl) {i : Int} (v : Int32) (hd : decode code pc = .ok (.iconst i, 1)) (hv : Int32.ofInt i = v) (k : OEnds p e below s n0 Q C S T (mkF m (pc + 1) Ls (.int v :: st))) : OEnds p e below s n0 Q C S T (mkF m pc Ls st) := by
  obtain ⟨⟨hx, hZ, hby, hml, hown, hnm, hrt, hlk⟩, locs, X, eT, N, z0⟩ := H
  subst hv
  exact go (fun t q => XS.iconst X.here hx rfl (hb hby hd) q) k
theorem bipush (H : OHr p l e R s m args below meth c Z n0 own nm code maxL ret T h ce sl) {i : Int} (v : Int32) (hd : decode code pc = .ok (.bipush i, 2)) (hv : (Int8.ofInt i).toInt32 = v) (k : OEnds p e below s n0 Q C S T (mkF m (pc + 2) Ls (.int v :: st))) : OEnds p e below s n0 Q C S T (mkF m pc Ls st) := by
  obtain ⟨⟨hx, hZ, hby, hml, hown, hnm, hrt, hlk⟩, locs, X, eT, N, z0⟩ := H
  subst hv
  exact go (fun t q => XS.bipush X.here hx rfl (hb hby hd) q) k
theorem sipush (H : OHr p l e R s m args below meth c Z n0 own nm code maxL ret T h ce sl) {i : Int} (v : Int32) (hd : decode code pc = .ok (.sipush i, 3)) (hv : (Int16.ofInt i).toInt32 = v) (k : OEnds p e below s n0 Q C S T (mkF m (pc + 3) Ls (.int v :: st))) : OEnds p e below s n0 Q C S T (mkF m pc Ls st) := by
  obtain ⟨⟨hx, hZ, hby, hml, hown, hnm, hrt, hlk⟩, locs, X, eT, N, z0⟩ := H
  subst hv
  exact go (fun t q => XS.sipush X.here hx rfl (hb hby hd) q) k
theorem lconst (H : OHr p l e R s m args below meth c Z n0 own nm code maxL ret T h ce sl) {i : Fin 2} (v : Int64) (hd : decode code pc = .ok (.lconst i, 1)) (hv : Int64.ofNat i = v) (k : OEnds p e below s n0 Q C S T (mkF m (pc + 1) Ls (.long v :: st))) : OEnds p e below s n0 Q C S T (mkF m pc Ls st) := by
  obtain ⟨⟨hx, hZ, hby, hml, hown, hnm, hrt, hlk⟩, locs, X, eT, N, z0⟩ := H
  subst hv
  exact go (fun t q => XT.lconst X.here hx rfl (hb hby hd) q) k
theorem aconst_null (H : OHr p l e R s m args below meth c Z n0 own nm code maxL ret T h ce sl)  (hd : decode code pc = .ok (.aconst_null, 1))  (k : OEnds p e below s n0 Q C S T (mkF m (pc + 1) Ls (.null :: st))) : OEnds p e below s n0 Q C S T (mkF m pc Ls (st)) := by
  obtain ⟨⟨hx, hZ, hby, hml, hown, hnm, hrt, hlk⟩, locs, X, eT, N, z0⟩ := H
  exact go (fun t q => XS.aconstNull X.here hx rfl (hb hby hd) q) k
theorem ldc (H : OHr p l e R s m args below meth c Z n0 own nm code maxL ret T h ce sl) {i : Nat} {v : Int32} (hd : decode code pc = .ok (.ldc i, 2)) (w : (Cond.constant own i v).before a0 Z = true) (k : OEnds p e below s n0 Q C S T (mkF m (pc + 2) Ls (.int v :: st))) : OEnds p e below s n0 Q C S T (mkF m pc Ls st) := by
  obtain ⟨⟨hx, hZ, hby, hml, hown, hnm, hrt, hlk⟩, locs, X, eT, N, z0⟩ := H
  exact go (X.ldcInt hx hown (mvT hZ w) rfl (hb hby hd)) k
theorem ldc2_w (H : OHr p l e R s m args below meth c Z n0 own nm code maxL ret T h ce sl) {i : Nat} {v : Int64} (hd : decode code pc = .ok (.ldc2_w i, 3)) (w : (Cond.constantLong own i v).before a0 Z = true) (k : OEnds p e below s n0 Q C S T (mkF m (pc + 3) Ls (.long v :: st))) : OEnds p e below s n0 Q C S T (mkF m pc Ls st) := by
  obtain ⟨⟨hx, hZ, hby, hml, hown, hnm, hrt, hlk⟩, locs, X, eT, N, z0⟩ := H
  exact go (X.ldc2Long hx hown (mvT hZ w) rfl (hb hby hd)) k
theorem iadd (H : OHr p l e R s m args below meth c Z n0 own nm code maxL ret T h ce sl) {x y : Int32} (hd : decode code pc = .ok (.iadd, 1))  (k : OEnds p e below s n0 Q C S T (mkF m (pc + 1) Ls (.int (x + y) :: st))) : OEnds p e below s n0 Q C S T (mkF m pc Ls (.int y :: .int x :: st)) := by
  obtain ⟨⟨hx, hZ, hby, hml, hown, hnm, hrt, hlk⟩, locs, X, eT, N, z0⟩ := H
  exact go (fun t q => XS.iadd X.here hx rfl (hb hby hd) rfl q) k
theorem isub (H : OHr p l e R s m args below meth c Z n0 own nm code maxL ret T h ce sl) {x y : Int32} (hd : decode code pc = .ok (.isub, 1))  (k : OEnds p e below s n0 Q C S T (mkF m (pc + 1) Ls (.int (x - y) :: st))) : OEnds p e below s n0 Q C S T (mkF m pc Ls (.int y :: .int x :: st)) := by
  obtain ⟨⟨hx, hZ, hby, hml, hown, hnm, hrt, hlk⟩, locs, X, eT, N, z0⟩ := H
  exact go (fun t q => XS.isub X.here hx rfl (hb hby hd) rfl q) k
theorem imul (H : OHr p l e R s m args below meth c Z n0 own nm code maxL ret T h ce sl) {x y : Int32} (hd : decode code pc = .ok (.imul, 1))  (k : OEnds p e below s n0 Q C S T (mkF m (pc + 1) Ls (.int (x * y) :: st))) : OEnds p e below s n0 Q C S T (mkF m pc Ls (.int y :: .int x :: st)) := by
  obtain ⟨⟨hx, hZ, hby, hml, hown, hnm, hrt, hlk⟩, locs, X, eT, N, z0⟩ := H
  exact go (fun t q => XS.imul X.here hx rfl (hb hby hd) rfl q) k
theorem iand (H : OHr p l e R s m args below meth c Z n0 own nm code maxL ret T h ce sl) {x y : Int32} (hd : decode code pc = .ok (.iand, 1))  (k : OEnds p e below s n0 Q C S T (mkF m (pc + 1) Ls (.int (x &&& y) :: st))) : OEnds p e below s n0 Q C S T (mkF m pc Ls (.int y :: .int x :: st)) := by
  obtain ⟨⟨hx, hZ, hby, hml, hown, hnm, hrt, hlk⟩, locs, X, eT, N, z0⟩ := H
  exact go (fun t q => XS.iand X.here hx rfl (hb hby hd) rfl q) k
theorem ior (H : OHr p l e R s m args below meth c Z n0 own nm code maxL ret T h ce sl) {x y : Int32} (hd : decode code pc = .ok (.ior, 1))  (k : OEnds p e below s n0 Q C S T (mkF m (pc + 1) Ls (.int (x ||| y) :: st))) : OEnds p e below s n0 Q C S T (mkF m pc Ls (.int y :: .int x :: st)) := by
  obtain ⟨⟨hx, hZ, hby, hml, hown, hnm, hrt, hlk⟩, locs, X, eT, N, z0⟩ := H
  exact go (fun t q => XT.ior X.here hx rfl (hb hby hd) rfl q) k
theorem ixor (H : OHr p l e R s m args below meth c Z n0 own nm code maxL ret T h ce sl) {x y : Int32} (hd : decode code pc = .ok (.ixor, 1))  (k : OEnds p e below s n0 Q C S T (mkF m (pc + 1) Ls (.int (x ^^^ y) :: st))) : OEnds p e below s n0 Q C S T (mkF m pc Ls (.int y :: .int x :: st)) := by
  obtain ⟨⟨hx, hZ, hby, hml, hown, hnm, hrt, hlk⟩, locs, X, eT, N, z0⟩ := H
  exact go (fun t q => XT.ixor X.here hx rfl (hb hby hd) rfl q) k
theorem ishl (H : OHr p l e R s m args below meth c Z n0 own nm code maxL ret T h ce sl) {x y : Int32} (hd : decode code pc = .ok (.ishl, 1))  (k : OEnds p e below s n0 Q C S T (mkF m (pc + 1) Ls (.int (x <<< (y &&& 31)) :: st))) : OEnds p e below s n0 Q C S T (mkF m pc Ls (.int y :: .int x :: st)) := by
  obtain ⟨⟨hx, hZ, hby, hml, hown, hnm, hrt, hlk⟩, locs, X, eT, N, z0⟩ := H
  exact go (fun t q => XT.ishl X.here hx rfl (hb hby hd) rfl q) k
theorem ishr (H : OHr p l e R s m args below meth c Z n0 own nm code maxL ret T h ce sl) {x y : Int32} (hd : decode code pc = .ok (.ishr, 1))  (k : OEnds p e below s n0 Q C S T (mkF m (pc + 1) Ls (.int (x >>> (y &&& 31)) :: st))) : OEnds p e below s n0 Q C S T (mkF m pc Ls (.int y :: .int x :: st)) := by
  obtain ⟨⟨hx, hZ, hby, hml, hown, hnm, hrt, hlk⟩, locs, X, eT, N, z0⟩ := H
  exact go (fun t q => XT.ishr X.here hx rfl (hb hby hd) rfl q) k
theorem iushr (H : OHr p l e R s m args below meth c Z n0 own nm code maxL ret T h ce sl) {x y : Int32} (hd : decode code pc = .ok (.iushr, 1))  (k : OEnds p e below s n0 Q C S T (mkF m (pc + 1) Ls (.int (XT.ushr x y) :: st))) : OEnds p e below s n0 Q C S T (mkF m pc Ls (.int y :: .int x :: st)) := by
  obtain ⟨⟨hx, hZ, hby, hml, hown, hnm, hrt, hlk⟩, locs, X, eT, N, z0⟩ := H
  exact go (fun t q => XT.iushr X.here hx rfl (hb hby hd) rfl q) k
theorem idiv (H : OHr p l e R s m args below meth c Z n0 own nm code maxL ret T h ce sl) {x y : Int32} (hd : decode code pc = .ok (.idiv, 1)) (hy : y ≠ 0) (k : OEnds p e below s n0 Q C S T (mkF m (pc + 1) Ls (.int (x / y) :: st))) : OEnds p e below s n0 Q C S T (mkF m pc Ls (.int y :: .int x :: st)) := by
  obtain ⟨⟨hx, hZ, hby, hml, hown, hnm, hrt, hlk⟩, locs, X, eT, N, z0⟩ := H
  exact go (fun t q => XS.idiv X.here hx rfl (hb hby hd) rfl hy q) k
theorem irem (H : OHr p l e R s m args below meth c Z n0 own nm code maxL ret T h ce sl) {x y : Int32} (hd : decode code pc = .ok (.irem, 1)) (hy : y ≠ 0) (k : OEnds p e below s n0 Q C S T (mkF m (pc + 1) Ls (.int (x % y) :: st))) : OEnds p e below s n0 Q C S T (mkF m pc Ls (.int y :: .int x :: st)) := by
  obtain ⟨⟨hx, hZ, hby, hml, hown, hnm, hrt, hlk⟩, locs, X, eT, N, z0⟩ := H
  exact go (fun t q => iremM X hx rfl (hb hby hd) rfl hy q) k
theorem iadd_c (H : OHr p l e R s m args below meth c Z n0 own nm code maxL ret T h ce sl) {x y : Int32} (r : Int32) (hd : decode code pc = .ok (.iadd, 1)) (hr : x + y = r) (k : OEnds p e below s n0 Q C S T (mkF m (pc + 1) Ls (.int r :: st))) : OEnds p e below s n0 Q C S T (mkF m pc Ls (.int y :: .int x :: st)) := by
  subst hr
  exact iadd H hd k
theorem isub_c (H : OHr p l e R s m args below meth c Z n0 own nm code maxL ret T h ce sl) {x y : Int32} (r : Int32) (hd : decode code pc = .ok (.isub, 1)) (hr : x - y = r) (k : OEnds p e below s n0 Q C S T (mkF m (pc + 1) Ls (.int r :: st))) : OEnds p e below s n0 Q C S T (mkF m pc Ls (.int y :: .int x :: st)) := by
  subst hr
  exact isub H hd k
theorem imul_c (H : OHr p l e R s m args below meth c Z n0 own nm code maxL ret T h ce sl) {x y : Int32} (r : Int32) (hd : decode code pc = .ok (.imul, 1)) (hr : x * y = r) (k : OEnds p e below s n0 Q C S T (mkF m (pc + 1) Ls (.int r :: st))) : OEnds p e below s n0 Q C S T (mkF m pc Ls (.int y :: .int x :: st)) := by
  subst hr
  exact imul H hd k
theorem iand_c (H : OHr p l e R s m args below meth c Z n0 own nm code maxL ret T h ce sl) {x y : Int32} (r : Int32) (hd : decode code pc = .ok (.iand, 1)) (hr : x &&& y = r) (k : OEnds p e below s n0 Q C S T (mkF m (pc + 1) Ls (.int r :: st))) : OEnds p e below s n0 Q C S T (mkF m pc Ls (.int y :: .int x :: st)) := by
  subst hr
  exact iand H hd k
theorem ior_c (H : OHr p l e R s m args below meth c Z n0 own nm code maxL ret T h ce sl) {x y : Int32} (r : Int32) (hd : decode code pc = .ok (.ior, 1)) (hr : x ||| y = r) (k : OEnds p e below s n0 Q C S T (mkF m (pc + 1) Ls (.int r :: st))) : OEnds p e below s n0 Q C S T (mkF m pc Ls (.int y :: .int x :: st)) := by
  subst hr
  exact ior H hd k
theorem ixor_c (H : OHr p l e R s m args below meth c Z n0 own nm code maxL ret T h ce sl) {x y : Int32} (r : Int32) (hd : decode code pc = .ok (.ixor, 1)) (hr : x ^^^ y = r) (k : OEnds p e below s n0 Q C S T (mkF m (pc + 1) Ls (.int r :: st))) : OEnds p e below s n0 Q C S T (mkF m pc Ls (.int y :: .int x :: st)) := by
  subst hr
  exact ixor H hd k
theorem ishl_c (H : OHr p l e R s m args below meth c Z n0 own nm code maxL ret T h ce sl) {x y : Int32} (r : Int32) (hd : decode code pc = .ok (.ishl, 1)) (hr : x <<< (y &&& 31) = r) (k : OEnds p e below s n0 Q C S T (mkF m (pc + 1) Ls (.int r :: st))) : OEnds p e below s n0 Q C S T (mkF m pc Ls (.int y :: .int x :: st)) := by
  subst hr
  exact ishl H hd k
theorem ishr_c (H : OHr p l e R s m args below meth c Z n0 own nm code maxL ret T h ce sl) {x y : Int32} (r : Int32) (hd : decode code pc = .ok (.ishr, 1)) (hr : x >>> (y &&& 31) = r) (k : OEnds p e below s n0 Q C S T (mkF m (pc + 1) Ls (.int r :: st))) : OEnds p e below s n0 Q C S T (mkF m pc Ls (.int y :: .int x :: st)) := by
  subst hr
  exact ishr H hd k
theorem iushr_c (H : OHr p l e R s m args below meth c Z n0 own nm code maxL ret T h ce sl) {x y : Int32} (r : Int32) (hd : decode code pc = .ok (.iushr, 1)) (hr : XT.ushr x y = r) (k : OEnds p e below s n0 Q C S T (mkF m (pc + 1) Ls (.int r :: st))) : OEnds p e below s n0 Q C S T (mkF m pc Ls (.int y :: .int x :: st)) := by
  subst hr
  exact iushr H hd k
theorem idiv_c (H : OHr p l e R s m args below meth c Z n0 own nm code maxL ret T h ce sl) {x y : Int32} (r : Int32) (hd : decode code pc = .ok (.idiv, 1)) (hy : y ≠ 0) (hr : x / y = r) (k : OEnds p e below s n0 Q C S T (mkF m (pc + 1) Ls (.int r :: st))) : OEnds p e below s n0 Q C S T (mkF m pc Ls (.int y :: .int x :: st)) := by
  subst hr
  exact idiv H hd hy k
theorem irem_c (H : OHr p l e R s m args below meth c Z n0 own nm code maxL ret T h ce sl) {x y : Int32} (r : Int32) (hd : decode code pc = .ok (.irem, 1)) (hy : y ≠ 0) (hr : x % y = r) (k : OEnds p e below s n0 Q C S T (mkF m (pc + 1) Ls (.int r :: st))) : OEnds p e below s n0 Q C S T (mkF m pc Ls (.int y :: .int x :: st)) := by
  subst hr
  exact irem H hd hy k
theorem ineg (H : OHr p l e R s m args below meth c Z n0 own nm code maxL ret T h ce sl) {x : Int32} (hd : decode code pc = .ok (.ineg, 1))  (k : OEnds p e below s n0 Q C S T (mkF m (pc + 1) Ls (.int (-x) :: st))) : OEnds p e below s n0 Q C S T (mkF m pc Ls (.int x :: st)) := by
  obtain ⟨⟨hx, hZ, hby, hml, hown, hnm, hrt, hlk⟩, locs, X, eT, N, z0⟩ := H
  exact go (fun t q => XS.ineg X.here hx rfl (hb hby hd) rfl q) k
theorem ladd (H : OHr p l e R s m args below meth c Z n0 own nm code maxL ret T h ce sl) {x y : Int64} (hd : decode code pc = .ok (.ladd, 1))  (k : OEnds p e below s n0 Q C S T (mkF m (pc + 1) Ls (.long (x + y) :: st))) : OEnds p e below s n0 Q C S T (mkF m pc Ls (.long y :: .long x :: st)) := by
  obtain ⟨⟨hx, hZ, hby, hml, hown, hnm, hrt, hlk⟩, locs, X, eT, N, z0⟩ := H
  exact go (fun t q => XT.ladd X.here hx rfl (hb hby hd) rfl q) k
theorem lsub (H : OHr p l e R s m args below meth c Z n0 own nm code maxL ret T h ce sl) {x y : Int64} (hd : decode code pc = .ok (.lsub, 1))  (k : OEnds p e below s n0 Q C S T (mkF m (pc + 1) Ls (.long (x - y) :: st))) : OEnds p e below s n0 Q C S T (mkF m pc Ls (.long y :: .long x :: st)) := by
  obtain ⟨⟨hx, hZ, hby, hml, hown, hnm, hrt, hlk⟩, locs, X, eT, N, z0⟩ := H
  exact go (fun t q => XT.lsub X.here hx rfl (hb hby hd) rfl q) k
theorem lmul (H : OHr p l e R s m args below meth c Z n0 own nm code maxL ret T h ce sl) {x y : Int64} (hd : decode code pc = .ok (.lmul, 1))  (k : OEnds p e below s n0 Q C S T (mkF m (pc + 1) Ls (.long (x * y) :: st))) : OEnds p e below s n0 Q C S T (mkF m pc Ls (.long y :: .long x :: st)) := by
  obtain ⟨⟨hx, hZ, hby, hml, hown, hnm, hrt, hlk⟩, locs, X, eT, N, z0⟩ := H
  exact go (fun t q => XT.lmul X.here hx rfl (hb hby hd) rfl q) k
theorem land (H : OHr p l e R s m args below meth c Z n0 own nm code maxL ret T h ce sl) {x y : Int64} (hd : decode code pc = .ok (.land, 1))  (k : OEnds p e below s n0 Q C S T (mkF m (pc + 1) Ls (.long (x &&& y) :: st))) : OEnds p e below s n0 Q C S T (mkF m pc Ls (.long y :: .long x :: st)) := by
  obtain ⟨⟨hx, hZ, hby, hml, hown, hnm, hrt, hlk⟩, locs, X, eT, N, z0⟩ := H
  exact go (fun t q => XT.land X.here hx rfl (hb hby hd) rfl q) k
theorem lor (H : OHr p l e R s m args below meth c Z n0 own nm code maxL ret T h ce sl) {x y : Int64} (hd : decode code pc = .ok (.lor, 1))  (k : OEnds p e below s n0 Q C S T (mkF m (pc + 1) Ls (.long (x ||| y) :: st))) : OEnds p e below s n0 Q C S T (mkF m pc Ls (.long y :: .long x :: st)) := by
  obtain ⟨⟨hx, hZ, hby, hml, hown, hnm, hrt, hlk⟩, locs, X, eT, N, z0⟩ := H
  exact go (fun t q => XT.lor X.here hx rfl (hb hby hd) rfl q) k
theorem lxor (H : OHr p l e R s m args below meth c Z n0 own nm code maxL ret T h ce sl) {x y : Int64} (hd : decode code pc = .ok (.lxor, 1))  (k : OEnds p e below s n0 Q C S T (mkF m (pc + 1) Ls (.long (x ^^^ y) :: st))) : OEnds p e below s n0 Q C S T (mkF m pc Ls (.long y :: .long x :: st)) := by
  obtain ⟨⟨hx, hZ, hby, hml, hown, hnm, hrt, hlk⟩, locs, X, eT, N, z0⟩ := H
  exact go (fun t q => XT.lxor X.here hx rfl (hb hby hd) rfl q) k
theorem lshl (H : OHr p l e R s m args below meth c Z n0 own nm code maxL ret T h ce sl) {x : Int64} {y : Int32} (hd : decode code pc = .ok (.lshl, 1))  (k : OEnds p e below s n0 Q C S T (mkF m (pc + 1) Ls (.long (x <<< (y.toInt64 &&& 63)) :: st))) : OEnds p e below s n0 Q C S T (mkF m pc Ls (.int y :: .long x :: st)) := by
  obtain ⟨⟨hx, hZ, hby, hml, hown, hnm, hrt, hlk⟩, locs, X, eT, N, z0⟩ := H
  exact go (fun t q => XT.lshl X.here hx rfl (hb hby hd) rfl q) k
theorem lshr (H : OHr p l e R s m args below meth c Z n0 own nm code maxL ret T h ce sl) {x : Int64} {y : Int32} (hd : decode code pc = .ok (.lshr, 1))  (k : OEnds p e below s n0 Q C S T (mkF m (pc + 1) Ls (.long (x >>> (y.toInt64 &&& 63)) :: st))) : OEnds p e below s n0 Q C S T (mkF m pc Ls (.int y :: .long x :: st)) := by
  obtain ⟨⟨hx, hZ, hby, hml, hown, hnm, hrt, hlk⟩, locs, X, eT, N, z0⟩ := H
  exact go (fun t q => XT.lshr X.here hx rfl (hb hby hd) rfl q) k
theorem lushr (H : OHr p l e R s m args below meth c Z n0 own nm code maxL ret T h ce sl) {x : Int64} {y : Int32} (hd : decode code pc = .ok (.lushr, 1))  (k : OEnds p e below s n0 Q C S T (mkF m (pc + 1) Ls (.long (XT.ushrL x y) :: st))) : OEnds p e below s n0 Q C S T (mkF m pc Ls (.int y :: .long x :: st)) := by
  obtain ⟨⟨hx, hZ, hby, hml, hown, hnm, hrt, hlk⟩, locs, X, eT, N, z0⟩ := H
  exact go (fun t q => XT.lushr X.here hx rfl (hb hby hd) rfl q) k
theorem lneg (H : OHr p l e R s m args below meth c Z n0 own nm code maxL ret T h ce sl) {x : Int64} (hd : decode code pc = .ok (.lneg, 1))  (k : OEnds p e below s n0 Q C S T (mkF m (pc + 1) Ls (.long (-x) :: st))) : OEnds p e below s n0 Q C S T (mkF m pc Ls (.long x :: st)) := by
  obtain ⟨⟨hx, hZ, hby, hml, hown, hnm, hrt, hlk⟩, locs, X, eT, N, z0⟩ := H
  exact go (fun t q => XT.lneg X.here hx rfl (hb hby hd) rfl q) k
theorem i2l (H : OHr p l e R s m args below meth c Z n0 own nm code maxL ret T h ce sl) {x : Int32} (hd : decode code pc = .ok (.i2l, 1))  (k : OEnds p e below s n0 Q C S T (mkF m (pc + 1) Ls (.long x.toInt64 :: st))) : OEnds p e below s n0 Q C S T (mkF m pc Ls (.int x :: st)) := by
  obtain ⟨⟨hx, hZ, hby, hml, hown, hnm, hrt, hlk⟩, locs, X, eT, N, z0⟩ := H
  exact go (fun t q => XT.i2l X.here hx rfl (hb hby hd) rfl q) k
theorem l2i (H : OHr p l e R s m args below meth c Z n0 own nm code maxL ret T h ce sl) {x : Int64} (hd : decode code pc = .ok (.l2i, 1))  (k : OEnds p e below s n0 Q C S T (mkF m (pc + 1) Ls (.int x.toInt32 :: st))) : OEnds p e below s n0 Q C S T (mkF m pc Ls (.long x :: st)) := by
  obtain ⟨⟨hx, hZ, hby, hml, hown, hnm, hrt, hlk⟩, locs, X, eT, N, z0⟩ := H
  exact go (fun t q => XT.l2i X.here hx rfl (hb hby hd) rfl q) k
theorem i2b (H : OHr p l e R s m args below meth c Z n0 own nm code maxL ret T h ce sl) {x : Int32} (hd : decode code pc = .ok (.i2b, 1))  (k : OEnds p e below s n0 Q C S T (mkF m (pc + 1) Ls (.int x.toInt8.toInt32 :: st))) : OEnds p e below s n0 Q C S T (mkF m pc Ls (.int x :: st)) := by
  obtain ⟨⟨hx, hZ, hby, hml, hown, hnm, hrt, hlk⟩, locs, X, eT, N, z0⟩ := H
  exact go (fun t q => XT.i2b X.here hx rfl (hb hby hd) rfl q) k
theorem i2c (H : OHr p l e R s m args below meth c Z n0 own nm code maxL ret T h ce sl) {x : Int32} (hd : decode code pc = .ok (.i2c, 1))  (k : OEnds p e below s n0 Q C S T (mkF m (pc + 1) Ls (.int x.toUInt32.toUInt16.toUInt32.toInt32 :: st))) : OEnds p e below s n0 Q C S T (mkF m pc Ls (.int x :: st)) := by
  obtain ⟨⟨hx, hZ, hby, hml, hown, hnm, hrt, hlk⟩, locs, X, eT, N, z0⟩ := H
  exact go (fun t q => XT.i2c X.here hx rfl (hb hby hd) rfl q) k
theorem lcmp (H : OHr p l e R s m args below meth c Z n0 own nm code maxL ret T h ce sl) {x y : Int64} (hd : decode code pc = .ok (.lcmp, 1))  (k : OEnds p e below s n0 Q C S T (mkF m (pc + 1) Ls (.int (XT.cmpL x y) :: st))) : OEnds p e below s n0 Q C S T (mkF m pc Ls (.long y :: .long x :: st)) := by
  obtain ⟨⟨hx, hZ, hby, hml, hown, hnm, hrt, hlk⟩, locs, X, eT, N, z0⟩ := H
  exact go (fun t q => XT.lcmp X.here hx rfl (hb hby hd) rfl q) k
theorem dup (H : OHr p l e R s m args below meth c Z n0 own nm code maxL ret T h ce sl) {x : Value} (hd : decode code pc = .ok (.dup, 1)) (hc : x.category = 1) (k : OEnds p e below s n0 Q C S T (mkF m (pc + 1) Ls (x :: x :: st))) : OEnds p e below s n0 Q C S T (mkF m pc Ls (x :: st)) := by
  obtain ⟨⟨hx, hZ, hby, hml, hown, hnm, hrt, hlk⟩, locs, X, eT, N, z0⟩ := H
  exact go (fun t q => XS.dup X.here hx rfl (hb hby hd) rfl hc q) k
theorem pop (H : OHr p l e R s m args below meth c Z n0 own nm code maxL ret T h ce sl) {x : Value} (hd : decode code pc = .ok (.pop, 1)) (hc : x.category = 1) (k : OEnds p e below s n0 Q C S T (mkF m (pc + 1) Ls (st))) : OEnds p e below s n0 Q C S T (mkF m pc Ls (x :: st)) := by
  obtain ⟨⟨hx, hZ, hby, hml, hown, hnm, hrt, hlk⟩, locs, X, eT, N, z0⟩ := H
  exact go (fun t q => XT.pop X.here hx rfl (hb hby hd) rfl hc q) k
theorem dup_x1 (H : OHr p l e R s m args below meth c Z n0 own nm code maxL ret T h ce sl) {x y : Value} (hd : decode code pc = .ok (.dup_x1, 1)) (hc : x.category = 1) (hc' : y.category = 1) (k : OEnds p e below s n0 Q C S T (mkF m (pc + 1) Ls (x :: y :: x :: st))) : OEnds p e below s n0 Q C S T (mkF m pc Ls (x :: y :: st)) := by
  obtain ⟨⟨hx, hZ, hby, hml, hown, hnm, hrt, hlk⟩, locs, X, eT, N, z0⟩ := H
  exact go (fun t q => XT.dupX1 X.here hx rfl (hb hby hd) rfl hc hc' q) k
theorem dup2 (H : OHr p l e R s m args below meth c Z n0 own nm code maxL ret T h ce sl) {x y : Value} (hd : decode code pc = .ok (.dup2, 1)) (hc : x.category = 1) (hc' : y.category = 1) (k : OEnds p e below s n0 Q C S T (mkF m (pc + 1) Ls (x :: y :: x :: y :: st))) : OEnds p e below s n0 Q C S T (mkF m pc Ls (x :: y :: st)) := by
  obtain ⟨⟨hx, hZ, hby, hml, hown, hnm, hrt, hlk⟩, locs, X, eT, N, z0⟩ := H
  exact go (fun t q => XT.dup2 X.here hx rfl (hb hby hd) rfl hc hc' q) k
theorem goto (H : OHr p l e R s m args below meth c Z n0 own nm code maxL ret T h ce sl) {o : Int} (pc' : Nat) (hd : decode code pc = .ok (.goto o, 3)) (ho : 0 ≤ (pc : Int) + o) (hp : ((pc : Int) + o).toNat = pc') (k : OEnds p e below s n0 Q C S T (mkF m pc' Ls st)) : OEnds p e below s n0 Q C S T (mkF m pc Ls st) := by
  obtain ⟨⟨hx, hZ, hby, hml, hown, hnm, hrt, hlk⟩, locs, X, eT, N, z0⟩ := H
  exact go (fun t q => XS.goto X.here hx rfl rfl (hb hby hd) ho hp q) k
theorem icmp_lt (H : OHr p l e R s m args below meth c Z n0 own nm code maxL ret T h ce sl) {x y : Int32} {o : Int} (pc' : Nat) (hd : decode code pc = .ok (.if_icmp .lt o, 3)) (ho : 0 ≤ (pc : Int) + o) (hp : ((pc : Int) + o).toNat = pc') (kt : x < y → OEnds p e below s n0 Q C S T (mkF m pc' Ls st)) (kf : ¬ x < y → OEnds p e below s n0 Q C S T (mkF m (pc + 3) Ls st)) : OEnds p e below s n0 Q C S T (mkF m pc Ls (.int y :: .int x :: st)) := by
  obtain ⟨⟨hx, hZ, hby, hml, hown, hnm, hrt, hlk⟩, locs, X, eT, N, z0⟩ := H
  by_cases q : x < y
  · exact go (fun t r => XS.icmpYes X.here hx rfl rfl (hb hby hd) rfl (tlt q).1 ho hp r) (kt q)
  · exact go (fun t r => XS.icmpNo X.here hx rfl (hb hby hd) rfl (flt q).1 r) (kf q)
theorem if_lt (H : OHr p l e R s m args below meth c Z n0 own nm code maxL ret T h ce sl) {x : Int32} {o : Int} (pc' : Nat) (hd : decode code pc = .ok (.ifCond .lt o, 3)) (ho : 0 ≤ (pc : Int) + o) (hp : ((pc : Int) + o).toNat = pc') (kt : x < (0 : Int32) → OEnds p e below s n0 Q C S T (mkF m pc' Ls st)) (kf : ¬ x < (0 : Int32) → OEnds p e below s n0 Q C S T (mkF m (pc + 3) Ls st)) : OEnds p e below s n0 Q C S T (mkF m pc Ls (.int x :: st)) := by
  obtain ⟨⟨hx, hZ, hby, hml, hown, hnm, hrt, hlk⟩, locs, X, eT, N, z0⟩ := H
  by_cases q : x < (0 : Int32)
  · exact go (fun t r => XS.ifYes X.here hx rfl rfl (hb hby hd) rfl ((if0 _ _).trans (tlt q).1) ho hp r) (kt q)
  · exact go (fun t r => XS.ifNo X.here hx rfl (hb hby hd) rfl ((if0 _ _).trans (flt q).1) r) (kf q)
theorem icmp_ge (H : OHr p l e R s m args below meth c Z n0 own nm code maxL ret T h ce sl) {x y : Int32} {o : Int} (pc' : Nat) (hd : decode code pc = .ok (.if_icmp .ge o, 3)) (ho : 0 ≤ (pc : Int) + o) (hp : ((pc : Int) + o).toNat = pc') (kt : ¬ x < y → OEnds p e below s n0 Q C S T (mkF m pc' Ls st)) (kf : x < y → OEnds p e below s n0 Q C S T (mkF m (pc + 3) Ls st)) : OEnds p e below s n0 Q C S T (mkF m pc Ls (.int y :: .int x :: st)) := by
  obtain ⟨⟨hx, hZ, hby, hml, hown, hnm, hrt, hlk⟩, locs, X, eT, N, z0⟩ := H
  by_cases q : x < y
  · exact go (fun t r => XS.icmpNo X.here hx rfl (hb hby hd) rfl (tlt q).2.1 r) (kf q)
  · exact go (fun t r => XS.icmpYes X.here hx rfl rfl (hb hby hd) rfl (flt q).2.1 ho hp r) (kt q)
theorem if_ge (H : OHr p l e R s m args below meth c Z n0 own nm code maxL ret T h ce sl) {x : Int32} {o : Int} (pc' : Nat) (hd : decode code pc = .ok (.ifCond .ge o, 3)) (ho : 0 ≤ (pc : Int) + o) (hp : ((pc : Int) + o).toNat = pc') (kt : ¬ x < (0 : Int32) → OEnds p e below s n0 Q C S T (mkF m pc' Ls st)) (kf : x < (0 : Int32) → OEnds p e below s n0 Q C S T (mkF m (pc + 3) Ls st)) : OEnds p e below s n0 Q C S T (mkF m pc Ls (.int x :: st)) := by
  obtain ⟨⟨hx, hZ, hby, hml, hown, hnm, hrt, hlk⟩, locs, X, eT, N, z0⟩ := H
  by_cases q : x < (0 : Int32)
  · exact go (fun t r => XS.ifNo X.here hx rfl (hb hby hd) rfl ((if0 _ _).trans (tlt q).2.1) r) (kf q)
  · exact go (fun t r => XS.ifYes X.here hx rfl rfl (hb hby hd) rfl ((if0 _ _).trans (flt q).2.1) ho hp r) (kt q)
theorem icmp_gt (H : OHr p l e R s m args below meth c Z n0 own nm code maxL ret T h ce sl) {x y : Int32} {o : Int} (pc' : Nat) (hd : decode code pc = .ok (.if_icmp .gt o, 3)) (ho : 0 ≤ (pc : Int) + o) (hp : ((pc : Int) + o).toNat = pc') (kt : y < x → OEnds p e below s n0 Q C S T (mkF m pc' Ls st)) (kf : ¬ y < x → OEnds p e below s n0 Q C S T (mkF m (pc + 3) Ls st)) : OEnds p e below s n0 Q C S T (mkF m pc Ls (.int y :: .int x :: st)) := by
  obtain ⟨⟨hx, hZ, hby, hml, hown, hnm, hrt, hlk⟩, locs, X, eT, N, z0⟩ := H
  by_cases q : y < x
  · exact go (fun t r => XS.icmpYes X.here hx rfl rfl (hb hby hd) rfl (tlt q).2.2.1 ho hp r) (kt q)
  · exact go (fun t r => XS.icmpNo X.here hx rfl (hb hby hd) rfl (flt q).2.2.1 r) (kf q)
theorem if_gt (H : OHr p l e R s m args below meth c Z n0 own nm code maxL ret T h ce sl) {x : Int32} {o : Int} (pc' : Nat) (hd : decode code pc = .ok (.ifCond .gt o, 3)) (ho : 0 ≤ (pc : Int) + o) (hp : ((pc : Int) + o).toNat = pc') (kt : (0 : Int32) < x → OEnds p e below s n0 Q C S T (mkF m pc' Ls st)) (kf : ¬ (0 : Int32) < x → OEnds p e below s n0 Q C S T (mkF m (pc + 3) Ls st)) : OEnds p e below s n0 Q C S T (mkF m pc Ls (.int x :: st)) := by
  obtain ⟨⟨hx, hZ, hby, hml, hown, hnm, hrt, hlk⟩, locs, X, eT, N, z0⟩ := H
  by_cases q : (0 : Int32) < x
  · exact go (fun t r => XS.ifYes X.here hx rfl rfl (hb hby hd) rfl ((if0 _ _).trans (tlt q).2.2.1) ho hp r) (kt q)
  · exact go (fun t r => XS.ifNo X.here hx rfl (hb hby hd) rfl ((if0 _ _).trans (flt q).2.2.1) r) (kf q)
theorem icmp_le (H : OHr p l e R s m args below meth c Z n0 own nm code maxL ret T h ce sl) {x y : Int32} {o : Int} (pc' : Nat) (hd : decode code pc = .ok (.if_icmp .le o, 3)) (ho : 0 ≤ (pc : Int) + o) (hp : ((pc : Int) + o).toNat = pc') (kt : ¬ y < x → OEnds p e below s n0 Q C S T (mkF m pc' Ls st)) (kf : y < x → OEnds p e below s n0 Q C S T (mkF m (pc + 3) Ls st)) : OEnds p e below s n0 Q C S T (mkF m pc Ls (.int y :: .int x :: st)) := by
  obtain ⟨⟨hx, hZ, hby, hml, hown, hnm, hrt, hlk⟩, locs, X, eT, N, z0⟩ := H
  by_cases q : y < x
  · exact go (fun t r => XS.icmpNo X.here hx rfl (hb hby hd) rfl (tlt q).2.2.2 r) (kf q)
  · exact go (fun t r => XS.icmpYes X.here hx rfl rfl (hb hby hd) rfl (flt q).2.2.2 ho hp r) (kt q)
theorem if_le (H : OHr p l e R s m args below meth c Z n0 own nm code maxL ret T h ce sl) {x : Int32} {o : Int} (pc' : Nat) (hd : decode code pc = .ok (.ifCond .le o, 3)) (ho : 0 ≤ (pc : Int) + o) (hp : ((pc : Int) + o).toNat = pc') (kt : ¬ (0 : Int32) < x → OEnds p e below s n0 Q C S T (mkF m pc' Ls st)) (kf : (0 : Int32) < x → OEnds p e below s n0 Q C S T (mkF m (pc + 3) Ls st)) : OEnds p e below s n0 Q C S T (mkF m pc Ls (.int x :: st)) := by
  obtain ⟨⟨hx, hZ, hby, hml, hown, hnm, hrt, hlk⟩, locs, X, eT, N, z0⟩ := H
  by_cases q : (0 : Int32) < x
  · exact go (fun t r => XS.ifNo X.here hx rfl (hb hby hd) rfl ((if0 _ _).trans (tlt q).2.2.2) r) (kf q)
  · exact go (fun t r => XS.ifYes X.here hx rfl rfl (hb hby hd) rfl ((if0 _ _).trans (flt q).2.2.2) ho hp r) (kt q)
theorem icmp_eq (H : OHr p l e R s m args below meth c Z n0 own nm code maxL ret T h ce sl) {x y : Int32} {o : Int} (pc' : Nat) (hd : decode code pc = .ok (.if_icmp .eq o, 3)) (ho : 0 ≤ (pc : Int) + o) (hp : ((pc : Int) + o).toNat = pc') (kt : x = y → OEnds p e below s n0 Q C S T (mkF m pc' Ls st)) (kf : ¬ x = y → OEnds p e below s n0 Q C S T (mkF m (pc + 3) Ls st)) : OEnds p e below s n0 Q C S T (mkF m pc Ls (.int y :: .int x :: st)) := by
  obtain ⟨⟨hx, hZ, hby, hml, hown, hnm, hrt, hlk⟩, locs, X, eT, N, z0⟩ := H
  by_cases q : x = y
  · exact go (fun t r => XS.icmpYes X.here hx rfl rfl (hb hby hd) rfl (teq q).1 ho hp r) (kt q)
  · exact go (fun t r => XS.icmpNo X.here hx rfl (hb hby hd) rfl (feq q).1 r) (kf q)
theorem if_eq (H : OHr p l e R s m args below meth c Z n0 own nm code maxL ret T h ce sl) {x : Int32} {o : Int} (pc' : Nat) (hd : decode code pc = .ok (.ifCond .eq o, 3)) (ho : 0 ≤ (pc : Int) + o) (hp : ((pc : Int) + o).toNat = pc') (kt : x = (0 : Int32) → OEnds p e below s n0 Q C S T (mkF m pc' Ls st)) (kf : ¬ x = (0 : Int32) → OEnds p e below s n0 Q C S T (mkF m (pc + 3) Ls st)) : OEnds p e below s n0 Q C S T (mkF m pc Ls (.int x :: st)) := by
  obtain ⟨⟨hx, hZ, hby, hml, hown, hnm, hrt, hlk⟩, locs, X, eT, N, z0⟩ := H
  by_cases q : x = (0 : Int32)
  · exact go (fun t r => XS.ifYes X.here hx rfl rfl (hb hby hd) rfl ((if0 _ _).trans (teq q).1) ho hp r) (kt q)
  · exact go (fun t r => XS.ifNo X.here hx rfl (hb hby hd) rfl ((if0 _ _).trans (feq q).1) r) (kf q)
theorem icmp_ne (H : OHr p l e R s m args below meth c Z n0 own nm code maxL ret T h ce sl) {x y : Int32} {o : Int} (pc' : Nat) (hd : decode code pc = .ok (.if_icmp .ne o, 3)) (ho : 0 ≤ (pc : Int) + o) (hp : ((pc : Int) + o).toNat = pc') (kt : ¬ x = y → OEnds p e below s n0 Q C S T (mkF m pc' Ls st)) (kf : x = y → OEnds p e below s n0 Q C S T (mkF m (pc + 3) Ls st)) : OEnds p e below s n0 Q C S T (mkF m pc Ls (.int y :: .int x :: st)) := by
  obtain ⟨⟨hx, hZ, hby, hml, hown, hnm, hrt, hlk⟩, locs, X, eT, N, z0⟩ := H
  by_cases q : x = y
  · exact go (fun t r => XS.icmpNo X.here hx rfl (hb hby hd) rfl (teq q).2 r) (kf q)
  · exact go (fun t r => XS.icmpYes X.here hx rfl rfl (hb hby hd) rfl (feq q).2 ho hp r) (kt q)
theorem if_ne (H : OHr p l e R s m args below meth c Z n0 own nm code maxL ret T h ce sl) {x : Int32} {o : Int} (pc' : Nat) (hd : decode code pc = .ok (.ifCond .ne o, 3)) (ho : 0 ≤ (pc : Int) + o) (hp : ((pc : Int) + o).toNat = pc') (kt : ¬ x = (0 : Int32) → OEnds p e below s n0 Q C S T (mkF m pc' Ls st)) (kf : x = (0 : Int32) → OEnds p e below s n0 Q C S T (mkF m (pc + 3) Ls st)) : OEnds p e below s n0 Q C S T (mkF m pc Ls (.int x :: st)) := by
  obtain ⟨⟨hx, hZ, hby, hml, hown, hnm, hrt, hlk⟩, locs, X, eT, N, z0⟩ := H
  by_cases q : x = (0 : Int32)
  · exact go (fun t r => XS.ifNo X.here hx rfl (hb hby hd) rfl ((if0 _ _).trans (teq q).2) r) (kf q)
  · exact go (fun t r => XS.ifYes X.here hx rfl rfl (hb hby hd) rfl ((if0 _ _).trans (feq q).2) ho hp r) (kt q)
theorem ifnull_ref (H : OHr p l e R s m args below meth c Z n0 own nm code maxL ret T h ce sl) {o : Int} {b : Addr} (hd : decode code pc = .ok (.ifnull o, 3)) (k : OEnds p e below s n0 Q C S T (mkF m (pc + 3) Ls st)) : OEnds p e below s n0 Q C S T (mkF m pc Ls (.ref b :: st)) := by
  obtain ⟨⟨hx, hZ, hby, hml, hown, hnm, hrt, hlk⟩, locs, X, eT, N, z0⟩ := H
  exact go (fun t q => XS.ifnullNo X.here hx rfl (hb hby hd) rfl q) k
theorem ifnonnull_ref (H : OHr p l e R s m args below meth c Z n0 own nm code maxL ret T h ce sl) {o : Int} {b : Addr} (pc' : Nat) (hd : decode code pc = .ok (.ifnonnull o, 3)) (ho : 0 ≤ (pc : Int) + o) (hp : ((pc : Int) + o).toNat = pc') (k : OEnds p e below s n0 Q C S T (mkF m pc' Ls st)) : OEnds p e below s n0 Q C S T (mkF m pc Ls (.ref b :: st)) := by
  obtain ⟨⟨hx, hZ, hby, hml, hown, hnm, hrt, hlk⟩, locs, X, eT, N, z0⟩ := H
  exact go (fun t q => XT.ifnonnullYes X.here hx rfl rfl (hb hby hd) rfl ho hp q) k
theorem acmp_ne (H : OHr p l e R s m args below meth c Z n0 own nm code maxL ret T h ce sl) {x y : Value} {o : Int} (pc' : Nat) (hd : decode code pc = .ok (.if_acmp .ne o, 3)) (h1 : x.isRef = true) (h2 : y.isRef = true) (ho : 0 ≤ (pc : Int) + o) (hp : ((pc : Int) + o).toNat = pc') (kt : ¬ x = y → OEnds p e below s n0 Q C S T (mkF m pc' Ls st)) (kf : x = y → OEnds p e below s n0 Q C S T (mkF m (pc + 3) Ls st)) : OEnds p e below s n0 Q C S T (mkF m pc Ls (y :: x :: st)) := by
  obtain ⟨⟨hx, hZ, hby, hml, hown, hnm, hrt, hlk⟩, locs, X, eT, N, z0⟩ := H
  by_cases q : x = y
  · exact go (fun t r => XT.acmpNo X.here hx rfl (hb hby hd) rfl h1 h2 (by simp [XT.acmp, q]) r) (kf q)
  · exact go (fun t r => XT.acmpYes X.here hx rfl rfl (hb hby hd) rfl h1 h2 (by simp [XT.acmp, q]) ho hp r) (kt q)
theorem acmp_eq (H : OHr p l e R s m args below meth c Z n0 own nm code maxL ret T h ce sl) {x y : Value} {o : Int} (pc' : Nat) (hd : decode code pc = .ok (.if_acmp .eq o, 3)) (h1 : x.isRef = true) (h2 : y.isRef = true) (ho : 0 ≤ (pc : Int) + o) (hp : ((pc : Int) + o).toNat = pc') (kt : x = y → OEnds p e below s n0 Q C S T (mkF m pc' Ls st)) (kf : ¬ x = y → OEnds p e below s n0 Q C S T (mkF m (pc + 3) Ls st)) : OEnds p e below s n0 Q C S T (mkF m pc Ls (y :: x :: st)) := by
  obtain ⟨⟨hx, hZ, hby, hml, hown, hnm, hrt, hlk⟩, locs, X, eT, N, z0⟩ := H
  by_cases q : x = y
  · exact go (fun t r => XT.acmpYes X.here hx rfl rfl (hb hby hd) rfl h1 h2 (by simp [XT.acmp, q]) ho hp r) (kt q)
  · exact go (fun t r => XT.acmpNo X.here hx rfl (hb hby hd) rfl h1 h2 (by simp [XT.acmp, q]) r) (kf q)
theorem ret_int (H : OHr p l e R s m args below meth c Z n0 own nm code maxL ret T h ce sl) {z : Int32} (hd : decode code pc = .ok (.ireturn, 1)) (hr : ret = some .int) (hC : ce ≤ C) (hS : sl ≤ S) (hq : Q (some (.int z)) h) : OEnds p e below s n0 Q C S T (mkF m pc Ls (.int z :: st)) := by
  obtain ⟨⟨hx, hZ, hby, hml, hown, hnm, hrt, hlk⟩, locs, X, eT, N, z0⟩ := H
  obtain ⟨fs, hrr, hrun, hended, hW, hsame⟩ := X.leave (v := some (.int z)) (fun q => by rw [hrt, hr] at q; cases q) hlk
  refine ⟨_, _, ?_, hrun, hended, _, _, rfl, ⟨N, ?_⟩, ⟨_, rfl⟩, hW, hsame.mono hC hS⟩
  · exact retOut X hx (hrt.trans hr) rfl (Or.inl ⟨rfl, Or.inl rfl, _, rfl⟩) (hb hby hd) hrr
  · show Q _ T.heap
    rw [eT]; exact hq
theorem ret_nar (H : OHr p l e R s m args below meth c Z n0 own nm code maxL ret T h ce sl) {z : Int32} (w : Int32) {t : FieldType} (hd : decode code pc = .ok (.ireturn, 1)) (hr : ret = some t) (ht : t = .boolean ∨ t = .byte ∨ t = .char ∨ t = .short) (hw : nar t z = w) (hC : ce ≤ C) (hS : sl ≤ S) (hq : Q (some (.int w)) h) : OEnds p e below s n0 Q C S T (mkF m pc Ls (.int z :: st)) := by
  obtain ⟨⟨hx, hZ, hby, hml, hown, hnm, hrt, hlk⟩, locs, X, eT, N, z0⟩ := H
  subst hw
  obtain ⟨fs, hrr, hrun, hended, hW, hsame⟩ := X.leave (v := some (.int (nar t z))) (fun q => by rw [hrt, hr] at q; cases q) hlk
  refine ⟨_, _, ?_, hrun, hended, _, _, rfl, ⟨N, ?_⟩, ⟨_, rfl⟩, hW, hsame.mono hC hS⟩
  · exact retN X hx (hrt.trans hr) ht (hb hby hd) hrr
  · show Q _ T.heap
    rw [eT]; exact hq
theorem ret_long (H : OHr p l e R s m args below meth c Z n0 own nm code maxL ret T h ce sl) {z : Int64} (hd : decode code pc = .ok (.lreturn, 1)) (hr : ret = some .long) (hC : ce ≤ C) (hS : sl ≤ S) (hq : Q (some (.long z)) h) : OEnds p e below s n0 Q C S T (mkF m pc Ls (.long z :: st)) := by
  obtain ⟨⟨hx, hZ, hby, hml, hown, hnm, hrt, hlk⟩, locs, X, eT, N, z0⟩ := H
  obtain ⟨fs, hrr, hrun, hended, hW, hsame⟩ := X.leave (v := some (.long z)) (fun q => by rw [hrt, hr] at q; cases q) hlk
  refine ⟨_, _, ?_, hrun, hended, _, _, rfl, ⟨N, ?_⟩, ⟨_, rfl⟩, hW, hsame.mono hC hS⟩
  · exact retOut X hx (hrt.trans hr) rfl (Or.inr (Or.inl ⟨rfl, rfl, _, rfl⟩)) (hb hby hd) hrr
  · show Q _ T.heap
    rw [eT]; exact hq
theorem ret_ref (H : OHr p l e R s m args below meth c Z n0 own nm code maxL ret T h ce sl) {z : Value} {t : FieldType} (hd : decode code pc = .ok (.areturn, 1)) (hr : ret = some t) (ht : t.isReference = true) (hn : narrow t z = z) (hz : z.isRef = true) (hC : ce ≤ C) (hS : sl ≤ S) (hq : Q (some z) h) : OEnds p e below s n0 Q C S T (mkF m pc Ls (z :: st)) := by
  obtain ⟨⟨hx, hZ, hby, hml, hown, hnm, hrt, hlk⟩, locs, X, eT, N, z0⟩ := H
  obtain ⟨fs, hrr, hrun, hended, hW, hsame⟩ := X.leave (v := some z) (fun q => by rw [hrt, hr] at q; cases q) hlk
  refine ⟨_, _, ?_, hrun, hended, _, _, rfl, ⟨N, ?_⟩, ⟨_, rfl⟩, hW, hsame.mono hC hS⟩
  · exact retOut X hx (hrt.trans hr) hn (Or.inr (Or.inr (Or.inr (Or.inr ⟨rfl, ht, hz⟩)))) (hb hby hd) hrr
  · show Q _ T.heap
    rw [eT]; exact hq
theorem ret_void (H : OHr p l e R s m args below meth c Z n0 own nm code maxL ret T h ce sl) (hd : decode code pc = .ok (.return_, 1)) (hr : ret = none) (hC : ce ≤ C) (hS : sl ≤ S) (hq : Q none h) : OEnds p e below s n0 Q C S T (mkF m pc Ls []) := by
  obtain ⟨⟨hx, hZ, hby, hml, hown, hnm, hrt, hlk⟩, locs, X, eT, N, z0⟩ := H
  obtain ⟨fs, hrr, hrun, hended, hW, hsame⟩ := X.leave (v := none) (fun _ => rfl) hlk
  refine ⟨_, _, ?_, hrun, hended, _, _, rfl, ⟨N, ?_⟩, ⟨_, rfl⟩, hW, hsame.mono hC hS⟩
  · exact X.returnOut hx (hrt.trans hr) (hb hby hd) hrr
  · show Q _ T.heap
    rw [eT]; exact hq
theorem getfield (H : OHr p l e R s m args below meth c Z n0 own nm code maxL ret T h ce sl) {O n d : String} {idx : Nat} {a : Addr} {v : Value} (hd : decode code pc = .ok (.getfield idx, 3)) (w : (Cond.fieldLink own idx O n d).before a0 Z = true) (F : Fld Z h a O n d v) (k : ∀ T', OHr p l e R s m args below meth c Z n0 own nm code maxL ret T' h ce sl → OEnds p e below s n0 Q C S T' (mkF m (pc + 3) Ls (v :: st))) : OEnds p e below s n0 Q C S T (mkF m pc Ls (.ref a :: st)) := by
  obtain ⟨⟨hx, hZ, hby, hml, hown, hnm, hrt, hlk⟩, locs, X, eT, N, z0⟩ := H
  obtain ⟨T', X', e', q⟩ := getF X hx hZ hown (host := "") (Or.inl w) Via.refl eT F (g := mkF m pc Ls (.ref a :: st)) rfl rfl (hb hby hd)
  exact go q (k T' ⟨⟨hx, hZ, hby, hml, hown, hnm, hrt, hlk⟩, locs, X', e', N, z0⟩)
theorem putfield (H : OHr p l e R s m args below meth c Z n0 own nm code maxL ret T h ce sl) {O n d CC : String} {idx kk : Nat} {ty : FieldType} {a : Addr} {v old : Value} (hd : decode code pc = .ok (.putfield idx, 3)) (w : (Cond.fieldLink own idx O n d).before a0 Z = true) (F : Fld Z h a O n d old) (E : Exa Z h a CC) (L : (Cond.lays CC O n d).before a0 Z = true ∨ ((Cond.laysFinal CC O n d).before a0 Z = true ∧ own = O ∧ nm = "<init>")) (wi : (Cond.instantiable CC kk).before a0 Z = true) (hty : parseFieldDescriptor d = some ty) (hn : narrow ty v = v) (hf : fits ty v = true) (ge : n0 ≤ a)
    (k : ∀ T' h', OHr p l e R s m args below meth c Z n0 own nm code maxL ret T' h' ce sl → Wr h h' a (Jvm.RoadKit.slotOf Z O n d) v → OEnds p e below s n0 Q C S T' (mkF m (pc + 3) Ls st)) : OEnds p e below s n0 Q C S T (mkF m pc Ls (v :: .ref a :: st)) := by
  obtain ⟨⟨hx, hZ, hby, hml, hown, hnm, hrt, hlk⟩, locs, X, eT, N, z0⟩ := H
  obtain ⟨T', h', X', e', W, q⟩ := putF X hx hZ hown (host := "") (Or.inl w) Via.refl eT F E (by rcases L with q | ⟨q1, q2, q3⟩; exact Or.inl q; exact Or.inr ⟨q1, q2, hnm.trans q3⟩) wi hty hn hf (g := mkF m pc Ls (v :: .ref a :: st)) rfl rfl (hb hby hd)
  exact go q (k T' h' ⟨⟨hx, hZ, hby, hml, hown, hnm, hrt, hlk⟩, _, X', e', Fr.one N ge, by rw [W.size]; exact z0⟩ W)
theorem getstatic (H : OHr p l e R s m args below meth c Z n0 own nm code maxL ret T h ce sl) {O n d : String} {idx : Nat} {v : Value} (hd : decode code pc = .ok (.getstatic idx, 3)) (w : (Cond.fieldLink own idx O n d).before a0 Z = true) (F : Sta Z h O n d v) (k : ∀ T', OHr p l e R s m args below meth c Z n0 own nm code maxL ret T' h ce sl → OEnds p e below s n0 Q C S T' (mkF m (pc + 3) Ls (v :: st))) : OEnds p e below s n0 Q C S T (mkF m pc Ls st) := by
  obtain ⟨⟨hx, hZ, hby, hml, hown, hnm, hrt, hlk⟩, locs, X, eT, N, z0⟩ := H
  obtain ⟨T', X', e', q⟩ := getS (host := "") X hx hZ hown w Via.refl eT F (g := mkF m pc Ls st) rfl (hb hby hd)
  exact go q (k T' ⟨⟨hx, hZ, hby, hml, hown, hnm, hrt, hlk⟩, locs, X', e', N, z0⟩)
theorem new_ (H : OHr p l e R s m args below meth c Z n0 own nm code maxL ret T h ce sl) {CC : String} {idx n : Nat} (hd : decode code pc = .ok (.new idx, 3)) (w : (Cond.classLink own idx CC).before a0 Z = true) (wi : (Cond.instantiable CC n).before a0 Z = true) (wz : (Cond.initialized CC).before a0 Z = true) (hc : ce + 1 ≤ R.cells) (hl : sl + n ≤ R.slots)
    (k : ∀ T' h' a, a = h.size → n0 ≤ a → OHr p l e R s m args below meth c Z n0 own nm code maxL ret T' h' (ce + 1) (sl + n) → Ext h h' → Exa Z h' a CC → (∀ {O nm d : String} {ty : FieldType}, Laid Z a0 CC O nm d → parseFieldDescriptor d = some ty → Fld Z h' a O nm d (defaultValue ty)) → OEnds p e below s n0 Q C S T' (mkF m (pc + 3) Ls (.ref a :: st))) : OEnds p e below s n0 Q C S T (mkF m pc Ls st) := by
  obtain ⟨⟨hx, hZ, hby, hml, hown, hnm, hrt, hlk⟩, locs, X, eT, N, z0⟩ := H
  obtain ⟨T', h', X', e', E', A', D', -, q⟩ := newO X hx hZ hown w wi wz eT (g := mkF m pc Ls st) rfl (hb hby hd) hc hl
  exact go q (k T' h' _ rfl z0 ⟨⟨hx, hZ, hby, hml, hown, hnm, hrt, hlk⟩, locs, X', e', N, Nat.le_trans z0 E'.1⟩ E' A' D')
theorem newarray (H : OHr p l e R s m args below meth c Z n0 own nm code maxL ret T h ce sl) {aty : ArrayType} {n : Int32} {i : Nat} (cap : Nat) (hd : decode code pc = .ok (.newarray aty, 2)) (w : (Cond.arrayClass (newarray.typeOf aty)).before a0 Z = true) (hn : n.toInt = (i : Int)) (hf : fits (newarray.typeOf aty) (defaultValue (newarray.typeOf aty)) = true) (hcap : i ≤ cap) (hb8 : cap * 8 ≤ 536870912) (hc : ce + 1 ≤ R.cells) (hl : sl + cap ≤ R.slots)
    (k : ∀ T' h' a, a = h.size → n0 ≤ a → OHr p l e R s m args below meth c Z n0 own nm code maxL ret T' h' (ce + 1) (sl + cap) → Ext h h' → OAry Z h' a (newarray.typeOf aty) (List.replicate i (defaultValue (newarray.typeOf aty))) → OEnds p e below s n0 Q C S T' (mkF m (pc + 2) Ls (.ref a :: st))) : OEnds p e below s n0 Q C S T (mkF m pc Ls (.int n :: st)) := by
  obtain ⟨⟨hx, hZ, hby, hml, hown, hnm, hrt, hlk⟩, locs, X, eT, N, z0⟩ := H
  obtain ⟨n1, n2⟩ := nat_idx hn
  obtain ⟨T', h', cA, X', e', E', A', q⟩ := newP X hx hZ w eT (g := mkF m pc Ls (.int n :: st)) rfl (hb hby hd) rfl n2 (cap := cap) (by rw [n1]; exact hcap) hb8 hc hl
  exact go q (k T' h' _ rfl z0 ⟨⟨hx, hZ, hby, hml, hown, hnm, hrt, hlk⟩, locs, X', e', N, Nat.le_trans z0 E'.1⟩ E' (by have := OAry.new A' hf; rw [n1] at this; exact this))
theorem arraylength (H : OHr p l e R s m args below meth c Z n0 own nm code maxL ret T h ce sl) {a : Addr} {ty : FieldType} {vs : List Value} (n : Int32) (hd : decode code pc = .ok (.arraylength, 1)) (A : OAry Z h a ty vs) (hn : n.toInt = (vs.length : Int)) (k : OEnds p e below s n0 Q C S T (mkF m (pc + 1) Ls (.int n :: st))) : OEnds p e below s n0 Q C S T (mkF m pc Ls (.ref a :: st)) := by
  obtain ⟨⟨hx, hZ, hby, hml, hown, hnm, hrt, hlk⟩, locs, X, eT, N, z0⟩ := H
  obtain ⟨c1, A, r1, r2, r3⟩ := A
  have hsz : c1.slots.size = vs.length := by rw [← r1]; simp
  obtain ⟨n1, n2⟩ := nat_idx hn
  have e1 : c1.slots.size.toInt32 = n := by rw [hsz, ← n1]; exact (back32 n2).1
  refine go (fun t q => X.arraylength hx (cell := c1) (by rw [eT]; exact A.1) (State.isArrayOf_alike hZ.alike A.2.1) (g := mkF m pc Ls (.ref a :: st)) rfl rfl (hb hby hd) t q) ?_
  rw [e1]
  exact k
theorem iaload (H : OHr p l e R s m args below meth c Z n0 own nm code maxL ret T h ce sl) {a : Addr} {vs : List Value} {j : Int32} {v : Int32} (i : Nat) (hd : decode code pc = .ok (.iaload, 1)) (A : OAry Z h a .int vs) (hj : j.toInt = (i : Int)) (hv : vs[i]? = some (.int v)) (k : OEnds p e below s n0 Q C S T (mkF m (pc + 1) Ls (.int v :: st))) : OEnds p e below s n0 Q C S T (mkF m pc Ls (.int j :: .ref a :: st)) := by
  obtain ⟨⟨hx, hZ, hby, hml, hown, hnm, hrt, hlk⟩, locs, X, eT, N, z0⟩ := H
  obtain ⟨c1, A, r1, r2, r3⟩ := A
  have hsz : c1.slots.size = vs.length := by rw [← r1]; simp
  obtain ⟨n1, n2⟩ := nat_idx hj
  have hi : i < vs.length := by rcases Nat.lt_or_ge i vs.length with q | q; exact q; rw [List.getElem?_eq_none q] at hv; cases hv
  have hat : c1.slots[j.toNatClampNeg]? = some (.int v) := by rw [n1, ← Array.getElem?_toList, r1]; exact hv
  have hin : ¬ (j < 0 ∨ c1.slots.size ≤ j.toNatClampNeg) := by rw [n1, hsz]; intro q; rcases q with q | q; exact n2 q; omega
  exact go (fun t q => X.iaload hx (by rw [eT]; exact A.1) (State.isArrayOf_alike hZ.alike A.2.1) A.2.2 hin hat (g := mkF m pc Ls (.int j :: .ref a :: st)) rfl rfl (hb hby hd) t q) k
theorem laload (H : OHr p l e R s m args below meth c Z n0 own nm code maxL ret T h ce sl) {a : Addr} {vs : List Value} {j : Int32} {v : Int64} (i : Nat) (hd : decode code pc = .ok (.laload, 1)) (A : OAry Z h a .long vs) (hj : j.toInt = (i : Int)) (hv : vs[i]? = some (.long v)) (k : OEnds p e below s n0 Q C S T (mkF m (pc + 1) Ls (.long v :: st))) : OEnds p e below s n0 Q C S T (mkF m pc Ls (.int j :: .ref a :: st)) := by
  obtain ⟨⟨hx, hZ, hby, hml, hown, hnm, hrt, hlk⟩, locs, X, eT, N, z0⟩ := H
  obtain ⟨c1, A, r1, r2, r3⟩ := A
  have hsz : c1.slots.size = vs.length := by rw [← r1]; simp
  obtain ⟨n1, n2⟩ := nat_idx hj
  have hi : i < vs.length := by rcases Nat.lt_or_ge i vs.length with q | q; exact q; rw [List.getElem?_eq_none q] at hv; cases hv
  have hat : c1.slots[j.toNatClampNeg]? = some (.long v) := by rw [n1, ← Array.getElem?_toList, r1]; exact hv
  have hin : ¬ (j < 0 ∨ c1.slots.size ≤ j.toNatClampNeg) := by rw [n1, hsz]; intro q; rcases q with q | q; exact n2 q; omega
  exact go (fun t q => X.laload hx (by rw [eT]; exact A.1) (State.isArrayOf_alike hZ.alike A.2.1) A.2.2 hin hat (g := mkF m pc Ls (.int j :: .ref a :: st)) rfl rfl (hb hby hd) t q) k
theorem caload (H : OHr p l e R s m args below meth c Z n0 own nm code maxL ret T h ce sl) {a : Addr} {vs : List Value} {j : Int32} {v : Int32} (i : Nat) (hd : decode code pc = .ok (.caload, 1)) (A : OAry Z h a .char vs) (hj : j.toInt = (i : Int)) (hv : vs[i]? = some (.int v)) (k : OEnds p e below s n0 Q C S T (mkF m (pc + 1) Ls (.int v :: st))) : OEnds p e below s n0 Q C S T (mkF m pc Ls (.int j :: .ref a :: st)) := by
  obtain ⟨⟨hx, hZ, hby, hml, hown, hnm, hrt, hlk⟩, locs, X, eT, N, z0⟩ := H
  obtain ⟨c1, A, r1, r2, r3⟩ := A
  have hsz : c1.slots.size = vs.length := by rw [← r1]; simp
  obtain ⟨n1, n2⟩ := nat_idx hj
  have hi : i < vs.length := by rcases Nat.lt_or_ge i vs.length with q | q; exact q; rw [List.getElem?_eq_none q] at hv; cases hv
  have hat : c1.slots[j.toNatClampNeg]? = some (.int v) := by rw [n1, ← Array.getElem?_toList, r1]; exact hv
  have hin : ¬ (j < 0 ∨ c1.slots.size ≤ j.toNatClampNeg) := by rw [n1, hsz]; intro q; rcases q with q | q; exact n2 q; omega
  exact go (fun t q => X.caload hx (by rw [eT]; exact A.1) (State.isArrayOf_alike hZ.alike A.2.1) A.2.2 hin hat (g := mkF m pc Ls (.int j :: .ref a :: st)) rfl rfl (hb hby hd) t q) k
theorem baload (H : OHr p l e R s m args below meth c Z n0 own nm code maxL ret T h ce sl) {a : Addr} {vs : List Value} {j : Int32} {v : Int32} (i : Nat) (hd : decode code pc = .ok (.baload, 1)) (A : OAry Z h a .byte vs) (hj : j.toInt = (i : Int)) (hv : vs[i]? = some (.int v)) (k : OEnds p e below s n0 Q C S T (mkF m (pc + 1) Ls (.int v :: st))) : OEnds p e below s n0 Q C S T (mkF m pc Ls (.int j :: .ref a :: st)) := by
  obtain ⟨⟨hx, hZ, hby, hml, hown, hnm, hrt, hlk⟩, locs, X, eT, N, z0⟩ := H
  obtain ⟨c1, A, r1, r2, r3⟩ := A
  have hsz : c1.slots.size = vs.length := by rw [← r1]; simp
  obtain ⟨n1, n2⟩ := nat_idx hj
  have hi : i < vs.length := by rcases Nat.lt_or_ge i vs.length with q | q; exact q; rw [List.getElem?_eq_none q] at hv; cases hv
  have hat : c1.slots[j.toNatClampNeg]? = some (.int v) := by rw [n1, ← Array.getElem?_toList, r1]; exact hv
  have hin : ¬ (j < 0 ∨ c1.slots.size ≤ j.toNatClampNeg) := by rw [n1, hsz]; intro q; rcases q with q | q; exact n2 q; omega
  exact go (fun t q => X.baloadBytes hx (by rw [eT]; exact A.1) (State.isArrayOf_alike hZ.alike A.2.1) A.2.2 hin hat (g := mkF m pc Ls (.int j :: .ref a :: st)) rfl rfl (hb hby hd) t q) k
theorem aaload (H : OHr p l e R s m args below meth c Z n0 own nm code maxL ret T h ce sl) {a : Addr} {ty : FieldType} {vs : List Value} {j : Int32} {v : Value} (i : Nat) (hd : decode code pc = .ok (.aaload, 1)) (A : OAry Z h a ty vs) (ht : ty.isReference = true) (hj : j.toInt = (i : Int)) (hv : vs[i]? = some v) (k : OEnds p e below s n0 Q C S T (mkF m (pc + 1) Ls (v :: st))) : OEnds p e below s n0 Q C S T (mkF m pc Ls (.int j :: .ref a :: st)) := by
  obtain ⟨⟨hx, hZ, hby, hml, hown, hnm, hrt, hlk⟩, locs, X, eT, N, z0⟩ := H
  obtain ⟨c1, A, r1, r2, r3⟩ := A
  have hsz : c1.slots.size = vs.length := by rw [← r1]; simp
  obtain ⟨n1, n2⟩ := nat_idx hj
  have hi : i < vs.length := by rcases Nat.lt_or_ge i vs.length with q | q; exact q; rw [List.getElem?_eq_none q] at hv; cases hv
  have hat : c1.slots[j.toNatClampNeg]? = some v := by rw [n1, ← Array.getElem?_toList, r1]; exact hv
  have hin : ¬ (j < 0 ∨ c1.slots.size ≤ j.toNatClampNeg) := by rw [n1, hsz]; intro q; rcases q with q | q; exact n2 q; omega
  exact go (fun t q => X.aaload hx (by rw [eT]; exact A.1) (State.isArrayOf_alike hZ.alike A.2.1) ht A.2.2 hin hat (g := mkF m pc Ls (.int j :: .ref a :: st)) rfl rfl (hb hby hd) t q) k
theorem iastore (H : OHr p l e R s m args below meth c Z n0 own nm code maxL ret T h ce sl) {a : Addr} {vs : List Value} {j : Int32} {v : Int32} (i : Nat) (hd : decode code pc = .ok (.iastore, 1)) (A : OAry Z h a .int vs) (ge : n0 ≤ a) (hj : j.toInt = (i : Int)) (hi : i < vs.length) (k : ∀ T' h', OHr p l e R s m args below meth c Z n0 own nm code maxL ret T' h' ce sl → Wr h h' a i (.int v) → OAry Z h' a .int (vs.set i (.int v)) → OEnds p e below s n0 Q C S T' (mkF m (pc + 1) Ls st)) : OEnds p e below s n0 Q C S T (mkF m pc Ls (.int v :: .int j :: .ref a :: st)) := by
  obtain ⟨⟨hx, hZ, hby, hml, hown, hnm, hrt, hlk⟩, locs, X, eT, N, z0⟩ := H
  have A0 := A
  obtain ⟨c1, A, r1, r2, r3⟩ := A
  have hsz : c1.slots.size = vs.length := by rw [← r1]; simp
  obtain ⟨n1, n2⟩ := nat_idx hj
  have hin : ¬ (j < 0 ∨ c1.slots.size ≤ j.toNatClampNeg) := by rw [n1, hsz]; intro q; rcases q with q | q; exact n2 q; omega
  obtain ⟨T', h', X', e', W, q⟩ := stI X hx hZ eT A hin (g := mkF m pc Ls (.int v :: .int j :: .ref a :: st)) rfl rfl (hb hby hd)
  rw [n1] at X' W
  exact go q (k T' h' ⟨⟨hx, hZ, hby, hml, hown, hnm, hrt, hlk⟩, _, X', e', Fr.one N ge, by rw [W.size]; exact z0⟩ W (A0.wr W rfl))
theorem lastore (H : OHr p l e R s m args below meth c Z n0 own nm code maxL ret T h ce sl) {a : Addr} {vs : List Value} {j : Int32} {v : Int64} (i : Nat) (hd : decode code pc = .ok (.lastore, 1)) (A : OAry Z h a .long vs) (ge : n0 ≤ a) (hj : j.toInt = (i : Int)) (hi : i < vs.length) (k : ∀ T' h', OHr p l e R s m args below meth c Z n0 own nm code maxL ret T' h' ce sl → Wr h h' a i (.long v) → OAry Z h' a .long (vs.set i (.long v)) → OEnds p e below s n0 Q C S T' (mkF m (pc + 1) Ls st)) : OEnds p e below s n0 Q C S T (mkF m pc Ls (.long v :: .int j :: .ref a :: st)) := by
  obtain ⟨⟨hx, hZ, hby, hml, hown, hnm, hrt, hlk⟩, locs, X, eT, N, z0⟩ := H
  have A0 := A
  obtain ⟨c1, A, r1, r2, r3⟩ := A
  have hsz : c1.slots.size = vs.length := by rw [← r1]; simp
  obtain ⟨n1, n2⟩ := nat_idx hj
  have hin : ¬ (j < 0 ∨ c1.slots.size ≤ j.toNatClampNeg) := by rw [n1, hsz]; intro q; rcases q with q | q; exact n2 q; omega
  obtain ⟨T', h', X', e', W, q⟩ := stJ X hx hZ eT A hin (g := mkF m pc Ls (.long v :: .int j :: .ref a :: st)) rfl rfl (hb hby hd)
  rw [n1] at X' W
  exact go q (k T' h' ⟨⟨hx, hZ, hby, hml, hown, hnm, hrt, hlk⟩, _, X', e', Fr.one N ge, by rw [W.size]; exact z0⟩ W (A0.wr W rfl))
theorem castore (H : OHr p l e R s m args below meth c Z n0 own nm code maxL ret T h ce sl) {a : Addr} {vs : List Value} {j : Int32} {v : Int32} (i : Nat) (hd : decode code pc = .ok (.castore, 1)) (A : OAry Z h a .char vs) (ge : n0 ≤ a) (hj : j.toInt = (i : Int)) (hi : i < vs.length) (k : ∀ T' h', OHr p l e R s m args below meth c Z n0 own nm code maxL ret T' h' ce sl → Wr h h' a i (.int (nar .char v)) → OAry Z h' a .char (vs.set i (.int (nar .char v))) → OEnds p e below s n0 Q C S T' (mkF m (pc + 1) Ls st)) : OEnds p e below s n0 Q C S T (mkF m pc Ls (.int v :: .int j :: .ref a :: st)) := by
  obtain ⟨⟨hx, hZ, hby, hml, hown, hnm, hrt, hlk⟩, locs, X, eT, N, z0⟩ := H
  have A0 := A
  obtain ⟨c1, A, r1, r2, r3⟩ := A
  have hsz : c1.slots.size = vs.length := by rw [← r1]; simp
  obtain ⟨n1, n2⟩ := nat_idx hj
  have hin : ¬ (j < 0 ∨ c1.slots.size ≤ j.toNatClampNeg) := by rw [n1, hsz]; intro q; rcases q with q | q; exact n2 q; omega
  obtain ⟨T', h', X', e', W, q⟩ := stC X hx hZ eT A hin (g := mkF m pc Ls (.int v :: .int j :: .ref a :: st)) rfl rfl (hb hby hd)
  rw [n1] at X' W
  exact go q (k T' h' ⟨⟨hx, hZ, hby, hml, hown, hnm, hrt, hlk⟩, _, X', e', Fr.one N ge, by rw [W.size]; exact z0⟩ W (A0.wr W (fits_nar_char v)))
theorem bastore (H : OHr p l e R s m args below meth c Z n0 own nm code maxL ret T h ce sl) {a : Addr} {vs : List Value} {j : Int32} {v : Int32} (i : Nat) (hd : decode code pc = .ok (.bastore, 1)) (A : OAry Z h a .byte vs) (ge : n0 ≤ a) (hj : j.toInt = (i : Int)) (hi : i < vs.length) (k : ∀ T' h', OHr p l e R s m args below meth c Z n0 own nm code maxL ret T' h' ce sl → Wr h h' a i (.int (nar .byte v)) → OAry Z h' a .byte (vs.set i (.int (nar .byte v))) → OEnds p e below s n0 Q C S T' (mkF m (pc + 1) Ls st)) : OEnds p e below s n0 Q C S T (mkF m pc Ls (.int v :: .int j :: .ref a :: st)) := by
  obtain ⟨⟨hx, hZ, hby, hml, hown, hnm, hrt, hlk⟩, locs, X, eT, N, z0⟩ := H
  have A0 := A
  obtain ⟨c1, A, r1, r2, r3⟩ := A
  have hsz : c1.slots.size = vs.length := by rw [← r1]; simp
  obtain ⟨n1, n2⟩ := nat_idx hj
  have hin : ¬ (j < 0 ∨ c1.slots.size ≤ j.toNatClampNeg) := by rw [n1, hsz]; intro q; rcases q with q | q; exact n2 q; omega
  obtain ⟨T', h', X', e', W, q⟩ := stB X hx hZ eT A hin (g := mkF m pc Ls (.int v :: .int j :: .ref a :: st)) rfl rfl (hb hby hd)
  rw [n1] at X' W
  exact go q (k T' h' ⟨⟨hx, hZ, hby, hml, hown, hnm, hrt, hlk⟩, _, X', e', Fr.one N ge, by rw [W.size]; exact z0⟩ W (A0.wr W (fits_nar_byte v)))
theorem callS (H : OHr p l e R s m args below meth c Z n0 own nm code maxL ret T h ce sl) {y : MethodName} {idx mxL : Nat} {bytes : ByteArray} {rt : Option FieldType} {rm : Room} {Q' : Option Value → Heap → Prop} {ps : List FieldType} {r : Option FieldType} (argsL rest : List Value) (hd : decode code pc = .ok (.invokestatic idx, 3)) (w1 : (Cond.methodLink own idx y).before a0 Z = true) (w2 : (Cond.static y).before a0 Z = true) (w3 : (Cond.initialized y.cls).before a0 Z = true) (w4 : (Cond.code y bytes mxL rt).before a0 Z = true) (hy : y.cls ≠ "java/lang/invoke/MethodHandle" ∧ y.cls ≠ "java/lang/invoke/VarHandle")
    (M : OMet l Z n0 y bytes mxL rt rm argsL.toArray h Q') (hde : parseMethodDescriptor y.desc = some ⟨ps, r⟩) (hlen : argsL.length = ps.length) (hst : st = argsL.reverse ++ rest) (W : Nat) (hW0 : (rest.map fun v => v.category).sum = W) (hfr : rm.frames + 1 ≤ R.frames) (hW : W + (mxL + 11) + rm.locals ≤ R.locals) (hc : ce + rm.cells ≤ R.cells) (hs : sl + rm.slots ≤ R.slots) (hL : Ls.size = maxL)
    (k : ∀ T' v h', OHr p l e R s m args below meth c Z n0 own nm code maxL ret T' h' (ce + rm.cells) (sl + rm.slots) → h.size ≤ h'.size → Q' v h' → OEnds p e below s n0 Q C S T' (mkF m (pc + 3) Ls (v.toList ++ rest))) : OEnds p e below s n0 Q C S T (mkF m pc Ls st) := by
  obtain ⟨⟨hx, hZ, hby, hml, hown, hnm, hrt, hlk⟩, locs, X, eT, N, z0⟩ := H
  obtain ⟨v, _, ⟨T1, L1, k1, n1⟩, -, X1, ⟨Lc, ⟨f1, hle, hQ1⟩, l1, y1, z1⟩, q⟩ := Jvm.LawKit.callS X hx (y := y) hown (mvT hZ w1) (mvT hZ w2) (mvT hZ w3) (mvT hZ w4) hy (backOf (W := W) (Q := fun v h' L => Fr n0 L ∧ h.size ≤ h'.size ∧ Q' v h') (M []) hZ w4 w3 hfr hW) (g := mkF m pc Ls st) rfl (hL.trans hml.symm) (argsL := argsL) (rest := rest) (lenOf hde hlen) hst (by show 2 * 0 + _ ≤ _; rw [hW0]; omega) (hb hby hd) (fun _ _ => ⟨rfl, eT, hc, hs⟩)
  dsimp only [Pt.U, Pt.locs, Pt.cells, Pt.slots] at X1 l1 y1 z1 q hQ1 hle
  subst l1 y1 z1
  exact go q (k T1 v _ ⟨⟨hx, hZ, hby, hml, hown, hnm, hrt, hlk⟩, _, X1, rfl, Fr.app N f1, Nat.le_trans z0 hle⟩ hle hQ1)
theorem callI (H : OHr p l e R s m args below meth c Z n0 own nm code maxL ret T h ce sl) {y : MethodName} {idx mxL : Nat} {bytes : ByteArray} {rm : Room} {Q' : Option Value → Heap → Prop} {ps : List FieldType} {r : Option FieldType} (a : Addr) (argsL rest : List Value) (hd : decode code pc = .ok (.invokespecial idx, 3)) (hy1 : y.name = "<init>") (w1 : (Cond.methodLink own idx y).before a0 Z = true) (w2 : (Cond.instanceMethod y).before a0 Z = true) (w3 : (Cond.initialized y.cls).before a0 Z = true) (w4 : (Cond.code y bytes mxL none).before a0 Z = true) (hy : y.cls ≠ "java/lang/invoke/MethodHandle" ∧ y.cls ≠ "java/lang/invoke/VarHandle")
    (M : OMet l Z n0 y bytes mxL none rm (.ref a :: argsL).toArray h Q') (hde : parseMethodDescriptor y.desc = some ⟨ps, r⟩) (hlen : argsL.length = ps.length) (hst : st = argsL.reverse ++ .ref a :: rest) (W : Nat) (hW0 : (rest.map fun v => v.category).sum = W) (hfr : rm.frames + 1 ≤ R.frames) (hW : W + (mxL + 11) + rm.locals ≤ R.locals) (hc : ce + rm.cells ≤ R.cells) (hs : sl + rm.slots ≤ R.slots) (hL : Ls.size = maxL)
    (k : ∀ T' v h', OHr p l e R s m args below meth c Z n0 own nm code maxL ret T' h' (ce + rm.cells) (sl + rm.slots) → h.size ≤ h'.size → Q' v h' → OEnds p e below s n0 Q C S T' (mkF m (pc + 3) Ls (v.toList ++ rest))) : OEnds p e below s n0 Q C S T (mkF m pc Ls st) := by
  obtain ⟨⟨hx, hZ, hby, hml, hown, hnm, hrt, hlk⟩, locs, X, eT, N, z0⟩ := H
  obtain ⟨v, _, ⟨T1, L1, k1, n1⟩, -, X1, ⟨Lc, ⟨f1, hle, hQ1⟩, l1, y1, z1⟩, q⟩ := X.specialBack hx (y := y) hy1 hown (mvT hZ w1) (mvT hZ w2) (mvT hZ w4) hy (backOf (W := W) (Q := fun v h' L => Fr n0 L ∧ h.size ≤ h'.size ∧ Q' v h') (M []) hZ w4 w3 hfr hW) (g := mkF m pc Ls st) rfl (hL.trans hml.symm) (Steps.refl _) (a := a) (argsL := argsL) (rest := rest) (lenOf hde hlen) hst (by show 2 * 0 + _ ≤ _; rw [hW0]; omega) (hb hby hd) (fun _ _ => ⟨rfl, eT, hc, hs⟩)
  dsimp only [Pt.U, Pt.locs, Pt.cells, Pt.slots] at X1 l1 y1 z1 q hQ1 hle
  subst l1 y1 z1
  exact go1 q (k T1 v _ ⟨⟨hx, hZ, hby, hml, hown, hnm, hrt, hlk⟩, _, X1, rfl, Fr.app N f1, Nat.le_trans z0 hle⟩ hle hQ1)
theorem callV (H : OHr p l e R s m args below meth c Z n0 own nm code maxL ret T h ce sl) {y z : MethodName} {CC : String} {idx mxL : Nat} {bytes : ByteArray} {rt : Option FieldType} {rm : Room} {Q' : Option Value → Heap → Prop} {ps : List FieldType} {r : Option FieldType} (a : Addr) (argsL rest : List Value) (hd : decode code pc = .ok (.invokevirtual idx, 3)) (w1 : (Cond.methodLink own idx y).before a0 Z = true) (w2 : (Cond.declares y).before a0 Z = true) (nf : NotFace s y) (w5 : (Cond.selects CC y z).before a0 Z = true) (w6 : (Cond.instanceMethod z).before a0 Z = true) (w3 : (Cond.initialized z.cls).before a0 Z = true) (w4 : (Cond.code z bytes mxL rt).before a0 Z = true) (hy : y.cls ≠ "java/lang/invoke/MethodHandle" ∧ y.cls ≠ "java/lang/invoke/VarHandle") (E : Exa Z h a CC)
    (M : OMet l Z n0 z bytes mxL rt rm (.ref a :: argsL).toArray h Q') (hde : parseMethodDescriptor y.desc = some ⟨ps, r⟩) (hlen : argsL.length = ps.length) (hst : st = argsL.reverse ++ .ref a :: rest) (W : Nat) (hW0 : (rest.map fun v => v.category).sum = W) (hfr : rm.frames + 1 ≤ R.frames) (hW : W + (mxL + 11) + rm.locals ≤ R.locals) (hc : ce + rm.cells ≤ R.cells) (hs : sl + rm.slots ≤ R.slots) (hL : Ls.size = maxL)
    (k : ∀ T' v h', OHr p l e R s m args below meth c Z n0 own nm code maxL ret T' h' (ce + rm.cells) (sl + rm.slots) → h.size ≤ h'.size → Q' v h' → OEnds p e below s n0 Q C S T' (mkF m (pc + 3) Ls (v.toList ++ rest))) : OEnds p e below s n0 Q C S T (mkF m pc Ls st) := by
  obtain ⟨⟨hx, hZ, hby, hml, hown, hnm, hrt, hlk⟩, locs, X, eT, N, z0⟩ := H
  obtain ⟨cq, kq, qa, qb, qc⟩ := isOf hZ eT E
  obtain ⟨v, _, ⟨T1, L1, k1, n1⟩, -, X1, ⟨Lc, ⟨f1, hle, hQ1⟩, l1, y1, z1⟩, q⟩ := X.virtualBack hx (y := y) (z := z) hown (mvT hZ w1) (mvT hZ w2) nf (mvT hZ w5) (mvT hZ w6) hy (backOf (W := W) (Q := fun v h' L => Fr n0 L ∧ h.size ≤ h'.size ∧ Q' v h') (M []) hZ w4 w3 hfr hW) qa qc (g := mkF m pc Ls st) rfl (hL.trans hml.symm) (Steps.refl _) (argsL := argsL) (rest := rest) (lenOf hde hlen) hst (by show 2 * 0 + _ ≤ _; rw [hW0]; omega) (hb hby hd) (fun _ _ => ⟨rfl, eT, hc, hs⟩)
  dsimp only [Pt.U, Pt.locs, Pt.cells, Pt.slots] at X1 l1 y1 z1 q hQ1 hle
  subst l1 y1 z1
  exact go1 q (k T1 v _ ⟨⟨hx, hZ, hby, hml, hown, hnm, hrt, hlk⟩, _, X1, rfl, Fr.app N f1, Nat.le_trans z0 hle⟩ hle hQ1)
theorem callO (H : OHr p l e R s m args below meth c Z n0 own nm code maxL ret T h ce sl) {idx : Nat} {a : Addr} (hd : decode code pc = .ok (.invokespecial idx, 3)) (w1 : (Cond.methodLink own idx Lib.objectInit).before a0 Z = true) (w2 : (Cond.instanceMethod Lib.objectInit).before a0 Z = true) (w3 : (Cond.code Lib.objectInit ⟨#[0xb1]⟩ 1 none).before a0 Z = true) (W : Nat) (hW0 : (st.map fun v => v.category).sum = W) (hfr : 1 ≤ R.frames) (hW : W + 12 ≤ R.locals) (hL : Ls.size = maxL) (k : ∀ T', OHr p l e R s m args below meth c Z n0 own nm code maxL ret T' h ce sl → OEnds p e below s n0 Q C S T' (mkF m (pc + 3) Ls st)) : OEnds p e below s n0 Q C S T (mkF m pc Ls (.ref a :: st)) := by
  obtain ⟨⟨hx, hZ, hby, hml, hown, hnm, hrt, hlk⟩, locs, X, eT, N, z0⟩ := H
  obtain ⟨T', X', e', q⟩ := initO X hx hZ hown w1 w2 w3 eT (g := mkF m pc Ls (.ref a :: st)) rfl (hL.trans hml.symm) rfl (hb hby hd) hfr (W := W) (by show 2 * 0 + _ ≤ _; rw [hW0]; omega) hW
  exact go q (k T' ⟨⟨hx, hZ, hby, hml, hown, hnm, hrt, hlk⟩, locs, X', e', N, z0⟩)
theorem OHr.nf (H : OHr p l e R s m args below meth c Z n0 own nm code maxL ret T h ce sl) {y : MethodName} {CC : String} (w : (Cond.selects CC y y).before a0 Z = true) : NotFace s y := by
  obtain ⟨⟨hx, hZ, hby, hml, hown, hnm, hrt, hlk⟩, locs, X, eT, N, z0⟩ := H
  exact notFace_of_selects (args := #[]) (mvT hZ w)
theorem clone_ (H : OHr p l e R s m args below meth c Z n0 own nm code maxL ret T h ce sl) {ad : String} {idx : Nat} {a : Addr} {ty : FieldType} {vs : List Value} (cap : Nat) (hd : decode code pc = .ok (.invokevirtual idx, 3)) (w1 : (Cond.methodLink own idx ⟨ad, "clone", "()Ljava/lang/Object;"⟩).before a0 Z = true) (w2 : (Cond.sameMethod ad "java/lang/Object" "clone" "()Ljava/lang/Object;").before a0 Z = true) (w3 : (Cond.native ⟨"java/lang/Object", "clone", "()Ljava/lang/Object;"⟩).before a0 Z = true)
    (w4 : (Cond.instanceMethod ⟨"java/lang/Object", "clone", "()Ljava/lang/Object;"⟩).before a0 Z = true) (w5 : (Cond.selects ad ⟨ad, "clone", "()Ljava/lang/Object;"⟩ ⟨"java/lang/Object", "clone", "()Ljava/lang/Object;"⟩).before a0 Z = true) (w6 : (Cond.castable ad "java/lang/Cloneable").before a0 Z = true) (A : OAry Z h a ty vs) (E : Exa Z h a ad) (W : Nat) (hW0 : (st.map fun v => v.category).sum = W) (hfr : 1 ≤ R.frames) (hW : W + 14 ≤ R.locals) (hcap : vs.length ≤ cap) (hc : ce + 1 ≤ R.cells) (hs : sl + cap ≤ R.slots) (hL : Ls.size = maxL)
    (k : ∀ T' h' b, b = h.size → n0 ≤ b → OHr p l e R s m args below meth c Z n0 own nm code maxL ret T' h' (ce + 1) (sl + cap) → Ext h h' → OAry Z h' b ty vs → Exa Z h' b ad → OEnds p e below s n0 Q C S T' (mkF m (pc + 3) Ls (.ref b :: st))) : OEnds p e below s n0 Q C S T (mkF m pc Ls (.ref a :: st)) := by
  obtain ⟨⟨hx, hZ, hby, hml, hown, hnm, hrt, hlk⟩, locs, X, eT, N, z0⟩ := H
  obtain ⟨c1, A, r1, r2, r3⟩ := A
  have hsz : c1.slots.size = vs.length := by rw [← r1]; simp
  have hF : FitC Z c1 := fitC_of A (fun i hi v hv => r3 v (by rw [← r1]; rw [← Array.getElem?_toList] at hv; exact List.mem_of_getElem? hv))
  obtain ⟨T', h', X', e', E', A', B', q⟩ := cloneA X hx hZ hown w1 w2 w3 w4 w5 w6 eT A E hF (g := mkF m pc Ls (.ref a :: st)) rfl (hL.trans hml.symm) rfl (hb hby hd) hfr (W := W) (by show 2 * 0 + _ ≤ _; rw [hW0]; omega) hW (cap := cap) (by rw [hsz]; exact hcap) hc hs
  exact go q (k T' h' _ rfl z0 ⟨⟨hx, hZ, hby, hml, hown, hnm, hrt, hlk⟩, locs, X', e', N, Nat.le_trans z0 E'.1⟩ E' ⟨_, A', r1, r2, r3⟩ B')
theorem checkcast (H : OHr p l e R s m args below meth c Z n0 own nm code maxL ret T h ce sl) {KK : String} {idx : Nat} {a : Addr} (hd : decode code pc = .ok (.checkcast idx, 3)) (w : (Cond.classLink own idx KK).before a0 Z = true) (F : Ins Z h a KK true) (k : ∀ T', OHr p l e R s m args below meth c Z n0 own nm code maxL ret T' h ce sl → OEnds p e below s n0 Q C S T' (mkF m (pc + 3) Ls (.ref a :: st))) : OEnds p e below s n0 Q C S T (mkF m pc Ls (.ref a :: st)) := by
  obtain ⟨⟨hx, hZ, hby, hml, hown, hnm, hrt, hlk⟩, locs, X, eT, N, z0⟩ := H
  obtain ⟨T', X', e', q⟩ := castY X hx hZ hown w eT F (g := mkF m pc Ls (.ref a :: st)) rfl rfl (hb hby hd)
  exact go q (k T' ⟨⟨hx, hZ, hby, hml, hown, hnm, hrt, hlk⟩, locs, X', e', N, z0⟩)
def ORef (Z : State) (h : Heap) (a : Nat) (ty : FieldType) (CC : String) (vs : List Value) : Prop := ∃ c : Cell, Arr Z h a c (.array ty) ∧ OvrA Z c.cls ty CC ∧ c.slots.toList = vs ∧ vs.length < 2 ^ 31 ∧ ∀ v ∈ vs, fits (.array ty) v = true
theorem ORef.ary {Z : State} {h : Heap} {a : Nat} {ty : FieldType} {CC : String} {vs : List Value} (A : ORef Z h a ty CC vs) : OAry Z h a (.array ty) vs := by obtain ⟨c, A, -, r⟩ := A; exact ⟨c, A, r⟩
theorem ORef.ext {Z : State} {h h' : Heap} {a : Nat} {ty : FieldType} {CC : String} {vs : List Value} (A : ORef Z h a ty CC vs) (E : Ext h h') : ORef Z h' a ty CC vs := by obtain ⟨c, A, r⟩ := A; exact ⟨c, A.ext E, r⟩
theorem ORef.other {Z : State} {h h' : Heap} {a b : Nat} {sl : Nat} {v : Value} {ty : FieldType} {CC : String} {vs : List Value} (A : ORef Z h b ty CC vs) (W : Wr h h' a sl v) (q : b ≠ a) : ORef Z h' b ty CC vs := by obtain ⟨c, A, r⟩ := A; exact ⟨c, A.other W q, r⟩
theorem ORef.keep {Z : State} {h h' : Heap} {a : Nat} {ws : List Addr} {ty : FieldType} {CC : String} {vs : List Value} (A : ORef Z h a ty CC vs) (K : Keep h h' ws) (q : a ∉ ws) : ORef Z h' a ty CC vs := by obtain ⟨c, A, r⟩ := A; exact ⟨c, ⟨K.2.1 _ _ A.1 q, A.2⟩, r⟩
theorem ORef.lt {Z : State} {h : Heap} {a : Nat} {ty : FieldType} {CC : String} {vs : List Value} (A : ORef Z h a ty CC vs) : a < h.size := A.ary.lt
theorem ORef.wr {Z : State} {h h' : Heap} {a i y : Nat} {ty : FieldType} {CC : String} {vs : List Value} (A : ORef Z h a ty CC vs) (W : Wr h h' a i (.ref y)) : ORef Z h' a ty CC (vs.set i (.ref y)) := by
  obtain ⟨c, A, r0, r1, r2, r3⟩ := A
  refine ⟨_, A.same W, r0, by simp [Cell.setSlot, r1], by simpa using r2, fun w hw => ?_⟩
  rcases List.mem_or_eq_of_mem_set hw with q | q
  · exact r3 w q
  · rw [q]; rfl
theorem anewarray (H : OHr p l e R s m args below meth c Z n0 own nm code maxL ret T h ce sl) {ty : FieldType} {CC : String} {idx : Nat} {n : Int32} {i : Nat} (cap : Nat) (hd : decode code pc = .ok (.anewarray idx, 3)) (w1 : (Cond.classLink own idx CC).before a0 Z = true) (w2 : (Cond.arrayOver (.array ty)).before a0 Z = true) (hC : (FieldType.array ty).toString = CC) (hn : n.toInt = (i : Int)) (hcap : i ≤ cap) (hb8 : cap * 8 ≤ 536870912) (hc : ce + 1 ≤ R.cells) (hl : sl + cap ≤ R.slots)
    (k : ∀ T' h' a, a = h.size → n0 ≤ a → OHr p l e R s m args below meth c Z n0 own nm code maxL ret T' h' (ce + 1) (sl + cap) → Ext h h' → ORef Z h' a ty CC (List.replicate i .null) → OEnds p e below s n0 Q C S T' (mkF m (pc + 3) Ls (.ref a :: st))) : OEnds p e below s n0 Q C S T (mkF m pc Ls (.int n :: st)) := by
  obtain ⟨⟨hx, hZ, hby, hml, hown, hnm, hrt, hlk⟩, locs, X, eT, N, z0⟩ := H
  obtain ⟨n1, n2⟩ := nat_idx hn
  obtain ⟨T', h', cA, X', e', E', A', -, O', q⟩ := newRA X hx hZ hown hC w1 w2 eT (g := mkF m pc Ls (.int n :: st)) rfl (hb hby hd) rfl n2 (cap := cap) (by rw [n1]; exact hcap) hb8 hc hl rfl
  refine go q (k T' h' _ rfl z0 ⟨⟨hx, hZ, hby, hml, hown, hnm, hrt, hlk⟩, locs, X', e', N, Nat.le_trans z0 E'.1⟩ E' ⟨_, A', O', ?_, ?_, ?_⟩)
  · show (Array.replicate n.toNatClampNeg (defaultValue (.array ty))).toList = _
    rw [n1, Array.toList_replicate]; rfl
  · rw [List.length_replicate]
    have := n.toInt_lt
    omega
  · intro v hv
    rw [List.eq_of_mem_replicate hv]
    rfl
theorem newarrayE (H : OHr p l e R s m args below meth c Z n0 own nm code maxL ret T h ce sl) {aty : ArrayType} {n : Int32} {i : Nat} {ad : String} (cap : Nat) (hd : decode code pc = .ok (.newarray aty, 2)) (w : (Cond.arrayClass (newarray.typeOf aty)).before a0 Z = true) (hn : n.toInt = (i : Int)) (hf : fits (newarray.typeOf aty) (defaultValue (newarray.typeOf aty)) = true) (had : "[" ++ (newarray.typeOf aty).toString = ad) (hcap : i ≤ cap) (hb8 : cap * 8 ≤ 536870912) (hc : ce + 1 ≤ R.cells) (hl : sl + cap ≤ R.slots)
    (k : ∀ T' h' a, a = h.size → n0 ≤ a → OHr p l e R s m args below meth c Z n0 own nm code maxL ret T' h' (ce + 1) (sl + cap) → Ext h h' → OAry Z h' a (newarray.typeOf aty) (List.replicate i (defaultValue (newarray.typeOf aty))) → Exa Z h' a ad → OEnds p e below s n0 Q C S T' (mkF m (pc + 2) Ls (.ref a :: st))) : OEnds p e below s n0 Q C S T (mkF m pc Ls (.int n :: st)) := by
  obtain ⟨⟨hx, hZ, hby, hml, hown, hnm, hrt, hlk⟩, locs, X, eT, N, z0⟩ := H
  obtain ⟨n1, n2⟩ := nat_idx hn
  obtain ⟨T', h', cA, X', e', E', A', B', q⟩ := newPE X hx hZ w eT (g := mkF m pc Ls (.int n :: st)) rfl (hb hby hd) rfl n2 (cap := cap) (by rw [n1]; exact hcap) hb8 hc hl had
  exact go q (k T' h' _ rfl z0 ⟨⟨hx, hZ, hby, hml, hown, hnm, hrt, hlk⟩, locs, X', e', N, Nat.le_trans z0 E'.1⟩ E' (by have := OAry.new A' hf; rw [n1] at this; exact this) B')
theorem aastore (H : OHr p l e R s m args below meth c Z n0 own nm code maxL ret T h ce sl) {a y : Nat} {ty : FieldType} {CC : String} {vs : List Value} {j : Int32} (i : Nat) (hd : decode code pc = .ok (.aastore, 1)) (A : ORef Z h a ty CC vs) (I : Ins Z h y CC true) (ge : n0 ≤ a) (hj : j.toInt = (i : Int)) (hi : i < vs.length) (k : ∀ T' h', OHr p l e R s m args below meth c Z n0 own nm code maxL ret T' h' ce sl → Wr h h' a i (.ref y) → ORef Z h' a ty CC (vs.set i (.ref y)) → OEnds p e below s n0 Q C S T' (mkF m (pc + 1) Ls st)) : OEnds p e below s n0 Q C S T (mkF m pc Ls (.ref y :: .int j :: .ref a :: st)) := by
  obtain ⟨⟨hx, hZ, hby, hml, hown, hnm, hrt, hlk⟩, locs, X, eT, N, z0⟩ := H
  have A0 := A
  obtain ⟨c1, A, r0, r1, r2, r3⟩ := A
  have hsz : c1.slots.size = vs.length := by rw [← r1]; simp
  obtain ⟨n1, n2⟩ := nat_idx hj
  have hin : ¬ (j < 0 ∨ c1.slots.size ≤ j.toNatClampNeg) := by rw [n1, hsz]; intro q; rcases q with q | q; exact n2 q; omega
  obtain ⟨T', h', X', e', W, q⟩ := stR X hx hZ eT A hin rfl (Sto.ofVA A rfl r0 I) (g := mkF m pc Ls (.ref y :: .int j :: .ref a :: st)) rfl rfl (hb hby hd)
  rw [n1] at X' W
  exact go q (k T' h' ⟨⟨hx, hZ, hby, hml, hown, hnm, hrt, hlk⟩, _, X', e', Fr.one N ge, by rw [W.size]; exact z0⟩ W (A0.wr W))
end Go
end Jvm.Own
namespace Jvm.Pilot.@@N@@
open Jvm Jvm.ClassFile Sem Op Lib Jvm.Free Jvm.Stand Jvm.LawKit Jvm.RoadKit Bundle Jvm.Pilot.@@N@@.Jvm.D
open Jvm.Own (OHr OEnds OMet OAry ORef)

theorem own_rem (x d : Int32) (hd : 0 < d.toInt) : 0 ≤ ((x &&& 2147483647) % d).toInt ∧ ((x &&& 2147483647) % d).toInt < d.toInt := by
  have h0 : 0 ≤ (x &&& 2147483647).toInt := (c_and x 2147483647 (by decide)).1
  have h1 := (c_iremV (x &&& 2147483647) d).1 h0 hd
  exact ⟨h1.1, h1.2.1⟩
theorem own_ne {x y : Int32} (h : x.toInt ≠ y.toInt) : ¬ x = y := fun e => h (by rw [e])
theorem own_eq {x y : Int32} (h : x.toInt = y.toInt) : x = y := Int32.toInt_inj.mp h
theorem own_lt {x y : Int32} : x < y ↔ x.toInt < y.toInt := Int32.lt_iff_toInt_lt


theorem own_cg (x y : Int64) : 0 < XT.cmpL x y ↔ y < x := lw_gt x y
theorem own_cl (x y : Int64) : XT.cmpL x y < 0 ↔ x < y := lw_lt x y
theorem own_ce (x y : Int64) : XT.cmpL x y = 0 ↔ x = y := lw_eq x y
theorem own_ltL {x y : Int64} : x < y ↔ x.toInt < y.toInt := Int64.lt_iff_toInt_lt
theorem own_eqL {x y : Int64} (h : x.toInt = y.toInt) : x = y := Int64.toInt_inj.mp h


theorem own_map {cs : List Int32} {i : Nat} (h : i < cs.length) : (cs.map Value.int)[i]? = some (.int (cs.getD i 0)) := by
  simp [List.getElem?_map, List.getD_eq_getElem?_getD, List.getElem?_eq_getElem h]
theorem own_fill {L : List Value} {d v : Value} {i : Nat} (h : L[i]? = some v) : (L.take i ++ List.replicate (L.length - i) d).set i v = L.take (i + 1) ++ List.replicate (L.length - (i + 1)) d := by
  have hi : i < L.length := by rcases Nat.lt_or_ge i L.length with q | q; exact q; rw [List.getElem?_eq_none q] at h; cases h
  have e : L.length - i = (L.length - (i + 1)) + 1 := by omega
  rw [e, List.replicate_succ, List.set_append_right _ _ (by simp; omega)]
  have e2 : i - (L.take i).length = 0 := by simp; omega
  rw [e2, List.set_cons_zero, List.take_add_one, h]
  simp
theorem own_ofNat {i : Nat} (h : i < 2147483648) : (Int32.ofNat i).toInt = (i : Int) := Int32.toInt_ofNat_of_lt h
theorem own_one (i : Nat) : Int32.ofNat i + (1 : Int32) = Int32.ofNat (i + 1) := (Int32.ofNat_add i 1).symm


theorem own_nin {x y : Nat} (q : x ≠ y) : x ∉ ([y] : List Addr) := by simpa using q
theorem own_all {x n : Nat} (q : n ≤ x) : ∀ y ∈ ([x] : List Addr), n ≤ y := by
  intro y hy
  have e : y = x := by simpa using hy
  rw [e]; exact q


theorem own_eqi {x y : Int32} : x = y ↔ x.toInt = y.toInt := ⟨fun q => by rw [q], own_eq⟩
theorem own_mapL {cs : List Int64} {i : Nat} (h : i < cs.length) : (cs.map Value.long)[i]? = some (.long (cs.getD i 0)) := by
  simp [List.getElem?_map, List.getD_eq_getElem?_getD, List.getElem?_eq_getElem h]
theorem own_rep {n i : Nat} {v : Int64} (h : i < n) : (List.replicate n (Value.long v))[i]? = some (.long v) := by
  rw [List.getElem?_replicate, if_pos h]

theorem d1_0 : decode prog_14_method_1_code 0 = .ok (.aload_n 0, 1) := by decide +kernel
theorem d1_1 : decode prog_14_method_1_code 1 = .ok (.invokespecial 1, 3) := by decide +kernel
theorem d1_4 : decode prog_14_method_1_code 4 = .ok (.aload_n 0, 1) := by decide +kernel
theorem d1_5 : decode prog_14_method_1_code 5 = .ok (.bipush 8, 2) := by decide +kernel
theorem d1_7 : decode prog_14_method_1_code 7 = .ok (.anewarray 9, 3) := by decide +kernel
theorem d1_10 : decode prog_14_method_1_code 10 = .ok (.putfield 11, 3) := by decide +kernel
theorem d1_13 : decode prog_14_method_1_code 13 = .ok (.aload_n 0, 1) := by decide +kernel
theorem d1_14 : decode prog_14_method_1_code 14 = .ok (.bipush 8, 2) := by decide +kernel
theorem d1_16 : decode prog_14_method_1_code 16 = .ok (.anewarray 9, 3) := by decide +kernel
theorem d1_19 : decode prog_14_method_1_code 19 = .ok (.putfield 15, 3) := by decide +kernel
theorem d1_22 : decode prog_14_method_1_code 22 = .ok (.aload_n 0, 1) := by decide +kernel
theorem d1_23 : decode prog_14_method_1_code 23 = .ok (.bipush 16, 2) := by decide +kernel
theorem d1_25 : decode prog_14_method_1_code 25 = .ok (.anewarray 9, 3) := by decide +kernel
theorem d1_28 : decode prog_14_method_1_code 28 = .ok (.putfield 18, 3) := by decide +kernel
theorem d1_31 : decode prog_14_method_1_code 31 = .ok (.aload_n 0, 1) := by decide +kernel
theorem d1_32 : decode prog_14_method_1_code 32 = .ok (.iload_n 1, 1) := by decide +kernel
theorem d1_33 : decode prog_14_method_1_code 33 = .ok (.putfield 21, 3) := by decide +kernel
theorem d1_36 : decode prog_14_method_1_code 36 = .ok (.iconst 0, 1) := by decide +kernel
theorem d1_37 : decode prog_14_method_1_code 37 = .ok (.istore_n 2, 1) := by decide +kernel
theorem d1_38 : decode prog_14_method_1_code 38 = .ok (.iload_n 2, 1) := by decide +kernel
theorem d1_39 : decode prog_14_method_1_code 39 = .ok (.bipush 8, 2) := by decide +kernel
theorem d1_41 : decode prog_14_method_1_code 41 = .ok (.if_icmp .ge 27, 3) := by decide +kernel
theorem d1_44 : decode prog_14_method_1_code 44 = .ok (.aload_n 0, 1) := by decide +kernel
theorem d1_45 : decode prog_14_method_1_code 45 = .ok (.getfield 11, 3) := by decide +kernel
theorem d1_48 : decode prog_14_method_1_code 48 = .ok (.iload_n 2, 1) := by decide +kernel
theorem d1_49 : decode prog_14_method_1_code 49 = .ok (.iload_n 1, 1) := by decide +kernel
theorem d1_50 : decode prog_14_method_1_code 50 = .ok (.newarray .long, 2) := by decide +kernel
theorem d1_52 : decode prog_14_method_1_code 52 = .ok (.aastore, 1) := by decide +kernel
theorem d1_53 : decode prog_14_method_1_code 53 = .ok (.aload_n 0, 1) := by decide +kernel
theorem d1_54 : decode prog_14_method_1_code 54 = .ok (.getfield 15, 3) := by decide +kernel
theorem d1_57 : decode prog_14_method_1_code 57 = .ok (.iload_n 2, 1) := by decide +kernel
theorem d1_58 : decode prog_14_method_1_code 58 = .ok (.iload_n 1, 1) := by decide +kernel
theorem d1_59 : decode prog_14_method_1_code 59 = .ok (.newarray .long, 2) := by decide +kernel
theorem d1_61 : decode prog_14_method_1_code 61 = .ok (.aastore, 1) := by decide +kernel
theorem d1_62 : decode prog_14_method_1_code 62 = .ok (.iinc 2 1, 3) := by decide +kernel
theorem d1_65 : decode prog_14_method_1_code 65 = .ok (.goto (-27), 3) := by decide +kernel
theorem d1_68 : decode prog_14_method_1_code 68 = .ok (.iconst 0, 1) := by decide +kernel
theorem d1_69 : decode prog_14_method_1_code 69 = .ok (.istore_n 2, 1) := by decide +kernel
theorem d1_70 : decode prog_14_method_1_code 70 = .ok (.iload_n 2, 1) := by decide +kernel
theorem d1_71 : decode prog_14_method_1_code 71 = .ok (.bipush 16, 2) := by decide +kernel
theorem d1_73 : decode prog_14_method_1_code 73 = .ok (.if_icmp .ge 18, 3) := by decide +kernel
theorem d1_76 : decode prog_14_method_1_code 76 = .ok (.aload_n 0, 1) := by decide +kernel
theorem d1_77 : decode prog_14_method_1_code 77 = .ok (.getfield 18, 3) := by decide +kernel
theorem d1_80 : decode prog_14_method_1_code 80 = .ok (.iload_n 2, 1) := by decide +kernel
theorem d1_81 : decode prog_14_method_1_code 81 = .ok (.iload_n 1, 1) := by decide +kernel
theorem d1_82 : decode prog_14_method_1_code 82 = .ok (.newarray .long, 2) := by decide +kernel
theorem d1_84 : decode prog_14_method_1_code 84 = .ok (.aastore, 1) := by decide +kernel
theorem d1_85 : decode prog_14_method_1_code 85 = .ok (.iinc 2 1, 3) := by decide +kernel
theorem d1_88 : decode prog_14_method_1_code 88 = .ok (.goto (-18), 3) := by decide +kernel
theorem d1_91 : decode prog_14_method_1_code 91 = .ok (.return_, 1) := by decide +kernel
theorem d3_0 : decode prog_14_method_5_code 0 = .ok (.aload_n 0, 1) := by decide +kernel
theorem d3_1 : decode prog_14_method_5_code 1 = .ok (.getfield 11, 3) := by decide +kernel
theorem d3_4 : decode prog_14_method_5_code 4 = .ok (.areturn, 1) := by decide +kernel
theorem d5_0 : decode prog_14_method_2_code 0 = .ok (.iconst 0, 1) := by decide +kernel
theorem d5_1 : decode prog_14_method_2_code 1 = .ok (.istore_n 1, 1) := by decide +kernel
theorem d5_2 : decode prog_14_method_2_code 2 = .ok (.iload_n 1, 1) := by decide +kernel
theorem d5_3 : decode prog_14_method_2_code 3 = .ok (.bipush 8, 2) := by decide +kernel
theorem d5_5 : decode prog_14_method_2_code 5 = .ok (.if_icmp .ge 23, 3) := by decide +kernel
theorem d5_8 : decode prog_14_method_2_code 8 = .ok (.aload_n 0, 1) := by decide +kernel
theorem d5_9 : decode prog_14_method_2_code 9 = .ok (.getfield 11, 3) := by decide +kernel
theorem d5_12 : decode prog_14_method_2_code 12 = .ok (.iload_n 1, 1) := by decide +kernel
theorem d5_13 : decode prog_14_method_2_code 13 = .ok (.aaload, 1) := by decide +kernel
theorem d5_14 : decode prog_14_method_2_code 14 = .ok (.getstatic 25, 3) := by decide +kernel
theorem d5_17 : decode prog_14_method_2_code 17 = .ok (.iload_n 1, 1) := by decide +kernel
theorem d5_18 : decode prog_14_method_2_code 18 = .ok (.laload, 1) := by decide +kernel
theorem d5_19 : decode prog_14_method_2_code 19 = .ok (.invokestatic 28, 3) := by decide +kernel
theorem d5_22 : decode prog_14_method_2_code 22 = .ok (.iinc 1 1, 3) := by decide +kernel
theorem d5_25 : decode prog_14_method_2_code 25 = .ok (.goto (-23), 3) := by decide +kernel
theorem d5_28 : decode prog_14_method_2_code 28 = .ok (.return_, 1) := by decide +kernel
theorem d6_0 : decode jdk_65_method_101_code 0 = .ok (.iconst 0, 1) := by decide +kernel
theorem d6_1 : decode jdk_65_method_101_code 1 = .ok (.istore_n 3, 1) := by decide +kernel
theorem d6_2 : decode jdk_65_method_101_code 2 = .ok (.aload_n 0, 1) := by decide +kernel
theorem d6_3 : decode jdk_65_method_101_code 3 = .ok (.arraylength, 1) := by decide +kernel
theorem d6_4 : decode jdk_65_method_101_code 4 = .ok (.istore 4, 2) := by decide +kernel
theorem d6_6 : decode jdk_65_method_101_code 6 = .ok (.iload_n 3, 1) := by decide +kernel
theorem d6_7 : decode jdk_65_method_101_code 7 = .ok (.iload 4, 2) := by decide +kernel
theorem d6_9 : decode jdk_65_method_101_code 9 = .ok (.if_icmp .ge 13, 3) := by decide +kernel
theorem d6_12 : decode jdk_65_method_101_code 12 = .ok (.aload_n 0, 1) := by decide +kernel
theorem d6_13 : decode jdk_65_method_101_code 13 = .ok (.iload_n 3, 1) := by decide +kernel
theorem d6_14 : decode jdk_65_method_101_code 14 = .ok (.lload_n 1, 1) := by decide +kernel
theorem d6_15 : decode jdk_65_method_101_code 15 = .ok (.lastore, 1) := by decide +kernel
theorem d6_16 : decode jdk_65_method_101_code 16 = .ok (.iinc 3 1, 3) := by decide +kernel
theorem d6_19 : decode jdk_65_method_101_code 19 = .ok (.goto (-13), 3) := by decide +kernel
theorem d6_22 : decode jdk_65_method_101_code 22 = .ok (.return_, 1) := by decide +kernel
theorem d4_0 : decode method_3_code 0 = .ok (.iload_n 3, 1) := by decide +kernel
theorem d4_1 : decode method_3_code 1 = .ok (.ifCond .le 7, 3) := by decide +kernel
theorem d4_4 : decode method_3_code 4 = .ok (.aload_n 0, 1) := by decide +kernel
theorem d4_5 : decode method_3_code 5 = .ok (.iconst 0, 1) := by decide +kernel
theorem d4_6 : decode method_3_code 6 = .ok (.lload_n 1, 1) := by decide +kernel
theorem d4_7 : decode method_3_code 7 = .ok (.lastore, 1) := by decide +kernel
theorem d4_8 : decode method_3_code 8 = .ok (.iload_n 3, 1) := by decide +kernel
theorem d4_9 : decode method_3_code 9 = .ok (.iconst 1, 1) := by decide +kernel
theorem d4_10 : decode method_3_code 10 = .ok (.if_icmp .le 9, 3) := by decide +kernel
theorem d4_13 : decode method_3_code 13 = .ok (.aload_n 0, 1) := by decide +kernel
theorem d4_14 : decode method_3_code 14 = .ok (.iconst 1, 1) := by decide +kernel
theorem d4_15 : decode method_3_code 15 = .ok (.lload_n 1, 1) := by decide +kernel
theorem d4_16 : decode method_3_code 16 = .ok (.lconst 1, 1) := by decide +kernel
theorem d4_17 : decode method_3_code 17 = .ok (.ladd, 1) := by decide +kernel
theorem d4_18 : decode method_3_code 18 = .ok (.lastore, 1) := by decide +kernel
theorem d4_19 : decode method_3_code 19 = .ok (.iload_n 3, 1) := by decide +kernel
theorem d4_20 : decode method_3_code 20 = .ok (.iconst 2, 1) := by decide +kernel
theorem d4_21 : decode method_3_code 21 = .ok (.if_icmp .le 11, 3) := by decide +kernel
theorem d4_24 : decode method_3_code 24 = .ok (.aload_n 0, 1) := by decide +kernel
theorem d4_25 : decode method_3_code 25 = .ok (.iconst 2, 1) := by decide +kernel
theorem d4_26 : decode method_3_code 26 = .ok (.lload_n 1, 1) := by decide +kernel
theorem d4_27 : decode method_3_code 27 = .ok (.ldc2_w 25, 3) := by decide +kernel
theorem d4_30 : decode method_3_code 30 = .ok (.lxor, 1) := by decide +kernel
theorem d4_31 : decode method_3_code 31 = .ok (.lastore, 1) := by decide +kernel
theorem d4_32 : decode method_3_code 32 = .ok (.iload_n 3, 1) := by decide +kernel
theorem d4_33 : decode method_3_code 33 = .ok (.iconst 3, 1) := by decide +kernel
theorem d4_34 : decode method_3_code 34 = .ok (.if_icmp .le 11, 3) := by decide +kernel
theorem d4_37 : decode method_3_code 37 = .ok (.aload_n 0, 1) := by decide +kernel
theorem d4_38 : decode method_3_code 38 = .ok (.iconst 3, 1) := by decide +kernel
theorem d4_39 : decode method_3_code 39 = .ok (.lload_n 1, 1) := by decide +kernel
theorem d4_40 : decode method_3_code 40 = .ok (.ldc2_w 49, 3) := by decide +kernel
theorem d4_43 : decode method_3_code 43 = .ok (.lxor, 1) := by decide +kernel
theorem d4_44 : decode method_3_code 44 = .ok (.lastore, 1) := by decide +kernel
theorem d4_45 : decode method_3_code 45 = .ok (.return_, 1) := by decide +kernel
theorem d7_0 : decode method_4_code 0 = .ok (.aload_n 0, 1) := by decide +kernel
theorem d7_1 : decode method_4_code 1 = .ok (.arraylength, 1) := by decide +kernel
theorem d7_2 : decode method_4_code 2 = .ok (.iload_n 3, 1) := by decide +kernel
theorem d7_3 : decode method_4_code 3 = .ok (.if_icmp .eq 5, 3) := by decide +kernel
theorem d7_6 : decode method_4_code 6 = .ok (.iconst 0, 1) := by decide +kernel
theorem d7_7 : decode method_4_code 7 = .ok (.ireturn, 1) := by decide +kernel
theorem d7_8 : decode method_4_code 8 = .ok (.iload_n 3, 1) := by decide +kernel
theorem d7_9 : decode method_4_code 9 = .ok (.ifCond .le 13, 3) := by decide +kernel
theorem d7_12 : decode method_4_code 12 = .ok (.aload_n 0, 1) := by decide +kernel
theorem d7_13 : decode method_4_code 13 = .ok (.iconst 0, 1) := by decide +kernel
theorem d7_14 : decode method_4_code 14 = .ok (.laload, 1) := by decide +kernel
theorem d7_15 : decode method_4_code 15 = .ok (.lload_n 1, 1) := by decide +kernel
theorem d7_16 : decode method_4_code 16 = .ok (.lcmp, 1) := by decide +kernel
theorem d7_17 : decode method_4_code 17 = .ok (.ifCond .eq 5, 3) := by decide +kernel
theorem d7_20 : decode method_4_code 20 = .ok (.iconst 0, 1) := by decide +kernel
theorem d7_21 : decode method_4_code 21 = .ok (.ireturn, 1) := by decide +kernel
theorem d7_22 : decode method_4_code 22 = .ok (.iload_n 3, 1) := by decide +kernel
theorem d7_23 : decode method_4_code 23 = .ok (.iconst 1, 1) := by decide +kernel
theorem d7_24 : decode method_4_code 24 = .ok (.if_icmp .le 13, 3) := by decide +kernel
theorem d7_27 : decode method_4_code 27 = .ok (.aload_n 0, 1) := by decide +kernel
theorem d7_28 : decode method_4_code 28 = .ok (.iconst 1, 1) := by decide +kernel
theorem d7_29 : decode method_4_code 29 = .ok (.laload, 1) := by decide +kernel
theorem d7_30 : decode method_4_code 30 = .ok (.lload_n 1, 1) := by decide +kernel
theorem d7_31 : decode method_4_code 31 = .ok (.lcmp, 1) := by decide +kernel
theorem d7_32 : decode method_4_code 32 = .ok (.ifCond .eq 5, 3) := by decide +kernel
theorem d7_35 : decode method_4_code 35 = .ok (.iconst 0, 1) := by decide +kernel
theorem d7_36 : decode method_4_code 36 = .ok (.ireturn, 1) := by decide +kernel
theorem d7_37 : decode method_4_code 37 = .ok (.iload_n 3, 1) := by decide +kernel
theorem d7_38 : decode method_4_code 38 = .ok (.iconst 2, 1) := by decide +kernel
theorem d7_39 : decode method_4_code 39 = .ok (.if_icmp .le 13, 3) := by decide +kernel
theorem d7_42 : decode method_4_code 42 = .ok (.aload_n 0, 1) := by decide +kernel
theorem d7_43 : decode method_4_code 43 = .ok (.iconst 2, 1) := by decide +kernel
theorem d7_44 : decode method_4_code 44 = .ok (.laload, 1) := by decide +kernel
theorem d7_45 : decode method_4_code 45 = .ok (.lload_n 1, 1) := by decide +kernel
theorem d7_46 : decode method_4_code 46 = .ok (.lcmp, 1) := by decide +kernel
theorem d7_47 : decode method_4_code 47 = .ok (.ifCond .eq 5, 3) := by decide +kernel
theorem d7_50 : decode method_4_code 50 = .ok (.iconst 0, 1) := by decide +kernel
theorem d7_51 : decode method_4_code 51 = .ok (.ireturn, 1) := by decide +kernel
theorem d7_52 : decode method_4_code 52 = .ok (.iload_n 3, 1) := by decide +kernel
theorem d7_53 : decode method_4_code 53 = .ok (.iconst 3, 1) := by decide +kernel
theorem d7_54 : decode method_4_code 54 = .ok (.if_icmp .le 13, 3) := by decide +kernel
theorem d7_57 : decode method_4_code 57 = .ok (.aload_n 0, 1) := by decide +kernel
theorem d7_58 : decode method_4_code 58 = .ok (.iconst 3, 1) := by decide +kernel
theorem d7_59 : decode method_4_code 59 = .ok (.laload, 1) := by decide +kernel
theorem d7_60 : decode method_4_code 60 = .ok (.lload_n 1, 1) := by decide +kernel
theorem d7_61 : decode method_4_code 61 = .ok (.lcmp, 1) := by decide +kernel
theorem d7_62 : decode method_4_code 62 = .ok (.ifCond .eq 5, 3) := by decide +kernel
theorem d7_65 : decode method_4_code 65 = .ok (.iconst 0, 1) := by decide +kernel
theorem d7_66 : decode method_4_code 66 = .ok (.ireturn, 1) := by decide +kernel
theorem d7_67 : decode method_4_code 67 = .ok (.iconst 1, 1) := by decide +kernel
theorem d7_68 : decode method_4_code 68 = .ok (.ireturn, 1) := by decide +kernel
theorem pn_rm_init : plainFor (⟨"com/example/herder/herder/Sha512Lanes", "<init>", "(I)V"⟩ : MethodName) = true := by first | exact plainFor_of_name (by first | (simp [plainName, overriddenIn]; done) | decide +kernel) | decide +kernel
theorem ef_rm_init (a : Nat) (n : Int32) (m : MethodId) : entryFrame m #[(.ref a), (.int n)] 3 = mkF m 0 #[.val (.ref a), .val (.int n), .unset] [] := by first | (simp [entryFrame, mkF, argsToLocals, Value.category]; done) | rfl
set_option maxRecDepth 65536 in
set_option maxHeartbeats 40000000 in
theorem rm_init (l : Launch) (Z : State) (a0 : Array Value) (hw : ∀ d ∈ tables_1, d.before a0 Z = true) (a : Nat) (n : Int32) (h0 : Heap) (n0 : Nat) (Z0 : n0 ≤ h0.size) (u_hash : Value) (F_hash : Fld Z h0 a "com/example/herder/herder/Sha512Lanes" "hash" "[[J" u_hash) (u_work : Value) (F_work : Fld Z h0 a "com/example/herder/herder/Sha512Lanes" "work" "[[J" u_work) (u_schedule : Value) (F_schedule : Fld Z h0 a "com/example/herder/herder/Sha512Lanes" "schedule" "[[J" u_schedule) (u_lanes : Value) (F_lanes : Fld Z h0 a "com/example/herder/herder/Sha512Lanes" "lanes" "I" u_lanes) (E : Exa Z h0 a "com/example/herder/herder/Sha512Lanes") (ge : n0 ≤ a) (O : Old Z n0 h0) (nn : Nat) (hn : n.toInt = (nn : Int)) (h4 : nn ≤ 4) :
    OMet l Z n0 (⟨"com/example/herder/herder/Sha512Lanes", "<init>", "(I)V"⟩ : MethodName) prog_14_method_1_code 3 none ({ frames := 1, cells := 35, slots := 160, locals := 12 } : Room) #[(.ref a), (.int n)] h0 (fun v h => v = none ∧ ∃ hb r0 r1 r2 r3 r4 r5 r6 r7 : Nat, Fld Z h a "com/example/herder/herder/Sha512Lanes" "hash" "[[J" (.ref hb) ∧ Exa Z h a "com/example/herder/herder/Sha512Lanes" ∧ Old Z n0 h ∧ OAry Z h hb (.array .long) [.ref r0, .ref r1, .ref r2, .ref r3, .ref r4, .ref r5, .ref r6, .ref r7] ∧ a < hb ∧ hb < r0 ∧ r0 < r1 ∧ r1 < r2 ∧ r2 < r3 ∧ r3 < r4 ∧ r4 < r5 ∧ r5 < r6 ∧ r6 < r7 ∧ OAry Z h r0 .long (List.replicate nn (.long 0)) ∧ OAry Z h r1 .long (List.replicate nn (.long 0)) ∧ OAry Z h r2 .long (List.replicate nn (.long 0)) ∧ OAry Z h r3 .long (List.replicate nn (.long 0)) ∧ OAry Z h r4 .long (List.replicate nn (.long 0)) ∧ OAry Z h r5 .long (List.replicate nn (.long 0)) ∧ OAry Z h r6 .long (List.replicate nn (.long 0)) ∧ OAry Z h r7 .long (List.replicate nn (.long 0))) := by
  refine OMet.of pn_rm_init Z0 (ef_rm_init a n) ?_
  intro p e s m below meth c T H
  refine Own.aload_n H (pc := 0) d1_0 rfl rfl ?_
  refine Own.callO H (pc := 1) d1_1 (hw _ (List.mem_of_getElem? (i := 6) rfl)) (hw _ (List.mem_of_getElem? (i := 7) rfl)) (hw _ (List.mem_of_getElem? (i := 8) rfl)) 0 rfl (by decide) (by decide) rfl (fun T_2 H_1 => ?_)
  refine Own.aload_n H_1 (pc := 4) d1_4 rfl rfl ?_
  refine Own.bipush H_1 (pc := 5) (8) d1_5 rfl ?_
  refine Own.anewarray H_1 (pc := 7) (ty := .long) (i := 8) 8 d1_7 (hw _ (List.mem_of_getElem? (i := 9) rfl)) (hw _ (List.mem_of_getElem? (i := 10) rfl)) (by decide) rfl (by decide) (by decide) (by decide) (by decide) (fun T_4 h_5 hb eq_hb ge_hb H_3 Ext_hb Ary_hb => ?_)
  have lt_hb : a < hb := by have q : (a : Nat) < Array.size _ := E.lt; omega
  have E_6 := E.ext Ext_hb
  have F_7 := F_hash.ext Ext_hb
  have F_8 := F_work.ext Ext_hb
  have F_9 := F_schedule.ext Ext_hb
  have F_10 := F_lanes.ext Ext_hb
  have Q_11 := O.ext Ext_hb
  refine Own.putfield H_3 (pc := 10) d1_10 (hw _ (List.mem_of_getElem? (i := 11) rfl)) F_7 E_6 (Or.inr ⟨(hw _ (List.mem_of_getElem? (i := 12) rfl)), rfl, rfl⟩) (hw _ (List.mem_of_getElem? (i := 1) rfl)) (ty := (.array (.array .long))) (by decide) rfl rfl ge (fun T_13 h_14 H_12 W_15 => ?_)
  have E_16 := E_6.wr W_15
  have F_17 := F_7.same W_15
  have F_18 := F_8.other W_15 (Or.inr (slot_ne (Or.inr (hw _ (List.mem_of_getElem? (i := 14) rfl))) (Or.inr (hw _ (List.mem_of_getElem? (i := 12) rfl))) (by decide) (t := (.array (.array .long))) (t' := (.array (.array .long))) (by decide) (by decide)))
  have F_19 := F_9.other W_15 (Or.inr (slot_ne (Or.inr (hw _ (List.mem_of_getElem? (i := 16) rfl))) (Or.inr (hw _ (List.mem_of_getElem? (i := 12) rfl))) (by decide) (t := (.array (.array .long))) (t' := (.array (.array .long))) (by decide) (by decide)))
  have F_20 := F_10.other W_15 (Or.inr (slot_ne (Or.inr (hw _ (List.mem_of_getElem? (i := 18) rfl))) (Or.inr (hw _ (List.mem_of_getElem? (i := 12) rfl))) (by decide) (t := .int) (t' := (.array (.array .long))) (by decide) (by decide)))
  have Q_21 := Q_11.wr W_15 ge
  have Q_22 := Ary_hb.other W_15 (by omega)
  refine Own.aload_n H_12 (pc := 13) d1_13 rfl rfl ?_
  refine Own.bipush H_12 (pc := 14) (8) d1_14 rfl ?_
  refine Own.anewarray H_12 (pc := 16) (ty := .long) (i := 8) 8 d1_16 (hw _ (List.mem_of_getElem? (i := 9) rfl)) (hw _ (List.mem_of_getElem? (i := 10) rfl)) (by decide) rfl (by decide) (by decide) (by decide) (by decide) (fun T_24 h_25 wk eq_wk ge_wk H_23 Ext_wk Ary_wk => ?_)
  have lt_wk : a < wk := by have q : (a : Nat) < Array.size _ := E_16.lt; omega
  have lt_hb_wk : hb < wk := by have := Q_22.lt; omega
  have E_26 := E_16.ext Ext_wk
  have F_27 := F_17.ext Ext_wk
  have F_28 := F_18.ext Ext_wk
  have F_29 := F_19.ext Ext_wk
  have F_30 := F_20.ext Ext_wk
  have Q_31 := Q_21.ext Ext_wk
  have Q_32 := Q_22.ext Ext_wk
  refine Own.putfield H_23 (pc := 19) d1_19 (hw _ (List.mem_of_getElem? (i := 13) rfl)) F_28 E_26 (Or.inr ⟨(hw _ (List.mem_of_getElem? (i := 14) rfl)), rfl, rfl⟩) (hw _ (List.mem_of_getElem? (i := 1) rfl)) (ty := (.array (.array .long))) (by decide) rfl rfl ge (fun T_34 h_35 H_33 W_36 => ?_)
  have E_37 := E_26.wr W_36
  have F_38 := F_27.other W_36 (Or.inr (slot_ne (Or.inr (hw _ (List.mem_of_getElem? (i := 12) rfl))) (Or.inr (hw _ (List.mem_of_getElem? (i := 14) rfl))) (by decide) (t := (.array (.array .long))) (t' := (.array (.array .long))) (by decide) (by decide)))
  have F_39 := F_28.same W_36
  have F_40 := F_29.other W_36 (Or.inr (slot_ne (Or.inr (hw _ (List.mem_of_getElem? (i := 16) rfl))) (Or.inr (hw _ (List.mem_of_getElem? (i := 14) rfl))) (by decide) (t := (.array (.array .long))) (t' := (.array (.array .long))) (by decide) (by decide)))
  have F_41 := F_30.other W_36 (Or.inr (slot_ne (Or.inr (hw _ (List.mem_of_getElem? (i := 18) rfl))) (Or.inr (hw _ (List.mem_of_getElem? (i := 14) rfl))) (by decide) (t := .int) (t' := (.array (.array .long))) (by decide) (by decide)))
  have Q_42 := Q_31.wr W_36 ge
  have Q_43 := Q_32.other W_36 (by omega)
  have Q_44 := Ary_wk.other W_36 (by omega)
  refine Own.aload_n H_33 (pc := 22) d1_22 rfl rfl ?_
  refine Own.bipush H_33 (pc := 23) (16) d1_23 rfl ?_
  refine Own.anewarray H_33 (pc := 25) (ty := .long) (i := 16) 16 d1_25 (hw _ (List.mem_of_getElem? (i := 9) rfl)) (hw _ (List.mem_of_getElem? (i := 10) rfl)) (by decide) rfl (by decide) (by decide) (by decide) (by decide) (fun T_46 h_47 sc eq_sc ge_sc H_45 Ext_sc Ary_sc => ?_)
  have lt_sc : a < sc := by have q : (a : Nat) < Array.size _ := E_37.lt; omega
  have lt_hb_sc : hb < sc := by have := Q_43.lt; omega
  have lt_wk_sc : wk < sc := by have := Q_44.lt; omega
  have E_48 := E_37.ext Ext_sc
  have F_49 := F_38.ext Ext_sc
  have F_50 := F_39.ext Ext_sc
  have F_51 := F_40.ext Ext_sc
  have F_52 := F_41.ext Ext_sc
  have Q_53 := Q_42.ext Ext_sc
  have Q_54 := Q_43.ext Ext_sc
  have Q_55 := Q_44.ext Ext_sc
  refine Own.putfield H_45 (pc := 28) d1_28 (hw _ (List.mem_of_getElem? (i := 15) rfl)) F_51 E_48 (Or.inr ⟨(hw _ (List.mem_of_getElem? (i := 16) rfl)), rfl, rfl⟩) (hw _ (List.mem_of_getElem? (i := 1) rfl)) (ty := (.array (.array .long))) (by decide) rfl rfl ge (fun T_57 h_58 H_56 W_59 => ?_)
  have E_60 := E_48.wr W_59
  have F_61 := F_49.other W_59 (Or.inr (slot_ne (Or.inr (hw _ (List.mem_of_getElem? (i := 12) rfl))) (Or.inr (hw _ (List.mem_of_getElem? (i := 16) rfl))) (by decide) (t := (.array (.array .long))) (t' := (.array (.array .long))) (by decide) (by decide)))
  have F_62 := F_50.other W_59 (Or.inr (slot_ne (Or.inr (hw _ (List.mem_of_getElem? (i := 14) rfl))) (Or.inr (hw _ (List.mem_of_getElem? (i := 16) rfl))) (by decide) (t := (.array (.array .long))) (t' := (.array (.array .long))) (by decide) (by decide)))
  have F_63 := F_51.same W_59
  have F_64 := F_52.other W_59 (Or.inr (slot_ne (Or.inr (hw _ (List.mem_of_getElem? (i := 18) rfl))) (Or.inr (hw _ (List.mem_of_getElem? (i := 16) rfl))) (by decide) (t := .int) (t' := (.array (.array .long))) (by decide) (by decide)))
  have Q_65 := Q_53.wr W_59 ge
  have Q_66 := Q_54.other W_59 (by omega)
  have Q_67 := Q_55.other W_59 (by omega)
  have Q_68 := Ary_sc.other W_59 (by omega)
  refine Own.aload_n H_56 (pc := 31) d1_31 rfl rfl ?_
  refine Own.iload_n H_56 (pc := 32) d1_32 rfl ?_
  refine Own.putfield H_56 (pc := 33) d1_33 (hw _ (List.mem_of_getElem? (i := 17) rfl)) F_64 E_60 (Or.inr ⟨(hw _ (List.mem_of_getElem? (i := 18) rfl)), rfl, rfl⟩) (hw _ (List.mem_of_getElem? (i := 1) rfl)) (ty := .int) (by decide) rfl rfl ge (fun T_70 h_71 H_69 W_72 => ?_)
  have E_73 := E_60.wr W_72
  have F_74 := F_61.other W_72 (Or.inr (slot_ne (Or.inr (hw _ (List.mem_of_getElem? (i := 12) rfl))) (Or.inr (hw _ (List.mem_of_getElem? (i := 18) rfl))) (by decide) (t := (.array (.array .long))) (t' := .int) (by decide) (by decide)))
  have F_75 := F_62.other W_72 (Or.inr (slot_ne (Or.inr (hw _ (List.mem_of_getElem? (i := 14) rfl))) (Or.inr (hw _ (List.mem_of_getElem? (i := 18) rfl))) (by decide) (t := (.array (.array .long))) (t' := .int) (by decide) (by decide)))
  have F_76 := F_63.other W_72 (Or.inr (slot_ne (Or.inr (hw _ (List.mem_of_getElem? (i := 16) rfl))) (Or.inr (hw _ (List.mem_of_getElem? (i := 18) rfl))) (by decide) (t := (.array (.array .long))) (t' := .int) (by decide) (by decide)))
  have F_77 := F_64.same W_72
  have Q_78 := Q_65.wr W_72 ge
  have Q_79 := Q_66.other W_72 (by omega)
  have Q_80 := Q_67.other W_72 (by omega)
  have Q_81 := Q_68.other W_72 (by omega)
  refine Own.iconst H_69 (pc := 36) (0) d1_36 rfl ?_
  refine Own.istore_n H_69 (pc := 37) #[.val (.ref a), .val (.int n), .val (.int (0 : Int32))] d1_37 rfl ?_
  refine Own.iload_n H_69 (pc := 38) d1_38 rfl ?_
  refine Own.bipush H_69 (pc := 39) (8) d1_39 rfl ?_
  refine Own.icmp_ge H_69 (pc := 41) 68 d1_41 (by decide) (by decide) (fun hc => absurd hc (by decide)) (fun _ => ?_)
  refine Own.aload_n H_69 (pc := 44) d1_44 rfl rfl ?_
  refine Own.getfield H_69 (pc := 45) d1_45 (hw _ (List.mem_of_getElem? (i := 11) rfl)) F_74 (fun T_83 H_82 => ?_)
  refine Own.iload_n H_82 (pc := 48) d1_48 rfl ?_
  refine Own.iload_n H_82 (pc := 49) d1_49 rfl ?_
  refine Own.newarrayE H_82 (pc := 50) (i := nn) (ad := "[J") 4 d1_50 (hw _ (List.mem_of_getElem? (i := 19) rfl)) hn (by decide) (by decide) h4 (by decide) (by decide) (by decide) (fun T_85 h_86 r0 eq_r0 ge_r0 H_84 Ext_r0 Ary_r0 Exa_r0 => ?_)
  have lt_r0 : hb < r0 := by have := Q_79.lt; omega
  have lt2_r0 : sc < r0 := by have := Q_81.lt; omega
  have E_87 := E_73.ext Ext_r0
  have F_88 := F_74.ext Ext_r0
  have F_89 := F_75.ext Ext_r0
  have F_90 := F_76.ext Ext_r0
  have F_91 := F_77.ext Ext_r0
  have Q_92 := Q_78.ext Ext_r0
  have Q_93 := Q_79.ext Ext_r0
  have Q_94 := Q_80.ext Ext_r0
  have Q_95 := Q_81.ext Ext_r0
  refine Own.aastore H_84 (pc := 52) 0 d1_52 Q_93 (Ins.of_exa Exa_r0 (hw _ (List.mem_of_getElem? (i := 20) rfl))) ge_hb rfl (by simp) (fun T_97 h_98 H_96 W_99 A_100 => ?_)
  have E_101 := E_87.wr W_99
  have F_102 := F_88.other W_99 (Or.inl (show (a : Nat) ≠ hb by omega))
  have F_103 := F_89.other W_99 (Or.inl (show (a : Nat) ≠ hb by omega))
  have F_104 := F_90.other W_99 (Or.inl (show (a : Nat) ≠ hb by omega))
  have F_105 := F_91.other W_99 (Or.inl (show (a : Nat) ≠ hb by omega))
  have Q_106 := Q_92.wr W_99 ge_hb
  have Q_108 := Q_94.other W_99 (by omega)
  have Q_109 := Q_95.other W_99 (by omega)
  have Q_110 := Ary_r0.other W_99 (by omega)
  refine Own.aload_n H_96 (pc := 53) d1_53 rfl rfl ?_
  refine Own.getfield H_96 (pc := 54) d1_54 (hw _ (List.mem_of_getElem? (i := 13) rfl)) F_103 (fun T_112 H_111 => ?_)
  refine Own.iload_n H_111 (pc := 57) d1_57 rfl ?_
  refine Own.iload_n H_111 (pc := 58) d1_58 rfl ?_
  refine Own.newarrayE H_111 (pc := 59) (i := nn) (ad := "[J") 4 d1_59 (hw _ (List.mem_of_getElem? (i := 19) rfl)) hn (by decide) (by decide) h4 (by decide) (by decide) (by decide) (fun T_114 h_115 t1 eq_t1 ge_t1 H_113 Ext_t1 Ary_t1 Exa_t1 => ?_)
  have E_116 := E_101.ext Ext_t1
  have F_117 := F_102.ext Ext_t1
  have F_118 := F_103.ext Ext_t1
  have F_119 := F_104.ext Ext_t1
  have F_120 := F_105.ext Ext_t1
  have Q_121 := Q_106.ext Ext_t1
  have Q_122 := A_100.ext Ext_t1
  have Q_123 := Q_108.ext Ext_t1
  have Q_124 := Q_109.ext Ext_t1
  have Q_125 := Q_110.ext Ext_t1
  refine Own.aastore H_113 (pc := 61) 0 d1_61 Q_123 (Ins.of_exa Exa_t1 (hw _ (List.mem_of_getElem? (i := 20) rfl))) ge_wk rfl (by simp) (fun T_127 h_128 H_126 W_129 A_130 => ?_)
  have E_131 := E_116.wr W_129
  have F_132 := F_117.other W_129 (Or.inl (show (a : Nat) ≠ wk by omega))
  have F_133 := F_118.other W_129 (Or.inl (show (a : Nat) ≠ wk by omega))
  have F_134 := F_119.other W_129 (Or.inl (show (a : Nat) ≠ wk by omega))
  have F_135 := F_120.other W_129 (Or.inl (show (a : Nat) ≠ wk by omega))
  have Q_136 := Q_121.wr W_129 ge_wk
  have Q_137 := Q_122.other W_129 (by omega)
  have Q_139 := Q_124.other W_129 (by omega)
  have Q_140 := Q_125.other W_129 (by omega)
  refine Own.iinc_c H_126 (pc := 62) (1) #[.val (.ref a), .val (.int n), .val (.int (1 : Int32))] d1_62 rfl (by decide) rfl ?_
  refine Own.goto H_126 (pc := 65) 38 d1_65 (by decide) (by decide) ?_
  refine Own.iload_n H_126 (pc := 38) d1_38 rfl ?_
  refine Own.bipush H_126 (pc := 39) (8) d1_39 rfl ?_
  refine Own.icmp_ge H_126 (pc := 41) 68 d1_41 (by decide) (by decide) (fun hc => absurd hc (by decide)) (fun _ => ?_)
  refine Own.aload_n H_126 (pc := 44) d1_44 rfl rfl ?_
  refine Own.getfield H_126 (pc := 45) d1_45 (hw _ (List.mem_of_getElem? (i := 11) rfl)) F_132 (fun T_142 H_141 => ?_)
  refine Own.iload_n H_141 (pc := 48) d1_48 rfl ?_
  refine Own.iload_n H_141 (pc := 49) d1_49 rfl ?_
  refine Own.newarrayE H_141 (pc := 50) (i := nn) (ad := "[J") 4 d1_50 (hw _ (List.mem_of_getElem? (i := 19) rfl)) hn (by decide) (by decide) h4 (by decide) (by decide) (by decide) (fun T_144 h_145 r1 eq_r1 ge_r1 H_143 Ext_r1 Ary_r1 Exa_r1 => ?_)
  have lt_r1 : r0 < r1 := by have := Q_140.lt; omega
  have lt2_r1 : sc < r1 := by have := Q_139.lt; omega
  have E_146 := E_131.ext Ext_r1
  have F_147 := F_132.ext Ext_r1
  have F_148 := F_133.ext Ext_r1
  have F_149 := F_134.ext Ext_r1
  have F_150 := F_135.ext Ext_r1
  have Q_151 := Q_136.ext Ext_r1
  have Q_152 := Q_137.ext Ext_r1
  have Q_153 := A_130.ext Ext_r1
  have Q_154 := Q_139.ext Ext_r1
  have Q_155 := Q_140.ext Ext_r1
  refine Own.aastore H_143 (pc := 52) 1 d1_52 Q_152 (Ins.of_exa Exa_r1 (hw _ (List.mem_of_getElem? (i := 20) rfl))) ge_hb rfl (by simp) (fun T_157 h_158 H_156 W_159 A_160 => ?_)
  have E_161 := E_146.wr W_159
  have F_162 := F_147.other W_159 (Or.inl (show (a : Nat) ≠ hb by omega))
  have F_163 := F_148.other W_159 (Or.inl (show (a : Nat) ≠ hb by omega))
  have F_164 := F_149.other W_159 (Or.inl (show (a : Nat) ≠ hb by omega))
  have F_165 := F_150.other W_159 (Or.inl (show (a : Nat) ≠ hb by omega))
  have Q_166 := Q_151.wr W_159 ge_hb
  have Q_168 := Q_153.other W_159 (by omega)
  have Q_169 := Q_154.other W_159 (by omega)
  have Q_170 := Q_155.other W_159 (by omega)
  have Q_171 := Ary_r1.other W_159 (by omega)
  refine Own.aload_n H_156 (pc := 53) d1_53 rfl rfl ?_
  refine Own.getfield H_156 (pc := 54) d1_54 (hw _ (List.mem_of_getElem? (i := 13) rfl)) F_163 (fun T_173 H_172 => ?_)
  refine Own.iload_n H_172 (pc := 57) d1_57 rfl ?_
  refine Own.iload_n H_172 (pc := 58) d1_58 rfl ?_
  refine Own.newarrayE H_172 (pc := 59) (i := nn) (ad := "[J") 4 d1_59 (hw _ (List.mem_of_getElem? (i := 19) rfl)) hn (by decide) (by decide) h4 (by decide) (by decide) (by decide) (fun T_175 h_176 t3 eq_t3 ge_t3 H_174 Ext_t3 Ary_t3 Exa_t3 => ?_)
  have E_177 := E_161.ext Ext_t3
  have F_178 := F_162.ext Ext_t3
  have F_179 := F_163.ext Ext_t3
  have F_180 := F_164.ext Ext_t3
  have F_181 := F_165.ext Ext_t3
  have Q_182 := Q_166.ext Ext_t3
  have Q_183 := A_160.ext Ext_t3
  have Q_184 := Q_168.ext Ext_t3
  have Q_185 := Q_169.ext Ext_t3
  have Q_186 := Q_170.ext Ext_t3
  have Q_187 := Q_171.ext Ext_t3
  refine Own.aastore H_174 (pc := 61) 1 d1_61 Q_184 (Ins.of_exa Exa_t3 (hw _ (List.mem_of_getElem? (i := 20) rfl))) ge_wk rfl (by simp) (fun T_189 h_190 H_188 W_191 A_192 => ?_)
  have E_193 := E_177.wr W_191
  have F_194 := F_178.other W_191 (Or.inl (show (a : Nat) ≠ wk by omega))
  have F_195 := F_179.other W_191 (Or.inl (show (a : Nat) ≠ wk by omega))
  have F_196 := F_180.other W_191 (Or.inl (show (a : Nat) ≠ wk by omega))
  have F_197 := F_181.other W_191 (Or.inl (show (a : Nat) ≠ wk by omega))
  have Q_198 := Q_182.wr W_191 ge_wk
  have Q_199 := Q_183.other W_191 (by omega)
  have Q_201 := Q_185.other W_191 (by omega)
  have Q_202 := Q_186.other W_191 (by omega)
  have Q_203 := Q_187.other W_191 (by omega)
  refine Own.iinc_c H_188 (pc := 62) (2) #[.val (.ref a), .val (.int n), .val (.int (2 : Int32))] d1_62 rfl (by decide) rfl ?_
  refine Own.goto H_188 (pc := 65) 38 d1_65 (by decide) (by decide) ?_
  refine Own.iload_n H_188 (pc := 38) d1_38 rfl ?_
  refine Own.bipush H_188 (pc := 39) (8) d1_39 rfl ?_
  refine Own.icmp_ge H_188 (pc := 41) 68 d1_41 (by decide) (by decide) (fun hc => absurd hc (by decide)) (fun _ => ?_)
  refine Own.aload_n H_188 (pc := 44) d1_44 rfl rfl ?_
  refine Own.getfield H_188 (pc := 45) d1_45 (hw _ (List.mem_of_getElem? (i := 11) rfl)) F_194 (fun T_205 H_204 => ?_)
  refine Own.iload_n H_204 (pc := 48) d1_48 rfl ?_
  refine Own.iload_n H_204 (pc := 49) d1_49 rfl ?_
  refine Own.newarrayE H_204 (pc := 50) (i := nn) (ad := "[J") 4 d1_50 (hw _ (List.mem_of_getElem? (i := 19) rfl)) hn (by decide) (by decide) h4 (by decide) (by decide) (by decide) (fun T_207 h_208 r2 eq_r2 ge_r2 H_206 Ext_r2 Ary_r2 Exa_r2 => ?_)
  have lt_r2 : r1 < r2 := by have := Q_203.lt; omega
  have lt2_r2 : sc < r2 := by have := Q_201.lt; omega
  have E_209 := E_193.ext Ext_r2
  have F_210 := F_194.ext Ext_r2
  have F_211 := F_195.ext Ext_r2
  have F_212 := F_196.ext Ext_r2
  have F_213 := F_197.ext Ext_r2
  have Q_214 := Q_198.ext Ext_r2
  have Q_215 := Q_199.ext Ext_r2
  have Q_216 := A_192.ext Ext_r2
  have Q_217 := Q_201.ext Ext_r2
  have Q_218 := Q_202.ext Ext_r2
  have Q_219 := Q_203.ext Ext_r2
  refine Own.aastore H_206 (pc := 52) 2 d1_52 Q_215 (Ins.of_exa Exa_r2 (hw _ (List.mem_of_getElem? (i := 20) rfl))) ge_hb rfl (by simp) (fun T_221 h_222 H_220 W_223 A_224 => ?_)
  have E_225 := E_209.wr W_223
  have F_226 := F_210.other W_223 (Or.inl (show (a : Nat) ≠ hb by omega))
  have F_227 := F_211.other W_223 (Or.inl (show (a : Nat) ≠ hb by omega))
  have F_228 := F_212.other W_223 (Or.inl (show (a : Nat) ≠ hb by omega))
  have F_229 := F_213.other W_223 (Or.inl (show (a : Nat) ≠ hb by omega))
  have Q_230 := Q_214.wr W_223 ge_hb
  have Q_232 := Q_216.other W_223 (by omega)
  have Q_233 := Q_217.other W_223 (by omega)
  have Q_234 := Q_218.other W_223 (by omega)
  have Q_235 := Q_219.other W_223 (by omega)
  have Q_236 := Ary_r2.other W_223 (by omega)
  refine Own.aload_n H_220 (pc := 53) d1_53 rfl rfl ?_
  refine Own.getfield H_220 (pc := 54) d1_54 (hw _ (List.mem_of_getElem? (i := 13) rfl)) F_227 (fun T_238 H_237 => ?_)
  refine Own.iload_n H_237 (pc := 57) d1_57 rfl ?_
  refine Own.iload_n H_237 (pc := 58) d1_58 rfl ?_
  refine Own.newarrayE H_237 (pc := 59) (i := nn) (ad := "[J") 4 d1_59 (hw _ (List.mem_of_getElem? (i := 19) rfl)) hn (by decide) (by decide) h4 (by decide) (by decide) (by decide) (fun T_240 h_241 t5 eq_t5 ge_t5 H_239 Ext_t5 Ary_t5 Exa_t5 => ?_)
  have E_242 := E_225.ext Ext_t5
  have F_243 := F_226.ext Ext_t5
  have F_244 := F_227.ext Ext_t5
  have F_245 := F_228.ext Ext_t5
  have F_246 := F_229.ext Ext_t5
  have Q_247 := Q_230.ext Ext_t5
  have Q_248 := A_224.ext Ext_t5
  have Q_249 := Q_232.ext Ext_t5
  have Q_250 := Q_233.ext Ext_t5
  have Q_251 := Q_234.ext Ext_t5
  have Q_252 := Q_235.ext Ext_t5
  have Q_253 := Q_236.ext Ext_t5
  refine Own.aastore H_239 (pc := 61) 2 d1_61 Q_249 (Ins.of_exa Exa_t5 (hw _ (List.mem_of_getElem? (i := 20) rfl))) ge_wk rfl (by simp) (fun T_255 h_256 H_254 W_257 A_258 => ?_)
  have E_259 := E_242.wr W_257
  have F_260 := F_243.other W_257 (Or.inl (show (a : Nat) ≠ wk by omega))
  have F_261 := F_244.other W_257 (Or.inl (show (a : Nat) ≠ wk by omega))
  have F_262 := F_245.other W_257 (Or.inl (show (a : Nat) ≠ wk by omega))
  have F_263 := F_246.other W_257 (Or.inl (show (a : Nat) ≠ wk by omega))
  have Q_264 := Q_247.wr W_257 ge_wk
  have Q_265 := Q_248.other W_257 (by omega)
  have Q_267 := Q_250.other W_257 (by omega)
  have Q_268 := Q_251.other W_257 (by omega)
  have Q_269 := Q_252.other W_257 (by omega)
  have Q_270 := Q_253.other W_257 (by omega)
  refine Own.iinc_c H_254 (pc := 62) (3) #[.val (.ref a), .val (.int n), .val (.int (3 : Int32))] d1_62 rfl (by decide) rfl ?_
  refine Own.goto H_254 (pc := 65) 38 d1_65 (by decide) (by decide) ?_
  refine Own.iload_n H_254 (pc := 38) d1_38 rfl ?_
  refine Own.bipush H_254 (pc := 39) (8) d1_39 rfl ?_
  refine Own.icmp_ge H_254 (pc := 41) 68 d1_41 (by decide) (by decide) (fun hc => absurd hc (by decide)) (fun _ => ?_)
  refine Own.aload_n H_254 (pc := 44) d1_44 rfl rfl ?_
  refine Own.getfield H_254 (pc := 45) d1_45 (hw _ (List.mem_of_getElem? (i := 11) rfl)) F_260 (fun T_272 H_271 => ?_)
  refine Own.iload_n H_271 (pc := 48) d1_48 rfl ?_
  refine Own.iload_n H_271 (pc := 49) d1_49 rfl ?_
  refine Own.newarrayE H_271 (pc := 50) (i := nn) (ad := "[J") 4 d1_50 (hw _ (List.mem_of_getElem? (i := 19) rfl)) hn (by decide) (by decide) h4 (by decide) (by decide) (by decide) (fun T_274 h_275 r3 eq_r3 ge_r3 H_273 Ext_r3 Ary_r3 Exa_r3 => ?_)
  have lt_r3 : r2 < r3 := by have := Q_270.lt; omega
  have lt2_r3 : sc < r3 := by have := Q_267.lt; omega
  have E_276 := E_259.ext Ext_r3
  have F_277 := F_260.ext Ext_r3
  have F_278 := F_261.ext Ext_r3
  have F_279 := F_262.ext Ext_r3
  have F_280 := F_263.ext Ext_r3
  have Q_281 := Q_264.ext Ext_r3
  have Q_282 := Q_265.ext Ext_r3
  have Q_283 := A_258.ext Ext_r3
  have Q_284 := Q_267.ext Ext_r3
  have Q_285 := Q_268.ext Ext_r3
  have Q_286 := Q_269.ext Ext_r3
  have Q_287 := Q_270.ext Ext_r3
  refine Own.aastore H_273 (pc := 52) 3 d1_52 Q_282 (Ins.of_exa Exa_r3 (hw _ (List.mem_of_getElem? (i := 20) rfl))) ge_hb rfl (by simp) (fun T_289 h_290 H_288 W_291 A_292 => ?_)
  have E_293 := E_276.wr W_291
  have F_294 := F_277.other W_291 (Or.inl (show (a : Nat) ≠ hb by omega))
  have F_295 := F_278.other W_291 (Or.inl (show (a : Nat) ≠ hb by omega))
  have F_296 := F_279.other W_291 (Or.inl (show (a : Nat) ≠ hb by omega))
  have F_297 := F_280.other W_291 (Or.inl (show (a : Nat) ≠ hb by omega))
  have Q_298 := Q_281.wr W_291 ge_hb
  have Q_300 := Q_283.other W_291 (by omega)
  have Q_301 := Q_284.other W_291 (by omega)
  have Q_302 := Q_285.other W_291 (by omega)
  have Q_303 := Q_286.other W_291 (by omega)
  have Q_304 := Q_287.other W_291 (by omega)
  have Q_305 := Ary_r3.other W_291 (by omega)
  refine Own.aload_n H_288 (pc := 53) d1_53 rfl rfl ?_
  refine Own.getfield H_288 (pc := 54) d1_54 (hw _ (List.mem_of_getElem? (i := 13) rfl)) F_295 (fun T_307 H_306 => ?_)
  refine Own.iload_n H_306 (pc := 57) d1_57 rfl ?_
  refine Own.iload_n H_306 (pc := 58) d1_58 rfl ?_
  refine Own.newarrayE H_306 (pc := 59) (i := nn) (ad := "[J") 4 d1_59 (hw _ (List.mem_of_getElem? (i := 19) rfl)) hn (by decide) (by decide) h4 (by decide) (by decide) (by decide) (fun T_309 h_310 t7 eq_t7 ge_t7 H_308 Ext_t7 Ary_t7 Exa_t7 => ?_)
  have E_311 := E_293.ext Ext_t7
  have F_312 := F_294.ext Ext_t7
  have F_313 := F_295.ext Ext_t7
  have F_314 := F_296.ext Ext_t7
  have F_315 := F_297.ext Ext_t7
  have Q_316 := Q_298.ext Ext_t7
  have Q_317 := A_292.ext Ext_t7
  have Q_318 := Q_300.ext Ext_t7
  have Q_319 := Q_301.ext Ext_t7
  have Q_320 := Q_302.ext Ext_t7
  have Q_321 := Q_303.ext Ext_t7
  have Q_322 := Q_304.ext Ext_t7
  have Q_323 := Q_305.ext Ext_t7
  refine Own.aastore H_308 (pc := 61) 3 d1_61 Q_318 (Ins.of_exa Exa_t7 (hw _ (List.mem_of_getElem? (i := 20) rfl))) ge_wk rfl (by simp) (fun T_325 h_326 H_324 W_327 A_328 => ?_)
  have E_329 := E_311.wr W_327
  have F_330 := F_312.other W_327 (Or.inl (show (a : Nat) ≠ wk by omega))
  have F_331 := F_313.other W_327 (Or.inl (show (a : Nat) ≠ wk by omega))
  have F_332 := F_314.other W_327 (Or.inl (show (a : Nat) ≠ wk by omega))
  have F_333 := F_315.other W_327 (Or.inl (show (a : Nat) ≠ wk by omega))
  have Q_334 := Q_316.wr W_327 ge_wk
  have Q_335 := Q_317.other W_327 (by omega)
  have Q_337 := Q_319.other W_327 (by omega)
  have Q_338 := Q_320.other W_327 (by omega)
  have Q_339 := Q_321.other W_327 (by omega)
  have Q_340 := Q_322.other W_327 (by omega)
  have Q_341 := Q_323.other W_327 (by omega)
  refine Own.iinc_c H_324 (pc := 62) (4) #[.val (.ref a), .val (.int n), .val (.int (4 : Int32))] d1_62 rfl (by decide) rfl ?_
  refine Own.goto H_324 (pc := 65) 38 d1_65 (by decide) (by decide) ?_
  refine Own.iload_n H_324 (pc := 38) d1_38 rfl ?_
  refine Own.bipush H_324 (pc := 39) (8) d1_39 rfl ?_
  refine Own.icmp_ge H_324 (pc := 41) 68 d1_41 (by decide) (by decide) (fun hc => absurd hc (by decide)) (fun _ => ?_)
  refine Own.aload_n H_324 (pc := 44) d1_44 rfl rfl ?_
  refine Own.getfield H_324 (pc := 45) d1_45 (hw _ (List.mem_of_getElem? (i := 11) rfl)) F_330 (fun T_343 H_342 => ?_)
  refine Own.iload_n H_342 (pc := 48) d1_48 rfl ?_
  refine Own.iload_n H_342 (pc := 49) d1_49 rfl ?_
  refine Own.newarrayE H_342 (pc := 50) (i := nn) (ad := "[J") 4 d1_50 (hw _ (List.mem_of_getElem? (i := 19) rfl)) hn (by decide) (by decide) h4 (by decide) (by decide) (by decide) (fun T_345 h_346 r4 eq_r4 ge_r4 H_344 Ext_r4 Ary_r4 Exa_r4 => ?_)
  have lt_r4 : r3 < r4 := by have := Q_341.lt; omega
  have lt2_r4 : sc < r4 := by have := Q_337.lt; omega
  have E_347 := E_329.ext Ext_r4
  have F_348 := F_330.ext Ext_r4
  have F_349 := F_331.ext Ext_r4
  have F_350 := F_332.ext Ext_r4
  have F_351 := F_333.ext Ext_r4
  have Q_352 := Q_334.ext Ext_r4
  have Q_353 := Q_335.ext Ext_r4
  have Q_354 := A_328.ext Ext_r4
  have Q_355 := Q_337.ext Ext_r4
  have Q_356 := Q_338.ext Ext_r4
  have Q_357 := Q_339.ext Ext_r4
  have Q_358 := Q_340.ext Ext_r4
  have Q_359 := Q_341.ext Ext_r4
  refine Own.aastore H_344 (pc := 52) 4 d1_52 Q_353 (Ins.of_exa Exa_r4 (hw _ (List.mem_of_getElem? (i := 20) rfl))) ge_hb rfl (by simp) (fun T_361 h_362 H_360 W_363 A_364 => ?_)
  have E_365 := E_347.wr W_363
  have F_366 := F_348.other W_363 (Or.inl (show (a : Nat) ≠ hb by omega))
  have F_367 := F_349.other W_363 (Or.inl (show (a : Nat) ≠ hb by omega))
  have F_368 := F_350.other W_363 (Or.inl (show (a : Nat) ≠ hb by omega))
  have F_369 := F_351.other W_363 (Or.inl (show (a : Nat) ≠ hb by omega))
  have Q_370 := Q_352.wr W_363 ge_hb
  have Q_372 := Q_354.other W_363 (by omega)
  have Q_373 := Q_355.other W_363 (by omega)
  have Q_374 := Q_356.other W_363 (by omega)
  have Q_375 := Q_357.other W_363 (by omega)
  have Q_376 := Q_358.other W_363 (by omega)
  have Q_377 := Q_359.other W_363 (by omega)
  have Q_378 := Ary_r4.other W_363 (by omega)
  refine Own.aload_n H_360 (pc := 53) d1_53 rfl rfl ?_
  refine Own.getfield H_360 (pc := 54) d1_54 (hw _ (List.mem_of_getElem? (i := 13) rfl)) F_367 (fun T_380 H_379 => ?_)
  refine Own.iload_n H_379 (pc := 57) d1_57 rfl ?_
  refine Own.iload_n H_379 (pc := 58) d1_58 rfl ?_
  refine Own.newarrayE H_379 (pc := 59) (i := nn) (ad := "[J") 4 d1_59 (hw _ (List.mem_of_getElem? (i := 19) rfl)) hn (by decide) (by decide) h4 (by decide) (by decide) (by decide) (fun T_382 h_383 t9 eq_t9 ge_t9 H_381 Ext_t9 Ary_t9 Exa_t9 => ?_)
  have E_384 := E_365.ext Ext_t9
  have F_385 := F_366.ext Ext_t9
  have F_386 := F_367.ext Ext_t9
  have F_387 := F_368.ext Ext_t9
  have F_388 := F_369.ext Ext_t9
  have Q_389 := Q_370.ext Ext_t9
  have Q_390 := A_364.ext Ext_t9
  have Q_391 := Q_372.ext Ext_t9
  have Q_392 := Q_373.ext Ext_t9
  have Q_393 := Q_374.ext Ext_t9
  have Q_394 := Q_375.ext Ext_t9
  have Q_395 := Q_376.ext Ext_t9
  have Q_396 := Q_377.ext Ext_t9
  have Q_397 := Q_378.ext Ext_t9
  refine Own.aastore H_381 (pc := 61) 4 d1_61 Q_391 (Ins.of_exa Exa_t9 (hw _ (List.mem_of_getElem? (i := 20) rfl))) ge_wk rfl (by simp) (fun T_399 h_400 H_398 W_401 A_402 => ?_)
  have E_403 := E_384.wr W_401
  have F_404 := F_385.other W_401 (Or.inl (show (a : Nat) ≠ wk by omega))
  have F_405 := F_386.other W_401 (Or.inl (show (a : Nat) ≠ wk by omega))
  have F_406 := F_387.other W_401 (Or.inl (show (a : Nat) ≠ wk by omega))
  have F_407 := F_388.other W_401 (Or.inl (show (a : Nat) ≠ wk by omega))
  have Q_408 := Q_389.wr W_401 ge_wk
  have Q_409 := Q_390.other W_401 (by omega)
  have Q_411 := Q_392.other W_401 (by omega)
  have Q_412 := Q_393.other W_401 (by omega)
  have Q_413 := Q_394.other W_401 (by omega)
  have Q_414 := Q_395.other W_401 (by omega)
  have Q_415 := Q_396.other W_401 (by omega)
  have Q_416 := Q_397.other W_401 (by omega)
  refine Own.iinc_c H_398 (pc := 62) (5) #[.val (.ref a), .val (.int n), .val (.int (5 : Int32))] d1_62 rfl (by decide) rfl ?_
  refine Own.goto H_398 (pc := 65) 38 d1_65 (by decide) (by decide) ?_
  refine Own.iload_n H_398 (pc := 38) d1_38 rfl ?_
  refine Own.bipush H_398 (pc := 39) (8) d1_39 rfl ?_
  refine Own.icmp_ge H_398 (pc := 41) 68 d1_41 (by decide) (by decide) (fun hc => absurd hc (by decide)) (fun _ => ?_)
  refine Own.aload_n H_398 (pc := 44) d1_44 rfl rfl ?_
  refine Own.getfield H_398 (pc := 45) d1_45 (hw _ (List.mem_of_getElem? (i := 11) rfl)) F_404 (fun T_418 H_417 => ?_)
  refine Own.iload_n H_417 (pc := 48) d1_48 rfl ?_
  refine Own.iload_n H_417 (pc := 49) d1_49 rfl ?_
  refine Own.newarrayE H_417 (pc := 50) (i := nn) (ad := "[J") 4 d1_50 (hw _ (List.mem_of_getElem? (i := 19) rfl)) hn (by decide) (by decide) h4 (by decide) (by decide) (by decide) (fun T_420 h_421 r5 eq_r5 ge_r5 H_419 Ext_r5 Ary_r5 Exa_r5 => ?_)
  have lt_r5 : r4 < r5 := by have := Q_416.lt; omega
  have lt2_r5 : sc < r5 := by have := Q_411.lt; omega
  have E_422 := E_403.ext Ext_r5
  have F_423 := F_404.ext Ext_r5
  have F_424 := F_405.ext Ext_r5
  have F_425 := F_406.ext Ext_r5
  have F_426 := F_407.ext Ext_r5
  have Q_427 := Q_408.ext Ext_r5
  have Q_428 := Q_409.ext Ext_r5
  have Q_429 := A_402.ext Ext_r5
  have Q_430 := Q_411.ext Ext_r5
  have Q_431 := Q_412.ext Ext_r5
  have Q_432 := Q_413.ext Ext_r5
  have Q_433 := Q_414.ext Ext_r5
  have Q_434 := Q_415.ext Ext_r5
  have Q_435 := Q_416.ext Ext_r5
  refine Own.aastore H_419 (pc := 52) 5 d1_52 Q_428 (Ins.of_exa Exa_r5 (hw _ (List.mem_of_getElem? (i := 20) rfl))) ge_hb rfl (by simp) (fun T_437 h_438 H_436 W_439 A_440 => ?_)
  have E_441 := E_422.wr W_439
  have F_442 := F_423.other W_439 (Or.inl (show (a : Nat) ≠ hb by omega))
  have F_443 := F_424.other W_439 (Or.inl (show (a : Nat) ≠ hb by omega))
  have F_444 := F_425.other W_439 (Or.inl (show (a : Nat) ≠ hb by omega))
  have F_445 := F_426.other W_439 (Or.inl (show (a : Nat) ≠ hb by omega))
  have Q_446 := Q_427.wr W_439 ge_hb
  have Q_448 := Q_429.other W_439 (by omega)
  have Q_449 := Q_430.other W_439 (by omega)
  have Q_450 := Q_431.other W_439 (by omega)
  have Q_451 := Q_432.other W_439 (by omega)
  have Q_452 := Q_433.other W_439 (by omega)
  have Q_453 := Q_434.other W_439 (by omega)
  have Q_454 := Q_435.other W_439 (by omega)
  have Q_455 := Ary_r5.other W_439 (by omega)
  refine Own.aload_n H_436 (pc := 53) d1_53 rfl rfl ?_
  refine Own.getfield H_436 (pc := 54) d1_54 (hw _ (List.mem_of_getElem? (i := 13) rfl)) F_443 (fun T_457 H_456 => ?_)
  refine Own.iload_n H_456 (pc := 57) d1_57 rfl ?_
  refine Own.iload_n H_456 (pc := 58) d1_58 rfl ?_
  refine Own.newarrayE H_456 (pc := 59) (i := nn) (ad := "[J") 4 d1_59 (hw _ (List.mem_of_getElem? (i := 19) rfl)) hn (by decide) (by decide) h4 (by decide) (by decide) (by decide) (fun T_459 h_460 t11 eq_t11 ge_t11 H_458 Ext_t11 Ary_t11 Exa_t11 => ?_)
  have E_461 := E_441.ext Ext_t11
  have F_462 := F_442.ext Ext_t11
  have F_463 := F_443.ext Ext_t11
  have F_464 := F_444.ext Ext_t11
  have F_465 := F_445.ext Ext_t11
  have Q_466 := Q_446.ext Ext_t11
  have Q_467 := A_440.ext Ext_t11
  have Q_468 := Q_448.ext Ext_t11
  have Q_469 := Q_449.ext Ext_t11
  have Q_470 := Q_450.ext Ext_t11
  have Q_471 := Q_451.ext Ext_t11
  have Q_472 := Q_452.ext Ext_t11
  have Q_473 := Q_453.ext Ext_t11
  have Q_474 := Q_454.ext Ext_t11
  have Q_475 := Q_455.ext Ext_t11
  refine Own.aastore H_458 (pc := 61) 5 d1_61 Q_468 (Ins.of_exa Exa_t11 (hw _ (List.mem_of_getElem? (i := 20) rfl))) ge_wk rfl (by simp) (fun T_477 h_478 H_476 W_479 A_480 => ?_)
  have E_481 := E_461.wr W_479
  have F_482 := F_462.other W_479 (Or.inl (show (a : Nat) ≠ wk by omega))
  have F_483 := F_463.other W_479 (Or.inl (show (a : Nat) ≠ wk by omega))
  have F_484 := F_464.other W_479 (Or.inl (show (a : Nat) ≠ wk by omega))
  have F_485 := F_465.other W_479 (Or.inl (show (a : Nat) ≠ wk by omega))
  have Q_486 := Q_466.wr W_479 ge_wk
  have Q_487 := Q_467.other W_479 (by omega)
  have Q_489 := Q_469.other W_479 (by omega)
  have Q_490 := Q_470.other W_479 (by omega)
  have Q_491 := Q_471.other W_479 (by omega)
  have Q_492 := Q_472.other W_479 (by omega)
  have Q_493 := Q_473.other W_479 (by omega)
  have Q_494 := Q_474.other W_479 (by omega)
  have Q_495 := Q_475.other W_479 (by omega)
  refine Own.iinc_c H_476 (pc := 62) (6) #[.val (.ref a), .val (.int n), .val (.int (6 : Int32))] d1_62 rfl (by decide) rfl ?_
  refine Own.goto H_476 (pc := 65) 38 d1_65 (by decide) (by decide) ?_
  refine Own.iload_n H_476 (pc := 38) d1_38 rfl ?_
  refine Own.bipush H_476 (pc := 39) (8) d1_39 rfl ?_
  refine Own.icmp_ge H_476 (pc := 41) 68 d1_41 (by decide) (by decide) (fun hc => absurd hc (by decide)) (fun _ => ?_)
  refine Own.aload_n H_476 (pc := 44) d1_44 rfl rfl ?_
  refine Own.getfield H_476 (pc := 45) d1_45 (hw _ (List.mem_of_getElem? (i := 11) rfl)) F_482 (fun T_497 H_496 => ?_)
  refine Own.iload_n H_496 (pc := 48) d1_48 rfl ?_
  refine Own.iload_n H_496 (pc := 49) d1_49 rfl ?_
  refine Own.newarrayE H_496 (pc := 50) (i := nn) (ad := "[J") 4 d1_50 (hw _ (List.mem_of_getElem? (i := 19) rfl)) hn (by decide) (by decide) h4 (by decide) (by decide) (by decide) (fun T_499 h_500 r6 eq_r6 ge_r6 H_498 Ext_r6 Ary_r6 Exa_r6 => ?_)
  have lt_r6 : r5 < r6 := by have := Q_495.lt; omega
  have lt2_r6 : sc < r6 := by have := Q_489.lt; omega
  have E_501 := E_481.ext Ext_r6
  have F_502 := F_482.ext Ext_r6
  have F_503 := F_483.ext Ext_r6
  have F_504 := F_484.ext Ext_r6
  have F_505 := F_485.ext Ext_r6
  have Q_506 := Q_486.ext Ext_r6
  have Q_507 := Q_487.ext Ext_r6
  have Q_508 := A_480.ext Ext_r6
  have Q_509 := Q_489.ext Ext_r6
  have Q_510 := Q_490.ext Ext_r6
  have Q_511 := Q_491.ext Ext_r6
  have Q_512 := Q_492.ext Ext_r6
  have Q_513 := Q_493.ext Ext_r6
  have Q_514 := Q_494.ext Ext_r6
  have Q_515 := Q_495.ext Ext_r6
  refine Own.aastore H_498 (pc := 52) 6 d1_52 Q_507 (Ins.of_exa Exa_r6 (hw _ (List.mem_of_getElem? (i := 20) rfl))) ge_hb rfl (by simp) (fun T_517 h_518 H_516 W_519 A_520 => ?_)
  have E_521 := E_501.wr W_519
  have F_522 := F_502.other W_519 (Or.inl (show (a : Nat) ≠ hb by omega))
  have F_523 := F_503.other W_519 (Or.inl (show (a : Nat) ≠ hb by omega))
  have F_524 := F_504.other W_519 (Or.inl (show (a : Nat) ≠ hb by omega))
  have F_525 := F_505.other W_519 (Or.inl (show (a : Nat) ≠ hb by omega))
  have Q_526 := Q_506.wr W_519 ge_hb
  have Q_528 := Q_508.other W_519 (by omega)
  have Q_529 := Q_509.other W_519 (by omega)
  have Q_530 := Q_510.other W_519 (by omega)
  have Q_531 := Q_511.other W_519 (by omega)
  have Q_532 := Q_512.other W_519 (by omega)
  have Q_533 := Q_513.other W_519 (by omega)
  have Q_534 := Q_514.other W_519 (by omega)
  have Q_535 := Q_515.other W_519 (by omega)
  have Q_536 := Ary_r6.other W_519 (by omega)
  refine Own.aload_n H_516 (pc := 53) d1_53 rfl rfl ?_
  refine Own.getfield H_516 (pc := 54) d1_54 (hw _ (List.mem_of_getElem? (i := 13) rfl)) F_523 (fun T_538 H_537 => ?_)
  refine Own.iload_n H_537 (pc := 57) d1_57 rfl ?_
  refine Own.iload_n H_537 (pc := 58) d1_58 rfl ?_
  refine Own.newarrayE H_537 (pc := 59) (i := nn) (ad := "[J") 4 d1_59 (hw _ (List.mem_of_getElem? (i := 19) rfl)) hn (by decide) (by decide) h4 (by decide) (by decide) (by decide) (fun T_540 h_541 t13 eq_t13 ge_t13 H_539 Ext_t13 Ary_t13 Exa_t13 => ?_)
  have E_542 := E_521.ext Ext_t13
  have F_543 := F_522.ext Ext_t13
  have F_544 := F_523.ext Ext_t13
  have F_545 := F_524.ext Ext_t13
  have F_546 := F_525.ext Ext_t13
  have Q_547 := Q_526.ext Ext_t13
  have Q_548 := A_520.ext Ext_t13
  have Q_549 := Q_528.ext Ext_t13
  have Q_550 := Q_529.ext Ext_t13
  have Q_551 := Q_530.ext Ext_t13
  have Q_552 := Q_531.ext Ext_t13
  have Q_553 := Q_532.ext Ext_t13
  have Q_554 := Q_533.ext Ext_t13
  have Q_555 := Q_534.ext Ext_t13
  have Q_556 := Q_535.ext Ext_t13
  have Q_557 := Q_536.ext Ext_t13
  refine Own.aastore H_539 (pc := 61) 6 d1_61 Q_549 (Ins.of_exa Exa_t13 (hw _ (List.mem_of_getElem? (i := 20) rfl))) ge_wk rfl (by simp) (fun T_559 h_560 H_558 W_561 A_562 => ?_)
  have E_563 := E_542.wr W_561
  have F_564 := F_543.other W_561 (Or.inl (show (a : Nat) ≠ wk by omega))
  have F_565 := F_544.other W_561 (Or.inl (show (a : Nat) ≠ wk by omega))
  have F_566 := F_545.other W_561 (Or.inl (show (a : Nat) ≠ wk by omega))
  have F_567 := F_546.other W_561 (Or.inl (show (a : Nat) ≠ wk by omega))
  have Q_568 := Q_547.wr W_561 ge_wk
  have Q_569 := Q_548.other W_561 (by omega)
  have Q_571 := Q_550.other W_561 (by omega)
  have Q_572 := Q_551.other W_561 (by omega)
  have Q_573 := Q_552.other W_561 (by omega)
  have Q_574 := Q_553.other W_561 (by omega)
  have Q_575 := Q_554.other W_561 (by omega)
  have Q_576 := Q_555.other W_561 (by omega)
  have Q_577 := Q_556.other W_561 (by omega)
  have Q_578 := Q_557.other W_561 (by omega)
  refine Own.iinc_c H_558 (pc := 62) (7) #[.val (.ref a), .val (.int n), .val (.int (7 : Int32))] d1_62 rfl (by decide) rfl ?_
  refine Own.goto H_558 (pc := 65) 38 d1_65 (by decide) (by decide) ?_
  refine Own.iload_n H_558 (pc := 38) d1_38 rfl ?_
  refine Own.bipush H_558 (pc := 39) (8) d1_39 rfl ?_
  refine Own.icmp_ge H_558 (pc := 41) 68 d1_41 (by decide) (by decide) (fun hc => absurd hc (by decide)) (fun _ => ?_)
  refine Own.aload_n H_558 (pc := 44) d1_44 rfl rfl ?_
  refine Own.getfield H_558 (pc := 45) d1_45 (hw _ (List.mem_of_getElem? (i := 11) rfl)) F_564 (fun T_580 H_579 => ?_)
  refine Own.iload_n H_579 (pc := 48) d1_48 rfl ?_
  refine Own.iload_n H_579 (pc := 49) d1_49 rfl ?_
  refine Own.newarrayE H_579 (pc := 50) (i := nn) (ad := "[J") 4 d1_50 (hw _ (List.mem_of_getElem? (i := 19) rfl)) hn (by decide) (by decide) h4 (by decide) (by decide) (by decide) (fun T_582 h_583 r7 eq_r7 ge_r7 H_581 Ext_r7 Ary_r7 Exa_r7 => ?_)
  have lt_r7 : r6 < r7 := by have := Q_578.lt; omega
  have lt2_r7 : sc < r7 := by have := Q_571.lt; omega
  have E_584 := E_563.ext Ext_r7
  have F_585 := F_564.ext Ext_r7
  have F_586 := F_565.ext Ext_r7
  have F_587 := F_566.ext Ext_r7
  have F_588 := F_567.ext Ext_r7
  have Q_589 := Q_568.ext Ext_r7
  have Q_590 := Q_569.ext Ext_r7
  have Q_591 := A_562.ext Ext_r7
  have Q_592 := Q_571.ext Ext_r7
  have Q_593 := Q_572.ext Ext_r7
  have Q_594 := Q_573.ext Ext_r7
  have Q_595 := Q_574.ext Ext_r7
  have Q_596 := Q_575.ext Ext_r7
  have Q_597 := Q_576.ext Ext_r7
  have Q_598 := Q_577.ext Ext_r7
  have Q_599 := Q_578.ext Ext_r7
  refine Own.aastore H_581 (pc := 52) 7 d1_52 Q_590 (Ins.of_exa Exa_r7 (hw _ (List.mem_of_getElem? (i := 20) rfl))) ge_hb rfl (by simp) (fun T_601 h_602 H_600 W_603 A_604 => ?_)
  have E_605 := E_584.wr W_603
  have F_606 := F_585.other W_603 (Or.inl (show (a : Nat) ≠ hb by omega))
  have F_607 := F_586.other W_603 (Or.inl (show (a : Nat) ≠ hb by omega))
  have F_608 := F_587.other W_603 (Or.inl (show (a : Nat) ≠ hb by omega))
  have F_609 := F_588.other W_603 (Or.inl (show (a : Nat) ≠ hb by omega))
  have Q_610 := Q_589.wr W_603 ge_hb
  have Q_612 := Q_591.other W_603 (by omega)
  have Q_613 := Q_592.other W_603 (by omega)
  have Q_614 := Q_593.other W_603 (by omega)
  have Q_615 := Q_594.other W_603 (by omega)
  have Q_616 := Q_595.other W_603 (by omega)
  have Q_617 := Q_596.other W_603 (by omega)
  have Q_618 := Q_597.other W_603 (by omega)
  have Q_619 := Q_598.other W_603 (by omega)
  have Q_620 := Q_599.other W_603 (by omega)
  have Q_621 := Ary_r7.other W_603 (by omega)
  refine Own.aload_n H_600 (pc := 53) d1_53 rfl rfl ?_
  refine Own.getfield H_600 (pc := 54) d1_54 (hw _ (List.mem_of_getElem? (i := 13) rfl)) F_607 (fun T_623 H_622 => ?_)
  refine Own.iload_n H_622 (pc := 57) d1_57 rfl ?_
  refine Own.iload_n H_622 (pc := 58) d1_58 rfl ?_
  refine Own.newarrayE H_622 (pc := 59) (i := nn) (ad := "[J") 4 d1_59 (hw _ (List.mem_of_getElem? (i := 19) rfl)) hn (by decide) (by decide) h4 (by decide) (by decide) (by decide) (fun T_625 h_626 t15 eq_t15 ge_t15 H_624 Ext_t15 Ary_t15 Exa_t15 => ?_)
  have E_627 := E_605.ext Ext_t15
  have F_628 := F_606.ext Ext_t15
  have F_629 := F_607.ext Ext_t15
  have F_630 := F_608.ext Ext_t15
  have F_631 := F_609.ext Ext_t15
  have Q_632 := Q_610.ext Ext_t15
  have Q_633 := A_604.ext Ext_t15
  have Q_634 := Q_612.ext Ext_t15
  have Q_635 := Q_613.ext Ext_t15
  have Q_636 := Q_614.ext Ext_t15
  have Q_637 := Q_615.ext Ext_t15
  have Q_638 := Q_616.ext Ext_t15
  have Q_639 := Q_617.ext Ext_t15
  have Q_640 := Q_618.ext Ext_t15
  have Q_641 := Q_619.ext Ext_t15
  have Q_642 := Q_620.ext Ext_t15
  have Q_643 := Q_621.ext Ext_t15
  refine Own.aastore H_624 (pc := 61) 7 d1_61 Q_634 (Ins.of_exa Exa_t15 (hw _ (List.mem_of_getElem? (i := 20) rfl))) ge_wk rfl (by simp) (fun T_645 h_646 H_644 W_647 A_648 => ?_)
  have E_649 := E_627.wr W_647
  have F_650 := F_628.other W_647 (Or.inl (show (a : Nat) ≠ wk by omega))
  have F_651 := F_629.other W_647 (Or.inl (show (a : Nat) ≠ wk by omega))
  have F_652 := F_630.other W_647 (Or.inl (show (a : Nat) ≠ wk by omega))
  have F_653 := F_631.other W_647 (Or.inl (show (a : Nat) ≠ wk by omega))
  have Q_654 := Q_632.wr W_647 ge_wk
  have Q_655 := Q_633.other W_647 (by omega)
  have Q_657 := Q_635.other W_647 (by omega)
  have Q_658 := Q_636.other W_647 (by omega)
  have Q_659 := Q_637.other W_647 (by omega)
  have Q_660 := Q_638.other W_647 (by omega)
  have Q_661 := Q_639.other W_647 (by omega)
  have Q_662 := Q_640.other W_647 (by omega)
  have Q_663 := Q_641.other W_647 (by omega)
  have Q_664 := Q_642.other W_647 (by omega)
  have Q_665 := Q_643.other W_647 (by omega)
  refine Own.iinc_c H_644 (pc := 62) (8) #[.val (.ref a), .val (.int n), .val (.int (8 : Int32))] d1_62 rfl (by decide) rfl ?_
  refine Own.goto H_644 (pc := 65) 38 d1_65 (by decide) (by decide) ?_
  refine Own.iload_n H_644 (pc := 38) d1_38 rfl ?_
  refine Own.bipush H_644 (pc := 39) (8) d1_39 rfl ?_
  refine Own.icmp_ge H_644 (pc := 41) 68 d1_41 (by decide) (by decide) (fun _ => ?_) (fun hc => absurd hc (by decide))
  refine Own.iconst H_644 (pc := 68) (0) d1_68 rfl ?_
  refine Own.istore_n H_644 (pc := 69) #[.val (.ref a), .val (.int n), .val (.int (0 : Int32))] d1_69 rfl ?_
  refine Own.iload_n H_644 (pc := 70) d1_70 rfl ?_
  refine Own.bipush H_644 (pc := 71) (16) d1_71 rfl ?_
  refine Own.icmp_ge H_644 (pc := 73) 91 d1_73 (by decide) (by decide) (fun hc => absurd hc (by decide)) (fun _ => ?_)
  refine Own.aload_n H_644 (pc := 76) d1_76 rfl rfl ?_
  refine Own.getfield H_644 (pc := 77) d1_77 (hw _ (List.mem_of_getElem? (i := 15) rfl)) F_652 (fun T_667 H_666 => ?_)
  refine Own.iload_n H_666 (pc := 80) d1_80 rfl ?_
  refine Own.iload_n H_666 (pc := 81) d1_81 rfl ?_
  refine Own.newarrayE H_666 (pc := 82) (i := nn) (ad := "[J") 4 d1_82 (hw _ (List.mem_of_getElem? (i := 19) rfl)) hn (by decide) (by decide) h4 (by decide) (by decide) (by decide) (fun T_669 h_670 t16 eq_t16 ge_t16 H_668 Ext_t16 Ary_t16 Exa_t16 => ?_)
  have E_671 := E_649.ext Ext_t16
  have F_672 := F_650.ext Ext_t16
  have F_673 := F_651.ext Ext_t16
  have F_674 := F_652.ext Ext_t16
  have F_675 := F_653.ext Ext_t16
  have Q_676 := Q_654.ext Ext_t16
  have Q_677 := Q_655.ext Ext_t16
  have Q_678 := A_648.ext Ext_t16
  have Q_679 := Q_657.ext Ext_t16
  have Q_680 := Q_658.ext Ext_t16
  have Q_681 := Q_659.ext Ext_t16
  have Q_682 := Q_660.ext Ext_t16
  have Q_683 := Q_661.ext Ext_t16
  have Q_684 := Q_662.ext Ext_t16
  have Q_685 := Q_663.ext Ext_t16
  have Q_686 := Q_664.ext Ext_t16
  have Q_687 := Q_665.ext Ext_t16
  refine Own.aastore H_668 (pc := 84) 0 d1_84 Q_679 (Ins.of_exa Exa_t16 (hw _ (List.mem_of_getElem? (i := 20) rfl))) ge_sc rfl (by simp) (fun T_689 h_690 H_688 W_691 A_692 => ?_)
  have E_693 := E_671.wr W_691
  have F_694 := F_672.other W_691 (Or.inl (show (a : Nat) ≠ sc by omega))
  have F_695 := F_673.other W_691 (Or.inl (show (a : Nat) ≠ sc by omega))
  have F_696 := F_674.other W_691 (Or.inl (show (a : Nat) ≠ sc by omega))
  have F_697 := F_675.other W_691 (Or.inl (show (a : Nat) ≠ sc by omega))
  have Q_698 := Q_676.wr W_691 ge_sc
  have Q_699 := Q_677.other W_691 (by omega)
  have Q_700 := Q_678.other W_691 (by omega)
  have Q_702 := Q_680.other W_691 (by omega)
  have Q_703 := Q_681.other W_691 (by omega)
  have Q_704 := Q_682.other W_691 (by omega)
  have Q_705 := Q_683.other W_691 (by omega)
  have Q_706 := Q_684.other W_691 (by omega)
  have Q_707 := Q_685.other W_691 (by omega)
  have Q_708 := Q_686.other W_691 (by omega)
  have Q_709 := Q_687.other W_691 (by omega)
  refine Own.iinc_c H_688 (pc := 85) (1) #[.val (.ref a), .val (.int n), .val (.int (1 : Int32))] d1_85 rfl (by decide) rfl ?_
  refine Own.goto H_688 (pc := 88) 70 d1_88 (by decide) (by decide) ?_
  refine Own.iload_n H_688 (pc := 70) d1_70 rfl ?_
  refine Own.bipush H_688 (pc := 71) (16) d1_71 rfl ?_
  refine Own.icmp_ge H_688 (pc := 73) 91 d1_73 (by decide) (by decide) (fun hc => absurd hc (by decide)) (fun _ => ?_)
  refine Own.aload_n H_688 (pc := 76) d1_76 rfl rfl ?_
  refine Own.getfield H_688 (pc := 77) d1_77 (hw _ (List.mem_of_getElem? (i := 15) rfl)) F_696 (fun T_711 H_710 => ?_)
  refine Own.iload_n H_710 (pc := 80) d1_80 rfl ?_
  refine Own.iload_n H_710 (pc := 81) d1_81 rfl ?_
  refine Own.newarrayE H_710 (pc := 82) (i := nn) (ad := "[J") 4 d1_82 (hw _ (List.mem_of_getElem? (i := 19) rfl)) hn (by decide) (by decide) h4 (by decide) (by decide) (by decide) (fun T_713 h_714 t17 eq_t17 ge_t17 H_712 Ext_t17 Ary_t17 Exa_t17 => ?_)
  have E_715 := E_693.ext Ext_t17
  have F_716 := F_694.ext Ext_t17
  have F_717 := F_695.ext Ext_t17
  have F_718 := F_696.ext Ext_t17
  have F_719 := F_697.ext Ext_t17
  have Q_720 := Q_698.ext Ext_t17
  have Q_721 := Q_699.ext Ext_t17
  have Q_722 := Q_700.ext Ext_t17
  have Q_723 := A_692.ext Ext_t17
  have Q_724 := Q_702.ext Ext_t17
  have Q_725 := Q_703.ext Ext_t17
  have Q_726 := Q_704.ext Ext_t17
  have Q_727 := Q_705.ext Ext_t17
  have Q_728 := Q_706.ext Ext_t17
  have Q_729 := Q_707.ext Ext_t17
  have Q_730 := Q_708.ext Ext_t17
  have Q_731 := Q_709.ext Ext_t17
  refine Own.aastore H_712 (pc := 84) 1 d1_84 Q_723 (Ins.of_exa Exa_t17 (hw _ (List.mem_of_getElem? (i := 20) rfl))) ge_sc rfl (by simp) (fun T_733 h_734 H_732 W_735 A_736 => ?_)
  have E_737 := E_715.wr W_735
  have F_738 := F_716.other W_735 (Or.inl (show (a : Nat) ≠ sc by omega))
  have F_739 := F_717.other W_735 (Or.inl (show (a : Nat) ≠ sc by omega))
  have F_740 := F_718.other W_735 (Or.inl (show (a : Nat) ≠ sc by omega))
  have F_741 := F_719.other W_735 (Or.inl (show (a : Nat) ≠ sc by omega))
  have Q_742 := Q_720.wr W_735 ge_sc
  have Q_743 := Q_721.other W_735 (by omega)
  have Q_744 := Q_722.other W_735 (by omega)
  have Q_746 := Q_724.other W_735 (by omega)
  have Q_747 := Q_725.other W_735 (by omega)
  have Q_748 := Q_726.other W_735 (by omega)
  have Q_749 := Q_727.other W_735 (by omega)
  have Q_750 := Q_728.other W_735 (by omega)
  have Q_751 := Q_729.other W_735 (by omega)
  have Q_752 := Q_730.other W_735 (by omega)
  have Q_753 := Q_731.other W_735 (by omega)
  refine Own.iinc_c H_732 (pc := 85) (2) #[.val (.ref a), .val (.int n), .val (.int (2 : Int32))] d1_85 rfl (by decide) rfl ?_
  refine Own.goto H_732 (pc := 88) 70 d1_88 (by decide) (by decide) ?_
  refine Own.iload_n H_732 (pc := 70) d1_70 rfl ?_
  refine Own.bipush H_732 (pc := 71) (16) d1_71 rfl ?_
  refine Own.icmp_ge H_732 (pc := 73) 91 d1_73 (by decide) (by decide) (fun hc => absurd hc (by decide)) (fun _ => ?_)
  refine Own.aload_n H_732 (pc := 76) d1_76 rfl rfl ?_
  refine Own.getfield H_732 (pc := 77) d1_77 (hw _ (List.mem_of_getElem? (i := 15) rfl)) F_740 (fun T_755 H_754 => ?_)
  refine Own.iload_n H_754 (pc := 80) d1_80 rfl ?_
  refine Own.iload_n H_754 (pc := 81) d1_81 rfl ?_
  refine Own.newarrayE H_754 (pc := 82) (i := nn) (ad := "[J") 4 d1_82 (hw _ (List.mem_of_getElem? (i := 19) rfl)) hn (by decide) (by decide) h4 (by decide) (by decide) (by decide) (fun T_757 h_758 t18 eq_t18 ge_t18 H_756 Ext_t18 Ary_t18 Exa_t18 => ?_)
  have E_759 := E_737.ext Ext_t18
  have F_760 := F_738.ext Ext_t18
  have F_761 := F_739.ext Ext_t18
  have F_762 := F_740.ext Ext_t18
  have F_763 := F_741.ext Ext_t18
  have Q_764 := Q_742.ext Ext_t18
  have Q_765 := Q_743.ext Ext_t18
  have Q_766 := Q_744.ext Ext_t18
  have Q_767 := A_736.ext Ext_t18
  have Q_768 := Q_746.ext Ext_t18
  have Q_769 := Q_747.ext Ext_t18
  have Q_770 := Q_748.ext Ext_t18
  have Q_771 := Q_749.ext Ext_t18
  have Q_772 := Q_750.ext Ext_t18
  have Q_773 := Q_751.ext Ext_t18
  have Q_774 := Q_752.ext Ext_t18
  have Q_775 := Q_753.ext Ext_t18
  refine Own.aastore H_756 (pc := 84) 2 d1_84 Q_767 (Ins.of_exa Exa_t18 (hw _ (List.mem_of_getElem? (i := 20) rfl))) ge_sc rfl (by simp) (fun T_777 h_778 H_776 W_779 A_780 => ?_)
  have E_781 := E_759.wr W_779
  have F_782 := F_760.other W_779 (Or.inl (show (a : Nat) ≠ sc by omega))
  have F_783 := F_761.other W_779 (Or.inl (show (a : Nat) ≠ sc by omega))
  have F_784 := F_762.other W_779 (Or.inl (show (a : Nat) ≠ sc by omega))
  have F_785 := F_763.other W_779 (Or.inl (show (a : Nat) ≠ sc by omega))
  have Q_786 := Q_764.wr W_779 ge_sc
  have Q_787 := Q_765.other W_779 (by omega)
  have Q_788 := Q_766.other W_779 (by omega)
  have Q_790 := Q_768.other W_779 (by omega)
  have Q_791 := Q_769.other W_779 (by omega)
  have Q_792 := Q_770.other W_779 (by omega)
  have Q_793 := Q_771.other W_779 (by omega)
  have Q_794 := Q_772.other W_779 (by omega)
  have Q_795 := Q_773.other W_779 (by omega)
  have Q_796 := Q_774.other W_779 (by omega)
  have Q_797 := Q_775.other W_779 (by omega)
  refine Own.iinc_c H_776 (pc := 85) (3) #[.val (.ref a), .val (.int n), .val (.int (3 : Int32))] d1_85 rfl (by decide) rfl ?_
  refine Own.goto H_776 (pc := 88) 70 d1_88 (by decide) (by decide) ?_
  refine Own.iload_n H_776 (pc := 70) d1_70 rfl ?_
  refine Own.bipush H_776 (pc := 71) (16) d1_71 rfl ?_
  refine Own.icmp_ge H_776 (pc := 73) 91 d1_73 (by decide) (by decide) (fun hc => absurd hc (by decide)) (fun _ => ?_)
  refine Own.aload_n H_776 (pc := 76) d1_76 rfl rfl ?_
  refine Own.getfield H_776 (pc := 77) d1_77 (hw _ (List.mem_of_getElem? (i := 15) rfl)) F_784 (fun T_799 H_798 => ?_)
  refine Own.iload_n H_798 (pc := 80) d1_80 rfl ?_
  refine Own.iload_n H_798 (pc := 81) d1_81 rfl ?_
  refine Own.newarrayE H_798 (pc := 82) (i := nn) (ad := "[J") 4 d1_82 (hw _ (List.mem_of_getElem? (i := 19) rfl)) hn (by decide) (by decide) h4 (by decide) (by decide) (by decide) (fun T_801 h_802 t19 eq_t19 ge_t19 H_800 Ext_t19 Ary_t19 Exa_t19 => ?_)
  have E_803 := E_781.ext Ext_t19
  have F_804 := F_782.ext Ext_t19
  have F_805 := F_783.ext Ext_t19
  have F_806 := F_784.ext Ext_t19
  have F_807 := F_785.ext Ext_t19
  have Q_808 := Q_786.ext Ext_t19
  have Q_809 := Q_787.ext Ext_t19
  have Q_810 := Q_788.ext Ext_t19
  have Q_811 := A_780.ext Ext_t19
  have Q_812 := Q_790.ext Ext_t19
  have Q_813 := Q_791.ext Ext_t19
  have Q_814 := Q_792.ext Ext_t19
  have Q_815 := Q_793.ext Ext_t19
  have Q_816 := Q_794.ext Ext_t19
  have Q_817 := Q_795.ext Ext_t19
  have Q_818 := Q_796.ext Ext_t19
  have Q_819 := Q_797.ext Ext_t19
  refine Own.aastore H_800 (pc := 84) 3 d1_84 Q_811 (Ins.of_exa Exa_t19 (hw _ (List.mem_of_getElem? (i := 20) rfl))) ge_sc rfl (by simp) (fun T_821 h_822 H_820 W_823 A_824 => ?_)
  have E_825 := E_803.wr W_823
  have F_826 := F_804.other W_823 (Or.inl (show (a : Nat) ≠ sc by omega))
  have F_827 := F_805.other W_823 (Or.inl (show (a : Nat) ≠ sc by omega))
  have F_828 := F_806.other W_823 (Or.inl (show (a : Nat) ≠ sc by omega))
  have F_829 := F_807.other W_823 (Or.inl (show (a : Nat) ≠ sc by omega))
  have Q_830 := Q_808.wr W_823 ge_sc
  have Q_831 := Q_809.other W_823 (by omega)
  have Q_832 := Q_810.other W_823 (by omega)
  have Q_834 := Q_812.other W_823 (by omega)
  have Q_835 := Q_813.other W_823 (by omega)
  have Q_836 := Q_814.other W_823 (by omega)
  have Q_837 := Q_815.other W_823 (by omega)
  have Q_838 := Q_816.other W_823 (by omega)
  have Q_839 := Q_817.other W_823 (by omega)
  have Q_840 := Q_818.other W_823 (by omega)
  have Q_841 := Q_819.other W_823 (by omega)
  refine Own.iinc_c H_820 (pc := 85) (4) #[.val (.ref a), .val (.int n), .val (.int (4 : Int32))] d1_85 rfl (by decide) rfl ?_
  refine Own.goto H_820 (pc := 88) 70 d1_88 (by decide) (by decide) ?_
  refine Own.iload_n H_820 (pc := 70) d1_70 rfl ?_
  refine Own.bipush H_820 (pc := 71) (16) d1_71 rfl ?_
  refine Own.icmp_ge H_820 (pc := 73) 91 d1_73 (by decide) (by decide) (fun hc => absurd hc (by decide)) (fun _ => ?_)
  refine Own.aload_n H_820 (pc := 76) d1_76 rfl rfl ?_
  refine Own.getfield H_820 (pc := 77) d1_77 (hw _ (List.mem_of_getElem? (i := 15) rfl)) F_828 (fun T_843 H_842 => ?_)
  refine Own.iload_n H_842 (pc := 80) d1_80 rfl ?_
  refine Own.iload_n H_842 (pc := 81) d1_81 rfl ?_
  refine Own.newarrayE H_842 (pc := 82) (i := nn) (ad := "[J") 4 d1_82 (hw _ (List.mem_of_getElem? (i := 19) rfl)) hn (by decide) (by decide) h4 (by decide) (by decide) (by decide) (fun T_845 h_846 t20 eq_t20 ge_t20 H_844 Ext_t20 Ary_t20 Exa_t20 => ?_)
  have E_847 := E_825.ext Ext_t20
  have F_848 := F_826.ext Ext_t20
  have F_849 := F_827.ext Ext_t20
  have F_850 := F_828.ext Ext_t20
  have F_851 := F_829.ext Ext_t20
  have Q_852 := Q_830.ext Ext_t20
  have Q_853 := Q_831.ext Ext_t20
  have Q_854 := Q_832.ext Ext_t20
  have Q_855 := A_824.ext Ext_t20
  have Q_856 := Q_834.ext Ext_t20
  have Q_857 := Q_835.ext Ext_t20
  have Q_858 := Q_836.ext Ext_t20
  have Q_859 := Q_837.ext Ext_t20
  have Q_860 := Q_838.ext Ext_t20
  have Q_861 := Q_839.ext Ext_t20
  have Q_862 := Q_840.ext Ext_t20
  have Q_863 := Q_841.ext Ext_t20
  refine Own.aastore H_844 (pc := 84) 4 d1_84 Q_855 (Ins.of_exa Exa_t20 (hw _ (List.mem_of_getElem? (i := 20) rfl))) ge_sc rfl (by simp) (fun T_865 h_866 H_864 W_867 A_868 => ?_)
  have E_869 := E_847.wr W_867
  have F_870 := F_848.other W_867 (Or.inl (show (a : Nat) ≠ sc by omega))
  have F_871 := F_849.other W_867 (Or.inl (show (a : Nat) ≠ sc by omega))
  have F_872 := F_850.other W_867 (Or.inl (show (a : Nat) ≠ sc by omega))
  have F_873 := F_851.other W_867 (Or.inl (show (a : Nat) ≠ sc by omega))
  have Q_874 := Q_852.wr W_867 ge_sc
  have Q_875 := Q_853.other W_867 (by omega)
  have Q_876 := Q_854.other W_867 (by omega)
  have Q_878 := Q_856.other W_867 (by omega)
  have Q_879 := Q_857.other W_867 (by omega)
  have Q_880 := Q_858.other W_867 (by omega)
  have Q_881 := Q_859.other W_867 (by omega)
  have Q_882 := Q_860.other W_867 (by omega)
  have Q_883 := Q_861.other W_867 (by omega)
  have Q_884 := Q_862.other W_867 (by omega)
  have Q_885 := Q_863.other W_867 (by omega)
  refine Own.iinc_c H_864 (pc := 85) (5) #[.val (.ref a), .val (.int n), .val (.int (5 : Int32))] d1_85 rfl (by decide) rfl ?_
  refine Own.goto H_864 (pc := 88) 70 d1_88 (by decide) (by decide) ?_
  refine Own.iload_n H_864 (pc := 70) d1_70 rfl ?_
  refine Own.bipush H_864 (pc := 71) (16) d1_71 rfl ?_
  refine Own.icmp_ge H_864 (pc := 73) 91 d1_73 (by decide) (by decide) (fun hc => absurd hc (by decide)) (fun _ => ?_)
  refine Own.aload_n H_864 (pc := 76) d1_76 rfl rfl ?_
  refine Own.getfield H_864 (pc := 77) d1_77 (hw _ (List.mem_of_getElem? (i := 15) rfl)) F_872 (fun T_887 H_886 => ?_)
  refine Own.iload_n H_886 (pc := 80) d1_80 rfl ?_
  refine Own.iload_n H_886 (pc := 81) d1_81 rfl ?_
  refine Own.newarrayE H_886 (pc := 82) (i := nn) (ad := "[J") 4 d1_82 (hw _ (List.mem_of_getElem? (i := 19) rfl)) hn (by decide) (by decide) h4 (by decide) (by decide) (by decide) (fun T_889 h_890 t21 eq_t21 ge_t21 H_888 Ext_t21 Ary_t21 Exa_t21 => ?_)
  have E_891 := E_869.ext Ext_t21
  have F_892 := F_870.ext Ext_t21
  have F_893 := F_871.ext Ext_t21
  have F_894 := F_872.ext Ext_t21
  have F_895 := F_873.ext Ext_t21
  have Q_896 := Q_874.ext Ext_t21
  have Q_897 := Q_875.ext Ext_t21
  have Q_898 := Q_876.ext Ext_t21
  have Q_899 := A_868.ext Ext_t21
  have Q_900 := Q_878.ext Ext_t21
  have Q_901 := Q_879.ext Ext_t21
  have Q_902 := Q_880.ext Ext_t21
  have Q_903 := Q_881.ext Ext_t21
  have Q_904 := Q_882.ext Ext_t21
  have Q_905 := Q_883.ext Ext_t21
  have Q_906 := Q_884.ext Ext_t21
  have Q_907 := Q_885.ext Ext_t21
  refine Own.aastore H_888 (pc := 84) 5 d1_84 Q_899 (Ins.of_exa Exa_t21 (hw _ (List.mem_of_getElem? (i := 20) rfl))) ge_sc rfl (by simp) (fun T_909 h_910 H_908 W_911 A_912 => ?_)
  have E_913 := E_891.wr W_911
  have F_914 := F_892.other W_911 (Or.inl (show (a : Nat) ≠ sc by omega))
  have F_915 := F_893.other W_911 (Or.inl (show (a : Nat) ≠ sc by omega))
  have F_916 := F_894.other W_911 (Or.inl (show (a : Nat) ≠ sc by omega))
  have F_917 := F_895.other W_911 (Or.inl (show (a : Nat) ≠ sc by omega))
  have Q_918 := Q_896.wr W_911 ge_sc
  have Q_919 := Q_897.other W_911 (by omega)
  have Q_920 := Q_898.other W_911 (by omega)
  have Q_922 := Q_900.other W_911 (by omega)
  have Q_923 := Q_901.other W_911 (by omega)
  have Q_924 := Q_902.other W_911 (by omega)
  have Q_925 := Q_903.other W_911 (by omega)
  have Q_926 := Q_904.other W_911 (by omega)
  have Q_927 := Q_905.other W_911 (by omega)
  have Q_928 := Q_906.other W_911 (by omega)
  have Q_929 := Q_907.other W_911 (by omega)
  refine Own.iinc_c H_908 (pc := 85) (6) #[.val (.ref a), .val (.int n), .val (.int (6 : Int32))] d1_85 rfl (by decide) rfl ?_
  refine Own.goto H_908 (pc := 88) 70 d1_88 (by decide) (by decide) ?_
  refine Own.iload_n H_908 (pc := 70) d1_70 rfl ?_
  refine Own.bipush H_908 (pc := 71) (16) d1_71 rfl ?_
  refine Own.icmp_ge H_908 (pc := 73) 91 d1_73 (by decide) (by decide) (fun hc => absurd hc (by decide)) (fun _ => ?_)
  refine Own.aload_n H_908 (pc := 76) d1_76 rfl rfl ?_
  refine Own.getfield H_908 (pc := 77) d1_77 (hw _ (List.mem_of_getElem? (i := 15) rfl)) F_916 (fun T_931 H_930 => ?_)
  refine Own.iload_n H_930 (pc := 80) d1_80 rfl ?_
  refine Own.iload_n H_930 (pc := 81) d1_81 rfl ?_
  refine Own.newarrayE H_930 (pc := 82) (i := nn) (ad := "[J") 4 d1_82 (hw _ (List.mem_of_getElem? (i := 19) rfl)) hn (by decide) (by decide) h4 (by decide) (by decide) (by decide) (fun T_933 h_934 t22 eq_t22 ge_t22 H_932 Ext_t22 Ary_t22 Exa_t22 => ?_)
  have E_935 := E_913.ext Ext_t22
  have F_936 := F_914.ext Ext_t22
  have F_937 := F_915.ext Ext_t22
  have F_938 := F_916.ext Ext_t22
  have F_939 := F_917.ext Ext_t22
  have Q_940 := Q_918.ext Ext_t22
  have Q_941 := Q_919.ext Ext_t22
  have Q_942 := Q_920.ext Ext_t22
  have Q_943 := A_912.ext Ext_t22
  have Q_944 := Q_922.ext Ext_t22
  have Q_945 := Q_923.ext Ext_t22
  have Q_946 := Q_924.ext Ext_t22
  have Q_947 := Q_925.ext Ext_t22
  have Q_948 := Q_926.ext Ext_t22
  have Q_949 := Q_927.ext Ext_t22
  have Q_950 := Q_928.ext Ext_t22
  have Q_951 := Q_929.ext Ext_t22
  refine Own.aastore H_932 (pc := 84) 6 d1_84 Q_943 (Ins.of_exa Exa_t22 (hw _ (List.mem_of_getElem? (i := 20) rfl))) ge_sc rfl (by simp) (fun T_953 h_954 H_952 W_955 A_956 => ?_)
  have E_957 := E_935.wr W_955
  have F_958 := F_936.other W_955 (Or.inl (show (a : Nat) ≠ sc by omega))
  have F_959 := F_937.other W_955 (Or.inl (show (a : Nat) ≠ sc by omega))
  have F_960 := F_938.other W_955 (Or.inl (show (a : Nat) ≠ sc by omega))
  have F_961 := F_939.other W_955 (Or.inl (show (a : Nat) ≠ sc by omega))
  have Q_962 := Q_940.wr W_955 ge_sc
  have Q_963 := Q_941.other W_955 (by omega)
  have Q_964 := Q_942.other W_955 (by omega)
  have Q_966 := Q_944.other W_955 (by omega)
  have Q_967 := Q_945.other W_955 (by omega)
  have Q_968 := Q_946.other W_955 (by omega)
  have Q_969 := Q_947.other W_955 (by omega)
  have Q_970 := Q_948.other W_955 (by omega)
  have Q_971 := Q_949.other W_955 (by omega)
  have Q_972 := Q_950.other W_955 (by omega)
  have Q_973 := Q_951.other W_955 (by omega)
  refine Own.iinc_c H_952 (pc := 85) (7) #[.val (.ref a), .val (.int n), .val (.int (7 : Int32))] d1_85 rfl (by decide) rfl ?_
  refine Own.goto H_952 (pc := 88) 70 d1_88 (by decide) (by decide) ?_
  refine Own.iload_n H_952 (pc := 70) d1_70 rfl ?_
  refine Own.bipush H_952 (pc := 71) (16) d1_71 rfl ?_
  refine Own.icmp_ge H_952 (pc := 73) 91 d1_73 (by decide) (by decide) (fun hc => absurd hc (by decide)) (fun _ => ?_)
  refine Own.aload_n H_952 (pc := 76) d1_76 rfl rfl ?_
  refine Own.getfield H_952 (pc := 77) d1_77 (hw _ (List.mem_of_getElem? (i := 15) rfl)) F_960 (fun T_975 H_974 => ?_)
  refine Own.iload_n H_974 (pc := 80) d1_80 rfl ?_
  refine Own.iload_n H_974 (pc := 81) d1_81 rfl ?_
  refine Own.newarrayE H_974 (pc := 82) (i := nn) (ad := "[J") 4 d1_82 (hw _ (List.mem_of_getElem? (i := 19) rfl)) hn (by decide) (by decide) h4 (by decide) (by decide) (by decide) (fun T_977 h_978 t23 eq_t23 ge_t23 H_976 Ext_t23 Ary_t23 Exa_t23 => ?_)
  have E_979 := E_957.ext Ext_t23
  have F_980 := F_958.ext Ext_t23
  have F_981 := F_959.ext Ext_t23
  have F_982 := F_960.ext Ext_t23
  have F_983 := F_961.ext Ext_t23
  have Q_984 := Q_962.ext Ext_t23
  have Q_985 := Q_963.ext Ext_t23
  have Q_986 := Q_964.ext Ext_t23
  have Q_987 := A_956.ext Ext_t23
  have Q_988 := Q_966.ext Ext_t23
  have Q_989 := Q_967.ext Ext_t23
  have Q_990 := Q_968.ext Ext_t23
  have Q_991 := Q_969.ext Ext_t23
  have Q_992 := Q_970.ext Ext_t23
  have Q_993 := Q_971.ext Ext_t23
  have Q_994 := Q_972.ext Ext_t23
  have Q_995 := Q_973.ext Ext_t23
  refine Own.aastore H_976 (pc := 84) 7 d1_84 Q_987 (Ins.of_exa Exa_t23 (hw _ (List.mem_of_getElem? (i := 20) rfl))) ge_sc rfl (by simp) (fun T_997 h_998 H_996 W_999 A_1000 => ?_)
  have E_1001 := E_979.wr W_999
  have F_1002 := F_980.other W_999 (Or.inl (show (a : Nat) ≠ sc by omega))
  have F_1003 := F_981.other W_999 (Or.inl (show (a : Nat) ≠ sc by omega))
  have F_1004 := F_982.other W_999 (Or.inl (show (a : Nat) ≠ sc by omega))
  have F_1005 := F_983.other W_999 (Or.inl (show (a : Nat) ≠ sc by omega))
  have Q_1006 := Q_984.wr W_999 ge_sc
  have Q_1007 := Q_985.other W_999 (by omega)
  have Q_1008 := Q_986.other W_999 (by omega)
  have Q_1010 := Q_988.other W_999 (by omega)
  have Q_1011 := Q_989.other W_999 (by omega)
  have Q_1012 := Q_990.other W_999 (by omega)
  have Q_1013 := Q_991.other W_999 (by omega)
  have Q_1014 := Q_992.other W_999 (by omega)
  have Q_1015 := Q_993.other W_999 (by omega)
  have Q_1016 := Q_994.other W_999 (by omega)
  have Q_1017 := Q_995.other W_999 (by omega)
  refine Own.iinc_c H_996 (pc := 85) (8) #[.val (.ref a), .val (.int n), .val (.int (8 : Int32))] d1_85 rfl (by decide) rfl ?_
  refine Own.goto H_996 (pc := 88) 70 d1_88 (by decide) (by decide) ?_
  refine Own.iload_n H_996 (pc := 70) d1_70 rfl ?_
  refine Own.bipush H_996 (pc := 71) (16) d1_71 rfl ?_
  refine Own.icmp_ge H_996 (pc := 73) 91 d1_73 (by decide) (by decide) (fun hc => absurd hc (by decide)) (fun _ => ?_)
  refine Own.aload_n H_996 (pc := 76) d1_76 rfl rfl ?_
  refine Own.getfield H_996 (pc := 77) d1_77 (hw _ (List.mem_of_getElem? (i := 15) rfl)) F_1004 (fun T_1019 H_1018 => ?_)
  refine Own.iload_n H_1018 (pc := 80) d1_80 rfl ?_
  refine Own.iload_n H_1018 (pc := 81) d1_81 rfl ?_
  refine Own.newarrayE H_1018 (pc := 82) (i := nn) (ad := "[J") 4 d1_82 (hw _ (List.mem_of_getElem? (i := 19) rfl)) hn (by decide) (by decide) h4 (by decide) (by decide) (by decide) (fun T_1021 h_1022 t24 eq_t24 ge_t24 H_1020 Ext_t24 Ary_t24 Exa_t24 => ?_)
  have E_1023 := E_1001.ext Ext_t24
  have F_1024 := F_1002.ext Ext_t24
  have F_1025 := F_1003.ext Ext_t24
  have F_1026 := F_1004.ext Ext_t24
  have F_1027 := F_1005.ext Ext_t24
  have Q_1028 := Q_1006.ext Ext_t24
  have Q_1029 := Q_1007.ext Ext_t24
  have Q_1030 := Q_1008.ext Ext_t24
  have Q_1031 := A_1000.ext Ext_t24
  have Q_1032 := Q_1010.ext Ext_t24
  have Q_1033 := Q_1011.ext Ext_t24
  have Q_1034 := Q_1012.ext Ext_t24
  have Q_1035 := Q_1013.ext Ext_t24
  have Q_1036 := Q_1014.ext Ext_t24
  have Q_1037 := Q_1015.ext Ext_t24
  have Q_1038 := Q_1016.ext Ext_t24
  have Q_1039 := Q_1017.ext Ext_t24
  refine Own.aastore H_1020 (pc := 84) 8 d1_84 Q_1031 (Ins.of_exa Exa_t24 (hw _ (List.mem_of_getElem? (i := 20) rfl))) ge_sc rfl (by simp) (fun T_1041 h_1042 H_1040 W_1043 A_1044 => ?_)
  have E_1045 := E_1023.wr W_1043
  have F_1046 := F_1024.other W_1043 (Or.inl (show (a : Nat) ≠ sc by omega))
  have F_1047 := F_1025.other W_1043 (Or.inl (show (a : Nat) ≠ sc by omega))
  have F_1048 := F_1026.other W_1043 (Or.inl (show (a : Nat) ≠ sc by omega))
  have F_1049 := F_1027.other W_1043 (Or.inl (show (a : Nat) ≠ sc by omega))
  have Q_1050 := Q_1028.wr W_1043 ge_sc
  have Q_1051 := Q_1029.other W_1043 (by omega)
  have Q_1052 := Q_1030.other W_1043 (by omega)
  have Q_1054 := Q_1032.other W_1043 (by omega)
  have Q_1055 := Q_1033.other W_1043 (by omega)
  have Q_1056 := Q_1034.other W_1043 (by omega)
  have Q_1057 := Q_1035.other W_1043 (by omega)
  have Q_1058 := Q_1036.other W_1043 (by omega)
  have Q_1059 := Q_1037.other W_1043 (by omega)
  have Q_1060 := Q_1038.other W_1043 (by omega)
  have Q_1061 := Q_1039.other W_1043 (by omega)
  refine Own.iinc_c H_1040 (pc := 85) (9) #[.val (.ref a), .val (.int n), .val (.int (9 : Int32))] d1_85 rfl (by decide) rfl ?_
  refine Own.goto H_1040 (pc := 88) 70 d1_88 (by decide) (by decide) ?_
  refine Own.iload_n H_1040 (pc := 70) d1_70 rfl ?_
  refine Own.bipush H_1040 (pc := 71) (16) d1_71 rfl ?_
  refine Own.icmp_ge H_1040 (pc := 73) 91 d1_73 (by decide) (by decide) (fun hc => absurd hc (by decide)) (fun _ => ?_)
  refine Own.aload_n H_1040 (pc := 76) d1_76 rfl rfl ?_
  refine Own.getfield H_1040 (pc := 77) d1_77 (hw _ (List.mem_of_getElem? (i := 15) rfl)) F_1048 (fun T_1063 H_1062 => ?_)
  refine Own.iload_n H_1062 (pc := 80) d1_80 rfl ?_
  refine Own.iload_n H_1062 (pc := 81) d1_81 rfl ?_
  refine Own.newarrayE H_1062 (pc := 82) (i := nn) (ad := "[J") 4 d1_82 (hw _ (List.mem_of_getElem? (i := 19) rfl)) hn (by decide) (by decide) h4 (by decide) (by decide) (by decide) (fun T_1065 h_1066 t25 eq_t25 ge_t25 H_1064 Ext_t25 Ary_t25 Exa_t25 => ?_)
  have E_1067 := E_1045.ext Ext_t25
  have F_1068 := F_1046.ext Ext_t25
  have F_1069 := F_1047.ext Ext_t25
  have F_1070 := F_1048.ext Ext_t25
  have F_1071 := F_1049.ext Ext_t25
  have Q_1072 := Q_1050.ext Ext_t25
  have Q_1073 := Q_1051.ext Ext_t25
  have Q_1074 := Q_1052.ext Ext_t25
  have Q_1075 := A_1044.ext Ext_t25
  have Q_1076 := Q_1054.ext Ext_t25
  have Q_1077 := Q_1055.ext Ext_t25
  have Q_1078 := Q_1056.ext Ext_t25
  have Q_1079 := Q_1057.ext Ext_t25
  have Q_1080 := Q_1058.ext Ext_t25
  have Q_1081 := Q_1059.ext Ext_t25
  have Q_1082 := Q_1060.ext Ext_t25
  have Q_1083 := Q_1061.ext Ext_t25
  refine Own.aastore H_1064 (pc := 84) 9 d1_84 Q_1075 (Ins.of_exa Exa_t25 (hw _ (List.mem_of_getElem? (i := 20) rfl))) ge_sc rfl (by simp) (fun T_1085 h_1086 H_1084 W_1087 A_1088 => ?_)
  have E_1089 := E_1067.wr W_1087
  have F_1090 := F_1068.other W_1087 (Or.inl (show (a : Nat) ≠ sc by omega))
  have F_1091 := F_1069.other W_1087 (Or.inl (show (a : Nat) ≠ sc by omega))
  have F_1092 := F_1070.other W_1087 (Or.inl (show (a : Nat) ≠ sc by omega))
  have F_1093 := F_1071.other W_1087 (Or.inl (show (a : Nat) ≠ sc by omega))
  have Q_1094 := Q_1072.wr W_1087 ge_sc
  have Q_1095 := Q_1073.other W_1087 (by omega)
  have Q_1096 := Q_1074.other W_1087 (by omega)
  have Q_1098 := Q_1076.other W_1087 (by omega)
  have Q_1099 := Q_1077.other W_1087 (by omega)
  have Q_1100 := Q_1078.other W_1087 (by omega)
  have Q_1101 := Q_1079.other W_1087 (by omega)
  have Q_1102 := Q_1080.other W_1087 (by omega)
  have Q_1103 := Q_1081.other W_1087 (by omega)
  have Q_1104 := Q_1082.other W_1087 (by omega)
  have Q_1105 := Q_1083.other W_1087 (by omega)
  refine Own.iinc_c H_1084 (pc := 85) (10) #[.val (.ref a), .val (.int n), .val (.int (10 : Int32))] d1_85 rfl (by decide) rfl ?_
  refine Own.goto H_1084 (pc := 88) 70 d1_88 (by decide) (by decide) ?_
  refine Own.iload_n H_1084 (pc := 70) d1_70 rfl ?_
  refine Own.bipush H_1084 (pc := 71) (16) d1_71 rfl ?_
  refine Own.icmp_ge H_1084 (pc := 73) 91 d1_73 (by decide) (by decide) (fun hc => absurd hc (by decide)) (fun _ => ?_)
  refine Own.aload_n H_1084 (pc := 76) d1_76 rfl rfl ?_
  refine Own.getfield H_1084 (pc := 77) d1_77 (hw _ (List.mem_of_getElem? (i := 15) rfl)) F_1092 (fun T_1107 H_1106 => ?_)
  refine Own.iload_n H_1106 (pc := 80) d1_80 rfl ?_
  refine Own.iload_n H_1106 (pc := 81) d1_81 rfl ?_
  refine Own.newarrayE H_1106 (pc := 82) (i := nn) (ad := "[J") 4 d1_82 (hw _ (List.mem_of_getElem? (i := 19) rfl)) hn (by decide) (by decide) h4 (by decide) (by decide) (by decide) (fun T_1109 h_1110 t26 eq_t26 ge_t26 H_1108 Ext_t26 Ary_t26 Exa_t26 => ?_)
  have E_1111 := E_1089.ext Ext_t26
  have F_1112 := F_1090.ext Ext_t26
  have F_1113 := F_1091.ext Ext_t26
  have F_1114 := F_1092.ext Ext_t26
  have F_1115 := F_1093.ext Ext_t26
  have Q_1116 := Q_1094.ext Ext_t26
  have Q_1117 := Q_1095.ext Ext_t26
  have Q_1118 := Q_1096.ext Ext_t26
  have Q_1119 := A_1088.ext Ext_t26
  have Q_1120 := Q_1098.ext Ext_t26
  have Q_1121 := Q_1099.ext Ext_t26
  have Q_1122 := Q_1100.ext Ext_t26
  have Q_1123 := Q_1101.ext Ext_t26
  have Q_1124 := Q_1102.ext Ext_t26
  have Q_1125 := Q_1103.ext Ext_t26
  have Q_1126 := Q_1104.ext Ext_t26
  have Q_1127 := Q_1105.ext Ext_t26
  refine Own.aastore H_1108 (pc := 84) 10 d1_84 Q_1119 (Ins.of_exa Exa_t26 (hw _ (List.mem_of_getElem? (i := 20) rfl))) ge_sc rfl (by simp) (fun T_1129 h_1130 H_1128 W_1131 A_1132 => ?_)
  have E_1133 := E_1111.wr W_1131
  have F_1134 := F_1112.other W_1131 (Or.inl (show (a : Nat) ≠ sc by omega))
  have F_1135 := F_1113.other W_1131 (Or.inl (show (a : Nat) ≠ sc by omega))
  have F_1136 := F_1114.other W_1131 (Or.inl (show (a : Nat) ≠ sc by omega))
  have F_1137 := F_1115.other W_1131 (Or.inl (show (a : Nat) ≠ sc by omega))
  have Q_1138 := Q_1116.wr W_1131 ge_sc
  have Q_1139 := Q_1117.other W_1131 (by omega)
  have Q_1140 := Q_1118.other W_1131 (by omega)
  have Q_1142 := Q_1120.other W_1131 (by omega)
  have Q_1143 := Q_1121.other W_1131 (by omega)
  have Q_1144 := Q_1122.other W_1131 (by omega)
  have Q_1145 := Q_1123.other W_1131 (by omega)
  have Q_1146 := Q_1124.other W_1131 (by omega)
  have Q_1147 := Q_1125.other W_1131 (by omega)
  have Q_1148 := Q_1126.other W_1131 (by omega)
  have Q_1149 := Q_1127.other W_1131 (by omega)
  refine Own.iinc_c H_1128 (pc := 85) (11) #[.val (.ref a), .val (.int n), .val (.int (11 : Int32))] d1_85 rfl (by decide) rfl ?_
  refine Own.goto H_1128 (pc := 88) 70 d1_88 (by decide) (by decide) ?_
  refine Own.iload_n H_1128 (pc := 70) d1_70 rfl ?_
  refine Own.bipush H_1128 (pc := 71) (16) d1_71 rfl ?_
  refine Own.icmp_ge H_1128 (pc := 73) 91 d1_73 (by decide) (by decide) (fun hc => absurd hc (by decide)) (fun _ => ?_)
  refine Own.aload_n H_1128 (pc := 76) d1_76 rfl rfl ?_
  refine Own.getfield H_1128 (pc := 77) d1_77 (hw _ (List.mem_of_getElem? (i := 15) rfl)) F_1136 (fun T_1151 H_1150 => ?_)
  refine Own.iload_n H_1150 (pc := 80) d1_80 rfl ?_
  refine Own.iload_n H_1150 (pc := 81) d1_81 rfl ?_
  refine Own.newarrayE H_1150 (pc := 82) (i := nn) (ad := "[J") 4 d1_82 (hw _ (List.mem_of_getElem? (i := 19) rfl)) hn (by decide) (by decide) h4 (by decide) (by decide) (by decide) (fun T_1153 h_1154 t27 eq_t27 ge_t27 H_1152 Ext_t27 Ary_t27 Exa_t27 => ?_)
  have E_1155 := E_1133.ext Ext_t27
  have F_1156 := F_1134.ext Ext_t27
  have F_1157 := F_1135.ext Ext_t27
  have F_1158 := F_1136.ext Ext_t27
  have F_1159 := F_1137.ext Ext_t27
  have Q_1160 := Q_1138.ext Ext_t27
  have Q_1161 := Q_1139.ext Ext_t27
  have Q_1162 := Q_1140.ext Ext_t27
  have Q_1163 := A_1132.ext Ext_t27
  have Q_1164 := Q_1142.ext Ext_t27
  have Q_1165 := Q_1143.ext Ext_t27
  have Q_1166 := Q_1144.ext Ext_t27
  have Q_1167 := Q_1145.ext Ext_t27
  have Q_1168 := Q_1146.ext Ext_t27
  have Q_1169 := Q_1147.ext Ext_t27
  have Q_1170 := Q_1148.ext Ext_t27
  have Q_1171 := Q_1149.ext Ext_t27
  refine Own.aastore H_1152 (pc := 84) 11 d1_84 Q_1163 (Ins.of_exa Exa_t27 (hw _ (List.mem_of_getElem? (i := 20) rfl))) ge_sc rfl (by simp) (fun T_1173 h_1174 H_1172 W_1175 A_1176 => ?_)
  have E_1177 := E_1155.wr W_1175
  have F_1178 := F_1156.other W_1175 (Or.inl (show (a : Nat) ≠ sc by omega))
  have F_1179 := F_1157.other W_1175 (Or.inl (show (a : Nat) ≠ sc by omega))
  have F_1180 := F_1158.other W_1175 (Or.inl (show (a : Nat) ≠ sc by omega))
  have F_1181 := F_1159.other W_1175 (Or.inl (show (a : Nat) ≠ sc by omega))
  have Q_1182 := Q_1160.wr W_1175 ge_sc
  have Q_1183 := Q_1161.other W_1175 (by omega)
  have Q_1184 := Q_1162.other W_1175 (by omega)
  have Q_1186 := Q_1164.other W_1175 (by omega)
  have Q_1187 := Q_1165.other W_1175 (by omega)
  have Q_1188 := Q_1166.other W_1175 (by omega)
  have Q_1189 := Q_1167.other W_1175 (by omega)
  have Q_1190 := Q_1168.other W_1175 (by omega)
  have Q_1191 := Q_1169.other W_1175 (by omega)
  have Q_1192 := Q_1170.other W_1175 (by omega)
  have Q_1193 := Q_1171.other W_1175 (by omega)
  refine Own.iinc_c H_1172 (pc := 85) (12) #[.val (.ref a), .val (.int n), .val (.int (12 : Int32))] d1_85 rfl (by decide) rfl ?_
  refine Own.goto H_1172 (pc := 88) 70 d1_88 (by decide) (by decide) ?_
  refine Own.iload_n H_1172 (pc := 70) d1_70 rfl ?_
  refine Own.bipush H_1172 (pc := 71) (16) d1_71 rfl ?_
  refine Own.icmp_ge H_1172 (pc := 73) 91 d1_73 (by decide) (by decide) (fun hc => absurd hc (by decide)) (fun _ => ?_)
  refine Own.aload_n H_1172 (pc := 76) d1_76 rfl rfl ?_
  refine Own.getfield H_1172 (pc := 77) d1_77 (hw _ (List.mem_of_getElem? (i := 15) rfl)) F_1180 (fun T_1195 H_1194 => ?_)
  refine Own.iload_n H_1194 (pc := 80) d1_80 rfl ?_
  refine Own.iload_n H_1194 (pc := 81) d1_81 rfl ?_
  refine Own.newarrayE H_1194 (pc := 82) (i := nn) (ad := "[J") 4 d1_82 (hw _ (List.mem_of_getElem? (i := 19) rfl)) hn (by decide) (by decide) h4 (by decide) (by decide) (by decide) (fun T_1197 h_1198 t28 eq_t28 ge_t28 H_1196 Ext_t28 Ary_t28 Exa_t28 => ?_)
  have E_1199 := E_1177.ext Ext_t28
  have F_1200 := F_1178.ext Ext_t28
  have F_1201 := F_1179.ext Ext_t28
  have F_1202 := F_1180.ext Ext_t28
  have F_1203 := F_1181.ext Ext_t28
  have Q_1204 := Q_1182.ext Ext_t28
  have Q_1205 := Q_1183.ext Ext_t28
  have Q_1206 := Q_1184.ext Ext_t28
  have Q_1207 := A_1176.ext Ext_t28
  have Q_1208 := Q_1186.ext Ext_t28
  have Q_1209 := Q_1187.ext Ext_t28
  have Q_1210 := Q_1188.ext Ext_t28
  have Q_1211 := Q_1189.ext Ext_t28
  have Q_1212 := Q_1190.ext Ext_t28
  have Q_1213 := Q_1191.ext Ext_t28
  have Q_1214 := Q_1192.ext Ext_t28
  have Q_1215 := Q_1193.ext Ext_t28
  refine Own.aastore H_1196 (pc := 84) 12 d1_84 Q_1207 (Ins.of_exa Exa_t28 (hw _ (List.mem_of_getElem? (i := 20) rfl))) ge_sc rfl (by simp) (fun T_1217 h_1218 H_1216 W_1219 A_1220 => ?_)
  have E_1221 := E_1199.wr W_1219
  have F_1222 := F_1200.other W_1219 (Or.inl (show (a : Nat) ≠ sc by omega))
  have F_1223 := F_1201.other W_1219 (Or.inl (show (a : Nat) ≠ sc by omega))
  have F_1224 := F_1202.other W_1219 (Or.inl (show (a : Nat) ≠ sc by omega))
  have F_1225 := F_1203.other W_1219 (Or.inl (show (a : Nat) ≠ sc by omega))
  have Q_1226 := Q_1204.wr W_1219 ge_sc
  have Q_1227 := Q_1205.other W_1219 (by omega)
  have Q_1228 := Q_1206.other W_1219 (by omega)
  have Q_1230 := Q_1208.other W_1219 (by omega)
  have Q_1231 := Q_1209.other W_1219 (by omega)
  have Q_1232 := Q_1210.other W_1219 (by omega)
  have Q_1233 := Q_1211.other W_1219 (by omega)
  have Q_1234 := Q_1212.other W_1219 (by omega)
  have Q_1235 := Q_1213.other W_1219 (by omega)
  have Q_1236 := Q_1214.other W_1219 (by omega)
  have Q_1237 := Q_1215.other W_1219 (by omega)
  refine Own.iinc_c H_1216 (pc := 85) (13) #[.val (.ref a), .val (.int n), .val (.int (13 : Int32))] d1_85 rfl (by decide) rfl ?_
  refine Own.goto H_1216 (pc := 88) 70 d1_88 (by decide) (by decide) ?_
  refine Own.iload_n H_1216 (pc := 70) d1_70 rfl ?_
  refine Own.bipush H_1216 (pc := 71) (16) d1_71 rfl ?_
  refine Own.icmp_ge H_1216 (pc := 73) 91 d1_73 (by decide) (by decide) (fun hc => absurd hc (by decide)) (fun _ => ?_)
  refine Own.aload_n H_1216 (pc := 76) d1_76 rfl rfl ?_
  refine Own.getfield H_1216 (pc := 77) d1_77 (hw _ (List.mem_of_getElem? (i := 15) rfl)) F_1224 (fun T_1239 H_1238 => ?_)
  refine Own.iload_n H_1238 (pc := 80) d1_80 rfl ?_
  refine Own.iload_n H_1238 (pc := 81) d1_81 rfl ?_
  refine Own.newarrayE H_1238 (pc := 82) (i := nn) (ad := "[J") 4 d1_82 (hw _ (List.mem_of_getElem? (i := 19) rfl)) hn (by decide) (by decide) h4 (by decide) (by decide) (by decide) (fun T_1241 h_1242 t29 eq_t29 ge_t29 H_1240 Ext_t29 Ary_t29 Exa_t29 => ?_)
  have E_1243 := E_1221.ext Ext_t29
  have F_1244 := F_1222.ext Ext_t29
  have F_1245 := F_1223.ext Ext_t29
  have F_1246 := F_1224.ext Ext_t29
  have F_1247 := F_1225.ext Ext_t29
  have Q_1248 := Q_1226.ext Ext_t29
  have Q_1249 := Q_1227.ext Ext_t29
  have Q_1250 := Q_1228.ext Ext_t29
  have Q_1251 := A_1220.ext Ext_t29
  have Q_1252 := Q_1230.ext Ext_t29
  have Q_1253 := Q_1231.ext Ext_t29
  have Q_1254 := Q_1232.ext Ext_t29
  have Q_1255 := Q_1233.ext Ext_t29
  have Q_1256 := Q_1234.ext Ext_t29
  have Q_1257 := Q_1235.ext Ext_t29
  have Q_1258 := Q_1236.ext Ext_t29
  have Q_1259 := Q_1237.ext Ext_t29
  refine Own.aastore H_1240 (pc := 84) 13 d1_84 Q_1251 (Ins.of_exa Exa_t29 (hw _ (List.mem_of_getElem? (i := 20) rfl))) ge_sc rfl (by simp) (fun T_1261 h_1262 H_1260 W_1263 A_1264 => ?_)
  have E_1265 := E_1243.wr W_1263
  have F_1266 := F_1244.other W_1263 (Or.inl (show (a : Nat) ≠ sc by omega))
  have F_1267 := F_1245.other W_1263 (Or.inl (show (a : Nat) ≠ sc by omega))
  have F_1268 := F_1246.other W_1263 (Or.inl (show (a : Nat) ≠ sc by omega))
  have F_1269 := F_1247.other W_1263 (Or.inl (show (a : Nat) ≠ sc by omega))
  have Q_1270 := Q_1248.wr W_1263 ge_sc
  have Q_1271 := Q_1249.other W_1263 (by omega)
  have Q_1272 := Q_1250.other W_1263 (by omega)
  have Q_1274 := Q_1252.other W_1263 (by omega)
  have Q_1275 := Q_1253.other W_1263 (by omega)
  have Q_1276 := Q_1254.other W_1263 (by omega)
  have Q_1277 := Q_1255.other W_1263 (by omega)
  have Q_1278 := Q_1256.other W_1263 (by omega)
  have Q_1279 := Q_1257.other W_1263 (by omega)
  have Q_1280 := Q_1258.other W_1263 (by omega)
  have Q_1281 := Q_1259.other W_1263 (by omega)
  refine Own.iinc_c H_1260 (pc := 85) (14) #[.val (.ref a), .val (.int n), .val (.int (14 : Int32))] d1_85 rfl (by decide) rfl ?_
  refine Own.goto H_1260 (pc := 88) 70 d1_88 (by decide) (by decide) ?_
  refine Own.iload_n H_1260 (pc := 70) d1_70 rfl ?_
  refine Own.bipush H_1260 (pc := 71) (16) d1_71 rfl ?_
  refine Own.icmp_ge H_1260 (pc := 73) 91 d1_73 (by decide) (by decide) (fun hc => absurd hc (by decide)) (fun _ => ?_)
  refine Own.aload_n H_1260 (pc := 76) d1_76 rfl rfl ?_
  refine Own.getfield H_1260 (pc := 77) d1_77 (hw _ (List.mem_of_getElem? (i := 15) rfl)) F_1268 (fun T_1283 H_1282 => ?_)
  refine Own.iload_n H_1282 (pc := 80) d1_80 rfl ?_
  refine Own.iload_n H_1282 (pc := 81) d1_81 rfl ?_
  refine Own.newarrayE H_1282 (pc := 82) (i := nn) (ad := "[J") 4 d1_82 (hw _ (List.mem_of_getElem? (i := 19) rfl)) hn (by decide) (by decide) h4 (by decide) (by decide) (by decide) (fun T_1285 h_1286 t30 eq_t30 ge_t30 H_1284 Ext_t30 Ary_t30 Exa_t30 => ?_)
  have E_1287 := E_1265.ext Ext_t30
  have F_1288 := F_1266.ext Ext_t30
  have F_1289 := F_1267.ext Ext_t30
  have F_1290 := F_1268.ext Ext_t30
  have F_1291 := F_1269.ext Ext_t30
  have Q_1292 := Q_1270.ext Ext_t30
  have Q_1293 := Q_1271.ext Ext_t30
  have Q_1294 := Q_1272.ext Ext_t30
  have Q_1295 := A_1264.ext Ext_t30
  have Q_1296 := Q_1274.ext Ext_t30
  have Q_1297 := Q_1275.ext Ext_t30
  have Q_1298 := Q_1276.ext Ext_t30
  have Q_1299 := Q_1277.ext Ext_t30
  have Q_1300 := Q_1278.ext Ext_t30
  have Q_1301 := Q_1279.ext Ext_t30
  have Q_1302 := Q_1280.ext Ext_t30
  have Q_1303 := Q_1281.ext Ext_t30
  refine Own.aastore H_1284 (pc := 84) 14 d1_84 Q_1295 (Ins.of_exa Exa_t30 (hw _ (List.mem_of_getElem? (i := 20) rfl))) ge_sc rfl (by simp) (fun T_1305 h_1306 H_1304 W_1307 A_1308 => ?_)
  have E_1309 := E_1287.wr W_1307
  have F_1310 := F_1288.other W_1307 (Or.inl (show (a : Nat) ≠ sc by omega))
  have F_1311 := F_1289.other W_1307 (Or.inl (show (a : Nat) ≠ sc by omega))
  have F_1312 := F_1290.other W_1307 (Or.inl (show (a : Nat) ≠ sc by omega))
  have F_1313 := F_1291.other W_1307 (Or.inl (show (a : Nat) ≠ sc by omega))
  have Q_1314 := Q_1292.wr W_1307 ge_sc
  have Q_1315 := Q_1293.other W_1307 (by omega)
  have Q_1316 := Q_1294.other W_1307 (by omega)
  have Q_1318 := Q_1296.other W_1307 (by omega)
  have Q_1319 := Q_1297.other W_1307 (by omega)
  have Q_1320 := Q_1298.other W_1307 (by omega)
  have Q_1321 := Q_1299.other W_1307 (by omega)
  have Q_1322 := Q_1300.other W_1307 (by omega)
  have Q_1323 := Q_1301.other W_1307 (by omega)
  have Q_1324 := Q_1302.other W_1307 (by omega)
  have Q_1325 := Q_1303.other W_1307 (by omega)
  refine Own.iinc_c H_1304 (pc := 85) (15) #[.val (.ref a), .val (.int n), .val (.int (15 : Int32))] d1_85 rfl (by decide) rfl ?_
  refine Own.goto H_1304 (pc := 88) 70 d1_88 (by decide) (by decide) ?_
  refine Own.iload_n H_1304 (pc := 70) d1_70 rfl ?_
  refine Own.bipush H_1304 (pc := 71) (16) d1_71 rfl ?_
  refine Own.icmp_ge H_1304 (pc := 73) 91 d1_73 (by decide) (by decide) (fun hc => absurd hc (by decide)) (fun _ => ?_)
  refine Own.aload_n H_1304 (pc := 76) d1_76 rfl rfl ?_
  refine Own.getfield H_1304 (pc := 77) d1_77 (hw _ (List.mem_of_getElem? (i := 15) rfl)) F_1312 (fun T_1327 H_1326 => ?_)
  refine Own.iload_n H_1326 (pc := 80) d1_80 rfl ?_
  refine Own.iload_n H_1326 (pc := 81) d1_81 rfl ?_
  refine Own.newarrayE H_1326 (pc := 82) (i := nn) (ad := "[J") 4 d1_82 (hw _ (List.mem_of_getElem? (i := 19) rfl)) hn (by decide) (by decide) h4 (by decide) (by decide) (by decide) (fun T_1329 h_1330 t31 eq_t31 ge_t31 H_1328 Ext_t31 Ary_t31 Exa_t31 => ?_)
  have E_1331 := E_1309.ext Ext_t31
  have F_1332 := F_1310.ext Ext_t31
  have F_1333 := F_1311.ext Ext_t31
  have F_1334 := F_1312.ext Ext_t31
  have F_1335 := F_1313.ext Ext_t31
  have Q_1336 := Q_1314.ext Ext_t31
  have Q_1337 := Q_1315.ext Ext_t31
  have Q_1338 := Q_1316.ext Ext_t31
  have Q_1339 := A_1308.ext Ext_t31
  have Q_1340 := Q_1318.ext Ext_t31
  have Q_1341 := Q_1319.ext Ext_t31
  have Q_1342 := Q_1320.ext Ext_t31
  have Q_1343 := Q_1321.ext Ext_t31
  have Q_1344 := Q_1322.ext Ext_t31
  have Q_1345 := Q_1323.ext Ext_t31
  have Q_1346 := Q_1324.ext Ext_t31
  have Q_1347 := Q_1325.ext Ext_t31
  refine Own.aastore H_1328 (pc := 84) 15 d1_84 Q_1339 (Ins.of_exa Exa_t31 (hw _ (List.mem_of_getElem? (i := 20) rfl))) ge_sc rfl (by simp) (fun T_1349 h_1350 H_1348 W_1351 A_1352 => ?_)
  have E_1353 := E_1331.wr W_1351
  have F_1354 := F_1332.other W_1351 (Or.inl (show (a : Nat) ≠ sc by omega))
  have F_1355 := F_1333.other W_1351 (Or.inl (show (a : Nat) ≠ sc by omega))
  have F_1356 := F_1334.other W_1351 (Or.inl (show (a : Nat) ≠ sc by omega))
  have F_1357 := F_1335.other W_1351 (Or.inl (show (a : Nat) ≠ sc by omega))
  have Q_1358 := Q_1336.wr W_1351 ge_sc
  have Q_1359 := Q_1337.other W_1351 (by omega)
  have Q_1360 := Q_1338.other W_1351 (by omega)
  have Q_1362 := Q_1340.other W_1351 (by omega)
  have Q_1363 := Q_1341.other W_1351 (by omega)
  have Q_1364 := Q_1342.other W_1351 (by omega)
  have Q_1365 := Q_1343.other W_1351 (by omega)
  have Q_1366 := Q_1344.other W_1351 (by omega)
  have Q_1367 := Q_1345.other W_1351 (by omega)
  have Q_1368 := Q_1346.other W_1351 (by omega)
  have Q_1369 := Q_1347.other W_1351 (by omega)
  refine Own.iinc_c H_1348 (pc := 85) (16) #[.val (.ref a), .val (.int n), .val (.int (16 : Int32))] d1_85 rfl (by decide) rfl ?_
  refine Own.goto H_1348 (pc := 88) 70 d1_88 (by decide) (by decide) ?_
  refine Own.iload_n H_1348 (pc := 70) d1_70 rfl ?_
  refine Own.bipush H_1348 (pc := 71) (16) d1_71 rfl ?_
  refine Own.icmp_ge H_1348 (pc := 73) 91 d1_73 (by decide) (by decide) (fun _ => ?_) (fun hc => absurd hc (by decide))
  exact Own.ret_void H_1348 (pc := 91) d1_91 rfl (by decide) (by decide) (⟨rfl, hb, r0, r1, r2, r3, r4, r5, r6, r7, F_1354, E_1353, Q_1358, Q_1359.ary, lt_hb, lt_r0, lt_r1, lt_r2, lt_r3, lt_r4, lt_r5, lt_r6, lt_r7, Q_1362, Q_1363, Q_1364, Q_1365, Q_1366, Q_1367, Q_1368, Q_1369⟩)
theorem pn_rm_digest : plainFor (⟨"com/example/herder/herder/Sha512Lanes", "digest", "()[[J"⟩ : MethodName) = true := by first | exact plainFor_of_name (by first | (simp [plainName, overriddenIn]; done) | decide +kernel) | decide +kernel
theorem ef_rm_digest (a : Nat) (m : MethodId) : entryFrame m #[(.ref a)] 1 = mkF m 0 #[.val (.ref a)] [] := by first | (simp [entryFrame, mkF, argsToLocals, Value.category]; done) | rfl
set_option maxRecDepth 65536 in
set_option maxHeartbeats 40000000 in
theorem rm_digest (l : Launch) (Z : State) (a0 : Array Value) (hw : ∀ d ∈ tables_1, d.before a0 Z = true) (a : Nat) (h0 : Heap) (n0 : Nat) (Z0 : n0 ≤ h0.size) (hb : Nat) (F : Fld Z h0 a "com/example/herder/herder/Sha512Lanes" "hash" "[[J" (.ref hb)) :
    OMet l Z n0 (⟨"com/example/herder/herder/Sha512Lanes", "digest", "()[[J"⟩ : MethodName) prog_14_method_5_code 1 (some (.array (.array .long))) ({ frames := 0, cells := 0, slots := 0, locals := 0 } : Room) #[(.ref a)] h0 (fun v h => v = some (.ref hb) ∧ h = h0) := by
  refine OMet.of pn_rm_digest Z0 (ef_rm_digest a) ?_
  intro p e s m below meth c T H
  refine Own.aload_n H (pc := 0) d3_0 rfl rfl ?_
  refine Own.getfield H (pc := 1) d3_1 (hw _ (List.mem_of_getElem? (i := 11) rfl)) F (fun T_1371 H_1370 => ?_)
  exact Own.ret_ref H_1370 (pc := 4) d3_4 rfl rfl rfl rfl (by decide) (by decide) (⟨rfl, rfl⟩)
theorem pn_rm_fill : plainFor (⟨"java/util/Arrays", "fill", "([JJ)V"⟩ : MethodName) = true := by first | exact plainFor_of_name (by first | (simp [plainName, overriddenIn]; done) | decide +kernel) | decide +kernel
theorem ef_rm_fill (b : Nat) (u : Int64) (m : MethodId) : entryFrame m #[(.ref b), (.long u)] 5 = mkF m 0 #[.val (.ref b), .val (.long u), .second, .unset, .unset] [] := by first | (simp [entryFrame, mkF, argsToLocals, Value.category]; done) | rfl
set_option maxRecDepth 65536 in
set_option maxHeartbeats 40000000 in
theorem rm_fill (l : Launch) (Z : State) (a0 : Array Value) (hw : ∀ d ∈ tables_1, d.before a0 Z = true) (b : Nat) (u : Int64) (h0 : Heap) (n0 : Nat) (Z0 : n0 ≤ h0.size) (vs : List Value) (nn : Nat) (hv : vs.length = nn) (h4 : nn ≤ 4) (A : OAry Z h0 b .long vs) (ge : n0 ≤ b) :
    OMet l Z n0 (⟨"java/util/Arrays", "fill", "([JJ)V"⟩ : MethodName) jdk_65_method_101_code 5 none ({ frames := 0, cells := 0, slots := 0, locals := 0 } : Room) #[(.ref b), (.long u)] h0 (fun v h => v = none ∧ Keep h0 h [b] ∧ OAry Z h b .long (List.replicate nn (.long u))) := by
  refine OMet.of pn_rm_fill Z0 (ef_rm_fill b u) ?_
  intro p e s m below meth c T H
  refine Own.iconst H (pc := 0) (0) d6_0 rfl ?_
  refine Own.istore_n H (pc := 1) #[.val (.ref b), .val (.long u), .second, .val (.int (0 : Int32)), .unset] d6_1 rfl ?_
  refine Own.aload_n H (pc := 2) d6_2 rfl rfl ?_
  have hN : (Int32.ofNat nn).toInt = (vs.length : Int) := by rw [hv]; exact own_ofNat (by omega)
  refine Own.arraylength H (pc := 3) (Int32.ofNat nn) d6_3 A hN ?_
  refine Own.istore H (pc := 4) #[.val (.ref b), .val (.long u), .second, .val (.int (0 : Int32)), .val (.int (Int32.ofNat nn))] d6_4 rfl ?_
  have loop : ∀ (k i : Nat) (ws : List Value) (T : State) (h : Heap), i + k = nn → ws.length = nn → (∀ j, j < i → ws[j]? = some (.long u)) → OHr p l e ({ frames := 0, cells := 0, slots := 0, locals := 0 } : Room) s m #[(.ref b), (.long u)] below meth c Z n0 "java/util/Arrays" "fill" jdk_65_method_101_code 5 none T h 0 0 → Keep h0 h [b] → OAry Z h b .long ws → OEnds p e below s n0 (fun v h => v = none ∧ Keep h0 h [b] ∧ OAry Z h b .long (List.replicate nn (.long u))) ({ frames := 0, cells := 0, slots := 0, locals := 0 } : Room).cells ({ frames := 0, cells := 0, slots := 0, locals := 0 } : Room).slots T (mkF m 6 #[.val (.ref b), .val (.long u), .second, .val (.int (Int32.ofNat i)), .val (.int (Int32.ofNat nn))] []) := by
    intro k
    induction k with
    | zero =>
      intro i ws T h hi hw1 hw2 H K A
      refine Own.iload_n H (pc := 6) d6_6 rfl ?_
      refine Own.iload H (pc := 7) d6_7 rfl ?_
      refine Own.icmp_ge H (pc := 9) 22 d6_9 (by decide) (by decide) (fun _ => ?_) (fun hX => absurd hX (by rw [own_lt, own_ofNat (by omega), own_ofNat (by omega)]; omega))
      have e1 : ws = List.replicate nn (.long u) := by
        apply List.ext_getElem?
        intro j
        by_cases q : j < nn
        · rw [hw2 j (by omega), List.getElem?_replicate, if_pos q]
        · rw [List.getElem?_eq_none (by omega), List.getElem?_eq_none (by simp; omega)]
      exact Own.ret_void H (pc := 22) d6_22 rfl (by decide) (by decide) (⟨rfl, K, by rw [← e1]; exact A⟩)
    | succ k ih =>
      intro i ws T h hi hw1 hw2 H K A
      refine Own.iload_n H (pc := 6) d6_6 rfl ?_
      refine Own.iload H (pc := 7) d6_7 rfl ?_
      refine Own.icmp_ge H (pc := 9) 22 d6_9 (by decide) (by decide) (fun hX => absurd (by rw [own_lt, own_ofNat (by omega), own_ofNat (by omega)]; omega) hX) (fun _ => ?_)
      refine Own.aload_n H (pc := 12) d6_12 rfl rfl ?_
      refine Own.iload_n H (pc := 13) d6_13 rfl ?_
      refine Own.lload_n H (pc := 14) d6_14 rfl ?_
      refine Own.lastore H (pc := 15) i d6_15 A ge (own_ofNat (by omega)) (by omega) (fun T_1373 h_1374 H_1372 W_1375 A_1376 => ?_)
      refine Own.iinc H_1372 (pc := 16) (1) #[.val (.ref b), .val (.long u), .second, .val (.int ((Int32.ofNat i) + (1 : Int32))), .val (.int (Int32.ofNat nn))] d6_16 rfl rfl rfl ?_
      rw [own_one]
      refine Own.goto H_1372 (pc := 19) 6 d6_19 (by decide) (by decide) ?_
      exact ih (i + 1) _ _ _ (by omega) (by simpa using hw1) (by
        intro j hj
        by_cases q : j = i
        · subst q; rw [List.getElem?_set_self (by omega)]
        · rw [List.getElem?_set_ne (by omega)]; exact hw2 j (by omega)) H_1372 (K.wr W_1375 (Or.inl List.mem_cons_self)) A_1376
  exact loop nn 0 vs _ _ (by omega) hv (fun j hj => absurd hj (by omega)) H (Keep.refl _ _) A
theorem pn_rm_start : plainFor (⟨"com/example/herder/herder/Sha512Lanes", "start", "()V"⟩ : MethodName) = true := by first | exact plainFor_of_name (by first | (simp [plainName, overriddenIn]; done) | decide +kernel) | decide +kernel
theorem ef_rm_start (a : Nat) (m : MethodId) : entryFrame m #[(.ref a)] 2 = mkF m 0 #[.val (.ref a), .unset] [] := by first | (simp [entryFrame, mkF, argsToLocals, Value.category]; done) | rfl
set_option maxRecDepth 65536 in
set_option maxHeartbeats 40000000 in
theorem rm_start (l : Launch) (Z : State) (a0 : Array Value) (hw : ∀ d ∈ tables_1, d.before a0 Z = true) (a : Nat) (h0 : Heap) (n0 : Nat) (Z0 : n0 ≤ h0.size) (hb r0 r1 r2 r3 r4 r5 r6 r7 iv nn : Nat) (h4 : nn ≤ 4) (F : Fld Z h0 a "com/example/herder/herder/Sha512Lanes" "hash" "[[J" (.ref hb)) (E : Exa Z h0 a "com/example/herder/herder/Sha512Lanes") (O : Old Z n0 h0) (R : OAry Z h0 hb (.array .long) [.ref r0, .ref r1, .ref r2, .ref r3, .ref r4, .ref r5, .ref r6, .ref r7]) (ah : a < hb) (ord : hb < r0 ∧ r0 < r1 ∧ r1 < r2 ∧ r2 < r3 ∧ r3 < r4 ∧ r4 < r5 ∧ r5 < r6 ∧ r6 < r7) (ga : n0 ≤ a) (SI : Sta Z Z.heap "com/example/herder/herder/Sha512Lanes" "INITIAL" "[J" (.ref iv)) (AI : OAry Z Z.heap iv .long [.long (7640891576956012808 : Int64), .long (-4942790177534073029 : Int64), .long (4354685564936845355 : Int64), .long (-6534734903238641935 : Int64), .long (5840696475078001361 : Int64), .long (-7276294671716946913 : Int64), .long (2270897969802886507 : Int64), .long (6620516959819538809 : Int64)]) (xs0 : List Value) (l0 : xs0.length = nn) (B0 : OAry Z h0 r0 .long xs0) (xs1 : List Value) (l1 : xs1.length = nn) (B1 : OAry Z h0 r1 .long xs1) (xs2 : List Value) (l2 : xs2.length = nn) (B2 : OAry Z h0 r2 .long xs2) (xs3 : List Value) (l3 : xs3.length = nn) (B3 : OAry Z h0 r3 .long xs3) (xs4 : List Value) (l4 : xs4.length = nn) (B4 : OAry Z h0 r4 .long xs4) (xs5 : List Value) (l5 : xs5.length = nn) (B5 : OAry Z h0 r5 .long xs5) (xs6 : List Value) (l6 : xs6.length = nn) (B6 : OAry Z h0 r6 .long xs6) (xs7 : List Value) (l7 : xs7.length = nn) (B7 : OAry Z h0 r7 .long xs7) :
    OMet l Z n0 (⟨"com/example/herder/herder/Sha512Lanes", "start", "()V"⟩ : MethodName) prog_14_method_2_code 2 none ({ frames := 1, cells := 0, slots := 0, locals := 16 } : Room) #[(.ref a)] h0 (fun v h => v = none ∧ Fld Z h a "com/example/herder/herder/Sha512Lanes" "hash" "[[J" (.ref hb) ∧ Exa Z h a "com/example/herder/herder/Sha512Lanes" ∧ Old Z n0 h ∧ OAry Z h hb (.array .long) [.ref r0, .ref r1, .ref r2, .ref r3, .ref r4, .ref r5, .ref r6, .ref r7] ∧ OAry Z h r0 .long (List.replicate nn (.long (7640891576956012808 : Int64))) ∧ OAry Z h r1 .long (List.replicate nn (.long (-4942790177534073029 : Int64))) ∧ OAry Z h r2 .long (List.replicate nn (.long (4354685564936845355 : Int64))) ∧ OAry Z h r3 .long (List.replicate nn (.long (-6534734903238641935 : Int64))) ∧ OAry Z h r4 .long (List.replicate nn (.long (5840696475078001361 : Int64))) ∧ OAry Z h r5 .long (List.replicate nn (.long (-7276294671716946913 : Int64))) ∧ OAry Z h r6 .long (List.replicate nn (.long (2270897969802886507 : Int64))) ∧ OAry Z h r7 .long (List.replicate nn (.long (6620516959819538809 : Int64)))) := by
  refine OMet.of pn_rm_start Z0 (ef_rm_start a) ?_
  intro p e s m below meth c T H
  obtain ⟨q0, q1, q2, q3, q4, q5, q6, q7⟩ := ord
  refine Own.iconst H (pc := 0) (0) d5_0 rfl ?_
  refine Own.istore_n H (pc := 1) #[.val (.ref a), .val (.int (0 : Int32))] d5_1 rfl ?_
  refine Own.iload_n H (pc := 2) d5_2 rfl ?_
  refine Own.bipush H (pc := 3) (8) d5_3 rfl ?_
  refine Own.icmp_ge H (pc := 5) 28 d5_5 (by decide) (by decide) (fun hc => absurd hc (by decide)) (fun _ => ?_)
  refine Own.aload_n H (pc := 8) d5_8 rfl rfl ?_
  refine Own.getfield H (pc := 9) d5_9 (hw _ (List.mem_of_getElem? (i := 11) rfl)) F (fun T_1378 H_1377 => ?_)
  refine Own.iload_n H_1377 (pc := 12) d5_12 rfl ?_
  refine Own.aaload H_1377 (pc := 13) (v := (.ref r0)) 0 d5_13 R rfl rfl rfl ?_
  refine Own.getstatic H_1377 (pc := 14) d5_14 (hw _ (List.mem_of_getElem? (i := 37) rfl)) (SI.ext O.2) (fun T_1380 H_1379 => ?_)
  refine Own.iload_n H_1379 (pc := 17) d5_17 rfl ?_
  refine Own.laload H_1379 (pc := 18) (v := (7640891576956012808 : Int64)) 0 d5_18 (AI.ext O.2) rfl rfl ?_
  refine Own.callS H_1379 (pc := 19) (y := (⟨"java/util/Arrays", "fill", "([JJ)V"⟩ : MethodName)) [(.ref r0), (.long (7640891576956012808 : Int64))] [] d5_19 (hw _ (List.mem_of_getElem? (i := 39) rfl)) (hw _ (List.mem_of_getElem? (i := 40) rfl)) (hw _ (List.mem_of_getElem? (i := 41) rfl)) (hw _ (List.mem_of_getElem? (i := 42) rfl)) (by decide) (rm_fill l Z a0 hw r0 (7640891576956012808 : Int64) _ n0 H_1379.z0 xs0 nn l0 h4 B0 (by omega)) (r := none) (ps := [(.array .long), .long]) (by decide) rfl rfl 0 rfl (by decide) (by decide) (by decide) (by decide) rfl (fun T_1382 v_1384 h_1383 H_1381 z_1385 q_1386 => ?_)
  obtain ⟨rfl, K0, N0⟩ := q_1386
  show OEnds _ _ _ _ _ _ _ _ _ (mkF _ 22 #[.val (.ref a), .val (.int (0 : Int32))] [])
  have Q_1387 := F.keep K0 (own_nin (show (a : Nat) ≠ r0 by omega))
  have Q_1388 := E.keep K0
  have Q_1389 := O.keep K0 (own_all (by omega))
  have Q_1390 := R.keep K0 (own_nin (show (hb : Nat) ≠ r0 by omega))
  have Q_1392 := B1.keep K0 (own_nin (show (r1 : Nat) ≠ r0 by omega))
  have Q_1393 := B2.keep K0 (own_nin (show (r2 : Nat) ≠ r0 by omega))
  have Q_1394 := B3.keep K0 (own_nin (show (r3 : Nat) ≠ r0 by omega))
  have Q_1395 := B4.keep K0 (own_nin (show (r4 : Nat) ≠ r0 by omega))
  have Q_1396 := B5.keep K0 (own_nin (show (r5 : Nat) ≠ r0 by omega))
  have Q_1397 := B6.keep K0 (own_nin (show (r6 : Nat) ≠ r0 by omega))
  have Q_1398 := B7.keep K0 (own_nin (show (r7 : Nat) ≠ r0 by omega))
  refine Own.iinc_c H_1381 (pc := 22) (1) #[.val (.ref a), .val (.int (1 : Int32))] d5_22 rfl (by decide) rfl ?_
  refine Own.goto H_1381 (pc := 25) 2 d5_25 (by decide) (by decide) ?_
  refine Own.iload_n H_1381 (pc := 2) d5_2 rfl ?_
  refine Own.bipush H_1381 (pc := 3) (8) d5_3 rfl ?_
  refine Own.icmp_ge H_1381 (pc := 5) 28 d5_5 (by decide) (by decide) (fun hc => absurd hc (by decide)) (fun _ => ?_)
  refine Own.aload_n H_1381 (pc := 8) d5_8 rfl rfl ?_
  refine Own.getfield H_1381 (pc := 9) d5_9 (hw _ (List.mem_of_getElem? (i := 11) rfl)) Q_1387 (fun T_1400 H_1399 => ?_)
  refine Own.iload_n H_1399 (pc := 12) d5_12 rfl ?_
  refine Own.aaload H_1399 (pc := 13) (v := (.ref r1)) 1 d5_13 Q_1390 rfl rfl rfl ?_
  refine Own.getstatic H_1399 (pc := 14) d5_14 (hw _ (List.mem_of_getElem? (i := 37) rfl)) (SI.ext Q_1389.2) (fun T_1402 H_1401 => ?_)
  refine Own.iload_n H_1401 (pc := 17) d5_17 rfl ?_
  refine Own.laload H_1401 (pc := 18) (v := (-4942790177534073029 : Int64)) 1 d5_18 (AI.ext Q_1389.2) rfl rfl ?_
  refine Own.callS H_1401 (pc := 19) (y := (⟨"java/util/Arrays", "fill", "([JJ)V"⟩ : MethodName)) [(.ref r1), (.long (-4942790177534073029 : Int64))] [] d5_19 (hw _ (List.mem_of_getElem? (i := 39) rfl)) (hw _ (List.mem_of_getElem? (i := 40) rfl)) (hw _ (List.mem_of_getElem? (i := 41) rfl)) (hw _ (List.mem_of_getElem? (i := 42) rfl)) (by decide) (rm_fill l Z a0 hw r1 (-4942790177534073029 : Int64) _ n0 H_1401.z0 xs1 nn l1 h4 Q_1392 (by omega)) (r := none) (ps := [(.array .long), .long]) (by decide) rfl rfl 0 rfl (by decide) (by decide) (by decide) (by decide) rfl (fun T_1404 v_1406 h_1405 H_1403 z_1407 q_1408 => ?_)
  obtain ⟨rfl, K1, N1⟩ := q_1408
  show OEnds _ _ _ _ _ _ _ _ _ (mkF _ 22 #[.val (.ref a), .val (.int (1 : Int32))] [])
  have Q_1409 := Q_1387.keep K1 (own_nin (show (a : Nat) ≠ r1 by omega))
  have Q_1410 := Q_1388.keep K1
  have Q_1411 := Q_1389.keep K1 (own_all (by omega))
  have Q_1412 := Q_1390.keep K1 (own_nin (show (hb : Nat) ≠ r1 by omega))
  have Q_1413 := N0.keep K1 (own_nin (show (r0 : Nat) ≠ r1 by omega))
  have Q_1415 := Q_1393.keep K1 (own_nin (show (r2 : Nat) ≠ r1 by omega))
  have Q_1416 := Q_1394.keep K1 (own_nin (show (r3 : Nat) ≠ r1 by omega))
  have Q_1417 := Q_1395.keep K1 (own_nin (show (r4 : Nat) ≠ r1 by omega))
  have Q_1418 := Q_1396.keep K1 (own_nin (show (r5 : Nat) ≠ r1 by omega))
  have Q_1419 := Q_1397.keep K1 (own_nin (show (r6 : Nat) ≠ r1 by omega))
  have Q_1420 := Q_1398.keep K1 (own_nin (show (r7 : Nat) ≠ r1 by omega))
  refine Own.iinc_c H_1403 (pc := 22) (2) #[.val (.ref a), .val (.int (2 : Int32))] d5_22 rfl (by decide) rfl ?_
  refine Own.goto H_1403 (pc := 25) 2 d5_25 (by decide) (by decide) ?_
  refine Own.iload_n H_1403 (pc := 2) d5_2 rfl ?_
  refine Own.bipush H_1403 (pc := 3) (8) d5_3 rfl ?_
  refine Own.icmp_ge H_1403 (pc := 5) 28 d5_5 (by decide) (by decide) (fun hc => absurd hc (by decide)) (fun _ => ?_)
  refine Own.aload_n H_1403 (pc := 8) d5_8 rfl rfl ?_
  refine Own.getfield H_1403 (pc := 9) d5_9 (hw _ (List.mem_of_getElem? (i := 11) rfl)) Q_1409 (fun T_1422 H_1421 => ?_)
  refine Own.iload_n H_1421 (pc := 12) d5_12 rfl ?_
  refine Own.aaload H_1421 (pc := 13) (v := (.ref r2)) 2 d5_13 Q_1412 rfl rfl rfl ?_
  refine Own.getstatic H_1421 (pc := 14) d5_14 (hw _ (List.mem_of_getElem? (i := 37) rfl)) (SI.ext Q_1411.2) (fun T_1424 H_1423 => ?_)
  refine Own.iload_n H_1423 (pc := 17) d5_17 rfl ?_
  refine Own.laload H_1423 (pc := 18) (v := (4354685564936845355 : Int64)) 2 d5_18 (AI.ext Q_1411.2) rfl rfl ?_
  refine Own.callS H_1423 (pc := 19) (y := (⟨"java/util/Arrays", "fill", "([JJ)V"⟩ : MethodName)) [(.ref r2), (.long (4354685564936845355 : Int64))] [] d5_19 (hw _ (List.mem_of_getElem? (i := 39) rfl)) (hw _ (List.mem_of_getElem? (i := 40) rfl)) (hw _ (List.mem_of_getElem? (i := 41) rfl)) (hw _ (List.mem_of_getElem? (i := 42) rfl)) (by decide) (rm_fill l Z a0 hw r2 (4354685564936845355 : Int64) _ n0 H_1423.z0 xs2 nn l2 h4 Q_1415 (by omega)) (r := none) (ps := [(.array .long), .long]) (by decide) rfl rfl 0 rfl (by decide) (by decide) (by decide) (by decide) rfl (fun T_1426 v_1428 h_1427 H_1425 z_1429 q_1430 => ?_)
  obtain ⟨rfl, K2, N2⟩ := q_1430
  show OEnds _ _ _ _ _ _ _ _ _ (mkF _ 22 #[.val (.ref a), .val (.int (2 : Int32))] [])
  have Q_1431 := Q_1409.keep K2 (own_nin (show (a : Nat) ≠ r2 by omega))
  have Q_1432 := Q_1410.keep K2
  have Q_1433 := Q_1411.keep K2 (own_all (by omega))
  have Q_1434 := Q_1412.keep K2 (own_nin (show (hb : Nat) ≠ r2 by omega))
  have Q_1435 := Q_1413.keep K2 (own_nin (show (r0 : Nat) ≠ r2 by omega))
  have Q_1436 := N1.keep K2 (own_nin (show (r1 : Nat) ≠ r2 by omega))
  have Q_1438 := Q_1416.keep K2 (own_nin (show (r3 : Nat) ≠ r2 by omega))
  have Q_1439 := Q_1417.keep K2 (own_nin (show (r4 : Nat) ≠ r2 by omega))
  have Q_1440 := Q_1418.keep K2 (own_nin (show (r5 : Nat) ≠ r2 by omega))
  have Q_1441 := Q_1419.keep K2 (own_nin (show (r6 : Nat) ≠ r2 by omega))
  have Q_1442 := Q_1420.keep K2 (own_nin (show (r7 : Nat) ≠ r2 by omega))
  refine Own.iinc_c H_1425 (pc := 22) (3) #[.val (.ref a), .val (.int (3 : Int32))] d5_22 rfl (by decide) rfl ?_
  refine Own.goto H_1425 (pc := 25) 2 d5_25 (by decide) (by decide) ?_
  refine Own.iload_n H_1425 (pc := 2) d5_2 rfl ?_
  refine Own.bipush H_1425 (pc := 3) (8) d5_3 rfl ?_
  refine Own.icmp_ge H_1425 (pc := 5) 28 d5_5 (by decide) (by decide) (fun hc => absurd hc (by decide)) (fun _ => ?_)
  refine Own.aload_n H_1425 (pc := 8) d5_8 rfl rfl ?_
  refine Own.getfield H_1425 (pc := 9) d5_9 (hw _ (List.mem_of_getElem? (i := 11) rfl)) Q_1431 (fun T_1444 H_1443 => ?_)
  refine Own.iload_n H_1443 (pc := 12) d5_12 rfl ?_
  refine Own.aaload H_1443 (pc := 13) (v := (.ref r3)) 3 d5_13 Q_1434 rfl rfl rfl ?_
  refine Own.getstatic H_1443 (pc := 14) d5_14 (hw _ (List.mem_of_getElem? (i := 37) rfl)) (SI.ext Q_1433.2) (fun T_1446 H_1445 => ?_)
  refine Own.iload_n H_1445 (pc := 17) d5_17 rfl ?_
  refine Own.laload H_1445 (pc := 18) (v := (-6534734903238641935 : Int64)) 3 d5_18 (AI.ext Q_1433.2) rfl rfl ?_
  refine Own.callS H_1445 (pc := 19) (y := (⟨"java/util/Arrays", "fill", "([JJ)V"⟩ : MethodName)) [(.ref r3), (.long (-6534734903238641935 : Int64))] [] d5_19 (hw _ (List.mem_of_getElem? (i := 39) rfl)) (hw _ (List.mem_of_getElem? (i := 40) rfl)) (hw _ (List.mem_of_getElem? (i := 41) rfl)) (hw _ (List.mem_of_getElem? (i := 42) rfl)) (by decide) (rm_fill l Z a0 hw r3 (-6534734903238641935 : Int64) _ n0 H_1445.z0 xs3 nn l3 h4 Q_1438 (by omega)) (r := none) (ps := [(.array .long), .long]) (by decide) rfl rfl 0 rfl (by decide) (by decide) (by decide) (by decide) rfl (fun T_1448 v_1450 h_1449 H_1447 z_1451 q_1452 => ?_)
  obtain ⟨rfl, K3, N3⟩ := q_1452
  show OEnds _ _ _ _ _ _ _ _ _ (mkF _ 22 #[.val (.ref a), .val (.int (3 : Int32))] [])
  have Q_1453 := Q_1431.keep K3 (own_nin (show (a : Nat) ≠ r3 by omega))
  have Q_1454 := Q_1432.keep K3
  have Q_1455 := Q_1433.keep K3 (own_all (by omega))
  have Q_1456 := Q_1434.keep K3 (own_nin (show (hb : Nat) ≠ r3 by omega))
  have Q_1457 := Q_1435.keep K3 (own_nin (show (r0 : Nat) ≠ r3 by omega))
  have Q_1458 := Q_1436.keep K3 (own_nin (show (r1 : Nat) ≠ r3 by omega))
  have Q_1459 := N2.keep K3 (own_nin (show (r2 : Nat) ≠ r3 by omega))
  have Q_1461 := Q_1439.keep K3 (own_nin (show (r4 : Nat) ≠ r3 by omega))
  have Q_1462 := Q_1440.keep K3 (own_nin (show (r5 : Nat) ≠ r3 by omega))
  have Q_1463 := Q_1441.keep K3 (own_nin (show (r6 : Nat) ≠ r3 by omega))
  have Q_1464 := Q_1442.keep K3 (own_nin (show (r7 : Nat) ≠ r3 by omega))
  refine Own.iinc_c H_1447 (pc := 22) (4) #[.val (.ref a), .val (.int (4 : Int32))] d5_22 rfl (by decide) rfl ?_
  refine Own.goto H_1447 (pc := 25) 2 d5_25 (by decide) (by decide) ?_
  refine Own.iload_n H_1447 (pc := 2) d5_2 rfl ?_
  refine Own.bipush H_1447 (pc := 3) (8) d5_3 rfl ?_
  refine Own.icmp_ge H_1447 (pc := 5) 28 d5_5 (by decide) (by decide) (fun hc => absurd hc (by decide)) (fun _ => ?_)
  refine Own.aload_n H_1447 (pc := 8) d5_8 rfl rfl ?_
  refine Own.getfield H_1447 (pc := 9) d5_9 (hw _ (List.mem_of_getElem? (i := 11) rfl)) Q_1453 (fun T_1466 H_1465 => ?_)
  refine Own.iload_n H_1465 (pc := 12) d5_12 rfl ?_
  refine Own.aaload H_1465 (pc := 13) (v := (.ref r4)) 4 d5_13 Q_1456 rfl rfl rfl ?_
  refine Own.getstatic H_1465 (pc := 14) d5_14 (hw _ (List.mem_of_getElem? (i := 37) rfl)) (SI.ext Q_1455.2) (fun T_1468 H_1467 => ?_)
  refine Own.iload_n H_1467 (pc := 17) d5_17 rfl ?_
  refine Own.laload H_1467 (pc := 18) (v := (5840696475078001361 : Int64)) 4 d5_18 (AI.ext Q_1455.2) rfl rfl ?_
  refine Own.callS H_1467 (pc := 19) (y := (⟨"java/util/Arrays", "fill", "([JJ)V"⟩ : MethodName)) [(.ref r4), (.long (5840696475078001361 : Int64))] [] d5_19 (hw _ (List.mem_of_getElem? (i := 39) rfl)) (hw _ (List.mem_of_getElem? (i := 40) rfl)) (hw _ (List.mem_of_getElem? (i := 41) rfl)) (hw _ (List.mem_of_getElem? (i := 42) rfl)) (by decide) (rm_fill l Z a0 hw r4 (5840696475078001361 : Int64) _ n0 H_1467.z0 xs4 nn l4 h4 Q_1461 (by omega)) (r := none) (ps := [(.array .long), .long]) (by decide) rfl rfl 0 rfl (by decide) (by decide) (by decide) (by decide) rfl (fun T_1470 v_1472 h_1471 H_1469 z_1473 q_1474 => ?_)
  obtain ⟨rfl, K4, N4⟩ := q_1474
  show OEnds _ _ _ _ _ _ _ _ _ (mkF _ 22 #[.val (.ref a), .val (.int (4 : Int32))] [])
  have Q_1475 := Q_1453.keep K4 (own_nin (show (a : Nat) ≠ r4 by omega))
  have Q_1476 := Q_1454.keep K4
  have Q_1477 := Q_1455.keep K4 (own_all (by omega))
  have Q_1478 := Q_1456.keep K4 (own_nin (show (hb : Nat) ≠ r4 by omega))
  have Q_1479 := Q_1457.keep K4 (own_nin (show (r0 : Nat) ≠ r4 by omega))
  have Q_1480 := Q_1458.keep K4 (own_nin (show (r1 : Nat) ≠ r4 by omega))
  have Q_1481 := Q_1459.keep K4 (own_nin (show (r2 : Nat) ≠ r4 by omega))
  have Q_1482 := N3.keep K4 (own_nin (show (r3 : Nat) ≠ r4 by omega))
  have Q_1484 := Q_1462.keep K4 (own_nin (show (r5 : Nat) ≠ r4 by omega))
  have Q_1485 := Q_1463.keep K4 (own_nin (show (r6 : Nat) ≠ r4 by omega))
  have Q_1486 := Q_1464.keep K4 (own_nin (show (r7 : Nat) ≠ r4 by omega))
  refine Own.iinc_c H_1469 (pc := 22) (5) #[.val (.ref a), .val (.int (5 : Int32))] d5_22 rfl (by decide) rfl ?_
  refine Own.goto H_1469 (pc := 25) 2 d5_25 (by decide) (by decide) ?_
  refine Own.iload_n H_1469 (pc := 2) d5_2 rfl ?_
  refine Own.bipush H_1469 (pc := 3) (8) d5_3 rfl ?_
  refine Own.icmp_ge H_1469 (pc := 5) 28 d5_5 (by decide) (by decide) (fun hc => absurd hc (by decide)) (fun _ => ?_)
  refine Own.aload_n H_1469 (pc := 8) d5_8 rfl rfl ?_
  refine Own.getfield H_1469 (pc := 9) d5_9 (hw _ (List.mem_of_getElem? (i := 11) rfl)) Q_1475 (fun T_1488 H_1487 => ?_)
  refine Own.iload_n H_1487 (pc := 12) d5_12 rfl ?_
  refine Own.aaload H_1487 (pc := 13) (v := (.ref r5)) 5 d5_13 Q_1478 rfl rfl rfl ?_
  refine Own.getstatic H_1487 (pc := 14) d5_14 (hw _ (List.mem_of_getElem? (i := 37) rfl)) (SI.ext Q_1477.2) (fun T_1490 H_1489 => ?_)
  refine Own.iload_n H_1489 (pc := 17) d5_17 rfl ?_
  refine Own.laload H_1489 (pc := 18) (v := (-7276294671716946913 : Int64)) 5 d5_18 (AI.ext Q_1477.2) rfl rfl ?_
  refine Own.callS H_1489 (pc := 19) (y := (⟨"java/util/Arrays", "fill", "([JJ)V"⟩ : MethodName)) [(.ref r5), (.long (-7276294671716946913 : Int64))] [] d5_19 (hw _ (List.mem_of_getElem? (i := 39) rfl)) (hw _ (List.mem_of_getElem? (i := 40) rfl)) (hw _ (List.mem_of_getElem? (i := 41) rfl)) (hw _ (List.mem_of_getElem? (i := 42) rfl)) (by decide) (rm_fill l Z a0 hw r5 (-7276294671716946913 : Int64) _ n0 H_1489.z0 xs5 nn l5 h4 Q_1484 (by omega)) (r := none) (ps := [(.array .long), .long]) (by decide) rfl rfl 0 rfl (by decide) (by decide) (by decide) (by decide) rfl (fun T_1492 v_1494 h_1493 H_1491 z_1495 q_1496 => ?_)
  obtain ⟨rfl, K5, N5⟩ := q_1496
  show OEnds _ _ _ _ _ _ _ _ _ (mkF _ 22 #[.val (.ref a), .val (.int (5 : Int32))] [])
  have Q_1497 := Q_1475.keep K5 (own_nin (show (a : Nat) ≠ r5 by omega))
  have Q_1498 := Q_1476.keep K5
  have Q_1499 := Q_1477.keep K5 (own_all (by omega))
  have Q_1500 := Q_1478.keep K5 (own_nin (show (hb : Nat) ≠ r5 by omega))
  have Q_1501 := Q_1479.keep K5 (own_nin (show (r0 : Nat) ≠ r5 by omega))
  have Q_1502 := Q_1480.keep K5 (own_nin (show (r1 : Nat) ≠ r5 by omega))
  have Q_1503 := Q_1481.keep K5 (own_nin (show (r2 : Nat) ≠ r5 by omega))
  have Q_1504 := Q_1482.keep K5 (own_nin (show (r3 : Nat) ≠ r5 by omega))
  have Q_1505 := N4.keep K5 (own_nin (show (r4 : Nat) ≠ r5 by omega))
  have Q_1507 := Q_1485.keep K5 (own_nin (show (r6 : Nat) ≠ r5 by omega))
  have Q_1508 := Q_1486.keep K5 (own_nin (show (r7 : Nat) ≠ r5 by omega))
  refine Own.iinc_c H_1491 (pc := 22) (6) #[.val (.ref a), .val (.int (6 : Int32))] d5_22 rfl (by decide) rfl ?_
  refine Own.goto H_1491 (pc := 25) 2 d5_25 (by decide) (by decide) ?_
  refine Own.iload_n H_1491 (pc := 2) d5_2 rfl ?_
  refine Own.bipush H_1491 (pc := 3) (8) d5_3 rfl ?_
  refine Own.icmp_ge H_1491 (pc := 5) 28 d5_5 (by decide) (by decide) (fun hc => absurd hc (by decide)) (fun _ => ?_)
  refine Own.aload_n H_1491 (pc := 8) d5_8 rfl rfl ?_
  refine Own.getfield H_1491 (pc := 9) d5_9 (hw _ (List.mem_of_getElem? (i := 11) rfl)) Q_1497 (fun T_1510 H_1509 => ?_)
  refine Own.iload_n H_1509 (pc := 12) d5_12 rfl ?_
  refine Own.aaload H_1509 (pc := 13) (v := (.ref r6)) 6 d5_13 Q_1500 rfl rfl rfl ?_
  refine Own.getstatic H_1509 (pc := 14) d5_14 (hw _ (List.mem_of_getElem? (i := 37) rfl)) (SI.ext Q_1499.2) (fun T_1512 H_1511 => ?_)
  refine Own.iload_n H_1511 (pc := 17) d5_17 rfl ?_
  refine Own.laload H_1511 (pc := 18) (v := (2270897969802886507 : Int64)) 6 d5_18 (AI.ext Q_1499.2) rfl rfl ?_
  refine Own.callS H_1511 (pc := 19) (y := (⟨"java/util/Arrays", "fill", "([JJ)V"⟩ : MethodName)) [(.ref r6), (.long (2270897969802886507 : Int64))] [] d5_19 (hw _ (List.mem_of_getElem? (i := 39) rfl)) (hw _ (List.mem_of_getElem? (i := 40) rfl)) (hw _ (List.mem_of_getElem? (i := 41) rfl)) (hw _ (List.mem_of_getElem? (i := 42) rfl)) (by decide) (rm_fill l Z a0 hw r6 (2270897969802886507 : Int64) _ n0 H_1511.z0 xs6 nn l6 h4 Q_1507 (by omega)) (r := none) (ps := [(.array .long), .long]) (by decide) rfl rfl 0 rfl (by decide) (by decide) (by decide) (by decide) rfl (fun T_1514 v_1516 h_1515 H_1513 z_1517 q_1518 => ?_)
  obtain ⟨rfl, K6, N6⟩ := q_1518
  show OEnds _ _ _ _ _ _ _ _ _ (mkF _ 22 #[.val (.ref a), .val (.int (6 : Int32))] [])
  have Q_1519 := Q_1497.keep K6 (own_nin (show (a : Nat) ≠ r6 by omega))
  have Q_1520 := Q_1498.keep K6
  have Q_1521 := Q_1499.keep K6 (own_all (by omega))
  have Q_1522 := Q_1500.keep K6 (own_nin (show (hb : Nat) ≠ r6 by omega))
  have Q_1523 := Q_1501.keep K6 (own_nin (show (r0 : Nat) ≠ r6 by omega))
  have Q_1524 := Q_1502.keep K6 (own_nin (show (r1 : Nat) ≠ r6 by omega))
  have Q_1525 := Q_1503.keep K6 (own_nin (show (r2 : Nat) ≠ r6 by omega))
  have Q_1526 := Q_1504.keep K6 (own_nin (show (r3 : Nat) ≠ r6 by omega))
  have Q_1527 := Q_1505.keep K6 (own_nin (show (r4 : Nat) ≠ r6 by omega))
  have Q_1528 := N5.keep K6 (own_nin (show (r5 : Nat) ≠ r6 by omega))
  have Q_1530 := Q_1508.keep K6 (own_nin (show (r7 : Nat) ≠ r6 by omega))
  refine Own.iinc_c H_1513 (pc := 22) (7) #[.val (.ref a), .val (.int (7 : Int32))] d5_22 rfl (by decide) rfl ?_
  refine Own.goto H_1513 (pc := 25) 2 d5_25 (by decide) (by decide) ?_
  refine Own.iload_n H_1513 (pc := 2) d5_2 rfl ?_
  refine Own.bipush H_1513 (pc := 3) (8) d5_3 rfl ?_
  refine Own.icmp_ge H_1513 (pc := 5) 28 d5_5 (by decide) (by decide) (fun hc => absurd hc (by decide)) (fun _ => ?_)
  refine Own.aload_n H_1513 (pc := 8) d5_8 rfl rfl ?_
  refine Own.getfield H_1513 (pc := 9) d5_9 (hw _ (List.mem_of_getElem? (i := 11) rfl)) Q_1519 (fun T_1532 H_1531 => ?_)
  refine Own.iload_n H_1531 (pc := 12) d5_12 rfl ?_
  refine Own.aaload H_1531 (pc := 13) (v := (.ref r7)) 7 d5_13 Q_1522 rfl rfl rfl ?_
  refine Own.getstatic H_1531 (pc := 14) d5_14 (hw _ (List.mem_of_getElem? (i := 37) rfl)) (SI.ext Q_1521.2) (fun T_1534 H_1533 => ?_)
  refine Own.iload_n H_1533 (pc := 17) d5_17 rfl ?_
  refine Own.laload H_1533 (pc := 18) (v := (6620516959819538809 : Int64)) 7 d5_18 (AI.ext Q_1521.2) rfl rfl ?_
  refine Own.callS H_1533 (pc := 19) (y := (⟨"java/util/Arrays", "fill", "([JJ)V"⟩ : MethodName)) [(.ref r7), (.long (6620516959819538809 : Int64))] [] d5_19 (hw _ (List.mem_of_getElem? (i := 39) rfl)) (hw _ (List.mem_of_getElem? (i := 40) rfl)) (hw _ (List.mem_of_getElem? (i := 41) rfl)) (hw _ (List.mem_of_getElem? (i := 42) rfl)) (by decide) (rm_fill l Z a0 hw r7 (6620516959819538809 : Int64) _ n0 H_1533.z0 xs7 nn l7 h4 Q_1530 (by omega)) (r := none) (ps := [(.array .long), .long]) (by decide) rfl rfl 0 rfl (by decide) (by decide) (by decide) (by decide) rfl (fun T_1536 v_1538 h_1537 H_1535 z_1539 q_1540 => ?_)
  obtain ⟨rfl, K7, N7⟩ := q_1540
  show OEnds _ _ _ _ _ _ _ _ _ (mkF _ 22 #[.val (.ref a), .val (.int (7 : Int32))] [])
  have Q_1541 := Q_1519.keep K7 (own_nin (show (a : Nat) ≠ r7 by omega))
  have Q_1542 := Q_1520.keep K7
  have Q_1543 := Q_1521.keep K7 (own_all (by omega))
  have Q_1544 := Q_1522.keep K7 (own_nin (show (hb : Nat) ≠ r7 by omega))
  have Q_1545 := Q_1523.keep K7 (own_nin (show (r0 : Nat) ≠ r7 by omega))
  have Q_1546 := Q_1524.keep K7 (own_nin (show (r1 : Nat) ≠ r7 by omega))
  have Q_1547 := Q_1525.keep K7 (own_nin (show (r2 : Nat) ≠ r7 by omega))
  have Q_1548 := Q_1526.keep K7 (own_nin (show (r3 : Nat) ≠ r7 by omega))
  have Q_1549 := Q_1527.keep K7 (own_nin (show (r4 : Nat) ≠ r7 by omega))
  have Q_1550 := Q_1528.keep K7 (own_nin (show (r5 : Nat) ≠ r7 by omega))
  have Q_1551 := N6.keep K7 (own_nin (show (r6 : Nat) ≠ r7 by omega))
  refine Own.iinc_c H_1535 (pc := 22) (8) #[.val (.ref a), .val (.int (8 : Int32))] d5_22 rfl (by decide) rfl ?_
  refine Own.goto H_1535 (pc := 25) 2 d5_25 (by decide) (by decide) ?_
  refine Own.iload_n H_1535 (pc := 2) d5_2 rfl ?_
  refine Own.bipush H_1535 (pc := 3) (8) d5_3 rfl ?_
  refine Own.icmp_ge H_1535 (pc := 5) 28 d5_5 (by decide) (by decide) (fun _ => ?_) (fun hc => absurd hc (by decide))
  exact Own.ret_void H_1535 (pc := 28) d5_28 rfl (by decide) (by decide) (⟨rfl, Q_1541, Q_1542, Q_1543, Q_1544, Q_1545, Q_1546, Q_1547, Q_1548, Q_1549, Q_1550, Q_1551, N7⟩)
theorem pn_rm_scr : plainFor (⟨"com/example/herder/herder/Sha512LanesStartPinLaw", "scribble", "([JJI)V"⟩ : MethodName) = true := by first | exact plainFor_of_name (by first | (simp [plainName, overriddenIn]; done) | decide +kernel) | decide +kernel
theorem ef_rm_scr (b : Nat) (u : Int64) (z : Int32) (m : MethodId) : entryFrame m #[(.ref b), (.long u), (.int z)] 4 = mkF m 0 #[.val (.ref b), .val (.long u), .second, .val (.int z)] [] := by first | (simp [entryFrame, mkF, argsToLocals, Value.category]; done) | rfl
set_option maxRecDepth 65536 in
set_option maxHeartbeats 40000000 in
theorem rm_scr (l : Launch) (Z : State) (a0 : Array Value) (hw : ∀ d ∈ tables_1, d.before a0 Z = true) (b : Nat) (u : Int64) (z : Int32) (h0 : Heap) (n0 : Nat) (Z0 : n0 ≤ h0.size) (xs : List Value) (nn : Nat) (hx : xs.length = nn) (h4 : nn ≤ 4) (hz : z.toInt = (nn : Int)) (A : OAry Z h0 b .long xs) (ge : n0 ≤ b) :
    OMet l Z n0 (⟨"com/example/herder/herder/Sha512LanesStartPinLaw", "scribble", "([JJI)V"⟩ : MethodName) method_3_code 4 none ({ frames := 0, cells := 0, slots := 0, locals := 0 } : Room) #[(.ref b), (.long u), (.int z)] h0 (fun v h => v = none ∧ Keep h0 h [b] ∧ ∃ ys : List Value, ys.length = nn ∧ OAry Z h b .long ys) := by
  refine OMet.of pn_rm_scr Z0 (ef_rm_scr b u z) ?_
  intro p e s m below meth c T H
  refine Own.iload_n H (pc := 0) d4_0 rfl ?_
  refine Own.if_le H (pc := 1) 8 d4_1 (by decide) (by decide) (fun hs0 => ?_) (fun hs0 => ?_)
  · replace hs0 : ¬ 0 < (z).toInt := fun q => hs0 (own_lt.mpr q)
    refine Own.iload_n H (pc := 8) d4_8 rfl ?_
    refine Own.iconst H (pc := 9) (1) d4_9 rfl ?_
    refine Own.icmp_le H (pc := 10) 19 d4_10 (by decide) (by decide) (fun _ => ?_) (fun hX => absurd hX (fun q => absurd (own_lt.mp q) (show ¬ (1 : Int) < z.toInt by omega)))
    refine Own.iload_n H (pc := 19) d4_19 rfl ?_
    refine Own.iconst H (pc := 20) (2) d4_20 rfl ?_
    refine Own.icmp_le H (pc := 21) 32 d4_21 (by decide) (by decide) (fun _ => ?_) (fun hX => absurd hX (fun q => absurd (own_lt.mp q) (show ¬ (2 : Int) < z.toInt by omega)))
    refine Own.iload_n H (pc := 32) d4_32 rfl ?_
    refine Own.iconst H (pc := 33) (3) d4_33 rfl ?_
    refine Own.icmp_le H (pc := 34) 45 d4_34 (by decide) (by decide) (fun _ => ?_) (fun hX => absurd hX (fun q => absurd (own_lt.mp q) (show ¬ (3 : Int) < z.toInt by omega)))
    exact Own.ret_void H (pc := 45) d4_45 rfl (by decide) (by decide) (⟨rfl, (Keep.refl h0 [b]), _, by simpa using hx, A⟩)
  · replace hs0 : 0 < (z).toInt := own_lt.mp hs0
    refine Own.aload_n H (pc := 4) d4_4 rfl rfl ?_
    refine Own.iconst H (pc := 5) (0) d4_5 rfl ?_
    refine Own.lload_n H (pc := 6) d4_6 rfl ?_
    refine Own.lastore H (pc := 7) 0 d4_7 A ge rfl (by (try simp); omega) (fun T_1554 h_1555 H_1553 W_1556 A_1557 => ?_)
    have K_1558 := (Keep.refl h0 [b]).wr W_1556 (Or.inl List.mem_cons_self)
    refine Own.iload_n H_1553 (pc := 8) d4_8 rfl ?_
    refine Own.iconst H_1553 (pc := 9) (1) d4_9 rfl ?_
    refine Own.icmp_le H_1553 (pc := 10) 19 d4_10 (by decide) (by decide) (fun hs1 => ?_) (fun hs1 => ?_)
    · replace hs1 : ¬ 1 < (z).toInt := fun q => hs1 (own_lt.mpr q)
      refine Own.iload_n H_1553 (pc := 19) d4_19 rfl ?_
      refine Own.iconst H_1553 (pc := 20) (2) d4_20 rfl ?_
      refine Own.icmp_le H_1553 (pc := 21) 32 d4_21 (by decide) (by decide) (fun _ => ?_) (fun hX => absurd hX (fun q => absurd (own_lt.mp q) (show ¬ (2 : Int) < z.toInt by omega)))
      refine Own.iload_n H_1553 (pc := 32) d4_32 rfl ?_
      refine Own.iconst H_1553 (pc := 33) (3) d4_33 rfl ?_
      refine Own.icmp_le H_1553 (pc := 34) 45 d4_34 (by decide) (by decide) (fun _ => ?_) (fun hX => absurd hX (fun q => absurd (own_lt.mp q) (show ¬ (3 : Int) < z.toInt by omega)))
      exact Own.ret_void H_1553 (pc := 45) d4_45 rfl (by decide) (by decide) (⟨rfl, K_1558, _, by simpa using hx, A_1557⟩)
    · replace hs1 : 1 < (z).toInt := own_lt.mp hs1
      refine Own.aload_n H_1553 (pc := 13) d4_13 rfl rfl ?_
      refine Own.iconst H_1553 (pc := 14) (1) d4_14 rfl ?_
      refine Own.lload_n H_1553 (pc := 15) d4_15 rfl ?_
      refine Own.lconst H_1553 (pc := 16) (1) d4_16 rfl ?_
      refine Own.ladd H_1553 (pc := 17) d4_17 ?_
      refine Own.lastore H_1553 (pc := 18) 1 d4_18 A_1557 ge rfl (by (try simp); omega) (fun T_1560 h_1561 H_1559 W_1562 A_1563 => ?_)
      have K_1564 := K_1558.wr W_1562 (Or.inl List.mem_cons_self)
      refine Own.iload_n H_1559 (pc := 19) d4_19 rfl ?_
      refine Own.iconst H_1559 (pc := 20) (2) d4_20 rfl ?_
      refine Own.icmp_le H_1559 (pc := 21) 32 d4_21 (by decide) (by decide) (fun hs2 => ?_) (fun hs2 => ?_)
      · replace hs2 : ¬ 2 < (z).toInt := fun q => hs2 (own_lt.mpr q)
        refine Own.iload_n H_1559 (pc := 32) d4_32 rfl ?_
        refine Own.iconst H_1559 (pc := 33) (3) d4_33 rfl ?_
        refine Own.icmp_le H_1559 (pc := 34) 45 d4_34 (by decide) (by decide) (fun _ => ?_) (fun hX => absurd hX (fun q => absurd (own_lt.mp q) (show ¬ (3 : Int) < z.toInt by omega)))
        exact Own.ret_void H_1559 (pc := 45) d4_45 rfl (by decide) (by decide) (⟨rfl, K_1564, _, by simpa using hx, A_1563⟩)
      · replace hs2 : 2 < (z).toInt := own_lt.mp hs2
        refine Own.aload_n H_1559 (pc := 24) d4_24 rfl rfl ?_
        refine Own.iconst H_1559 (pc := 25) (2) d4_25 rfl ?_
        refine Own.lload_n H_1559 (pc := 26) d4_26 rfl ?_
        refine Own.ldc2_w H_1559 (pc := 27) d4_27 (hw _ (List.mem_of_getElem? (i := 30) rfl)) ?_
        refine Own.lxor H_1559 (pc := 30) d4_30 ?_
        refine Own.lastore H_1559 (pc := 31) 2 d4_31 A_1563 ge rfl (by (try simp); omega) (fun T_1566 h_1567 H_1565 W_1568 A_1569 => ?_)
        have K_1570 := K_1564.wr W_1568 (Or.inl List.mem_cons_self)
        refine Own.iload_n H_1565 (pc := 32) d4_32 rfl ?_
        refine Own.iconst H_1565 (pc := 33) (3) d4_33 rfl ?_
        refine Own.icmp_le H_1565 (pc := 34) 45 d4_34 (by decide) (by decide) (fun hs3 => ?_) (fun hs3 => ?_)
        · replace hs3 : ¬ 3 < (z).toInt := fun q => hs3 (own_lt.mpr q)
          exact Own.ret_void H_1565 (pc := 45) d4_45 rfl (by decide) (by decide) (⟨rfl, K_1570, _, by simpa using hx, A_1569⟩)
        · replace hs3 : 3 < (z).toInt := own_lt.mp hs3
          refine Own.aload_n H_1565 (pc := 37) d4_37 rfl rfl ?_
          refine Own.iconst H_1565 (pc := 38) (3) d4_38 rfl ?_
          refine Own.lload_n H_1565 (pc := 39) d4_39 rfl ?_
          refine Own.ldc2_w H_1565 (pc := 40) d4_40 (hw _ (List.mem_of_getElem? (i := 54) rfl)) ?_
          refine Own.lxor H_1565 (pc := 43) d4_43 ?_
          refine Own.lastore H_1565 (pc := 44) 3 d4_44 A_1569 ge rfl (by (try simp); omega) (fun T_1572 h_1573 H_1571 W_1574 A_1575 => ?_)
          have K_1576 := K_1570.wr W_1574 (Or.inl List.mem_cons_self)
          exact Own.ret_void H_1571 (pc := 45) d4_45 rfl (by decide) (by decide) (⟨rfl, K_1576, _, by simpa using hx, A_1575⟩)
theorem pn_rm_same : plainFor (⟨"com/example/herder/herder/Sha512LanesStartPinLaw", "same", "([JJI)Z"⟩ : MethodName) = true := by first | exact plainFor_of_name (by first | (simp [plainName, overriddenIn]; done) | decide +kernel) | decide +kernel
theorem ef_rm_same (b : Nat) (u : Int64) (z : Int32) (m : MethodId) : entryFrame m #[(.ref b), (.long u), (.int z)] 4 = mkF m 0 #[.val (.ref b), .val (.long u), .second, .val (.int z)] [] := by first | (simp [entryFrame, mkF, argsToLocals, Value.category]; done) | rfl
set_option maxRecDepth 65536 in
set_option maxHeartbeats 40000000 in
theorem rm_same (l : Launch) (Z : State) (a0 : Array Value) (hw : ∀ d ∈ tables_1, d.before a0 Z = true) (b : Nat) (u : Int64) (z : Int32) (h0 : Heap) (n0 : Nat) (Z0 : n0 ≤ h0.size) (nn : Nat) (h4 : nn ≤ 4) (hz : z.toInt = (nn : Int)) (A : OAry Z h0 b .long (List.replicate nn (.long u))) :
    OMet l Z n0 (⟨"com/example/herder/herder/Sha512LanesStartPinLaw", "same", "([JJI)Z"⟩ : MethodName) method_4_code 4 (some .boolean) ({ frames := 0, cells := 0, slots := 0, locals := 0 } : Room) #[(.ref b), (.long u), (.int z)] h0 (fun v h => v = some (.int 1) ∧ h = h0) := by
  refine OMet.of pn_rm_same Z0 (ef_rm_same b u z) ?_
  intro p e s m below meth c T H
  refine Own.aload_n H (pc := 0) d7_0 rfl rfl ?_
  refine Own.arraylength H (pc := 1) z d7_1 A (by rw [List.length_replicate]; exact hz) ?_
  refine Own.iload_n H (pc := 2) d7_2 rfl ?_
  refine Own.icmp_eq H (pc := 3) 8 d7_3 (by decide) (by decide) (fun _ => ?_) (fun hX => absurd rfl hX)
  refine Own.iload_n H (pc := 8) d7_8 rfl ?_
  refine Own.if_le H (pc := 9) 22 d7_9 (by decide) (by decide) (fun hs0 => ?_) (fun hs0 => ?_)
  · replace hs0 : ¬ 0 < (z).toInt := fun q => hs0 (own_lt.mpr q)
    refine Own.iload_n H (pc := 22) d7_22 rfl ?_
    refine Own.iconst H (pc := 23) (1) d7_23 rfl ?_
    refine Own.icmp_le H (pc := 24) 37 d7_24 (by decide) (by decide) (fun _ => ?_) (fun hX => absurd hX (fun q => absurd (own_lt.mp q) (show ¬ (1 : Int) < z.toInt by omega)))
    refine Own.iload_n H (pc := 37) d7_37 rfl ?_
    refine Own.iconst H (pc := 38) (2) d7_38 rfl ?_
    refine Own.icmp_le H (pc := 39) 52 d7_39 (by decide) (by decide) (fun _ => ?_) (fun hX => absurd hX (fun q => absurd (own_lt.mp q) (show ¬ (2 : Int) < z.toInt by omega)))
    refine Own.iload_n H (pc := 52) d7_52 rfl ?_
    refine Own.iconst H (pc := 53) (3) d7_53 rfl ?_
    refine Own.icmp_le H (pc := 54) 67 d7_54 (by decide) (by decide) (fun _ => ?_) (fun hX => absurd hX (fun q => absurd (own_lt.mp q) (show ¬ (3 : Int) < z.toInt by omega)))
    refine Own.iconst H (pc := 67) (1) d7_67 rfl ?_
    exact Own.ret_nar H (pc := 68) (1) d7_68 rfl (by simp) (by decide) (by decide) (by decide) (⟨rfl, rfl⟩)
  · replace hs0 : 0 < (z).toInt := own_lt.mp hs0
    refine Own.aload_n H (pc := 12) d7_12 rfl rfl ?_
    refine Own.iconst H (pc := 13) (0) d7_13 rfl ?_
    refine Own.laload H (pc := 14) (v := u) 0 d7_14 A rfl (own_rep (by omega)) ?_
    refine Own.lload_n H (pc := 15) d7_15 rfl ?_
    refine Own.lcmp H (pc := 16) d7_16 ?_
    refine Own.if_eq H (pc := 17) 22 d7_17 (by decide) (by decide) (fun _ => ?_) (fun hX => absurd ((own_ce _ _).mpr rfl) hX)
    refine Own.iload_n H (pc := 22) d7_22 rfl ?_
    refine Own.iconst H (pc := 23) (1) d7_23 rfl ?_
    refine Own.icmp_le H (pc := 24) 37 d7_24 (by decide) (by decide) (fun hs1 => ?_) (fun hs1 => ?_)
    · replace hs1 : ¬ 1 < (z).toInt := fun q => hs1 (own_lt.mpr q)
      refine Own.iload_n H (pc := 37) d7_37 rfl ?_
      refine Own.iconst H (pc := 38) (2) d7_38 rfl ?_
      refine Own.icmp_le H (pc := 39) 52 d7_39 (by decide) (by decide) (fun _ => ?_) (fun hX => absurd hX (fun q => absurd (own_lt.mp q) (show ¬ (2 : Int) < z.toInt by omega)))
      refine Own.iload_n H (pc := 52) d7_52 rfl ?_
      refine Own.iconst H (pc := 53) (3) d7_53 rfl ?_
      refine Own.icmp_le H (pc := 54) 67 d7_54 (by decide) (by decide) (fun _ => ?_) (fun hX => absurd hX (fun q => absurd (own_lt.mp q) (show ¬ (3 : Int) < z.toInt by omega)))
      refine Own.iconst H (pc := 67) (1) d7_67 rfl ?_
      exact Own.ret_nar H (pc := 68) (1) d7_68 rfl (by simp) (by decide) (by decide) (by decide) (⟨rfl, rfl⟩)
    · replace hs1 : 1 < (z).toInt := own_lt.mp hs1
      refine Own.aload_n H (pc := 27) d7_27 rfl rfl ?_
      refine Own.iconst H (pc := 28) (1) d7_28 rfl ?_
      refine Own.laload H (pc := 29) (v := u) 1 d7_29 A rfl (own_rep (by omega)) ?_
      refine Own.lload_n H (pc := 30) d7_30 rfl ?_
      refine Own.lcmp H (pc := 31) d7_31 ?_
      refine Own.if_eq H (pc := 32) 37 d7_32 (by decide) (by decide) (fun _ => ?_) (fun hX => absurd ((own_ce _ _).mpr rfl) hX)
      refine Own.iload_n H (pc := 37) d7_37 rfl ?_
      refine Own.iconst H (pc := 38) (2) d7_38 rfl ?_
      refine Own.icmp_le H (pc := 39) 52 d7_39 (by decide) (by decide) (fun hs2 => ?_) (fun hs2 => ?_)
      · replace hs2 : ¬ 2 < (z).toInt := fun q => hs2 (own_lt.mpr q)
        refine Own.iload_n H (pc := 52) d7_52 rfl ?_
        refine Own.iconst H (pc := 53) (3) d7_53 rfl ?_
        refine Own.icmp_le H (pc := 54) 67 d7_54 (by decide) (by decide) (fun _ => ?_) (fun hX => absurd hX (fun q => absurd (own_lt.mp q) (show ¬ (3 : Int) < z.toInt by omega)))
        refine Own.iconst H (pc := 67) (1) d7_67 rfl ?_
        exact Own.ret_nar H (pc := 68) (1) d7_68 rfl (by simp) (by decide) (by decide) (by decide) (⟨rfl, rfl⟩)
      · replace hs2 : 2 < (z).toInt := own_lt.mp hs2
        refine Own.aload_n H (pc := 42) d7_42 rfl rfl ?_
        refine Own.iconst H (pc := 43) (2) d7_43 rfl ?_
        refine Own.laload H (pc := 44) (v := u) 2 d7_44 A rfl (own_rep (by omega)) ?_
        refine Own.lload_n H (pc := 45) d7_45 rfl ?_
        refine Own.lcmp H (pc := 46) d7_46 ?_
        refine Own.if_eq H (pc := 47) 52 d7_47 (by decide) (by decide) (fun _ => ?_) (fun hX => absurd ((own_ce _ _).mpr rfl) hX)
        refine Own.iload_n H (pc := 52) d7_52 rfl ?_
        refine Own.iconst H (pc := 53) (3) d7_53 rfl ?_
        refine Own.icmp_le H (pc := 54) 67 d7_54 (by decide) (by decide) (fun hs3 => ?_) (fun hs3 => ?_)
        · replace hs3 : ¬ 3 < (z).toInt := fun q => hs3 (own_lt.mpr q)
          refine Own.iconst H (pc := 67) (1) d7_67 rfl ?_
          exact Own.ret_nar H (pc := 68) (1) d7_68 rfl (by simp) (by decide) (by decide) (by decide) (⟨rfl, rfl⟩)
        · replace hs3 : 3 < (z).toInt := own_lt.mp hs3
          refine Own.aload_n H (pc := 57) d7_57 rfl rfl ?_
          refine Own.iconst H (pc := 58) (3) d7_58 rfl ?_
          refine Own.laload H (pc := 59) (v := u) 3 d7_59 A rfl (own_rep (by omega)) ?_
          refine Own.lload_n H (pc := 60) d7_60 rfl ?_
          refine Own.lcmp H (pc := 61) d7_61 ?_
          refine Own.if_eq H (pc := 62) 67 d7_62 (by decide) (by decide) (fun _ => ?_) (fun hX => absurd ((own_ce _ _).mpr rfl) hX)
          refine Own.iconst H (pc := 67) (1) d7_67 rfl ?_
          exact Own.ret_nar H (pc := 68) (1) d7_68 rfl (by simp) (by decide) (by decide) (by decide) (⟨rfl, rfl⟩)
theorem pn_rm_law : plainFor x = true := by first | exact plainFor_of_name (by first | (simp [plainName, overriddenIn]; done) | decide +kernel) | decide +kernel
theorem ef_rm_law (p0 : Int32) (p1 : Int64) (p2 : Int64) (p3 : Int32) (m : MethodId) : entryFrame m #[(.int p0), (.long p1), (.long p2), (.int p3)] maxLocals = mkF m 0 #[.val (.int p0), .val (.long p1), .second, .val (.long p2), .second, .val (.int p3), .unset, .unset, .unset, .unset] [] := by first | (simp [entryFrame, mkF, argsToLocals, Value.category, maxLocals]; done) | rfl
set_option maxRecDepth 65536 in
set_option maxHeartbeats 40000000 in
theorem rm_law (l : Launch) (Z : State) (a0 : Array Value) (hw : ∀ d ∈ tables_1, d.before a0 Z = true) (p0 : Int32) (p1 : Int64) (p2 : Int64) (p3 : Int32) (h0 : Heap) (n0 : Nat) (Z0 : n0 ≤ h0.size) (O : Old Z n0 h0) (iv : Nat) (SI : Sta Z Z.heap "com/example/herder/herder/Sha512Lanes" "INITIAL" "[J" (.ref iv)) (AI : OAry Z Z.heap iv .long [.long (7640891576956012808 : Int64), .long (-4942790177534073029 : Int64), .long (4354685564936845355 : Int64), .long (-6534734903238641935 : Int64), .long (5840696475078001361 : Int64), .long (-7276294671716946913 : Int64), .long (2270897969802886507 : Int64), .long (6620516959819538809 : Int64)]) :
    OMet l Z n0 x code maxLocals ret room_1 #[(.int p0), (.long p1), (.long p2), (.int p3)] h0 (fun v h => v = some (.int 1)) := by
  refine OMet.of pn_rm_law Z0 (ef_rm_law p0 p1 p2 p3) ?_
  intro p e s m below meth c T H
  refine Own.iload_n H (pc := 0) at_0 rfl ?_
  refine Own.bipush H (pc := 1) (7) at_1 rfl ?_
  refine Own.iand H (pc := 3) at_3 ?_
  refine Own.iconst H (pc := 4) (5) at_4 rfl ?_
  refine Own.irem H (pc := 5) at_5 (by decide) ?_
  generalize ez : ((p0 &&& (7 : Int32)) % (5 : Int32)) = z
  have hz5 : 0 ≤ z.toInt ∧ z.toInt < 5 := by
    rw [← ez]
    have h1 := (c_iremV (p0 &&& 7) 5).1 (c_and p0 7 (by decide)).1 (by decide)
    exact ⟨h1.1, h1.2.1⟩
  clear ez
  obtain ⟨nn, hz⟩ : ∃ nn : Nat, z.toInt = (nn : Int) := ⟨z.toInt.toNat, by omega⟩
  have h4 : nn ≤ 4 := by omega
  refine Own.istore H (pc := 6) #[.val (.int p0), .val (.long p1), .second, .val (.long p2), .second, .val (.int p3), .val (.int z), .unset, .unset, .unset] at_6 rfl ?_
  refine Own.new_ H (pc := 8) at_8 (hw _ (List.mem_of_getElem? (i := 0) rfl)) (hw _ (List.mem_of_getElem? (i := 1) rfl)) (hw _ (List.mem_of_getElem? (i := 2) rfl)) (by decide) (by decide) (fun T_1578 h_1579 a eq_a ge_a H_1577 Ext_a Exa_a D_a => ?_)
  have O1 := O.ext Ext_a
  refine Own.dup H_1577 (pc := 11) at_11 rfl ?_
  refine Own.iload H_1577 (pc := 12) at_12 rfl ?_
  refine Own.callI H_1577 (pc := 14) (y := (⟨"com/example/herder/herder/Sha512Lanes", "<init>", "(I)V"⟩ : MethodName)) a [(.int z)] [(.ref a)] at_14 rfl (hw _ (List.mem_of_getElem? (i := 3) rfl)) (hw _ (List.mem_of_getElem? (i := 4) rfl)) (hw _ (List.mem_of_getElem? (i := 2) rfl)) (hw _ (List.mem_of_getElem? (i := 5) rfl)) (by decide) (rm_init l Z a0 hw a z _ n0 H_1577.z0 _ (D_a (Or.inr (hw _ (List.mem_of_getElem? (i := 12) rfl))) (ty := (.array (.array .long))) (by decide)) _ (D_a (Or.inr (hw _ (List.mem_of_getElem? (i := 14) rfl))) (ty := (.array (.array .long))) (by decide)) _ (D_a (Or.inr (hw _ (List.mem_of_getElem? (i := 16) rfl))) (ty := (.array (.array .long))) (by decide)) _ (D_a (Or.inr (hw _ (List.mem_of_getElem? (i := 18) rfl))) (ty := .int) (by decide)) Exa_a ge_a O1 nn hz h4) (r := none) (ps := [.int]) (by decide) rfl rfl 1 rfl (by decide) (by decide) (by decide) (by decide) rfl (fun T_1581 v_1583 h_1582 H_1580 z_1584 q_1585 => ?_)
  obtain ⟨rfl, hb, r0, r1, r2, r3, r4, r5, r6, r7, F, E, O2, R, ah, q0, q1, q2, q3, q4, q5, q6, q7, B0, B1, B2, B3, B4, B5, B6, B7⟩ := q_1585
  show OEnds _ _ _ _ _ _ _ _ _ (mkF _ 17 #[.val (.int p0), .val (.long p1), .second, .val (.long p2), .second, .val (.int p3), .val (.int z), .unset, .unset, .unset] [(.ref a)])
  refine Own.astore H_1580 (pc := 17) #[.val (.int p0), .val (.long p1), .second, .val (.long p2), .second, .val (.int p3), .val (.int z), .val (.ref a), .unset, .unset] at_17 rfl rfl ?_
  refine Own.aload H_1580 (pc := 19) at_19 rfl rfl ?_
  refine Own.callV H_1580 (pc := 21) (y := (⟨"com/example/herder/herder/Sha512Lanes", "digest", "()[[J"⟩ : MethodName)) (z := (⟨"com/example/herder/herder/Sha512Lanes", "digest", "()[[J"⟩ : MethodName)) (CC := "com/example/herder/herder/Sha512Lanes") a [] [] at_21 (hw _ (List.mem_of_getElem? (i := 21) rfl)) (hw _ (List.mem_of_getElem? (i := 22) rfl)) (H_1580.nf (hw _ (List.mem_of_getElem? (i := 24) rfl))) (hw _ (List.mem_of_getElem? (i := 24) rfl)) (hw _ (List.mem_of_getElem? (i := 23) rfl)) (hw _ (List.mem_of_getElem? (i := 2) rfl)) (hw _ (List.mem_of_getElem? (i := 25) rfl)) (by decide) E (rm_digest l Z a0 hw a _ n0 H_1580.z0 hb F) (r := (some (.array (.array .long)))) (ps := []) (by decide) rfl rfl 0 rfl (by decide) (by decide) (by decide) (by decide) rfl (fun T_1587 v_1589 h_1588 H_1586 z_1590 q_1591 => ?_)
  obtain ⟨rfl, rfl⟩ := q_1591
  show OEnds _ _ _ _ _ _ _ _ _ (mkF _ 24 #[.val (.int p0), .val (.long p1), .second, .val (.long p2), .second, .val (.int p3), .val (.int z), .val (.ref a), .unset, .unset] [(.ref hb)])
  refine Own.astore H_1586 (pc := 24) #[.val (.int p0), .val (.long p1), .second, .val (.long p2), .second, .val (.int p3), .val (.int z), .val (.ref a), .val (.ref hb), .unset] at_24 rfl rfl ?_
  refine Own.iload H_1586 (pc := 26) at_26 rfl ?_
  refine Own.iconst H_1586 (pc := 28) (1) at_28 rfl ?_
  refine Own.iand H_1586 (pc := 29) at_29 ?_
  refine Own.if_eq H_1586 (pc := 30) 38 at_30 (by decide) (by decide) (fun hk => ?_) (fun hk => ?_)
  · refine Own.aload H_1586 (pc := 38) at_38 rfl rfl ?_
    refine Own.iconst H_1586 (pc := 40) (0) at_40 rfl ?_
    refine Own.aaload H_1586 (pc := 41) (v := (.ref r0)) 0 at_41 R rfl rfl rfl ?_
    refine Own.lload_n H_1586 (pc := 42) at_42 rfl ?_
    refine Own.iload H_1586 (pc := 43) at_43 rfl ?_
    refine Own.callS H_1586 (pc := 45) (y := (⟨"com/example/herder/herder/Sha512LanesStartPinLaw", "scribble", "([JJI)V"⟩ : MethodName)) [(.ref r0), (.long p1), (.int z)] [] at_45 (hw _ (List.mem_of_getElem? (i := 26) rfl)) (hw _ (List.mem_of_getElem? (i := 27) rfl)) (hw _ (List.mem_of_getElem? (i := 28) rfl)) (hw _ (List.mem_of_getElem? (i := 29) rfl)) (by decide) (rm_scr l Z a0 hw r0 p1 z _ n0 H_1586.z0 _ nn (by simp) h4 hz B0 (by omega)) (r := none) (ps := [(.array .long), .long, .int]) (by decide) rfl rfl 0 rfl (by decide) (by decide) (by decide) (by decide) rfl (fun T_1593 v_1595 h_1594 H_1592 z_1596 q_1597 => ?_)
    obtain ⟨rfl, K0, ys0, ly0, Y0⟩ := q_1597
    show OEnds _ _ _ _ _ _ _ _ _ (mkF _ 48 #[.val (.int p0), .val (.long p1), .second, .val (.long p2), .second, .val (.int p3), .val (.int z), .val (.ref a), .val (.ref hb), .unset] [])
    have Q_1598 := F.keep K0 (own_nin (show (a : Nat) ≠ r0 by omega))
    have Q_1599 := E.keep K0
    have Q_1600 := O2.keep K0 (own_all (by omega))
    have Q_1601 := R.keep K0 (own_nin (show (hb : Nat) ≠ r0 by omega))
    have Q_1603 := B1.keep K0 (own_nin (show (r1 : Nat) ≠ r0 by omega))
    have Q_1604 := B2.keep K0 (own_nin (show (r2 : Nat) ≠ r0 by omega))
    have Q_1605 := B3.keep K0 (own_nin (show (r3 : Nat) ≠ r0 by omega))
    have Q_1606 := B4.keep K0 (own_nin (show (r4 : Nat) ≠ r0 by omega))
    have Q_1607 := B5.keep K0 (own_nin (show (r5 : Nat) ≠ r0 by omega))
    have Q_1608 := B6.keep K0 (own_nin (show (r6 : Nat) ≠ r0 by omega))
    have Q_1609 := B7.keep K0 (own_nin (show (r7 : Nat) ≠ r0 by omega))
    refine Own.aload H_1592 (pc := 48) at_48 rfl rfl ?_
    refine Own.iconst H_1592 (pc := 50) (1) at_50 rfl ?_
    refine Own.aaload H_1592 (pc := 51) (v := (.ref r1)) 1 at_51 Q_1601 rfl rfl rfl ?_
    refine Own.lload_n H_1592 (pc := 52) at_52 rfl ?_
    refine Own.iload H_1592 (pc := 53) at_53 rfl ?_
    refine Own.callS H_1592 (pc := 55) (y := (⟨"com/example/herder/herder/Sha512LanesStartPinLaw", "scribble", "([JJI)V"⟩ : MethodName)) [(.ref r1), (.long p2), (.int z)] [] at_55 (hw _ (List.mem_of_getElem? (i := 26) rfl)) (hw _ (List.mem_of_getElem? (i := 27) rfl)) (hw _ (List.mem_of_getElem? (i := 28) rfl)) (hw _ (List.mem_of_getElem? (i := 29) rfl)) (by decide) (rm_scr l Z a0 hw r1 p2 z _ n0 H_1592.z0 _ nn (by simp) h4 hz Q_1603 (by omega)) (r := none) (ps := [(.array .long), .long, .int]) (by decide) rfl rfl 0 rfl (by decide) (by decide) (by decide) (by decide) rfl (fun T_1611 v_1613 h_1612 H_1610 z_1614 q_1615 => ?_)
    obtain ⟨rfl, K1, ys1, ly1, Y1⟩ := q_1615
    show OEnds _ _ _ _ _ _ _ _ _ (mkF _ 58 #[.val (.int p0), .val (.long p1), .second, .val (.long p2), .second, .val (.int p3), .val (.int z), .val (.ref a), .val (.ref hb), .unset] [])
    have Q_1616 := Q_1598.keep K1 (own_nin (show (a : Nat) ≠ r1 by omega))
    have Q_1617 := Q_1599.keep K1
    have Q_1618 := Q_1600.keep K1 (own_all (by omega))
    have Q_1619 := Q_1601.keep K1 (own_nin (show (hb : Nat) ≠ r1 by omega))
    have Q_1620 := Y0.keep K1 (own_nin (show (r0 : Nat) ≠ r1 by omega))
    have Q_1622 := Q_1604.keep K1 (own_nin (show (r2 : Nat) ≠ r1 by omega))
    have Q_1623 := Q_1605.keep K1 (own_nin (show (r3 : Nat) ≠ r1 by omega))
    have Q_1624 := Q_1606.keep K1 (own_nin (show (r4 : Nat) ≠ r1 by omega))
    have Q_1625 := Q_1607.keep K1 (own_nin (show (r5 : Nat) ≠ r1 by omega))
    have Q_1626 := Q_1608.keep K1 (own_nin (show (r6 : Nat) ≠ r1 by omega))
    have Q_1627 := Q_1609.keep K1 (own_nin (show (r7 : Nat) ≠ r1 by omega))
    refine Own.aload H_1610 (pc := 58) at_58 rfl rfl ?_
    refine Own.iconst H_1610 (pc := 60) (2) at_60 rfl ?_
    refine Own.aaload H_1610 (pc := 61) (v := (.ref r2)) 2 at_61 Q_1619 rfl rfl rfl ?_
    refine Own.lload_n H_1610 (pc := 62) at_62 rfl ?_
    refine Own.lload_n H_1610 (pc := 63) at_63 rfl ?_
    refine Own.lxor H_1610 (pc := 64) at_64 ?_
    refine Own.iload H_1610 (pc := 65) at_65 rfl ?_
    refine Own.callS H_1610 (pc := 67) (y := (⟨"com/example/herder/herder/Sha512LanesStartPinLaw", "scribble", "([JJI)V"⟩ : MethodName)) [(.ref r2), (.long (p1 ^^^ p2)), (.int z)] [] at_67 (hw _ (List.mem_of_getElem? (i := 26) rfl)) (hw _ (List.mem_of_getElem? (i := 27) rfl)) (hw _ (List.mem_of_getElem? (i := 28) rfl)) (hw _ (List.mem_of_getElem? (i := 29) rfl)) (by decide) (rm_scr l Z a0 hw r2 (p1 ^^^ p2) z _ n0 H_1610.z0 _ nn (by simp) h4 hz Q_1622 (by omega)) (r := none) (ps := [(.array .long), .long, .int]) (by decide) rfl rfl 0 rfl (by decide) (by decide) (by decide) (by decide) rfl (fun T_1629 v_1631 h_1630 H_1628 z_1632 q_1633 => ?_)
    obtain ⟨rfl, K2, ys2, ly2, Y2⟩ := q_1633
    show OEnds _ _ _ _ _ _ _ _ _ (mkF _ 70 #[.val (.int p0), .val (.long p1), .second, .val (.long p2), .second, .val (.int p3), .val (.int z), .val (.ref a), .val (.ref hb), .unset] [])
    have Q_1634 := Q_1616.keep K2 (own_nin (show (a : Nat) ≠ r2 by omega))
    have Q_1635 := Q_1617.keep K2
    have Q_1636 := Q_1618.keep K2 (own_all (by omega))
    have Q_1637 := Q_1619.keep K2 (own_nin (show (hb : Nat) ≠ r2 by omega))
    have Q_1638 := Q_1620.keep K2 (own_nin (show (r0 : Nat) ≠ r2 by omega))
    have Q_1639 := Y1.keep K2 (own_nin (show (r1 : Nat) ≠ r2 by omega))
    have Q_1641 := Q_1623.keep K2 (own_nin (show (r3 : Nat) ≠ r2 by omega))
    have Q_1642 := Q_1624.keep K2 (own_nin (show (r4 : Nat) ≠ r2 by omega))
    have Q_1643 := Q_1625.keep K2 (own_nin (show (r5 : Nat) ≠ r2 by omega))
    have Q_1644 := Q_1626.keep K2 (own_nin (show (r6 : Nat) ≠ r2 by omega))
    have Q_1645 := Q_1627.keep K2 (own_nin (show (r7 : Nat) ≠ r2 by omega))
    refine Own.aload H_1628 (pc := 70) at_70 rfl rfl ?_
    refine Own.iconst H_1628 (pc := 72) (3) at_72 rfl ?_
    refine Own.aaload H_1628 (pc := 73) (v := (.ref r3)) 3 at_73 Q_1637 rfl rfl rfl ?_
    refine Own.lload_n H_1628 (pc := 74) at_74 rfl ?_
    refine Own.lload_n H_1628 (pc := 75) at_75 rfl ?_
    refine Own.ladd H_1628 (pc := 76) at_76 ?_
    refine Own.iload H_1628 (pc := 77) at_77 rfl ?_
    refine Own.callS H_1628 (pc := 79) (y := (⟨"com/example/herder/herder/Sha512LanesStartPinLaw", "scribble", "([JJI)V"⟩ : MethodName)) [(.ref r3), (.long (p1 + p2)), (.int z)] [] at_79 (hw _ (List.mem_of_getElem? (i := 26) rfl)) (hw _ (List.mem_of_getElem? (i := 27) rfl)) (hw _ (List.mem_of_getElem? (i := 28) rfl)) (hw _ (List.mem_of_getElem? (i := 29) rfl)) (by decide) (rm_scr l Z a0 hw r3 (p1 + p2) z _ n0 H_1628.z0 _ nn (by simp) h4 hz Q_1641 (by omega)) (r := none) (ps := [(.array .long), .long, .int]) (by decide) rfl rfl 0 rfl (by decide) (by decide) (by decide) (by decide) rfl (fun T_1647 v_1649 h_1648 H_1646 z_1650 q_1651 => ?_)
    obtain ⟨rfl, K3, ys3, ly3, Y3⟩ := q_1651
    show OEnds _ _ _ _ _ _ _ _ _ (mkF _ 82 #[.val (.int p0), .val (.long p1), .second, .val (.long p2), .second, .val (.int p3), .val (.int z), .val (.ref a), .val (.ref hb), .unset] [])
    have Q_1652 := Q_1634.keep K3 (own_nin (show (a : Nat) ≠ r3 by omega))
    have Q_1653 := Q_1635.keep K3
    have Q_1654 := Q_1636.keep K3 (own_all (by omega))
    have Q_1655 := Q_1637.keep K3 (own_nin (show (hb : Nat) ≠ r3 by omega))
    have Q_1656 := Q_1638.keep K3 (own_nin (show (r0 : Nat) ≠ r3 by omega))
    have Q_1657 := Q_1639.keep K3 (own_nin (show (r1 : Nat) ≠ r3 by omega))
    have Q_1658 := Y2.keep K3 (own_nin (show (r2 : Nat) ≠ r3 by omega))
    have Q_1660 := Q_1642.keep K3 (own_nin (show (r4 : Nat) ≠ r3 by omega))
    have Q_1661 := Q_1643.keep K3 (own_nin (show (r5 : Nat) ≠ r3 by omega))
    have Q_1662 := Q_1644.keep K3 (own_nin (show (r6 : Nat) ≠ r3 by omega))
    have Q_1663 := Q_1645.keep K3 (own_nin (show (r7 : Nat) ≠ r3 by omega))
    refine Own.aload H_1646 (pc := 82) at_82 rfl rfl ?_
    refine Own.iconst H_1646 (pc := 84) (4) at_84 rfl ?_
    refine Own.aaload H_1646 (pc := 85) (v := (.ref r4)) 4 at_85 Q_1655 rfl rfl rfl ?_
    refine Own.lload_n H_1646 (pc := 86) at_86 rfl ?_
    refine Own.ldc2_w H_1646 (pc := 87) at_87 (hw _ (List.mem_of_getElem? (i := 30) rfl)) ?_
    refine Own.lxor H_1646 (pc := 90) at_90 ?_
    refine Own.iload H_1646 (pc := 91) at_91 rfl ?_
    refine Own.callS H_1646 (pc := 93) (y := (⟨"com/example/herder/herder/Sha512LanesStartPinLaw", "scribble", "([JJI)V"⟩ : MethodName)) [(.ref r4), (.long (p1 ^^^ (-1 : Int64))), (.int z)] [] at_93 (hw _ (List.mem_of_getElem? (i := 26) rfl)) (hw _ (List.mem_of_getElem? (i := 27) rfl)) (hw _ (List.mem_of_getElem? (i := 28) rfl)) (hw _ (List.mem_of_getElem? (i := 29) rfl)) (by decide) (rm_scr l Z a0 hw r4 (p1 ^^^ (-1 : Int64)) z _ n0 H_1646.z0 _ nn (by simp) h4 hz Q_1660 (by omega)) (r := none) (ps := [(.array .long), .long, .int]) (by decide) rfl rfl 0 rfl (by decide) (by decide) (by decide) (by decide) rfl (fun T_1665 v_1667 h_1666 H_1664 z_1668 q_1669 => ?_)
    obtain ⟨rfl, K4, ys4, ly4, Y4⟩ := q_1669
    show OEnds _ _ _ _ _ _ _ _ _ (mkF _ 96 #[.val (.int p0), .val (.long p1), .second, .val (.long p2), .second, .val (.int p3), .val (.int z), .val (.ref a), .val (.ref hb), .unset] [])
    have Q_1670 := Q_1652.keep K4 (own_nin (show (a : Nat) ≠ r4 by omega))
    have Q_1671 := Q_1653.keep K4
    have Q_1672 := Q_1654.keep K4 (own_all (by omega))
    have Q_1673 := Q_1655.keep K4 (own_nin (show (hb : Nat) ≠ r4 by omega))
    have Q_1674 := Q_1656.keep K4 (own_nin (show (r0 : Nat) ≠ r4 by omega))
    have Q_1675 := Q_1657.keep K4 (own_nin (show (r1 : Nat) ≠ r4 by omega))
    have Q_1676 := Q_1658.keep K4 (own_nin (show (r2 : Nat) ≠ r4 by omega))
    have Q_1677 := Y3.keep K4 (own_nin (show (r3 : Nat) ≠ r4 by omega))
    have Q_1679 := Q_1661.keep K4 (own_nin (show (r5 : Nat) ≠ r4 by omega))
    have Q_1680 := Q_1662.keep K4 (own_nin (show (r6 : Nat) ≠ r4 by omega))
    have Q_1681 := Q_1663.keep K4 (own_nin (show (r7 : Nat) ≠ r4 by omega))
    refine Own.aload H_1664 (pc := 96) at_96 rfl rfl ?_
    refine Own.iconst H_1664 (pc := 98) (5) at_98 rfl ?_
    refine Own.aaload H_1664 (pc := 99) (v := (.ref r5)) 5 at_99 Q_1673 rfl rfl rfl ?_
    refine Own.lload_n H_1664 (pc := 100) at_100 rfl ?_
    refine Own.ldc2_w H_1664 (pc := 101) at_101 (hw _ (List.mem_of_getElem? (i := 31) rfl)) ?_
    refine Own.lmul H_1664 (pc := 104) at_104 ?_
    refine Own.iload H_1664 (pc := 105) at_105 rfl ?_
    refine Own.callS H_1664 (pc := 107) (y := (⟨"com/example/herder/herder/Sha512LanesStartPinLaw", "scribble", "([JJI)V"⟩ : MethodName)) [(.ref r5), (.long (p1 * (31 : Int64))), (.int z)] [] at_107 (hw _ (List.mem_of_getElem? (i := 26) rfl)) (hw _ (List.mem_of_getElem? (i := 27) rfl)) (hw _ (List.mem_of_getElem? (i := 28) rfl)) (hw _ (List.mem_of_getElem? (i := 29) rfl)) (by decide) (rm_scr l Z a0 hw r5 (p1 * (31 : Int64)) z _ n0 H_1664.z0 _ nn (by simp) h4 hz Q_1679 (by omega)) (r := none) (ps := [(.array .long), .long, .int]) (by decide) rfl rfl 0 rfl (by decide) (by decide) (by decide) (by decide) rfl (fun T_1683 v_1685 h_1684 H_1682 z_1686 q_1687 => ?_)
    obtain ⟨rfl, K5, ys5, ly5, Y5⟩ := q_1687
    show OEnds _ _ _ _ _ _ _ _ _ (mkF _ 110 #[.val (.int p0), .val (.long p1), .second, .val (.long p2), .second, .val (.int p3), .val (.int z), .val (.ref a), .val (.ref hb), .unset] [])
    have Q_1688 := Q_1670.keep K5 (own_nin (show (a : Nat) ≠ r5 by omega))
    have Q_1689 := Q_1671.keep K5
    have Q_1690 := Q_1672.keep K5 (own_all (by omega))
    have Q_1691 := Q_1673.keep K5 (own_nin (show (hb : Nat) ≠ r5 by omega))
    have Q_1692 := Q_1674.keep K5 (own_nin (show (r0 : Nat) ≠ r5 by omega))
    have Q_1693 := Q_1675.keep K5 (own_nin (show (r1 : Nat) ≠ r5 by omega))
    have Q_1694 := Q_1676.keep K5 (own_nin (show (r2 : Nat) ≠ r5 by omega))
    have Q_1695 := Q_1677.keep K5 (own_nin (show (r3 : Nat) ≠ r5 by omega))
    have Q_1696 := Y4.keep K5 (own_nin (show (r4 : Nat) ≠ r5 by omega))
    have Q_1698 := Q_1680.keep K5 (own_nin (show (r6 : Nat) ≠ r5 by omega))
    have Q_1699 := Q_1681.keep K5 (own_nin (show (r7 : Nat) ≠ r5 by omega))
    refine Own.aload H_1682 (pc := 110) at_110 rfl rfl ?_
    refine Own.bipush H_1682 (pc := 112) (6) at_112 rfl ?_
    refine Own.aaload H_1682 (pc := 114) (v := (.ref r6)) 6 at_114 Q_1691 rfl rfl rfl ?_
    refine Own.lload_n H_1682 (pc := 115) at_115 rfl ?_
    refine Own.lload_n H_1682 (pc := 116) at_116 rfl ?_
    refine Own.lsub H_1682 (pc := 117) at_117 ?_
    refine Own.iload H_1682 (pc := 118) at_118 rfl ?_
    refine Own.callS H_1682 (pc := 120) (y := (⟨"com/example/herder/herder/Sha512LanesStartPinLaw", "scribble", "([JJI)V"⟩ : MethodName)) [(.ref r6), (.long (p2 - p1)), (.int z)] [] at_120 (hw _ (List.mem_of_getElem? (i := 26) rfl)) (hw _ (List.mem_of_getElem? (i := 27) rfl)) (hw _ (List.mem_of_getElem? (i := 28) rfl)) (hw _ (List.mem_of_getElem? (i := 29) rfl)) (by decide) (rm_scr l Z a0 hw r6 (p2 - p1) z _ n0 H_1682.z0 _ nn (by simp) h4 hz Q_1698 (by omega)) (r := none) (ps := [(.array .long), .long, .int]) (by decide) rfl rfl 0 rfl (by decide) (by decide) (by decide) (by decide) rfl (fun T_1701 v_1703 h_1702 H_1700 z_1704 q_1705 => ?_)
    obtain ⟨rfl, K6, ys6, ly6, Y6⟩ := q_1705
    show OEnds _ _ _ _ _ _ _ _ _ (mkF _ 123 #[.val (.int p0), .val (.long p1), .second, .val (.long p2), .second, .val (.int p3), .val (.int z), .val (.ref a), .val (.ref hb), .unset] [])
    have Q_1706 := Q_1688.keep K6 (own_nin (show (a : Nat) ≠ r6 by omega))
    have Q_1707 := Q_1689.keep K6
    have Q_1708 := Q_1690.keep K6 (own_all (by omega))
    have Q_1709 := Q_1691.keep K6 (own_nin (show (hb : Nat) ≠ r6 by omega))
    have Q_1710 := Q_1692.keep K6 (own_nin (show (r0 : Nat) ≠ r6 by omega))
    have Q_1711 := Q_1693.keep K6 (own_nin (show (r1 : Nat) ≠ r6 by omega))
    have Q_1712 := Q_1694.keep K6 (own_nin (show (r2 : Nat) ≠ r6 by omega))
    have Q_1713 := Q_1695.keep K6 (own_nin (show (r3 : Nat) ≠ r6 by omega))
    have Q_1714 := Q_1696.keep K6 (own_nin (show (r4 : Nat) ≠ r6 by omega))
    have Q_1715 := Y5.keep K6 (own_nin (show (r5 : Nat) ≠ r6 by omega))
    have Q_1717 := Q_1699.keep K6 (own_nin (show (r7 : Nat) ≠ r6 by omega))
    refine Own.aload H_1700 (pc := 123) at_123 rfl rfl ?_
    refine Own.bipush H_1700 (pc := 125) (7) at_125 rfl ?_
    refine Own.aaload H_1700 (pc := 127) (v := (.ref r7)) 7 at_127 Q_1709 rfl rfl rfl ?_
    refine Own.lload_n H_1700 (pc := 128) at_128 rfl ?_
    refine Own.lneg H_1700 (pc := 129) at_129 ?_
    refine Own.iload H_1700 (pc := 130) at_130 rfl ?_
    refine Own.callS H_1700 (pc := 132) (y := (⟨"com/example/herder/herder/Sha512LanesStartPinLaw", "scribble", "([JJI)V"⟩ : MethodName)) [(.ref r7), (.long (-p2)), (.int z)] [] at_132 (hw _ (List.mem_of_getElem? (i := 26) rfl)) (hw _ (List.mem_of_getElem? (i := 27) rfl)) (hw _ (List.mem_of_getElem? (i := 28) rfl)) (hw _ (List.mem_of_getElem? (i := 29) rfl)) (by decide) (rm_scr l Z a0 hw r7 (-p2) z _ n0 H_1700.z0 _ nn (by simp) h4 hz Q_1717 (by omega)) (r := none) (ps := [(.array .long), .long, .int]) (by decide) rfl rfl 0 rfl (by decide) (by decide) (by decide) (by decide) rfl (fun T_1719 v_1721 h_1720 H_1718 z_1722 q_1723 => ?_)
    obtain ⟨rfl, K7, ys7, ly7, Y7⟩ := q_1723
    show OEnds _ _ _ _ _ _ _ _ _ (mkF _ 135 #[.val (.int p0), .val (.long p1), .second, .val (.long p2), .second, .val (.int p3), .val (.int z), .val (.ref a), .val (.ref hb), .unset] [])
    have Q_1724 := Q_1706.keep K7 (own_nin (show (a : Nat) ≠ r7 by omega))
    have Q_1725 := Q_1707.keep K7
    have Q_1726 := Q_1708.keep K7 (own_all (by omega))
    have Q_1727 := Q_1709.keep K7 (own_nin (show (hb : Nat) ≠ r7 by omega))
    have Q_1728 := Q_1710.keep K7 (own_nin (show (r0 : Nat) ≠ r7 by omega))
    have Q_1729 := Q_1711.keep K7 (own_nin (show (r1 : Nat) ≠ r7 by omega))
    have Q_1730 := Q_1712.keep K7 (own_nin (show (r2 : Nat) ≠ r7 by omega))
    have Q_1731 := Q_1713.keep K7 (own_nin (show (r3 : Nat) ≠ r7 by omega))
    have Q_1732 := Q_1714.keep K7 (own_nin (show (r4 : Nat) ≠ r7 by omega))
    have Q_1733 := Q_1715.keep K7 (own_nin (show (r5 : Nat) ≠ r7 by omega))
    have Q_1734 := Y6.keep K7 (own_nin (show (r6 : Nat) ≠ r7 by omega))
    refine Own.aload H_1718 (pc := 135) at_135 rfl rfl ?_
    refine Own.callV H_1718 (pc := 137) (y := (⟨"com/example/herder/herder/Sha512Lanes", "start", "()V"⟩ : MethodName)) (z := (⟨"com/example/herder/herder/Sha512Lanes", "start", "()V"⟩ : MethodName)) (CC := "com/example/herder/herder/Sha512Lanes") a [] [] at_137 (hw _ (List.mem_of_getElem? (i := 32) rfl)) (hw _ (List.mem_of_getElem? (i := 33) rfl)) (H_1718.nf (hw _ (List.mem_of_getElem? (i := 35) rfl))) (hw _ (List.mem_of_getElem? (i := 35) rfl)) (hw _ (List.mem_of_getElem? (i := 34) rfl)) (hw _ (List.mem_of_getElem? (i := 2) rfl)) (hw _ (List.mem_of_getElem? (i := 36) rfl)) (by decide) Q_1725 (rm_start l Z a0 hw a _ n0 H_1718.z0 hb r0 r1 r2 r3 r4 r5 r6 r7 iv nn h4 Q_1724 Q_1725 Q_1726 Q_1727 ah ⟨q0, q1, q2, q3, q4, q5, q6, q7⟩ ge_a SI AI ys0 ly0 Q_1728 ys1 ly1 Q_1729 ys2 ly2 Q_1730 ys3 ly3 Q_1731 ys4 ly4 Q_1732 ys5 ly5 Q_1733 ys6 ly6 Q_1734 ys7 ly7 Y7) (r := none) (ps := []) (by decide) rfl rfl 0 rfl (by decide) (by decide) (by decide) (by decide) rfl (fun T_1737 v_1739 h_1738 H_1736 z_1740 q_1741 => ?_)
    obtain ⟨rfl, Fb, Eb, Ob, Rb, Cb0, Cb1, Cb2, Cb3, Cb4, Cb5, Cb6, Cb7⟩ := q_1741
    show OEnds _ _ _ _ _ _ _ _ _ (mkF _ 140 #[.val (.int p0), .val (.long p1), .second, .val (.long p2), .second, .val (.int p3), .val (.int z), .val (.ref a), .val (.ref hb), .unset] [])
    refine Own.aload H_1736 (pc := 140) at_140 rfl rfl ?_
    refine Own.callV H_1736 (pc := 142) (y := (⟨"com/example/herder/herder/Sha512Lanes", "digest", "()[[J"⟩ : MethodName)) (z := (⟨"com/example/herder/herder/Sha512Lanes", "digest", "()[[J"⟩ : MethodName)) (CC := "com/example/herder/herder/Sha512Lanes") a [] [] at_142 (hw _ (List.mem_of_getElem? (i := 21) rfl)) (hw _ (List.mem_of_getElem? (i := 22) rfl)) (H_1736.nf (hw _ (List.mem_of_getElem? (i := 24) rfl))) (hw _ (List.mem_of_getElem? (i := 24) rfl)) (hw _ (List.mem_of_getElem? (i := 23) rfl)) (hw _ (List.mem_of_getElem? (i := 2) rfl)) (hw _ (List.mem_of_getElem? (i := 25) rfl)) (by decide) Eb (rm_digest l Z a0 hw a _ n0 H_1736.z0 hb Fb) (r := (some (.array (.array .long)))) (ps := []) (by decide) rfl rfl 0 rfl (by decide) (by decide) (by decide) (by decide) rfl (fun T_1743 v_1745 h_1744 H_1742 z_1746 q_1747 => ?_)
    obtain ⟨rfl, rfl⟩ := q_1747
    show OEnds _ _ _ _ _ _ _ _ _ (mkF _ 145 #[.val (.int p0), .val (.long p1), .second, .val (.long p2), .second, .val (.int p3), .val (.int z), .val (.ref a), .val (.ref hb), .unset] [(.ref hb)])
    refine Own.astore H_1742 (pc := 145) #[.val (.int p0), .val (.long p1), .second, .val (.long p2), .second, .val (.int p3), .val (.int z), .val (.ref a), .val (.ref hb), .val (.ref hb)] at_145 rfl rfl ?_
    refine Own.aload H_1742 (pc := 147) at_147 rfl rfl ?_
    refine Own.arraylength H_1742 (pc := 149) (8) at_149 Rb rfl ?_
    show OEnds _ _ _ _ _ _ _ _ _ (mkF _ 150 #[.val (.int p0), .val (.long p1), .second, .val (.long p2), .second, .val (.int p3), .val (.int z), .val (.ref a), .val (.ref hb), .val (.ref hb)] [(.int (8 : Int32))])
    refine Own.bipush H_1742 (pc := 150) (8) at_150 rfl ?_
    refine Own.icmp_eq H_1742 (pc := 152) 157 at_152 (by decide) (by decide) (fun _ => ?_) (fun hc => absurd hc (by decide))
    refine Own.aload H_1742 (pc := 157) at_157 rfl rfl ?_
    refine Own.iconst H_1742 (pc := 159) (0) at_159 rfl ?_
    refine Own.aaload H_1742 (pc := 160) (v := (.ref r0)) 0 at_160 Rb rfl rfl rfl ?_
    refine Own.ldc2_w H_1742 (pc := 161) at_161 (hw _ (List.mem_of_getElem? (i := 43) rfl)) ?_
    refine Own.iload H_1742 (pc := 164) at_164 rfl ?_
    refine Own.callS H_1742 (pc := 166) (y := (⟨"com/example/herder/herder/Sha512LanesStartPinLaw", "same", "([JJI)Z"⟩ : MethodName)) [(.ref r0), (.long (7640891576956012808 : Int64)), (.int z)] [] at_166 (hw _ (List.mem_of_getElem? (i := 44) rfl)) (hw _ (List.mem_of_getElem? (i := 45) rfl)) (hw _ (List.mem_of_getElem? (i := 28) rfl)) (hw _ (List.mem_of_getElem? (i := 46) rfl)) (by decide) (rm_same l Z a0 hw r0 (7640891576956012808 : Int64) z _ n0 H_1742.z0 nn h4 hz Cb0) (r := (some .boolean)) (ps := [(.array .long), .long, .int]) (by decide) rfl rfl 0 rfl (by decide) (by decide) (by decide) (by decide) rfl (fun T_1749 v_1751 h_1750 H_1748 z_1752 q_1753 => ?_)
    obtain ⟨rfl, rfl⟩ := q_1753
    show OEnds _ _ _ _ _ _ _ _ _ (mkF _ 169 #[.val (.int p0), .val (.long p1), .second, .val (.long p2), .second, .val (.int p3), .val (.int z), .val (.ref a), .val (.ref hb), .val (.ref hb)] [(.int (1 : Int32))])
    refine Own.if_eq H_1748 (pc := 169) 283 at_169 (by decide) (by decide) (fun hc => absurd hc (by decide)) (fun _ => ?_)
    refine Own.aload H_1748 (pc := 172) at_172 rfl rfl ?_
    refine Own.iconst H_1748 (pc := 174) (1) at_174 rfl ?_
    refine Own.aaload H_1748 (pc := 175) (v := (.ref r1)) 1 at_175 Rb rfl rfl rfl ?_
    refine Own.ldc2_w H_1748 (pc := 176) at_176 (hw _ (List.mem_of_getElem? (i := 47) rfl)) ?_
    refine Own.iload H_1748 (pc := 179) at_179 rfl ?_
    refine Own.callS H_1748 (pc := 181) (y := (⟨"com/example/herder/herder/Sha512LanesStartPinLaw", "same", "([JJI)Z"⟩ : MethodName)) [(.ref r1), (.long (-4942790177534073029 : Int64)), (.int z)] [] at_181 (hw _ (List.mem_of_getElem? (i := 44) rfl)) (hw _ (List.mem_of_getElem? (i := 45) rfl)) (hw _ (List.mem_of_getElem? (i := 28) rfl)) (hw _ (List.mem_of_getElem? (i := 46) rfl)) (by decide) (rm_same l Z a0 hw r1 (-4942790177534073029 : Int64) z _ n0 H_1748.z0 nn h4 hz Cb1) (r := (some .boolean)) (ps := [(.array .long), .long, .int]) (by decide) rfl rfl 0 rfl (by decide) (by decide) (by decide) (by decide) rfl (fun T_1755 v_1757 h_1756 H_1754 z_1758 q_1759 => ?_)
    obtain ⟨rfl, rfl⟩ := q_1759
    show OEnds _ _ _ _ _ _ _ _ _ (mkF _ 184 #[.val (.int p0), .val (.long p1), .second, .val (.long p2), .second, .val (.int p3), .val (.int z), .val (.ref a), .val (.ref hb), .val (.ref hb)] [(.int (1 : Int32))])
    refine Own.if_eq H_1754 (pc := 184) 283 at_184 (by decide) (by decide) (fun hc => absurd hc (by decide)) (fun _ => ?_)
    refine Own.aload H_1754 (pc := 187) at_187 rfl rfl ?_
    refine Own.iconst H_1754 (pc := 189) (2) at_189 rfl ?_
    refine Own.aaload H_1754 (pc := 190) (v := (.ref r2)) 2 at_190 Rb rfl rfl rfl ?_
    refine Own.ldc2_w H_1754 (pc := 191) at_191 (hw _ (List.mem_of_getElem? (i := 48) rfl)) ?_
    refine Own.iload H_1754 (pc := 194) at_194 rfl ?_
    refine Own.callS H_1754 (pc := 196) (y := (⟨"com/example/herder/herder/Sha512LanesStartPinLaw", "same", "([JJI)Z"⟩ : MethodName)) [(.ref r2), (.long (4354685564936845355 : Int64)), (.int z)] [] at_196 (hw _ (List.mem_of_getElem? (i := 44) rfl)) (hw _ (List.mem_of_getElem? (i := 45) rfl)) (hw _ (List.mem_of_getElem? (i := 28) rfl)) (hw _ (List.mem_of_getElem? (i := 46) rfl)) (by decide) (rm_same l Z a0 hw r2 (4354685564936845355 : Int64) z _ n0 H_1754.z0 nn h4 hz Cb2) (r := (some .boolean)) (ps := [(.array .long), .long, .int]) (by decide) rfl rfl 0 rfl (by decide) (by decide) (by decide) (by decide) rfl (fun T_1761 v_1763 h_1762 H_1760 z_1764 q_1765 => ?_)
    obtain ⟨rfl, rfl⟩ := q_1765
    show OEnds _ _ _ _ _ _ _ _ _ (mkF _ 199 #[.val (.int p0), .val (.long p1), .second, .val (.long p2), .second, .val (.int p3), .val (.int z), .val (.ref a), .val (.ref hb), .val (.ref hb)] [(.int (1 : Int32))])
    refine Own.if_eq H_1760 (pc := 199) 283 at_199 (by decide) (by decide) (fun hc => absurd hc (by decide)) (fun _ => ?_)
    refine Own.aload H_1760 (pc := 202) at_202 rfl rfl ?_
    refine Own.iconst H_1760 (pc := 204) (3) at_204 rfl ?_
    refine Own.aaload H_1760 (pc := 205) (v := (.ref r3)) 3 at_205 Rb rfl rfl rfl ?_
    refine Own.ldc2_w H_1760 (pc := 206) at_206 (hw _ (List.mem_of_getElem? (i := 49) rfl)) ?_
    refine Own.iload H_1760 (pc := 209) at_209 rfl ?_
    refine Own.callS H_1760 (pc := 211) (y := (⟨"com/example/herder/herder/Sha512LanesStartPinLaw", "same", "([JJI)Z"⟩ : MethodName)) [(.ref r3), (.long (-6534734903238641935 : Int64)), (.int z)] [] at_211 (hw _ (List.mem_of_getElem? (i := 44) rfl)) (hw _ (List.mem_of_getElem? (i := 45) rfl)) (hw _ (List.mem_of_getElem? (i := 28) rfl)) (hw _ (List.mem_of_getElem? (i := 46) rfl)) (by decide) (rm_same l Z a0 hw r3 (-6534734903238641935 : Int64) z _ n0 H_1760.z0 nn h4 hz Cb3) (r := (some .boolean)) (ps := [(.array .long), .long, .int]) (by decide) rfl rfl 0 rfl (by decide) (by decide) (by decide) (by decide) rfl (fun T_1767 v_1769 h_1768 H_1766 z_1770 q_1771 => ?_)
    obtain ⟨rfl, rfl⟩ := q_1771
    show OEnds _ _ _ _ _ _ _ _ _ (mkF _ 214 #[.val (.int p0), .val (.long p1), .second, .val (.long p2), .second, .val (.int p3), .val (.int z), .val (.ref a), .val (.ref hb), .val (.ref hb)] [(.int (1 : Int32))])
    refine Own.if_eq H_1766 (pc := 214) 283 at_214 (by decide) (by decide) (fun hc => absurd hc (by decide)) (fun _ => ?_)
    refine Own.aload H_1766 (pc := 217) at_217 rfl rfl ?_
    refine Own.iconst H_1766 (pc := 219) (4) at_219 rfl ?_
    refine Own.aaload H_1766 (pc := 220) (v := (.ref r4)) 4 at_220 Rb rfl rfl rfl ?_
    refine Own.ldc2_w H_1766 (pc := 221) at_221 (hw _ (List.mem_of_getElem? (i := 50) rfl)) ?_
    refine Own.iload H_1766 (pc := 224) at_224 rfl ?_
    refine Own.callS H_1766 (pc := 226) (y := (⟨"com/example/herder/herder/Sha512LanesStartPinLaw", "same", "([JJI)Z"⟩ : MethodName)) [(.ref r4), (.long (5840696475078001361 : Int64)), (.int z)] [] at_226 (hw _ (List.mem_of_getElem? (i := 44) rfl)) (hw _ (List.mem_of_getElem? (i := 45) rfl)) (hw _ (List.mem_of_getElem? (i := 28) rfl)) (hw _ (List.mem_of_getElem? (i := 46) rfl)) (by decide) (rm_same l Z a0 hw r4 (5840696475078001361 : Int64) z _ n0 H_1766.z0 nn h4 hz Cb4) (r := (some .boolean)) (ps := [(.array .long), .long, .int]) (by decide) rfl rfl 0 rfl (by decide) (by decide) (by decide) (by decide) rfl (fun T_1773 v_1775 h_1774 H_1772 z_1776 q_1777 => ?_)
    obtain ⟨rfl, rfl⟩ := q_1777
    show OEnds _ _ _ _ _ _ _ _ _ (mkF _ 229 #[.val (.int p0), .val (.long p1), .second, .val (.long p2), .second, .val (.int p3), .val (.int z), .val (.ref a), .val (.ref hb), .val (.ref hb)] [(.int (1 : Int32))])
    refine Own.if_eq H_1772 (pc := 229) 283 at_229 (by decide) (by decide) (fun hc => absurd hc (by decide)) (fun _ => ?_)
    refine Own.aload H_1772 (pc := 232) at_232 rfl rfl ?_
    refine Own.iconst H_1772 (pc := 234) (5) at_234 rfl ?_
    refine Own.aaload H_1772 (pc := 235) (v := (.ref r5)) 5 at_235 Rb rfl rfl rfl ?_
    refine Own.ldc2_w H_1772 (pc := 236) at_236 (hw _ (List.mem_of_getElem? (i := 51) rfl)) ?_
    refine Own.iload H_1772 (pc := 239) at_239 rfl ?_
    refine Own.callS H_1772 (pc := 241) (y := (⟨"com/example/herder/herder/Sha512LanesStartPinLaw", "same", "([JJI)Z"⟩ : MethodName)) [(.ref r5), (.long (-7276294671716946913 : Int64)), (.int z)] [] at_241 (hw _ (List.mem_of_getElem? (i := 44) rfl)) (hw _ (List.mem_of_getElem? (i := 45) rfl)) (hw _ (List.mem_of_getElem? (i := 28) rfl)) (hw _ (List.mem_of_getElem? (i := 46) rfl)) (by decide) (rm_same l Z a0 hw r5 (-7276294671716946913 : Int64) z _ n0 H_1772.z0 nn h4 hz Cb5) (r := (some .boolean)) (ps := [(.array .long), .long, .int]) (by decide) rfl rfl 0 rfl (by decide) (by decide) (by decide) (by decide) rfl (fun T_1779 v_1781 h_1780 H_1778 z_1782 q_1783 => ?_)
    obtain ⟨rfl, rfl⟩ := q_1783
    show OEnds _ _ _ _ _ _ _ _ _ (mkF _ 244 #[.val (.int p0), .val (.long p1), .second, .val (.long p2), .second, .val (.int p3), .val (.int z), .val (.ref a), .val (.ref hb), .val (.ref hb)] [(.int (1 : Int32))])
    refine Own.if_eq H_1778 (pc := 244) 283 at_244 (by decide) (by decide) (fun hc => absurd hc (by decide)) (fun _ => ?_)
    refine Own.aload H_1778 (pc := 247) at_247 rfl rfl ?_
    refine Own.bipush H_1778 (pc := 249) (6) at_249 rfl ?_
    refine Own.aaload H_1778 (pc := 251) (v := (.ref r6)) 6 at_251 Rb rfl rfl rfl ?_
    refine Own.ldc2_w H_1778 (pc := 252) at_252 (hw _ (List.mem_of_getElem? (i := 52) rfl)) ?_
    refine Own.iload H_1778 (pc := 255) at_255 rfl ?_
    refine Own.callS H_1778 (pc := 257) (y := (⟨"com/example/herder/herder/Sha512LanesStartPinLaw", "same", "([JJI)Z"⟩ : MethodName)) [(.ref r6), (.long (2270897969802886507 : Int64)), (.int z)] [] at_257 (hw _ (List.mem_of_getElem? (i := 44) rfl)) (hw _ (List.mem_of_getElem? (i := 45) rfl)) (hw _ (List.mem_of_getElem? (i := 28) rfl)) (hw _ (List.mem_of_getElem? (i := 46) rfl)) (by decide) (rm_same l Z a0 hw r6 (2270897969802886507 : Int64) z _ n0 H_1778.z0 nn h4 hz Cb6) (r := (some .boolean)) (ps := [(.array .long), .long, .int]) (by decide) rfl rfl 0 rfl (by decide) (by decide) (by decide) (by decide) rfl (fun T_1785 v_1787 h_1786 H_1784 z_1788 q_1789 => ?_)
    obtain ⟨rfl, rfl⟩ := q_1789
    show OEnds _ _ _ _ _ _ _ _ _ (mkF _ 260 #[.val (.int p0), .val (.long p1), .second, .val (.long p2), .second, .val (.int p3), .val (.int z), .val (.ref a), .val (.ref hb), .val (.ref hb)] [(.int (1 : Int32))])
    refine Own.if_eq H_1784 (pc := 260) 283 at_260 (by decide) (by decide) (fun hc => absurd hc (by decide)) (fun _ => ?_)
    refine Own.aload H_1784 (pc := 263) at_263 rfl rfl ?_
    refine Own.bipush H_1784 (pc := 265) (7) at_265 rfl ?_
    refine Own.aaload H_1784 (pc := 267) (v := (.ref r7)) 7 at_267 Rb rfl rfl rfl ?_
    refine Own.ldc2_w H_1784 (pc := 268) at_268 (hw _ (List.mem_of_getElem? (i := 53) rfl)) ?_
    refine Own.iload H_1784 (pc := 271) at_271 rfl ?_
    refine Own.callS H_1784 (pc := 273) (y := (⟨"com/example/herder/herder/Sha512LanesStartPinLaw", "same", "([JJI)Z"⟩ : MethodName)) [(.ref r7), (.long (6620516959819538809 : Int64)), (.int z)] [] at_273 (hw _ (List.mem_of_getElem? (i := 44) rfl)) (hw _ (List.mem_of_getElem? (i := 45) rfl)) (hw _ (List.mem_of_getElem? (i := 28) rfl)) (hw _ (List.mem_of_getElem? (i := 46) rfl)) (by decide) (rm_same l Z a0 hw r7 (6620516959819538809 : Int64) z _ n0 H_1784.z0 nn h4 hz Cb7) (r := (some .boolean)) (ps := [(.array .long), .long, .int]) (by decide) rfl rfl 0 rfl (by decide) (by decide) (by decide) (by decide) rfl (fun T_1791 v_1793 h_1792 H_1790 z_1794 q_1795 => ?_)
    obtain ⟨rfl, rfl⟩ := q_1795
    show OEnds _ _ _ _ _ _ _ _ _ (mkF _ 276 #[.val (.int p0), .val (.long p1), .second, .val (.long p2), .second, .val (.int p3), .val (.int z), .val (.ref a), .val (.ref hb), .val (.ref hb)] [(.int (1 : Int32))])
    refine Own.if_eq H_1790 (pc := 276) 283 at_276 (by decide) (by decide) (fun hc => absurd hc (by decide)) (fun _ => ?_)
    refine Own.iconst H_1790 (pc := 279) (1) at_279 rfl ?_
    refine Own.goto H_1790 (pc := 280) 284 at_280 (by decide) (by decide) ?_
    exact Own.ret_nar H_1790 (pc := 284) (1) at_284 rfl (by simp) (by decide) (by decide) (by decide) (rfl)
  · refine Own.aload H_1586 (pc := 33) at_33 rfl rfl ?_
    refine Own.callV H_1586 (pc := 35) (y := (⟨"com/example/herder/herder/Sha512Lanes", "start", "()V"⟩ : MethodName)) (z := (⟨"com/example/herder/herder/Sha512Lanes", "start", "()V"⟩ : MethodName)) (CC := "com/example/herder/herder/Sha512Lanes") a [] [] at_35 (hw _ (List.mem_of_getElem? (i := 32) rfl)) (hw _ (List.mem_of_getElem? (i := 33) rfl)) (H_1586.nf (hw _ (List.mem_of_getElem? (i := 35) rfl))) (hw _ (List.mem_of_getElem? (i := 35) rfl)) (hw _ (List.mem_of_getElem? (i := 34) rfl)) (hw _ (List.mem_of_getElem? (i := 2) rfl)) (hw _ (List.mem_of_getElem? (i := 36) rfl)) (by decide) E (rm_start l Z a0 hw a _ n0 H_1586.z0 hb r0 r1 r2 r3 r4 r5 r6 r7 iv nn h4 F E O2 R ah ⟨q0, q1, q2, q3, q4, q5, q6, q7⟩ ge_a SI AI _ (by simp) B0 _ (by simp) B1 _ (by simp) B2 _ (by simp) B3 _ (by simp) B4 _ (by simp) B5 _ (by simp) B6 _ (by simp) B7) (r := none) (ps := []) (by decide) rfl rfl 0 rfl (by decide) (by decide) (by decide) (by decide) rfl (fun T_1797 v_1799 h_1798 H_1796 z_1800 q_1801 => ?_)
    obtain ⟨rfl, Fa, Ea, Oa, Ra, Ca0, Ca1, Ca2, Ca3, Ca4, Ca5, Ca6, Ca7⟩ := q_1801
    show OEnds _ _ _ _ _ _ _ _ _ (mkF _ 38 #[.val (.int p0), .val (.long p1), .second, .val (.long p2), .second, .val (.int p3), .val (.int z), .val (.ref a), .val (.ref hb), .unset] [])
    refine Own.aload H_1796 (pc := 38) at_38 rfl rfl ?_
    refine Own.iconst H_1796 (pc := 40) (0) at_40 rfl ?_
    refine Own.aaload H_1796 (pc := 41) (v := (.ref r0)) 0 at_41 Ra rfl rfl rfl ?_
    refine Own.lload_n H_1796 (pc := 42) at_42 rfl ?_
    refine Own.iload H_1796 (pc := 43) at_43 rfl ?_
    refine Own.callS H_1796 (pc := 45) (y := (⟨"com/example/herder/herder/Sha512LanesStartPinLaw", "scribble", "([JJI)V"⟩ : MethodName)) [(.ref r0), (.long p1), (.int z)] [] at_45 (hw _ (List.mem_of_getElem? (i := 26) rfl)) (hw _ (List.mem_of_getElem? (i := 27) rfl)) (hw _ (List.mem_of_getElem? (i := 28) rfl)) (hw _ (List.mem_of_getElem? (i := 29) rfl)) (by decide) (rm_scr l Z a0 hw r0 p1 z _ n0 H_1796.z0 _ nn (by simp) h4 hz Ca0 (by omega)) (r := none) (ps := [(.array .long), .long, .int]) (by decide) rfl rfl 0 rfl (by decide) (by decide) (by decide) (by decide) rfl (fun T_1803 v_1805 h_1804 H_1802 z_1806 q_1807 => ?_)
    obtain ⟨rfl, K0, ys0, ly0, Y0⟩ := q_1807
    show OEnds _ _ _ _ _ _ _ _ _ (mkF _ 48 #[.val (.int p0), .val (.long p1), .second, .val (.long p2), .second, .val (.int p3), .val (.int z), .val (.ref a), .val (.ref hb), .unset] [])
    have Q_1808 := Fa.keep K0 (own_nin (show (a : Nat) ≠ r0 by omega))
    have Q_1809 := Ea.keep K0
    have Q_1810 := Oa.keep K0 (own_all (by omega))
    have Q_1811 := Ra.keep K0 (own_nin (show (hb : Nat) ≠ r0 by omega))
    have Q_1813 := Ca1.keep K0 (own_nin (show (r1 : Nat) ≠ r0 by omega))
    have Q_1814 := Ca2.keep K0 (own_nin (show (r2 : Nat) ≠ r0 by omega))
    have Q_1815 := Ca3.keep K0 (own_nin (show (r3 : Nat) ≠ r0 by omega))
    have Q_1816 := Ca4.keep K0 (own_nin (show (r4 : Nat) ≠ r0 by omega))
    have Q_1817 := Ca5.keep K0 (own_nin (show (r5 : Nat) ≠ r0 by omega))
    have Q_1818 := Ca6.keep K0 (own_nin (show (r6 : Nat) ≠ r0 by omega))
    have Q_1819 := Ca7.keep K0 (own_nin (show (r7 : Nat) ≠ r0 by omega))
    refine Own.aload H_1802 (pc := 48) at_48 rfl rfl ?_
    refine Own.iconst H_1802 (pc := 50) (1) at_50 rfl ?_
    refine Own.aaload H_1802 (pc := 51) (v := (.ref r1)) 1 at_51 Q_1811 rfl rfl rfl ?_
    refine Own.lload_n H_1802 (pc := 52) at_52 rfl ?_
    refine Own.iload H_1802 (pc := 53) at_53 rfl ?_
    refine Own.callS H_1802 (pc := 55) (y := (⟨"com/example/herder/herder/Sha512LanesStartPinLaw", "scribble", "([JJI)V"⟩ : MethodName)) [(.ref r1), (.long p2), (.int z)] [] at_55 (hw _ (List.mem_of_getElem? (i := 26) rfl)) (hw _ (List.mem_of_getElem? (i := 27) rfl)) (hw _ (List.mem_of_getElem? (i := 28) rfl)) (hw _ (List.mem_of_getElem? (i := 29) rfl)) (by decide) (rm_scr l Z a0 hw r1 p2 z _ n0 H_1802.z0 _ nn (by simp) h4 hz Q_1813 (by omega)) (r := none) (ps := [(.array .long), .long, .int]) (by decide) rfl rfl 0 rfl (by decide) (by decide) (by decide) (by decide) rfl (fun T_1821 v_1823 h_1822 H_1820 z_1824 q_1825 => ?_)
    obtain ⟨rfl, K1, ys1, ly1, Y1⟩ := q_1825
    show OEnds _ _ _ _ _ _ _ _ _ (mkF _ 58 #[.val (.int p0), .val (.long p1), .second, .val (.long p2), .second, .val (.int p3), .val (.int z), .val (.ref a), .val (.ref hb), .unset] [])
    have Q_1826 := Q_1808.keep K1 (own_nin (show (a : Nat) ≠ r1 by omega))
    have Q_1827 := Q_1809.keep K1
    have Q_1828 := Q_1810.keep K1 (own_all (by omega))
    have Q_1829 := Q_1811.keep K1 (own_nin (show (hb : Nat) ≠ r1 by omega))
    have Q_1830 := Y0.keep K1 (own_nin (show (r0 : Nat) ≠ r1 by omega))
    have Q_1832 := Q_1814.keep K1 (own_nin (show (r2 : Nat) ≠ r1 by omega))
    have Q_1833 := Q_1815.keep K1 (own_nin (show (r3 : Nat) ≠ r1 by omega))
    have Q_1834 := Q_1816.keep K1 (own_nin (show (r4 : Nat) ≠ r1 by omega))
    have Q_1835 := Q_1817.keep K1 (own_nin (show (r5 : Nat) ≠ r1 by omega))
    have Q_1836 := Q_1818.keep K1 (own_nin (show (r6 : Nat) ≠ r1 by omega))
    have Q_1837 := Q_1819.keep K1 (own_nin (show (r7 : Nat) ≠ r1 by omega))
    refine Own.aload H_1820 (pc := 58) at_58 rfl rfl ?_
    refine Own.iconst H_1820 (pc := 60) (2) at_60 rfl ?_
    refine Own.aaload H_1820 (pc := 61) (v := (.ref r2)) 2 at_61 Q_1829 rfl rfl rfl ?_
    refine Own.lload_n H_1820 (pc := 62) at_62 rfl ?_
    refine Own.lload_n H_1820 (pc := 63) at_63 rfl ?_
    refine Own.lxor H_1820 (pc := 64) at_64 ?_
    refine Own.iload H_1820 (pc := 65) at_65 rfl ?_
    refine Own.callS H_1820 (pc := 67) (y := (⟨"com/example/herder/herder/Sha512LanesStartPinLaw", "scribble", "([JJI)V"⟩ : MethodName)) [(.ref r2), (.long (p1 ^^^ p2)), (.int z)] [] at_67 (hw _ (List.mem_of_getElem? (i := 26) rfl)) (hw _ (List.mem_of_getElem? (i := 27) rfl)) (hw _ (List.mem_of_getElem? (i := 28) rfl)) (hw _ (List.mem_of_getElem? (i := 29) rfl)) (by decide) (rm_scr l Z a0 hw r2 (p1 ^^^ p2) z _ n0 H_1820.z0 _ nn (by simp) h4 hz Q_1832 (by omega)) (r := none) (ps := [(.array .long), .long, .int]) (by decide) rfl rfl 0 rfl (by decide) (by decide) (by decide) (by decide) rfl (fun T_1839 v_1841 h_1840 H_1838 z_1842 q_1843 => ?_)
    obtain ⟨rfl, K2, ys2, ly2, Y2⟩ := q_1843
    show OEnds _ _ _ _ _ _ _ _ _ (mkF _ 70 #[.val (.int p0), .val (.long p1), .second, .val (.long p2), .second, .val (.int p3), .val (.int z), .val (.ref a), .val (.ref hb), .unset] [])
    have Q_1844 := Q_1826.keep K2 (own_nin (show (a : Nat) ≠ r2 by omega))
    have Q_1845 := Q_1827.keep K2
    have Q_1846 := Q_1828.keep K2 (own_all (by omega))
    have Q_1847 := Q_1829.keep K2 (own_nin (show (hb : Nat) ≠ r2 by omega))
    have Q_1848 := Q_1830.keep K2 (own_nin (show (r0 : Nat) ≠ r2 by omega))
    have Q_1849 := Y1.keep K2 (own_nin (show (r1 : Nat) ≠ r2 by omega))
    have Q_1851 := Q_1833.keep K2 (own_nin (show (r3 : Nat) ≠ r2 by omega))
    have Q_1852 := Q_1834.keep K2 (own_nin (show (r4 : Nat) ≠ r2 by omega))
    have Q_1853 := Q_1835.keep K2 (own_nin (show (r5 : Nat) ≠ r2 by omega))
    have Q_1854 := Q_1836.keep K2 (own_nin (show (r6 : Nat) ≠ r2 by omega))
    have Q_1855 := Q_1837.keep K2 (own_nin (show (r7 : Nat) ≠ r2 by omega))
    refine Own.aload H_1838 (pc := 70) at_70 rfl rfl ?_
    refine Own.iconst H_1838 (pc := 72) (3) at_72 rfl ?_
    refine Own.aaload H_1838 (pc := 73) (v := (.ref r3)) 3 at_73 Q_1847 rfl rfl rfl ?_
    refine Own.lload_n H_1838 (pc := 74) at_74 rfl ?_
    refine Own.lload_n H_1838 (pc := 75) at_75 rfl ?_
    refine Own.ladd H_1838 (pc := 76) at_76 ?_
    refine Own.iload H_1838 (pc := 77) at_77 rfl ?_
    refine Own.callS H_1838 (pc := 79) (y := (⟨"com/example/herder/herder/Sha512LanesStartPinLaw", "scribble", "([JJI)V"⟩ : MethodName)) [(.ref r3), (.long (p1 + p2)), (.int z)] [] at_79 (hw _ (List.mem_of_getElem? (i := 26) rfl)) (hw _ (List.mem_of_getElem? (i := 27) rfl)) (hw _ (List.mem_of_getElem? (i := 28) rfl)) (hw _ (List.mem_of_getElem? (i := 29) rfl)) (by decide) (rm_scr l Z a0 hw r3 (p1 + p2) z _ n0 H_1838.z0 _ nn (by simp) h4 hz Q_1851 (by omega)) (r := none) (ps := [(.array .long), .long, .int]) (by decide) rfl rfl 0 rfl (by decide) (by decide) (by decide) (by decide) rfl (fun T_1857 v_1859 h_1858 H_1856 z_1860 q_1861 => ?_)
    obtain ⟨rfl, K3, ys3, ly3, Y3⟩ := q_1861
    show OEnds _ _ _ _ _ _ _ _ _ (mkF _ 82 #[.val (.int p0), .val (.long p1), .second, .val (.long p2), .second, .val (.int p3), .val (.int z), .val (.ref a), .val (.ref hb), .unset] [])
    have Q_1862 := Q_1844.keep K3 (own_nin (show (a : Nat) ≠ r3 by omega))
    have Q_1863 := Q_1845.keep K3
    have Q_1864 := Q_1846.keep K3 (own_all (by omega))
    have Q_1865 := Q_1847.keep K3 (own_nin (show (hb : Nat) ≠ r3 by omega))
    have Q_1866 := Q_1848.keep K3 (own_nin (show (r0 : Nat) ≠ r3 by omega))
    have Q_1867 := Q_1849.keep K3 (own_nin (show (r1 : Nat) ≠ r3 by omega))
    have Q_1868 := Y2.keep K3 (own_nin (show (r2 : Nat) ≠ r3 by omega))
    have Q_1870 := Q_1852.keep K3 (own_nin (show (r4 : Nat) ≠ r3 by omega))
    have Q_1871 := Q_1853.keep K3 (own_nin (show (r5 : Nat) ≠ r3 by omega))
    have Q_1872 := Q_1854.keep K3 (own_nin (show (r6 : Nat) ≠ r3 by omega))
    have Q_1873 := Q_1855.keep K3 (own_nin (show (r7 : Nat) ≠ r3 by omega))
    refine Own.aload H_1856 (pc := 82) at_82 rfl rfl ?_
    refine Own.iconst H_1856 (pc := 84) (4) at_84 rfl ?_
    refine Own.aaload H_1856 (pc := 85) (v := (.ref r4)) 4 at_85 Q_1865 rfl rfl rfl ?_
    refine Own.lload_n H_1856 (pc := 86) at_86 rfl ?_
    refine Own.ldc2_w H_1856 (pc := 87) at_87 (hw _ (List.mem_of_getElem? (i := 30) rfl)) ?_
    refine Own.lxor H_1856 (pc := 90) at_90 ?_
    refine Own.iload H_1856 (pc := 91) at_91 rfl ?_
    refine Own.callS H_1856 (pc := 93) (y := (⟨"com/example/herder/herder/Sha512LanesStartPinLaw", "scribble", "([JJI)V"⟩ : MethodName)) [(.ref r4), (.long (p1 ^^^ (-1 : Int64))), (.int z)] [] at_93 (hw _ (List.mem_of_getElem? (i := 26) rfl)) (hw _ (List.mem_of_getElem? (i := 27) rfl)) (hw _ (List.mem_of_getElem? (i := 28) rfl)) (hw _ (List.mem_of_getElem? (i := 29) rfl)) (by decide) (rm_scr l Z a0 hw r4 (p1 ^^^ (-1 : Int64)) z _ n0 H_1856.z0 _ nn (by simp) h4 hz Q_1870 (by omega)) (r := none) (ps := [(.array .long), .long, .int]) (by decide) rfl rfl 0 rfl (by decide) (by decide) (by decide) (by decide) rfl (fun T_1875 v_1877 h_1876 H_1874 z_1878 q_1879 => ?_)
    obtain ⟨rfl, K4, ys4, ly4, Y4⟩ := q_1879
    show OEnds _ _ _ _ _ _ _ _ _ (mkF _ 96 #[.val (.int p0), .val (.long p1), .second, .val (.long p2), .second, .val (.int p3), .val (.int z), .val (.ref a), .val (.ref hb), .unset] [])
    have Q_1880 := Q_1862.keep K4 (own_nin (show (a : Nat) ≠ r4 by omega))
    have Q_1881 := Q_1863.keep K4
    have Q_1882 := Q_1864.keep K4 (own_all (by omega))
    have Q_1883 := Q_1865.keep K4 (own_nin (show (hb : Nat) ≠ r4 by omega))
    have Q_1884 := Q_1866.keep K4 (own_nin (show (r0 : Nat) ≠ r4 by omega))
    have Q_1885 := Q_1867.keep K4 (own_nin (show (r1 : Nat) ≠ r4 by omega))
    have Q_1886 := Q_1868.keep K4 (own_nin (show (r2 : Nat) ≠ r4 by omega))
    have Q_1887 := Y3.keep K4 (own_nin (show (r3 : Nat) ≠ r4 by omega))
    have Q_1889 := Q_1871.keep K4 (own_nin (show (r5 : Nat) ≠ r4 by omega))
    have Q_1890 := Q_1872.keep K4 (own_nin (show (r6 : Nat) ≠ r4 by omega))
    have Q_1891 := Q_1873.keep K4 (own_nin (show (r7 : Nat) ≠ r4 by omega))
    refine Own.aload H_1874 (pc := 96) at_96 rfl rfl ?_
    refine Own.iconst H_1874 (pc := 98) (5) at_98 rfl ?_
    refine Own.aaload H_1874 (pc := 99) (v := (.ref r5)) 5 at_99 Q_1883 rfl rfl rfl ?_
    refine Own.lload_n H_1874 (pc := 100) at_100 rfl ?_
    refine Own.ldc2_w H_1874 (pc := 101) at_101 (hw _ (List.mem_of_getElem? (i := 31) rfl)) ?_
    refine Own.lmul H_1874 (pc := 104) at_104 ?_
    refine Own.iload H_1874 (pc := 105) at_105 rfl ?_
    refine Own.callS H_1874 (pc := 107) (y := (⟨"com/example/herder/herder/Sha512LanesStartPinLaw", "scribble", "([JJI)V"⟩ : MethodName)) [(.ref r5), (.long (p1 * (31 : Int64))), (.int z)] [] at_107 (hw _ (List.mem_of_getElem? (i := 26) rfl)) (hw _ (List.mem_of_getElem? (i := 27) rfl)) (hw _ (List.mem_of_getElem? (i := 28) rfl)) (hw _ (List.mem_of_getElem? (i := 29) rfl)) (by decide) (rm_scr l Z a0 hw r5 (p1 * (31 : Int64)) z _ n0 H_1874.z0 _ nn (by simp) h4 hz Q_1889 (by omega)) (r := none) (ps := [(.array .long), .long, .int]) (by decide) rfl rfl 0 rfl (by decide) (by decide) (by decide) (by decide) rfl (fun T_1893 v_1895 h_1894 H_1892 z_1896 q_1897 => ?_)
    obtain ⟨rfl, K5, ys5, ly5, Y5⟩ := q_1897
    show OEnds _ _ _ _ _ _ _ _ _ (mkF _ 110 #[.val (.int p0), .val (.long p1), .second, .val (.long p2), .second, .val (.int p3), .val (.int z), .val (.ref a), .val (.ref hb), .unset] [])
    have Q_1898 := Q_1880.keep K5 (own_nin (show (a : Nat) ≠ r5 by omega))
    have Q_1899 := Q_1881.keep K5
    have Q_1900 := Q_1882.keep K5 (own_all (by omega))
    have Q_1901 := Q_1883.keep K5 (own_nin (show (hb : Nat) ≠ r5 by omega))
    have Q_1902 := Q_1884.keep K5 (own_nin (show (r0 : Nat) ≠ r5 by omega))
    have Q_1903 := Q_1885.keep K5 (own_nin (show (r1 : Nat) ≠ r5 by omega))
    have Q_1904 := Q_1886.keep K5 (own_nin (show (r2 : Nat) ≠ r5 by omega))
    have Q_1905 := Q_1887.keep K5 (own_nin (show (r3 : Nat) ≠ r5 by omega))
    have Q_1906 := Y4.keep K5 (own_nin (show (r4 : Nat) ≠ r5 by omega))
    have Q_1908 := Q_1890.keep K5 (own_nin (show (r6 : Nat) ≠ r5 by omega))
    have Q_1909 := Q_1891.keep K5 (own_nin (show (r7 : Nat) ≠ r5 by omega))
    refine Own.aload H_1892 (pc := 110) at_110 rfl rfl ?_
    refine Own.bipush H_1892 (pc := 112) (6) at_112 rfl ?_
    refine Own.aaload H_1892 (pc := 114) (v := (.ref r6)) 6 at_114 Q_1901 rfl rfl rfl ?_
    refine Own.lload_n H_1892 (pc := 115) at_115 rfl ?_
    refine Own.lload_n H_1892 (pc := 116) at_116 rfl ?_
    refine Own.lsub H_1892 (pc := 117) at_117 ?_
    refine Own.iload H_1892 (pc := 118) at_118 rfl ?_
    refine Own.callS H_1892 (pc := 120) (y := (⟨"com/example/herder/herder/Sha512LanesStartPinLaw", "scribble", "([JJI)V"⟩ : MethodName)) [(.ref r6), (.long (p2 - p1)), (.int z)] [] at_120 (hw _ (List.mem_of_getElem? (i := 26) rfl)) (hw _ (List.mem_of_getElem? (i := 27) rfl)) (hw _ (List.mem_of_getElem? (i := 28) rfl)) (hw _ (List.mem_of_getElem? (i := 29) rfl)) (by decide) (rm_scr l Z a0 hw r6 (p2 - p1) z _ n0 H_1892.z0 _ nn (by simp) h4 hz Q_1908 (by omega)) (r := none) (ps := [(.array .long), .long, .int]) (by decide) rfl rfl 0 rfl (by decide) (by decide) (by decide) (by decide) rfl (fun T_1911 v_1913 h_1912 H_1910 z_1914 q_1915 => ?_)
    obtain ⟨rfl, K6, ys6, ly6, Y6⟩ := q_1915
    show OEnds _ _ _ _ _ _ _ _ _ (mkF _ 123 #[.val (.int p0), .val (.long p1), .second, .val (.long p2), .second, .val (.int p3), .val (.int z), .val (.ref a), .val (.ref hb), .unset] [])
    have Q_1916 := Q_1898.keep K6 (own_nin (show (a : Nat) ≠ r6 by omega))
    have Q_1917 := Q_1899.keep K6
    have Q_1918 := Q_1900.keep K6 (own_all (by omega))
    have Q_1919 := Q_1901.keep K6 (own_nin (show (hb : Nat) ≠ r6 by omega))
    have Q_1920 := Q_1902.keep K6 (own_nin (show (r0 : Nat) ≠ r6 by omega))
    have Q_1921 := Q_1903.keep K6 (own_nin (show (r1 : Nat) ≠ r6 by omega))
    have Q_1922 := Q_1904.keep K6 (own_nin (show (r2 : Nat) ≠ r6 by omega))
    have Q_1923 := Q_1905.keep K6 (own_nin (show (r3 : Nat) ≠ r6 by omega))
    have Q_1924 := Q_1906.keep K6 (own_nin (show (r4 : Nat) ≠ r6 by omega))
    have Q_1925 := Y5.keep K6 (own_nin (show (r5 : Nat) ≠ r6 by omega))
    have Q_1927 := Q_1909.keep K6 (own_nin (show (r7 : Nat) ≠ r6 by omega))
    refine Own.aload H_1910 (pc := 123) at_123 rfl rfl ?_
    refine Own.bipush H_1910 (pc := 125) (7) at_125 rfl ?_
    refine Own.aaload H_1910 (pc := 127) (v := (.ref r7)) 7 at_127 Q_1919 rfl rfl rfl ?_
    refine Own.lload_n H_1910 (pc := 128) at_128 rfl ?_
    refine Own.lneg H_1910 (pc := 129) at_129 ?_
    refine Own.iload H_1910 (pc := 130) at_130 rfl ?_
    refine Own.callS H_1910 (pc := 132) (y := (⟨"com/example/herder/herder/Sha512LanesStartPinLaw", "scribble", "([JJI)V"⟩ : MethodName)) [(.ref r7), (.long (-p2)), (.int z)] [] at_132 (hw _ (List.mem_of_getElem? (i := 26) rfl)) (hw _ (List.mem_of_getElem? (i := 27) rfl)) (hw _ (List.mem_of_getElem? (i := 28) rfl)) (hw _ (List.mem_of_getElem? (i := 29) rfl)) (by decide) (rm_scr l Z a0 hw r7 (-p2) z _ n0 H_1910.z0 _ nn (by simp) h4 hz Q_1927 (by omega)) (r := none) (ps := [(.array .long), .long, .int]) (by decide) rfl rfl 0 rfl (by decide) (by decide) (by decide) (by decide) rfl (fun T_1929 v_1931 h_1930 H_1928 z_1932 q_1933 => ?_)
    obtain ⟨rfl, K7, ys7, ly7, Y7⟩ := q_1933
    show OEnds _ _ _ _ _ _ _ _ _ (mkF _ 135 #[.val (.int p0), .val (.long p1), .second, .val (.long p2), .second, .val (.int p3), .val (.int z), .val (.ref a), .val (.ref hb), .unset] [])
    have Q_1934 := Q_1916.keep K7 (own_nin (show (a : Nat) ≠ r7 by omega))
    have Q_1935 := Q_1917.keep K7
    have Q_1936 := Q_1918.keep K7 (own_all (by omega))
    have Q_1937 := Q_1919.keep K7 (own_nin (show (hb : Nat) ≠ r7 by omega))
    have Q_1938 := Q_1920.keep K7 (own_nin (show (r0 : Nat) ≠ r7 by omega))
    have Q_1939 := Q_1921.keep K7 (own_nin (show (r1 : Nat) ≠ r7 by omega))
    have Q_1940 := Q_1922.keep K7 (own_nin (show (r2 : Nat) ≠ r7 by omega))
    have Q_1941 := Q_1923.keep K7 (own_nin (show (r3 : Nat) ≠ r7 by omega))
    have Q_1942 := Q_1924.keep K7 (own_nin (show (r4 : Nat) ≠ r7 by omega))
    have Q_1943 := Q_1925.keep K7 (own_nin (show (r5 : Nat) ≠ r7 by omega))
    have Q_1944 := Y6.keep K7 (own_nin (show (r6 : Nat) ≠ r7 by omega))
    refine Own.aload H_1928 (pc := 135) at_135 rfl rfl ?_
    refine Own.callV H_1928 (pc := 137) (y := (⟨"com/example/herder/herder/Sha512Lanes", "start", "()V"⟩ : MethodName)) (z := (⟨"com/example/herder/herder/Sha512Lanes", "start", "()V"⟩ : MethodName)) (CC := "com/example/herder/herder/Sha512Lanes") a [] [] at_137 (hw _ (List.mem_of_getElem? (i := 32) rfl)) (hw _ (List.mem_of_getElem? (i := 33) rfl)) (H_1928.nf (hw _ (List.mem_of_getElem? (i := 35) rfl))) (hw _ (List.mem_of_getElem? (i := 35) rfl)) (hw _ (List.mem_of_getElem? (i := 34) rfl)) (hw _ (List.mem_of_getElem? (i := 2) rfl)) (hw _ (List.mem_of_getElem? (i := 36) rfl)) (by decide) Q_1935 (rm_start l Z a0 hw a _ n0 H_1928.z0 hb r0 r1 r2 r3 r4 r5 r6 r7 iv nn h4 Q_1934 Q_1935 Q_1936 Q_1937 ah ⟨q0, q1, q2, q3, q4, q5, q6, q7⟩ ge_a SI AI ys0 ly0 Q_1938 ys1 ly1 Q_1939 ys2 ly2 Q_1940 ys3 ly3 Q_1941 ys4 ly4 Q_1942 ys5 ly5 Q_1943 ys6 ly6 Q_1944 ys7 ly7 Y7) (r := none) (ps := []) (by decide) rfl rfl 0 rfl (by decide) (by decide) (by decide) (by decide) rfl (fun T_1947 v_1949 h_1948 H_1946 z_1950 q_1951 => ?_)
    obtain ⟨rfl, Fb, Eb, Ob, Rb, Cb0, Cb1, Cb2, Cb3, Cb4, Cb5, Cb6, Cb7⟩ := q_1951
    show OEnds _ _ _ _ _ _ _ _ _ (mkF _ 140 #[.val (.int p0), .val (.long p1), .second, .val (.long p2), .second, .val (.int p3), .val (.int z), .val (.ref a), .val (.ref hb), .unset] [])
    refine Own.aload H_1946 (pc := 140) at_140 rfl rfl ?_
    refine Own.callV H_1946 (pc := 142) (y := (⟨"com/example/herder/herder/Sha512Lanes", "digest", "()[[J"⟩ : MethodName)) (z := (⟨"com/example/herder/herder/Sha512Lanes", "digest", "()[[J"⟩ : MethodName)) (CC := "com/example/herder/herder/Sha512Lanes") a [] [] at_142 (hw _ (List.mem_of_getElem? (i := 21) rfl)) (hw _ (List.mem_of_getElem? (i := 22) rfl)) (H_1946.nf (hw _ (List.mem_of_getElem? (i := 24) rfl))) (hw _ (List.mem_of_getElem? (i := 24) rfl)) (hw _ (List.mem_of_getElem? (i := 23) rfl)) (hw _ (List.mem_of_getElem? (i := 2) rfl)) (hw _ (List.mem_of_getElem? (i := 25) rfl)) (by decide) Eb (rm_digest l Z a0 hw a _ n0 H_1946.z0 hb Fb) (r := (some (.array (.array .long)))) (ps := []) (by decide) rfl rfl 0 rfl (by decide) (by decide) (by decide) (by decide) rfl (fun T_1953 v_1955 h_1954 H_1952 z_1956 q_1957 => ?_)
    obtain ⟨rfl, rfl⟩ := q_1957
    show OEnds _ _ _ _ _ _ _ _ _ (mkF _ 145 #[.val (.int p0), .val (.long p1), .second, .val (.long p2), .second, .val (.int p3), .val (.int z), .val (.ref a), .val (.ref hb), .unset] [(.ref hb)])
    refine Own.astore H_1952 (pc := 145) #[.val (.int p0), .val (.long p1), .second, .val (.long p2), .second, .val (.int p3), .val (.int z), .val (.ref a), .val (.ref hb), .val (.ref hb)] at_145 rfl rfl ?_
    refine Own.aload H_1952 (pc := 147) at_147 rfl rfl ?_
    refine Own.arraylength H_1952 (pc := 149) (8) at_149 Rb rfl ?_
    show OEnds _ _ _ _ _ _ _ _ _ (mkF _ 150 #[.val (.int p0), .val (.long p1), .second, .val (.long p2), .second, .val (.int p3), .val (.int z), .val (.ref a), .val (.ref hb), .val (.ref hb)] [(.int (8 : Int32))])
    refine Own.bipush H_1952 (pc := 150) (8) at_150 rfl ?_
    refine Own.icmp_eq H_1952 (pc := 152) 157 at_152 (by decide) (by decide) (fun _ => ?_) (fun hc => absurd hc (by decide))
    refine Own.aload H_1952 (pc := 157) at_157 rfl rfl ?_
    refine Own.iconst H_1952 (pc := 159) (0) at_159 rfl ?_
    refine Own.aaload H_1952 (pc := 160) (v := (.ref r0)) 0 at_160 Rb rfl rfl rfl ?_
    refine Own.ldc2_w H_1952 (pc := 161) at_161 (hw _ (List.mem_of_getElem? (i := 43) rfl)) ?_
    refine Own.iload H_1952 (pc := 164) at_164 rfl ?_
    refine Own.callS H_1952 (pc := 166) (y := (⟨"com/example/herder/herder/Sha512LanesStartPinLaw", "same", "([JJI)Z"⟩ : MethodName)) [(.ref r0), (.long (7640891576956012808 : Int64)), (.int z)] [] at_166 (hw _ (List.mem_of_getElem? (i := 44) rfl)) (hw _ (List.mem_of_getElem? (i := 45) rfl)) (hw _ (List.mem_of_getElem? (i := 28) rfl)) (hw _ (List.mem_of_getElem? (i := 46) rfl)) (by decide) (rm_same l Z a0 hw r0 (7640891576956012808 : Int64) z _ n0 H_1952.z0 nn h4 hz Cb0) (r := (some .boolean)) (ps := [(.array .long), .long, .int]) (by decide) rfl rfl 0 rfl (by decide) (by decide) (by decide) (by decide) rfl (fun T_1959 v_1961 h_1960 H_1958 z_1962 q_1963 => ?_)
    obtain ⟨rfl, rfl⟩ := q_1963
    show OEnds _ _ _ _ _ _ _ _ _ (mkF _ 169 #[.val (.int p0), .val (.long p1), .second, .val (.long p2), .second, .val (.int p3), .val (.int z), .val (.ref a), .val (.ref hb), .val (.ref hb)] [(.int (1 : Int32))])
    refine Own.if_eq H_1958 (pc := 169) 283 at_169 (by decide) (by decide) (fun hc => absurd hc (by decide)) (fun _ => ?_)
    refine Own.aload H_1958 (pc := 172) at_172 rfl rfl ?_
    refine Own.iconst H_1958 (pc := 174) (1) at_174 rfl ?_
    refine Own.aaload H_1958 (pc := 175) (v := (.ref r1)) 1 at_175 Rb rfl rfl rfl ?_
    refine Own.ldc2_w H_1958 (pc := 176) at_176 (hw _ (List.mem_of_getElem? (i := 47) rfl)) ?_
    refine Own.iload H_1958 (pc := 179) at_179 rfl ?_
    refine Own.callS H_1958 (pc := 181) (y := (⟨"com/example/herder/herder/Sha512LanesStartPinLaw", "same", "([JJI)Z"⟩ : MethodName)) [(.ref r1), (.long (-4942790177534073029 : Int64)), (.int z)] [] at_181 (hw _ (List.mem_of_getElem? (i := 44) rfl)) (hw _ (List.mem_of_getElem? (i := 45) rfl)) (hw _ (List.mem_of_getElem? (i := 28) rfl)) (hw _ (List.mem_of_getElem? (i := 46) rfl)) (by decide) (rm_same l Z a0 hw r1 (-4942790177534073029 : Int64) z _ n0 H_1958.z0 nn h4 hz Cb1) (r := (some .boolean)) (ps := [(.array .long), .long, .int]) (by decide) rfl rfl 0 rfl (by decide) (by decide) (by decide) (by decide) rfl (fun T_1965 v_1967 h_1966 H_1964 z_1968 q_1969 => ?_)
    obtain ⟨rfl, rfl⟩ := q_1969
    show OEnds _ _ _ _ _ _ _ _ _ (mkF _ 184 #[.val (.int p0), .val (.long p1), .second, .val (.long p2), .second, .val (.int p3), .val (.int z), .val (.ref a), .val (.ref hb), .val (.ref hb)] [(.int (1 : Int32))])
    refine Own.if_eq H_1964 (pc := 184) 283 at_184 (by decide) (by decide) (fun hc => absurd hc (by decide)) (fun _ => ?_)
    refine Own.aload H_1964 (pc := 187) at_187 rfl rfl ?_
    refine Own.iconst H_1964 (pc := 189) (2) at_189 rfl ?_
    refine Own.aaload H_1964 (pc := 190) (v := (.ref r2)) 2 at_190 Rb rfl rfl rfl ?_
    refine Own.ldc2_w H_1964 (pc := 191) at_191 (hw _ (List.mem_of_getElem? (i := 48) rfl)) ?_
    refine Own.iload H_1964 (pc := 194) at_194 rfl ?_
    refine Own.callS H_1964 (pc := 196) (y := (⟨"com/example/herder/herder/Sha512LanesStartPinLaw", "same", "([JJI)Z"⟩ : MethodName)) [(.ref r2), (.long (4354685564936845355 : Int64)), (.int z)] [] at_196 (hw _ (List.mem_of_getElem? (i := 44) rfl)) (hw _ (List.mem_of_getElem? (i := 45) rfl)) (hw _ (List.mem_of_getElem? (i := 28) rfl)) (hw _ (List.mem_of_getElem? (i := 46) rfl)) (by decide) (rm_same l Z a0 hw r2 (4354685564936845355 : Int64) z _ n0 H_1964.z0 nn h4 hz Cb2) (r := (some .boolean)) (ps := [(.array .long), .long, .int]) (by decide) rfl rfl 0 rfl (by decide) (by decide) (by decide) (by decide) rfl (fun T_1971 v_1973 h_1972 H_1970 z_1974 q_1975 => ?_)
    obtain ⟨rfl, rfl⟩ := q_1975
    show OEnds _ _ _ _ _ _ _ _ _ (mkF _ 199 #[.val (.int p0), .val (.long p1), .second, .val (.long p2), .second, .val (.int p3), .val (.int z), .val (.ref a), .val (.ref hb), .val (.ref hb)] [(.int (1 : Int32))])
    refine Own.if_eq H_1970 (pc := 199) 283 at_199 (by decide) (by decide) (fun hc => absurd hc (by decide)) (fun _ => ?_)
    refine Own.aload H_1970 (pc := 202) at_202 rfl rfl ?_
    refine Own.iconst H_1970 (pc := 204) (3) at_204 rfl ?_
    refine Own.aaload H_1970 (pc := 205) (v := (.ref r3)) 3 at_205 Rb rfl rfl rfl ?_
    refine Own.ldc2_w H_1970 (pc := 206) at_206 (hw _ (List.mem_of_getElem? (i := 49) rfl)) ?_
    refine Own.iload H_1970 (pc := 209) at_209 rfl ?_
    refine Own.callS H_1970 (pc := 211) (y := (⟨"com/example/herder/herder/Sha512LanesStartPinLaw", "same", "([JJI)Z"⟩ : MethodName)) [(.ref r3), (.long (-6534734903238641935 : Int64)), (.int z)] [] at_211 (hw _ (List.mem_of_getElem? (i := 44) rfl)) (hw _ (List.mem_of_getElem? (i := 45) rfl)) (hw _ (List.mem_of_getElem? (i := 28) rfl)) (hw _ (List.mem_of_getElem? (i := 46) rfl)) (by decide) (rm_same l Z a0 hw r3 (-6534734903238641935 : Int64) z _ n0 H_1970.z0 nn h4 hz Cb3) (r := (some .boolean)) (ps := [(.array .long), .long, .int]) (by decide) rfl rfl 0 rfl (by decide) (by decide) (by decide) (by decide) rfl (fun T_1977 v_1979 h_1978 H_1976 z_1980 q_1981 => ?_)
    obtain ⟨rfl, rfl⟩ := q_1981
    show OEnds _ _ _ _ _ _ _ _ _ (mkF _ 214 #[.val (.int p0), .val (.long p1), .second, .val (.long p2), .second, .val (.int p3), .val (.int z), .val (.ref a), .val (.ref hb), .val (.ref hb)] [(.int (1 : Int32))])
    refine Own.if_eq H_1976 (pc := 214) 283 at_214 (by decide) (by decide) (fun hc => absurd hc (by decide)) (fun _ => ?_)
    refine Own.aload H_1976 (pc := 217) at_217 rfl rfl ?_
    refine Own.iconst H_1976 (pc := 219) (4) at_219 rfl ?_
    refine Own.aaload H_1976 (pc := 220) (v := (.ref r4)) 4 at_220 Rb rfl rfl rfl ?_
    refine Own.ldc2_w H_1976 (pc := 221) at_221 (hw _ (List.mem_of_getElem? (i := 50) rfl)) ?_
    refine Own.iload H_1976 (pc := 224) at_224 rfl ?_
    refine Own.callS H_1976 (pc := 226) (y := (⟨"com/example/herder/herder/Sha512LanesStartPinLaw", "same", "([JJI)Z"⟩ : MethodName)) [(.ref r4), (.long (5840696475078001361 : Int64)), (.int z)] [] at_226 (hw _ (List.mem_of_getElem? (i := 44) rfl)) (hw _ (List.mem_of_getElem? (i := 45) rfl)) (hw _ (List.mem_of_getElem? (i := 28) rfl)) (hw _ (List.mem_of_getElem? (i := 46) rfl)) (by decide) (rm_same l Z a0 hw r4 (5840696475078001361 : Int64) z _ n0 H_1976.z0 nn h4 hz Cb4) (r := (some .boolean)) (ps := [(.array .long), .long, .int]) (by decide) rfl rfl 0 rfl (by decide) (by decide) (by decide) (by decide) rfl (fun T_1983 v_1985 h_1984 H_1982 z_1986 q_1987 => ?_)
    obtain ⟨rfl, rfl⟩ := q_1987
    show OEnds _ _ _ _ _ _ _ _ _ (mkF _ 229 #[.val (.int p0), .val (.long p1), .second, .val (.long p2), .second, .val (.int p3), .val (.int z), .val (.ref a), .val (.ref hb), .val (.ref hb)] [(.int (1 : Int32))])
    refine Own.if_eq H_1982 (pc := 229) 283 at_229 (by decide) (by decide) (fun hc => absurd hc (by decide)) (fun _ => ?_)
    refine Own.aload H_1982 (pc := 232) at_232 rfl rfl ?_
    refine Own.iconst H_1982 (pc := 234) (5) at_234 rfl ?_
    refine Own.aaload H_1982 (pc := 235) (v := (.ref r5)) 5 at_235 Rb rfl rfl rfl ?_
    refine Own.ldc2_w H_1982 (pc := 236) at_236 (hw _ (List.mem_of_getElem? (i := 51) rfl)) ?_
    refine Own.iload H_1982 (pc := 239) at_239 rfl ?_
    refine Own.callS H_1982 (pc := 241) (y := (⟨"com/example/herder/herder/Sha512LanesStartPinLaw", "same", "([JJI)Z"⟩ : MethodName)) [(.ref r5), (.long (-7276294671716946913 : Int64)), (.int z)] [] at_241 (hw _ (List.mem_of_getElem? (i := 44) rfl)) (hw _ (List.mem_of_getElem? (i := 45) rfl)) (hw _ (List.mem_of_getElem? (i := 28) rfl)) (hw _ (List.mem_of_getElem? (i := 46) rfl)) (by decide) (rm_same l Z a0 hw r5 (-7276294671716946913 : Int64) z _ n0 H_1982.z0 nn h4 hz Cb5) (r := (some .boolean)) (ps := [(.array .long), .long, .int]) (by decide) rfl rfl 0 rfl (by decide) (by decide) (by decide) (by decide) rfl (fun T_1989 v_1991 h_1990 H_1988 z_1992 q_1993 => ?_)
    obtain ⟨rfl, rfl⟩ := q_1993
    show OEnds _ _ _ _ _ _ _ _ _ (mkF _ 244 #[.val (.int p0), .val (.long p1), .second, .val (.long p2), .second, .val (.int p3), .val (.int z), .val (.ref a), .val (.ref hb), .val (.ref hb)] [(.int (1 : Int32))])
    refine Own.if_eq H_1988 (pc := 244) 283 at_244 (by decide) (by decide) (fun hc => absurd hc (by decide)) (fun _ => ?_)
    refine Own.aload H_1988 (pc := 247) at_247 rfl rfl ?_
    refine Own.bipush H_1988 (pc := 249) (6) at_249 rfl ?_
    refine Own.aaload H_1988 (pc := 251) (v := (.ref r6)) 6 at_251 Rb rfl rfl rfl ?_
    refine Own.ldc2_w H_1988 (pc := 252) at_252 (hw _ (List.mem_of_getElem? (i := 52) rfl)) ?_
    refine Own.iload H_1988 (pc := 255) at_255 rfl ?_
    refine Own.callS H_1988 (pc := 257) (y := (⟨"com/example/herder/herder/Sha512LanesStartPinLaw", "same", "([JJI)Z"⟩ : MethodName)) [(.ref r6), (.long (2270897969802886507 : Int64)), (.int z)] [] at_257 (hw _ (List.mem_of_getElem? (i := 44) rfl)) (hw _ (List.mem_of_getElem? (i := 45) rfl)) (hw _ (List.mem_of_getElem? (i := 28) rfl)) (hw _ (List.mem_of_getElem? (i := 46) rfl)) (by decide) (rm_same l Z a0 hw r6 (2270897969802886507 : Int64) z _ n0 H_1988.z0 nn h4 hz Cb6) (r := (some .boolean)) (ps := [(.array .long), .long, .int]) (by decide) rfl rfl 0 rfl (by decide) (by decide) (by decide) (by decide) rfl (fun T_1995 v_1997 h_1996 H_1994 z_1998 q_1999 => ?_)
    obtain ⟨rfl, rfl⟩ := q_1999
    show OEnds _ _ _ _ _ _ _ _ _ (mkF _ 260 #[.val (.int p0), .val (.long p1), .second, .val (.long p2), .second, .val (.int p3), .val (.int z), .val (.ref a), .val (.ref hb), .val (.ref hb)] [(.int (1 : Int32))])
    refine Own.if_eq H_1994 (pc := 260) 283 at_260 (by decide) (by decide) (fun hc => absurd hc (by decide)) (fun _ => ?_)
    refine Own.aload H_1994 (pc := 263) at_263 rfl rfl ?_
    refine Own.bipush H_1994 (pc := 265) (7) at_265 rfl ?_
    refine Own.aaload H_1994 (pc := 267) (v := (.ref r7)) 7 at_267 Rb rfl rfl rfl ?_
    refine Own.ldc2_w H_1994 (pc := 268) at_268 (hw _ (List.mem_of_getElem? (i := 53) rfl)) ?_
    refine Own.iload H_1994 (pc := 271) at_271 rfl ?_
    refine Own.callS H_1994 (pc := 273) (y := (⟨"com/example/herder/herder/Sha512LanesStartPinLaw", "same", "([JJI)Z"⟩ : MethodName)) [(.ref r7), (.long (6620516959819538809 : Int64)), (.int z)] [] at_273 (hw _ (List.mem_of_getElem? (i := 44) rfl)) (hw _ (List.mem_of_getElem? (i := 45) rfl)) (hw _ (List.mem_of_getElem? (i := 28) rfl)) (hw _ (List.mem_of_getElem? (i := 46) rfl)) (by decide) (rm_same l Z a0 hw r7 (6620516959819538809 : Int64) z _ n0 H_1994.z0 nn h4 hz Cb7) (r := (some .boolean)) (ps := [(.array .long), .long, .int]) (by decide) rfl rfl 0 rfl (by decide) (by decide) (by decide) (by decide) rfl (fun T_2001 v_2003 h_2002 H_2000 z_2004 q_2005 => ?_)
    obtain ⟨rfl, rfl⟩ := q_2005
    show OEnds _ _ _ _ _ _ _ _ _ (mkF _ 276 #[.val (.int p0), .val (.long p1), .second, .val (.long p2), .second, .val (.int p3), .val (.int z), .val (.ref a), .val (.ref hb), .val (.ref hb)] [(.int (1 : Int32))])
    refine Own.if_eq H_2000 (pc := 276) 283 at_276 (by decide) (by decide) (fun hc => absurd hc (by decide)) (fun _ => ?_)
    refine Own.iconst H_2000 (pc := 279) (1) at_279 rfl ?_
    refine Own.goto H_2000 (pc := 280) 284 at_280 (by decide) (by decide) ?_
    exact Own.ret_nar H_2000 (pc := 284) (1) at_284 rfl (by simp) (by decide) (by decide) (by decide) (rfl)

theorem own_len {args : Array Value} {s : State} {t : Term} {a : Addr} {cl : Cell} (h : (Jvm.Term.length t).eval args s none [] s = some (.int 8)) (ht : t.eval args s none [] s = some (.ref a)) (ha : s.arrayAt? a = some cl) : cl.slots.size = 8 := by
  by_cases hl : cl.slots.size < 2 ^ 31
  · have e := h.symm.trans (len_f ht ha hl)
    have e2 : (8 : Int32) = cl.slots.size.toInt32 := by injection e with e; injection e
    have e3 := congrArg Int32.toInt e2
    have e4 : (cl.slots.size.toInt32).toInt = (cl.slots.size : Int) := Int32.toInt_ofNat_of_lt hl
    have e5 : (8 : Int32).toInt = 8 := rfl
    omega
  · simp [Term.eval, ht, ha, hl] at h
theorem own_eight (xs : Array Value) {v0 v1 v2 v3 v4 v5 v6 v7 : Value} (sz : xs.size = 8) (t0 : xs[((0 : Int32)).toNatClampNeg]? = some v0) (t1 : xs[((1 : Int32)).toNatClampNeg]? = some v1) (t2 : xs[((2 : Int32)).toNatClampNeg]? = some v2) (t3 : xs[((3 : Int32)).toNatClampNeg]? = some v3) (t4 : xs[((4 : Int32)).toNatClampNeg]? = some v4) (t5 : xs[((5 : Int32)).toNatClampNeg]? = some v5) (t6 : xs[((6 : Int32)).toNatClampNeg]? = some v6) (t7 : xs[((7 : Int32)).toNatClampNeg]? = some v7) : xs.toList = [v0, v1, v2, v3, v4, v5, v6, v7] := by
  obtain ⟨L⟩ := xs
  match L, sz with
  | [w0, w1, w2, w3, w4, w5, w6, w7], _ =>
    have u0 : w0 = v0 := Option.some.inj t0
    have u1 : w1 = v1 := Option.some.inj t1
    have u2 : w2 = v2 := Option.some.inj t2
    have u3 : w3 = v3 := Option.some.inj t3
    have u4 : w4 = v4 := Option.some.inj t4
    have u5 : w5 = v5 := Option.some.inj t5
    have u6 : w6 = v6 := Option.some.inj t6
    have u7 : w7 = v7 := Option.some.inj t7
    rw [← u0, ← u1, ← u2, ← u3, ← u4, ← u5, ← u6, ← u7]

set_option maxRecDepth 65536 in
set_option maxHeartbeats 40000000 in
theorem comes_1 {Post : Tables → Env → Array Value → State → Outcome → State → Prop} (hpost : ∀ tb e args s v u, (limb_1_1.after args s (.returned v) u = true ∧ limb_1_2.after args s (.returned v) u = true ∧ True) → FrameEnd s (.returned v) u (Jvm.fieldLocs frame_1_writes args s ++ Jvm.arrayLocs frame_1_arrays args s ++ Jvm.staticLocs frame_1_statics s) 80 448 → Post tb e args s (.returned v) u) :
    ArmFor flags0 classFile x code maxLocals ret World_1 tables_1 room_1 Calls_1 rest_1 Pre_1 Post := by
  intro l hfl _ _ p e ha hc hk s m args below hf hA hF happ hP
  obtain ⟨hcalls, hrest, hpre⟩ := hP
  obtain ⟨-, -, -, hnamed, -, -, -, hat⟩ := (Spec.applies_iff hf).mp happ
  obtain ⟨hg, hn⟩ := and_e (Cond.before_iff.mp (show (Jvm.Cond.and given_1 narrow_1).before args s = true from hpre))
  obtain ⟨g0, k0⟩ := and_e hg
  obtain ⟨g1, k1⟩ := and_e k0
  obtain ⟨g2, k2⟩ := and_e k1
  obtain ⟨g3, k3⟩ := and_e k2
  obtain ⟨w0, w1, w2, w3, rfl⟩ : ∃ w0 w1 w2 w3 : Value, args = #[w0, w1, w2, w3] := by
    have hs : args.size = 4 := by simpa [Cond.value, given_1] using g0
    obtain ⟨L⟩ := args
    match L, hs with
    | [w0, w1, w2, w3], _ => exact ⟨w0, w1, w2, w3, rfl⟩
  have hw := fun d (hd : d ∈ tables_1) => atoms_spec (ws := Jvm.Cond.code x code maxLocals ret :: tables_1) hat d (List.mem_cons_of_mem _ hd)
  have hfit : Fit s := fun {y c} hc i hi => by
    obtain ⟨ha, rfl⟩ := Array.getElem?_eq_some_iff.mp hc
    have q := List.all_eq_true.mp ((Array.all_eq_true_iff_forall_mem.mp hF) _ (Array.getElem_mem ha)) i (List.mem_range.mpr hi)
    simpa [Array.getElem?_eq_getElem hi] using q
  obtain ⟨i0, e0⟩ := is_v g1
  obtain rfl : w0 = (.int i0) := Option.some.inj e0
  obtain ⟨i1, e1⟩ := isL_v g2
  obtain rfl : w1 = (.long i1) := Option.some.inj e1
  obtain ⟨i2, e2⟩ := isL_v g3
  obtain rfl : w2 = (.long i2) := Option.some.inj e2
  obtain ⟨i3, e3⟩ := is_v k3
  obtain rfl : w3 = (.int i3) := Option.some.inj e3
  obtain ⟨arV, r0⟩ := and_e hn
  obtain ⟨lenV, r1⟩ := and_e r0
  obtain ⟨el0, r2⟩ := and_e r1
  obtain ⟨el1, r3⟩ := and_e r2
  obtain ⟨el2, r4⟩ := and_e r3
  obtain ⟨el3, r5⟩ := and_e r4
  obtain ⟨el4, r6⟩ := and_e r5
  obtain ⟨el5, r7⟩ := and_e r6
  obtain ⟨el6, r8⟩ := and_e r7
  have el7 := r8
  obtain ⟨iv, eV⟩ := arr_v arV
  obtain ⟨cl, AV0⟩ := Arr.start eV arV
  have SI := Sta.start eV (Or.inr ⟨(hw _ (List.mem_of_getElem? (i := 2) rfl)), (hw _ (List.mem_of_getElem? (i := 38) rfl))⟩)
  have t0 := (elem_in (eqv_l (long_at _) el0) eV (Term.int_eval (0)) AV0.1).2
  have t1 := (elem_in (eqv_l (long_at _) el1) eV (Term.int_eval (1)) AV0.1).2
  have t2 := (elem_in (eqv_l (long_at _) el2) eV (Term.int_eval (2)) AV0.1).2
  have t3 := (elem_in (eqv_l (long_at _) el3) eV (Term.int_eval (3)) AV0.1).2
  have t4 := (elem_in (eqv_l (long_at _) el4) eV (Term.int_eval (4)) AV0.1).2
  have t5 := (elem_in (eqv_l (long_at _) el5) eV (Term.int_eval (5)) AV0.1).2
  have t6 := (elem_in (eqv_l (long_at _) el6) eV (Term.int_eval (6)) AV0.1).2
  have t7 := (elem_in (eqv_l (long_at _) el7) eV (Term.int_eval (7)) AV0.1).2
  have sz : cl.slots.size = 8 := own_len (eqv_i (Term.int_eval (8)) lenV) eV (AV0.fin (State.Warmed39.refl s).alike)
  have AI : OAry s s.heap iv .long [.long (7640891576956012808 : Int64), .long (-4942790177534073029 : Int64), .long (4354685564936845355 : Int64), .long (-6534734903238641935 : Int64), .long (5840696475078001361 : Int64), .long (-7276294671716946913 : Int64), .long (2270897969802886507 : Int64), .long (6620516959819538809 : Int64)] := ⟨cl, AV0, own_eight cl.slots sz t0 t1 t2 t3 t4 t5 t6 t7, by simp, by
    intro v hv
    simp only [List.mem_cons, List.not_mem_nil, or_false] at hv
    rcases hv with rfl | rfl | rfl | rfl | rfl | rfl | rfl | rfl <;> rfl⟩
  obtain ⟨n, o, h1, h2, h3, _, L, rfl, ⟨N, -, rfl⟩, hq⟩ := rm_law l s _ hw i0 i1 i2 i3 s.heap s.heap.size (Nat.le_refl _) (Old.start s) iv SI AI tables_1 p e ha hc hk s m _ below hf ((Spec.applies_iff_loose hf).mp happ).1 ⟨rfl, State.Warmed39.refl s, rfl⟩ trivial
  refine ⟨n, _, h1, h2, h3, hpost _ _ _ _ _ _ ⟨Cond.after_iff.mpr rfl, Cond.after_iff.mpr (eq_i res_at (Term.int_eval (1)) rfl), trivial⟩ ⟨hq.1, hq.2.1, (hq.2.2.sift fun y hy => Or.inr (N y hy)).mono (by decide) (by decide)⟩⟩
theorem main_1_1 : Claimed_1_1 := comes_1 fun _ _ _ _ _ _ h hF => ⟨h.1, hF⟩
theorem main_1_2 : Claimed_1_2 := comes_1 fun _ _ _ _ _ _ h hF => ⟨h.2.1, hF⟩
end Jvm.Pilot.@@N@@
namespace Jvm.Pilot.@@N@@
open Jvm Jvm.ClassFile Sem Op Lib Jvm.Free Jvm.Stand Jvm.Pilot.@@N@@.Jvm.D
/-! MADE BY PROGRAM (witnessworld.py) out of the Statement's table words and the real class files: 13 classes; the members and pool entries that the words name. The judged class is class 1, her method 1. -/
namespace start1
open Jvm.ClassFile
def u (s : String) : CpInfo := .utf8 (stringToUtf16 s)
/-- a pool by its gaps: so many unusable entries, then the entry; so many at the end -/
def gap : Nat → List CpInfo → List CpInfo
  | 0, r => r
  | n + 1, r => .unusable :: gap n r
def poolList (es : List (Nat × CpInfo)) (last : Nat) : List CpInfo := es.foldr (fun e r => gap e.1 (e.2 :: r)) (gap last [])
def pool (es : List (Nat × CpInfo)) (last : Nat) : Array CpInfo := ⟨poolList es last⟩
def fileOf (pool : Array CpInfo) (this : Nat) (attrs : Array Attribute := #[]) (ms : Array MethodInfo := #[]) (fl : Nat := 33) (sup : Nat := 0) (ifs : Array Nat := #[]) (fds : Array FieldInfo := #[]) : ClassFile where
  minorVersion := 0
  majorVersion := 65
  constantPool := pool
  accessFlags := fl
  thisClass := this
  superClass := sup
  interfaces := ifs
  fields := fds
  methods := ms
  attributes := attrs
def plain (name : String) (sup : Option ClassId) : Class where
  name := name
  kind := .ordinary
  loader := none
  accessFlags := 33
  super := sup
  interfaces := #[]
  cf := none
  fields := #[]
  methods := #[]
  instanceTypes := #[]
  staticTypes := #[]
  resolved := #[]
  callSites := []
  init := .initialized
  statics := none
  mirror := none

def pool0 : Array CpInfo := pool [(5, u "<init>"), (0, u "()V"), (1, .class_ 10), (1, u "java/lang/Object")] 113

def k0c0 : Code := { maxStack := 0, maxLocals := 1, code := object_method_1_code, exceptionTable := #[], attributes := #[] }
def k0m0 : Method := { name := "<init>", desc := "()V", sig := { parameters := [], returnType := none }, accessFlags := 1, code := some k0c0 }
/-- java/lang/Object -/
def k0 : Class := { plain "java/lang/Object" none with
  accessFlags := 33
  interfaces := #[]
  cf := some (fileOf pool0 8 #[] #[{ accessFlags := 1, nameIndex := 5, descriptorIndex := 6, attributes := #[] }] 33 0 #[] #[])
  fields := #[]
  methods := #[k0m0]
  instanceTypes := #[]
  staticTypes := #[]
  resolved := Array.replicate 124 none
  statics := none }

def pool1 : Array CpInfo := pool [(2, .class_ 4), (1, u "java/lang/Object"), (0, u "<init>"), (0, u "()V"), (0, .class_ 8), (0, u "com/example/herder/herder/Sha512Lanes"), (0, .methodref 7 10), (0, .nameAndType 5 11), (0, u "(I)V"), (0, .methodref 7 13), (0, .nameAndType 14 15), (0, u "digest"), (0, u "()[[J"), (0, .methodref 7 17), (0, .nameAndType 18 6), (0, u "start"), (0, .methodref 20 21), (0, .class_ 22), (0, .nameAndType 23 24), (0, u "com/example/herder/herder/Sha512LanesStartPinLaw"), (0, u "scribble"), (0, u "([JJI)V"), (0, .long 18446744073709551615), (1, .long 31), (1, .long 7640891576956012808), (1, .methodref 20 32), (0, .nameAndType 33 34), (0, u "same"), (0, u "([JJI)Z"), (0, .long 13503953896175478587), (1, .long 4354685564936845355), (1, .long 11912009170470909681), (1, .long 5840696475078001361), (1, .long 11170449401992604703), (1, .long 2270897969802886507), (1, .long 6620516959819538809), (1, .long 6148914691236517205), (3, u "law"), (0, u "(IJJI)Z")] 5

def k1m0 : Method := { name := "<init>", desc := "()V", sig := { parameters := [], returnType := none }, accessFlags := 1, code := none }
def k1c1 : Code := { maxStack := 5, maxLocals := 10, code := code, exceptionTable := #[], attributes := #[] }
def k1m1 : Method := { name := "law", desc := "(IJJI)Z", sig := { parameters := [.int, .long, .long, .int], returnType := some .boolean }, accessFlags := 9, code := some k1c1 }
def k1c2 : Code := { maxStack := 6, maxLocals := 4, code := method_3_code, exceptionTable := #[], attributes := #[] }
def k1m2 : Method := { name := "scribble", desc := "([JJI)V", sig := { parameters := [(.array .long), .long, .int], returnType := none }, accessFlags := 10, code := some k1c2 }
def k1c3 : Code := { maxStack := 4, maxLocals := 4, code := method_4_code, exceptionTable := #[], attributes := #[] }
def k1m3 : Method := { name := "same", desc := "([JJI)Z", sig := { parameters := [(.array .long), .long, .int], returnType := some .boolean }, accessFlags := 10, code := some k1c3 }
/-- com/example/herder/herder/Sha512LanesStartPinLaw -/
def k1 : Class := { plain "com/example/herder/herder/Sha512LanesStartPinLaw" (some 0) with
  accessFlags := 49
  interfaces := #[]
  cf := some (fileOf pool1 20 #[] #[{ accessFlags := 1, nameIndex := 5, descriptorIndex := 6, attributes := #[] }, { accessFlags := 9, nameIndex := 53, descriptorIndex := 54, attributes := #[] }, { accessFlags := 10, nameIndex := 23, descriptorIndex := 24, attributes := #[] }, { accessFlags := 10, nameIndex := 33, descriptorIndex := 34, attributes := #[] }] 49 2 #[] #[])
  fields := #[]
  methods := #[k1m0, k1m1, k1m2, k1m3]
  instanceTypes := #[]
  staticTypes := #[]
  resolved := Array.replicate 60 none
  statics := none }

def pool2 : Array CpInfo := pool [(1, .methodref 2 3), (0, .class_ 4), (0, .nameAndType 5 6), (0, u "java/lang/Object"), (0, u "<init>"), (0, u "()V"), (0, .class_ 8), (0, u "com/example/herder/herder/Sha512Lanes"), (0, .class_ 10), (0, u "[J"), (0, .fieldref 7 12), (0, .nameAndType 13 14), (0, u "hash"), (0, u "[[J"), (0, .fieldref 7 16), (0, .nameAndType 17 14), (0, u "work"), (0, .fieldref 7 19), (0, .nameAndType 20 14), (0, u "schedule"), (0, .fieldref 7 22), (0, .nameAndType 23 24), (0, u "lanes"), (0, u "I"), (0, .fieldref 7 26), (0, .nameAndType 27 10), (0, u "INITIAL"), (0, .methodref 29 30), (0, .class_ 31), (0, .nameAndType 32 33), (0, u "java/util/Arrays"), (0, u "fill"), (0, u "([JJ)V"), (18, u "CONSTANTS"), (66, u "DIGEST_WORDS"), (2, u "BLOCK_WORDS"), (1, u "STEPS"), (1, u "(I)V"), (3, u "start"), (3, u "digest"), (0, u "()[[J")] 3

def k2c0 : Code := { maxStack := 3, maxLocals := 3, code := prog_14_method_1_code, exceptionTable := #[], attributes := #[] }
def k2m0 : Method := { name := "<init>", desc := "(I)V", sig := { parameters := [.int], returnType := none }, accessFlags := 0, code := some k2c0 }
def k2c1 : Code := { maxStack := 3, maxLocals := 2, code := prog_14_method_2_code, exceptionTable := #[], attributes := #[] }
def k2m1 : Method := { name := "start", desc := "()V", sig := { parameters := [], returnType := none }, accessFlags := 0, code := some k2c1 }
def k2c2 : Code := { maxStack := 1, maxLocals := 1, code := prog_14_method_5_code, exceptionTable := #[], attributes := #[] }
def k2m2 : Method := { name := "digest", desc := "()[[J", sig := { parameters := [], returnType := some (.array (.array .long)) }, accessFlags := 0, code := some k2c2 }
/-- com/example/herder/herder/Sha512Lanes -/
def k2 : Class := { plain "com/example/herder/herder/Sha512Lanes" (some 0) with
  accessFlags := 32
  interfaces := #[]
  cf := some (fileOf pool2 7 #[] #[{ accessFlags := 0, nameIndex := 5, descriptorIndex := 126, attributes := #[] }, { accessFlags := 0, nameIndex := 130, descriptorIndex := 6, attributes := #[] }, { accessFlags := 0, nameIndex := 134, descriptorIndex := 135, attributes := #[] }] 32 2 #[] #[{ accessFlags := 24, nameIndex := 119, descriptorIndex := 24, attributes := #[] }, { accessFlags := 24, nameIndex := 122, descriptorIndex := 24, attributes := #[] }, { accessFlags := 26, nameIndex := 124, descriptorIndex := 24, attributes := #[] }, { accessFlags := 26, nameIndex := 52, descriptorIndex := 10, attributes := #[] }, { accessFlags := 26, nameIndex := 27, descriptorIndex := 10, attributes := #[] }, { accessFlags := 18, nameIndex := 23, descriptorIndex := 24, attributes := #[] }, { accessFlags := 18, nameIndex := 13, descriptorIndex := 14, attributes := #[] }, { accessFlags := 18, nameIndex := 17, descriptorIndex := 14, attributes := #[] }, { accessFlags := 18, nameIndex := 20, descriptorIndex := 14, attributes := #[] }])
  fields := #[{ name := "DIGEST_WORDS", type := .int, accessFlags := 24, slot := 0, constantValue := 0 }, { name := "BLOCK_WORDS", type := .int, accessFlags := 24, slot := 1, constantValue := 0 }, { name := "STEPS", type := .int, accessFlags := 26, slot := 2, constantValue := 0 }, { name := "CONSTANTS", type := (.array .long), accessFlags := 26, slot := 3, constantValue := 0 }, { name := "INITIAL", type := (.array .long), accessFlags := 26, slot := 4, constantValue := 0 }, { name := "lanes", type := .int, accessFlags := 18, slot := 0, constantValue := 0 }, { name := "hash", type := (.array (.array .long)), accessFlags := 18, slot := 1, constantValue := 0 }, { name := "work", type := (.array (.array .long)), accessFlags := 18, slot := 2, constantValue := 0 }, { name := "schedule", type := (.array (.array .long)), accessFlags := 18, slot := 3, constantValue := 0 }]
  methods := #[k2m0, k2m1, k2m2]
  instanceTypes := #[.int, (.array (.array .long)), (.array (.array .long)), (.array (.array .long))]
  staticTypes := #[.int, .int, .int, (.array .long), (.array .long)]
  resolved := Array.replicate 139 none
  statics := some 0 }

def pool3 : Array CpInfo := pool [(2, .class_ 4), (1, u "java/lang/Object"), (0, u "<init>"), (0, u "()V"), (7, .class_ 16), (1, u "java/util/Arrays"), (57, .class_ 76), (1, u "java/util/Arrays$NaturalOrder"), (36, .class_ 115), (1, u "java/util/Arrays$LegacyMergeSort"), (1, u "Z"), (257, .class_ 376), (0, u "java/util/Arrays$ArrayList"), (68, u "$assertionsDisabled"), (269, u "MIN_ARRAY_SORT_GRAN"), (0, u "I"), (2, u "INSERTIONSORT_THRESHOLD"), (120, u "fill"), (0, u "([JJ)V"), (133, .class_ 976), (0, u "java/util/Arrays$ArrayItr")] 52

def k3m0 : Method := { name := "<init>", desc := "()V", sig := { parameters := [], returnType := none }, accessFlags := 2, code := none }
def k3c1 : Code := { maxStack := 4, maxLocals := 5, code := jdk_65_method_101_code, exceptionTable := #[], attributes := #[] }
def k3m1 : Method := { name := "fill", desc := "([JJ)V", sig := { parameters := [(.array .long), .long], returnType := none }, accessFlags := 9, code := some k3c1 }
/-- java/util/Arrays -/
def k3 : Class := { plain "java/util/Arrays" (some 0) with
  accessFlags := 49
  interfaces := #[]
  cf := some (fileOf pool3 14 #[.nestMembers #[975, 375, 113, 74]] #[{ accessFlags := 2, nameIndex := 5, descriptorIndex := 6, attributes := #[] }, { accessFlags := 9, nameIndex := 840, descriptorIndex := 841, attributes := #[] }] 49 2 #[] #[{ accessFlags := 26, nameIndex := 715, descriptorIndex := 716, attributes := #[] }, { accessFlags := 26, nameIndex := 719, descriptorIndex := 716, attributes := #[] }, { accessFlags := 4120, nameIndex := 445, descriptorIndex := 117, attributes := #[] }])
  fields := #[{ name := "MIN_ARRAY_SORT_GRAN", type := .int, accessFlags := 26, slot := 0, constantValue := 0 }, { name := "INSERTIONSORT_THRESHOLD", type := .int, accessFlags := 26, slot := 1, constantValue := 0 }, { name := "$assertionsDisabled", type := .boolean, accessFlags := 4120, slot := 2, constantValue := 0 }]
  methods := #[k3m0, k3m1]
  instanceTypes := #[]
  staticTypes := #[.int, .int, .boolean]
  resolved := Array.replicate 1029 none
  statics := none }

def pool4 : Array CpInfo := pool [(1, u "java/lang/Cloneable"), (0, .class_ 1), (0, u "java/lang/Object"), (0, .class_ 3)] 3

/-- java/lang/Cloneable -/
def k4 : Class := { plain "java/lang/Cloneable" (some 0) with
  accessFlags := 1537
  interfaces := #[]
  cf := some (fileOf pool4 2 #[] #[] 1537 4 #[] #[])
  fields := #[]
  methods := #[]
  instanceTypes := #[]
  staticTypes := #[]
  resolved := Array.replicate 8 none
  statics := none }

def pool5 : Array CpInfo := pool [(1, u "java/io/Serializable"), (0, .class_ 1), (0, u "java/lang/Object"), (0, .class_ 3)] 3

/-- java/io/Serializable -/
def k5 : Class := { plain "java/io/Serializable" (some 0) with
  accessFlags := 1537
  interfaces := #[]
  cf := some (fileOf pool5 2 #[] #[] 1537 4 #[] #[])
  fields := #[]
  methods := #[]
  instanceTypes := #[]
  staticTypes := #[]
  resolved := Array.replicate 8 none
  statics := none }

/-- the primitive byte -/
def k6 : Class := { plain "byte" none with kind := .primitive 'B', accessFlags := 0x411 }
/-- [B -/
def k7 : Class := { plain "[B" (some 0) with kind := .array 6 .byte, interfaces := #[4, 5], accessFlags := 1041 }

/-- the primitive int -/
def k8 : Class := { plain "int" none with kind := .primitive 'I', accessFlags := 0x411 }
/-- [I -/
def k9 : Class := { plain "[I" (some 0) with kind := .array 8 .int, interfaces := #[4, 5], accessFlags := 1041 }

/-- the primitive long -/
def k10 : Class := { plain "long" none with kind := .primitive 'J', accessFlags := 0x411 }
/-- [J -/
def k11 : Class := { plain "[J" (some 0) with kind := .array 10 .long, interfaces := #[4, 5], accessFlags := 1041 }

/-- an array of arrays of longs (laid by hand) -/
def k12 : Class := { plain "[[J" (some 0) with kind := .array 11 (.array .long), interfaces := #[4, 5], accessFlags := 1041 }

def heap : Heap := #[{ cls := 2, slots := #[.int 0, .int 0, .int 0, .null, .ref 2], vm := .statics 2 },
  { cls := 12, slots := #[.null], vm := .none },
  { cls := 11, slots := #[.long 7640891576956012808, .long (-4942790177534073029), .long 4354685564936845355, .long (-6534734903238641935), .long 5840696475078001361, .long (-7276294671716946913), .long 2270897969802886507, .long 6620516959819538809], vm := .none }]
def classes : Array Class := #[k0, k1, k2, k3, k4, k5, k6, k7, k8, k9, k10, k11, k12]
def interned : List (Array UInt16 × Addr) := []
def slotsUsed : Nat := 14
def theMethod : MethodId := ⟨1, 1⟩
def args0 : Array Value := #[.int 5, .long 3, .long 4, .int 1]
def aboutOver (below : List Frame) : State where
  vm := { classes := classes, interned := interned.toArray }
  heap := heap
  slotsUsed := slotsUsed
  threads := #[{ frames := .invoking theMethod args0 :: below }]
def below0 : List Frame := [.native { method := ⟨0, 0⟩, args := #[] }]
def about1 : State := aboutOver below0
def p0 : Program := .bare "" "" ""
def e0 : Env := launch0.env 0 0 0
theorem w_frames : about1.frames = Frame.invoking theMethod args0 :: below0 := rfl
set_option maxRecDepth 65536 in
theorem w_args : argsFit about1.vm theMethod args0 = true := by decide +kernel
set_option maxRecDepth 65536 in
theorem w_heap : heapFits about1 = true := by decide +kernel
set_option maxRecDepth 65536 in
theorem w_runnable : about1.curStatus? = some .runnable := by decide +kernel
set_option maxRecDepth 65536 in
theorem w_alone : about1.alone = true := by decide +kernel
set_option maxRecDepth 65536 in
theorem w_named : about1.methodNamed? x = some theMethod := by decide +kernel
set_option maxRecDepth 65536 in
theorem w_hears : about1.hears theMethod below0 = true := by decide +kernel
set_option maxRecDepth 65536 in
theorem w_ripe : about1.ripe theMethod args0 below0 = true := by decide +kernel
theorem w_running : about1.status = .running := rfl
set_option maxRecDepth 65536 in
theorem w_room : about1.hasRoom e0.platform room_1 = true :=
  launch0.hasRoom_least _ room_1 (by decide +kernel) (by decide +kernel) (by decide +kernel) (by decide +kernel) (by decide +kernel) (by decide +kernel)
theorem allAtoms_all (ts : List Jvm.Cond) (a : Array Jvm.Value) (st : Jvm.State) : (allAtoms ts).before a st = ts.all (fun c => c.before a st) := by
  induction ts with
  | nil => rfl
  | cons c t ih =>
    show (Jvm.Cond.and c (allAtoms t)).before a st = _
    rw [Jvm.Cond.before_and, ih, List.all_cons]
def words1 : List Jvm.Cond := Jvm.Cond.code x code maxLocals ret :: tables_1
/-- a 'code' word, met by the world's own term for the bytes: nothing is compared byte by byte -/
theorem code_word {y : MethodName} {bytes : ByteArray} {mx : Nat} {rt : Option FieldType} {a : Array Value} {s : State} {m : MethodId} {meth : Method} {c : Code} (h1 : s.methodNamed? y = some m) (h2 : s.vm.method? m = some meth) (h3 : meth.code = some c) (h4 : c.code = bytes)
    (h5 : (c.maxLocals == mx && c.exceptionTable.isEmpty && decide (c.maxStack ≤ mostOperands) && decide (meth.sig.returnType = rt) && !meth.locks && decide (parseMethodDescriptor y.desc = some meth.sig)) = true) : (Jvm.Cond.code y bytes mx rt).before a s = true := by
  simp only [Bool.and_eq_true, beq_iff_eq, Bool.not_eq_true', decide_eq_true_eq] at h5
  obtain ⟨⟨⟨⟨⟨g1, g2⟩, g3⟩, g4⟩, g5⟩, g6⟩ := h5
  simp [Cond.before, Cond.holds, Cond.value, h1, h2, h3, h4, g1, g2, g3, g4, g5, g6]
def isCode : Jvm.Cond → Bool
  | .code _ _ _ _ => true
  | _ => false
theorem all_split {L : List Jvm.Cond} {P : Jvm.Cond → Bool} (h1 : L.all (fun c => isCode c || P c) = true) (h2 : ∀ c ∈ L.filter isCode, P c = true) : L.all P = true := by
  refine List.all_eq_true.mpr fun c hc => ?_
  have h := List.all_eq_true.mp h1 c hc
  rcases Bool.eq_false_or_eq_true (isCode c) with hi | hi
  · exact h2 c (List.mem_filter.mpr ⟨hc, hi⟩)
  · simpa [hi] using h
set_option maxRecDepth 65536 in
theorem w_c0 : (Jvm.Cond.code x code maxLocals ret).before args0 about1 = true := code_word (m := ⟨1, 1⟩) (meth := k1m1) (c := k1c1) (by decide +kernel) rfl rfl rfl (by decide +kernel)
set_option maxRecDepth 65536 in
theorem w_c1 : (Jvm.Cond.code ({ cls := "com/example/herder/herder/Sha512Lanes", name := "<init>", desc := "(I)V" } : Jvm.MethodName) prog_14_method_1_code (3 : Nat) (Option.none : Option Jvm.ClassFile.FieldType)).before args0 about1 = true := code_word (m := ⟨2, 0⟩) (meth := k2m0) (c := k2c0) (by decide +kernel) rfl rfl rfl (by decide +kernel)
set_option maxRecDepth 65536 in
theorem w_c2 : (Jvm.Cond.code ({ cls := "java/lang/Object", name := "<init>", desc := "()V" } : Jvm.MethodName) object_method_1_code (1 : Nat) (Option.none : Option Jvm.ClassFile.FieldType)).before args0 about1 = true := code_word (m := ⟨0, 0⟩) (meth := k0m0) (c := k0c0) (by decide +kernel) rfl rfl rfl (by decide +kernel)
set_option maxRecDepth 65536 in
theorem w_c3 : (Jvm.Cond.code ({ cls := "com/example/herder/herder/Sha512Lanes", name := "digest", desc := "()[[J" } : Jvm.MethodName) prog_14_method_5_code (1 : Nat) (Option.some (Jvm.ClassFile.FieldType.array (Jvm.ClassFile.FieldType.array Jvm.ClassFile.FieldType.long)))).before args0 about1 = true := code_word (m := ⟨2, 2⟩) (meth := k2m2) (c := k2c2) (by decide +kernel) rfl rfl rfl (by decide +kernel)
set_option maxRecDepth 65536 in
theorem w_c4 : (Jvm.Cond.code ({ cls := "com/example/herder/herder/Sha512LanesStartPinLaw", name := "scribble", desc := "([JJI)V" } : Jvm.MethodName) method_3_code (4 : Nat) (Option.none : Option Jvm.ClassFile.FieldType)).before args0 about1 = true := code_word (m := ⟨1, 2⟩) (meth := k1m2) (c := k1c2) (by decide +kernel) rfl rfl rfl (by decide +kernel)
set_option maxRecDepth 65536 in
theorem w_c5 : (Jvm.Cond.code ({ cls := "com/example/herder/herder/Sha512Lanes", name := "start", desc := "()V" } : Jvm.MethodName) prog_14_method_2_code (2 : Nat) (Option.none : Option Jvm.ClassFile.FieldType)).before args0 about1 = true := code_word (m := ⟨2, 1⟩) (meth := k2m1) (c := k2c1) (by decide +kernel) rfl rfl rfl (by decide +kernel)
set_option maxRecDepth 65536 in
theorem w_c6 : (Jvm.Cond.code ({ cls := "java/util/Arrays", name := "fill", desc := "([JJ)V" } : Jvm.MethodName) jdk_65_method_101_code (5 : Nat) (Option.none : Option Jvm.ClassFile.FieldType)).before args0 about1 = true := code_word (m := ⟨3, 1⟩) (meth := k3m1) (c := k3c1) (by decide +kernel) rfl rfl rfl (by decide +kernel)
set_option maxRecDepth 65536 in
theorem w_c7 : (Jvm.Cond.code ({ cls := "com/example/herder/herder/Sha512LanesStartPinLaw", name := "same", desc := "([JJI)Z" } : Jvm.MethodName) method_4_code (4 : Nat) (Option.some Jvm.ClassFile.FieldType.boolean)).before args0 about1 = true := code_word (m := ⟨1, 3⟩) (meth := k1m3) (c := k1c3) (by decide +kernel) rfl rfl rfl (by decide +kernel)
def codes1 : List Jvm.Cond := [Jvm.Cond.code x code maxLocals ret, Jvm.Cond.code ({ cls := "com/example/herder/herder/Sha512Lanes", name := "<init>", desc := "(I)V" } : Jvm.MethodName) prog_14_method_1_code (3 : Nat) (Option.none : Option Jvm.ClassFile.FieldType), Jvm.Cond.code ({ cls := "java/lang/Object", name := "<init>", desc := "()V" } : Jvm.MethodName) object_method_1_code (1 : Nat) (Option.none : Option Jvm.ClassFile.FieldType), Jvm.Cond.code ({ cls := "com/example/herder/herder/Sha512Lanes", name := "digest", desc := "()[[J" } : Jvm.MethodName) prog_14_method_5_code (1 : Nat) (Option.some (Jvm.ClassFile.FieldType.array (Jvm.ClassFile.FieldType.array Jvm.ClassFile.FieldType.long))), Jvm.Cond.code ({ cls := "com/example/herder/herder/Sha512LanesStartPinLaw", name := "scribble", desc := "([JJI)V" } : Jvm.MethodName) method_3_code (4 : Nat) (Option.none : Option Jvm.ClassFile.FieldType), Jvm.Cond.code ({ cls := "com/example/herder/herder/Sha512Lanes", name := "start", desc := "()V" } : Jvm.MethodName) prog_14_method_2_code (2 : Nat) (Option.none : Option Jvm.ClassFile.FieldType), Jvm.Cond.code ({ cls := "java/util/Arrays", name := "fill", desc := "([JJ)V" } : Jvm.MethodName) jdk_65_method_101_code (5 : Nat) (Option.none : Option Jvm.ClassFile.FieldType), Jvm.Cond.code ({ cls := "com/example/herder/herder/Sha512LanesStartPinLaw", name := "same", desc := "([JJI)Z" } : Jvm.MethodName) method_4_code (4 : Nat) (Option.some Jvm.ClassFile.FieldType.boolean)]
set_option maxRecDepth 65536 in
theorem codes_eq : words1.filter isCode = codes1 := rfl
theorem w_codes : ∀ c ∈ words1.filter isCode, c.before args0 about1 = true := by
  rw [codes_eq]
  intro c hc
  simp only [codes1, List.mem_cons, List.not_mem_nil, or_false] at hc
  rcases hc with rfl | rfl | rfl | rfl | rfl | rfl | rfl | rfl
  · exact w_c0
  · exact w_c1
  · exact w_c2
  · exact w_c3
  · exact w_c4
  · exact w_c5
  · exact w_c6
  · exact w_c7
set_option maxRecDepth 65536 in
theorem w_t1 : (words1.take 24).all (fun c => isCode c || c.before args0 about1) = true := by decide +kernel
set_option maxRecDepth 65536 in
theorem w_t2 : ((words1.drop 24).take 24).all (fun c => isCode c || c.before args0 about1) = true := by decide +kernel
set_option maxRecDepth 65536 in
theorem w_t3 : ((words1.drop 24).drop 24).all (fun c => isCode c || c.before args0 about1) = true := by decide +kernel
theorem w_tables : (allAtoms (Jvm.Cond.code x code maxLocals ret :: tables_1)).before args0 about1 = true := by
  rw [allAtoms_all]
  show words1.all (fun c => c.before args0 about1) = true
  refine all_split ?_ w_codes
  rw [← List.take_append_drop 24 words1, List.all_append, w_t1, ← List.take_append_drop 24 (words1.drop 24), List.all_append, w_t2, w_t3]
  rfl
set_option maxRecDepth 65536 in
theorem w_case : (Jvm.Cond.and given_1 narrow_1).before args0 about1 = true := by decide +kernel
theorem w_applies : (headSpec (Jvm.Cond.code x code maxLocals ret :: tables_1) room_1).applies x e0.platform about1 = true :=
  (Spec.applies_iff w_frames).mpr ⟨w_running, w_runnable, w_alone, w_named, w_hears, w_ripe, w_room, w_tables⟩
theorem atStart : AtStart classFile x code maxLocals ret World_1 tables_1 room_1 Calls_1 rest_1 Pre_1 launch0 p0 e0 about1 theMethod args0 below0 :=
  ⟨lists_1, trivial, launch0.admits_env _ _ _, launch0.least_env, fairChoices_fair.cas, fairChoices_fair.clock, w_frames, w_args, w_heap, w_applies, trivial, trivial, w_case⟩
end start1
theorem witness_1 : WitnessClaimed_1 := ⟨start1.p0, start1.e0, start1.about1, start1.theMethod, start1.args0, start1.below0, start1.atStart⟩
end Jvm.Pilot.@@N@@
