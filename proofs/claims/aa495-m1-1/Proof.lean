import JvmDerived
import JvmDerived.Pilot.@@N@@Statement
import JvmDerived.Pilot.@@N@@Code
set_option linter.unusedVariables false
set_option linter.unusedSimpArgs false
namespace Jvm.Own
open Jvm Jvm.ClassFile Sem Op Lib Jvm.Free Jvm.Stand Jvm.LawKit Jvm.RoadKit
def OHr (p : Program) (l : Launch) (e : Env) (R : Room) (s : State) (m : MethodId) (args : Array Value) (below : List Frame) (meth : Method) (c : Code) (Z : State) (n0 : Nat) (own nm : String) (code : ByteArray) (maxL : Nat) (ret : Option FieldType) (T : State) (h : Heap) (ce sl : Nat) : Prop :=
  (p.tables.exec = Jvm.exec ∧ Z.Warmed39 s.vm ∧ c.code = code ∧ c.maxLocals = maxL ∧ s.vm.findClass own = some m.cls ∧ meth.name = nm ∧ meth.sig.returnType = ret ∧ meth.locks = false) ∧
  ∃ locs, Stand p l e R s m args below meth c T locs ce sl ∧ T.heap = h ∧ Fr n0 locs ∧ n0 ≤ h.size
def OEnds (p : Program) (e : Env) (below : List Frame) (s : State) (n0 : Nat) (Q : Option Value → Heap → Prop) (C S : Nat) (T : State) (g : JFrame) : Prop :=
  ∃ s₂ o, Steps p.tables e below (T.setTop g) s₂ ∧ s₂.status = .running ∧ Ended s₂ below o ∧ ∃ v L, o = .returned v ∧ (Fr n0 L ∧ Q v s₂.heap) ∧ FrameEnd s o s₂ L C S
def OMet (l : Launch) (Z : State) (n0 : Nat) (y : MethodName) (bytes : ByteArray) (maxL : Nat) (ret : Option FieldType) (rm : Room) (as : Array Value) (h0 : Heap) (Q : Option Value → Heap → Prop) : Prop :=
  ∀ ws, MetFree l y (head1 (Cond.code y bytes maxL ret :: ws) rm) (fun a U => a = as ∧ Z.Warmed39 U.vm ∧ U.heap = h0) (fun _ _ _ _ _ => True) (fun _ U o U' => ∃ v L, o = .returned v ∧ (Fr n0 L ∧ h0.size ≤ U'.heap.size ∧ Q v U'.heap) ∧ FrameEnd U o U' L rm.cells rm.slots)
theorem OMet.of {l : Launch} {Z : State} {n0 : Nat} {y : MethodName} {bytes : ByteArray} {maxL : Nat} {ret : Option FieldType} {rm : Room} {as : Array Value} {h0 : Heap} {Q : Option Value → Heap → Prop} {Ls : Array Slot}
    (pn : plainFor y = true) (Z0 : n0 ≤ h0.size) (ef : ∀ m, entryFrame m as maxL = mkF m 0 Ls [])
    (body : ∀ p e s m below meth c T, OHr p l e rm s m as below meth c Z n0 y.cls y.name bytes maxL ret T h0 0 0 → OEnds p e below s n0 Q rm.cells rm.slots T (mkF m 0 Ls [])) : OMet l Z n0 y bytes maxL ret rm as h0 Q := by
  intro ws
  refine MetFree.of_bodySF pn hisR ?_
  intro p e s m args below meth c s₁ Bd hml0 hP hK
  obtain ⟨rfl, hZ, hh⟩ := hP
  have X0 : Stand p l e rm s m _ below meth c s₁ [] 0 0 := Stand.of_body Bd
  have e0 : s₁.heap = h0 := by rw [← hh, Bd.state]; rfl
  rw [ef]
  obtain ⟨s₂, o, g1, g2, g3, v, L, g4, ⟨g5, g6⟩, g7⟩ := body p e s m below meth c s₁ ⟨⟨Bd.exec, hZ, Bd.bytes, hml0, findClass_of_methodNamed Bd.named, (name_of_methodNamed Bd.named Bd.method).1, Bd.returns, Bd.notSynchronized⟩, [], X0, e0, Fr.nil n0, Z0⟩
  exact ⟨s₂, o, g1, g2, g3, v, L, g4, ⟨g5, by rw [← hh]; exact g7.2.2.2.1, g6⟩, g7⟩
theorem OMet.mono {l : Launch} {Z : State} {n0 : Nat} {y : MethodName} {bytes : ByteArray} {maxL : Nat} {ret : Option FieldType} {rm : Room} {as : Array Value} {h0 : Heap} {Q Q' : Option Value → Heap → Prop}
    (M : OMet l Z n0 y bytes maxL ret rm as h0 Q) (q : ∀ v h, Q v h → Q' v h) : OMet l Z n0 y bytes maxL ret rm as h0 Q' := by
  intro ws p e h1 h2 h3 s m args below h4 h5 h6 h7
  obtain ⟨n, o, k1, k2, k3, v, L, k4, ⟨k5, k5', k6⟩, k7⟩ := M ws p e h1 h2 h3 s m args below h4 h5 h6 h7
  exact ⟨n, o, k1, k2, k3, v, L, k4, ⟨k5, k5', q _ _ k6⟩, k7⟩
/-! arrays by the list of their values -/
def OAry (Z : State) (h : Heap) (a : Addr) (ty : FieldType) (vs : List Value) : Prop := ∃ c : Cell, Arr Z h a c ty ∧ c.slots.toList = vs ∧ vs.length < 2 ^ 31 ∧ ∀ v ∈ vs, fits ty v = true
section Facts
variable {Z : State} {h h' : Heap} {a b : Nat} {ty : FieldType} {vs : List Value} {v : Value} {sl : Nat} {ws : List Addr} {i : Nat}
theorem OAry.lt (A : OAry Z h a ty vs) : a < h.size := by obtain ⟨c, A, -⟩ := A; exact A.lt
theorem OAry.ext (A : OAry Z h a ty vs) (E : Ext h h') : OAry Z h' a ty vs := by obtain ⟨c, A, r⟩ := A; exact ⟨c, A.ext E, r⟩
theorem OAry.other (A : OAry Z h b ty vs) (W : Wr h h' a sl v) (q : b ≠ a) : OAry Z h' b ty vs := by obtain ⟨c, A, r⟩ := A; exact ⟨c, A.other W q, r⟩
theorem OAry.keep (A : OAry Z h a ty vs) (K : Keep h h' ws) (q : a ∉ ws) : OAry Z h' a ty vs := by obtain ⟨c, A, r⟩ := A; exact ⟨c, ⟨K.2.1 _ _ A.1 q, A.2⟩, r⟩
theorem OAry.len (A : OAry Z h a ty vs) : vs.length < 2 ^ 31 := by obtain ⟨c, A, -, r, -⟩ := A; exact r
theorem OAry.fit (A : OAry Z h a ty vs) (q : v ∈ vs) : fits ty v = true := by obtain ⟨c, A, -, -, r⟩ := A; exact r v q
theorem OAry.new {cA : ClassId} {n : Int32} (A : Arr Z h a (newA cA ty n) ty) (hf : fits ty (defaultValue ty) = true) : OAry Z h a ty (List.replicate n.toNatClampNeg (defaultValue ty)) := by
  refine ⟨_, A, by simp [newA], ?_, ?_⟩
  · rw [List.length_replicate]
    have := n.toInt_lt
    have e : n.toNatClampNeg = n.toInt.toNat := rfl
    omega
  · intro v hv
    rw [List.eq_of_mem_replicate hv]
    exact hf
theorem OAry.wr (A : OAry Z h a ty vs) (W : Wr h h' a i v) (hf : fits ty v = true) : OAry Z h' a ty (vs.set i v) := by
  obtain ⟨c, A, r1, r2, r3⟩ := A
  refine ⟨_, A.same W, by simp [Cell.setSlot, r1], by simpa using r2, fun w hw => ?_⟩
  rcases List.mem_or_eq_of_mem_set hw with q | q
  · exact r3 w q
  · rw [q]; exact hf
theorem OAry.uniq {ty' : FieldType} {vs' : List Value} (A : OAry Z h a ty vs) (B : OAry Z h a ty' vs') : vs = vs' := by
  obtain ⟨c, A, r1, -⟩ := A
  obtain ⟨c', B, r1', -⟩ := B
  have e : c = c' := Option.some.inj (A.1.symm.trans B.1)
  subst e
  rw [← r1, ← r1']
theorem nat_idx {j : Int32} {i : Nat} (hj : j.toInt = (i : Int)) : j.toNatClampNeg = i ∧ ¬ j < 0 := by
  have e : j.toNatClampNeg = j.toInt.toNat := rfl
  refine ⟨by omega, ?_⟩
  rw [Int32.lt_iff_toInt_lt]
  have : (0 : Int32).toInt = 0 := rfl
  omega
theorem Fr.one {k : Nat} {L : List Loc} {a : Addr} {i : Nat} (N : Fr k L) (q : k ≤ a) : Fr k (L ++ [⟨a, i⟩]) := Fr.app N (fun y hy => by
  have e : y = ⟨a, i⟩ := List.mem_singleton.mp hy
  subst e; exact q)
theorem ext_size (E : Ext h h') : h.size ≤ h'.size := E.1
end Facts
section Go
variable {p : Program} {l : Launch} {e : Env} {R : Room} {s : State} {m : MethodId} {args : Array Value} {below : List Frame} {meth : Method} {c : Code} {Z : State} {n0 : Nat} {own nm : String} {code : ByteArray} {maxL : Nat} {ret : Option FieldType} {T : State} {h : Heap} {ce sl : Nat} {Q : Option Value → Heap → Prop} {C S : Nat} {pc : Nat} {Ls : Array Slot} {st : List Value} {a0 : Array Value}
theorem OHr.mono (H : OHr p l e R s m args below meth c Z n0 own nm code maxL ret T h ce sl) {ce' sl' : Nat} (q1 : ce ≤ ce') (q2 : sl ≤ sl') : OHr p l e R s m args below meth c Z n0 own nm code maxL ret T h ce' sl' := by
  obtain ⟨K, locs, X, r⟩ := H
  exact ⟨K, locs, { X with same := X.same.mono q1 q2 }, r⟩
theorem OHr.z0 (H : OHr p l e R s m args below meth c Z n0 own nm code maxL ret T h ce sl) : n0 ≤ h.size := by obtain ⟨K, locs, X, r1, r2, r3⟩ := H; exact r3
theorem go {T' : State} {g g' : JFrame} (q : ∀ t, Steps p.tables e below (T'.setTop g') t → Steps p.tables e below (T.setTop g) t) (k : OEnds p e below s n0 Q C S T' (g')) : OEnds p e below s n0 Q C S T (g) := by
  obtain ⟨a, o, h1, h2⟩ := k
  exact ⟨a, o, q _ h1, h2⟩
theorem go1 {T' : State} {g g' : JFrame} (q : Steps p.tables e below (T.setTop g) (T'.setTop g')) (k : OEnds p e below s n0 Q C S T' (g')) : OEnds p e below s n0 Q C S T (g) := by
  obtain ⟨a, o, h1, h2⟩ := k
  exact ⟨a, o, q.trans h1, h2⟩
theorem cut {A : Type} (P : A → Prop) (g : A → JFrame) {g0 : JFrame} (k : ∀ a, P a → OEnds p e below s n0 Q C S T (g a)) (main : (∀ a, P a → OEnds p e below s n0 Q C S T (g a)) → OEnds p e below s n0 Q C S T (g0)) : OEnds p e below s n0 Q C S T (g0) := main k
theorem cast {g g' : JFrame} (q : g = g') (k : OEnds p e below s n0 Q C S T (g')) : OEnds p e below s n0 Q C S T (g) := q ▸ k
theorem iload_n (H : OHr p l e R s m args below meth c Z n0 own nm code maxL ret T h ce sl) {k : Fin 4} {v : Int32} (hd : decode code pc = .ok (.iload_n k, 1)) (hl : Ls[k.val]? = some (.val (.int v))) (k : OEnds p e below s n0 Q C S T (mkF m (pc + 1) Ls (.int v :: st))) : OEnds p e below s n0 Q C S T (mkF m pc Ls (st)) := by
  obtain ⟨⟨hx, hZ, hby, hml, hown, hnm, hrt, hlk⟩, locs, X, eT, N, z0⟩ := H
  exact go (fun t q => XS.iloadN X.here hx rfl (hb hby hd) hl q) k
theorem lload_n (H : OHr p l e R s m args below meth c Z n0 own nm code maxL ret T h ce sl) {k : Fin 4} {v : Int64} (hd : decode code pc = .ok (.lload_n k, 1)) (hl : Ls[k.val]? = some (.val (.long v))) (k : OEnds p e below s n0 Q C S T (mkF m (pc + 1) Ls (.long v :: st))) : OEnds p e below s n0 Q C S T (mkF m pc Ls (st)) := by
  obtain ⟨⟨hx, hZ, hby, hml, hown, hnm, hrt, hlk⟩, locs, X, eT, N, z0⟩ := H
  exact go (fun t q => XT.lloadN X.here hx rfl (hb hby hd) hl q) k
theorem iload (H : OHr p l e R s m args below meth c Z n0 own nm code maxL ret T h ce sl) {k : Nat} {v : Int32} (hd : decode code pc = .ok (.iload k, 2)) (hl : Ls[k]? = some (.val (.int v))) (k : OEnds p e below s n0 Q C S T (mkF m (pc + 2) Ls (.int v :: st))) : OEnds p e below s n0 Q C S T (mkF m pc Ls (st)) := by
  obtain ⟨⟨hx, hZ, hby, hml, hown, hnm, hrt, hlk⟩, locs, X, eT, N, z0⟩ := H
  exact go (fun t q => XS.iload X.here hx rfl (hb hby hd) hl q) k
theorem lload (H : OHr p l e R s m args below meth c Z n0 own nm code maxL ret T h ce sl) {k : Nat} {v : Int64} (hd : decode code pc = .ok (.lload k, 2)) (hl : Ls[k]? = some (.val (.long v))) (k : OEnds p e below s n0 Q C S T (mkF m (pc + 2) Ls (.long v :: st))) : OEnds p e below s n0 Q C S T (mkF m pc Ls (st)) := by
  obtain ⟨⟨hx, hZ, hby, hml, hown, hnm, hrt, hlk⟩, locs, X, eT, N, z0⟩ := H
  exact go (fun t q => XT.lload X.here hx rfl (hb hby hd) hl q) k
theorem aload_n (H : OHr p l e R s m args below meth c Z n0 own nm code maxL ret T h ce sl) {k : Fin 4} {v : Value} (hd : decode code pc = .ok (.aload_n k, 1)) (hl : Ls[k.val]? = some (.val v)) (hv : v.isRef = true) (k : OEnds p e below s n0 Q C S T (mkF m (pc + 1) Ls (v :: st))) : OEnds p e below s n0 Q C S T (mkF m pc Ls (st)) := by
  obtain ⟨⟨hx, hZ, hby, hml, hown, hnm, hrt, hlk⟩, locs, X, eT, N, z0⟩ := H
  exact go (fun t q => XS.aloadN X.here hx rfl (hb hby hd) hl hv q) k
theorem aload (H : OHr p l e R s m args below meth c Z n0 own nm code maxL ret T h ce sl) {k : Nat} {v : Value} (hd : decode code pc = .ok (.aload k, 2)) (hl : Ls[k]? = some (.val v)) (hv : v.isRef = true) (k : OEnds p e below s n0 Q C S T (mkF m (pc + 2) Ls (v :: st))) : OEnds p e below s n0 Q C S T (mkF m pc Ls (st)) := by
  obtain ⟨⟨hx, hZ, hby, hml, hown, hnm, hrt, hlk⟩, locs, X, eT, N, z0⟩ := H
  exact go (fun t q => XS.aload X.here hx rfl (hb hby hd) hl hv q) k
theorem istore_n (H : OHr p l e R s m args below meth c Z n0 own nm code maxL ret T h ce sl) {k : Fin 4} {v : Int32} (l' : Array Slot) (hd : decode code pc = .ok (.istore_n k, 1)) (hl : storeLocals Ls k.val (.int v) = some l') (k : OEnds p e below s n0 Q C S T (mkF m (pc + 1) l' (st))) : OEnds p e below s n0 Q C S T (mkF m pc Ls (.int v :: st)) := by
  obtain ⟨⟨hx, hZ, hby, hml, hown, hnm, hrt, hlk⟩, locs, X, eT, N, z0⟩ := H
  exact go (fun t q => XS.istoreN X.here hx rfl (hb hby hd) rfl hl q) k
theorem istore (H : OHr p l e R s m args below meth c Z n0 own nm code maxL ret T h ce sl) {k : Nat} {v : Int32} (l' : Array Slot) (hd : decode code pc = .ok (.istore k, 2)) (hl : storeLocals Ls k (.int v) = some l') (k : OEnds p e below s n0 Q C S T (mkF m (pc + 2) l' (st))) : OEnds p e below s n0 Q C S T (mkF m pc Ls (.int v :: st)) := by
  obtain ⟨⟨hx, hZ, hby, hml, hown, hnm, hrt, hlk⟩, locs, X, eT, N, z0⟩ := H
  exact go (fun t q => XS.istore X.here hx rfl (hb hby hd) rfl hl q) k
theorem lstore_n (H : OHr p l e R s m args below meth c Z n0 own nm code maxL ret T h ce sl) {k : Fin 4} {v : Int64} (l' : Array Slot) (hd : decode code pc = .ok (.lstore_n k, 1)) (hl : storeLocals Ls k.val (.long v) = some l') (k : OEnds p e below s n0 Q C S T (mkF m (pc + 1) l' (st))) : OEnds p e below s n0 Q C S T (mkF m pc Ls (.long v :: st)) := by
  obtain ⟨⟨hx, hZ, hby, hml, hown, hnm, hrt, hlk⟩, locs, X, eT, N, z0⟩ := H
  exact go (fun t q => XT.lstoreN X.here hx rfl (hb hby hd) rfl hl q) k
theorem lstore (H : OHr p l e R s m args below meth c Z n0 own nm code maxL ret T h ce sl) {k : Nat} {v : Int64} (l' : Array Slot) (hd : decode code pc = .ok (.lstore k, 2)) (hl : storeLocals Ls k (.long v) = some l') (k : OEnds p e below s n0 Q C S T (mkF m (pc + 2) l' (st))) : OEnds p e below s n0 Q C S T (mkF m pc Ls (.long v :: st)) := by
  obtain ⟨⟨hx, hZ, hby, hml, hown, hnm, hrt, hlk⟩, locs, X, eT, N, z0⟩ := H
  exact go (fun t q => XT.lstore X.here hx rfl (hb hby hd) rfl hl q) k
theorem astore_n (H : OHr p l e R s m args below meth c Z n0 own nm code maxL ret T h ce sl) {k : Fin 4} {v : Value} (l' : Array Slot) (hd : decode code pc = .ok (.astore_n k, 1)) (hv : v.isRef = true) (hl : storeLocals Ls k.val v = some l') (k : OEnds p e below s n0 Q C S T (mkF m (pc + 1) l' (st))) : OEnds p e below s n0 Q C S T (mkF m pc Ls (v :: st)) := by
  obtain ⟨⟨hx, hZ, hby, hml, hown, hnm, hrt, hlk⟩, locs, X, eT, N, z0⟩ := H
  exact go (fun t q => XS.astoreN X.here hx rfl (hb hby hd) rfl hv hl q) k
theorem astore (H : OHr p l e R s m args below meth c Z n0 own nm code maxL ret T h ce sl) {k : Nat} {v : Value} (l' : Array Slot) (hd : decode code pc = .ok (.astore k, 2)) (hv : v.isRef = true) (hl : storeLocals Ls k v = some l') (k : OEnds p e below s n0 Q C S T (mkF m (pc + 2) l' (st))) : OEnds p e below s n0 Q C S T (mkF m pc Ls (v :: st)) := by
  obtain ⟨⟨hx, hZ, hby, hml, hown, hnm, hrt, hlk⟩, locs, X, eT, N, z0⟩ := H
  exact go (fun t q => XS.astore X.here hx rfl (hb hby hd) rfl hv hl q) k
theorem iinc (H : OHr p l e R s m args below meth c Z n0 own nm code maxL ret T h ce sl) {k : Nat} {cst : Int} {x : Int32} (d : Int32) (l' : Array Slot) (hd : decode code pc = .ok (.iinc k cst, 3)) (hl : Ls[k]? = some (.val (.int x))) (hv : Int32.ofInt cst = d) (hl' : storeLocals Ls k (.int (x + d)) = some l') (k : OEnds p e below s n0 Q C S T (mkF m (pc + 3) l' (st))) : OEnds p e below s n0 Q C S T (mkF m pc Ls (st)) := by
  obtain ⟨⟨hx, hZ, hby, hml, hown, hnm, hrt, hlk⟩, locs, X, eT, N, z0⟩ := H
  exact go (fun t q => XS.iinc X.here hx rfl (hb hby hd) hl (by rw [hv]; exact hl') q) k
theorem iinc_c (H : OHr p l e R s m args below meth c Z n0 own nm code maxL ret T h ce sl) {k : Nat} {cst : Int} {x : Int32} (r : Int32) (l' : Array Slot) (hd : decode code pc = .ok (.iinc k cst, 3)) (hl : Ls[k]? = some (.val (.int x))) (hr : x + Int32.ofInt cst = r) (hl' : storeLocals Ls k (.int r) = some l') (kk : OEnds p e below s n0 Q C S T (mkF m (pc + 3) l' st)) : OEnds p e below s n0 Q C S T (mkF m pc Ls st) := by
  subst hr
  exact iinc H _ l' hd hl rfl hl' kk
theorem iconst (H : OHr p l e R s m args below meth c Z n0 own nm code maxL ret T h ce sl) {i : Int} (v : Int32) (hd : decode code pc = .ok (.iconst i, 1)) (hv : Int32.ofInt i = v) (k : OEnds p e below s n0 Q C S T (mkF m (pc + 1) Ls (.int v :: st))) : OEnds p e below s n0 Q C S T (mkF m pc Ls st) := by
  obtain ⟨⟨hx, hZ, hby, hml, hown, hnm, hrt, hlk⟩, locs, X, eT, N, z0⟩ := H
  subst hv
  exact go (fun t q => XS.iconst X.here hx rfl (hb hby hd) q) k
theorem bipush (H : OHr p l e R s m args below meth c Z n0 own nm code maxL ret T h ce sl) {i : Int} (v : Int32) (hd : decode code pc = .ok (.bipush i, 2)) (hv : (Int8.ofInt i).toInt32 = v) (k : OEnds p e below s n0 Q C S T (mkF m (pc + 2) Ls (.int v :: st))) : OEnds p e below s n0 Q C S T (mkF m pc Ls st) := by
  obtain ⟨⟨hx, hZ, hby, hml, hown, hnm, hrt, hlk⟩, locs, X, eT, N, z0⟩ := H
  subst hv
  exact go (fun t q => XS.bipush X.here hx rfl (hb hby hd) q) k
theorem sipush (H : OHr p l e R s m args below meth c Z n0 own nm code maxL ret T h ce sl) {i : Int} (v : Int32) (hd : decode code pc = .ok (.sipush i, 3)) (hv : (Int16.ofInt i).toInt32 = v) (k : OEnds p e below s n0 Q C S T (mkF m (pc + 3) Ls (.int v :: st))) : OEnds p e below s n0 Q C S T (mkF m pc Ls st) := by
  obtain ⟨⟨hx, hZ, hby, hml, hown, hnm, hrt, hlk⟩, locs, X, eT, N, z0⟩ := H
  subst hv
  exact go (fun t q => XS.sipush X.here hx rfl (hb hby hd) q) k
theorem lconst (H : OHr p l e R s m args below meth c Z n0 own nm code maxL ret T h ce sl) {i : Fin 2} (v : Int64) (hd : decode code pc = .ok (.lconst i, 1)) (hv : Int64.ofNat i = v) (k : OEnds p e below s n0 Q C S T (mkF m (pc + 1) Ls (.long v :: st))) : OEnds p e below s n0 Q C S T (mkF m pc Ls st) := by
  obtain ⟨⟨hx, hZ, hby, hml, hown, hnm, hrt, hlk⟩, locs, X, eT, N, z0⟩ := H
  subst hv
  exact go (fun t q => XT.lconst X.here hx rfl (hb hby hd) q) k
theorem aconst_null (H : OHr p l e R s m args below meth c Z n0 own nm code maxL ret T h ce sl)  (hd : decode code pc = .ok (.aconst_null, 1))  (k : OEnds p e below s n0 Q C S T (mkF m (pc + 1) Ls (.null :: st))) : OEnds p e below s n0 Q C S T (mkF m pc Ls (st)) := by
  obtain ⟨⟨hx, hZ, hby, hml, hown, hnm, hrt, hlk⟩, locs, X, eT, N, z0⟩ := H
  exact go (fun t q => XS.aconstNull X.here hx rfl (hb hby hd) q) k
theorem ldc (H : OHr p l e R s m args below meth c Z n0 own nm code maxL ret T h ce sl) {i : Nat} {v : Int32} (hd : decode code pc = .ok (.ldc i, 2)) (w : (Cond.constant own i v).before a0 Z = true) (k : OEnds p e below s n0 Q C S T (mkF m (pc + 2) Ls (.int v :: st))) : OEnds p e below s n0 Q C S T (mkF m pc Ls st) := by
  obtain ⟨⟨hx, hZ, hby, hml, hown, hnm, hrt, hlk⟩, locs, X, eT, N, z0⟩ := H
  exact go (X.ldcInt hx hown (mvT hZ w) rfl (hb hby hd)) k
theorem ldc2_w (H : OHr p l e R s m args below meth c Z n0 own nm code maxL ret T h ce sl) {i : Nat} {v : Int64} (hd : decode code pc = .ok (.ldc2_w i, 3)) (w : (Cond.constantLong own i v).before a0 Z = true) (k : OEnds p e below s n0 Q C S T (mkF m (pc + 3) Ls (.long v :: st))) : OEnds p e below s n0 Q C S T (mkF m pc Ls st) := by
  obtain ⟨⟨hx, hZ, hby, hml, hown, hnm, hrt, hlk⟩, locs, X, eT, N, z0⟩ := H
  exact go (X.ldc2Long hx hown (mvT hZ w) rfl (hb hby hd)) k
theorem iadd (H : OHr p l e R s m args below meth c Z n0 own nm code maxL ret T h ce sl) {x y : Int32} (hd : decode code pc = .ok (.iadd, 1))  (k : OEnds p e below s n0 Q C S T (mkF m (pc + 1) Ls (.int (x + y) :: st))) : OEnds p e below s n0 Q C S T (mkF m pc Ls (.int y :: .int x :: st)) := by
  obtain ⟨⟨hx, hZ, hby, hml, hown, hnm, hrt, hlk⟩, locs, X, eT, N, z0⟩ := H
  exact go (fun t q => XS.iadd X.here hx rfl (hb hby hd) rfl q) k
theorem isub (H : OHr p l e R s m args below meth c Z n0 own nm code maxL ret T h ce sl) {x y : Int32} (hd : decode code pc = .ok (.isub, 1))  (k : OEnds p e below s n0 Q C S T (mkF m (pc + 1) Ls (.int (x - y) :: st))) : OEnds p e below s n0 Q C S T (mkF m pc Ls (.int y :: .int x :: st)) := by
  obtain ⟨⟨hx, hZ, hby, hml, hown, hnm, hrt, hlk⟩, locs, X, eT, N, z0⟩ := H
  exact go (fun t q => XS.isub X.here hx rfl (hb hby hd) rfl q) k
theorem imul (H : OHr p l e R s m args below meth c Z n0 own nm code maxL ret T h ce sl) {x y : Int32} (hd : decode code pc = .ok (.imul, 1))  (k : OEnds p e below s n0 Q C S T (mkF m (pc + 1) Ls (.int (x * y) :: st))) : OEnds p e below s n0 Q C S T (mkF m pc Ls (.int y :: .int x :: st)) := by
  obtain ⟨⟨hx, hZ, hby, hml, hown, hnm, hrt, hlk⟩, locs, X, eT, N, z0⟩ := H
  exact go (fun t q => XS.imul X.here hx rfl (hb hby hd) rfl q) k
theorem iand (H : OHr p l e R s m args below meth c Z n0 own nm code maxL ret T h ce sl) {x y : Int32} (hd : decode code pc = .ok (.iand, 1))  (k : OEnds p e below s n0 Q C S T (mkF m (pc + 1) Ls (.int (x &&& y) :: st))) : OEnds p e below s n0 Q C S T (mkF m pc Ls (.int y :: .int x :: st)) := by
  obtain ⟨⟨hx, hZ, hby, hml, hown, hnm, hrt, hlk⟩, locs, X, eT, N, z0⟩ := H
  exact go (fun t q => XS.iand X.here hx rfl (hb hby hd) rfl q) k
theorem ior (H : OHr p l e R s m args below meth c Z n0 own nm code maxL ret T h ce sl) {x y : Int32} (hd : decode code pc = .ok (.ior, 1))  (k : OEnds p e below s n0 Q C S T (mkF m (pc + 1) Ls (.int (x ||| y) :: st))) : OEnds p e below s n0 Q C S T (mkF m pc Ls (.int y :: .int x :: st)) := by
  obtain ⟨⟨hx, hZ, hby, hml, hown, hnm, hrt, hlk⟩, locs, X, eT, N, z0⟩ := H
  exact go (fun t q => XT.ior X.here hx rfl (hb hby hd) rfl q) k
theorem ixor (H : OHr p l e R s m args below meth c Z n0 own nm code maxL ret T h ce sl) {x y : Int32} (hd : decode code pc = .ok (.ixor, 1))  (k : OEnds p e below s n0 Q C S T (mkF m (pc + 1) Ls (.int (x ^^^ y) :: st))) : OEnds p e below s n0 Q C S T (mkF m pc Ls (.int y :: .int x :: st)) := by
  obtain ⟨⟨hx, hZ, hby, hml, hown, hnm, hrt, hlk⟩, locs, X, eT, N, z0⟩ := H
  exact go (fun t q => XT.ixor X.here hx rfl (hb hby hd) rfl q) k
theorem ishl (H : OHr p l e R s m args below meth c Z n0 own nm code maxL ret T h ce sl) {x y : Int32} (hd : decode code pc = .ok (.ishl, 1))  (k : OEnds p e below s n0 Q C S T (mkF m (pc + 1) Ls (.int (x <<< (y &&& 31)) :: st))) : OEnds p e below s n0 Q C S T (mkF m pc Ls (.int y :: .int x :: st)) := by
  obtain ⟨⟨hx, hZ, hby, hml, hown, hnm, hrt, hlk⟩, locs, X, eT, N, z0⟩ := H
  exact go (fun t q => XT.ishl X.here hx rfl (hb hby hd) rfl q) k
theorem ishr (H : OHr p l e R s m args below meth c Z n0 own nm code maxL ret T h ce sl) {x y : Int32} (hd : decode code pc = .ok (.ishr, 1))  (k : OEnds p e below s n0 Q C S T (mkF m (pc + 1) Ls (.int (x >>> (y &&& 31)) :: st))) : OEnds p e below s n0 Q C S T (mkF m pc Ls (.int y :: .int x :: st)) := by
  obtain ⟨⟨hx, hZ, hby, hml, hown, hnm, hrt, hlk⟩, locs, X, eT, N, z0⟩ := H
  exact go (fun t q => XT.ishr X.here hx rfl (hb hby hd) rfl q) k
theorem iushr (H : OHr p l e R s m args below meth c Z n0 own nm code maxL ret T h ce sl) {x y : Int32} (hd : decode code pc = .ok (.iushr, 1))  (k : OEnds p e below s n0 Q C S T (mkF m (pc + 1) Ls (.int (XT.ushr x y) :: st))) : OEnds p e below s n0 Q C S T (mkF m pc Ls (.int y :: .int x :: st)) := by
  obtain ⟨⟨hx, hZ, hby, hml, hown, hnm, hrt, hlk⟩, locs, X, eT, N, z0⟩ := H
  exact go (fun t q => XT.iushr X.here hx rfl (hb hby hd) rfl q) k
theorem idiv (H : OHr p l e R s m args below meth c Z n0 own nm code maxL ret T h ce sl) {x y : Int32} (hd : decode code pc = .ok (.idiv, 1)) (hy : y ≠ 0) (k : OEnds p e below s n0 Q C S T (mkF m (pc + 1) Ls (.int (x / y) :: st))) : OEnds p e below s n0 Q C S T (mkF m pc Ls (.int y :: .int x :: st)) := by
  obtain ⟨⟨hx, hZ, hby, hml, hown, hnm, hrt, hlk⟩, locs, X, eT, N, z0⟩ := H
  exact go (fun t q => XS.idiv X.here hx rfl (hb hby hd) rfl hy q) k
theorem irem (H : OHr p l e R s m args below meth c Z n0 own nm code maxL ret T h ce sl) {x y : Int32} (hd : decode code pc = .ok (.irem, 1)) (hy : y ≠ 0) (k : OEnds p e below s n0 Q C S T (mkF m (pc + 1) Ls (.int (x % y) :: st))) : OEnds p e below s n0 Q C S T (mkF m pc Ls (.int y :: .int x :: st)) := by
  obtain ⟨⟨hx, hZ, hby, hml, hown, hnm, hrt, hlk⟩, locs, X, eT, N, z0⟩ := H
  exact go (fun t q => iremM X hx rfl (hb hby hd) rfl hy q) k
theorem iadd_c (H : OHr p l e R s m args below meth c Z n0 own nm code maxL ret T h ce sl) {x y : Int32} (r : Int32) (hd : decode code pc = .ok (.iadd, 1)) (hr : x + y = r) (k : OEnds p e below s n0 Q C S T (mkF m (pc + 1) Ls (.int r :: st))) : OEnds p e below s n0 Q C S T (mkF m pc Ls (.int y :: .int x :: st)) := by
  subst hr
  exact iadd H hd k
theorem isub_c (H : OHr p l e R s m args below meth c Z n0 own nm code maxL ret T h ce sl) {x y : Int32} (r : Int32) (hd : decode code pc = .ok (.isub, 1)) (hr : x - y = r) (k : OEnds p e below s n0 Q C S T (mkF m (pc + 1) Ls (.int r :: st))) : OEnds p e below s n0 Q C S T (mkF m pc Ls (.int y :: .int x :: st)) := by
  subst hr
  exact isub H hd k
theorem imul_c (H : OHr p l e R s m args below meth c Z n0 own nm code maxL ret T h ce sl) {x y : Int32} (r : Int32) (hd : decode code pc = .ok (.imul, 1)) (hr : x * y = r) (k : OEnds p e below s n0 Q C S T (mkF m (pc + 1) Ls (.int r :: st))) : OEnds p e below s n0 Q C S T (mkF m pc Ls (.int y :: .int x :: st)) := by
  subst hr
  exact imul H hd k
theorem iand_c (H : OHr p l e R s m args below meth c Z n0 own nm code maxL ret T h ce sl) {x y : Int32} (r : Int32) (hd : decode code pc = .ok (.iand, 1)) (hr : x &&& y = r) (k : OEnds p e below s n0 Q C S T (mkF m (pc + 1) Ls (.int r :: st))) : OEnds p e below s n0 Q C S T (mkF m pc Ls (.int y :: .int x :: st)) := by
  subst hr
  exact iand H hd k
theorem ior_c (H : OHr p l e R s m args below meth c Z n0 own nm code maxL ret T h ce sl) {x y : Int32} (r : Int32) (hd : decode code pc = .ok (.ior, 1)) (hr : x ||| y = r) (k : OEnds p e below s n0 Q C S T (mkF m (pc + 1) Ls (.int r :: st))) : OEnds p e below s n0 Q C S T (mkF m pc Ls (.int y :: .int x :: st)) := by
  subst hr
  exact ior H hd k
theorem ixor_c (H : OHr p l e R s m args below meth c Z n0 own nm code maxL ret T h ce sl) {x y : Int32} (r : Int32) (hd : decode code pc = .ok (.ixor, 1)) (hr : x ^^^ y = r) (k : OEnds p e below s n0 Q C S T (mkF m (pc + 1) Ls (.int r :: st))) : OEnds p e below s n0 Q C S T (mkF m pc Ls (.int y :: .int x :: st)) := by
  subst hr
  exact ixor H hd k
theorem ishl_c (H : OHr p l e R s m args below meth c Z n0 own nm code maxL ret T h ce sl) {x y : Int32} (r : Int32) (hd : decode code pc = .ok (.ishl, 1)) (hr : x <<< (y &&& 31) = r) (k : OEnds p e below s n0 Q C S T (mkF m (pc + 1) Ls (.int r :: st))) : OEnds p e below s n0 Q C S T (mkF m pc Ls (.int y :: .int x :: st)) := by
  subst hr
  exact ishl H hd k
theorem ishr_c (H : OHr p l e R s m args below meth c Z n0 own nm code maxL ret T h ce sl) {x y : Int32} (r : Int32) (hd : decode code pc = .ok (.ishr, 1)) (hr : x >>> (y &&& 31) = r) (k : OEnds p e below s n0 Q C S T (mkF m (pc + 1) Ls (.int r :: st))) : OEnds p e below s n0 Q C S T (mkF m pc Ls (.int y :: .int x :: st)) := by
  subst hr
  exact ishr H hd k
theorem iushr_c (H : OHr p l e R s m args below meth c Z n0 own nm code maxL ret T h ce sl) {x y : Int32} (r : Int32) (hd : decode code pc = .ok (.iushr, 1)) (hr : XT.ushr x y = r) (k : OEnds p e below s n0 Q C S T (mkF m (pc + 1) Ls (.int r :: st))) : OEnds p e below s n0 Q C S T (mkF m pc Ls (.int y :: .int x :: st)) := by
  subst hr
  exact iushr H hd k
theorem idiv_c (H : OHr p l e R s m args below meth c Z n0 own nm code maxL ret T h ce sl) {x y : Int32} (r : Int32) (hd : decode code pc = .ok (.idiv, 1)) (hy : y ≠ 0) (hr : x / y = r) (k : OEnds p e below s n0 Q C S T (mkF m (pc + 1) Ls (.int r :: st))) : OEnds p e below s n0 Q C S T (mkF m pc Ls (.int y :: .int x :: st)) := by
  subst hr
  exact idiv H hd hy k
theorem irem_c (H : OHr p l e R s m args below meth c Z n0 own nm code maxL ret T h ce sl) {x y : Int32} (r : Int32) (hd : decode code pc = .ok (.irem, 1)) (hy : y ≠ 0) (hr : x % y = r) (k : OEnds p e below s n0 Q C S T (mkF m (pc + 1) Ls (.int r :: st))) : OEnds p e below s n0 Q C S T (mkF m pc Ls (.int y :: .int x :: st)) := by
  subst hr
  exact irem H hd hy k
theorem ineg (H : OHr p l e R s m args below meth c Z n0 own nm code maxL ret T h ce sl) {x : Int32} (hd : decode code pc = .ok (.ineg, 1))  (k : OEnds p e below s n0 Q C S T (mkF m (pc + 1) Ls (.int (-x) :: st))) : OEnds p e below s n0 Q C S T (mkF m pc Ls (.int x :: st)) := by
  obtain ⟨⟨hx, hZ, hby, hml, hown, hnm, hrt, hlk⟩, locs, X, eT, N, z0⟩ := H
  exact go (fun t q => XS.ineg X.here hx rfl (hb hby hd) rfl q) k
theorem ladd (H : OHr p l e R s m args below meth c Z n0 own nm code maxL ret T h ce sl) {x y : Int64} (hd : decode code pc = .ok (.ladd, 1))  (k : OEnds p e below s n0 Q C S T (mkF m (pc + 1) Ls (.long (x + y) :: st))) : OEnds p e below s n0 Q C S T (mkF m pc Ls (.long y :: .long x :: st)) := by
  obtain ⟨⟨hx, hZ, hby, hml, hown, hnm, hrt, hlk⟩, locs, X, eT, N, z0⟩ := H
  exact go (fun t q => XT.ladd X.here hx rfl (hb hby hd) rfl q) k
theorem lsub (H : OHr p l e R s m args below meth c Z n0 own nm code maxL ret T h ce sl) {x y : Int64} (hd : decode code pc = .ok (.lsub, 1))  (k : OEnds p e below s n0 Q C S T (mkF m (pc + 1) Ls (.long (x - y) :: st))) : OEnds p e below s n0 Q C S T (mkF m pc Ls (.long y :: .long x :: st)) := by
  obtain ⟨⟨hx, hZ, hby, hml, hown, hnm, hrt, hlk⟩, locs, X, eT, N, z0⟩ := H
  exact go (fun t q => XT.lsub X.here hx rfl (hb hby hd) rfl q) k
theorem lmul (H : OHr p l e R s m args below meth c Z n0 own nm code maxL ret T h ce sl) {x y : Int64} (hd : decode code pc = .ok (.lmul, 1))  (k : OEnds p e below s n0 Q C S T (mkF m (pc + 1) Ls (.long (x * y) :: st))) : OEnds p e below s n0 Q C S T (mkF m pc Ls (.long y :: .long x :: st)) := by
  obtain ⟨⟨hx, hZ, hby, hml, hown, hnm, hrt, hlk⟩, locs, X, eT, N, z0⟩ := H
  exact go (fun t q => XT.lmul X.here hx rfl (hb hby hd) rfl q) k
theorem land (H : OHr p l e R s m args below meth c Z n0 own nm code maxL ret T h ce sl) {x y : Int64} (hd : decode code pc = .ok (.land, 1))  (k : OEnds p e below s n0 Q C S T (mkF m (pc + 1) Ls (.long (x &&& y) :: st))) : OEnds p e below s n0 Q C S T (mkF m pc Ls (.long y :: .long x :: st)) := by
  obtain ⟨⟨hx, hZ, hby, hml, hown, hnm, hrt, hlk⟩, locs, X, eT, N, z0⟩ := H
  exact go (fun t q => XT.land X.here hx rfl (hb hby hd) rfl q) k
theorem lor (H : OHr p l e R s m args below meth c Z n0 own nm code maxL ret T h ce sl) {x y : Int64} (hd : decode code pc = .ok (.lor, 1))  (k : OEnds p e below s n0 Q C S T (mkF m (pc + 1) Ls (.long (x ||| y) :: st))) : OEnds p e below s n0 Q C S T (mkF m pc Ls (.long y :: .long x :: st)) := by
  obtain ⟨⟨hx, hZ, hby, hml, hown, hnm, hrt, hlk⟩, locs, X, eT, N, z0⟩ := H
  exact go (fun t q => XT.lor X.here hx rfl (hb hby hd) rfl q) k
theorem lxor (H : OHr p l e R s m args below meth c Z n0 own nm code maxL ret T h ce sl) {x y : Int64} (hd : decode code pc = .ok (.lxor, 1))  (k : OEnds p e below s n0 Q C S T (mkF m (pc + 1) Ls (.long (x ^^^ y) :: st))) : OEnds p e below s n0 Q C S T (mkF m pc Ls (.long y :: .long x :: st)) := by
  obtain ⟨⟨hx, hZ, hby, hml, hown, hnm, hrt, hlk⟩, locs, X, eT, N, z0⟩ := H
  exact go (fun t q => XT.lxor X.here hx rfl (hb hby hd) rfl q) k
theorem lshl (H : OHr p l e R s m args below meth c Z n0 own nm code maxL ret T h ce sl) {x : Int64} {y : Int32} (hd : decode code pc = .ok (.lshl, 1))  (k : OEnds p e below s n0 Q C S T (mkF m (pc + 1) Ls (.long (x <<< (y.toInt64 &&& 63)) :: st))) : OEnds p e below s n0 Q C S T (mkF m pc Ls (.int y :: .long x :: st)) := by
  obtain ⟨⟨hx, hZ, hby, hml, hown, hnm, hrt, hlk⟩, locs, X, eT, N, z0⟩ := H
  exact go (fun t q => XT.lshl X.here hx rfl (hb hby hd) rfl q) k
theorem lshr (H : OHr p l e R s m args below meth c Z n0 own nm code maxL ret T h ce sl) {x : Int64} {y : Int32} (hd : decode code pc = .ok (.lshr, 1))  (k : OEnds p e below s n0 Q C S T (mkF m (pc + 1) Ls (.long (x >>> (y.toInt64 &&& 63)) :: st))) : OEnds p e below s n0 Q C S T (mkF m pc Ls (.int y :: .long x :: st)) := by
  obtain ⟨⟨hx, hZ, hby, hml, hown, hnm, hrt, hlk⟩, locs, X, eT, N, z0⟩ := H
  exact go (fun t q => XT.lshr X.here hx rfl (hb hby hd) rfl q) k
theorem lushr (H : OHr p l e R s m args below meth c Z n0 own nm code maxL ret T h ce sl) {x : Int64} {y : Int32} (hd : decode code pc = .ok (.lushr, 1))  (k : OEnds p e below s n0 Q C S T (mkF m (pc + 1) Ls (.long (XT.ushrL x y) :: st))) : OEnds p e below s n0 Q C S T (mkF m pc Ls (.int y :: .long x :: st)) := by
  obtain ⟨⟨hx, hZ, hby, hml, hown, hnm, hrt, hlk⟩, locs, X, eT, N, z0⟩ := H
  exact go (fun t q => XT.lushr X.here hx rfl (hb hby hd) rfl q) k
theorem lneg (H : OHr p l e R s m args below meth c Z n0 own nm code maxL ret T h ce sl) {x : Int64} (hd : decode code pc = .ok (.lneg, 1))  (k : OEnds p e below s n0 Q C S T (mkF m (pc + 1) Ls (.long (-x) :: st))) : OEnds p e below s n0 Q C S T (mkF m pc Ls (.long x :: st)) := by
  obtain ⟨⟨hx, hZ, hby, hml, hown, hnm, hrt, hlk⟩, locs, X, eT, N, z0⟩ := H
  exact go (fun t q => XT.lneg X.here hx rfl (hb hby hd) rfl q) k
theorem i2l (H : OHr p l e R s m args below meth c Z n0 own nm code maxL ret T h ce sl) {x : Int32} (hd : decode code pc = .ok (.i2l, 1))  (k : OEnds p e below s n0 Q C S T (mkF m (pc + 1) Ls (.long x.toInt64 :: st))) : OEnds p e below s n0 Q C S T (mkF m pc Ls (.int x :: st)) := by
  obtain ⟨⟨hx, hZ, hby, hml, hown, hnm, hrt, hlk⟩, locs, X, eT, N, z0⟩ := H
  exact go (fun t q => XT.i2l X.here hx rfl (hb hby hd) rfl q) k
theorem l2i (H : OHr p l e R s m args below meth c Z n0 own nm code maxL ret T h ce sl) {x : Int64} (hd : decode code pc = .ok (.l2i, 1))  (k : OEnds p e below s n0 Q C S T (mkF m (pc + 1) Ls (.int x.toInt32 :: st))) : OEnds p e below s n0 Q C S T (mkF m pc Ls (.long x :: st)) := by
  obtain ⟨⟨hx, hZ, hby, hml, hown, hnm, hrt, hlk⟩, locs, X, eT, N, z0⟩ := H
  exact go (fun t q => XT.l2i X.here hx rfl (hb hby hd) rfl q) k
theorem i2b (H : OHr p l e R s m args below meth c Z n0 own nm code maxL ret T h ce sl) {x : Int32} (hd : decode code pc = .ok (.i2b, 1))  (k : OEnds p e below s n0 Q C S T (mkF m (pc + 1) Ls (.int x.toInt8.toInt32 :: st))) : OEnds p e below s n0 Q C S T (mkF m pc Ls (.int x :: st)) := by
  obtain ⟨⟨hx, hZ, hby, hml, hown, hnm, hrt, hlk⟩, locs, X, eT, N, z0⟩ := H
  exact go (fun t q => XT.i2b X.here hx rfl (hb hby hd) rfl q) k
theorem i2c (H : OHr p l e R s m args below meth c Z n0 own nm code maxL ret T h ce sl) {x : Int32} (hd : decode code pc = .ok (.i2c, 1))  (k : OEnds p e below s n0 Q C S T (mkF m (pc + 1) Ls (.int x.toUInt32.toUInt16.toUInt32.toInt32 :: st))) : OEnds p e below s n0 Q C S T (mkF m pc Ls (.int x :: st)) := by
  obtain ⟨⟨hx, hZ, hby, hml, hown, hnm, hrt, hlk⟩, locs, X, eT, N, z0⟩ := H
  exact go (fun t q => XT.i2c X.here hx rfl (hb hby hd) rfl q) k
theorem lcmp (H : OHr p l e R s m args below meth c Z n0 own nm code maxL ret T h ce sl) {x y : Int64} (hd : decode code pc = .ok (.lcmp, 1))  (k : OEnds p e below s n0 Q C S T (mkF m (pc + 1) Ls (.int (XT.cmpL x y) :: st))) : OEnds p e below s n0 Q C S T (mkF m pc Ls (.long y :: .long x :: st)) := by
  obtain ⟨⟨hx, hZ, hby, hml, hown, hnm, hrt, hlk⟩, locs, X, eT, N, z0⟩ := H
  exact go (fun t q => XT.lcmp X.here hx rfl (hb hby hd) rfl q) k
theorem dup (H : OHr p l e R s m args below meth c Z n0 own nm code maxL ret T h ce sl) {x : Value} (hd : decode code pc = .ok (.dup, 1)) (hc : x.category = 1) (k : OEnds p e below s n0 Q C S T (mkF m (pc + 1) Ls (x :: x :: st))) : OEnds p e below s n0 Q C S T (mkF m pc Ls (x :: st)) := by
  obtain ⟨⟨hx, hZ, hby, hml, hown, hnm, hrt, hlk⟩, locs, X, eT, N, z0⟩ := H
  exact go (fun t q => XS.dup X.here hx rfl (hb hby hd) rfl hc q) k
theorem pop (H : OHr p l e R s m args below meth c Z n0 own nm code maxL ret T h ce sl) {x : Value} (hd : decode code pc = .ok (.pop, 1)) (hc : x.category = 1) (k : OEnds p e below s n0 Q C S T (mkF m (pc + 1) Ls (st))) : OEnds p e below s n0 Q C S T (mkF m pc Ls (x :: st)) := by
  obtain ⟨⟨hx, hZ, hby, hml, hown, hnm, hrt, hlk⟩, locs, X, eT, N, z0⟩ := H
  exact go (fun t q => XT.pop X.here hx rfl (hb hby hd) rfl hc q) k
theorem dup_x1 (H : OHr p l e R s m args below meth c Z n0 own nm code maxL ret T h ce sl) {x y : Value} (hd : decode code pc = .ok (.dup_x1, 1)) (hc : x.category = 1) (hc' : y.category = 1) (k : OEnds p e below s n0 Q C S T (mkF m (pc + 1) Ls (x :: y :: x :: st))) : OEnds p e below s n0 Q C S T (mkF m pc Ls (x :: y :: st)) := by
  obtain ⟨⟨hx, hZ, hby, hml, hown, hnm, hrt, hlk⟩, locs, X, eT, N, z0⟩ := H
  exact go (fun t q => XT.dupX1 X.here hx rfl (hb hby hd) rfl hc hc' q) k
theorem dup2 (H : OHr p l e R s m args below meth c Z n0 own nm code maxL ret T h ce sl) {x y : Value} (hd : decode code pc = .ok (.dup2, 1)) (hc : x.category = 1) (hc' : y.category = 1) (k : OEnds p e below s n0 Q C S T (mkF m (pc + 1) Ls (x :: y :: x :: y :: st))) : OEnds p e below s n0 Q C S T (mkF m pc Ls (x :: y :: st)) := by
  obtain ⟨⟨hx, hZ, hby, hml, hown, hnm, hrt, hlk⟩, locs, X, eT, N, z0⟩ := H
  exact go (fun t q => XT.dup2 X.here hx rfl (hb hby hd) rfl hc hc' q) k
theorem goto (H : OHr p l e R s m args below meth c Z n0 own nm code maxL ret T h ce sl) {o : Int} (pc' : Nat) (hd : decode code pc = .ok (.goto o, 3)) (ho : 0 ≤ (pc : Int) + o) (hp : ((pc : Int) + o).toNat = pc') (k : OEnds p e below s n0 Q C S T (mkF m pc' Ls st)) : OEnds p e below s n0 Q C S T (mkF m pc Ls st) := by
  obtain ⟨⟨hx, hZ, hby, hml, hown, hnm, hrt, hlk⟩, locs, X, eT, N, z0⟩ := H
  exact go (fun t q => XS.goto X.here hx rfl rfl (hb hby hd) ho hp q) k
theorem icmp_lt (H : OHr p l e R s m args below meth c Z n0 own nm code maxL ret T h ce sl) {x y : Int32} {o : Int} (pc' : Nat) (hd : decode code pc = .ok (.if_icmp .lt o, 3)) (ho : 0 ≤ (pc : Int) + o) (hp : ((pc : Int) + o).toNat = pc') (kt : x < y → OEnds p e below s n0 Q C S T (mkF m pc' Ls st)) (kf : ¬ x < y → OEnds p e below s n0 Q C S T (mkF m (pc + 3) Ls st)) : OEnds p e below s n0 Q C S T (mkF m pc Ls (.int y :: .int x :: st)) := by
  obtain ⟨⟨hx, hZ, hby, hml, hown, hnm, hrt, hlk⟩, locs, X, eT, N, z0⟩ := H
  by_cases q : x < y
  · exact go (fun t r => XS.icmpYes X.here hx rfl rfl (hb hby hd) rfl (tlt q).1 ho hp r) (kt q)
  · exact go (fun t r => XS.icmpNo X.here hx rfl (hb hby hd) rfl (flt q).1 r) (kf q)
theorem if_lt (H : OHr p l e R s m args below meth c Z n0 own nm code maxL ret T h ce sl) {x : Int32} {o : Int} (pc' : Nat) (hd : decode code pc = .ok (.ifCond .lt o, 3)) (ho : 0 ≤ (pc : Int) + o) (hp : ((pc : Int) + o).toNat = pc') (kt : x < (0 : Int32) → OEnds p e below s n0 Q C S T (mkF m pc' Ls st)) (kf : ¬ x < (0 : Int32) → OEnds p e below s n0 Q C S T (mkF m (pc + 3) Ls st)) : OEnds p e below s n0 Q C S T (mkF m pc Ls (.int x :: st)) := by
  obtain ⟨⟨hx, hZ, hby, hml, hown, hnm, hrt, hlk⟩, locs, X, eT, N, z0⟩ := H
  by_cases q : x < (0 : Int32)
  · exact go (fun t r => XS.ifYes X.here hx rfl rfl (hb hby hd) rfl ((if0 _ _).trans (tlt q).1) ho hp r) (kt q)
  · exact go (fun t r => XS.ifNo X.here hx rfl (hb hby hd) rfl ((if0 _ _).trans (flt q).1) r) (kf q)
theorem icmp_ge (H : OHr p l e R s m args below meth c Z n0 own nm code maxL ret T h ce sl) {x y : Int32} {o : Int} (pc' : Nat) (hd : decode code pc = .ok (.if_icmp .ge o, 3)) (ho : 0 ≤ (pc : Int) + o) (hp : ((pc : Int) + o).toNat = pc') (kt : ¬ x < y → OEnds p e below s n0 Q C S T (mkF m pc' Ls st)) (kf : x < y → OEnds p e below s n0 Q C S T (mkF m (pc + 3) Ls st)) : OEnds p e below s n0 Q C S T (mkF m pc Ls (.int y :: .int x :: st)) := by
  obtain ⟨⟨hx, hZ, hby, hml, hown, hnm, hrt, hlk⟩, locs, X, eT, N, z0⟩ := H
  by_cases q : x < y
  · exact go (fun t r => XS.icmpNo X.here hx rfl (hb hby hd) rfl (tlt q).2.1 r) (kf q)
  · exact go (fun t r => XS.icmpYes X.here hx rfl rfl (hb hby hd) rfl (flt q).2.1 ho hp r) (kt q)
theorem if_ge (H : OHr p l e R s m args below meth c Z n0 own nm code maxL ret T h ce sl) {x : Int32} {o : Int} (pc' : Nat) (hd : decode code pc = .ok (.ifCond .ge o, 3)) (ho : 0 ≤ (pc : Int) + o) (hp : ((pc : Int) + o).toNat = pc') (kt : ¬ x < (0 : Int32) → OEnds p e below s n0 Q C S T (mkF m pc' Ls st)) (kf : x < (0 : Int32) → OEnds p e below s n0 Q C S T (mkF m (pc + 3) Ls st)) : OEnds p e below s n0 Q C S T (mkF m pc Ls (.int x :: st)) := by
  obtain ⟨⟨hx, hZ, hby, hml, hown, hnm, hrt, hlk⟩, locs, X, eT, N, z0⟩ := H
  by_cases q : x < (0 : Int32)
  · exact go (fun t r => XS.ifNo X.here hx rfl (hb hby hd) rfl ((if0 _ _).trans (tlt q).2.1) r) (kf q)
  · exact go (fun t r => XS.ifYes X.here hx rfl rfl (hb hby hd) rfl ((if0 _ _).trans (flt q).2.1) ho hp r) (kt q)
theorem icmp_gt (H : OHr p l e R s m args below meth c Z n0 own nm code maxL ret T h ce sl) {x y : Int32} {o : Int} (pc' : Nat) (hd : decode code pc = .ok (.if_icmp .gt o, 3)) (ho : 0 ≤ (pc : Int) + o) (hp : ((pc : Int) + o).toNat = pc') (kt : y < x → OEnds p e below s n0 Q C S T (mkF m pc' Ls st)) (kf : ¬ y < x → OEnds p e below s n0 Q C S T (mkF m (pc + 3) Ls st)) : OEnds p e below s n0 Q C S T (mkF m pc Ls (.int y :: .int x :: st)) := by
  obtain ⟨⟨hx, hZ, hby, hml, hown, hnm, hrt, hlk⟩, locs, X, eT, N, z0⟩ := H
  by_cases q : y < x
  · exact go (fun t r => XS.icmpYes X.here hx rfl rfl (hb hby hd) rfl (tlt q).2.2.1 ho hp r) (kt q)
  · exact go (fun t r => XS.icmpNo X.here hx rfl (hb hby hd) rfl (flt q).2.2.1 r) (kf q)
theorem if_gt (H : OHr p l e R s m args below meth c Z n0 own nm code maxL ret T h ce sl) {x : Int32} {o : Int} (pc' : Nat) (hd : decode code pc = .ok (.ifCond .gt o, 3)) (ho : 0 ≤ (pc : Int) + o) (hp : ((pc : Int) + o).toNat = pc') (kt : (0 : Int32) < x → OEnds p e below s n0 Q C S T (mkF m pc' Ls st)) (kf : ¬ (0 : Int32) < x → OEnds p e below s n0 Q C S T (mkF m (pc + 3) Ls st)) : OEnds p e below s n0 Q C S T (mkF m pc Ls (.int x :: st)) := by
  obtain ⟨⟨hx, hZ, hby, hml, hown, hnm, hrt, hlk⟩, locs, X, eT, N, z0⟩ := H
  by_cases q : (0 : Int32) < x
  · exact go (fun t r => XS.ifYes X.here hx rfl rfl (hb hby hd) rfl ((if0 _ _).trans (tlt q).2.2.1) ho hp r) (kt q)
  · exact go (fun t r => XS.ifNo X.here hx rfl (hb hby hd) rfl ((if0 _ _).trans (flt q).2.2.1) r) (kf q)
theorem icmp_le (H : OHr p l e R s m args below meth c Z n0 own nm code maxL ret T h ce sl) {x y : Int32} {o : Int} (pc' : Nat) (hd : decode code pc = .ok (.if_icmp .le o, 3)) (ho : 0 ≤ (pc : Int) + o) (hp : ((pc : Int) + o).toNat = pc') (kt : ¬ y < x → OEnds p e below s n0 Q C S T (mkF m pc' Ls st)) (kf : y < x → OEnds p e below s n0 Q C S T (mkF m (pc + 3) Ls st)) : OEnds p e below s n0 Q C S T (mkF m pc Ls (.int y :: .int x :: st)) := by
  obtain ⟨⟨hx, hZ, hby, hml, hown, hnm, hrt, hlk⟩, locs, X, eT, N, z0⟩ := H
  by_cases q : y < x
  · exact go (fun t r => XS.icmpNo X.here hx rfl (hb hby hd) rfl (tlt q).2.2.2 r) (kf q)
  · exact go (fun t r => XS.icmpYes X.here hx rfl rfl (hb hby hd) rfl (flt q).2.2.2 ho hp r) (kt q)
theorem if_le (H : OHr p l e R s m args below meth c Z n0 own nm code maxL ret T h ce sl) {x : Int32} {o : Int} (pc' : Nat) (hd : decode code pc = .ok (.ifCond .le o, 3)) (ho : 0 ≤ (pc : Int) + o) (hp : ((pc : Int) + o).toNat = pc') (kt : ¬ (0 : Int32) < x → OEnds p e below s n0 Q C S T (mkF m pc' Ls st)) (kf : (0 : Int32) < x → OEnds p e below s n0 Q C S T (mkF m (pc + 3) Ls st)) : OEnds p e below s n0 Q C S T (mkF m pc Ls (.int x :: st)) := by
  obtain ⟨⟨hx, hZ, hby, hml, hown, hnm, hrt, hlk⟩, locs, X, eT, N, z0⟩ := H
  by_cases q : (0 : Int32) < x
  · exact go (fun t r => XS.ifNo X.here hx rfl (hb hby hd) rfl ((if0 _ _).trans (tlt q).2.2.2) r) (kf q)
  · exact go (fun t r => XS.ifYes X.here hx rfl rfl (hb hby hd) rfl ((if0 _ _).trans (flt q).2.2.2) ho hp r) (kt q)
theorem icmp_eq (H : OHr p l e R s m args below meth c Z n0 own nm code maxL ret T h ce sl) {x y : Int32} {o : Int} (pc' : Nat) (hd : decode code pc = .ok (.if_icmp .eq o, 3)) (ho : 0 ≤ (pc : Int) + o) (hp : ((pc : Int) + o).toNat = pc') (kt : x = y → OEnds p e below s n0 Q C S T (mkF m pc' Ls st)) (kf : ¬ x = y → OEnds p e below s n0 Q C S T (mkF m (pc + 3) Ls st)) : OEnds p e below s n0 Q C S T (mkF m pc Ls (.int y :: .int x :: st)) := by
  obtain ⟨⟨hx, hZ, hby, hml, hown, hnm, hrt, hlk⟩, locs, X, eT, N, z0⟩ := H
  by_cases q : x = y
  · exact go (fun t r => XS.icmpYes X.here hx rfl rfl (hb hby hd) rfl (teq q).1 ho hp r) (kt q)
  · exact go (fun t r => XS.icmpNo X.here hx rfl (hb hby hd) rfl (feq q).1 r) (kf q)
theorem if_eq (H : OHr p l e R s m args below meth c Z n0 own nm code maxL ret T h ce sl) {x : Int32} {o : Int} (pc' : Nat) (hd : decode code pc = .ok (.ifCond .eq o, 3)) (ho : 0 ≤ (pc : Int) + o) (hp : ((pc : Int) + o).toNat = pc') (kt : x = (0 : Int32) → OEnds p e below s n0 Q C S T (mkF m pc' Ls st)) (kf : ¬ x = (0 : Int32) → OEnds p e below s n0 Q C S T (mkF m (pc + 3) Ls st)) : OEnds p e below s n0 Q C S T (mkF m pc Ls (.int x :: st)) := by
  obtain ⟨⟨hx, hZ, hby, hml, hown, hnm, hrt, hlk⟩, locs, X, eT, N, z0⟩ := H
  by_cases q : x = (0 : Int32)
  · exact go (fun t r => XS.ifYes X.here hx rfl rfl (hb hby hd) rfl ((if0 _ _).trans (teq q).1) ho hp r) (kt q)
  · exact go (fun t r => XS.ifNo X.here hx rfl (hb hby hd) rfl ((if0 _ _).trans (feq q).1) r) (kf q)
theorem icmp_ne (H : OHr p l e R s m args below meth c Z n0 own nm code maxL ret T h ce sl) {x y : Int32} {o : Int} (pc' : Nat) (hd : decode code pc = .ok (.if_icmp .ne o, 3)) (ho : 0 ≤ (pc : Int) + o) (hp : ((pc : Int) + o).toNat = pc') (kt : ¬ x = y → OEnds p e below s n0 Q C S T (mkF m pc' Ls st)) (kf : x = y → OEnds p e below s n0 Q C S T (mkF m (pc + 3) Ls st)) : OEnds p e below s n0 Q C S T (mkF m pc Ls (.int y :: .int x :: st)) := by
  obtain ⟨⟨hx, hZ, hby, hml, hown, hnm, hrt, hlk⟩, locs, X, eT, N, z0⟩ := H
  by_cases q : x = y
  · exact go (fun t r => XS.icmpNo X.here hx rfl (hb hby hd) rfl (teq q).2 r) (kf q)
  · exact go (fun t r => XS.icmpYes X.here hx rfl rfl (hb hby hd) rfl (feq q).2 ho hp r) (kt q)
theorem if_ne (H : OHr p l e R s m args below meth c Z n0 own nm code maxL ret T h ce sl) {x : Int32} {o : Int} (pc' : Nat) (hd : decode code pc = .ok (.ifCond .ne o, 3)) (ho : 0 ≤ (pc : Int) + o) (hp : ((pc : Int) + o).toNat = pc') (kt : ¬ x = (0 : Int32) → OEnds p e below s n0 Q C S T (mkF m pc' Ls st)) (kf : x = (0 : Int32) → OEnds p e below s n0 Q C S T (mkF m (pc + 3) Ls st)) : OEnds p e below s n0 Q C S T (mkF m pc Ls (.int x :: st)) := by
  obtain ⟨⟨hx, hZ, hby, hml, hown, hnm, hrt, hlk⟩, locs, X, eT, N, z0⟩ := H
  by_cases q : x = (0 : Int32)
  · exact go (fun t r => XS.ifNo X.here hx rfl (hb hby hd) rfl ((if0 _ _).trans (teq q).2) r) (kf q)
  · exact go (fun t r => XS.ifYes X.here hx rfl rfl (hb hby hd) rfl ((if0 _ _).trans (feq q).2) ho hp r) (kt q)
theorem ifnull_ref (H : OHr p l e R s m args below meth c Z n0 own nm code maxL ret T h ce sl) {o : Int} {b : Addr} (hd : decode code pc = .ok (.ifnull o, 3)) (k : OEnds p e below s n0 Q C S T (mkF m (pc + 3) Ls st)) : OEnds p e below s n0 Q C S T (mkF m pc Ls (.ref b :: st)) := by
  obtain ⟨⟨hx, hZ, hby, hml, hown, hnm, hrt, hlk⟩, locs, X, eT, N, z0⟩ := H
  exact go (fun t q => XS.ifnullNo X.here hx rfl (hb hby hd) rfl q) k
theorem ifnonnull_ref (H : OHr p l e R s m args below meth c Z n0 own nm code maxL ret T h ce sl) {o : Int} {b : Addr} (pc' : Nat) (hd : decode code pc = .ok (.ifnonnull o, 3)) (ho : 0 ≤ (pc : Int) + o) (hp : ((pc : Int) + o).toNat = pc') (k : OEnds p e below s n0 Q C S T (mkF m pc' Ls st)) : OEnds p e below s n0 Q C S T (mkF m pc Ls (.ref b :: st)) := by
  obtain ⟨⟨hx, hZ, hby, hml, hown, hnm, hrt, hlk⟩, locs, X, eT, N, z0⟩ := H
  exact go (fun t q => XT.ifnonnullYes X.here hx rfl rfl (hb hby hd) rfl ho hp q) k
theorem acmp_ne (H : OHr p l e R s m args below meth c Z n0 own nm code maxL ret T h ce sl) {x y : Value} {o : Int} (pc' : Nat) (hd : decode code pc = .ok (.if_acmp .ne o, 3)) (h1 : x.isRef = true) (h2 : y.isRef = true) (ho : 0 ≤ (pc : Int) + o) (hp : ((pc : Int) + o).toNat = pc') (kt : ¬ x = y → OEnds p e below s n0 Q C S T (mkF m pc' Ls st)) (kf : x = y → OEnds p e below s n0 Q C S T (mkF m (pc + 3) Ls st)) : OEnds p e below s n0 Q C S T (mkF m pc Ls (y :: x :: st)) := by
  obtain ⟨⟨hx, hZ, hby, hml, hown, hnm, hrt, hlk⟩, locs, X, eT, N, z0⟩ := H
  by_cases q : x = y
  · exact go (fun t r => XT.acmpNo X.here hx rfl (hb hby hd) rfl h1 h2 (by simp [XT.acmp, q]) r) (kf q)
  · exact go (fun t r => XT.acmpYes X.here hx rfl rfl (hb hby hd) rfl h1 h2 (by simp [XT.acmp, q]) ho hp r) (kt q)
theorem acmp_eq (H : OHr p l e R s m args below meth c Z n0 own nm code maxL ret T h ce sl) {x y : Value} {o : Int} (pc' : Nat) (hd : decode code pc = .ok (.if_acmp .eq o, 3)) (h1 : x.isRef = true) (h2 : y.isRef = true) (ho : 0 ≤ (pc : Int) + o) (hp : ((pc : Int) + o).toNat = pc') (kt : x = y → OEnds p e below s n0 Q C S T (mkF m pc' Ls st)) (kf : ¬ x = y → OEnds p e below s n0 Q C S T (mkF m (pc + 3) Ls st)) : OEnds p e below s n0 Q C S T (mkF m pc Ls (y :: x :: st)) := by
  obtain ⟨⟨hx, hZ, hby, hml, hown, hnm, hrt, hlk⟩, locs, X, eT, N, z0⟩ := H
  by_cases q : x = y
  · exact go (fun t r => XT.acmpYes X.here hx rfl rfl (hb hby hd) rfl h1 h2 (by simp [XT.acmp, q]) ho hp r) (kt q)
  · exact go (fun t r => XT.acmpNo X.here hx rfl (hb hby hd) rfl h1 h2 (by simp [XT.acmp, q]) r) (kf q)
theorem ret_int (H : OHr p l e R s m args below meth c Z n0 own nm code maxL ret T h ce sl) {z : Int32} (hd : decode code pc = .ok (.ireturn, 1)) (hr : ret = some .int) (hC : ce ≤ C) (hS : sl ≤ S) (hq : Q (some (.int z)) h) : OEnds p e below s n0 Q C S T (mkF m pc Ls (.int z :: st)) := by
  obtain ⟨⟨hx, hZ, hby, hml, hown, hnm, hrt, hlk⟩, locs, X, eT, N, z0⟩ := H
  obtain ⟨fs, hrr, hrun, hended, hW, hsame⟩ := X.leave (v := some (.int z)) (fun q => by rw [hrt, hr] at q; cases q) hlk
  refine ⟨_, _, ?_, hrun, hended, _, _, rfl, ⟨N, ?_⟩, ⟨_, rfl⟩, hW, hsame.mono hC hS⟩
  · exact retOut X hx (hrt.trans hr) rfl (Or.inl ⟨rfl, Or.inl rfl, _, rfl⟩) (hb hby hd) hrr
  · show Q _ T.heap
    rw [eT]; exact hq
theorem ret_nar (H : OHr p l e R s m args below meth c Z n0 own nm code maxL ret T h ce sl) {z : Int32} (w : Int32) {t : FieldType} (hd : decode code pc = .ok (.ireturn, 1)) (hr : ret = some t) (ht : t = .boolean ∨ t = .byte ∨ t = .char ∨ t = .short) (hw : nar t z = w) (hC : ce ≤ C) (hS : sl ≤ S) (hq : Q (some (.int w)) h) : OEnds p e below s n0 Q C S T (mkF m pc Ls (.int z :: st)) := by
  obtain ⟨⟨hx, hZ, hby, hml, hown, hnm, hrt, hlk⟩, locs, X, eT, N, z0⟩ := H
  subst hw
  obtain ⟨fs, hrr, hrun, hended, hW, hsame⟩ := X.leave (v := some (.int (nar t z))) (fun q => by rw [hrt, hr] at q; cases q) hlk
  refine ⟨_, _, ?_, hrun, hended, _, _, rfl, ⟨N, ?_⟩, ⟨_, rfl⟩, hW, hsame.mono hC hS⟩
  · exact retN X hx (hrt.trans hr) ht (hb hby hd) hrr
  · show Q _ T.heap
    rw [eT]; exact hq
theorem ret_long (H : OHr p l e R s m args below meth c Z n0 own nm code maxL ret T h ce sl) {z : Int64} (hd : decode code pc = .ok (.lreturn, 1)) (hr : ret = some .long) (hC : ce ≤ C) (hS : sl ≤ S) (hq : Q (some (.long z)) h) : OEnds p e below s n0 Q C S T (mkF m pc Ls (.long z :: st)) := by
  obtain ⟨⟨hx, hZ, hby, hml, hown, hnm, hrt, hlk⟩, locs, X, eT, N, z0⟩ := H
  obtain ⟨fs, hrr, hrun, hended, hW, hsame⟩ := X.leave (v := some (.long z)) (fun q => by rw [hrt, hr] at q; cases q) hlk
  refine ⟨_, _, ?_, hrun, hended, _, _, rfl, ⟨N, ?_⟩, ⟨_, rfl⟩, hW, hsame.mono hC hS⟩
  · exact retOut X hx (hrt.trans hr) rfl (Or.inr (Or.inl ⟨rfl, rfl, _, rfl⟩)) (hb hby hd) hrr
  · show Q _ T.heap
    rw [eT]; exact hq
theorem ret_ref (H : OHr p l e R s m args below meth c Z n0 own nm code maxL ret T h ce sl) {z : Value} {t : FieldType} (hd : decode code pc = .ok (.areturn, 1)) (hr : ret = some t) (ht : t.isReference = true) (hn : narrow t z = z) (hz : z.isRef = true) (hC : ce ≤ C) (hS : sl ≤ S) (hq : Q (some z) h) : OEnds p e below s n0 Q C S T (mkF m pc Ls (z :: st)) := by
  obtain ⟨⟨hx, hZ, hby, hml, hown, hnm, hrt, hlk⟩, locs, X, eT, N, z0⟩ := H
  obtain ⟨fs, hrr, hrun, hended, hW, hsame⟩ := X.leave (v := some z) (fun q => by rw [hrt, hr] at q; cases q) hlk
  refine ⟨_, _, ?_, hrun, hended, _, _, rfl, ⟨N, ?_⟩, ⟨_, rfl⟩, hW, hsame.mono hC hS⟩
  · exact retOut X hx (hrt.trans hr) hn (Or.inr (Or.inr (Or.inr (Or.inr ⟨rfl, ht, hz⟩)))) (hb hby hd) hrr
  · show Q _ T.heap
    rw [eT]; exact hq
theorem ret_void (H : OHr p l e R s m args below meth c Z n0 own nm code maxL ret T h ce sl) (hd : decode code pc = .ok (.return_, 1)) (hr : ret = none) (hC : ce ≤ C) (hS : sl ≤ S) (hq : Q none h) : OEnds p e below s n0 Q C S T (mkF m pc Ls []) := by
  obtain ⟨⟨hx, hZ, hby, hml, hown, hnm, hrt, hlk⟩, locs, X, eT, N, z0⟩ := H
  obtain ⟨fs, hrr, hrun, hended, hW, hsame⟩ := X.leave (v := none) (fun _ => rfl) hlk
  refine ⟨_, _, ?_, hrun, hended, _, _, rfl, ⟨N, ?_⟩, ⟨_, rfl⟩, hW, hsame.mono hC hS⟩
  · exact X.returnOut hx (hrt.trans hr) (hb hby hd) hrr
  · show Q _ T.heap
    rw [eT]; exact hq
theorem getfield (H : OHr p l e R s m args below meth c Z n0 own nm code maxL ret T h ce sl) {O n d : String} {idx : Nat} {a : Addr} {v : Value} (hd : decode code pc = .ok (.getfield idx, 3)) (w : (Cond.fieldLink own idx O n d).before a0 Z = true) (F : Fld Z h a O n d v) (k : ∀ T', OHr p l e R s m args below meth c Z n0 own nm code maxL ret T' h ce sl → OEnds p e below s n0 Q C S T' (mkF m (pc + 3) Ls (v :: st))) : OEnds p e below s n0 Q C S T (mkF m pc Ls (.ref a :: st)) := by
  obtain ⟨⟨hx, hZ, hby, hml, hown, hnm, hrt, hlk⟩, locs, X, eT, N, z0⟩ := H
  obtain ⟨T', X', e', q⟩ := getF X hx hZ hown (host := "") (Or.inl w) Via.refl eT F (g := mkF m pc Ls (.ref a :: st)) rfl rfl (hb hby hd)
  exact go q (k T' ⟨⟨hx, hZ, hby, hml, hown, hnm, hrt, hlk⟩, locs, X', e', N, z0⟩)
theorem putfield (H : OHr p l e R s m args below meth c Z n0 own nm code maxL ret T h ce sl) {O n d CC : String} {idx kk : Nat} {ty : FieldType} {a : Addr} {v old : Value} (hd : decode code pc = .ok (.putfield idx, 3)) (w : (Cond.fieldLink own idx O n d).before a0 Z = true) (F : Fld Z h a O n d old) (E : Exa Z h a CC) (L : (Cond.lays CC O n d).before a0 Z = true ∨ ((Cond.laysFinal CC O n d).before a0 Z = true ∧ own = O ∧ nm = "<init>")) (wi : (Cond.instantiable CC kk).before a0 Z = true) (hty : parseFieldDescriptor d = some ty) (hn : narrow ty v = v) (hf : fits ty v = true) (ge : n0 ≤ a)
    (k : ∀ T' h', OHr p l e R s m args below meth c Z n0 own nm code maxL ret T' h' ce sl → Wr h h' a (Jvm.RoadKit.slotOf Z O n d) v → OEnds p e below s n0 Q C S T' (mkF m (pc + 3) Ls st)) : OEnds p e below s n0 Q C S T (mkF m pc Ls (v :: .ref a :: st)) := by
  obtain ⟨⟨hx, hZ, hby, hml, hown, hnm, hrt, hlk⟩, locs, X, eT, N, z0⟩ := H
  obtain ⟨T', h', X', e', W, q⟩ := putF X hx hZ hown (host := "") (Or.inl w) Via.refl eT F E (by rcases L with q | ⟨q1, q2, q3⟩; exact Or.inl q; exact Or.inr ⟨q1, q2, hnm.trans q3⟩) wi hty hn hf (g := mkF m pc Ls (v :: .ref a :: st)) rfl rfl (hb hby hd)
  exact go q (k T' h' ⟨⟨hx, hZ, hby, hml, hown, hnm, hrt, hlk⟩, _, X', e', Fr.one N ge, by rw [W.size]; exact z0⟩ W)
theorem getstatic (H : OHr p l e R s m args below meth c Z n0 own nm code maxL ret T h ce sl) {O n d : String} {idx : Nat} {v : Value} (hd : decode code pc = .ok (.getstatic idx, 3)) (w : (Cond.fieldLink own idx O n d).before a0 Z = true) (F : Sta Z h O n d v) (k : ∀ T', OHr p l e R s m args below meth c Z n0 own nm code maxL ret T' h ce sl → OEnds p e below s n0 Q C S T' (mkF m (pc + 3) Ls (v :: st))) : OEnds p e below s n0 Q C S T (mkF m pc Ls st) := by
  obtain ⟨⟨hx, hZ, hby, hml, hown, hnm, hrt, hlk⟩, locs, X, eT, N, z0⟩ := H
  obtain ⟨T', X', e', q⟩ := getS (host := "") X hx hZ hown w Via.refl eT F (g := mkF m pc Ls st) rfl (hb hby hd)
  exact go q (k T' ⟨⟨hx, hZ, hby, hml, hown, hnm, hrt, hlk⟩, locs, X', e', N, z0⟩)
theorem new_ (H : OHr p l e R s m args below meth c Z n0 own nm code maxL ret T h ce sl) {CC : String} {idx n : Nat} (hd : decode code pc = .ok (.new idx, 3)) (w : (Cond.classLink own idx CC).before a0 Z = true) (wi : (Cond.instantiable CC n).before a0 Z = true) (wz : (Cond.initialized CC).before a0 Z = true) (hc : ce + 1 ≤ R.cells) (hl : sl + n ≤ R.slots)
    (k : ∀ T' h' a, a = h.size → n0 ≤ a → OHr p l e R s m args below meth c Z n0 own nm code maxL ret T' h' (ce + 1) (sl + n) → Ext h h' → Exa Z h' a CC → (∀ {O nm d : String} {ty : FieldType}, Laid Z a0 CC O nm d → parseFieldDescriptor d = some ty → Fld Z h' a O nm d (defaultValue ty)) → OEnds p e below s n0 Q C S T' (mkF m (pc + 3) Ls (.ref a :: st))) : OEnds p e below s n0 Q C S T (mkF m pc Ls st) := by
  obtain ⟨⟨hx, hZ, hby, hml, hown, hnm, hrt, hlk⟩, locs, X, eT, N, z0⟩ := H
  obtain ⟨T', h', X', e', E', A', D', -, q⟩ := newO X hx hZ hown w wi wz eT (g := mkF m pc Ls st) rfl (hb hby hd) hc hl
  exact go q (k T' h' _ rfl z0 ⟨⟨hx, hZ, hby, hml, hown, hnm, hrt, hlk⟩, locs, X', e', N, Nat.le_trans z0 E'.1⟩ E' A' D')
theorem newarray (H : OHr p l e R s m args below meth c Z n0 own nm code maxL ret T h ce sl) {aty : ArrayType} {n : Int32} {i : Nat} (cap : Nat) (hd : decode code pc = .ok (.newarray aty, 2)) (w : (Cond.arrayClass (newarray.typeOf aty)).before a0 Z = true) (hn : n.toInt = (i : Int)) (hf : fits (newarray.typeOf aty) (defaultValue (newarray.typeOf aty)) = true) (hcap : i ≤ cap) (hb8 : cap * 8 ≤ 536870912) (hc : ce + 1 ≤ R.cells) (hl : sl + cap ≤ R.slots)
    (k : ∀ T' h' a, a = h.size → n0 ≤ a → OHr p l e R s m args below meth c Z n0 own nm code maxL ret T' h' (ce + 1) (sl + cap) → Ext h h' → OAry Z h' a (newarray.typeOf aty) (List.replicate i (defaultValue (newarray.typeOf aty))) → OEnds p e below s n0 Q C S T' (mkF m (pc + 2) Ls (.ref a :: st))) : OEnds p e below s n0 Q C S T (mkF m pc Ls (.int n :: st)) := by
  obtain ⟨⟨hx, hZ, hby, hml, hown, hnm, hrt, hlk⟩, locs, X, eT, N, z0⟩ := H
  obtain ⟨n1, n2⟩ := nat_idx hn
  obtain ⟨T', h', cA, X', e', E', A', q⟩ := newP X hx hZ w eT (g := mkF m pc Ls (.int n :: st)) rfl (hb hby hd) rfl n2 (cap := cap) (by rw [n1]; exact hcap) hb8 hc hl
  exact go q (k T' h' _ rfl z0 ⟨⟨hx, hZ, hby, hml, hown, hnm, hrt, hlk⟩, locs, X', e', N, Nat.le_trans z0 E'.1⟩ E' (by have := OAry.new A' hf; rw [n1] at this; exact this))
theorem arraylength (H : OHr p l e R s m args below meth c Z n0 own nm code maxL ret T h ce sl) {a : Addr} {ty : FieldType} {vs : List Value} (n : Int32) (hd : decode code pc = .ok (.arraylength, 1)) (A : OAry Z h a ty vs) (hn : n.toInt = (vs.length : Int)) (k : OEnds p e below s n0 Q C S T (mkF m (pc + 1) Ls (.int n :: st))) : OEnds p e below s n0 Q C S T (mkF m pc Ls (.ref a :: st)) := by
  obtain ⟨⟨hx, hZ, hby, hml, hown, hnm, hrt, hlk⟩, locs, X, eT, N, z0⟩ := H
  obtain ⟨c1, A, r1, r2, r3⟩ := A
  have hsz : c1.slots.size = vs.length := by rw [← r1]; simp
  obtain ⟨n1, n2⟩ := nat_idx hn
  have e1 : c1.slots.size.toInt32 = n := by rw [hsz, ← n1]; exact (back32 n2).1
  refine go (fun t q => X.arraylength hx (cell := c1) (by rw [eT]; exact A.1) (State.isArrayOf_alike hZ.alike A.2.1) (g := mkF m pc Ls (.ref a :: st)) rfl rfl (hb hby hd) t q) ?_
  rw [e1]
  exact k
theorem iaload (H : OHr p l e R s m args below meth c Z n0 own nm code maxL ret T h ce sl) {a : Addr} {vs : List Value} {j : Int32} {v : Int32} (i : Nat) (hd : decode code pc = .ok (.iaload, 1)) (A : OAry Z h a .int vs) (hj : j.toInt = (i : Int)) (hv : vs[i]? = some (.int v)) (k : OEnds p e below s n0 Q C S T (mkF m (pc + 1) Ls (.int v :: st))) : OEnds p e below s n0 Q C S T (mkF m pc Ls (.int j :: .ref a :: st)) := by
  obtain ⟨⟨hx, hZ, hby, hml, hown, hnm, hrt, hlk⟩, locs, X, eT, N, z0⟩ := H
  obtain ⟨c1, A, r1, r2, r3⟩ := A
  have hsz : c1.slots.size = vs.length := by rw [← r1]; simp
  obtain ⟨n1, n2⟩ := nat_idx hj
  have hi : i < vs.length := by rcases Nat.lt_or_ge i vs.length with q | q; exact q; rw [List.getElem?_eq_none q] at hv; cases hv
  have hat : c1.slots[j.toNatClampNeg]? = some (.int v) := by rw [n1, ← Array.getElem?_toList, r1]; exact hv
  have hin : ¬ (j < 0 ∨ c1.slots.size ≤ j.toNatClampNeg) := by rw [n1, hsz]; intro q; rcases q with q | q; exact n2 q; omega
  exact go (fun t q => X.iaload hx (by rw [eT]; exact A.1) (State.isArrayOf_alike hZ.alike A.2.1) A.2.2 hin hat (g := mkF m pc Ls (.int j :: .ref a :: st)) rfl rfl (hb hby hd) t q) k
theorem laload (H : OHr p l e R s m args below meth c Z n0 own nm code maxL ret T h ce sl) {a : Addr} {vs : List Value} {j : Int32} {v : Int64} (i : Nat) (hd : decode code pc = .ok (.laload, 1)) (A : OAry Z h a .long vs) (hj : j.toInt = (i : Int)) (hv : vs[i]? = some (.long v)) (k : OEnds p e below s n0 Q C S T (mkF m (pc + 1) Ls (.long v :: st))) : OEnds p e below s n0 Q C S T (mkF m pc Ls (.int j :: .ref a :: st)) := by
  obtain ⟨⟨hx, hZ, hby, hml, hown, hnm, hrt, hlk⟩, locs, X, eT, N, z0⟩ := H
  obtain ⟨c1, A, r1, r2, r3⟩ := A
  have hsz : c1.slots.size = vs.length := by rw [← r1]; simp
  obtain ⟨n1, n2⟩ := nat_idx hj
  have hi : i < vs.length := by rcases Nat.lt_or_ge i vs.length with q | q; exact q; rw [List.getElem?_eq_none q] at hv; cases hv
  have hat : c1.slots[j.toNatClampNeg]? = some (.long v) := by rw [n1, ← Array.getElem?_toList, r1]; exact hv
  have hin : ¬ (j < 0 ∨ c1.slots.size ≤ j.toNatClampNeg) := by rw [n1, hsz]; intro q; rcases q with q | q; exact n2 q; omega
  exact go (fun t q => X.laload hx (by rw [eT]; exact A.1) (State.isArrayOf_alike hZ.alike A.2.1) A.2.2 hin hat (g := mkF m pc Ls (.int j :: .ref a :: st)) rfl rfl (hb hby hd) t q) k
theorem caload (H : OHr p l e R s m args below meth c Z n0 own nm code maxL ret T h ce sl) {a : Addr} {vs : List Value} {j : Int32} {v : Int32} (i : Nat) (hd : decode code pc = .ok (.caload, 1)) (A : OAry Z h a .char vs) (hj : j.toInt = (i : Int)) (hv : vs[i]? = some (.int v)) (k : OEnds p e below s n0 Q C S T (mkF m (pc + 1) Ls (.int v :: st))) : OEnds p e below s n0 Q C S T (mkF m pc Ls (.int j :: .ref a :: st)) := by
  obtain ⟨⟨hx, hZ, hby, hml, hown, hnm, hrt, hlk⟩, locs, X, eT, N, z0⟩ := H
  obtain ⟨c1, A, r1, r2, r3⟩ := A
  have hsz : c1.slots.size = vs.length := by rw [← r1]; simp
  obtain ⟨n1, n2⟩ := nat_idx hj
  have hi : i < vs.length := by rcases Nat.lt_or_ge i vs.length with q | q; exact q; rw [List.getElem?_eq_none q] at hv; cases hv
  have hat : c1.slots[j.toNatClampNeg]? = some (.int v) := by rw [n1, ← Array.getElem?_toList, r1]; exact hv
  have hin : ¬ (j < 0 ∨ c1.slots.size ≤ j.toNatClampNeg) := by rw [n1, hsz]; intro q; rcases q with q | q; exact n2 q; omega
  exact go (fun t q => X.caload hx (by rw [eT]; exact A.1) (State.isArrayOf_alike hZ.alike A.2.1) A.2.2 hin hat (g := mkF m pc Ls (.int j :: .ref a :: st)) rfl rfl (hb hby hd) t q) k
theorem baload (H : OHr p l e R s m args below meth c Z n0 own nm code maxL ret T h ce sl) {a : Addr} {vs : List Value} {j : Int32} {v : Int32} (i : Nat) (hd : decode code pc = .ok (.baload, 1)) (A : OAry Z h a .byte vs) (hj : j.toInt = (i : Int)) (hv : vs[i]? = some (.int v)) (k : OEnds p e below s n0 Q C S T (mkF m (pc + 1) Ls (.int v :: st))) : OEnds p e below s n0 Q C S T (mkF m pc Ls (.int j :: .ref a :: st)) := by
  obtain ⟨⟨hx, hZ, hby, hml, hown, hnm, hrt, hlk⟩, locs, X, eT, N, z0⟩ := H
  obtain ⟨c1, A, r1, r2, r3⟩ := A
  have hsz : c1.slots.size = vs.length := by rw [← r1]; simp
  obtain ⟨n1, n2⟩ := nat_idx hj
  have hi : i < vs.length := by rcases Nat.lt_or_ge i vs.length with q | q; exact q; rw [List.getElem?_eq_none q] at hv; cases hv
  have hat : c1.slots[j.toNatClampNeg]? = some (.int v) := by rw [n1, ← Array.getElem?_toList, r1]; exact hv
  have hin : ¬ (j < 0 ∨ c1.slots.size ≤ j.toNatClampNeg) := by rw [n1, hsz]; intro q; rcases q with q | q; exact n2 q; omega
  exact go (fun t q => X.baloadBytes hx (by rw [eT]; exact A.1) (State.isArrayOf_alike hZ.alike A.2.1) A.2.2 hin hat (g := mkF m pc Ls (.int j :: .ref a :: st)) rfl rfl (hb hby hd) t q) k
theorem aaload (H : OHr p l e R s m args below meth c Z n0 own nm code maxL ret T h ce sl) {a : Addr} {ty : FieldType} {vs : List Value} {j : Int32} {v : Value} (i : Nat) (hd : decode code pc = .ok (.aaload, 1)) (A : OAry Z h a ty vs) (ht : ty.isReference = true) (hj : j.toInt = (i : Int)) (hv : vs[i]? = some v) (k : OEnds p e below s n0 Q C S T (mkF m (pc + 1) Ls (v :: st))) : OEnds p e below s n0 Q C S T (mkF m pc Ls (.int j :: .ref a :: st)) := by
  obtain ⟨⟨hx, hZ, hby, hml, hown, hnm, hrt, hlk⟩, locs, X, eT, N, z0⟩ := H
  obtain ⟨c1, A, r1, r2, r3⟩ := A
  have hsz : c1.slots.size = vs.length := by rw [← r1]; simp
  obtain ⟨n1, n2⟩ := nat_idx hj
  have hi : i < vs.length := by rcases Nat.lt_or_ge i vs.length with q | q; exact q; rw [List.getElem?_eq_none q] at hv; cases hv
  have hat : c1.slots[j.toNatClampNeg]? = some v := by rw [n1, ← Array.getElem?_toList, r1]; exact hv
  have hin : ¬ (j < 0 ∨ c1.slots.size ≤ j.toNatClampNeg) := by rw [n1, hsz]; intro q; rcases q with q | q; exact n2 q; omega
  exact go (fun t q => X.aaload hx (by rw [eT]; exact A.1) (State.isArrayOf_alike hZ.alike A.2.1) ht A.2.2 hin hat (g := mkF m pc Ls (.int j :: .ref a :: st)) rfl rfl (hb hby hd) t q) k
theorem iastore (H : OHr p l e R s m args below meth c Z n0 own nm code maxL ret T h ce sl) {a : Addr} {vs : List Value} {j : Int32} {v : Int32} (i : Nat) (hd : decode code pc = .ok (.iastore, 1)) (A : OAry Z h a .int vs) (ge : n0 ≤ a) (hj : j.toInt = (i : Int)) (hi : i < vs.length) (k : ∀ T' h', OHr p l e R s m args below meth c Z n0 own nm code maxL ret T' h' ce sl → Wr h h' a i (.int v) → OAry Z h' a .int (vs.set i (.int v)) → OEnds p e below s n0 Q C S T' (mkF m (pc + 1) Ls st)) : OEnds p e below s n0 Q C S T (mkF m pc Ls (.int v :: .int j :: .ref a :: st)) := by
  obtain ⟨⟨hx, hZ, hby, hml, hown, hnm, hrt, hlk⟩, locs, X, eT, N, z0⟩ := H
  have A0 := A
  obtain ⟨c1, A, r1, r2, r3⟩ := A
  have hsz : c1.slots.size = vs.length := by rw [← r1]; simp
  obtain ⟨n1, n2⟩ := nat_idx hj
  have hin : ¬ (j < 0 ∨ c1.slots.size ≤ j.toNatClampNeg) := by rw [n1, hsz]; intro q; rcases q with q | q; exact n2 q; omega
  obtain ⟨T', h', X', e', W, q⟩ := stI X hx hZ eT A hin (g := mkF m pc Ls (.int v :: .int j :: .ref a :: st)) rfl rfl (hb hby hd)
  rw [n1] at X' W
  exact go q (k T' h' ⟨⟨hx, hZ, hby, hml, hown, hnm, hrt, hlk⟩, _, X', e', Fr.one N ge, by rw [W.size]; exact z0⟩ W (A0.wr W rfl))
theorem lastore (H : OHr p l e R s m args below meth c Z n0 own nm code maxL ret T h ce sl) {a : Addr} {vs : List Value} {j : Int32} {v : Int64} (i : Nat) (hd : decode code pc = .ok (.lastore, 1)) (A : OAry Z h a .long vs) (ge : n0 ≤ a) (hj : j.toInt = (i : Int)) (hi : i < vs.length) (k : ∀ T' h', OHr p l e R s m args below meth c Z n0 own nm code maxL ret T' h' ce sl → Wr h h' a i (.long v) → OAry Z h' a .long (vs.set i (.long v)) → OEnds p e below s n0 Q C S T' (mkF m (pc + 1) Ls st)) : OEnds p e below s n0 Q C S T (mkF m pc Ls (.long v :: .int j :: .ref a :: st)) := by
  obtain ⟨⟨hx, hZ, hby, hml, hown, hnm, hrt, hlk⟩, locs, X, eT, N, z0⟩ := H
  have A0 := A
  obtain ⟨c1, A, r1, r2, r3⟩ := A
  have hsz : c1.slots.size = vs.length := by rw [← r1]; simp
  obtain ⟨n1, n2⟩ := nat_idx hj
  have hin : ¬ (j < 0 ∨ c1.slots.size ≤ j.toNatClampNeg) := by rw [n1, hsz]; intro q; rcases q with q | q; exact n2 q; omega
  obtain ⟨T', h', X', e', W, q⟩ := stJ X hx hZ eT A hin (g := mkF m pc Ls (.long v :: .int j :: .ref a :: st)) rfl rfl (hb hby hd)
  rw [n1] at X' W
  exact go q (k T' h' ⟨⟨hx, hZ, hby, hml, hown, hnm, hrt, hlk⟩, _, X', e', Fr.one N ge, by rw [W.size]; exact z0⟩ W (A0.wr W rfl))
theorem castore (H : OHr p l e R s m args below meth c Z n0 own nm code maxL ret T h ce sl) {a : Addr} {vs : List Value} {j : Int32} {v : Int32} (i : Nat) (hd : decode code pc = .ok (.castore, 1)) (A : OAry Z h a .char vs) (ge : n0 ≤ a) (hj : j.toInt = (i : Int)) (hi : i < vs.length) (k : ∀ T' h', OHr p l e R s m args below meth c Z n0 own nm code maxL ret T' h' ce sl → Wr h h' a i (.int (nar .char v)) → OAry Z h' a .char (vs.set i (.int (nar .char v))) → OEnds p e below s n0 Q C S T' (mkF m (pc + 1) Ls st)) : OEnds p e below s n0 Q C S T (mkF m pc Ls (.int v :: .int j :: .ref a :: st)) := by
  obtain ⟨⟨hx, hZ, hby, hml, hown, hnm, hrt, hlk⟩, locs, X, eT, N, z0⟩ := H
  have A0 := A
  obtain ⟨c1, A, r1, r2, r3⟩ := A
  have hsz : c1.slots.size = vs.length := by rw [← r1]; simp
  obtain ⟨n1, n2⟩ := nat_idx hj
  have hin : ¬ (j < 0 ∨ c1.slots.size ≤ j.toNatClampNeg) := by rw [n1, hsz]; intro q; rcases q with q | q; exact n2 q; omega
  obtain ⟨T', h', X', e', W, q⟩ := stC X hx hZ eT A hin (g := mkF m pc Ls (.int v :: .int j :: .ref a :: st)) rfl rfl (hb hby hd)
  rw [n1] at X' W
  exact go q (k T' h' ⟨⟨hx, hZ, hby, hml, hown, hnm, hrt, hlk⟩, _, X', e', Fr.one N ge, by rw [W.size]; exact z0⟩ W (A0.wr W (fits_nar_char v)))
theorem bastore (H : OHr p l e R s m args below meth c Z n0 own nm code maxL ret T h ce sl) {a : Addr} {vs : List Value} {j : Int32} {v : Int32} (i : Nat) (hd : decode code pc = .ok (.bastore, 1)) (A : OAry Z h a .byte vs) (ge : n0 ≤ a) (hj : j.toInt = (i : Int)) (hi : i < vs.length) (k : ∀ T' h', OHr p l e R s m args below meth c Z n0 own nm code maxL ret T' h' ce sl → Wr h h' a i (.int (nar .byte v)) → OAry Z h' a .byte (vs.set i (.int (nar .byte v))) → OEnds p e below s n0 Q C S T' (mkF m (pc + 1) Ls st)) : OEnds p e below s n0 Q C S T (mkF m pc Ls (.int v :: .int j :: .ref a :: st)) := by
  obtain ⟨⟨hx, hZ, hby, hml, hown, hnm, hrt, hlk⟩, locs, X, eT, N, z0⟩ := H
  have A0 := A
  obtain ⟨c1, A, r1, r2, r3⟩ := A
  have hsz : c1.slots.size = vs.length := by rw [← r1]; simp
  obtain ⟨n1, n2⟩ := nat_idx hj
  have hin : ¬ (j < 0 ∨ c1.slots.size ≤ j.toNatClampNeg) := by rw [n1, hsz]; intro q; rcases q with q | q; exact n2 q; omega
  obtain ⟨T', h', X', e', W, q⟩ := stB X hx hZ eT A hin (g := mkF m pc Ls (.int v :: .int j :: .ref a :: st)) rfl rfl (hb hby hd)
  rw [n1] at X' W
  exact go q (k T' h' ⟨⟨hx, hZ, hby, hml, hown, hnm, hrt, hlk⟩, _, X', e', Fr.one N ge, by rw [W.size]; exact z0⟩ W (A0.wr W (fits_nar_byte v)))
theorem callS (H : OHr p l e R s m args below meth c Z n0 own nm code maxL ret T h ce sl) {y : MethodName} {idx mxL : Nat} {bytes : ByteArray} {rt : Option FieldType} {rm : Room} {Q' : Option Value → Heap → Prop} {ps : List FieldType} {r : Option FieldType} (argsL rest : List Value) (hd : decode code pc = .ok (.invokestatic idx, 3)) (w1 : (Cond.methodLink own idx y).before a0 Z = true) (w2 : (Cond.static y).before a0 Z = true) (w3 : (Cond.initialized y.cls).before a0 Z = true) (w4 : (Cond.code y bytes mxL rt).before a0 Z = true) (hy : y.cls ≠ "java/lang/invoke/MethodHandle" ∧ y.cls ≠ "java/lang/invoke/VarHandle")
    (M : OMet l Z n0 y bytes mxL rt rm argsL.toArray h Q') (hde : parseMethodDescriptor y.desc = some ⟨ps, r⟩) (hlen : argsL.length = ps.length) (hst : st = argsL.reverse ++ rest) (W : Nat) (hW0 : (rest.map fun v => v.category).sum = W) (hfr : rm.frames + 1 ≤ R.frames) (hW : W + (mxL + 11) + rm.locals ≤ R.locals) (hc : ce + rm.cells ≤ R.cells) (hs : sl + rm.slots ≤ R.slots) (hL : Ls.size = maxL)
    (k : ∀ T' v h', OHr p l e R s m args below meth c Z n0 own nm code maxL ret T' h' (ce + rm.cells) (sl + rm.slots) → h.size ≤ h'.size → Q' v h' → OEnds p e below s n0 Q C S T' (mkF m (pc + 3) Ls (v.toList ++ rest))) : OEnds p e below s n0 Q C S T (mkF m pc Ls st) := by
  obtain ⟨⟨hx, hZ, hby, hml, hown, hnm, hrt, hlk⟩, locs, X, eT, N, z0⟩ := H
  obtain ⟨v, _, ⟨T1, L1, k1, n1⟩, -, X1, ⟨Lc, ⟨f1, hle, hQ1⟩, l1, y1, z1⟩, q⟩ := Jvm.LawKit.callS X hx (y := y) hown (mvT hZ w1) (mvT hZ w2) (mvT hZ w3) (mvT hZ w4) hy (backOf (W := W) (Q := fun v h' L => Fr n0 L ∧ h.size ≤ h'.size ∧ Q' v h') (M []) hZ w4 w3 hfr hW) (g := mkF m pc Ls st) rfl (hL.trans hml.symm) (argsL := argsL) (rest := rest) (lenOf hde hlen) hst (by show 2 * 0 + _ ≤ _; rw [hW0]; omega) (hb hby hd) (fun _ _ => ⟨rfl, eT, hc, hs⟩)
  dsimp only [Pt.U, Pt.locs, Pt.cells, Pt.slots] at X1 l1 y1 z1 q hQ1 hle
  subst l1 y1 z1
  exact go q (k T1 v _ ⟨⟨hx, hZ, hby, hml, hown, hnm, hrt, hlk⟩, _, X1, rfl, Fr.app N f1, Nat.le_trans z0 hle⟩ hle hQ1)
theorem callI (H : OHr p l e R s m args below meth c Z n0 own nm code maxL ret T h ce sl) {y : MethodName} {idx mxL : Nat} {bytes : ByteArray} {rm : Room} {Q' : Option Value → Heap → Prop} {ps : List FieldType} {r : Option FieldType} (a : Addr) (argsL rest : List Value) (hd : decode code pc = .ok (.invokespecial idx, 3)) (hy1 : y.name = "<init>") (w1 : (Cond.methodLink own idx y).before a0 Z = true) (w2 : (Cond.instanceMethod y).before a0 Z = true) (w3 : (Cond.initialized y.cls).before a0 Z = true) (w4 : (Cond.code y bytes mxL none).before a0 Z = true) (hy : y.cls ≠ "java/lang/invoke/MethodHandle" ∧ y.cls ≠ "java/lang/invoke/VarHandle")
    (M : OMet l Z n0 y bytes mxL none rm (.ref a :: argsL).toArray h Q') (hde : parseMethodDescriptor y.desc = some ⟨ps, r⟩) (hlen : argsL.length = ps.length) (hst : st = argsL.reverse ++ .ref a :: rest) (W : Nat) (hW0 : (rest.map fun v => v.category).sum = W) (hfr : rm.frames + 1 ≤ R.frames) (hW : W + (mxL + 11) + rm.locals ≤ R.locals) (hc : ce + rm.cells ≤ R.cells) (hs : sl + rm.slots ≤ R.slots) (hL : Ls.size = maxL)
    (k : ∀ T' v h', OHr p l e R s m args below meth c Z n0 own nm code maxL ret T' h' (ce + rm.cells) (sl + rm.slots) → h.size ≤ h'.size → Q' v h' → OEnds p e below s n0 Q C S T' (mkF m (pc + 3) Ls (v.toList ++ rest))) : OEnds p e below s n0 Q C S T (mkF m pc Ls st) := by
  obtain ⟨⟨hx, hZ, hby, hml, hown, hnm, hrt, hlk⟩, locs, X, eT, N, z0⟩ := H
  obtain ⟨v, _, ⟨T1, L1, k1, n1⟩, -, X1, ⟨Lc, ⟨f1, hle, hQ1⟩, l1, y1, z1⟩, q⟩ := X.specialBack hx (y := y) hy1 hown (mvT hZ w1) (mvT hZ w2) (mvT hZ w4) hy (backOf (W := W) (Q := fun v h' L => Fr n0 L ∧ h.size ≤ h'.size ∧ Q' v h') (M []) hZ w4 w3 hfr hW) (g := mkF m pc Ls st) rfl (hL.trans hml.symm) (Steps.refl _) (a := a) (argsL := argsL) (rest := rest) (lenOf hde hlen) hst (by show 2 * 0 + _ ≤ _; rw [hW0]; omega) (hb hby hd) (fun _ _ => ⟨rfl, eT, hc, hs⟩)
  dsimp only [Pt.U, Pt.locs, Pt.cells, Pt.slots] at X1 l1 y1 z1 q hQ1 hle
  subst l1 y1 z1
  exact go1 q (k T1 v _ ⟨⟨hx, hZ, hby, hml, hown, hnm, hrt, hlk⟩, _, X1, rfl, Fr.app N f1, Nat.le_trans z0 hle⟩ hle hQ1)
theorem callV (H : OHr p l e R s m args below meth c Z n0 own nm code maxL ret T h ce sl) {y z : MethodName} {CC : String} {idx mxL : Nat} {bytes : ByteArray} {rt : Option FieldType} {rm : Room} {Q' : Option Value → Heap → Prop} {ps : List FieldType} {r : Option FieldType} (a : Addr) (argsL rest : List Value) (hd : decode code pc = .ok (.invokevirtual idx, 3)) (w1 : (Cond.methodLink own idx y).before a0 Z = true) (w2 : (Cond.declares y).before a0 Z = true) (nf : NotFace s y) (w5 : (Cond.selects CC y z).before a0 Z = true) (w6 : (Cond.instanceMethod z).before a0 Z = true) (w3 : (Cond.initialized z.cls).before a0 Z = true) (w4 : (Cond.code z bytes mxL rt).before a0 Z = true) (hy : y.cls ≠ "java/lang/invoke/MethodHandle" ∧ y.cls ≠ "java/lang/invoke/VarHandle") (E : Exa Z h a CC)
    (M : OMet l Z n0 z bytes mxL rt rm (.ref a :: argsL).toArray h Q') (hde : parseMethodDescriptor y.desc = some ⟨ps, r⟩) (hlen : argsL.length = ps.length) (hst : st = argsL.reverse ++ .ref a :: rest) (W : Nat) (hW0 : (rest.map fun v => v.category).sum = W) (hfr : rm.frames + 1 ≤ R.frames) (hW : W + (mxL + 11) + rm.locals ≤ R.locals) (hc : ce + rm.cells ≤ R.cells) (hs : sl + rm.slots ≤ R.slots) (hL : Ls.size = maxL)
    (k : ∀ T' v h', OHr p l e R s m args below meth c Z n0 own nm code maxL ret T' h' (ce + rm.cells) (sl + rm.slots) → h.size ≤ h'.size → Q' v h' → OEnds p e below s n0 Q C S T' (mkF m (pc + 3) Ls (v.toList ++ rest))) : OEnds p e below s n0 Q C S T (mkF m pc Ls st) := by
  obtain ⟨⟨hx, hZ, hby, hml, hown, hnm, hrt, hlk⟩, locs, X, eT, N, z0⟩ := H
  obtain ⟨cq, kq, qa, qb, qc⟩ := isOf hZ eT E
  obtain ⟨v, _, ⟨T1, L1, k1, n1⟩, -, X1, ⟨Lc, ⟨f1, hle, hQ1⟩, l1, y1, z1⟩, q⟩ := X.virtualBack hx (y := y) (z := z) hown (mvT hZ w1) (mvT hZ w2) nf (mvT hZ w5) (mvT hZ w6) hy (backOf (W := W) (Q := fun v h' L => Fr n0 L ∧ h.size ≤ h'.size ∧ Q' v h') (M []) hZ w4 w3 hfr hW) qa qc (g := mkF m pc Ls st) rfl (hL.trans hml.symm) (Steps.refl _) (argsL := argsL) (rest := rest) (lenOf hde hlen) hst (by show 2 * 0 + _ ≤ _; rw [hW0]; omega) (hb hby hd) (fun _ _ => ⟨rfl, eT, hc, hs⟩)
  dsimp only [Pt.U, Pt.locs, Pt.cells, Pt.slots] at X1 l1 y1 z1 q hQ1 hle
  subst l1 y1 z1
  exact go1 q (k T1 v _ ⟨⟨hx, hZ, hby, hml, hown, hnm, hrt, hlk⟩, _, X1, rfl, Fr.app N f1, Nat.le_trans z0 hle⟩ hle hQ1)
theorem callO (H : OHr p l e R s m args below meth c Z n0 own nm code maxL ret T h ce sl) {idx : Nat} {a : Addr} (hd : decode code pc = .ok (.invokespecial idx, 3)) (w1 : (Cond.methodLink own idx Lib.objectInit).before a0 Z = true) (w2 : (Cond.instanceMethod Lib.objectInit).before a0 Z = true) (w3 : (Cond.code Lib.objectInit ⟨#[0xb1]⟩ 1 none).before a0 Z = true) (W : Nat) (hW0 : (st.map fun v => v.category).sum = W) (hfr : 1 ≤ R.frames) (hW : W + 12 ≤ R.locals) (hL : Ls.size = maxL) (k : ∀ T', OHr p l e R s m args below meth c Z n0 own nm code maxL ret T' h ce sl → OEnds p e below s n0 Q C S T' (mkF m (pc + 3) Ls st)) : OEnds p e below s n0 Q C S T (mkF m pc Ls (.ref a :: st)) := by
  obtain ⟨⟨hx, hZ, hby, hml, hown, hnm, hrt, hlk⟩, locs, X, eT, N, z0⟩ := H
  obtain ⟨T', X', e', q⟩ := initO X hx hZ hown w1 w2 w3 eT (g := mkF m pc Ls (.ref a :: st)) rfl (hL.trans hml.symm) rfl (hb hby hd) hfr (W := W) (by show 2 * 0 + _ ≤ _; rw [hW0]; omega) hW
  exact go q (k T' ⟨⟨hx, hZ, hby, hml, hown, hnm, hrt, hlk⟩, locs, X', e', N, z0⟩)
theorem OHr.nf (H : OHr p l e R s m args below meth c Z n0 own nm code maxL ret T h ce sl) {y : MethodName} {CC : String} (w : (Cond.selects CC y y).before a0 Z = true) : NotFace s y := by
  obtain ⟨⟨hx, hZ, hby, hml, hown, hnm, hrt, hlk⟩, locs, X, eT, N, z0⟩ := H
  exact notFace_of_selects (args := #[]) (mvT hZ w)
theorem clone_ (H : OHr p l e R s m args below meth c Z n0 own nm code maxL ret T h ce sl) {ad : String} {idx : Nat} {a : Addr} {ty : FieldType} {vs : List Value} (cap : Nat) (hd : decode code pc = .ok (.invokevirtual idx, 3)) (w1 : (Cond.methodLink own idx ⟨ad, "clone", "()Ljava/lang/Object;"⟩).before a0 Z = true) (w2 : (Cond.sameMethod ad "java/lang/Object" "clone" "()Ljava/lang/Object;").before a0 Z = true) (w3 : (Cond.native ⟨"java/lang/Object", "clone", "()Ljava/lang/Object;"⟩).before a0 Z = true)
    (w4 : (Cond.instanceMethod ⟨"java/lang/Object", "clone", "()Ljava/lang/Object;"⟩).before a0 Z = true) (w5 : (Cond.selects ad ⟨ad, "clone", "()Ljava/lang/Object;"⟩ ⟨"java/lang/Object", "clone", "()Ljava/lang/Object;"⟩).before a0 Z = true) (w6 : (Cond.castable ad "java/lang/Cloneable").before a0 Z = true) (A : OAry Z h a ty vs) (E : Exa Z h a ad) (W : Nat) (hW0 : (st.map fun v => v.category).sum = W) (hfr : 1 ≤ R.frames) (hW : W + 14 ≤ R.locals) (hcap : vs.length ≤ cap) (hc : ce + 1 ≤ R.cells) (hs : sl + cap ≤ R.slots) (hL : Ls.size = maxL)
    (k : ∀ T' h' b, b = h.size → n0 ≤ b → OHr p l e R s m args below meth c Z n0 own nm code maxL ret T' h' (ce + 1) (sl + cap) → Ext h h' → OAry Z h' b ty vs → Exa Z h' b ad → OEnds p e below s n0 Q C S T' (mkF m (pc + 3) Ls (.ref b :: st))) : OEnds p e below s n0 Q C S T (mkF m pc Ls (.ref a :: st)) := by
  obtain ⟨⟨hx, hZ, hby, hml, hown, hnm, hrt, hlk⟩, locs, X, eT, N, z0⟩ := H
  obtain ⟨c1, A, r1, r2, r3⟩ := A
  have hsz : c1.slots.size = vs.length := by rw [← r1]; simp
  have hF : FitC Z c1 := fitC_of A (fun i hi v hv => r3 v (by rw [← r1]; rw [← Array.getElem?_toList] at hv; exact List.mem_of_getElem? hv))
  obtain ⟨T', h', X', e', E', A', B', q⟩ := cloneA X hx hZ hown w1 w2 w3 w4 w5 w6 eT A E hF (g := mkF m pc Ls (.ref a :: st)) rfl (hL.trans hml.symm) rfl (hb hby hd) hfr (W := W) (by show 2 * 0 + _ ≤ _; rw [hW0]; omega) hW (cap := cap) (by rw [hsz]; exact hcap) hc hs
  exact go q (k T' h' _ rfl z0 ⟨⟨hx, hZ, hby, hml, hown, hnm, hrt, hlk⟩, locs, X', e', N, Nat.le_trans z0 E'.1⟩ E' ⟨_, A', r1, r2, r3⟩ B')
theorem checkcast (H : OHr p l e R s m args below meth c Z n0 own nm code maxL ret T h ce sl) {KK : String} {idx : Nat} {a : Addr} (hd : decode code pc = .ok (.checkcast idx, 3)) (w : (Cond.classLink own idx KK).before a0 Z = true) (F : Ins Z h a KK true) (k : ∀ T', OHr p l e R s m args below meth c Z n0 own nm code maxL ret T' h ce sl → OEnds p e below s n0 Q C S T' (mkF m (pc + 3) Ls (.ref a :: st))) : OEnds p e below s n0 Q C S T (mkF m pc Ls (.ref a :: st)) := by
  obtain ⟨⟨hx, hZ, hby, hml, hown, hnm, hrt, hlk⟩, locs, X, eT, N, z0⟩ := H
  obtain ⟨T', X', e', q⟩ := castY X hx hZ hown w eT F (g := mkF m pc Ls (.ref a :: st)) rfl rfl (hb hby hd)
  exact go q (k T' ⟨⟨hx, hZ, hby, hml, hown, hnm, hrt, hlk⟩, locs, X', e', N, z0⟩)
end Go
end Jvm.Own
namespace Jvm.Pilot.@@N@@
open Jvm Jvm.ClassFile Sem Op Lib Jvm.Free Jvm.Stand Jvm.LawKit Jvm.RoadKit Bundle Jvm.Pilot.@@N@@.Jvm.D
open Jvm.Own (OHr OEnds OMet OAry)

theorem own_rem (x d : Int32) (hd : 0 < d.toInt) : 0 ≤ ((x &&& 2147483647) % d).toInt ∧ ((x &&& 2147483647) % d).toInt < d.toInt := by
  have h0 : 0 ≤ (x &&& 2147483647).toInt := (c_and x 2147483647 (by decide)).1
  have h1 := (c_iremV (x &&& 2147483647) d).1 h0 hd
  exact ⟨h1.1, h1.2.1⟩
theorem own_ne {x y : Int32} (h : x.toInt ≠ y.toInt) : ¬ x = y := fun e => h (by rw [e])
theorem own_eq {x y : Int32} (h : x.toInt = y.toInt) : x = y := Int32.toInt_inj.mp h
theorem own_lt {x y : Int32} : x < y ↔ x.toInt < y.toInt := Int32.lt_iff_toInt_lt


theorem own_map {cs : List Int32} {i : Nat} (h : i < cs.length) : (cs.map Value.int)[i]? = some (.int (cs.getD i 0)) := by
  simp [List.getElem?_map, List.getD_eq_getElem?_getD, List.getElem?_eq_getElem h]
theorem own_fill {L : List Value} {d v : Value} {i : Nat} (h : L[i]? = some v) : (L.take i ++ List.replicate (L.length - i) d).set i v = L.take (i + 1) ++ List.replicate (L.length - (i + 1)) d := by
  have hi : i < L.length := by rcases Nat.lt_or_ge i L.length with q | q; exact q; rw [List.getElem?_eq_none q] at h; cases h
  have e : L.length - i = (L.length - (i + 1)) + 1 := by omega
  rw [e, List.replicate_succ, List.set_append_right _ _ (by simp; omega)]
  have e2 : i - (L.take i).length = 0 := by simp; omega
  rw [e2, List.set_cons_zero, List.take_add_one, h]
  simp
theorem own_ofNat {i : Nat} (h : i < 2147483648) : (Int32.ofNat i).toInt = (i : Int) := Int32.toInt_ofNat_of_lt h
theorem own_one (i : Nat) : Int32.ofNat i + (1 : Int32) = Int32.ofNat (i + 1) := (Int32.ofNat_add i 1).symm


theorem own_addn {x d : Int32} {s j : Nat} (hx : x.toInt = (s : Int)) (hd : d.toInt = (j : Int)) (h : s + j < 2147483648) : (x + d).toInt = ((s + j : Nat) : Int) := by
  have a := c_iadd x d
  have r := rng32 (x + d)
  omega


def own_u (bs : List Int32) (i : Nat) : Int32 := (bs.getD i 0) &&& (255 : Int32)
def own_cont (x : Int32) : Int32 := if x &&& (192 : Int32) = 128 then 1 else 0
def own_c (bs : List Int32) (s : Nat) (k : Int32) : Int32 :=
  if k = 1 then (if own_u bs s < 128 then 1 else 0)
  else if own_cont (own_u bs (s + 1)) = 0 then 0
  else if k = 2 then (if own_u bs s &&& 224 = 192 then (if ((own_u bs s &&& 31) <<< ((6 : Int32) &&& 31)) ||| (own_u bs (s + 1) &&& 63) < 128 then 0 else 1) else 0)
  else if own_cont (own_u bs (s + 2)) = 0 then 0
  else if k = 3 then (if own_u bs s &&& 240 = 224 then
      (if (((own_u bs s &&& 15) <<< ((12 : Int32) &&& 31)) ||| ((own_u bs (s + 1) &&& 63) <<< ((6 : Int32) &&& 31))) ||| (own_u bs (s + 2) &&& 63) < 2048 then 0
       else if (((own_u bs s &&& 15) <<< ((12 : Int32) &&& 31)) ||| ((own_u bs (s + 1) &&& 63) <<< ((6 : Int32) &&& 31))) ||| (own_u bs (s + 2) &&& 63) < 55296 then 1
       else if 57343 < (((own_u bs s &&& 15) <<< ((12 : Int32) &&& 31)) ||| ((own_u bs (s + 1) &&& 63) <<< ((6 : Int32) &&& 31))) ||| (own_u bs (s + 2) &&& 63) then 1 else 0) else 0)
  else if own_cont (own_u bs (s + 3)) = 0 then 0
  else if own_u bs s &&& 248 = 240 then
      (if ((((own_u bs s &&& 7) <<< ((18 : Int32) &&& 31)) ||| ((own_u bs (s + 1) &&& 63) <<< ((12 : Int32) &&& 31))) ||| ((own_u bs (s + 2) &&& 63) <<< ((6 : Int32) &&& 31))) ||| (own_u bs (s + 3) &&& 63) < 65536 then 0
       else if 1114111 < ((((own_u bs s &&& 7) <<< ((18 : Int32) &&& 31)) ||| ((own_u bs (s + 1) &&& 63) <<< ((12 : Int32) &&& 31))) ||| ((own_u bs (s + 2) &&& 63) <<< ((6 : Int32) &&& 31))) ||| (own_u bs (s + 3) &&& 63) then 0 else 1) else 0
def own_v1 (bs : List Int32) (s : Nat) : Int32 := own_c bs s 1
def own_v2 (bs : List Int32) (s : Nat) : Int32 := if own_c bs s 2 = 0 then (if own_c bs s 1 = 0 then 0 else if own_v1 bs (s + 1) = 0 then 0 else 1) else 1

def own_v3 (bs : List Int32) (s : Nat) : Int32 := (if own_c bs s 3 = 0 then (if own_c bs s 2 = 0 then (if own_c bs s 1 = 0 then 0 else if own_v2 bs (s + 1) = 0 then 0 else 1) else if own_v1 bs (s + 2) = 0 then (if own_c bs s 1 = 0 then 0 else if own_v2 bs (s + 1) = 0 then 0 else 1) else 1) else 1)
def own_v4 (bs : List Int32) (s : Nat) : Int32 := (if own_c bs s 4 = 0 then (if own_c bs s 3 = 0 then (if own_c bs s 2 = 0 then (if own_c bs s 1 = 0 then 0 else if own_v3 bs (s + 1) = 0 then 0 else 1) else if own_v2 bs (s + 2) = 0 then (if own_c bs s 1 = 0 then 0 else if own_v3 bs (s + 1) = 0 then 0 else 1) else 1) else if own_v1 bs (s + 3) = 0 then (if own_c bs s 2 = 0 then (if own_c bs s 1 = 0 then 0 else if own_v3 bs (s + 1) = 0 then 0 else 1) else if own_v2 bs (s + 2) = 0 then (if own_c bs s 1 = 0 then 0 else if own_v3 bs (s + 1) = 0 then 0 else 1) else 1) else 1) else 1)
def own_v5 (bs : List Int32) (s : Nat) : Int32 := (if own_c bs s 4 = 0 then (if own_c bs s 3 = 0 then (if own_c bs s 2 = 0 then (if own_c bs s 1 = 0 then 0 else if own_v4 bs (s + 1) = 0 then 0 else 1) else if own_v3 bs (s + 2) = 0 then (if own_c bs s 1 = 0 then 0 else if own_v4 bs (s + 1) = 0 then 0 else 1) else 1) else if own_v2 bs (s + 3) = 0 then (if own_c bs s 2 = 0 then (if own_c bs s 1 = 0 then 0 else if own_v4 bs (s + 1) = 0 then 0 else 1) else if own_v3 bs (s + 2) = 0 then (if own_c bs s 1 = 0 then 0 else if own_v4 bs (s + 1) = 0 then 0 else 1) else 1) else 1) else if own_v1 bs (s + 4) = 0 then (if own_c bs s 3 = 0 then (if own_c bs s 2 = 0 then (if own_c bs s 1 = 0 then 0 else if own_v4 bs (s + 1) = 0 then 0 else 1) else if own_v3 bs (s + 2) = 0 then (if own_c bs s 1 = 0 then 0 else if own_v4 bs (s + 1) = 0 then 0 else 1) else 1) else if own_v2 bs (s + 3) = 0 then (if own_c bs s 2 = 0 then (if own_c bs s 1 = 0 then 0 else if own_v4 bs (s + 1) = 0 then 0 else 1) else if own_v3 bs (s + 2) = 0 then (if own_c bs s 1 = 0 then 0 else if own_v4 bs (s + 1) = 0 then 0 else 1) else 1) else 1) else 1)
def own_v6 (bs : List Int32) (s : Nat) : Int32 := (if own_c bs s 4 = 0 then (if own_c bs s 3 = 0 then (if own_c bs s 2 = 0 then (if own_c bs s 1 = 0 then 0 else if own_v5 bs (s + 1) = 0 then 0 else 1) else if own_v4 bs (s + 2) = 0 then (if own_c bs s 1 = 0 then 0 else if own_v5 bs (s + 1) = 0 then 0 else 1) else 1) else if own_v3 bs (s + 3) = 0 then (if own_c bs s 2 = 0 then (if own_c bs s 1 = 0 then 0 else if own_v5 bs (s + 1) = 0 then 0 else 1) else if own_v4 bs (s + 2) = 0 then (if own_c bs s 1 = 0 then 0 else if own_v5 bs (s + 1) = 0 then 0 else 1) else 1) else 1) else if own_v2 bs (s + 4) = 0 then (if own_c bs s 3 = 0 then (if own_c bs s 2 = 0 then (if own_c bs s 1 = 0 then 0 else if own_v5 bs (s + 1) = 0 then 0 else 1) else if own_v4 bs (s + 2) = 0 then (if own_c bs s 1 = 0 then 0 else if own_v5 bs (s + 1) = 0 then 0 else 1) else 1) else if own_v3 bs (s + 3) = 0 then (if own_c bs s 2 = 0 then (if own_c bs s 1 = 0 then 0 else if own_v5 bs (s + 1) = 0 then 0 else 1) else if own_v4 bs (s + 2) = 0 then (if own_c bs s 1 = 0 then 0 else if own_v5 bs (s + 1) = 0 then 0 else 1) else 1) else 1) else 1)
def own_v7 (bs : List Int32) (s : Nat) : Int32 := (if own_c bs s 4 = 0 then (if own_c bs s 3 = 0 then (if own_c bs s 2 = 0 then (if own_c bs s 1 = 0 then 0 else if own_v6 bs (s + 1) = 0 then 0 else 1) else if own_v5 bs (s + 2) = 0 then (if own_c bs s 1 = 0 then 0 else if own_v6 bs (s + 1) = 0 then 0 else 1) else 1) else if own_v4 bs (s + 3) = 0 then (if own_c bs s 2 = 0 then (if own_c bs s 1 = 0 then 0 else if own_v6 bs (s + 1) = 0 then 0 else 1) else if own_v5 bs (s + 2) = 0 then (if own_c bs s 1 = 0 then 0 else if own_v6 bs (s + 1) = 0 then 0 else 1) else 1) else 1) else if own_v3 bs (s + 4) = 0 then (if own_c bs s 3 = 0 then (if own_c bs s 2 = 0 then (if own_c bs s 1 = 0 then 0 else if own_v6 bs (s + 1) = 0 then 0 else 1) else if own_v5 bs (s + 2) = 0 then (if own_c bs s 1 = 0 then 0 else if own_v6 bs (s + 1) = 0 then 0 else 1) else 1) else if own_v4 bs (s + 3) = 0 then (if own_c bs s 2 = 0 then (if own_c bs s 1 = 0 then 0 else if own_v6 bs (s + 1) = 0 then 0 else 1) else if own_v5 bs (s + 2) = 0 then (if own_c bs s 1 = 0 then 0 else if own_v6 bs (s + 1) = 0 then 0 else 1) else 1) else 1) else 1)
def own_v8 (bs : List Int32) (s : Nat) : Int32 := (if own_c bs s 4 = 0 then (if own_c bs s 3 = 0 then (if own_c bs s 2 = 0 then (if own_c bs s 1 = 0 then 0 else if own_v7 bs (s + 1) = 0 then 0 else 1) else if own_v6 bs (s + 2) = 0 then (if own_c bs s 1 = 0 then 0 else if own_v7 bs (s + 1) = 0 then 0 else 1) else 1) else if own_v5 bs (s + 3) = 0 then (if own_c bs s 2 = 0 then (if own_c bs s 1 = 0 then 0 else if own_v7 bs (s + 1) = 0 then 0 else 1) else if own_v6 bs (s + 2) = 0 then (if own_c bs s 1 = 0 then 0 else if own_v7 bs (s + 1) = 0 then 0 else 1) else 1) else 1) else if own_v4 bs (s + 4) = 0 then (if own_c bs s 3 = 0 then (if own_c bs s 2 = 0 then (if own_c bs s 1 = 0 then 0 else if own_v7 bs (s + 1) = 0 then 0 else 1) else if own_v6 bs (s + 2) = 0 then (if own_c bs s 1 = 0 then 0 else if own_v7 bs (s + 1) = 0 then 0 else 1) else 1) else if own_v5 bs (s + 3) = 0 then (if own_c bs s 2 = 0 then (if own_c bs s 1 = 0 then 0 else if own_v7 bs (s + 1) = 0 then 0 else 1) else if own_v6 bs (s + 2) = 0 then (if own_c bs s 1 = 0 then 0 else if own_v7 bs (s + 1) = 0 then 0 else 1) else 1) else 1) else 1)

theorem own_o (a b X : Int32) (h : X = 0 ∨ X = 1) : (if a = 0 then X else if b = 0 then X else 1) = 0 ∨ (if a = 0 then X else if b = 0 then X else 1) = 1 := by
  (repeat' split) <;> first | exact h | exact Or.inr rfl
theorem own_o1 (a X : Int32) (h : X = 0 ∨ X = 1) : (if a = 0 then X else 1) = 0 ∨ (if a = 0 then X else 1) = 1 := by
  split <;> first | exact h | exact Or.inr rfl
theorem own_zc (bs : List Int32) (s : Nat) (k : Int32) : own_c bs s k = 0 ∨ own_c bs s k = 1 := by
  unfold own_c
  (repeat' split) <;> first | exact Or.inl rfl | exact Or.inr rfl
theorem own_z1 (bs : List Int32) (s : Nat) : own_v1 bs s = 0 ∨ own_v1 bs s = 1 := own_zc bs s 1
theorem own_nz {x : Int32} (h : x = 0 ∨ x = 1) : nar .boolean x = x := by
  rcases h with rfl | rfl <;> rfl
theorem own_z2 (bs : List Int32) (s : Nat) : own_v2 bs s = 0 ∨ own_v2 bs s = 1 := own_o1 _ _ (own_o _ _ _ (Or.inl rfl))
theorem own_z3 (bs : List Int32) (s : Nat) : own_v3 bs s = 0 ∨ own_v3 bs s = 1 := own_o1 _ _ (own_o _ _ _ (own_o _ _ _ (Or.inl rfl)))
theorem own_z4 (bs : List Int32) (s : Nat) : own_v4 bs s = 0 ∨ own_v4 bs s = 1 := own_o1 _ _ (own_o _ _ _ (own_o _ _ _ (own_o _ _ _ (Or.inl rfl))))
theorem own_z5 (bs : List Int32) (s : Nat) : own_v5 bs s = 0 ∨ own_v5 bs s = 1 := own_o _ _ _ (own_o _ _ _ (own_o _ _ _ (own_o _ _ _ (Or.inl rfl))))
theorem own_z6 (bs : List Int32) (s : Nat) : own_v6 bs s = 0 ∨ own_v6 bs s = 1 := own_o _ _ _ (own_o _ _ _ (own_o _ _ _ (own_o _ _ _ (Or.inl rfl))))
theorem own_z7 (bs : List Int32) (s : Nat) : own_v7 bs s = 0 ∨ own_v7 bs s = 1 := own_o _ _ _ (own_o _ _ _ (own_o _ _ _ (own_o _ _ _ (Or.inl rfl))))
theorem own_z8 (bs : List Int32) (s : Nat) : own_v8 bs s = 0 ∨ own_v8 bs s = 1 := own_o _ _ _ (own_o _ _ _ (own_o _ _ _ (own_o _ _ _ (Or.inl rfl))))
def own_wf (bs : List Int32) (s : Nat) (n : Int32) : Int32 := if n = 0 then 1 else if n = 1 then own_v1 bs s else if n = 2 then own_v2 bs s else if n = 3 then own_v3 bs s else if n = 4 then own_v4 bs s else if n = 5 then own_v5 bs s else if n = 6 then own_v6 bs s else if n = 7 then own_v7 bs s else own_v8 bs s
theorem d6_0 : decode method_3_code 0 = .ok (.iload_n 0, 1) := by decide +kernel
theorem d6_1 : decode method_3_code 1 = .ok (.sipush 192, 3) := by decide +kernel
theorem d6_4 : decode method_3_code 4 = .ok (.iand, 1) := by decide +kernel
theorem d6_5 : decode method_3_code 5 = .ok (.sipush 128, 3) := by decide +kernel
theorem d6_8 : decode method_3_code 8 = .ok (.if_icmp .ne 7, 3) := by decide +kernel
theorem d6_11 : decode method_3_code 11 = .ok (.iconst 1, 1) := by decide +kernel
theorem d6_12 : decode method_3_code 12 = .ok (.goto 4, 3) := by decide +kernel
theorem d6_15 : decode method_3_code 15 = .ok (.iconst 0, 1) := by decide +kernel
theorem d6_16 : decode method_3_code 16 = .ok (.ireturn, 1) := by decide +kernel
theorem d4_0 : decode method_4_code 0 = .ok (.aload_n 0, 1) := by decide +kernel
theorem d4_1 : decode method_4_code 1 = .ok (.iload_n 1, 1) := by decide +kernel
theorem d4_2 : decode method_4_code 2 = .ok (.baload, 1) := by decide +kernel
theorem d4_3 : decode method_4_code 3 = .ok (.sipush 255, 3) := by decide +kernel
theorem d4_6 : decode method_4_code 6 = .ok (.iand, 1) := by decide +kernel
theorem d4_7 : decode method_4_code 7 = .ok (.istore_n 3, 1) := by decide +kernel
theorem d4_8 : decode method_4_code 8 = .ok (.iload_n 2, 1) := by decide +kernel
theorem d4_9 : decode method_4_code 9 = .ok (.iconst 1, 1) := by decide +kernel
theorem d4_10 : decode method_4_code 10 = .ok (.if_icmp .ne 16, 3) := by decide +kernel
theorem d4_13 : decode method_4_code 13 = .ok (.iload_n 3, 1) := by decide +kernel
theorem d4_14 : decode method_4_code 14 = .ok (.sipush 128, 3) := by decide +kernel
theorem d4_17 : decode method_4_code 17 = .ok (.if_icmp .ge 7, 3) := by decide +kernel
theorem d4_20 : decode method_4_code 20 = .ok (.iconst 1, 1) := by decide +kernel
theorem d4_21 : decode method_4_code 21 = .ok (.goto 4, 3) := by decide +kernel
theorem d4_24 : decode method_4_code 24 = .ok (.iconst 0, 1) := by decide +kernel
theorem d4_25 : decode method_4_code 25 = .ok (.ireturn, 1) := by decide +kernel
theorem d4_26 : decode method_4_code 26 = .ok (.aload_n 0, 1) := by decide +kernel
theorem d4_27 : decode method_4_code 27 = .ok (.iload_n 1, 1) := by decide +kernel
theorem d4_28 : decode method_4_code 28 = .ok (.iconst 1, 1) := by decide +kernel
theorem d4_29 : decode method_4_code 29 = .ok (.iadd, 1) := by decide +kernel
theorem d4_30 : decode method_4_code 30 = .ok (.baload, 1) := by decide +kernel
theorem d4_31 : decode method_4_code 31 = .ok (.sipush 255, 3) := by decide +kernel
theorem d4_34 : decode method_4_code 34 = .ok (.iand, 1) := by decide +kernel
theorem d4_35 : decode method_4_code 35 = .ok (.istore 4, 2) := by decide +kernel
theorem d4_37 : decode method_4_code 37 = .ok (.iload 4, 2) := by decide +kernel
theorem d4_39 : decode method_4_code 39 = .ok (.invokestatic 18, 3) := by decide +kernel
theorem d4_42 : decode method_4_code 42 = .ok (.ifCond .ne 5, 3) := by decide +kernel
theorem d4_45 : decode method_4_code 45 = .ok (.iconst 0, 1) := by decide +kernel
theorem d4_46 : decode method_4_code 46 = .ok (.ireturn, 1) := by decide +kernel
theorem d4_47 : decode method_4_code 47 = .ok (.iload_n 2, 1) := by decide +kernel
theorem d4_48 : decode method_4_code 48 = .ok (.iconst 2, 1) := by decide +kernel
theorem d4_49 : decode method_4_code 49 = .ok (.if_icmp .ne 45, 3) := by decide +kernel
theorem d4_52 : decode method_4_code 52 = .ok (.iload_n 3, 1) := by decide +kernel
theorem d4_53 : decode method_4_code 53 = .ok (.sipush 224, 3) := by decide +kernel
theorem d4_56 : decode method_4_code 56 = .ok (.iand, 1) := by decide +kernel
theorem d4_57 : decode method_4_code 57 = .ok (.sipush 192, 3) := by decide +kernel
theorem d4_60 : decode method_4_code 60 = .ok (.if_icmp .eq 5, 3) := by decide +kernel
theorem d4_63 : decode method_4_code 63 = .ok (.iconst 0, 1) := by decide +kernel
theorem d4_64 : decode method_4_code 64 = .ok (.ireturn, 1) := by decide +kernel
theorem d4_65 : decode method_4_code 65 = .ok (.iload_n 3, 1) := by decide +kernel
theorem d4_66 : decode method_4_code 66 = .ok (.bipush 31, 2) := by decide +kernel
theorem d4_68 : decode method_4_code 68 = .ok (.iand, 1) := by decide +kernel
theorem d4_69 : decode method_4_code 69 = .ok (.bipush 6, 2) := by decide +kernel
theorem d4_71 : decode method_4_code 71 = .ok (.ishl, 1) := by decide +kernel
theorem d4_72 : decode method_4_code 72 = .ok (.iload 4, 2) := by decide +kernel
theorem d4_74 : decode method_4_code 74 = .ok (.bipush 63, 2) := by decide +kernel
theorem d4_76 : decode method_4_code 76 = .ok (.iand, 1) := by decide +kernel
theorem d4_77 : decode method_4_code 77 = .ok (.ior, 1) := by decide +kernel
theorem d4_78 : decode method_4_code 78 = .ok (.istore 5, 2) := by decide +kernel
theorem d4_80 : decode method_4_code 80 = .ok (.iload 5, 2) := by decide +kernel
theorem d4_82 : decode method_4_code 82 = .ok (.sipush 128, 3) := by decide +kernel
theorem d4_85 : decode method_4_code 85 = .ok (.if_icmp .lt 7, 3) := by decide +kernel
theorem d4_88 : decode method_4_code 88 = .ok (.iconst 1, 1) := by decide +kernel
theorem d4_89 : decode method_4_code 89 = .ok (.goto 4, 3) := by decide +kernel
theorem d4_92 : decode method_4_code 92 = .ok (.iconst 0, 1) := by decide +kernel
theorem d4_93 : decode method_4_code 93 = .ok (.ireturn, 1) := by decide +kernel
theorem d4_94 : decode method_4_code 94 = .ok (.aload_n 0, 1) := by decide +kernel
theorem d4_95 : decode method_4_code 95 = .ok (.iload_n 1, 1) := by decide +kernel
theorem d4_96 : decode method_4_code 96 = .ok (.iconst 2, 1) := by decide +kernel
theorem d4_97 : decode method_4_code 97 = .ok (.iadd, 1) := by decide +kernel
theorem d4_98 : decode method_4_code 98 = .ok (.baload, 1) := by decide +kernel
theorem d4_99 : decode method_4_code 99 = .ok (.sipush 255, 3) := by decide +kernel
theorem d4_102 : decode method_4_code 102 = .ok (.iand, 1) := by decide +kernel
theorem d4_103 : decode method_4_code 103 = .ok (.istore 5, 2) := by decide +kernel
theorem d4_105 : decode method_4_code 105 = .ok (.iload 5, 2) := by decide +kernel
theorem d4_107 : decode method_4_code 107 = .ok (.invokestatic 18, 3) := by decide +kernel
theorem d4_110 : decode method_4_code 110 = .ok (.ifCond .ne 5, 3) := by decide +kernel
theorem d4_113 : decode method_4_code 113 = .ok (.iconst 0, 1) := by decide +kernel
theorem d4_114 : decode method_4_code 114 = .ok (.ireturn, 1) := by decide +kernel
theorem d4_115 : decode method_4_code 115 = .ok (.iload_n 2, 1) := by decide +kernel
theorem d4_116 : decode method_4_code 116 = .ok (.iconst 3, 1) := by decide +kernel
theorem d4_117 : decode method_4_code 117 = .ok (.if_icmp .ne 68, 3) := by decide +kernel
theorem d4_120 : decode method_4_code 120 = .ok (.iload_n 3, 1) := by decide +kernel
theorem d4_121 : decode method_4_code 121 = .ok (.sipush 240, 3) := by decide +kernel
theorem d4_124 : decode method_4_code 124 = .ok (.iand, 1) := by decide +kernel
theorem d4_125 : decode method_4_code 125 = .ok (.sipush 224, 3) := by decide +kernel
theorem d4_128 : decode method_4_code 128 = .ok (.if_icmp .eq 5, 3) := by decide +kernel
theorem d4_131 : decode method_4_code 131 = .ok (.iconst 0, 1) := by decide +kernel
theorem d4_132 : decode method_4_code 132 = .ok (.ireturn, 1) := by decide +kernel
theorem d4_133 : decode method_4_code 133 = .ok (.iload_n 3, 1) := by decide +kernel
theorem d4_134 : decode method_4_code 134 = .ok (.bipush 15, 2) := by decide +kernel
theorem d4_136 : decode method_4_code 136 = .ok (.iand, 1) := by decide +kernel
theorem d4_137 : decode method_4_code 137 = .ok (.bipush 12, 2) := by decide +kernel
theorem d4_139 : decode method_4_code 139 = .ok (.ishl, 1) := by decide +kernel
theorem d4_140 : decode method_4_code 140 = .ok (.iload 4, 2) := by decide +kernel
theorem d4_142 : decode method_4_code 142 = .ok (.bipush 63, 2) := by decide +kernel
theorem d4_144 : decode method_4_code 144 = .ok (.iand, 1) := by decide +kernel
theorem d4_145 : decode method_4_code 145 = .ok (.bipush 6, 2) := by decide +kernel
theorem d4_147 : decode method_4_code 147 = .ok (.ishl, 1) := by decide +kernel
theorem d4_148 : decode method_4_code 148 = .ok (.ior, 1) := by decide +kernel
theorem d4_149 : decode method_4_code 149 = .ok (.iload 5, 2) := by decide +kernel
theorem d4_151 : decode method_4_code 151 = .ok (.bipush 63, 2) := by decide +kernel
theorem d4_153 : decode method_4_code 153 = .ok (.iand, 1) := by decide +kernel
theorem d4_154 : decode method_4_code 154 = .ok (.ior, 1) := by decide +kernel
theorem d4_155 : decode method_4_code 155 = .ok (.istore 6, 2) := by decide +kernel
theorem d4_157 : decode method_4_code 157 = .ok (.iload 6, 2) := by decide +kernel
theorem d4_159 : decode method_4_code 159 = .ok (.sipush 2048, 3) := by decide +kernel
theorem d4_162 : decode method_4_code 162 = .ok (.if_icmp .lt 21, 3) := by decide +kernel
theorem d4_165 : decode method_4_code 165 = .ok (.iload 6, 2) := by decide +kernel
theorem d4_167 : decode method_4_code 167 = .ok (.ldc 22, 2) := by decide +kernel
theorem d4_169 : decode method_4_code 169 = .ok (.if_icmp .lt 10, 3) := by decide +kernel
theorem d4_172 : decode method_4_code 172 = .ok (.iload 6, 2) := by decide +kernel
theorem d4_174 : decode method_4_code 174 = .ok (.ldc 23, 2) := by decide +kernel
theorem d4_176 : decode method_4_code 176 = .ok (.if_icmp .le 7, 3) := by decide +kernel
theorem d4_179 : decode method_4_code 179 = .ok (.iconst 1, 1) := by decide +kernel
theorem d4_180 : decode method_4_code 180 = .ok (.goto 4, 3) := by decide +kernel
theorem d4_183 : decode method_4_code 183 = .ok (.iconst 0, 1) := by decide +kernel
theorem d4_184 : decode method_4_code 184 = .ok (.ireturn, 1) := by decide +kernel
theorem d4_185 : decode method_4_code 185 = .ok (.aload_n 0, 1) := by decide +kernel
theorem d4_186 : decode method_4_code 186 = .ok (.iload_n 1, 1) := by decide +kernel
theorem d4_187 : decode method_4_code 187 = .ok (.iconst 3, 1) := by decide +kernel
theorem d4_188 : decode method_4_code 188 = .ok (.iadd, 1) := by decide +kernel
theorem d4_189 : decode method_4_code 189 = .ok (.baload, 1) := by decide +kernel
theorem d4_190 : decode method_4_code 190 = .ok (.sipush 255, 3) := by decide +kernel
theorem d4_193 : decode method_4_code 193 = .ok (.iand, 1) := by decide +kernel
theorem d4_194 : decode method_4_code 194 = .ok (.istore 6, 2) := by decide +kernel
theorem d4_196 : decode method_4_code 196 = .ok (.iload 6, 2) := by decide +kernel
theorem d4_198 : decode method_4_code 198 = .ok (.invokestatic 18, 3) := by decide +kernel
theorem d4_201 : decode method_4_code 201 = .ok (.ifCond .ne 5, 3) := by decide +kernel
theorem d4_204 : decode method_4_code 204 = .ok (.iconst 0, 1) := by decide +kernel
theorem d4_205 : decode method_4_code 205 = .ok (.ireturn, 1) := by decide +kernel
theorem d4_206 : decode method_4_code 206 = .ok (.iload_n 3, 1) := by decide +kernel
theorem d4_207 : decode method_4_code 207 = .ok (.sipush 248, 3) := by decide +kernel
theorem d4_210 : decode method_4_code 210 = .ok (.iand, 1) := by decide +kernel
theorem d4_211 : decode method_4_code 211 = .ok (.sipush 240, 3) := by decide +kernel
theorem d4_214 : decode method_4_code 214 = .ok (.if_icmp .eq 5, 3) := by decide +kernel
theorem d4_217 : decode method_4_code 217 = .ok (.iconst 0, 1) := by decide +kernel
theorem d4_218 : decode method_4_code 218 = .ok (.ireturn, 1) := by decide +kernel
theorem d4_219 : decode method_4_code 219 = .ok (.iload_n 3, 1) := by decide +kernel
theorem d4_220 : decode method_4_code 220 = .ok (.bipush 7, 2) := by decide +kernel
theorem d4_222 : decode method_4_code 222 = .ok (.iand, 1) := by decide +kernel
theorem d4_223 : decode method_4_code 223 = .ok (.bipush 18, 2) := by decide +kernel
theorem d4_225 : decode method_4_code 225 = .ok (.ishl, 1) := by decide +kernel
theorem d4_226 : decode method_4_code 226 = .ok (.iload 4, 2) := by decide +kernel
theorem d4_228 : decode method_4_code 228 = .ok (.bipush 63, 2) := by decide +kernel
theorem d4_230 : decode method_4_code 230 = .ok (.iand, 1) := by decide +kernel
theorem d4_231 : decode method_4_code 231 = .ok (.bipush 12, 2) := by decide +kernel
theorem d4_233 : decode method_4_code 233 = .ok (.ishl, 1) := by decide +kernel
theorem d4_234 : decode method_4_code 234 = .ok (.ior, 1) := by decide +kernel
theorem d4_235 : decode method_4_code 235 = .ok (.iload 5, 2) := by decide +kernel
theorem d4_237 : decode method_4_code 237 = .ok (.bipush 63, 2) := by decide +kernel
theorem d4_239 : decode method_4_code 239 = .ok (.iand, 1) := by decide +kernel
theorem d4_240 : decode method_4_code 240 = .ok (.bipush 6, 2) := by decide +kernel
theorem d4_242 : decode method_4_code 242 = .ok (.ishl, 1) := by decide +kernel
theorem d4_243 : decode method_4_code 243 = .ok (.ior, 1) := by decide +kernel
theorem d4_244 : decode method_4_code 244 = .ok (.iload 6, 2) := by decide +kernel
theorem d4_246 : decode method_4_code 246 = .ok (.bipush 63, 2) := by decide +kernel
theorem d4_248 : decode method_4_code 248 = .ok (.iand, 1) := by decide +kernel
theorem d4_249 : decode method_4_code 249 = .ok (.ior, 1) := by decide +kernel
theorem d4_250 : decode method_4_code 250 = .ok (.istore 7, 2) := by decide +kernel
theorem d4_252 : decode method_4_code 252 = .ok (.iload 7, 2) := by decide +kernel
theorem d4_254 : decode method_4_code 254 = .ok (.ldc 24, 2) := by decide +kernel
theorem d4_256 : decode method_4_code 256 = .ok (.if_icmp .lt 14, 3) := by decide +kernel
theorem d4_259 : decode method_4_code 259 = .ok (.iload 7, 2) := by decide +kernel
theorem d4_261 : decode method_4_code 261 = .ok (.ldc 25, 2) := by decide +kernel
theorem d4_263 : decode method_4_code 263 = .ok (.if_icmp .gt 7, 3) := by decide +kernel
theorem d4_266 : decode method_4_code 266 = .ok (.iconst 1, 1) := by decide +kernel
theorem d4_267 : decode method_4_code 267 = .ok (.goto 4, 3) := by decide +kernel
theorem d4_270 : decode method_4_code 270 = .ok (.iconst 0, 1) := by decide +kernel
theorem d4_271 : decode method_4_code 271 = .ok (.ireturn, 1) := by decide +kernel
theorem pn_rm_cont : plainFor (⟨"termstone/store/Utf8IsUtf8PinLaw", "cont", "(I)Z"⟩ : MethodName) = true := by first | exact plainFor_of_name (by first | (simp [plainName, overriddenIn]; done) | decide +kernel) | decide +kernel
theorem ef_rm_cont (z : Int32) (m : MethodId) : entryFrame m #[(.int z)] 1 = mkF m 0 #[.val (.int z)] [] := by first | (simp [entryFrame, mkF, argsToLocals, Value.category]; done) | rfl
set_option maxRecDepth 65536 in
set_option maxHeartbeats 40000000 in
theorem rm_cont (l : Launch) (Z : State) (a0 : Array Value) (hw : ∀ d ∈ tables_1, d.before a0 Z = true) (z : Int32) (h0 : Heap) (n0 : Nat) (Z0 : n0 ≤ h0.size)  :
    OMet l Z n0 (⟨"termstone/store/Utf8IsUtf8PinLaw", "cont", "(I)Z"⟩ : MethodName) method_3_code 1 (some .boolean) ({ frames := 0, cells := 0, slots := 0, locals := 0 } : Room) #[(.int z)] h0 (fun v h => v = some (.int (own_cont z)) ∧ h = h0) := by
  refine OMet.of pn_rm_cont Z0 (ef_rm_cont z) ?_
  intro p e s m below meth c T H
  refine Own.iload_n H (pc := 0) d6_0 rfl ?_
  refine Own.sipush H (pc := 1) (192) d6_1 rfl ?_
  refine Own.iand H (pc := 4) d6_4 ?_
  refine Own.sipush H (pc := 5) (128) d6_5 rfl ?_
  refine Own.icmp_ne H (pc := 8) 15 d6_8 (by decide) (by decide) (fun hc8 => ?_) (fun hc8 => ?_)
  · refine Own.iconst H (pc := 15) (0) d6_15 rfl ?_
    exact Own.ret_nar H (pc := 16) (0) d6_16 rfl (by simp) (by decide) (by decide) (by decide) (⟨by simp [own_cont, *], rfl⟩)
  · refine Own.iconst H (pc := 11) (1) d6_11 rfl ?_
    refine Own.goto H (pc := 12) 16 d6_12 (by decide) (by decide) ?_
    exact Own.ret_nar H (pc := 16) (1) d6_16 rfl (by simp) (by decide) (by decide) (by decide) (⟨by simp [own_cont, *], rfl⟩)
theorem pn_rm_c : plainFor (⟨"termstone/store/Utf8IsUtf8PinLaw", "c", "([BII)Z"⟩ : MethodName) = true := by first | exact plainFor_of_name (by first | (simp [plainName, overriddenIn]; done) | decide +kernel) | decide +kernel
theorem ef_rm_c (a : Nat) (s0 : Int32) (k : Int32) (m : MethodId) : entryFrame m #[(.ref a), (.int s0), (.int k)] 8 = mkF m 0 #[.val (.ref a), .val (.int s0), .val (.int k), .unset, .unset, .unset, .unset, .unset] [] := by first | (simp [entryFrame, mkF, argsToLocals, Value.category]; done) | rfl
set_option maxRecDepth 65536 in
set_option maxHeartbeats 40000000 in
theorem rm_c (l : Launch) (Z : State) (a0 : Array Value) (hw : ∀ d ∈ tables_1, d.before a0 Z = true) (a : Nat) (s0 : Int32) (k : Int32) (h0 : Heap) (n0 : Nat) (Z0 : n0 ≤ h0.size) (bs : List Int32) (hl : bs.length = 8) (A : OAry Z h0 a .byte (bs.map Value.int)) (i : Nat) (hs : s0.toInt = (i : Int)) (hk : 1 ≤ k.toInt ∧ k.toInt ≤ 4) (hik : (i : Int) + k.toInt ≤ 8) :
    OMet l Z n0 (⟨"termstone/store/Utf8IsUtf8PinLaw", "c", "([BII)Z"⟩ : MethodName) method_4_code 8 (some .boolean) ({ frames := 1, cells := 0, slots := 0, locals := 12 } : Room) #[(.ref a), (.int s0), (.int k)] h0 (fun v h => v = some (.int (own_c bs i k)) ∧ h = h0) := by
  refine OMet.of pn_rm_c Z0 (ef_rm_c a s0 k) ?_
  intro p e s m below meth c T H
  refine Own.aload_n H (pc := 0) d4_0 rfl rfl ?_
  refine Own.iload_n H (pc := 1) d4_1 rfl ?_
  refine Own.baload H (pc := 2) (v := (bs.getD i 0)) i d4_2 A hs (own_map (by omega)) ?_
  refine Own.sipush H (pc := 3) (255) d4_3 rfl ?_
  refine Own.iand H (pc := 6) d4_6 ?_
  show OEnds _ _ _ _ _ _ _ _ _ (mkF _ 7 #[.val (.ref a), .val (.int s0), .val (.int k), .unset, .unset, .unset, .unset, .unset] [(.int (own_u bs i))])
  refine Own.istore_n H (pc := 7) #[.val (.ref a), .val (.int s0), .val (.int k), .val (.int (own_u bs i)), .unset, .unset, .unset, .unset] d4_7 rfl ?_
  refine Own.iload_n H (pc := 8) d4_8 rfl ?_
  refine Own.iconst H (pc := 9) (1) d4_9 rfl ?_
  refine Own.icmp_ne H (pc := 10) 26 d4_10 (by decide) (by decide) (fun hc10 => ?_) (fun hc10 => ?_)
  · have nk10 : k.toInt ≠ 1 := fun e => hc10 (own_eq e)
    refine Own.aload_n H (pc := 26) d4_26 rfl rfl ?_
    refine Own.iload_n H (pc := 27) d4_27 rfl ?_
    refine Own.iconst H (pc := 28) (1) d4_28 rfl ?_
    refine Own.iadd H (pc := 29) d4_29 ?_
    refine Own.baload H (pc := 30) (v := (bs.getD (i + 1) 0)) (i + 1) d4_30 A (own_addn hs rfl (by omega)) (own_map (by omega)) ?_
    refine Own.sipush H (pc := 31) (255) d4_31 rfl ?_
    refine Own.iand H (pc := 34) d4_34 ?_
    show OEnds _ _ _ _ _ _ _ _ _ (mkF _ 35 #[.val (.ref a), .val (.int s0), .val (.int k), .val (.int (own_u bs i)), .unset, .unset, .unset, .unset] [(.int (own_u bs (i + 1)))])
    refine Own.istore H (pc := 35) #[.val (.ref a), .val (.int s0), .val (.int k), .val (.int (own_u bs i)), .val (.int (own_u bs (i + 1))), .unset, .unset, .unset] d4_35 rfl ?_
    refine Own.iload H (pc := 37) d4_37 rfl ?_
    refine Own.callS H (pc := 39) (y := (⟨"termstone/store/Utf8IsUtf8PinLaw", "cont", "(I)Z"⟩ : MethodName)) [(.int (own_u bs (i + 1)))] [] d4_39 (hw _ (List.mem_of_getElem? (i := 18) rfl)) (hw _ (List.mem_of_getElem? (i := 19) rfl)) (hw _ (List.mem_of_getElem? (i := 7) rfl)) (hw _ (List.mem_of_getElem? (i := 20) rfl)) (by decide) (rm_cont l Z a0 hw (own_u bs (i + 1)) _ n0 H.z0) (r := (some .boolean)) (ps := [.int]) (by decide) rfl rfl 0 rfl (by decide) (by decide) (by decide) (by decide) rfl (fun T_2 v_4 h_3 H_1 z_5 q_6 => ?_)
    obtain ⟨rfl, rfl⟩ := q_6
    show OEnds _ _ _ _ _ _ _ _ _ (mkF _ 42 #[.val (.ref a), .val (.int s0), .val (.int k), .val (.int (own_u bs i)), .val (.int (own_u bs (i + 1))), .unset, .unset, .unset] [(.int (own_cont (own_u bs (i + 1))))])
    refine Own.if_ne H_1 (pc := 42) 47 d4_42 (by decide) (by decide) (fun hc42 => ?_) (fun hc42 => ?_)
    · refine Own.iload_n H_1 (pc := 47) d4_47 rfl ?_
      refine Own.iconst H_1 (pc := 48) (2) d4_48 rfl ?_
      refine Own.icmp_ne H_1 (pc := 49) 94 d4_49 (by decide) (by decide) (fun hc49 => ?_) (fun hc49 => ?_)
      · have nk49 : k.toInt ≠ 2 := fun e => hc49 (own_eq e)
        refine Own.aload_n H_1 (pc := 94) d4_94 rfl rfl ?_
        refine Own.iload_n H_1 (pc := 95) d4_95 rfl ?_
        refine Own.iconst H_1 (pc := 96) (2) d4_96 rfl ?_
        refine Own.iadd H_1 (pc := 97) d4_97 ?_
        refine Own.baload H_1 (pc := 98) (v := (bs.getD (i + 2) 0)) (i + 2) d4_98 A (own_addn hs rfl (by omega)) (own_map (by omega)) ?_
        refine Own.sipush H_1 (pc := 99) (255) d4_99 rfl ?_
        refine Own.iand H_1 (pc := 102) d4_102 ?_
        show OEnds _ _ _ _ _ _ _ _ _ (mkF _ 103 #[.val (.ref a), .val (.int s0), .val (.int k), .val (.int (own_u bs i)), .val (.int (own_u bs (i + 1))), .unset, .unset, .unset] [(.int (own_u bs (i + 2)))])
        refine Own.istore H_1 (pc := 103) #[.val (.ref a), .val (.int s0), .val (.int k), .val (.int (own_u bs i)), .val (.int (own_u bs (i + 1))), .val (.int (own_u bs (i + 2))), .unset, .unset] d4_103 rfl ?_
        refine Own.iload H_1 (pc := 105) d4_105 rfl ?_
        refine Own.callS H_1 (pc := 107) (y := (⟨"termstone/store/Utf8IsUtf8PinLaw", "cont", "(I)Z"⟩ : MethodName)) [(.int (own_u bs (i + 2)))] [] d4_107 (hw _ (List.mem_of_getElem? (i := 18) rfl)) (hw _ (List.mem_of_getElem? (i := 19) rfl)) (hw _ (List.mem_of_getElem? (i := 7) rfl)) (hw _ (List.mem_of_getElem? (i := 20) rfl)) (by decide) (rm_cont l Z a0 hw (own_u bs (i + 2)) _ n0 H_1.z0) (r := (some .boolean)) (ps := [.int]) (by decide) rfl rfl 0 rfl (by decide) (by decide) (by decide) (by decide) rfl (fun T_8 v_10 h_9 H_7 z_11 q_12 => ?_)
        obtain ⟨rfl, rfl⟩ := q_12
        show OEnds _ _ _ _ _ _ _ _ _ (mkF _ 110 #[.val (.ref a), .val (.int s0), .val (.int k), .val (.int (own_u bs i)), .val (.int (own_u bs (i + 1))), .val (.int (own_u bs (i + 2))), .unset, .unset] [(.int (own_cont (own_u bs (i + 2))))])
        refine Own.if_ne H_7 (pc := 110) 115 d4_110 (by decide) (by decide) (fun hc110 => ?_) (fun hc110 => ?_)
        · refine Own.iload_n H_7 (pc := 115) d4_115 rfl ?_
          refine Own.iconst H_7 (pc := 116) (3) d4_116 rfl ?_
          refine Own.icmp_ne H_7 (pc := 117) 185 d4_117 (by decide) (by decide) (fun hc117 => ?_) (fun hc117 => ?_)
          · have nk117 : k.toInt ≠ 3 := fun e => hc117 (own_eq e)
            refine Own.aload_n H_7 (pc := 185) d4_185 rfl rfl ?_
            refine Own.iload_n H_7 (pc := 186) d4_186 rfl ?_
            refine Own.iconst H_7 (pc := 187) (3) d4_187 rfl ?_
            refine Own.iadd H_7 (pc := 188) d4_188 ?_
            refine Own.baload H_7 (pc := 189) (v := (bs.getD (i + 3) 0)) (i + 3) d4_189 A (own_addn hs rfl (by omega)) (own_map (by omega)) ?_
            refine Own.sipush H_7 (pc := 190) (255) d4_190 rfl ?_
            refine Own.iand H_7 (pc := 193) d4_193 ?_
            show OEnds _ _ _ _ _ _ _ _ _ (mkF _ 194 #[.val (.ref a), .val (.int s0), .val (.int k), .val (.int (own_u bs i)), .val (.int (own_u bs (i + 1))), .val (.int (own_u bs (i + 2))), .unset, .unset] [(.int (own_u bs (i + 3)))])
            refine Own.istore H_7 (pc := 194) #[.val (.ref a), .val (.int s0), .val (.int k), .val (.int (own_u bs i)), .val (.int (own_u bs (i + 1))), .val (.int (own_u bs (i + 2))), .val (.int (own_u bs (i + 3))), .unset] d4_194 rfl ?_
            refine Own.iload H_7 (pc := 196) d4_196 rfl ?_
            refine Own.callS H_7 (pc := 198) (y := (⟨"termstone/store/Utf8IsUtf8PinLaw", "cont", "(I)Z"⟩ : MethodName)) [(.int (own_u bs (i + 3)))] [] d4_198 (hw _ (List.mem_of_getElem? (i := 18) rfl)) (hw _ (List.mem_of_getElem? (i := 19) rfl)) (hw _ (List.mem_of_getElem? (i := 7) rfl)) (hw _ (List.mem_of_getElem? (i := 20) rfl)) (by decide) (rm_cont l Z a0 hw (own_u bs (i + 3)) _ n0 H_7.z0) (r := (some .boolean)) (ps := [.int]) (by decide) rfl rfl 0 rfl (by decide) (by decide) (by decide) (by decide) rfl (fun T_14 v_16 h_15 H_13 z_17 q_18 => ?_)
            obtain ⟨rfl, rfl⟩ := q_18
            show OEnds _ _ _ _ _ _ _ _ _ (mkF _ 201 #[.val (.ref a), .val (.int s0), .val (.int k), .val (.int (own_u bs i)), .val (.int (own_u bs (i + 1))), .val (.int (own_u bs (i + 2))), .val (.int (own_u bs (i + 3))), .unset] [(.int (own_cont (own_u bs (i + 3))))])
            refine Own.if_ne H_13 (pc := 201) 206 d4_201 (by decide) (by decide) (fun hc201 => ?_) (fun hc201 => ?_)
            · refine Own.iload_n H_13 (pc := 206) d4_206 rfl ?_
              refine Own.sipush H_13 (pc := 207) (248) d4_207 rfl ?_
              refine Own.iand H_13 (pc := 210) d4_210 ?_
              refine Own.sipush H_13 (pc := 211) (240) d4_211 rfl ?_
              refine Own.icmp_eq H_13 (pc := 214) 219 d4_214 (by decide) (by decide) (fun hc214 => ?_) (fun hc214 => ?_)
              · refine Own.iload_n H_13 (pc := 219) d4_219 rfl ?_
                refine Own.bipush H_13 (pc := 220) (7) d4_220 rfl ?_
                refine Own.iand H_13 (pc := 222) d4_222 ?_
                refine Own.bipush H_13 (pc := 223) (18) d4_223 rfl ?_
                refine Own.ishl H_13 (pc := 225) d4_225 ?_
                refine Own.iload H_13 (pc := 226) d4_226 rfl ?_
                refine Own.bipush H_13 (pc := 228) (63) d4_228 rfl ?_
                refine Own.iand H_13 (pc := 230) d4_230 ?_
                refine Own.bipush H_13 (pc := 231) (12) d4_231 rfl ?_
                refine Own.ishl H_13 (pc := 233) d4_233 ?_
                refine Own.ior H_13 (pc := 234) d4_234 ?_
                refine Own.iload H_13 (pc := 235) d4_235 rfl ?_
                refine Own.bipush H_13 (pc := 237) (63) d4_237 rfl ?_
                refine Own.iand H_13 (pc := 239) d4_239 ?_
                refine Own.bipush H_13 (pc := 240) (6) d4_240 rfl ?_
                refine Own.ishl H_13 (pc := 242) d4_242 ?_
                refine Own.ior H_13 (pc := 243) d4_243 ?_
                refine Own.iload H_13 (pc := 244) d4_244 rfl ?_
                refine Own.bipush H_13 (pc := 246) (63) d4_246 rfl ?_
                refine Own.iand H_13 (pc := 248) d4_248 ?_
                refine Own.ior H_13 (pc := 249) d4_249 ?_
                refine Own.istore H_13 (pc := 250) #[.val (.ref a), .val (.int s0), .val (.int k), .val (.int (own_u bs i)), .val (.int (own_u bs (i + 1))), .val (.int (own_u bs (i + 2))), .val (.int (own_u bs (i + 3))), .val (.int ((((((own_u bs i) &&& (7 : Int32)) <<< ((18 : Int32) &&& 31)) ||| (((own_u bs (i + 1)) &&& (63 : Int32)) <<< ((12 : Int32) &&& 31))) ||| (((own_u bs (i + 2)) &&& (63 : Int32)) <<< ((6 : Int32) &&& 31))) ||| ((own_u bs (i + 3)) &&& (63 : Int32))))] d4_250 rfl ?_
                refine Own.iload H_13 (pc := 252) d4_252 rfl ?_
                refine Own.ldc H_13 (pc := 254) d4_254 (hw _ (List.mem_of_getElem? (i := 41) rfl)) ?_
                refine Own.icmp_lt H_13 (pc := 256) 270 d4_256 (by decide) (by decide) (fun hc256 => ?_) (fun hc256 => ?_)
                · refine Own.iconst H_13 (pc := 270) (0) d4_270 rfl ?_
                  exact Own.ret_nar H_13 (pc := 271) (0) d4_271 rfl (by simp) (by decide) (by decide) (by decide) (⟨by simp [own_c, *], rfl⟩)
                · refine Own.iload H_13 (pc := 259) d4_259 rfl ?_
                  refine Own.ldc H_13 (pc := 261) d4_261 (hw _ (List.mem_of_getElem? (i := 42) rfl)) ?_
                  refine Own.icmp_gt H_13 (pc := 263) 270 d4_263 (by decide) (by decide) (fun hc263 => ?_) (fun hc263 => ?_)
                  · refine Own.iconst H_13 (pc := 270) (0) d4_270 rfl ?_
                    exact Own.ret_nar H_13 (pc := 271) (0) d4_271 rfl (by simp) (by decide) (by decide) (by decide) (⟨by simp [own_c, *], rfl⟩)
                  · refine Own.iconst H_13 (pc := 266) (1) d4_266 rfl ?_
                    refine Own.goto H_13 (pc := 267) 271 d4_267 (by decide) (by decide) ?_
                    exact Own.ret_nar H_13 (pc := 271) (1) d4_271 rfl (by simp) (by decide) (by decide) (by decide) (⟨by simp [own_c, *], rfl⟩)
              · refine Own.iconst H_13 (pc := 217) (0) d4_217 rfl ?_
                exact Own.ret_nar H_13 (pc := 218) (0) d4_218 rfl (by simp) (by decide) (by decide) (by decide) (⟨by simp [own_c, *], rfl⟩)
            · refine Own.iconst H_13 (pc := 204) (0) d4_204 rfl ?_
              exact Own.ret_nar H_13 (pc := 205) (0) d4_205 rfl (by simp) (by decide) (by decide) (by decide) (⟨by simp [own_c, *], rfl⟩)
          · refine Own.iload_n H_7 (pc := 120) d4_120 rfl ?_
            refine Own.sipush H_7 (pc := 121) (240) d4_121 rfl ?_
            refine Own.iand H_7 (pc := 124) d4_124 ?_
            refine Own.sipush H_7 (pc := 125) (224) d4_125 rfl ?_
            refine Own.icmp_eq H_7 (pc := 128) 133 d4_128 (by decide) (by decide) (fun hc128 => ?_) (fun hc128 => ?_)
            · refine Own.iload_n H_7 (pc := 133) d4_133 rfl ?_
              refine Own.bipush H_7 (pc := 134) (15) d4_134 rfl ?_
              refine Own.iand H_7 (pc := 136) d4_136 ?_
              refine Own.bipush H_7 (pc := 137) (12) d4_137 rfl ?_
              refine Own.ishl H_7 (pc := 139) d4_139 ?_
              refine Own.iload H_7 (pc := 140) d4_140 rfl ?_
              refine Own.bipush H_7 (pc := 142) (63) d4_142 rfl ?_
              refine Own.iand H_7 (pc := 144) d4_144 ?_
              refine Own.bipush H_7 (pc := 145) (6) d4_145 rfl ?_
              refine Own.ishl H_7 (pc := 147) d4_147 ?_
              refine Own.ior H_7 (pc := 148) d4_148 ?_
              refine Own.iload H_7 (pc := 149) d4_149 rfl ?_
              refine Own.bipush H_7 (pc := 151) (63) d4_151 rfl ?_
              refine Own.iand H_7 (pc := 153) d4_153 ?_
              refine Own.ior H_7 (pc := 154) d4_154 ?_
              refine Own.istore H_7 (pc := 155) #[.val (.ref a), .val (.int s0), .val (.int k), .val (.int (own_u bs i)), .val (.int (own_u bs (i + 1))), .val (.int (own_u bs (i + 2))), .val (.int (((((own_u bs i) &&& (15 : Int32)) <<< ((12 : Int32) &&& 31)) ||| (((own_u bs (i + 1)) &&& (63 : Int32)) <<< ((6 : Int32) &&& 31))) ||| ((own_u bs (i + 2)) &&& (63 : Int32)))), .unset] d4_155 rfl ?_
              refine Own.iload H_7 (pc := 157) d4_157 rfl ?_
              refine Own.sipush H_7 (pc := 159) (2048) d4_159 rfl ?_
              refine Own.icmp_lt H_7 (pc := 162) 183 d4_162 (by decide) (by decide) (fun hc162 => ?_) (fun hc162 => ?_)
              · refine Own.iconst H_7 (pc := 183) (0) d4_183 rfl ?_
                exact Own.ret_nar H_7 (pc := 184) (0) d4_184 rfl (by simp) (by decide) (by decide) (by decide) (⟨by simp [own_c, *], rfl⟩)
              · refine Own.iload H_7 (pc := 165) d4_165 rfl ?_
                refine Own.ldc H_7 (pc := 167) d4_167 (hw _ (List.mem_of_getElem? (i := 39) rfl)) ?_
                refine Own.icmp_lt H_7 (pc := 169) 179 d4_169 (by decide) (by decide) (fun hc169 => ?_) (fun hc169 => ?_)
                · refine Own.iconst H_7 (pc := 179) (1) d4_179 rfl ?_
                  refine Own.goto H_7 (pc := 180) 184 d4_180 (by decide) (by decide) ?_
                  exact Own.ret_nar H_7 (pc := 184) (1) d4_184 rfl (by simp) (by decide) (by decide) (by decide) (⟨by simp [own_c, *], rfl⟩)
                · refine Own.iload H_7 (pc := 172) d4_172 rfl ?_
                  refine Own.ldc H_7 (pc := 174) d4_174 (hw _ (List.mem_of_getElem? (i := 40) rfl)) ?_
                  refine Own.icmp_le H_7 (pc := 176) 183 d4_176 (by decide) (by decide) (fun hc176 => ?_) (fun hc176 => ?_)
                  · refine Own.iconst H_7 (pc := 183) (0) d4_183 rfl ?_
                    exact Own.ret_nar H_7 (pc := 184) (0) d4_184 rfl (by simp) (by decide) (by decide) (by decide) (⟨by simp [own_c, *], rfl⟩)
                  · refine Own.iconst H_7 (pc := 179) (1) d4_179 rfl ?_
                    refine Own.goto H_7 (pc := 180) 184 d4_180 (by decide) (by decide) ?_
                    exact Own.ret_nar H_7 (pc := 184) (1) d4_184 rfl (by simp) (by decide) (by decide) (by decide) (⟨by simp [own_c, *], rfl⟩)
            · refine Own.iconst H_7 (pc := 131) (0) d4_131 rfl ?_
              exact Own.ret_nar H_7 (pc := 132) (0) d4_132 rfl (by simp) (by decide) (by decide) (by decide) (⟨by simp [own_c, *], rfl⟩)
        · refine Own.iconst H_7 (pc := 113) (0) d4_113 rfl ?_
          exact Own.ret_nar H_7 (pc := 114) (0) d4_114 rfl (by simp) (by decide) (by decide) (by decide) (⟨by simp [own_c, *], rfl⟩)
      · refine Own.iload_n H_1 (pc := 52) d4_52 rfl ?_
        refine Own.sipush H_1 (pc := 53) (224) d4_53 rfl ?_
        refine Own.iand H_1 (pc := 56) d4_56 ?_
        refine Own.sipush H_1 (pc := 57) (192) d4_57 rfl ?_
        refine Own.icmp_eq H_1 (pc := 60) 65 d4_60 (by decide) (by decide) (fun hc60 => ?_) (fun hc60 => ?_)
        · refine Own.iload_n H_1 (pc := 65) d4_65 rfl ?_
          refine Own.bipush H_1 (pc := 66) (31) d4_66 rfl ?_
          refine Own.iand H_1 (pc := 68) d4_68 ?_
          refine Own.bipush H_1 (pc := 69) (6) d4_69 rfl ?_
          refine Own.ishl H_1 (pc := 71) d4_71 ?_
          refine Own.iload H_1 (pc := 72) d4_72 rfl ?_
          refine Own.bipush H_1 (pc := 74) (63) d4_74 rfl ?_
          refine Own.iand H_1 (pc := 76) d4_76 ?_
          refine Own.ior H_1 (pc := 77) d4_77 ?_
          refine Own.istore H_1 (pc := 78) #[.val (.ref a), .val (.int s0), .val (.int k), .val (.int (own_u bs i)), .val (.int (own_u bs (i + 1))), .val (.int ((((own_u bs i) &&& (31 : Int32)) <<< ((6 : Int32) &&& 31)) ||| ((own_u bs (i + 1)) &&& (63 : Int32)))), .unset, .unset] d4_78 rfl ?_
          refine Own.iload H_1 (pc := 80) d4_80 rfl ?_
          refine Own.sipush H_1 (pc := 82) (128) d4_82 rfl ?_
          refine Own.icmp_lt H_1 (pc := 85) 92 d4_85 (by decide) (by decide) (fun hc85 => ?_) (fun hc85 => ?_)
          · refine Own.iconst H_1 (pc := 92) (0) d4_92 rfl ?_
            exact Own.ret_nar H_1 (pc := 93) (0) d4_93 rfl (by simp) (by decide) (by decide) (by decide) (⟨by simp [own_c, *], rfl⟩)
          · refine Own.iconst H_1 (pc := 88) (1) d4_88 rfl ?_
            refine Own.goto H_1 (pc := 89) 93 d4_89 (by decide) (by decide) ?_
            exact Own.ret_nar H_1 (pc := 93) (1) d4_93 rfl (by simp) (by decide) (by decide) (by decide) (⟨by simp [own_c, *], rfl⟩)
        · refine Own.iconst H_1 (pc := 63) (0) d4_63 rfl ?_
          exact Own.ret_nar H_1 (pc := 64) (0) d4_64 rfl (by simp) (by decide) (by decide) (by decide) (⟨by simp [own_c, *], rfl⟩)
    · refine Own.iconst H_1 (pc := 45) (0) d4_45 rfl ?_
      exact Own.ret_nar H_1 (pc := 46) (0) d4_46 rfl (by simp) (by decide) (by decide) (by decide) (⟨by simp [own_c, *], rfl⟩)
  · refine Own.iload_n H (pc := 13) d4_13 rfl ?_
    refine Own.sipush H (pc := 14) (128) d4_14 rfl ?_
    refine Own.icmp_ge H (pc := 17) 24 d4_17 (by decide) (by decide) (fun hc17 => ?_) (fun hc17 => ?_)
    · refine Own.iconst H (pc := 24) (0) d4_24 rfl ?_
      exact Own.ret_nar H (pc := 25) (0) d4_25 rfl (by simp) (by decide) (by decide) (by decide) (⟨by simp [own_c, *], rfl⟩)
    · refine Own.iconst H (pc := 20) (1) d4_20 rfl ?_
      refine Own.goto H (pc := 21) 25 d4_21 (by decide) (by decide) ?_
      exact Own.ret_nar H (pc := 25) (1) d4_25 rfl (by simp) (by decide) (by decide) (by decide) (⟨by simp [own_c, *], rfl⟩)
theorem d3_0 : decode method_6_code 0 = .ok (.aload_n 0, 1) := by decide +kernel
theorem d3_1 : decode method_6_code 1 = .ok (.iload_n 1, 1) := by decide +kernel
theorem d3_2 : decode method_6_code 2 = .ok (.iconst 1, 1) := by decide +kernel
theorem d3_3 : decode method_6_code 3 = .ok (.invokestatic 51, 3) := by decide +kernel
theorem d3_6 : decode method_6_code 6 = .ok (.ireturn, 1) := by decide +kernel
theorem own_c01 (bs : List Int32) (s : Nat) (k : Int32) : nar .boolean (own_c bs s k) = own_c bs s k := own_nz (own_zc bs s k)
theorem pn_rm_v1 : plainFor (⟨"termstone/store/Utf8IsUtf8PinLaw", "v1", "([BI)Z"⟩ : MethodName) = true := by first | exact plainFor_of_name (by first | (simp [plainName, overriddenIn]; done) | decide +kernel) | decide +kernel
theorem ef_rm_v1 (a : Nat) (s0 : Int32) (m : MethodId) : entryFrame m #[(.ref a), (.int s0)] 2 = mkF m 0 #[.val (.ref a), .val (.int s0)] [] := by first | (simp [entryFrame, mkF, argsToLocals, Value.category]; done) | rfl
set_option maxRecDepth 65536 in
set_option maxHeartbeats 40000000 in
theorem rm_v1 (l : Launch) (Z : State) (a0 : Array Value) (hw : ∀ d ∈ tables_1, d.before a0 Z = true) (a : Nat) (s0 : Int32) (h0 : Heap) (n0 : Nat) (Z0 : n0 ≤ h0.size) (bs : List Int32) (hl : bs.length = 8) (A : OAry Z h0 a .byte (bs.map Value.int)) (i : Nat) (hs : s0.toInt = (i : Int)) (hin : i + 1 ≤ 8) :
    OMet l Z n0 (⟨"termstone/store/Utf8IsUtf8PinLaw", "v1", "([BI)Z"⟩ : MethodName) method_6_code 2 (some .boolean) ({ frames := 2, cells := 0, slots := 0, locals := 31 } : Room) #[(.ref a), (.int s0)] h0 (fun v h => v = some (.int (own_v1 bs i)) ∧ h = h0) := by
  refine OMet.of pn_rm_v1 Z0 (ef_rm_v1 a s0) ?_
  intro p e s m below meth c T H
  refine Own.aload_n H (pc := 0) d3_0 rfl rfl ?_
  refine Own.iload_n H (pc := 1) d3_1 rfl ?_
  refine Own.iconst H (pc := 2) (1) d3_2 rfl ?_
  refine Own.callS H (pc := 3) (y := (⟨"termstone/store/Utf8IsUtf8PinLaw", "c", "([BII)Z"⟩ : MethodName)) [(.ref a), (.int s0), (.int (1 : Int32))] [] d3_3 (hw _ (List.mem_of_getElem? (i := 12) rfl)) (hw _ (List.mem_of_getElem? (i := 13) rfl)) (hw _ (List.mem_of_getElem? (i := 7) rfl)) (hw _ (List.mem_of_getElem? (i := 14) rfl)) (by decide) (rm_c l Z a0 hw a s0 (1 : Int32) _ n0 H.z0 bs hl A i hs (by decide) (by show (i : Int) + 1 ≤ 8; omega)) (r := (some .boolean)) (ps := [(.array .byte), .int, .int]) (by decide) rfl rfl 0 rfl (by decide) (by decide) (by decide) (by decide) rfl (fun T_20 v_22 h_21 H_19 z_23 q_24 => ?_)
  obtain ⟨rfl, rfl⟩ := q_24
  show OEnds _ _ _ _ _ _ _ _ _ (mkF _ 6 #[.val (.ref a), .val (.int s0)] [(.int (own_c bs i (1 : Int32)))])
  exact Own.ret_nar H_19 (pc := 6) (own_c bs i (1 : Int32)) d3_6 rfl (by simp) (own_c01 _ _ _) (by decide) (by decide) (⟨rfl, rfl⟩)
theorem d10_0 : decode method_7_code 0 = .ok (.aload_n 0, 1) := by decide +kernel
theorem d10_1 : decode method_7_code 1 = .ok (.iload_n 1, 1) := by decide +kernel
theorem d10_2 : decode method_7_code 2 = .ok (.iconst 2, 1) := by decide +kernel
theorem d10_3 : decode method_7_code 3 = .ok (.invokestatic 51, 3) := by decide +kernel
theorem d10_6 : decode method_7_code 6 = .ok (.ifCond .ne 22, 3) := by decide +kernel
theorem d10_9 : decode method_7_code 9 = .ok (.aload_n 0, 1) := by decide +kernel
theorem d10_10 : decode method_7_code 10 = .ok (.iload_n 1, 1) := by decide +kernel
theorem d10_11 : decode method_7_code 11 = .ok (.iconst 1, 1) := by decide +kernel
theorem d10_12 : decode method_7_code 12 = .ok (.invokestatic 51, 3) := by decide +kernel
theorem d10_15 : decode method_7_code 15 = .ok (.ifCond .eq 17, 3) := by decide +kernel
theorem d10_18 : decode method_7_code 18 = .ok (.aload_n 0, 1) := by decide +kernel
theorem d10_19 : decode method_7_code 19 = .ok (.iload_n 1, 1) := by decide +kernel
theorem d10_20 : decode method_7_code 20 = .ok (.iconst 1, 1) := by decide +kernel
theorem d10_21 : decode method_7_code 21 = .ok (.iadd, 1) := by decide +kernel
theorem d10_22 : decode method_7_code 22 = .ok (.invokestatic 26, 3) := by decide +kernel
theorem d10_25 : decode method_7_code 25 = .ok (.ifCond .eq 7, 3) := by decide +kernel
theorem d10_28 : decode method_7_code 28 = .ok (.iconst 1, 1) := by decide +kernel
theorem d10_29 : decode method_7_code 29 = .ok (.goto 4, 3) := by decide +kernel
theorem d10_32 : decode method_7_code 32 = .ok (.iconst 0, 1) := by decide +kernel
theorem d10_33 : decode method_7_code 33 = .ok (.ireturn, 1) := by decide +kernel
theorem pn_rm_v2 : plainFor (⟨"termstone/store/Utf8IsUtf8PinLaw", "v2", "([BI)Z"⟩ : MethodName) = true := by first | exact plainFor_of_name (by first | (simp [plainName, overriddenIn]; done) | decide +kernel) | decide +kernel
theorem ef_rm_v2 (a : Nat) (s0 : Int32) (m : MethodId) : entryFrame m #[(.ref a), (.int s0)] 2 = mkF m 0 #[.val (.ref a), .val (.int s0)] [] := by first | (simp [entryFrame, mkF, argsToLocals, Value.category]; done) | rfl
set_option maxRecDepth 65536 in
set_option maxHeartbeats 40000000 in
theorem rm_v2 (l : Launch) (Z : State) (a0 : Array Value) (hw : ∀ d ∈ tables_1, d.before a0 Z = true) (a : Nat) (s0 : Int32) (h0 : Heap) (n0 : Nat) (Z0 : n0 ≤ h0.size) (bs : List Int32) (hl : bs.length = 8) (A : OAry Z h0 a .byte (bs.map Value.int)) (i : Nat) (hs : s0.toInt = (i : Int)) (hin : i + 2 ≤ 8) :
    OMet l Z n0 (⟨"termstone/store/Utf8IsUtf8PinLaw", "v2", "([BI)Z"⟩ : MethodName) method_7_code 2 (some .boolean) ({ frames := 3, cells := 0, slots := 0, locals := 44 } : Room) #[(.ref a), (.int s0)] h0 (fun v h => v = some (.int (own_v2 bs i)) ∧ h = h0) := by
  refine OMet.of pn_rm_v2 Z0 (ef_rm_v2 a s0) ?_
  intro p e s m below meth c T H
  refine Own.aload_n H (pc := 0) d10_0 rfl rfl ?_
  refine Own.iload_n H (pc := 1) d10_1 rfl ?_
  refine Own.iconst H (pc := 2) (2) d10_2 rfl ?_
  refine Own.callS H (pc := 3) (y := (⟨"termstone/store/Utf8IsUtf8PinLaw", "c", "([BII)Z"⟩ : MethodName)) [(.ref a), (.int s0), (.int (2 : Int32))] [] d10_3 (hw _ (List.mem_of_getElem? (i := 12) rfl)) (hw _ (List.mem_of_getElem? (i := 13) rfl)) (hw _ (List.mem_of_getElem? (i := 7) rfl)) (hw _ (List.mem_of_getElem? (i := 14) rfl)) (by decide) (rm_c l Z a0 hw a s0 (2 : Int32) _ n0 H.z0 bs hl A i hs (by decide) (by show (i : Int) + 2 ≤ 8; omega)) (r := (some .boolean)) (ps := [(.array .byte), .int, .int]) (by decide) rfl rfl 0 rfl (by decide) (by decide) (by decide) (by decide) rfl (fun T_26 v_28 h_27 H_25 z_29 q_30 => ?_)
  obtain ⟨rfl, rfl⟩ := q_30
  show OEnds _ _ _ _ _ _ _ _ _ (mkF _ 6 #[.val (.ref a), .val (.int s0)] [(.int (own_c bs i (2 : Int32)))])
  refine Own.if_ne H_25 (pc := 6) 28 d10_6 (by decide) (by decide) (fun hc6 => ?_) (fun hc6 => ?_)
  · refine Own.iconst H_25 (pc := 28) (1) d10_28 rfl ?_
    refine Own.goto H_25 (pc := 29) 33 d10_29 (by decide) (by decide) ?_
    exact Own.ret_nar H_25 (pc := 33) (1) d10_33 rfl (by simp) (by decide) (by decide) (by decide) (⟨by simp [own_v2, *], rfl⟩)
  · refine Own.aload_n H_25 (pc := 9) d10_9 rfl rfl ?_
    refine Own.iload_n H_25 (pc := 10) d10_10 rfl ?_
    refine Own.iconst H_25 (pc := 11) (1) d10_11 rfl ?_
    refine Own.callS H_25 (pc := 12) (y := (⟨"termstone/store/Utf8IsUtf8PinLaw", "c", "([BII)Z"⟩ : MethodName)) [(.ref a), (.int s0), (.int (1 : Int32))] [] d10_12 (hw _ (List.mem_of_getElem? (i := 12) rfl)) (hw _ (List.mem_of_getElem? (i := 13) rfl)) (hw _ (List.mem_of_getElem? (i := 7) rfl)) (hw _ (List.mem_of_getElem? (i := 14) rfl)) (by decide) (rm_c l Z a0 hw a s0 (1 : Int32) _ n0 H_25.z0 bs hl A i hs (by decide) (by show (i : Int) + 1 ≤ 8; omega)) (r := (some .boolean)) (ps := [(.array .byte), .int, .int]) (by decide) rfl rfl 0 rfl (by decide) (by decide) (by decide) (by decide) rfl (fun T_32 v_34 h_33 H_31 z_35 q_36 => ?_)
    obtain ⟨rfl, rfl⟩ := q_36
    show OEnds _ _ _ _ _ _ _ _ _ (mkF _ 15 #[.val (.ref a), .val (.int s0)] [(.int (own_c bs i (1 : Int32)))])
    refine Own.if_eq H_31 (pc := 15) 32 d10_15 (by decide) (by decide) (fun hc15 => ?_) (fun hc15 => ?_)
    · refine Own.iconst H_31 (pc := 32) (0) d10_32 rfl ?_
      exact Own.ret_nar H_31 (pc := 33) (0) d10_33 rfl (by simp) (by decide) (by decide) (by decide) (⟨by simp [own_v2, *], rfl⟩)
    · refine Own.aload_n H_31 (pc := 18) d10_18 rfl rfl ?_
      refine Own.iload_n H_31 (pc := 19) d10_19 rfl ?_
      refine Own.iconst H_31 (pc := 20) (1) d10_20 rfl ?_
      refine Own.iadd H_31 (pc := 21) d10_21 ?_
      refine Own.callS H_31 (pc := 22) (y := (⟨"termstone/store/Utf8IsUtf8PinLaw", "v1", "([BI)Z"⟩ : MethodName)) [(.ref a), (.int (s0 + (1 : Int32)))] [] d10_22 (hw _ (List.mem_of_getElem? (i := 9) rfl)) (hw _ (List.mem_of_getElem? (i := 10) rfl)) (hw _ (List.mem_of_getElem? (i := 7) rfl)) (hw _ (List.mem_of_getElem? (i := 11) rfl)) (by decide) (rm_v1 l Z a0 hw a (s0 + (1 : Int32)) _ n0 H_31.z0 bs hl A (i + 1) (own_addn hs rfl (by omega)) (by omega)) (r := (some .boolean)) (ps := [(.array .byte), .int]) (by decide) rfl rfl 0 rfl (by decide) (by decide) (by decide) (by decide) rfl (fun T_38 v_40 h_39 H_37 z_41 q_42 => ?_)
      obtain ⟨rfl, rfl⟩ := q_42
      show OEnds _ _ _ _ _ _ _ _ _ (mkF _ 25 #[.val (.ref a), .val (.int s0)] [(.int (own_v1 bs (i + 1)))])
      refine Own.if_eq H_37 (pc := 25) 32 d10_25 (by decide) (by decide) (fun hc25 => ?_) (fun hc25 => ?_)
      · refine Own.iconst H_37 (pc := 32) (0) d10_32 rfl ?_
        exact Own.ret_nar H_37 (pc := 33) (0) d10_33 rfl (by simp) (by decide) (by decide) (by decide) (⟨by simp [own_v2, *], rfl⟩)
      · refine Own.iconst H_37 (pc := 28) (1) d10_28 rfl ?_
        refine Own.goto H_37 (pc := 29) 33 d10_29 (by decide) (by decide) ?_
        exact Own.ret_nar H_37 (pc := 33) (1) d10_33 rfl (by simp) (by decide) (by decide) (by decide) (⟨by simp [own_v2, *], rfl⟩)
theorem d9_0 : decode method_8_code 0 = .ok (.aload_n 0, 1) := by decide +kernel
theorem d9_1 : decode method_8_code 1 = .ok (.iload_n 1, 1) := by decide +kernel
theorem d9_2 : decode method_8_code 2 = .ok (.iconst 3, 1) := by decide +kernel
theorem d9_3 : decode method_8_code 3 = .ok (.invokestatic 51, 3) := by decide +kernel
theorem d9_6 : decode method_8_code 6 = .ok (.ifCond .ne 41, 3) := by decide +kernel
theorem d9_9 : decode method_8_code 9 = .ok (.aload_n 0, 1) := by decide +kernel
theorem d9_10 : decode method_8_code 10 = .ok (.iload_n 1, 1) := by decide +kernel
theorem d9_11 : decode method_8_code 11 = .ok (.iconst 2, 1) := by decide +kernel
theorem d9_12 : decode method_8_code 12 = .ok (.invokestatic 51, 3) := by decide +kernel
theorem d9_15 : decode method_8_code 15 = .ok (.ifCond .eq 13, 3) := by decide +kernel
theorem d9_18 : decode method_8_code 18 = .ok (.aload_n 0, 1) := by decide +kernel
theorem d9_19 : decode method_8_code 19 = .ok (.iload_n 1, 1) := by decide +kernel
theorem d9_20 : decode method_8_code 20 = .ok (.iconst 2, 1) := by decide +kernel
theorem d9_21 : decode method_8_code 21 = .ok (.iadd, 1) := by decide +kernel
theorem d9_22 : decode method_8_code 22 = .ok (.invokestatic 26, 3) := by decide +kernel
theorem d9_25 : decode method_8_code 25 = .ok (.ifCond .ne 22, 3) := by decide +kernel
theorem d9_28 : decode method_8_code 28 = .ok (.aload_n 0, 1) := by decide +kernel
theorem d9_29 : decode method_8_code 29 = .ok (.iload_n 1, 1) := by decide +kernel
theorem d9_30 : decode method_8_code 30 = .ok (.iconst 1, 1) := by decide +kernel
theorem d9_31 : decode method_8_code 31 = .ok (.invokestatic 51, 3) := by decide +kernel
theorem d9_34 : decode method_8_code 34 = .ok (.ifCond .eq 17, 3) := by decide +kernel
theorem d9_37 : decode method_8_code 37 = .ok (.aload_n 0, 1) := by decide +kernel
theorem d9_38 : decode method_8_code 38 = .ok (.iload_n 1, 1) := by decide +kernel
theorem d9_39 : decode method_8_code 39 = .ok (.iconst 1, 1) := by decide +kernel
theorem d9_40 : decode method_8_code 40 = .ok (.iadd, 1) := by decide +kernel
theorem d9_41 : decode method_8_code 41 = .ok (.invokestatic 30, 3) := by decide +kernel
theorem d9_44 : decode method_8_code 44 = .ok (.ifCond .eq 7, 3) := by decide +kernel
theorem d9_47 : decode method_8_code 47 = .ok (.iconst 1, 1) := by decide +kernel
theorem d9_48 : decode method_8_code 48 = .ok (.goto 4, 3) := by decide +kernel
theorem d9_51 : decode method_8_code 51 = .ok (.iconst 0, 1) := by decide +kernel
theorem d9_52 : decode method_8_code 52 = .ok (.ireturn, 1) := by decide +kernel
theorem pn_rm_v3 : plainFor (⟨"termstone/store/Utf8IsUtf8PinLaw", "v3", "([BI)Z"⟩ : MethodName) = true := by first | exact plainFor_of_name (by first | (simp [plainName, overriddenIn]; done) | decide +kernel) | decide +kernel
theorem ef_rm_v3 (a : Nat) (s0 : Int32) (m : MethodId) : entryFrame m #[(.ref a), (.int s0)] 2 = mkF m 0 #[.val (.ref a), .val (.int s0)] [] := by first | (simp [entryFrame, mkF, argsToLocals, Value.category]; done) | rfl
set_option maxRecDepth 65536 in
set_option maxHeartbeats 40000000 in
theorem rm_v3 (l : Launch) (Z : State) (a0 : Array Value) (hw : ∀ d ∈ tables_1, d.before a0 Z = true) (a : Nat) (s0 : Int32) (h0 : Heap) (n0 : Nat) (Z0 : n0 ≤ h0.size) (bs : List Int32) (hl : bs.length = 8) (A : OAry Z h0 a .byte (bs.map Value.int)) (i : Nat) (hs : s0.toInt = (i : Int)) (hin : i + 3 ≤ 8) :
    OMet l Z n0 (⟨"termstone/store/Utf8IsUtf8PinLaw", "v3", "([BI)Z"⟩ : MethodName) method_8_code 2 (some .boolean) ({ frames := 4, cells := 0, slots := 0, locals := 57 } : Room) #[(.ref a), (.int s0)] h0 (fun v h => v = some (.int (own_v3 bs i)) ∧ h = h0) := by
  refine OMet.of pn_rm_v3 Z0 (ef_rm_v3 a s0) ?_
  intro p e s m below meth c T H
  refine Own.aload_n H (pc := 0) d9_0 rfl rfl ?_
  refine Own.iload_n H (pc := 1) d9_1 rfl ?_
  refine Own.iconst H (pc := 2) (3) d9_2 rfl ?_
  refine Own.callS H (pc := 3) (y := (⟨"termstone/store/Utf8IsUtf8PinLaw", "c", "([BII)Z"⟩ : MethodName)) [(.ref a), (.int s0), (.int (3 : Int32))] [] d9_3 (hw _ (List.mem_of_getElem? (i := 12) rfl)) (hw _ (List.mem_of_getElem? (i := 13) rfl)) (hw _ (List.mem_of_getElem? (i := 7) rfl)) (hw _ (List.mem_of_getElem? (i := 14) rfl)) (by decide) (rm_c l Z a0 hw a s0 (3 : Int32) _ n0 H.z0 bs hl A i hs (by decide) (by show (i : Int) + 3 ≤ 8; omega)) (r := (some .boolean)) (ps := [(.array .byte), .int, .int]) (by decide) rfl rfl 0 rfl (by decide) (by decide) (by decide) (by decide) rfl (fun T_44 v_46 h_45 H_43 z_47 q_48 => ?_)
  obtain ⟨rfl, rfl⟩ := q_48
  show OEnds _ _ _ _ _ _ _ _ _ (mkF _ 6 #[.val (.ref a), .val (.int s0)] [(.int (own_c bs i (3 : Int32)))])
  refine Own.if_ne H_43 (pc := 6) 47 d9_6 (by decide) (by decide) (fun hc6 => ?_) (fun hc6 => ?_)
  · refine Own.iconst H_43 (pc := 47) (1) d9_47 rfl ?_
    refine Own.goto H_43 (pc := 48) 52 d9_48 (by decide) (by decide) ?_
    exact Own.ret_nar H_43 (pc := 52) (1) d9_52 rfl (by simp) (by decide) (by decide) (by decide) (⟨by simp [own_v3, *], rfl⟩)
  · refine Own.aload_n H_43 (pc := 9) d9_9 rfl rfl ?_
    refine Own.iload_n H_43 (pc := 10) d9_10 rfl ?_
    refine Own.iconst H_43 (pc := 11) (2) d9_11 rfl ?_
    refine Own.callS H_43 (pc := 12) (y := (⟨"termstone/store/Utf8IsUtf8PinLaw", "c", "([BII)Z"⟩ : MethodName)) [(.ref a), (.int s0), (.int (2 : Int32))] [] d9_12 (hw _ (List.mem_of_getElem? (i := 12) rfl)) (hw _ (List.mem_of_getElem? (i := 13) rfl)) (hw _ (List.mem_of_getElem? (i := 7) rfl)) (hw _ (List.mem_of_getElem? (i := 14) rfl)) (by decide) (rm_c l Z a0 hw a s0 (2 : Int32) _ n0 H_43.z0 bs hl A i hs (by decide) (by show (i : Int) + 2 ≤ 8; omega)) (r := (some .boolean)) (ps := [(.array .byte), .int, .int]) (by decide) rfl rfl 0 rfl (by decide) (by decide) (by decide) (by decide) rfl (fun T_50 v_52 h_51 H_49 z_53 q_54 => ?_)
    obtain ⟨rfl, rfl⟩ := q_54
    show OEnds _ _ _ _ _ _ _ _ _ (mkF _ 15 #[.val (.ref a), .val (.int s0)] [(.int (own_c bs i (2 : Int32)))])
    refine Own.if_eq H_49 (pc := 15) 28 d9_15 (by decide) (by decide) (fun hc15 => ?_) (fun hc15 => ?_)
    · refine Own.aload_n H_49 (pc := 28) d9_28 rfl rfl ?_
      refine Own.iload_n H_49 (pc := 29) d9_29 rfl ?_
      refine Own.iconst H_49 (pc := 30) (1) d9_30 rfl ?_
      refine Own.callS H_49 (pc := 31) (y := (⟨"termstone/store/Utf8IsUtf8PinLaw", "c", "([BII)Z"⟩ : MethodName)) [(.ref a), (.int s0), (.int (1 : Int32))] [] d9_31 (hw _ (List.mem_of_getElem? (i := 12) rfl)) (hw _ (List.mem_of_getElem? (i := 13) rfl)) (hw _ (List.mem_of_getElem? (i := 7) rfl)) (hw _ (List.mem_of_getElem? (i := 14) rfl)) (by decide) (rm_c l Z a0 hw a s0 (1 : Int32) _ n0 H_49.z0 bs hl A i hs (by decide) (by show (i : Int) + 1 ≤ 8; omega)) (r := (some .boolean)) (ps := [(.array .byte), .int, .int]) (by decide) rfl rfl 0 rfl (by decide) (by decide) (by decide) (by decide) rfl (fun T_56 v_58 h_57 H_55 z_59 q_60 => ?_)
      obtain ⟨rfl, rfl⟩ := q_60
      show OEnds _ _ _ _ _ _ _ _ _ (mkF _ 34 #[.val (.ref a), .val (.int s0)] [(.int (own_c bs i (1 : Int32)))])
      refine Own.if_eq H_55 (pc := 34) 51 d9_34 (by decide) (by decide) (fun hc34 => ?_) (fun hc34 => ?_)
      · refine Own.iconst H_55 (pc := 51) (0) d9_51 rfl ?_
        exact Own.ret_nar H_55 (pc := 52) (0) d9_52 rfl (by simp) (by decide) (by decide) (by decide) (⟨by simp [own_v3, *], rfl⟩)
      · refine Own.aload_n H_55 (pc := 37) d9_37 rfl rfl ?_
        refine Own.iload_n H_55 (pc := 38) d9_38 rfl ?_
        refine Own.iconst H_55 (pc := 39) (1) d9_39 rfl ?_
        refine Own.iadd H_55 (pc := 40) d9_40 ?_
        refine Own.callS H_55 (pc := 41) (y := (⟨"termstone/store/Utf8IsUtf8PinLaw", "v2", "([BI)Z"⟩ : MethodName)) [(.ref a), (.int (s0 + (1 : Int32)))] [] d9_41 (hw _ (List.mem_of_getElem? (i := 30) rfl)) (hw _ (List.mem_of_getElem? (i := 31) rfl)) (hw _ (List.mem_of_getElem? (i := 7) rfl)) (hw _ (List.mem_of_getElem? (i := 32) rfl)) (by decide) (rm_v2 l Z a0 hw a (s0 + (1 : Int32)) _ n0 H_55.z0 bs hl A (i + 1) (own_addn hs rfl (by omega)) (by omega)) (r := (some .boolean)) (ps := [(.array .byte), .int]) (by decide) rfl rfl 0 rfl (by decide) (by decide) (by decide) (by decide) rfl (fun T_62 v_64 h_63 H_61 z_65 q_66 => ?_)
        obtain ⟨rfl, rfl⟩ := q_66
        show OEnds _ _ _ _ _ _ _ _ _ (mkF _ 44 #[.val (.ref a), .val (.int s0)] [(.int (own_v2 bs (i + 1)))])
        refine Own.if_eq H_61 (pc := 44) 51 d9_44 (by decide) (by decide) (fun hc44 => ?_) (fun hc44 => ?_)
        · refine Own.iconst H_61 (pc := 51) (0) d9_51 rfl ?_
          exact Own.ret_nar H_61 (pc := 52) (0) d9_52 rfl (by simp) (by decide) (by decide) (by decide) (⟨by simp [own_v3, *], rfl⟩)
        · refine Own.iconst H_61 (pc := 47) (1) d9_47 rfl ?_
          refine Own.goto H_61 (pc := 48) 52 d9_48 (by decide) (by decide) ?_
          exact Own.ret_nar H_61 (pc := 52) (1) d9_52 rfl (by simp) (by decide) (by decide) (by decide) (⟨by simp [own_v3, *], rfl⟩)
    · refine Own.aload_n H_49 (pc := 18) d9_18 rfl rfl ?_
      refine Own.iload_n H_49 (pc := 19) d9_19 rfl ?_
      refine Own.iconst H_49 (pc := 20) (2) d9_20 rfl ?_
      refine Own.iadd H_49 (pc := 21) d9_21 ?_
      refine Own.callS H_49 (pc := 22) (y := (⟨"termstone/store/Utf8IsUtf8PinLaw", "v1", "([BI)Z"⟩ : MethodName)) [(.ref a), (.int (s0 + (2 : Int32)))] [] d9_22 (hw _ (List.mem_of_getElem? (i := 9) rfl)) (hw _ (List.mem_of_getElem? (i := 10) rfl)) (hw _ (List.mem_of_getElem? (i := 7) rfl)) (hw _ (List.mem_of_getElem? (i := 11) rfl)) (by decide) (rm_v1 l Z a0 hw a (s0 + (2 : Int32)) _ n0 H_49.z0 bs hl A (i + 2) (own_addn hs rfl (by omega)) (by omega)) (r := (some .boolean)) (ps := [(.array .byte), .int]) (by decide) rfl rfl 0 rfl (by decide) (by decide) (by decide) (by decide) rfl (fun T_68 v_70 h_69 H_67 z_71 q_72 => ?_)
      obtain ⟨rfl, rfl⟩ := q_72
      show OEnds _ _ _ _ _ _ _ _ _ (mkF _ 25 #[.val (.ref a), .val (.int s0)] [(.int (own_v1 bs (i + 2)))])
      refine Own.if_ne H_67 (pc := 25) 47 d9_25 (by decide) (by decide) (fun hc25 => ?_) (fun hc25 => ?_)
      · refine Own.iconst H_67 (pc := 47) (1) d9_47 rfl ?_
        refine Own.goto H_67 (pc := 48) 52 d9_48 (by decide) (by decide) ?_
        exact Own.ret_nar H_67 (pc := 52) (1) d9_52 rfl (by simp) (by decide) (by decide) (by decide) (⟨by simp [own_v3, *], rfl⟩)
      · refine Own.aload_n H_67 (pc := 28) d9_28 rfl rfl ?_
        refine Own.iload_n H_67 (pc := 29) d9_29 rfl ?_
        refine Own.iconst H_67 (pc := 30) (1) d9_30 rfl ?_
        refine Own.callS H_67 (pc := 31) (y := (⟨"termstone/store/Utf8IsUtf8PinLaw", "c", "([BII)Z"⟩ : MethodName)) [(.ref a), (.int s0), (.int (1 : Int32))] [] d9_31 (hw _ (List.mem_of_getElem? (i := 12) rfl)) (hw _ (List.mem_of_getElem? (i := 13) rfl)) (hw _ (List.mem_of_getElem? (i := 7) rfl)) (hw _ (List.mem_of_getElem? (i := 14) rfl)) (by decide) (rm_c l Z a0 hw a s0 (1 : Int32) _ n0 H_67.z0 bs hl A i hs (by decide) (by show (i : Int) + 1 ≤ 8; omega)) (r := (some .boolean)) (ps := [(.array .byte), .int, .int]) (by decide) rfl rfl 0 rfl (by decide) (by decide) (by decide) (by decide) rfl (fun T_74 v_76 h_75 H_73 z_77 q_78 => ?_)
        obtain ⟨rfl, rfl⟩ := q_78
        show OEnds _ _ _ _ _ _ _ _ _ (mkF _ 34 #[.val (.ref a), .val (.int s0)] [(.int (own_c bs i (1 : Int32)))])
        refine Own.if_eq H_73 (pc := 34) 51 d9_34 (by decide) (by decide) (fun hc34 => ?_) (fun hc34 => ?_)
        · refine Own.iconst H_73 (pc := 51) (0) d9_51 rfl ?_
          exact Own.ret_nar H_73 (pc := 52) (0) d9_52 rfl (by simp) (by decide) (by decide) (by decide) (⟨by simp [own_v3, *], rfl⟩)
        · refine Own.aload_n H_73 (pc := 37) d9_37 rfl rfl ?_
          refine Own.iload_n H_73 (pc := 38) d9_38 rfl ?_
          refine Own.iconst H_73 (pc := 39) (1) d9_39 rfl ?_
          refine Own.iadd H_73 (pc := 40) d9_40 ?_
          refine Own.callS H_73 (pc := 41) (y := (⟨"termstone/store/Utf8IsUtf8PinLaw", "v2", "([BI)Z"⟩ : MethodName)) [(.ref a), (.int (s0 + (1 : Int32)))] [] d9_41 (hw _ (List.mem_of_getElem? (i := 30) rfl)) (hw _ (List.mem_of_getElem? (i := 31) rfl)) (hw _ (List.mem_of_getElem? (i := 7) rfl)) (hw _ (List.mem_of_getElem? (i := 32) rfl)) (by decide) (rm_v2 l Z a0 hw a (s0 + (1 : Int32)) _ n0 H_73.z0 bs hl A (i + 1) (own_addn hs rfl (by omega)) (by omega)) (r := (some .boolean)) (ps := [(.array .byte), .int]) (by decide) rfl rfl 0 rfl (by decide) (by decide) (by decide) (by decide) rfl (fun T_80 v_82 h_81 H_79 z_83 q_84 => ?_)
          obtain ⟨rfl, rfl⟩ := q_84
          show OEnds _ _ _ _ _ _ _ _ _ (mkF _ 44 #[.val (.ref a), .val (.int s0)] [(.int (own_v2 bs (i + 1)))])
          refine Own.if_eq H_79 (pc := 44) 51 d9_44 (by decide) (by decide) (fun hc44 => ?_) (fun hc44 => ?_)
          · refine Own.iconst H_79 (pc := 51) (0) d9_51 rfl ?_
            exact Own.ret_nar H_79 (pc := 52) (0) d9_52 rfl (by simp) (by decide) (by decide) (by decide) (⟨by simp [own_v3, *], rfl⟩)
          · refine Own.iconst H_79 (pc := 47) (1) d9_47 rfl ?_
            refine Own.goto H_79 (pc := 48) 52 d9_48 (by decide) (by decide) ?_
            exact Own.ret_nar H_79 (pc := 52) (1) d9_52 rfl (by simp) (by decide) (by decide) (by decide) (⟨by simp [own_v3, *], rfl⟩)
theorem d8_0 : decode method_9_code 0 = .ok (.aload_n 0, 1) := by decide +kernel
theorem d8_1 : decode method_9_code 1 = .ok (.iload_n 1, 1) := by decide +kernel
theorem d8_2 : decode method_9_code 2 = .ok (.iconst 4, 1) := by decide +kernel
theorem d8_3 : decode method_9_code 3 = .ok (.invokestatic 51, 3) := by decide +kernel
theorem d8_6 : decode method_9_code 6 = .ok (.ifCond .ne 60, 3) := by decide +kernel
theorem d8_9 : decode method_9_code 9 = .ok (.aload_n 0, 1) := by decide +kernel
theorem d8_10 : decode method_9_code 10 = .ok (.iload_n 1, 1) := by decide +kernel
theorem d8_11 : decode method_9_code 11 = .ok (.iconst 3, 1) := by decide +kernel
theorem d8_12 : decode method_9_code 12 = .ok (.invokestatic 51, 3) := by decide +kernel
theorem d8_15 : decode method_9_code 15 = .ok (.ifCond .eq 13, 3) := by decide +kernel
theorem d8_18 : decode method_9_code 18 = .ok (.aload_n 0, 1) := by decide +kernel
theorem d8_19 : decode method_9_code 19 = .ok (.iload_n 1, 1) := by decide +kernel
theorem d8_20 : decode method_9_code 20 = .ok (.iconst 3, 1) := by decide +kernel
theorem d8_21 : decode method_9_code 21 = .ok (.iadd, 1) := by decide +kernel
theorem d8_22 : decode method_9_code 22 = .ok (.invokestatic 26, 3) := by decide +kernel
theorem d8_25 : decode method_9_code 25 = .ok (.ifCond .ne 41, 3) := by decide +kernel
theorem d8_28 : decode method_9_code 28 = .ok (.aload_n 0, 1) := by decide +kernel
theorem d8_29 : decode method_9_code 29 = .ok (.iload_n 1, 1) := by decide +kernel
theorem d8_30 : decode method_9_code 30 = .ok (.iconst 2, 1) := by decide +kernel
theorem d8_31 : decode method_9_code 31 = .ok (.invokestatic 51, 3) := by decide +kernel
theorem d8_34 : decode method_9_code 34 = .ok (.ifCond .eq 13, 3) := by decide +kernel
theorem d8_37 : decode method_9_code 37 = .ok (.aload_n 0, 1) := by decide +kernel
theorem d8_38 : decode method_9_code 38 = .ok (.iload_n 1, 1) := by decide +kernel
theorem d8_39 : decode method_9_code 39 = .ok (.iconst 2, 1) := by decide +kernel
theorem d8_40 : decode method_9_code 40 = .ok (.iadd, 1) := by decide +kernel
theorem d8_41 : decode method_9_code 41 = .ok (.invokestatic 30, 3) := by decide +kernel
theorem d8_44 : decode method_9_code 44 = .ok (.ifCond .ne 22, 3) := by decide +kernel
theorem d8_47 : decode method_9_code 47 = .ok (.aload_n 0, 1) := by decide +kernel
theorem d8_48 : decode method_9_code 48 = .ok (.iload_n 1, 1) := by decide +kernel
theorem d8_49 : decode method_9_code 49 = .ok (.iconst 1, 1) := by decide +kernel
theorem d8_50 : decode method_9_code 50 = .ok (.invokestatic 51, 3) := by decide +kernel
theorem d8_53 : decode method_9_code 53 = .ok (.ifCond .eq 17, 3) := by decide +kernel
theorem d8_56 : decode method_9_code 56 = .ok (.aload_n 0, 1) := by decide +kernel
theorem d8_57 : decode method_9_code 57 = .ok (.iload_n 1, 1) := by decide +kernel
theorem d8_58 : decode method_9_code 58 = .ok (.iconst 1, 1) := by decide +kernel
theorem d8_59 : decode method_9_code 59 = .ok (.iadd, 1) := by decide +kernel
theorem d8_60 : decode method_9_code 60 = .ok (.invokestatic 33, 3) := by decide +kernel
theorem d8_63 : decode method_9_code 63 = .ok (.ifCond .eq 7, 3) := by decide +kernel
theorem d8_66 : decode method_9_code 66 = .ok (.iconst 1, 1) := by decide +kernel
theorem d8_67 : decode method_9_code 67 = .ok (.goto 4, 3) := by decide +kernel
theorem d8_70 : decode method_9_code 70 = .ok (.iconst 0, 1) := by decide +kernel
theorem d8_71 : decode method_9_code 71 = .ok (.ireturn, 1) := by decide +kernel
theorem pn_rm_v4 : plainFor (⟨"termstone/store/Utf8IsUtf8PinLaw", "v4", "([BI)Z"⟩ : MethodName) = true := by first | exact plainFor_of_name (by first | (simp [plainName, overriddenIn]; done) | decide +kernel) | decide +kernel
theorem ef_rm_v4 (a : Nat) (s0 : Int32) (m : MethodId) : entryFrame m #[(.ref a), (.int s0)] 2 = mkF m 0 #[.val (.ref a), .val (.int s0)] [] := by first | (simp [entryFrame, mkF, argsToLocals, Value.category]; done) | rfl
set_option maxRecDepth 65536 in
set_option maxHeartbeats 40000000 in
theorem rm_v4 (l : Launch) (Z : State) (a0 : Array Value) (hw : ∀ d ∈ tables_1, d.before a0 Z = true) (a : Nat) (s0 : Int32) (h0 : Heap) (n0 : Nat) (Z0 : n0 ≤ h0.size) (bs : List Int32) (hl : bs.length = 8) (A : OAry Z h0 a .byte (bs.map Value.int)) (i : Nat) (hs : s0.toInt = (i : Int)) (hin : i + 4 ≤ 8) :
    OMet l Z n0 (⟨"termstone/store/Utf8IsUtf8PinLaw", "v4", "([BI)Z"⟩ : MethodName) method_9_code 2 (some .boolean) ({ frames := 5, cells := 0, slots := 0, locals := 70 } : Room) #[(.ref a), (.int s0)] h0 (fun v h => v = some (.int (own_v4 bs i)) ∧ h = h0) := by
  refine OMet.of pn_rm_v4 Z0 (ef_rm_v4 a s0) ?_
  intro p e s m below meth c T H
  refine Own.aload_n H (pc := 0) d8_0 rfl rfl ?_
  refine Own.iload_n H (pc := 1) d8_1 rfl ?_
  refine Own.iconst H (pc := 2) (4) d8_2 rfl ?_
  refine Own.callS H (pc := 3) (y := (⟨"termstone/store/Utf8IsUtf8PinLaw", "c", "([BII)Z"⟩ : MethodName)) [(.ref a), (.int s0), (.int (4 : Int32))] [] d8_3 (hw _ (List.mem_of_getElem? (i := 12) rfl)) (hw _ (List.mem_of_getElem? (i := 13) rfl)) (hw _ (List.mem_of_getElem? (i := 7) rfl)) (hw _ (List.mem_of_getElem? (i := 14) rfl)) (by decide) (rm_c l Z a0 hw a s0 (4 : Int32) _ n0 H.z0 bs hl A i hs (by decide) (by show (i : Int) + 4 ≤ 8; omega)) (r := (some .boolean)) (ps := [(.array .byte), .int, .int]) (by decide) rfl rfl 0 rfl (by decide) (by decide) (by decide) (by decide) rfl (fun T_86 v_88 h_87 H_85 z_89 q_90 => ?_)
  obtain ⟨rfl, rfl⟩ := q_90
  show OEnds _ _ _ _ _ _ _ _ _ (mkF _ 6 #[.val (.ref a), .val (.int s0)] [(.int (own_c bs i (4 : Int32)))])
  refine Own.if_ne H_85 (pc := 6) 66 d8_6 (by decide) (by decide) (fun hc6 => ?_) (fun hc6 => ?_)
  · refine Own.iconst H_85 (pc := 66) (1) d8_66 rfl ?_
    refine Own.goto H_85 (pc := 67) 71 d8_67 (by decide) (by decide) ?_
    exact Own.ret_nar H_85 (pc := 71) (1) d8_71 rfl (by simp) (by decide) (by decide) (by decide) (⟨by simp [own_v4, *], rfl⟩)
  · refine Own.aload_n H_85 (pc := 9) d8_9 rfl rfl ?_
    refine Own.iload_n H_85 (pc := 10) d8_10 rfl ?_
    refine Own.iconst H_85 (pc := 11) (3) d8_11 rfl ?_
    refine Own.callS H_85 (pc := 12) (y := (⟨"termstone/store/Utf8IsUtf8PinLaw", "c", "([BII)Z"⟩ : MethodName)) [(.ref a), (.int s0), (.int (3 : Int32))] [] d8_12 (hw _ (List.mem_of_getElem? (i := 12) rfl)) (hw _ (List.mem_of_getElem? (i := 13) rfl)) (hw _ (List.mem_of_getElem? (i := 7) rfl)) (hw _ (List.mem_of_getElem? (i := 14) rfl)) (by decide) (rm_c l Z a0 hw a s0 (3 : Int32) _ n0 H_85.z0 bs hl A i hs (by decide) (by show (i : Int) + 3 ≤ 8; omega)) (r := (some .boolean)) (ps := [(.array .byte), .int, .int]) (by decide) rfl rfl 0 rfl (by decide) (by decide) (by decide) (by decide) rfl (fun T_92 v_94 h_93 H_91 z_95 q_96 => ?_)
    obtain ⟨rfl, rfl⟩ := q_96
    show OEnds _ _ _ _ _ _ _ _ _ (mkF _ 15 #[.val (.ref a), .val (.int s0)] [(.int (own_c bs i (3 : Int32)))])
    refine Own.if_eq H_91 (pc := 15) 28 d8_15 (by decide) (by decide) (fun hc15 => ?_) (fun hc15 => ?_)
    · refine Own.aload_n H_91 (pc := 28) d8_28 rfl rfl ?_
      refine Own.iload_n H_91 (pc := 29) d8_29 rfl ?_
      refine Own.iconst H_91 (pc := 30) (2) d8_30 rfl ?_
      refine Own.callS H_91 (pc := 31) (y := (⟨"termstone/store/Utf8IsUtf8PinLaw", "c", "([BII)Z"⟩ : MethodName)) [(.ref a), (.int s0), (.int (2 : Int32))] [] d8_31 (hw _ (List.mem_of_getElem? (i := 12) rfl)) (hw _ (List.mem_of_getElem? (i := 13) rfl)) (hw _ (List.mem_of_getElem? (i := 7) rfl)) (hw _ (List.mem_of_getElem? (i := 14) rfl)) (by decide) (rm_c l Z a0 hw a s0 (2 : Int32) _ n0 H_91.z0 bs hl A i hs (by decide) (by show (i : Int) + 2 ≤ 8; omega)) (r := (some .boolean)) (ps := [(.array .byte), .int, .int]) (by decide) rfl rfl 0 rfl (by decide) (by decide) (by decide) (by decide) rfl (fun T_98 v_100 h_99 H_97 z_101 q_102 => ?_)
      obtain ⟨rfl, rfl⟩ := q_102
      show OEnds _ _ _ _ _ _ _ _ _ (mkF _ 34 #[.val (.ref a), .val (.int s0)] [(.int (own_c bs i (2 : Int32)))])
      refine Own.if_eq H_97 (pc := 34) 47 d8_34 (by decide) (by decide) (fun hc34 => ?_) (fun hc34 => ?_)
      · refine Own.aload_n H_97 (pc := 47) d8_47 rfl rfl ?_
        refine Own.iload_n H_97 (pc := 48) d8_48 rfl ?_
        refine Own.iconst H_97 (pc := 49) (1) d8_49 rfl ?_
        refine Own.callS H_97 (pc := 50) (y := (⟨"termstone/store/Utf8IsUtf8PinLaw", "c", "([BII)Z"⟩ : MethodName)) [(.ref a), (.int s0), (.int (1 : Int32))] [] d8_50 (hw _ (List.mem_of_getElem? (i := 12) rfl)) (hw _ (List.mem_of_getElem? (i := 13) rfl)) (hw _ (List.mem_of_getElem? (i := 7) rfl)) (hw _ (List.mem_of_getElem? (i := 14) rfl)) (by decide) (rm_c l Z a0 hw a s0 (1 : Int32) _ n0 H_97.z0 bs hl A i hs (by decide) (by show (i : Int) + 1 ≤ 8; omega)) (r := (some .boolean)) (ps := [(.array .byte), .int, .int]) (by decide) rfl rfl 0 rfl (by decide) (by decide) (by decide) (by decide) rfl (fun T_104 v_106 h_105 H_103 z_107 q_108 => ?_)
        obtain ⟨rfl, rfl⟩ := q_108
        show OEnds _ _ _ _ _ _ _ _ _ (mkF _ 53 #[.val (.ref a), .val (.int s0)] [(.int (own_c bs i (1 : Int32)))])
        refine Own.if_eq H_103 (pc := 53) 70 d8_53 (by decide) (by decide) (fun hc53 => ?_) (fun hc53 => ?_)
        · refine Own.iconst H_103 (pc := 70) (0) d8_70 rfl ?_
          exact Own.ret_nar H_103 (pc := 71) (0) d8_71 rfl (by simp) (by decide) (by decide) (by decide) (⟨by simp [own_v4, *], rfl⟩)
        · refine Own.aload_n H_103 (pc := 56) d8_56 rfl rfl ?_
          refine Own.iload_n H_103 (pc := 57) d8_57 rfl ?_
          refine Own.iconst H_103 (pc := 58) (1) d8_58 rfl ?_
          refine Own.iadd H_103 (pc := 59) d8_59 ?_
          refine Own.callS H_103 (pc := 60) (y := (⟨"termstone/store/Utf8IsUtf8PinLaw", "v3", "([BI)Z"⟩ : MethodName)) [(.ref a), (.int (s0 + (1 : Int32)))] [] d8_60 (hw _ (List.mem_of_getElem? (i := 27) rfl)) (hw _ (List.mem_of_getElem? (i := 28) rfl)) (hw _ (List.mem_of_getElem? (i := 7) rfl)) (hw _ (List.mem_of_getElem? (i := 29) rfl)) (by decide) (rm_v3 l Z a0 hw a (s0 + (1 : Int32)) _ n0 H_103.z0 bs hl A (i + 1) (own_addn hs rfl (by omega)) (by omega)) (r := (some .boolean)) (ps := [(.array .byte), .int]) (by decide) rfl rfl 0 rfl (by decide) (by decide) (by decide) (by decide) rfl (fun T_110 v_112 h_111 H_109 z_113 q_114 => ?_)
          obtain ⟨rfl, rfl⟩ := q_114
          show OEnds _ _ _ _ _ _ _ _ _ (mkF _ 63 #[.val (.ref a), .val (.int s0)] [(.int (own_v3 bs (i + 1)))])
          refine Own.if_eq H_109 (pc := 63) 70 d8_63 (by decide) (by decide) (fun hc63 => ?_) (fun hc63 => ?_)
          · refine Own.iconst H_109 (pc := 70) (0) d8_70 rfl ?_
            exact Own.ret_nar H_109 (pc := 71) (0) d8_71 rfl (by simp) (by decide) (by decide) (by decide) (⟨by simp [own_v4, *], rfl⟩)
          · refine Own.iconst H_109 (pc := 66) (1) d8_66 rfl ?_
            refine Own.goto H_109 (pc := 67) 71 d8_67 (by decide) (by decide) ?_
            exact Own.ret_nar H_109 (pc := 71) (1) d8_71 rfl (by simp) (by decide) (by decide) (by decide) (⟨by simp [own_v4, *], rfl⟩)
      · refine Own.aload_n H_97 (pc := 37) d8_37 rfl rfl ?_
        refine Own.iload_n H_97 (pc := 38) d8_38 rfl ?_
        refine Own.iconst H_97 (pc := 39) (2) d8_39 rfl ?_
        refine Own.iadd H_97 (pc := 40) d8_40 ?_
        refine Own.callS H_97 (pc := 41) (y := (⟨"termstone/store/Utf8IsUtf8PinLaw", "v2", "([BI)Z"⟩ : MethodName)) [(.ref a), (.int (s0 + (2 : Int32)))] [] d8_41 (hw _ (List.mem_of_getElem? (i := 30) rfl)) (hw _ (List.mem_of_getElem? (i := 31) rfl)) (hw _ (List.mem_of_getElem? (i := 7) rfl)) (hw _ (List.mem_of_getElem? (i := 32) rfl)) (by decide) (rm_v2 l Z a0 hw a (s0 + (2 : Int32)) _ n0 H_97.z0 bs hl A (i + 2) (own_addn hs rfl (by omega)) (by omega)) (r := (some .boolean)) (ps := [(.array .byte), .int]) (by decide) rfl rfl 0 rfl (by decide) (by decide) (by decide) (by decide) rfl (fun T_116 v_118 h_117 H_115 z_119 q_120 => ?_)
        obtain ⟨rfl, rfl⟩ := q_120
        show OEnds _ _ _ _ _ _ _ _ _ (mkF _ 44 #[.val (.ref a), .val (.int s0)] [(.int (own_v2 bs (i + 2)))])
        refine Own.if_ne H_115 (pc := 44) 66 d8_44 (by decide) (by decide) (fun hc44 => ?_) (fun hc44 => ?_)
        · refine Own.iconst H_115 (pc := 66) (1) d8_66 rfl ?_
          refine Own.goto H_115 (pc := 67) 71 d8_67 (by decide) (by decide) ?_
          exact Own.ret_nar H_115 (pc := 71) (1) d8_71 rfl (by simp) (by decide) (by decide) (by decide) (⟨by simp [own_v4, *], rfl⟩)
        · refine Own.aload_n H_115 (pc := 47) d8_47 rfl rfl ?_
          refine Own.iload_n H_115 (pc := 48) d8_48 rfl ?_
          refine Own.iconst H_115 (pc := 49) (1) d8_49 rfl ?_
          refine Own.callS H_115 (pc := 50) (y := (⟨"termstone/store/Utf8IsUtf8PinLaw", "c", "([BII)Z"⟩ : MethodName)) [(.ref a), (.int s0), (.int (1 : Int32))] [] d8_50 (hw _ (List.mem_of_getElem? (i := 12) rfl)) (hw _ (List.mem_of_getElem? (i := 13) rfl)) (hw _ (List.mem_of_getElem? (i := 7) rfl)) (hw _ (List.mem_of_getElem? (i := 14) rfl)) (by decide) (rm_c l Z a0 hw a s0 (1 : Int32) _ n0 H_115.z0 bs hl A i hs (by decide) (by show (i : Int) + 1 ≤ 8; omega)) (r := (some .boolean)) (ps := [(.array .byte), .int, .int]) (by decide) rfl rfl 0 rfl (by decide) (by decide) (by decide) (by decide) rfl (fun T_122 v_124 h_123 H_121 z_125 q_126 => ?_)
          obtain ⟨rfl, rfl⟩ := q_126
          show OEnds _ _ _ _ _ _ _ _ _ (mkF _ 53 #[.val (.ref a), .val (.int s0)] [(.int (own_c bs i (1 : Int32)))])
          refine Own.if_eq H_121 (pc := 53) 70 d8_53 (by decide) (by decide) (fun hc53 => ?_) (fun hc53 => ?_)
          · refine Own.iconst H_121 (pc := 70) (0) d8_70 rfl ?_
            exact Own.ret_nar H_121 (pc := 71) (0) d8_71 rfl (by simp) (by decide) (by decide) (by decide) (⟨by simp [own_v4, *], rfl⟩)
          · refine Own.aload_n H_121 (pc := 56) d8_56 rfl rfl ?_
            refine Own.iload_n H_121 (pc := 57) d8_57 rfl ?_
            refine Own.iconst H_121 (pc := 58) (1) d8_58 rfl ?_
            refine Own.iadd H_121 (pc := 59) d8_59 ?_
            refine Own.callS H_121 (pc := 60) (y := (⟨"termstone/store/Utf8IsUtf8PinLaw", "v3", "([BI)Z"⟩ : MethodName)) [(.ref a), (.int (s0 + (1 : Int32)))] [] d8_60 (hw _ (List.mem_of_getElem? (i := 27) rfl)) (hw _ (List.mem_of_getElem? (i := 28) rfl)) (hw _ (List.mem_of_getElem? (i := 7) rfl)) (hw _ (List.mem_of_getElem? (i := 29) rfl)) (by decide) (rm_v3 l Z a0 hw a (s0 + (1 : Int32)) _ n0 H_121.z0 bs hl A (i + 1) (own_addn hs rfl (by omega)) (by omega)) (r := (some .boolean)) (ps := [(.array .byte), .int]) (by decide) rfl rfl 0 rfl (by decide) (by decide) (by decide) (by decide) rfl (fun T_128 v_130 h_129 H_127 z_131 q_132 => ?_)
            obtain ⟨rfl, rfl⟩ := q_132
            show OEnds _ _ _ _ _ _ _ _ _ (mkF _ 63 #[.val (.ref a), .val (.int s0)] [(.int (own_v3 bs (i + 1)))])
            refine Own.if_eq H_127 (pc := 63) 70 d8_63 (by decide) (by decide) (fun hc63 => ?_) (fun hc63 => ?_)
            · refine Own.iconst H_127 (pc := 70) (0) d8_70 rfl ?_
              exact Own.ret_nar H_127 (pc := 71) (0) d8_71 rfl (by simp) (by decide) (by decide) (by decide) (⟨by simp [own_v4, *], rfl⟩)
            · refine Own.iconst H_127 (pc := 66) (1) d8_66 rfl ?_
              refine Own.goto H_127 (pc := 67) 71 d8_67 (by decide) (by decide) ?_
              exact Own.ret_nar H_127 (pc := 71) (1) d8_71 rfl (by simp) (by decide) (by decide) (by decide) (⟨by simp [own_v4, *], rfl⟩)
    · refine Own.aload_n H_91 (pc := 18) d8_18 rfl rfl ?_
      refine Own.iload_n H_91 (pc := 19) d8_19 rfl ?_
      refine Own.iconst H_91 (pc := 20) (3) d8_20 rfl ?_
      refine Own.iadd H_91 (pc := 21) d8_21 ?_
      refine Own.callS H_91 (pc := 22) (y := (⟨"termstone/store/Utf8IsUtf8PinLaw", "v1", "([BI)Z"⟩ : MethodName)) [(.ref a), (.int (s0 + (3 : Int32)))] [] d8_22 (hw _ (List.mem_of_getElem? (i := 9) rfl)) (hw _ (List.mem_of_getElem? (i := 10) rfl)) (hw _ (List.mem_of_getElem? (i := 7) rfl)) (hw _ (List.mem_of_getElem? (i := 11) rfl)) (by decide) (rm_v1 l Z a0 hw a (s0 + (3 : Int32)) _ n0 H_91.z0 bs hl A (i + 3) (own_addn hs rfl (by omega)) (by omega)) (r := (some .boolean)) (ps := [(.array .byte), .int]) (by decide) rfl rfl 0 rfl (by decide) (by decide) (by decide) (by decide) rfl (fun T_134 v_136 h_135 H_133 z_137 q_138 => ?_)
      obtain ⟨rfl, rfl⟩ := q_138
      show OEnds _ _ _ _ _ _ _ _ _ (mkF _ 25 #[.val (.ref a), .val (.int s0)] [(.int (own_v1 bs (i + 3)))])
      refine Own.if_ne H_133 (pc := 25) 66 d8_25 (by decide) (by decide) (fun hc25 => ?_) (fun hc25 => ?_)
      · refine Own.iconst H_133 (pc := 66) (1) d8_66 rfl ?_
        refine Own.goto H_133 (pc := 67) 71 d8_67 (by decide) (by decide) ?_
        exact Own.ret_nar H_133 (pc := 71) (1) d8_71 rfl (by simp) (by decide) (by decide) (by decide) (⟨by simp [own_v4, *], rfl⟩)
      · refine Own.aload_n H_133 (pc := 28) d8_28 rfl rfl ?_
        refine Own.iload_n H_133 (pc := 29) d8_29 rfl ?_
        refine Own.iconst H_133 (pc := 30) (2) d8_30 rfl ?_
        refine Own.callS H_133 (pc := 31) (y := (⟨"termstone/store/Utf8IsUtf8PinLaw", "c", "([BII)Z"⟩ : MethodName)) [(.ref a), (.int s0), (.int (2 : Int32))] [] d8_31 (hw _ (List.mem_of_getElem? (i := 12) rfl)) (hw _ (List.mem_of_getElem? (i := 13) rfl)) (hw _ (List.mem_of_getElem? (i := 7) rfl)) (hw _ (List.mem_of_getElem? (i := 14) rfl)) (by decide) (rm_c l Z a0 hw a s0 (2 : Int32) _ n0 H_133.z0 bs hl A i hs (by decide) (by show (i : Int) + 2 ≤ 8; omega)) (r := (some .boolean)) (ps := [(.array .byte), .int, .int]) (by decide) rfl rfl 0 rfl (by decide) (by decide) (by decide) (by decide) rfl (fun T_140 v_142 h_141 H_139 z_143 q_144 => ?_)
        obtain ⟨rfl, rfl⟩ := q_144
        show OEnds _ _ _ _ _ _ _ _ _ (mkF _ 34 #[.val (.ref a), .val (.int s0)] [(.int (own_c bs i (2 : Int32)))])
        refine Own.if_eq H_139 (pc := 34) 47 d8_34 (by decide) (by decide) (fun hc34 => ?_) (fun hc34 => ?_)
        · refine Own.aload_n H_139 (pc := 47) d8_47 rfl rfl ?_
          refine Own.iload_n H_139 (pc := 48) d8_48 rfl ?_
          refine Own.iconst H_139 (pc := 49) (1) d8_49 rfl ?_
          refine Own.callS H_139 (pc := 50) (y := (⟨"termstone/store/Utf8IsUtf8PinLaw", "c", "([BII)Z"⟩ : MethodName)) [(.ref a), (.int s0), (.int (1 : Int32))] [] d8_50 (hw _ (List.mem_of_getElem? (i := 12) rfl)) (hw _ (List.mem_of_getElem? (i := 13) rfl)) (hw _ (List.mem_of_getElem? (i := 7) rfl)) (hw _ (List.mem_of_getElem? (i := 14) rfl)) (by decide) (rm_c l Z a0 hw a s0 (1 : Int32) _ n0 H_139.z0 bs hl A i hs (by decide) (by show (i : Int) + 1 ≤ 8; omega)) (r := (some .boolean)) (ps := [(.array .byte), .int, .int]) (by decide) rfl rfl 0 rfl (by decide) (by decide) (by decide) (by decide) rfl (fun T_146 v_148 h_147 H_145 z_149 q_150 => ?_)
          obtain ⟨rfl, rfl⟩ := q_150
          show OEnds _ _ _ _ _ _ _ _ _ (mkF _ 53 #[.val (.ref a), .val (.int s0)] [(.int (own_c bs i (1 : Int32)))])
          refine Own.if_eq H_145 (pc := 53) 70 d8_53 (by decide) (by decide) (fun hc53 => ?_) (fun hc53 => ?_)
          · refine Own.iconst H_145 (pc := 70) (0) d8_70 rfl ?_
            exact Own.ret_nar H_145 (pc := 71) (0) d8_71 rfl (by simp) (by decide) (by decide) (by decide) (⟨by simp [own_v4, *], rfl⟩)
          · refine Own.aload_n H_145 (pc := 56) d8_56 rfl rfl ?_
            refine Own.iload_n H_145 (pc := 57) d8_57 rfl ?_
            refine Own.iconst H_145 (pc := 58) (1) d8_58 rfl ?_
            refine Own.iadd H_145 (pc := 59) d8_59 ?_
            refine Own.callS H_145 (pc := 60) (y := (⟨"termstone/store/Utf8IsUtf8PinLaw", "v3", "([BI)Z"⟩ : MethodName)) [(.ref a), (.int (s0 + (1 : Int32)))] [] d8_60 (hw _ (List.mem_of_getElem? (i := 27) rfl)) (hw _ (List.mem_of_getElem? (i := 28) rfl)) (hw _ (List.mem_of_getElem? (i := 7) rfl)) (hw _ (List.mem_of_getElem? (i := 29) rfl)) (by decide) (rm_v3 l Z a0 hw a (s0 + (1 : Int32)) _ n0 H_145.z0 bs hl A (i + 1) (own_addn hs rfl (by omega)) (by omega)) (r := (some .boolean)) (ps := [(.array .byte), .int]) (by decide) rfl rfl 0 rfl (by decide) (by decide) (by decide) (by decide) rfl (fun T_152 v_154 h_153 H_151 z_155 q_156 => ?_)
            obtain ⟨rfl, rfl⟩ := q_156
            show OEnds _ _ _ _ _ _ _ _ _ (mkF _ 63 #[.val (.ref a), .val (.int s0)] [(.int (own_v3 bs (i + 1)))])
            refine Own.if_eq H_151 (pc := 63) 70 d8_63 (by decide) (by decide) (fun hc63 => ?_) (fun hc63 => ?_)
            · refine Own.iconst H_151 (pc := 70) (0) d8_70 rfl ?_
              exact Own.ret_nar H_151 (pc := 71) (0) d8_71 rfl (by simp) (by decide) (by decide) (by decide) (⟨by simp [own_v4, *], rfl⟩)
            · refine Own.iconst H_151 (pc := 66) (1) d8_66 rfl ?_
              refine Own.goto H_151 (pc := 67) 71 d8_67 (by decide) (by decide) ?_
              exact Own.ret_nar H_151 (pc := 71) (1) d8_71 rfl (by simp) (by decide) (by decide) (by decide) (⟨by simp [own_v4, *], rfl⟩)
        · refine Own.aload_n H_139 (pc := 37) d8_37 rfl rfl ?_
          refine Own.iload_n H_139 (pc := 38) d8_38 rfl ?_
          refine Own.iconst H_139 (pc := 39) (2) d8_39 rfl ?_
          refine Own.iadd H_139 (pc := 40) d8_40 ?_
          refine Own.callS H_139 (pc := 41) (y := (⟨"termstone/store/Utf8IsUtf8PinLaw", "v2", "([BI)Z"⟩ : MethodName)) [(.ref a), (.int (s0 + (2 : Int32)))] [] d8_41 (hw _ (List.mem_of_getElem? (i := 30) rfl)) (hw _ (List.mem_of_getElem? (i := 31) rfl)) (hw _ (List.mem_of_getElem? (i := 7) rfl)) (hw _ (List.mem_of_getElem? (i := 32) rfl)) (by decide) (rm_v2 l Z a0 hw a (s0 + (2 : Int32)) _ n0 H_139.z0 bs hl A (i + 2) (own_addn hs rfl (by omega)) (by omega)) (r := (some .boolean)) (ps := [(.array .byte), .int]) (by decide) rfl rfl 0 rfl (by decide) (by decide) (by decide) (by decide) rfl (fun T_158 v_160 h_159 H_157 z_161 q_162 => ?_)
          obtain ⟨rfl, rfl⟩ := q_162
          show OEnds _ _ _ _ _ _ _ _ _ (mkF _ 44 #[.val (.ref a), .val (.int s0)] [(.int (own_v2 bs (i + 2)))])
          refine Own.if_ne H_157 (pc := 44) 66 d8_44 (by decide) (by decide) (fun hc44 => ?_) (fun hc44 => ?_)
          · refine Own.iconst H_157 (pc := 66) (1) d8_66 rfl ?_
            refine Own.goto H_157 (pc := 67) 71 d8_67 (by decide) (by decide) ?_
            exact Own.ret_nar H_157 (pc := 71) (1) d8_71 rfl (by simp) (by decide) (by decide) (by decide) (⟨by simp [own_v4, *], rfl⟩)
          · refine Own.aload_n H_157 (pc := 47) d8_47 rfl rfl ?_
            refine Own.iload_n H_157 (pc := 48) d8_48 rfl ?_
            refine Own.iconst H_157 (pc := 49) (1) d8_49 rfl ?_
            refine Own.callS H_157 (pc := 50) (y := (⟨"termstone/store/Utf8IsUtf8PinLaw", "c", "([BII)Z"⟩ : MethodName)) [(.ref a), (.int s0), (.int (1 : Int32))] [] d8_50 (hw _ (List.mem_of_getElem? (i := 12) rfl)) (hw _ (List.mem_of_getElem? (i := 13) rfl)) (hw _ (List.mem_of_getElem? (i := 7) rfl)) (hw _ (List.mem_of_getElem? (i := 14) rfl)) (by decide) (rm_c l Z a0 hw a s0 (1 : Int32) _ n0 H_157.z0 bs hl A i hs (by decide) (by show (i : Int) + 1 ≤ 8; omega)) (r := (some .boolean)) (ps := [(.array .byte), .int, .int]) (by decide) rfl rfl 0 rfl (by decide) (by decide) (by decide) (by decide) rfl (fun T_164 v_166 h_165 H_163 z_167 q_168 => ?_)
            obtain ⟨rfl, rfl⟩ := q_168
            show OEnds _ _ _ _ _ _ _ _ _ (mkF _ 53 #[.val (.ref a), .val (.int s0)] [(.int (own_c bs i (1 : Int32)))])
            refine Own.if_eq H_163 (pc := 53) 70 d8_53 (by decide) (by decide) (fun hc53 => ?_) (fun hc53 => ?_)
            · refine Own.iconst H_163 (pc := 70) (0) d8_70 rfl ?_
              exact Own.ret_nar H_163 (pc := 71) (0) d8_71 rfl (by simp) (by decide) (by decide) (by decide) (⟨by simp [own_v4, *], rfl⟩)
            · refine Own.aload_n H_163 (pc := 56) d8_56 rfl rfl ?_
              refine Own.iload_n H_163 (pc := 57) d8_57 rfl ?_
              refine Own.iconst H_163 (pc := 58) (1) d8_58 rfl ?_
              refine Own.iadd H_163 (pc := 59) d8_59 ?_
              refine Own.callS H_163 (pc := 60) (y := (⟨"termstone/store/Utf8IsUtf8PinLaw", "v3", "([BI)Z"⟩ : MethodName)) [(.ref a), (.int (s0 + (1 : Int32)))] [] d8_60 (hw _ (List.mem_of_getElem? (i := 27) rfl)) (hw _ (List.mem_of_getElem? (i := 28) rfl)) (hw _ (List.mem_of_getElem? (i := 7) rfl)) (hw _ (List.mem_of_getElem? (i := 29) rfl)) (by decide) (rm_v3 l Z a0 hw a (s0 + (1 : Int32)) _ n0 H_163.z0 bs hl A (i + 1) (own_addn hs rfl (by omega)) (by omega)) (r := (some .boolean)) (ps := [(.array .byte), .int]) (by decide) rfl rfl 0 rfl (by decide) (by decide) (by decide) (by decide) rfl (fun T_170 v_172 h_171 H_169 z_173 q_174 => ?_)
              obtain ⟨rfl, rfl⟩ := q_174
              show OEnds _ _ _ _ _ _ _ _ _ (mkF _ 63 #[.val (.ref a), .val (.int s0)] [(.int (own_v3 bs (i + 1)))])
              refine Own.if_eq H_169 (pc := 63) 70 d8_63 (by decide) (by decide) (fun hc63 => ?_) (fun hc63 => ?_)
              · refine Own.iconst H_169 (pc := 70) (0) d8_70 rfl ?_
                exact Own.ret_nar H_169 (pc := 71) (0) d8_71 rfl (by simp) (by decide) (by decide) (by decide) (⟨by simp [own_v4, *], rfl⟩)
              · refine Own.iconst H_169 (pc := 66) (1) d8_66 rfl ?_
                refine Own.goto H_169 (pc := 67) 71 d8_67 (by decide) (by decide) ?_
                exact Own.ret_nar H_169 (pc := 71) (1) d8_71 rfl (by simp) (by decide) (by decide) (by decide) (⟨by simp [own_v4, *], rfl⟩)
theorem d7_0 : decode method_10_code 0 = .ok (.aload_n 0, 1) := by decide +kernel
theorem d7_1 : decode method_10_code 1 = .ok (.iload_n 1, 1) := by decide +kernel
theorem d7_2 : decode method_10_code 2 = .ok (.iconst 4, 1) := by decide +kernel
theorem d7_3 : decode method_10_code 3 = .ok (.invokestatic 51, 3) := by decide +kernel
theorem d7_6 : decode method_10_code 6 = .ok (.ifCond .eq 13, 3) := by decide +kernel
theorem d7_9 : decode method_10_code 9 = .ok (.aload_n 0, 1) := by decide +kernel
theorem d7_10 : decode method_10_code 10 = .ok (.iload_n 1, 1) := by decide +kernel
theorem d7_11 : decode method_10_code 11 = .ok (.iconst 4, 1) := by decide +kernel
theorem d7_12 : decode method_10_code 12 = .ok (.iadd, 1) := by decide +kernel
theorem d7_13 : decode method_10_code 13 = .ok (.invokestatic 26, 3) := by decide +kernel
theorem d7_16 : decode method_10_code 16 = .ok (.ifCond .ne 60, 3) := by decide +kernel
theorem d7_19 : decode method_10_code 19 = .ok (.aload_n 0, 1) := by decide +kernel
theorem d7_20 : decode method_10_code 20 = .ok (.iload_n 1, 1) := by decide +kernel
theorem d7_21 : decode method_10_code 21 = .ok (.iconst 3, 1) := by decide +kernel
theorem d7_22 : decode method_10_code 22 = .ok (.invokestatic 51, 3) := by decide +kernel
theorem d7_25 : decode method_10_code 25 = .ok (.ifCond .eq 13, 3) := by decide +kernel
theorem d7_28 : decode method_10_code 28 = .ok (.aload_n 0, 1) := by decide +kernel
theorem d7_29 : decode method_10_code 29 = .ok (.iload_n 1, 1) := by decide +kernel
theorem d7_30 : decode method_10_code 30 = .ok (.iconst 3, 1) := by decide +kernel
theorem d7_31 : decode method_10_code 31 = .ok (.iadd, 1) := by decide +kernel
theorem d7_32 : decode method_10_code 32 = .ok (.invokestatic 30, 3) := by decide +kernel
theorem d7_35 : decode method_10_code 35 = .ok (.ifCond .ne 41, 3) := by decide +kernel
theorem d7_38 : decode method_10_code 38 = .ok (.aload_n 0, 1) := by decide +kernel
theorem d7_39 : decode method_10_code 39 = .ok (.iload_n 1, 1) := by decide +kernel
theorem d7_40 : decode method_10_code 40 = .ok (.iconst 2, 1) := by decide +kernel
theorem d7_41 : decode method_10_code 41 = .ok (.invokestatic 51, 3) := by decide +kernel
theorem d7_44 : decode method_10_code 44 = .ok (.ifCond .eq 13, 3) := by decide +kernel
theorem d7_47 : decode method_10_code 47 = .ok (.aload_n 0, 1) := by decide +kernel
theorem d7_48 : decode method_10_code 48 = .ok (.iload_n 1, 1) := by decide +kernel
theorem d7_49 : decode method_10_code 49 = .ok (.iconst 2, 1) := by decide +kernel
theorem d7_50 : decode method_10_code 50 = .ok (.iadd, 1) := by decide +kernel
theorem d7_51 : decode method_10_code 51 = .ok (.invokestatic 33, 3) := by decide +kernel
theorem d7_54 : decode method_10_code 54 = .ok (.ifCond .ne 22, 3) := by decide +kernel
theorem d7_57 : decode method_10_code 57 = .ok (.aload_n 0, 1) := by decide +kernel
theorem d7_58 : decode method_10_code 58 = .ok (.iload_n 1, 1) := by decide +kernel
theorem d7_59 : decode method_10_code 59 = .ok (.iconst 1, 1) := by decide +kernel
theorem d7_60 : decode method_10_code 60 = .ok (.invokestatic 51, 3) := by decide +kernel
theorem d7_63 : decode method_10_code 63 = .ok (.ifCond .eq 17, 3) := by decide +kernel
theorem d7_66 : decode method_10_code 66 = .ok (.aload_n 0, 1) := by decide +kernel
theorem d7_67 : decode method_10_code 67 = .ok (.iload_n 1, 1) := by decide +kernel
theorem d7_68 : decode method_10_code 68 = .ok (.iconst 1, 1) := by decide +kernel
theorem d7_69 : decode method_10_code 69 = .ok (.iadd, 1) := by decide +kernel
theorem d7_70 : decode method_10_code 70 = .ok (.invokestatic 36, 3) := by decide +kernel
theorem d7_73 : decode method_10_code 73 = .ok (.ifCond .eq 7, 3) := by decide +kernel
theorem d7_76 : decode method_10_code 76 = .ok (.iconst 1, 1) := by decide +kernel
theorem d7_77 : decode method_10_code 77 = .ok (.goto 4, 3) := by decide +kernel
theorem d7_80 : decode method_10_code 80 = .ok (.iconst 0, 1) := by decide +kernel
theorem d7_81 : decode method_10_code 81 = .ok (.ireturn, 1) := by decide +kernel
theorem pn_rm_v5 : plainFor (⟨"termstone/store/Utf8IsUtf8PinLaw", "v5", "([BI)Z"⟩ : MethodName) = true := by first | exact plainFor_of_name (by first | (simp [plainName, overriddenIn]; done) | decide +kernel) | decide +kernel
theorem ef_rm_v5 (a : Nat) (s0 : Int32) (m : MethodId) : entryFrame m #[(.ref a), (.int s0)] 2 = mkF m 0 #[.val (.ref a), .val (.int s0)] [] := by first | (simp [entryFrame, mkF, argsToLocals, Value.category]; done) | rfl
set_option maxRecDepth 65536 in
set_option maxHeartbeats 40000000 in
theorem rm_v5 (l : Launch) (Z : State) (a0 : Array Value) (hw : ∀ d ∈ tables_1, d.before a0 Z = true) (a : Nat) (s0 : Int32) (h0 : Heap) (n0 : Nat) (Z0 : n0 ≤ h0.size) (bs : List Int32) (hl : bs.length = 8) (A : OAry Z h0 a .byte (bs.map Value.int)) (i : Nat) (hs : s0.toInt = (i : Int)) (hin : i + 5 ≤ 8) :
    OMet l Z n0 (⟨"termstone/store/Utf8IsUtf8PinLaw", "v5", "([BI)Z"⟩ : MethodName) method_10_code 2 (some .boolean) ({ frames := 6, cells := 0, slots := 0, locals := 83 } : Room) #[(.ref a), (.int s0)] h0 (fun v h => v = some (.int (own_v5 bs i)) ∧ h = h0) := by
  refine OMet.of pn_rm_v5 Z0 (ef_rm_v5 a s0) ?_
  intro p e s m below meth c T H
  refine Own.aload_n H (pc := 0) d7_0 rfl rfl ?_
  refine Own.iload_n H (pc := 1) d7_1 rfl ?_
  refine Own.iconst H (pc := 2) (4) d7_2 rfl ?_
  refine Own.callS H (pc := 3) (y := (⟨"termstone/store/Utf8IsUtf8PinLaw", "c", "([BII)Z"⟩ : MethodName)) [(.ref a), (.int s0), (.int (4 : Int32))] [] d7_3 (hw _ (List.mem_of_getElem? (i := 12) rfl)) (hw _ (List.mem_of_getElem? (i := 13) rfl)) (hw _ (List.mem_of_getElem? (i := 7) rfl)) (hw _ (List.mem_of_getElem? (i := 14) rfl)) (by decide) (rm_c l Z a0 hw a s0 (4 : Int32) _ n0 H.z0 bs hl A i hs (by decide) (by show (i : Int) + 4 ≤ 8; omega)) (r := (some .boolean)) (ps := [(.array .byte), .int, .int]) (by decide) rfl rfl 0 rfl (by decide) (by decide) (by decide) (by decide) rfl (fun T_176 v_178 h_177 H_175 z_179 q_180 => ?_)
  obtain ⟨rfl, rfl⟩ := q_180
  show OEnds _ _ _ _ _ _ _ _ _ (mkF _ 6 #[.val (.ref a), .val (.int s0)] [(.int (own_c bs i (4 : Int32)))])
  refine Own.if_eq H_175 (pc := 6) 19 d7_6 (by decide) (by decide) (fun hc6 => ?_) (fun hc6 => ?_)
  · refine Own.aload_n H_175 (pc := 19) d7_19 rfl rfl ?_
    refine Own.iload_n H_175 (pc := 20) d7_20 rfl ?_
    refine Own.iconst H_175 (pc := 21) (3) d7_21 rfl ?_
    refine Own.callS H_175 (pc := 22) (y := (⟨"termstone/store/Utf8IsUtf8PinLaw", "c", "([BII)Z"⟩ : MethodName)) [(.ref a), (.int s0), (.int (3 : Int32))] [] d7_22 (hw _ (List.mem_of_getElem? (i := 12) rfl)) (hw _ (List.mem_of_getElem? (i := 13) rfl)) (hw _ (List.mem_of_getElem? (i := 7) rfl)) (hw _ (List.mem_of_getElem? (i := 14) rfl)) (by decide) (rm_c l Z a0 hw a s0 (3 : Int32) _ n0 H_175.z0 bs hl A i hs (by decide) (by show (i : Int) + 3 ≤ 8; omega)) (r := (some .boolean)) (ps := [(.array .byte), .int, .int]) (by decide) rfl rfl 0 rfl (by decide) (by decide) (by decide) (by decide) rfl (fun T_182 v_184 h_183 H_181 z_185 q_186 => ?_)
    obtain ⟨rfl, rfl⟩ := q_186
    show OEnds _ _ _ _ _ _ _ _ _ (mkF _ 25 #[.val (.ref a), .val (.int s0)] [(.int (own_c bs i (3 : Int32)))])
    refine Own.if_eq H_181 (pc := 25) 38 d7_25 (by decide) (by decide) (fun hc25 => ?_) (fun hc25 => ?_)
    · refine Own.aload_n H_181 (pc := 38) d7_38 rfl rfl ?_
      refine Own.iload_n H_181 (pc := 39) d7_39 rfl ?_
      refine Own.iconst H_181 (pc := 40) (2) d7_40 rfl ?_
      refine Own.callS H_181 (pc := 41) (y := (⟨"termstone/store/Utf8IsUtf8PinLaw", "c", "([BII)Z"⟩ : MethodName)) [(.ref a), (.int s0), (.int (2 : Int32))] [] d7_41 (hw _ (List.mem_of_getElem? (i := 12) rfl)) (hw _ (List.mem_of_getElem? (i := 13) rfl)) (hw _ (List.mem_of_getElem? (i := 7) rfl)) (hw _ (List.mem_of_getElem? (i := 14) rfl)) (by decide) (rm_c l Z a0 hw a s0 (2 : Int32) _ n0 H_181.z0 bs hl A i hs (by decide) (by show (i : Int) + 2 ≤ 8; omega)) (r := (some .boolean)) (ps := [(.array .byte), .int, .int]) (by decide) rfl rfl 0 rfl (by decide) (by decide) (by decide) (by decide) rfl (fun T_188 v_190 h_189 H_187 z_191 q_192 => ?_)
      obtain ⟨rfl, rfl⟩ := q_192
      show OEnds _ _ _ _ _ _ _ _ _ (mkF _ 44 #[.val (.ref a), .val (.int s0)] [(.int (own_c bs i (2 : Int32)))])
      refine Own.if_eq H_187 (pc := 44) 57 d7_44 (by decide) (by decide) (fun hc44 => ?_) (fun hc44 => ?_)
      · refine Own.aload_n H_187 (pc := 57) d7_57 rfl rfl ?_
        refine Own.iload_n H_187 (pc := 58) d7_58 rfl ?_
        refine Own.iconst H_187 (pc := 59) (1) d7_59 rfl ?_
        refine Own.callS H_187 (pc := 60) (y := (⟨"termstone/store/Utf8IsUtf8PinLaw", "c", "([BII)Z"⟩ : MethodName)) [(.ref a), (.int s0), (.int (1 : Int32))] [] d7_60 (hw _ (List.mem_of_getElem? (i := 12) rfl)) (hw _ (List.mem_of_getElem? (i := 13) rfl)) (hw _ (List.mem_of_getElem? (i := 7) rfl)) (hw _ (List.mem_of_getElem? (i := 14) rfl)) (by decide) (rm_c l Z a0 hw a s0 (1 : Int32) _ n0 H_187.z0 bs hl A i hs (by decide) (by show (i : Int) + 1 ≤ 8; omega)) (r := (some .boolean)) (ps := [(.array .byte), .int, .int]) (by decide) rfl rfl 0 rfl (by decide) (by decide) (by decide) (by decide) rfl (fun T_194 v_196 h_195 H_193 z_197 q_198 => ?_)
        obtain ⟨rfl, rfl⟩ := q_198
        show OEnds _ _ _ _ _ _ _ _ _ (mkF _ 63 #[.val (.ref a), .val (.int s0)] [(.int (own_c bs i (1 : Int32)))])
        refine Own.if_eq H_193 (pc := 63) 80 d7_63 (by decide) (by decide) (fun hc63 => ?_) (fun hc63 => ?_)
        · refine Own.iconst H_193 (pc := 80) (0) d7_80 rfl ?_
          exact Own.ret_nar H_193 (pc := 81) (0) d7_81 rfl (by simp) (by decide) (by decide) (by decide) (⟨by simp [own_v5, *], rfl⟩)
        · refine Own.aload_n H_193 (pc := 66) d7_66 rfl rfl ?_
          refine Own.iload_n H_193 (pc := 67) d7_67 rfl ?_
          refine Own.iconst H_193 (pc := 68) (1) d7_68 rfl ?_
          refine Own.iadd H_193 (pc := 69) d7_69 ?_
          refine Own.callS H_193 (pc := 70) (y := (⟨"termstone/store/Utf8IsUtf8PinLaw", "v4", "([BI)Z"⟩ : MethodName)) [(.ref a), (.int (s0 + (1 : Int32)))] [] d7_70 (hw _ (List.mem_of_getElem? (i := 24) rfl)) (hw _ (List.mem_of_getElem? (i := 25) rfl)) (hw _ (List.mem_of_getElem? (i := 7) rfl)) (hw _ (List.mem_of_getElem? (i := 26) rfl)) (by decide) (rm_v4 l Z a0 hw a (s0 + (1 : Int32)) _ n0 H_193.z0 bs hl A (i + 1) (own_addn hs rfl (by omega)) (by omega)) (r := (some .boolean)) (ps := [(.array .byte), .int]) (by decide) rfl rfl 0 rfl (by decide) (by decide) (by decide) (by decide) rfl (fun T_200 v_202 h_201 H_199 z_203 q_204 => ?_)
          obtain ⟨rfl, rfl⟩ := q_204
          show OEnds _ _ _ _ _ _ _ _ _ (mkF _ 73 #[.val (.ref a), .val (.int s0)] [(.int (own_v4 bs (i + 1)))])
          refine Own.if_eq H_199 (pc := 73) 80 d7_73 (by decide) (by decide) (fun hc73 => ?_) (fun hc73 => ?_)
          · refine Own.iconst H_199 (pc := 80) (0) d7_80 rfl ?_
            exact Own.ret_nar H_199 (pc := 81) (0) d7_81 rfl (by simp) (by decide) (by decide) (by decide) (⟨by simp [own_v5, *], rfl⟩)
          · refine Own.iconst H_199 (pc := 76) (1) d7_76 rfl ?_
            refine Own.goto H_199 (pc := 77) 81 d7_77 (by decide) (by decide) ?_
            exact Own.ret_nar H_199 (pc := 81) (1) d7_81 rfl (by simp) (by decide) (by decide) (by decide) (⟨by simp [own_v5, *], rfl⟩)
      · refine Own.aload_n H_187 (pc := 47) d7_47 rfl rfl ?_
        refine Own.iload_n H_187 (pc := 48) d7_48 rfl ?_
        refine Own.iconst H_187 (pc := 49) (2) d7_49 rfl ?_
        refine Own.iadd H_187 (pc := 50) d7_50 ?_
        refine Own.callS H_187 (pc := 51) (y := (⟨"termstone/store/Utf8IsUtf8PinLaw", "v3", "([BI)Z"⟩ : MethodName)) [(.ref a), (.int (s0 + (2 : Int32)))] [] d7_51 (hw _ (List.mem_of_getElem? (i := 27) rfl)) (hw _ (List.mem_of_getElem? (i := 28) rfl)) (hw _ (List.mem_of_getElem? (i := 7) rfl)) (hw _ (List.mem_of_getElem? (i := 29) rfl)) (by decide) (rm_v3 l Z a0 hw a (s0 + (2 : Int32)) _ n0 H_187.z0 bs hl A (i + 2) (own_addn hs rfl (by omega)) (by omega)) (r := (some .boolean)) (ps := [(.array .byte), .int]) (by decide) rfl rfl 0 rfl (by decide) (by decide) (by decide) (by decide) rfl (fun T_206 v_208 h_207 H_205 z_209 q_210 => ?_)
        obtain ⟨rfl, rfl⟩ := q_210
        show OEnds _ _ _ _ _ _ _ _ _ (mkF _ 54 #[.val (.ref a), .val (.int s0)] [(.int (own_v3 bs (i + 2)))])
        refine Own.if_ne H_205 (pc := 54) 76 d7_54 (by decide) (by decide) (fun hc54 => ?_) (fun hc54 => ?_)
        · refine Own.iconst H_205 (pc := 76) (1) d7_76 rfl ?_
          refine Own.goto H_205 (pc := 77) 81 d7_77 (by decide) (by decide) ?_
          exact Own.ret_nar H_205 (pc := 81) (1) d7_81 rfl (by simp) (by decide) (by decide) (by decide) (⟨by simp [own_v5, *], rfl⟩)
        · refine Own.aload_n H_205 (pc := 57) d7_57 rfl rfl ?_
          refine Own.iload_n H_205 (pc := 58) d7_58 rfl ?_
          refine Own.iconst H_205 (pc := 59) (1) d7_59 rfl ?_
          refine Own.callS H_205 (pc := 60) (y := (⟨"termstone/store/Utf8IsUtf8PinLaw", "c", "([BII)Z"⟩ : MethodName)) [(.ref a), (.int s0), (.int (1 : Int32))] [] d7_60 (hw _ (List.mem_of_getElem? (i := 12) rfl)) (hw _ (List.mem_of_getElem? (i := 13) rfl)) (hw _ (List.mem_of_getElem? (i := 7) rfl)) (hw _ (List.mem_of_getElem? (i := 14) rfl)) (by decide) (rm_c l Z a0 hw a s0 (1 : Int32) _ n0 H_205.z0 bs hl A i hs (by decide) (by show (i : Int) + 1 ≤ 8; omega)) (r := (some .boolean)) (ps := [(.array .byte), .int, .int]) (by decide) rfl rfl 0 rfl (by decide) (by decide) (by decide) (by decide) rfl (fun T_212 v_214 h_213 H_211 z_215 q_216 => ?_)
          obtain ⟨rfl, rfl⟩ := q_216
          show OEnds _ _ _ _ _ _ _ _ _ (mkF _ 63 #[.val (.ref a), .val (.int s0)] [(.int (own_c bs i (1 : Int32)))])
          refine Own.if_eq H_211 (pc := 63) 80 d7_63 (by decide) (by decide) (fun hc63 => ?_) (fun hc63 => ?_)
          · refine Own.iconst H_211 (pc := 80) (0) d7_80 rfl ?_
            exact Own.ret_nar H_211 (pc := 81) (0) d7_81 rfl (by simp) (by decide) (by decide) (by decide) (⟨by simp [own_v5, *], rfl⟩)
          · refine Own.aload_n H_211 (pc := 66) d7_66 rfl rfl ?_
            refine Own.iload_n H_211 (pc := 67) d7_67 rfl ?_
            refine Own.iconst H_211 (pc := 68) (1) d7_68 rfl ?_
            refine Own.iadd H_211 (pc := 69) d7_69 ?_
            refine Own.callS H_211 (pc := 70) (y := (⟨"termstone/store/Utf8IsUtf8PinLaw", "v4", "([BI)Z"⟩ : MethodName)) [(.ref a), (.int (s0 + (1 : Int32)))] [] d7_70 (hw _ (List.mem_of_getElem? (i := 24) rfl)) (hw _ (List.mem_of_getElem? (i := 25) rfl)) (hw _ (List.mem_of_getElem? (i := 7) rfl)) (hw _ (List.mem_of_getElem? (i := 26) rfl)) (by decide) (rm_v4 l Z a0 hw a (s0 + (1 : Int32)) _ n0 H_211.z0 bs hl A (i + 1) (own_addn hs rfl (by omega)) (by omega)) (r := (some .boolean)) (ps := [(.array .byte), .int]) (by decide) rfl rfl 0 rfl (by decide) (by decide) (by decide) (by decide) rfl (fun T_218 v_220 h_219 H_217 z_221 q_222 => ?_)
            obtain ⟨rfl, rfl⟩ := q_222
            show OEnds _ _ _ _ _ _ _ _ _ (mkF _ 73 #[.val (.ref a), .val (.int s0)] [(.int (own_v4 bs (i + 1)))])
            refine Own.if_eq H_217 (pc := 73) 80 d7_73 (by decide) (by decide) (fun hc73 => ?_) (fun hc73 => ?_)
            · refine Own.iconst H_217 (pc := 80) (0) d7_80 rfl ?_
              exact Own.ret_nar H_217 (pc := 81) (0) d7_81 rfl (by simp) (by decide) (by decide) (by decide) (⟨by simp [own_v5, *], rfl⟩)
            · refine Own.iconst H_217 (pc := 76) (1) d7_76 rfl ?_
              refine Own.goto H_217 (pc := 77) 81 d7_77 (by decide) (by decide) ?_
              exact Own.ret_nar H_217 (pc := 81) (1) d7_81 rfl (by simp) (by decide) (by decide) (by decide) (⟨by simp [own_v5, *], rfl⟩)
    · refine Own.aload_n H_181 (pc := 28) d7_28 rfl rfl ?_
      refine Own.iload_n H_181 (pc := 29) d7_29 rfl ?_
      refine Own.iconst H_181 (pc := 30) (3) d7_30 rfl ?_
      refine Own.iadd H_181 (pc := 31) d7_31 ?_
      refine Own.callS H_181 (pc := 32) (y := (⟨"termstone/store/Utf8IsUtf8PinLaw", "v2", "([BI)Z"⟩ : MethodName)) [(.ref a), (.int (s0 + (3 : Int32)))] [] d7_32 (hw _ (List.mem_of_getElem? (i := 30) rfl)) (hw _ (List.mem_of_getElem? (i := 31) rfl)) (hw _ (List.mem_of_getElem? (i := 7) rfl)) (hw _ (List.mem_of_getElem? (i := 32) rfl)) (by decide) (rm_v2 l Z a0 hw a (s0 + (3 : Int32)) _ n0 H_181.z0 bs hl A (i + 3) (own_addn hs rfl (by omega)) (by omega)) (r := (some .boolean)) (ps := [(.array .byte), .int]) (by decide) rfl rfl 0 rfl (by decide) (by decide) (by decide) (by decide) rfl (fun T_224 v_226 h_225 H_223 z_227 q_228 => ?_)
      obtain ⟨rfl, rfl⟩ := q_228
      show OEnds _ _ _ _ _ _ _ _ _ (mkF _ 35 #[.val (.ref a), .val (.int s0)] [(.int (own_v2 bs (i + 3)))])
      refine Own.if_ne H_223 (pc := 35) 76 d7_35 (by decide) (by decide) (fun hc35 => ?_) (fun hc35 => ?_)
      · refine Own.iconst H_223 (pc := 76) (1) d7_76 rfl ?_
        refine Own.goto H_223 (pc := 77) 81 d7_77 (by decide) (by decide) ?_
        exact Own.ret_nar H_223 (pc := 81) (1) d7_81 rfl (by simp) (by decide) (by decide) (by decide) (⟨by simp [own_v5, *], rfl⟩)
      · refine Own.aload_n H_223 (pc := 38) d7_38 rfl rfl ?_
        refine Own.iload_n H_223 (pc := 39) d7_39 rfl ?_
        refine Own.iconst H_223 (pc := 40) (2) d7_40 rfl ?_
        refine Own.callS H_223 (pc := 41) (y := (⟨"termstone/store/Utf8IsUtf8PinLaw", "c", "([BII)Z"⟩ : MethodName)) [(.ref a), (.int s0), (.int (2 : Int32))] [] d7_41 (hw _ (List.mem_of_getElem? (i := 12) rfl)) (hw _ (List.mem_of_getElem? (i := 13) rfl)) (hw _ (List.mem_of_getElem? (i := 7) rfl)) (hw _ (List.mem_of_getElem? (i := 14) rfl)) (by decide) (rm_c l Z a0 hw a s0 (2 : Int32) _ n0 H_223.z0 bs hl A i hs (by decide) (by show (i : Int) + 2 ≤ 8; omega)) (r := (some .boolean)) (ps := [(.array .byte), .int, .int]) (by decide) rfl rfl 0 rfl (by decide) (by decide) (by decide) (by decide) rfl (fun T_230 v_232 h_231 H_229 z_233 q_234 => ?_)
        obtain ⟨rfl, rfl⟩ := q_234
        show OEnds _ _ _ _ _ _ _ _ _ (mkF _ 44 #[.val (.ref a), .val (.int s0)] [(.int (own_c bs i (2 : Int32)))])
        refine Own.if_eq H_229 (pc := 44) 57 d7_44 (by decide) (by decide) (fun hc44 => ?_) (fun hc44 => ?_)
        · refine Own.aload_n H_229 (pc := 57) d7_57 rfl rfl ?_
          refine Own.iload_n H_229 (pc := 58) d7_58 rfl ?_
          refine Own.iconst H_229 (pc := 59) (1) d7_59 rfl ?_
          refine Own.callS H_229 (pc := 60) (y := (⟨"termstone/store/Utf8IsUtf8PinLaw", "c", "([BII)Z"⟩ : MethodName)) [(.ref a), (.int s0), (.int (1 : Int32))] [] d7_60 (hw _ (List.mem_of_getElem? (i := 12) rfl)) (hw _ (List.mem_of_getElem? (i := 13) rfl)) (hw _ (List.mem_of_getElem? (i := 7) rfl)) (hw _ (List.mem_of_getElem? (i := 14) rfl)) (by decide) (rm_c l Z a0 hw a s0 (1 : Int32) _ n0 H_229.z0 bs hl A i hs (by decide) (by show (i : Int) + 1 ≤ 8; omega)) (r := (some .boolean)) (ps := [(.array .byte), .int, .int]) (by decide) rfl rfl 0 rfl (by decide) (by decide) (by decide) (by decide) rfl (fun T_236 v_238 h_237 H_235 z_239 q_240 => ?_)
          obtain ⟨rfl, rfl⟩ := q_240
          show OEnds _ _ _ _ _ _ _ _ _ (mkF _ 63 #[.val (.ref a), .val (.int s0)] [(.int (own_c bs i (1 : Int32)))])
          refine Own.if_eq H_235 (pc := 63) 80 d7_63 (by decide) (by decide) (fun hc63 => ?_) (fun hc63 => ?_)
          · refine Own.iconst H_235 (pc := 80) (0) d7_80 rfl ?_
            exact Own.ret_nar H_235 (pc := 81) (0) d7_81 rfl (by simp) (by decide) (by decide) (by decide) (⟨by simp [own_v5, *], rfl⟩)
          · refine Own.aload_n H_235 (pc := 66) d7_66 rfl rfl ?_
            refine Own.iload_n H_235 (pc := 67) d7_67 rfl ?_
            refine Own.iconst H_235 (pc := 68) (1) d7_68 rfl ?_
            refine Own.iadd H_235 (pc := 69) d7_69 ?_
            refine Own.callS H_235 (pc := 70) (y := (⟨"termstone/store/Utf8IsUtf8PinLaw", "v4", "([BI)Z"⟩ : MethodName)) [(.ref a), (.int (s0 + (1 : Int32)))] [] d7_70 (hw _ (List.mem_of_getElem? (i := 24) rfl)) (hw _ (List.mem_of_getElem? (i := 25) rfl)) (hw _ (List.mem_of_getElem? (i := 7) rfl)) (hw _ (List.mem_of_getElem? (i := 26) rfl)) (by decide) (rm_v4 l Z a0 hw a (s0 + (1 : Int32)) _ n0 H_235.z0 bs hl A (i + 1) (own_addn hs rfl (by omega)) (by omega)) (r := (some .boolean)) (ps := [(.array .byte), .int]) (by decide) rfl rfl 0 rfl (by decide) (by decide) (by decide) (by decide) rfl (fun T_242 v_244 h_243 H_241 z_245 q_246 => ?_)
            obtain ⟨rfl, rfl⟩ := q_246
            show OEnds _ _ _ _ _ _ _ _ _ (mkF _ 73 #[.val (.ref a), .val (.int s0)] [(.int (own_v4 bs (i + 1)))])
            refine Own.if_eq H_241 (pc := 73) 80 d7_73 (by decide) (by decide) (fun hc73 => ?_) (fun hc73 => ?_)
            · refine Own.iconst H_241 (pc := 80) (0) d7_80 rfl ?_
              exact Own.ret_nar H_241 (pc := 81) (0) d7_81 rfl (by simp) (by decide) (by decide) (by decide) (⟨by simp [own_v5, *], rfl⟩)
            · refine Own.iconst H_241 (pc := 76) (1) d7_76 rfl ?_
              refine Own.goto H_241 (pc := 77) 81 d7_77 (by decide) (by decide) ?_
              exact Own.ret_nar H_241 (pc := 81) (1) d7_81 rfl (by simp) (by decide) (by decide) (by decide) (⟨by simp [own_v5, *], rfl⟩)
        · refine Own.aload_n H_229 (pc := 47) d7_47 rfl rfl ?_
          refine Own.iload_n H_229 (pc := 48) d7_48 rfl ?_
          refine Own.iconst H_229 (pc := 49) (2) d7_49 rfl ?_
          refine Own.iadd H_229 (pc := 50) d7_50 ?_
          refine Own.callS H_229 (pc := 51) (y := (⟨"termstone/store/Utf8IsUtf8PinLaw", "v3", "([BI)Z"⟩ : MethodName)) [(.ref a), (.int (s0 + (2 : Int32)))] [] d7_51 (hw _ (List.mem_of_getElem? (i := 27) rfl)) (hw _ (List.mem_of_getElem? (i := 28) rfl)) (hw _ (List.mem_of_getElem? (i := 7) rfl)) (hw _ (List.mem_of_getElem? (i := 29) rfl)) (by decide) (rm_v3 l Z a0 hw a (s0 + (2 : Int32)) _ n0 H_229.z0 bs hl A (i + 2) (own_addn hs rfl (by omega)) (by omega)) (r := (some .boolean)) (ps := [(.array .byte), .int]) (by decide) rfl rfl 0 rfl (by decide) (by decide) (by decide) (by decide) rfl (fun T_248 v_250 h_249 H_247 z_251 q_252 => ?_)
          obtain ⟨rfl, rfl⟩ := q_252
          show OEnds _ _ _ _ _ _ _ _ _ (mkF _ 54 #[.val (.ref a), .val (.int s0)] [(.int (own_v3 bs (i + 2)))])
          refine Own.if_ne H_247 (pc := 54) 76 d7_54 (by decide) (by decide) (fun hc54 => ?_) (fun hc54 => ?_)
          · refine Own.iconst H_247 (pc := 76) (1) d7_76 rfl ?_
            refine Own.goto H_247 (pc := 77) 81 d7_77 (by decide) (by decide) ?_
            exact Own.ret_nar H_247 (pc := 81) (1) d7_81 rfl (by simp) (by decide) (by decide) (by decide) (⟨by simp [own_v5, *], rfl⟩)
          · refine Own.aload_n H_247 (pc := 57) d7_57 rfl rfl ?_
            refine Own.iload_n H_247 (pc := 58) d7_58 rfl ?_
            refine Own.iconst H_247 (pc := 59) (1) d7_59 rfl ?_
            refine Own.callS H_247 (pc := 60) (y := (⟨"termstone/store/Utf8IsUtf8PinLaw", "c", "([BII)Z"⟩ : MethodName)) [(.ref a), (.int s0), (.int (1 : Int32))] [] d7_60 (hw _ (List.mem_of_getElem? (i := 12) rfl)) (hw _ (List.mem_of_getElem? (i := 13) rfl)) (hw _ (List.mem_of_getElem? (i := 7) rfl)) (hw _ (List.mem_of_getElem? (i := 14) rfl)) (by decide) (rm_c l Z a0 hw a s0 (1 : Int32) _ n0 H_247.z0 bs hl A i hs (by decide) (by show (i : Int) + 1 ≤ 8; omega)) (r := (some .boolean)) (ps := [(.array .byte), .int, .int]) (by decide) rfl rfl 0 rfl (by decide) (by decide) (by decide) (by decide) rfl (fun T_254 v_256 h_255 H_253 z_257 q_258 => ?_)
            obtain ⟨rfl, rfl⟩ := q_258
            show OEnds _ _ _ _ _ _ _ _ _ (mkF _ 63 #[.val (.ref a), .val (.int s0)] [(.int (own_c bs i (1 : Int32)))])
            refine Own.if_eq H_253 (pc := 63) 80 d7_63 (by decide) (by decide) (fun hc63 => ?_) (fun hc63 => ?_)
            · refine Own.iconst H_253 (pc := 80) (0) d7_80 rfl ?_
              exact Own.ret_nar H_253 (pc := 81) (0) d7_81 rfl (by simp) (by decide) (by decide) (by decide) (⟨by simp [own_v5, *], rfl⟩)
            · refine Own.aload_n H_253 (pc := 66) d7_66 rfl rfl ?_
              refine Own.iload_n H_253 (pc := 67) d7_67 rfl ?_
              refine Own.iconst H_253 (pc := 68) (1) d7_68 rfl ?_
              refine Own.iadd H_253 (pc := 69) d7_69 ?_
              refine Own.callS H_253 (pc := 70) (y := (⟨"termstone/store/Utf8IsUtf8PinLaw", "v4", "([BI)Z"⟩ : MethodName)) [(.ref a), (.int (s0 + (1 : Int32)))] [] d7_70 (hw _ (List.mem_of_getElem? (i := 24) rfl)) (hw _ (List.mem_of_getElem? (i := 25) rfl)) (hw _ (List.mem_of_getElem? (i := 7) rfl)) (hw _ (List.mem_of_getElem? (i := 26) rfl)) (by decide) (rm_v4 l Z a0 hw a (s0 + (1 : Int32)) _ n0 H_253.z0 bs hl A (i + 1) (own_addn hs rfl (by omega)) (by omega)) (r := (some .boolean)) (ps := [(.array .byte), .int]) (by decide) rfl rfl 0 rfl (by decide) (by decide) (by decide) (by decide) rfl (fun T_260 v_262 h_261 H_259 z_263 q_264 => ?_)
              obtain ⟨rfl, rfl⟩ := q_264
              show OEnds _ _ _ _ _ _ _ _ _ (mkF _ 73 #[.val (.ref a), .val (.int s0)] [(.int (own_v4 bs (i + 1)))])
              refine Own.if_eq H_259 (pc := 73) 80 d7_73 (by decide) (by decide) (fun hc73 => ?_) (fun hc73 => ?_)
              · refine Own.iconst H_259 (pc := 80) (0) d7_80 rfl ?_
                exact Own.ret_nar H_259 (pc := 81) (0) d7_81 rfl (by simp) (by decide) (by decide) (by decide) (⟨by simp [own_v5, *], rfl⟩)
              · refine Own.iconst H_259 (pc := 76) (1) d7_76 rfl ?_
                refine Own.goto H_259 (pc := 77) 81 d7_77 (by decide) (by decide) ?_
                exact Own.ret_nar H_259 (pc := 81) (1) d7_81 rfl (by simp) (by decide) (by decide) (by decide) (⟨by simp [own_v5, *], rfl⟩)
  · refine Own.aload_n H_175 (pc := 9) d7_9 rfl rfl ?_
    refine Own.iload_n H_175 (pc := 10) d7_10 rfl ?_
    refine Own.iconst H_175 (pc := 11) (4) d7_11 rfl ?_
    refine Own.iadd H_175 (pc := 12) d7_12 ?_
    refine Own.callS H_175 (pc := 13) (y := (⟨"termstone/store/Utf8IsUtf8PinLaw", "v1", "([BI)Z"⟩ : MethodName)) [(.ref a), (.int (s0 + (4 : Int32)))] [] d7_13 (hw _ (List.mem_of_getElem? (i := 9) rfl)) (hw _ (List.mem_of_getElem? (i := 10) rfl)) (hw _ (List.mem_of_getElem? (i := 7) rfl)) (hw _ (List.mem_of_getElem? (i := 11) rfl)) (by decide) (rm_v1 l Z a0 hw a (s0 + (4 : Int32)) _ n0 H_175.z0 bs hl A (i + 4) (own_addn hs rfl (by omega)) (by omega)) (r := (some .boolean)) (ps := [(.array .byte), .int]) (by decide) rfl rfl 0 rfl (by decide) (by decide) (by decide) (by decide) rfl (fun T_266 v_268 h_267 H_265 z_269 q_270 => ?_)
    obtain ⟨rfl, rfl⟩ := q_270
    show OEnds _ _ _ _ _ _ _ _ _ (mkF _ 16 #[.val (.ref a), .val (.int s0)] [(.int (own_v1 bs (i + 4)))])
    refine Own.if_ne H_265 (pc := 16) 76 d7_16 (by decide) (by decide) (fun hc16 => ?_) (fun hc16 => ?_)
    · refine Own.iconst H_265 (pc := 76) (1) d7_76 rfl ?_
      refine Own.goto H_265 (pc := 77) 81 d7_77 (by decide) (by decide) ?_
      exact Own.ret_nar H_265 (pc := 81) (1) d7_81 rfl (by simp) (by decide) (by decide) (by decide) (⟨by simp [own_v5, *], rfl⟩)
    · refine Own.aload_n H_265 (pc := 19) d7_19 rfl rfl ?_
      refine Own.iload_n H_265 (pc := 20) d7_20 rfl ?_
      refine Own.iconst H_265 (pc := 21) (3) d7_21 rfl ?_
      refine Own.callS H_265 (pc := 22) (y := (⟨"termstone/store/Utf8IsUtf8PinLaw", "c", "([BII)Z"⟩ : MethodName)) [(.ref a), (.int s0), (.int (3 : Int32))] [] d7_22 (hw _ (List.mem_of_getElem? (i := 12) rfl)) (hw _ (List.mem_of_getElem? (i := 13) rfl)) (hw _ (List.mem_of_getElem? (i := 7) rfl)) (hw _ (List.mem_of_getElem? (i := 14) rfl)) (by decide) (rm_c l Z a0 hw a s0 (3 : Int32) _ n0 H_265.z0 bs hl A i hs (by decide) (by show (i : Int) + 3 ≤ 8; omega)) (r := (some .boolean)) (ps := [(.array .byte), .int, .int]) (by decide) rfl rfl 0 rfl (by decide) (by decide) (by decide) (by decide) rfl (fun T_272 v_274 h_273 H_271 z_275 q_276 => ?_)
      obtain ⟨rfl, rfl⟩ := q_276
      show OEnds _ _ _ _ _ _ _ _ _ (mkF _ 25 #[.val (.ref a), .val (.int s0)] [(.int (own_c bs i (3 : Int32)))])
      refine Own.if_eq H_271 (pc := 25) 38 d7_25 (by decide) (by decide) (fun hc25 => ?_) (fun hc25 => ?_)
      · refine Own.aload_n H_271 (pc := 38) d7_38 rfl rfl ?_
        refine Own.iload_n H_271 (pc := 39) d7_39 rfl ?_
        refine Own.iconst H_271 (pc := 40) (2) d7_40 rfl ?_
        refine Own.callS H_271 (pc := 41) (y := (⟨"termstone/store/Utf8IsUtf8PinLaw", "c", "([BII)Z"⟩ : MethodName)) [(.ref a), (.int s0), (.int (2 : Int32))] [] d7_41 (hw _ (List.mem_of_getElem? (i := 12) rfl)) (hw _ (List.mem_of_getElem? (i := 13) rfl)) (hw _ (List.mem_of_getElem? (i := 7) rfl)) (hw _ (List.mem_of_getElem? (i := 14) rfl)) (by decide) (rm_c l Z a0 hw a s0 (2 : Int32) _ n0 H_271.z0 bs hl A i hs (by decide) (by show (i : Int) + 2 ≤ 8; omega)) (r := (some .boolean)) (ps := [(.array .byte), .int, .int]) (by decide) rfl rfl 0 rfl (by decide) (by decide) (by decide) (by decide) rfl (fun T_278 v_280 h_279 H_277 z_281 q_282 => ?_)
        obtain ⟨rfl, rfl⟩ := q_282
        show OEnds _ _ _ _ _ _ _ _ _ (mkF _ 44 #[.val (.ref a), .val (.int s0)] [(.int (own_c bs i (2 : Int32)))])
        refine Own.if_eq H_277 (pc := 44) 57 d7_44 (by decide) (by decide) (fun hc44 => ?_) (fun hc44 => ?_)
        · refine Own.aload_n H_277 (pc := 57) d7_57 rfl rfl ?_
          refine Own.iload_n H_277 (pc := 58) d7_58 rfl ?_
          refine Own.iconst H_277 (pc := 59) (1) d7_59 rfl ?_
          refine Own.callS H_277 (pc := 60) (y := (⟨"termstone/store/Utf8IsUtf8PinLaw", "c", "([BII)Z"⟩ : MethodName)) [(.ref a), (.int s0), (.int (1 : Int32))] [] d7_60 (hw _ (List.mem_of_getElem? (i := 12) rfl)) (hw _ (List.mem_of_getElem? (i := 13) rfl)) (hw _ (List.mem_of_getElem? (i := 7) rfl)) (hw _ (List.mem_of_getElem? (i := 14) rfl)) (by decide) (rm_c l Z a0 hw a s0 (1 : Int32) _ n0 H_277.z0 bs hl A i hs (by decide) (by show (i : Int) + 1 ≤ 8; omega)) (r := (some .boolean)) (ps := [(.array .byte), .int, .int]) (by decide) rfl rfl 0 rfl (by decide) (by decide) (by decide) (by decide) rfl (fun T_284 v_286 h_285 H_283 z_287 q_288 => ?_)
          obtain ⟨rfl, rfl⟩ := q_288
          show OEnds _ _ _ _ _ _ _ _ _ (mkF _ 63 #[.val (.ref a), .val (.int s0)] [(.int (own_c bs i (1 : Int32)))])
          refine Own.if_eq H_283 (pc := 63) 80 d7_63 (by decide) (by decide) (fun hc63 => ?_) (fun hc63 => ?_)
          · refine Own.iconst H_283 (pc := 80) (0) d7_80 rfl ?_
            exact Own.ret_nar H_283 (pc := 81) (0) d7_81 rfl (by simp) (by decide) (by decide) (by decide) (⟨by simp [own_v5, *], rfl⟩)
          · refine Own.aload_n H_283 (pc := 66) d7_66 rfl rfl ?_
            refine Own.iload_n H_283 (pc := 67) d7_67 rfl ?_
            refine Own.iconst H_283 (pc := 68) (1) d7_68 rfl ?_
            refine Own.iadd H_283 (pc := 69) d7_69 ?_
            refine Own.callS H_283 (pc := 70) (y := (⟨"termstone/store/Utf8IsUtf8PinLaw", "v4", "([BI)Z"⟩ : MethodName)) [(.ref a), (.int (s0 + (1 : Int32)))] [] d7_70 (hw _ (List.mem_of_getElem? (i := 24) rfl)) (hw _ (List.mem_of_getElem? (i := 25) rfl)) (hw _ (List.mem_of_getElem? (i := 7) rfl)) (hw _ (List.mem_of_getElem? (i := 26) rfl)) (by decide) (rm_v4 l Z a0 hw a (s0 + (1 : Int32)) _ n0 H_283.z0 bs hl A (i + 1) (own_addn hs rfl (by omega)) (by omega)) (r := (some .boolean)) (ps := [(.array .byte), .int]) (by decide) rfl rfl 0 rfl (by decide) (by decide) (by decide) (by decide) rfl (fun T_290 v_292 h_291 H_289 z_293 q_294 => ?_)
            obtain ⟨rfl, rfl⟩ := q_294
            show OEnds _ _ _ _ _ _ _ _ _ (mkF _ 73 #[.val (.ref a), .val (.int s0)] [(.int (own_v4 bs (i + 1)))])
            refine Own.if_eq H_289 (pc := 73) 80 d7_73 (by decide) (by decide) (fun hc73 => ?_) (fun hc73 => ?_)
            · refine Own.iconst H_289 (pc := 80) (0) d7_80 rfl ?_
              exact Own.ret_nar H_289 (pc := 81) (0) d7_81 rfl (by simp) (by decide) (by decide) (by decide) (⟨by simp [own_v5, *], rfl⟩)
            · refine Own.iconst H_289 (pc := 76) (1) d7_76 rfl ?_
              refine Own.goto H_289 (pc := 77) 81 d7_77 (by decide) (by decide) ?_
              exact Own.ret_nar H_289 (pc := 81) (1) d7_81 rfl (by simp) (by decide) (by decide) (by decide) (⟨by simp [own_v5, *], rfl⟩)
        · refine Own.aload_n H_277 (pc := 47) d7_47 rfl rfl ?_
          refine Own.iload_n H_277 (pc := 48) d7_48 rfl ?_
          refine Own.iconst H_277 (pc := 49) (2) d7_49 rfl ?_
          refine Own.iadd H_277 (pc := 50) d7_50 ?_
          refine Own.callS H_277 (pc := 51) (y := (⟨"termstone/store/Utf8IsUtf8PinLaw", "v3", "([BI)Z"⟩ : MethodName)) [(.ref a), (.int (s0 + (2 : Int32)))] [] d7_51 (hw _ (List.mem_of_getElem? (i := 27) rfl)) (hw _ (List.mem_of_getElem? (i := 28) rfl)) (hw _ (List.mem_of_getElem? (i := 7) rfl)) (hw _ (List.mem_of_getElem? (i := 29) rfl)) (by decide) (rm_v3 l Z a0 hw a (s0 + (2 : Int32)) _ n0 H_277.z0 bs hl A (i + 2) (own_addn hs rfl (by omega)) (by omega)) (r := (some .boolean)) (ps := [(.array .byte), .int]) (by decide) rfl rfl 0 rfl (by decide) (by decide) (by decide) (by decide) rfl (fun T_296 v_298 h_297 H_295 z_299 q_300 => ?_)
          obtain ⟨rfl, rfl⟩ := q_300
          show OEnds _ _ _ _ _ _ _ _ _ (mkF _ 54 #[.val (.ref a), .val (.int s0)] [(.int (own_v3 bs (i + 2)))])
          refine Own.if_ne H_295 (pc := 54) 76 d7_54 (by decide) (by decide) (fun hc54 => ?_) (fun hc54 => ?_)
          · refine Own.iconst H_295 (pc := 76) (1) d7_76 rfl ?_
            refine Own.goto H_295 (pc := 77) 81 d7_77 (by decide) (by decide) ?_
            exact Own.ret_nar H_295 (pc := 81) (1) d7_81 rfl (by simp) (by decide) (by decide) (by decide) (⟨by simp [own_v5, *], rfl⟩)
          · refine Own.aload_n H_295 (pc := 57) d7_57 rfl rfl ?_
            refine Own.iload_n H_295 (pc := 58) d7_58 rfl ?_
            refine Own.iconst H_295 (pc := 59) (1) d7_59 rfl ?_
            refine Own.callS H_295 (pc := 60) (y := (⟨"termstone/store/Utf8IsUtf8PinLaw", "c", "([BII)Z"⟩ : MethodName)) [(.ref a), (.int s0), (.int (1 : Int32))] [] d7_60 (hw _ (List.mem_of_getElem? (i := 12) rfl)) (hw _ (List.mem_of_getElem? (i := 13) rfl)) (hw _ (List.mem_of_getElem? (i := 7) rfl)) (hw _ (List.mem_of_getElem? (i := 14) rfl)) (by decide) (rm_c l Z a0 hw a s0 (1 : Int32) _ n0 H_295.z0 bs hl A i hs (by decide) (by show (i : Int) + 1 ≤ 8; omega)) (r := (some .boolean)) (ps := [(.array .byte), .int, .int]) (by decide) rfl rfl 0 rfl (by decide) (by decide) (by decide) (by decide) rfl (fun T_302 v_304 h_303 H_301 z_305 q_306 => ?_)
            obtain ⟨rfl, rfl⟩ := q_306
            show OEnds _ _ _ _ _ _ _ _ _ (mkF _ 63 #[.val (.ref a), .val (.int s0)] [(.int (own_c bs i (1 : Int32)))])
            refine Own.if_eq H_301 (pc := 63) 80 d7_63 (by decide) (by decide) (fun hc63 => ?_) (fun hc63 => ?_)
            · refine Own.iconst H_301 (pc := 80) (0) d7_80 rfl ?_
              exact Own.ret_nar H_301 (pc := 81) (0) d7_81 rfl (by simp) (by decide) (by decide) (by decide) (⟨by simp [own_v5, *], rfl⟩)
            · refine Own.aload_n H_301 (pc := 66) d7_66 rfl rfl ?_
              refine Own.iload_n H_301 (pc := 67) d7_67 rfl ?_
              refine Own.iconst H_301 (pc := 68) (1) d7_68 rfl ?_
              refine Own.iadd H_301 (pc := 69) d7_69 ?_
              refine Own.callS H_301 (pc := 70) (y := (⟨"termstone/store/Utf8IsUtf8PinLaw", "v4", "([BI)Z"⟩ : MethodName)) [(.ref a), (.int (s0 + (1 : Int32)))] [] d7_70 (hw _ (List.mem_of_getElem? (i := 24) rfl)) (hw _ (List.mem_of_getElem? (i := 25) rfl)) (hw _ (List.mem_of_getElem? (i := 7) rfl)) (hw _ (List.mem_of_getElem? (i := 26) rfl)) (by decide) (rm_v4 l Z a0 hw a (s0 + (1 : Int32)) _ n0 H_301.z0 bs hl A (i + 1) (own_addn hs rfl (by omega)) (by omega)) (r := (some .boolean)) (ps := [(.array .byte), .int]) (by decide) rfl rfl 0 rfl (by decide) (by decide) (by decide) (by decide) rfl (fun T_308 v_310 h_309 H_307 z_311 q_312 => ?_)
              obtain ⟨rfl, rfl⟩ := q_312
              show OEnds _ _ _ _ _ _ _ _ _ (mkF _ 73 #[.val (.ref a), .val (.int s0)] [(.int (own_v4 bs (i + 1)))])
              refine Own.if_eq H_307 (pc := 73) 80 d7_73 (by decide) (by decide) (fun hc73 => ?_) (fun hc73 => ?_)
              · refine Own.iconst H_307 (pc := 80) (0) d7_80 rfl ?_
                exact Own.ret_nar H_307 (pc := 81) (0) d7_81 rfl (by simp) (by decide) (by decide) (by decide) (⟨by simp [own_v5, *], rfl⟩)
              · refine Own.iconst H_307 (pc := 76) (1) d7_76 rfl ?_
                refine Own.goto H_307 (pc := 77) 81 d7_77 (by decide) (by decide) ?_
                exact Own.ret_nar H_307 (pc := 81) (1) d7_81 rfl (by simp) (by decide) (by decide) (by decide) (⟨by simp [own_v5, *], rfl⟩)
      · refine Own.aload_n H_271 (pc := 28) d7_28 rfl rfl ?_
        refine Own.iload_n H_271 (pc := 29) d7_29 rfl ?_
        refine Own.iconst H_271 (pc := 30) (3) d7_30 rfl ?_
        refine Own.iadd H_271 (pc := 31) d7_31 ?_
        refine Own.callS H_271 (pc := 32) (y := (⟨"termstone/store/Utf8IsUtf8PinLaw", "v2", "([BI)Z"⟩ : MethodName)) [(.ref a), (.int (s0 + (3 : Int32)))] [] d7_32 (hw _ (List.mem_of_getElem? (i := 30) rfl)) (hw _ (List.mem_of_getElem? (i := 31) rfl)) (hw _ (List.mem_of_getElem? (i := 7) rfl)) (hw _ (List.mem_of_getElem? (i := 32) rfl)) (by decide) (rm_v2 l Z a0 hw a (s0 + (3 : Int32)) _ n0 H_271.z0 bs hl A (i + 3) (own_addn hs rfl (by omega)) (by omega)) (r := (some .boolean)) (ps := [(.array .byte), .int]) (by decide) rfl rfl 0 rfl (by decide) (by decide) (by decide) (by decide) rfl (fun T_314 v_316 h_315 H_313 z_317 q_318 => ?_)
        obtain ⟨rfl, rfl⟩ := q_318
        show OEnds _ _ _ _ _ _ _ _ _ (mkF _ 35 #[.val (.ref a), .val (.int s0)] [(.int (own_v2 bs (i + 3)))])
        refine Own.if_ne H_313 (pc := 35) 76 d7_35 (by decide) (by decide) (fun hc35 => ?_) (fun hc35 => ?_)
        · refine Own.iconst H_313 (pc := 76) (1) d7_76 rfl ?_
          refine Own.goto H_313 (pc := 77) 81 d7_77 (by decide) (by decide) ?_
          exact Own.ret_nar H_313 (pc := 81) (1) d7_81 rfl (by simp) (by decide) (by decide) (by decide) (⟨by simp [own_v5, *], rfl⟩)
        · refine Own.aload_n H_313 (pc := 38) d7_38 rfl rfl ?_
          refine Own.iload_n H_313 (pc := 39) d7_39 rfl ?_
          refine Own.iconst H_313 (pc := 40) (2) d7_40 rfl ?_
          refine Own.callS H_313 (pc := 41) (y := (⟨"termstone/store/Utf8IsUtf8PinLaw", "c", "([BII)Z"⟩ : MethodName)) [(.ref a), (.int s0), (.int (2 : Int32))] [] d7_41 (hw _ (List.mem_of_getElem? (i := 12) rfl)) (hw _ (List.mem_of_getElem? (i := 13) rfl)) (hw _ (List.mem_of_getElem? (i := 7) rfl)) (hw _ (List.mem_of_getElem? (i := 14) rfl)) (by decide) (rm_c l Z a0 hw a s0 (2 : Int32) _ n0 H_313.z0 bs hl A i hs (by decide) (by show (i : Int) + 2 ≤ 8; omega)) (r := (some .boolean)) (ps := [(.array .byte), .int, .int]) (by decide) rfl rfl 0 rfl (by decide) (by decide) (by decide) (by decide) rfl (fun T_320 v_322 h_321 H_319 z_323 q_324 => ?_)
          obtain ⟨rfl, rfl⟩ := q_324
          show OEnds _ _ _ _ _ _ _ _ _ (mkF _ 44 #[.val (.ref a), .val (.int s0)] [(.int (own_c bs i (2 : Int32)))])
          refine Own.if_eq H_319 (pc := 44) 57 d7_44 (by decide) (by decide) (fun hc44 => ?_) (fun hc44 => ?_)
          · refine Own.aload_n H_319 (pc := 57) d7_57 rfl rfl ?_
            refine Own.iload_n H_319 (pc := 58) d7_58 rfl ?_
            refine Own.iconst H_319 (pc := 59) (1) d7_59 rfl ?_
            refine Own.callS H_319 (pc := 60) (y := (⟨"termstone/store/Utf8IsUtf8PinLaw", "c", "([BII)Z"⟩ : MethodName)) [(.ref a), (.int s0), (.int (1 : Int32))] [] d7_60 (hw _ (List.mem_of_getElem? (i := 12) rfl)) (hw _ (List.mem_of_getElem? (i := 13) rfl)) (hw _ (List.mem_of_getElem? (i := 7) rfl)) (hw _ (List.mem_of_getElem? (i := 14) rfl)) (by decide) (rm_c l Z a0 hw a s0 (1 : Int32) _ n0 H_319.z0 bs hl A i hs (by decide) (by show (i : Int) + 1 ≤ 8; omega)) (r := (some .boolean)) (ps := [(.array .byte), .int, .int]) (by decide) rfl rfl 0 rfl (by decide) (by decide) (by decide) (by decide) rfl (fun T_326 v_328 h_327 H_325 z_329 q_330 => ?_)
            obtain ⟨rfl, rfl⟩ := q_330
            show OEnds _ _ _ _ _ _ _ _ _ (mkF _ 63 #[.val (.ref a), .val (.int s0)] [(.int (own_c bs i (1 : Int32)))])
            refine Own.if_eq H_325 (pc := 63) 80 d7_63 (by decide) (by decide) (fun hc63 => ?_) (fun hc63 => ?_)
            · refine Own.iconst H_325 (pc := 80) (0) d7_80 rfl ?_
              exact Own.ret_nar H_325 (pc := 81) (0) d7_81 rfl (by simp) (by decide) (by decide) (by decide) (⟨by simp [own_v5, *], rfl⟩)
            · refine Own.aload_n H_325 (pc := 66) d7_66 rfl rfl ?_
              refine Own.iload_n H_325 (pc := 67) d7_67 rfl ?_
              refine Own.iconst H_325 (pc := 68) (1) d7_68 rfl ?_
              refine Own.iadd H_325 (pc := 69) d7_69 ?_
              refine Own.callS H_325 (pc := 70) (y := (⟨"termstone/store/Utf8IsUtf8PinLaw", "v4", "([BI)Z"⟩ : MethodName)) [(.ref a), (.int (s0 + (1 : Int32)))] [] d7_70 (hw _ (List.mem_of_getElem? (i := 24) rfl)) (hw _ (List.mem_of_getElem? (i := 25) rfl)) (hw _ (List.mem_of_getElem? (i := 7) rfl)) (hw _ (List.mem_of_getElem? (i := 26) rfl)) (by decide) (rm_v4 l Z a0 hw a (s0 + (1 : Int32)) _ n0 H_325.z0 bs hl A (i + 1) (own_addn hs rfl (by omega)) (by omega)) (r := (some .boolean)) (ps := [(.array .byte), .int]) (by decide) rfl rfl 0 rfl (by decide) (by decide) (by decide) (by decide) rfl (fun T_332 v_334 h_333 H_331 z_335 q_336 => ?_)
              obtain ⟨rfl, rfl⟩ := q_336
              show OEnds _ _ _ _ _ _ _ _ _ (mkF _ 73 #[.val (.ref a), .val (.int s0)] [(.int (own_v4 bs (i + 1)))])
              refine Own.if_eq H_331 (pc := 73) 80 d7_73 (by decide) (by decide) (fun hc73 => ?_) (fun hc73 => ?_)
              · refine Own.iconst H_331 (pc := 80) (0) d7_80 rfl ?_
                exact Own.ret_nar H_331 (pc := 81) (0) d7_81 rfl (by simp) (by decide) (by decide) (by decide) (⟨by simp [own_v5, *], rfl⟩)
              · refine Own.iconst H_331 (pc := 76) (1) d7_76 rfl ?_
                refine Own.goto H_331 (pc := 77) 81 d7_77 (by decide) (by decide) ?_
                exact Own.ret_nar H_331 (pc := 81) (1) d7_81 rfl (by simp) (by decide) (by decide) (by decide) (⟨by simp [own_v5, *], rfl⟩)
          · refine Own.aload_n H_319 (pc := 47) d7_47 rfl rfl ?_
            refine Own.iload_n H_319 (pc := 48) d7_48 rfl ?_
            refine Own.iconst H_319 (pc := 49) (2) d7_49 rfl ?_
            refine Own.iadd H_319 (pc := 50) d7_50 ?_
            refine Own.callS H_319 (pc := 51) (y := (⟨"termstone/store/Utf8IsUtf8PinLaw", "v3", "([BI)Z"⟩ : MethodName)) [(.ref a), (.int (s0 + (2 : Int32)))] [] d7_51 (hw _ (List.mem_of_getElem? (i := 27) rfl)) (hw _ (List.mem_of_getElem? (i := 28) rfl)) (hw _ (List.mem_of_getElem? (i := 7) rfl)) (hw _ (List.mem_of_getElem? (i := 29) rfl)) (by decide) (rm_v3 l Z a0 hw a (s0 + (2 : Int32)) _ n0 H_319.z0 bs hl A (i + 2) (own_addn hs rfl (by omega)) (by omega)) (r := (some .boolean)) (ps := [(.array .byte), .int]) (by decide) rfl rfl 0 rfl (by decide) (by decide) (by decide) (by decide) rfl (fun T_338 v_340 h_339 H_337 z_341 q_342 => ?_)
            obtain ⟨rfl, rfl⟩ := q_342
            show OEnds _ _ _ _ _ _ _ _ _ (mkF _ 54 #[.val (.ref a), .val (.int s0)] [(.int (own_v3 bs (i + 2)))])
            refine Own.if_ne H_337 (pc := 54) 76 d7_54 (by decide) (by decide) (fun hc54 => ?_) (fun hc54 => ?_)
            · refine Own.iconst H_337 (pc := 76) (1) d7_76 rfl ?_
              refine Own.goto H_337 (pc := 77) 81 d7_77 (by decide) (by decide) ?_
              exact Own.ret_nar H_337 (pc := 81) (1) d7_81 rfl (by simp) (by decide) (by decide) (by decide) (⟨by simp [own_v5, *], rfl⟩)
            · refine Own.aload_n H_337 (pc := 57) d7_57 rfl rfl ?_
              refine Own.iload_n H_337 (pc := 58) d7_58 rfl ?_
              refine Own.iconst H_337 (pc := 59) (1) d7_59 rfl ?_
              refine Own.callS H_337 (pc := 60) (y := (⟨"termstone/store/Utf8IsUtf8PinLaw", "c", "([BII)Z"⟩ : MethodName)) [(.ref a), (.int s0), (.int (1 : Int32))] [] d7_60 (hw _ (List.mem_of_getElem? (i := 12) rfl)) (hw _ (List.mem_of_getElem? (i := 13) rfl)) (hw _ (List.mem_of_getElem? (i := 7) rfl)) (hw _ (List.mem_of_getElem? (i := 14) rfl)) (by decide) (rm_c l Z a0 hw a s0 (1 : Int32) _ n0 H_337.z0 bs hl A i hs (by decide) (by show (i : Int) + 1 ≤ 8; omega)) (r := (some .boolean)) (ps := [(.array .byte), .int, .int]) (by decide) rfl rfl 0 rfl (by decide) (by decide) (by decide) (by decide) rfl (fun T_344 v_346 h_345 H_343 z_347 q_348 => ?_)
              obtain ⟨rfl, rfl⟩ := q_348
              show OEnds _ _ _ _ _ _ _ _ _ (mkF _ 63 #[.val (.ref a), .val (.int s0)] [(.int (own_c bs i (1 : Int32)))])
              refine Own.if_eq H_343 (pc := 63) 80 d7_63 (by decide) (by decide) (fun hc63 => ?_) (fun hc63 => ?_)
              · refine Own.iconst H_343 (pc := 80) (0) d7_80 rfl ?_
                exact Own.ret_nar H_343 (pc := 81) (0) d7_81 rfl (by simp) (by decide) (by decide) (by decide) (⟨by simp [own_v5, *], rfl⟩)
              · refine Own.aload_n H_343 (pc := 66) d7_66 rfl rfl ?_
                refine Own.iload_n H_343 (pc := 67) d7_67 rfl ?_
                refine Own.iconst H_343 (pc := 68) (1) d7_68 rfl ?_
                refine Own.iadd H_343 (pc := 69) d7_69 ?_
                refine Own.callS H_343 (pc := 70) (y := (⟨"termstone/store/Utf8IsUtf8PinLaw", "v4", "([BI)Z"⟩ : MethodName)) [(.ref a), (.int (s0 + (1 : Int32)))] [] d7_70 (hw _ (List.mem_of_getElem? (i := 24) rfl)) (hw _ (List.mem_of_getElem? (i := 25) rfl)) (hw _ (List.mem_of_getElem? (i := 7) rfl)) (hw _ (List.mem_of_getElem? (i := 26) rfl)) (by decide) (rm_v4 l Z a0 hw a (s0 + (1 : Int32)) _ n0 H_343.z0 bs hl A (i + 1) (own_addn hs rfl (by omega)) (by omega)) (r := (some .boolean)) (ps := [(.array .byte), .int]) (by decide) rfl rfl 0 rfl (by decide) (by decide) (by decide) (by decide) rfl (fun T_350 v_352 h_351 H_349 z_353 q_354 => ?_)
                obtain ⟨rfl, rfl⟩ := q_354
                show OEnds _ _ _ _ _ _ _ _ _ (mkF _ 73 #[.val (.ref a), .val (.int s0)] [(.int (own_v4 bs (i + 1)))])
                refine Own.if_eq H_349 (pc := 73) 80 d7_73 (by decide) (by decide) (fun hc73 => ?_) (fun hc73 => ?_)
                · refine Own.iconst H_349 (pc := 80) (0) d7_80 rfl ?_
                  exact Own.ret_nar H_349 (pc := 81) (0) d7_81 rfl (by simp) (by decide) (by decide) (by decide) (⟨by simp [own_v5, *], rfl⟩)
                · refine Own.iconst H_349 (pc := 76) (1) d7_76 rfl ?_
                  refine Own.goto H_349 (pc := 77) 81 d7_77 (by decide) (by decide) ?_
                  exact Own.ret_nar H_349 (pc := 81) (1) d7_81 rfl (by simp) (by decide) (by decide) (by decide) (⟨by simp [own_v5, *], rfl⟩)
theorem d5_0 : decode method_11_code 0 = .ok (.aload_n 0, 1) := by decide +kernel
theorem d5_1 : decode method_11_code 1 = .ok (.iload_n 1, 1) := by decide +kernel
theorem d5_2 : decode method_11_code 2 = .ok (.iconst 4, 1) := by decide +kernel
theorem d5_3 : decode method_11_code 3 = .ok (.invokestatic 51, 3) := by decide +kernel
theorem d5_6 : decode method_11_code 6 = .ok (.ifCond .eq 13, 3) := by decide +kernel
theorem d5_9 : decode method_11_code 9 = .ok (.aload_n 0, 1) := by decide +kernel
theorem d5_10 : decode method_11_code 10 = .ok (.iload_n 1, 1) := by decide +kernel
theorem d5_11 : decode method_11_code 11 = .ok (.iconst 4, 1) := by decide +kernel
theorem d5_12 : decode method_11_code 12 = .ok (.iadd, 1) := by decide +kernel
theorem d5_13 : decode method_11_code 13 = .ok (.invokestatic 30, 3) := by decide +kernel
theorem d5_16 : decode method_11_code 16 = .ok (.ifCond .ne 60, 3) := by decide +kernel
theorem d5_19 : decode method_11_code 19 = .ok (.aload_n 0, 1) := by decide +kernel
theorem d5_20 : decode method_11_code 20 = .ok (.iload_n 1, 1) := by decide +kernel
theorem d5_21 : decode method_11_code 21 = .ok (.iconst 3, 1) := by decide +kernel
theorem d5_22 : decode method_11_code 22 = .ok (.invokestatic 51, 3) := by decide +kernel
theorem d5_25 : decode method_11_code 25 = .ok (.ifCond .eq 13, 3) := by decide +kernel
theorem d5_28 : decode method_11_code 28 = .ok (.aload_n 0, 1) := by decide +kernel
theorem d5_29 : decode method_11_code 29 = .ok (.iload_n 1, 1) := by decide +kernel
theorem d5_30 : decode method_11_code 30 = .ok (.iconst 3, 1) := by decide +kernel
theorem d5_31 : decode method_11_code 31 = .ok (.iadd, 1) := by decide +kernel
theorem d5_32 : decode method_11_code 32 = .ok (.invokestatic 33, 3) := by decide +kernel
theorem d5_35 : decode method_11_code 35 = .ok (.ifCond .ne 41, 3) := by decide +kernel
theorem d5_38 : decode method_11_code 38 = .ok (.aload_n 0, 1) := by decide +kernel
theorem d5_39 : decode method_11_code 39 = .ok (.iload_n 1, 1) := by decide +kernel
theorem d5_40 : decode method_11_code 40 = .ok (.iconst 2, 1) := by decide +kernel
theorem d5_41 : decode method_11_code 41 = .ok (.invokestatic 51, 3) := by decide +kernel
theorem d5_44 : decode method_11_code 44 = .ok (.ifCond .eq 13, 3) := by decide +kernel
theorem d5_47 : decode method_11_code 47 = .ok (.aload_n 0, 1) := by decide +kernel
theorem d5_48 : decode method_11_code 48 = .ok (.iload_n 1, 1) := by decide +kernel
theorem d5_49 : decode method_11_code 49 = .ok (.iconst 2, 1) := by decide +kernel
theorem d5_50 : decode method_11_code 50 = .ok (.iadd, 1) := by decide +kernel
theorem d5_51 : decode method_11_code 51 = .ok (.invokestatic 36, 3) := by decide +kernel
theorem d5_54 : decode method_11_code 54 = .ok (.ifCond .ne 22, 3) := by decide +kernel
theorem d5_57 : decode method_11_code 57 = .ok (.aload_n 0, 1) := by decide +kernel
theorem d5_58 : decode method_11_code 58 = .ok (.iload_n 1, 1) := by decide +kernel
theorem d5_59 : decode method_11_code 59 = .ok (.iconst 1, 1) := by decide +kernel
theorem d5_60 : decode method_11_code 60 = .ok (.invokestatic 51, 3) := by decide +kernel
theorem d5_63 : decode method_11_code 63 = .ok (.ifCond .eq 17, 3) := by decide +kernel
theorem d5_66 : decode method_11_code 66 = .ok (.aload_n 0, 1) := by decide +kernel
theorem d5_67 : decode method_11_code 67 = .ok (.iload_n 1, 1) := by decide +kernel
theorem d5_68 : decode method_11_code 68 = .ok (.iconst 1, 1) := by decide +kernel
theorem d5_69 : decode method_11_code 69 = .ok (.iadd, 1) := by decide +kernel
theorem d5_70 : decode method_11_code 70 = .ok (.invokestatic 39, 3) := by decide +kernel
theorem d5_73 : decode method_11_code 73 = .ok (.ifCond .eq 7, 3) := by decide +kernel
theorem d5_76 : decode method_11_code 76 = .ok (.iconst 1, 1) := by decide +kernel
theorem d5_77 : decode method_11_code 77 = .ok (.goto 4, 3) := by decide +kernel
theorem d5_80 : decode method_11_code 80 = .ok (.iconst 0, 1) := by decide +kernel
theorem d5_81 : decode method_11_code 81 = .ok (.ireturn, 1) := by decide +kernel
theorem pn_rm_v6 : plainFor (⟨"termstone/store/Utf8IsUtf8PinLaw", "v6", "([BI)Z"⟩ : MethodName) = true := by first | exact plainFor_of_name (by first | (simp [plainName, overriddenIn]; done) | decide +kernel) | decide +kernel
theorem ef_rm_v6 (a : Nat) (s0 : Int32) (m : MethodId) : entryFrame m #[(.ref a), (.int s0)] 2 = mkF m 0 #[.val (.ref a), .val (.int s0)] [] := by first | (simp [entryFrame, mkF, argsToLocals, Value.category]; done) | rfl
set_option maxRecDepth 65536 in
set_option maxHeartbeats 40000000 in
theorem rm_v6 (l : Launch) (Z : State) (a0 : Array Value) (hw : ∀ d ∈ tables_1, d.before a0 Z = true) (a : Nat) (s0 : Int32) (h0 : Heap) (n0 : Nat) (Z0 : n0 ≤ h0.size) (bs : List Int32) (hl : bs.length = 8) (A : OAry Z h0 a .byte (bs.map Value.int)) (i : Nat) (hs : s0.toInt = (i : Int)) (hin : i + 6 ≤ 8) :
    OMet l Z n0 (⟨"termstone/store/Utf8IsUtf8PinLaw", "v6", "([BI)Z"⟩ : MethodName) method_11_code 2 (some .boolean) ({ frames := 7, cells := 0, slots := 0, locals := 96 } : Room) #[(.ref a), (.int s0)] h0 (fun v h => v = some (.int (own_v6 bs i)) ∧ h = h0) := by
  refine OMet.of pn_rm_v6 Z0 (ef_rm_v6 a s0) ?_
  intro p e s m below meth c T H
  refine Own.aload_n H (pc := 0) d5_0 rfl rfl ?_
  refine Own.iload_n H (pc := 1) d5_1 rfl ?_
  refine Own.iconst H (pc := 2) (4) d5_2 rfl ?_
  refine Own.callS H (pc := 3) (y := (⟨"termstone/store/Utf8IsUtf8PinLaw", "c", "([BII)Z"⟩ : MethodName)) [(.ref a), (.int s0), (.int (4 : Int32))] [] d5_3 (hw _ (List.mem_of_getElem? (i := 12) rfl)) (hw _ (List.mem_of_getElem? (i := 13) rfl)) (hw _ (List.mem_of_getElem? (i := 7) rfl)) (hw _ (List.mem_of_getElem? (i := 14) rfl)) (by decide) (rm_c l Z a0 hw a s0 (4 : Int32) _ n0 H.z0 bs hl A i hs (by decide) (by show (i : Int) + 4 ≤ 8; omega)) (r := (some .boolean)) (ps := [(.array .byte), .int, .int]) (by decide) rfl rfl 0 rfl (by decide) (by decide) (by decide) (by decide) rfl (fun T_356 v_358 h_357 H_355 z_359 q_360 => ?_)
  obtain ⟨rfl, rfl⟩ := q_360
  show OEnds _ _ _ _ _ _ _ _ _ (mkF _ 6 #[.val (.ref a), .val (.int s0)] [(.int (own_c bs i (4 : Int32)))])
  refine Own.if_eq H_355 (pc := 6) 19 d5_6 (by decide) (by decide) (fun hc6 => ?_) (fun hc6 => ?_)
  · refine Own.aload_n H_355 (pc := 19) d5_19 rfl rfl ?_
    refine Own.iload_n H_355 (pc := 20) d5_20 rfl ?_
    refine Own.iconst H_355 (pc := 21) (3) d5_21 rfl ?_
    refine Own.callS H_355 (pc := 22) (y := (⟨"termstone/store/Utf8IsUtf8PinLaw", "c", "([BII)Z"⟩ : MethodName)) [(.ref a), (.int s0), (.int (3 : Int32))] [] d5_22 (hw _ (List.mem_of_getElem? (i := 12) rfl)) (hw _ (List.mem_of_getElem? (i := 13) rfl)) (hw _ (List.mem_of_getElem? (i := 7) rfl)) (hw _ (List.mem_of_getElem? (i := 14) rfl)) (by decide) (rm_c l Z a0 hw a s0 (3 : Int32) _ n0 H_355.z0 bs hl A i hs (by decide) (by show (i : Int) + 3 ≤ 8; omega)) (r := (some .boolean)) (ps := [(.array .byte), .int, .int]) (by decide) rfl rfl 0 rfl (by decide) (by decide) (by decide) (by decide) rfl (fun T_362 v_364 h_363 H_361 z_365 q_366 => ?_)
    obtain ⟨rfl, rfl⟩ := q_366
    show OEnds _ _ _ _ _ _ _ _ _ (mkF _ 25 #[.val (.ref a), .val (.int s0)] [(.int (own_c bs i (3 : Int32)))])
    refine Own.if_eq H_361 (pc := 25) 38 d5_25 (by decide) (by decide) (fun hc25 => ?_) (fun hc25 => ?_)
    · refine Own.aload_n H_361 (pc := 38) d5_38 rfl rfl ?_
      refine Own.iload_n H_361 (pc := 39) d5_39 rfl ?_
      refine Own.iconst H_361 (pc := 40) (2) d5_40 rfl ?_
      refine Own.callS H_361 (pc := 41) (y := (⟨"termstone/store/Utf8IsUtf8PinLaw", "c", "([BII)Z"⟩ : MethodName)) [(.ref a), (.int s0), (.int (2 : Int32))] [] d5_41 (hw _ (List.mem_of_getElem? (i := 12) rfl)) (hw _ (List.mem_of_getElem? (i := 13) rfl)) (hw _ (List.mem_of_getElem? (i := 7) rfl)) (hw _ (List.mem_of_getElem? (i := 14) rfl)) (by decide) (rm_c l Z a0 hw a s0 (2 : Int32) _ n0 H_361.z0 bs hl A i hs (by decide) (by show (i : Int) + 2 ≤ 8; omega)) (r := (some .boolean)) (ps := [(.array .byte), .int, .int]) (by decide) rfl rfl 0 rfl (by decide) (by decide) (by decide) (by decide) rfl (fun T_368 v_370 h_369 H_367 z_371 q_372 => ?_)
      obtain ⟨rfl, rfl⟩ := q_372
      show OEnds _ _ _ _ _ _ _ _ _ (mkF _ 44 #[.val (.ref a), .val (.int s0)] [(.int (own_c bs i (2 : Int32)))])
      refine Own.if_eq H_367 (pc := 44) 57 d5_44 (by decide) (by decide) (fun hc44 => ?_) (fun hc44 => ?_)
      · refine Own.aload_n H_367 (pc := 57) d5_57 rfl rfl ?_
        refine Own.iload_n H_367 (pc := 58) d5_58 rfl ?_
        refine Own.iconst H_367 (pc := 59) (1) d5_59 rfl ?_
        refine Own.callS H_367 (pc := 60) (y := (⟨"termstone/store/Utf8IsUtf8PinLaw", "c", "([BII)Z"⟩ : MethodName)) [(.ref a), (.int s0), (.int (1 : Int32))] [] d5_60 (hw _ (List.mem_of_getElem? (i := 12) rfl)) (hw _ (List.mem_of_getElem? (i := 13) rfl)) (hw _ (List.mem_of_getElem? (i := 7) rfl)) (hw _ (List.mem_of_getElem? (i := 14) rfl)) (by decide) (rm_c l Z a0 hw a s0 (1 : Int32) _ n0 H_367.z0 bs hl A i hs (by decide) (by show (i : Int) + 1 ≤ 8; omega)) (r := (some .boolean)) (ps := [(.array .byte), .int, .int]) (by decide) rfl rfl 0 rfl (by decide) (by decide) (by decide) (by decide) rfl (fun T_374 v_376 h_375 H_373 z_377 q_378 => ?_)
        obtain ⟨rfl, rfl⟩ := q_378
        show OEnds _ _ _ _ _ _ _ _ _ (mkF _ 63 #[.val (.ref a), .val (.int s0)] [(.int (own_c bs i (1 : Int32)))])
        refine Own.if_eq H_373 (pc := 63) 80 d5_63 (by decide) (by decide) (fun hc63 => ?_) (fun hc63 => ?_)
        · refine Own.iconst H_373 (pc := 80) (0) d5_80 rfl ?_
          exact Own.ret_nar H_373 (pc := 81) (0) d5_81 rfl (by simp) (by decide) (by decide) (by decide) (⟨by simp [own_v6, *], rfl⟩)
        · refine Own.aload_n H_373 (pc := 66) d5_66 rfl rfl ?_
          refine Own.iload_n H_373 (pc := 67) d5_67 rfl ?_
          refine Own.iconst H_373 (pc := 68) (1) d5_68 rfl ?_
          refine Own.iadd H_373 (pc := 69) d5_69 ?_
          refine Own.callS H_373 (pc := 70) (y := (⟨"termstone/store/Utf8IsUtf8PinLaw", "v5", "([BI)Z"⟩ : MethodName)) [(.ref a), (.int (s0 + (1 : Int32)))] [] d5_70 (hw _ (List.mem_of_getElem? (i := 21) rfl)) (hw _ (List.mem_of_getElem? (i := 22) rfl)) (hw _ (List.mem_of_getElem? (i := 7) rfl)) (hw _ (List.mem_of_getElem? (i := 23) rfl)) (by decide) (rm_v5 l Z a0 hw a (s0 + (1 : Int32)) _ n0 H_373.z0 bs hl A (i + 1) (own_addn hs rfl (by omega)) (by omega)) (r := (some .boolean)) (ps := [(.array .byte), .int]) (by decide) rfl rfl 0 rfl (by decide) (by decide) (by decide) (by decide) rfl (fun T_380 v_382 h_381 H_379 z_383 q_384 => ?_)
          obtain ⟨rfl, rfl⟩ := q_384
          show OEnds _ _ _ _ _ _ _ _ _ (mkF _ 73 #[.val (.ref a), .val (.int s0)] [(.int (own_v5 bs (i + 1)))])
          refine Own.if_eq H_379 (pc := 73) 80 d5_73 (by decide) (by decide) (fun hc73 => ?_) (fun hc73 => ?_)
          · refine Own.iconst H_379 (pc := 80) (0) d5_80 rfl ?_
            exact Own.ret_nar H_379 (pc := 81) (0) d5_81 rfl (by simp) (by decide) (by decide) (by decide) (⟨by simp [own_v6, *], rfl⟩)
          · refine Own.iconst H_379 (pc := 76) (1) d5_76 rfl ?_
            refine Own.goto H_379 (pc := 77) 81 d5_77 (by decide) (by decide) ?_
            exact Own.ret_nar H_379 (pc := 81) (1) d5_81 rfl (by simp) (by decide) (by decide) (by decide) (⟨by simp [own_v6, *], rfl⟩)
      · refine Own.aload_n H_367 (pc := 47) d5_47 rfl rfl ?_
        refine Own.iload_n H_367 (pc := 48) d5_48 rfl ?_
        refine Own.iconst H_367 (pc := 49) (2) d5_49 rfl ?_
        refine Own.iadd H_367 (pc := 50) d5_50 ?_
        refine Own.callS H_367 (pc := 51) (y := (⟨"termstone/store/Utf8IsUtf8PinLaw", "v4", "([BI)Z"⟩ : MethodName)) [(.ref a), (.int (s0 + (2 : Int32)))] [] d5_51 (hw _ (List.mem_of_getElem? (i := 24) rfl)) (hw _ (List.mem_of_getElem? (i := 25) rfl)) (hw _ (List.mem_of_getElem? (i := 7) rfl)) (hw _ (List.mem_of_getElem? (i := 26) rfl)) (by decide) (rm_v4 l Z a0 hw a (s0 + (2 : Int32)) _ n0 H_367.z0 bs hl A (i + 2) (own_addn hs rfl (by omega)) (by omega)) (r := (some .boolean)) (ps := [(.array .byte), .int]) (by decide) rfl rfl 0 rfl (by decide) (by decide) (by decide) (by decide) rfl (fun T_386 v_388 h_387 H_385 z_389 q_390 => ?_)
        obtain ⟨rfl, rfl⟩ := q_390
        show OEnds _ _ _ _ _ _ _ _ _ (mkF _ 54 #[.val (.ref a), .val (.int s0)] [(.int (own_v4 bs (i + 2)))])
        refine Own.if_ne H_385 (pc := 54) 76 d5_54 (by decide) (by decide) (fun hc54 => ?_) (fun hc54 => ?_)
        · refine Own.iconst H_385 (pc := 76) (1) d5_76 rfl ?_
          refine Own.goto H_385 (pc := 77) 81 d5_77 (by decide) (by decide) ?_
          exact Own.ret_nar H_385 (pc := 81) (1) d5_81 rfl (by simp) (by decide) (by decide) (by decide) (⟨by simp [own_v6, *], rfl⟩)
        · refine Own.aload_n H_385 (pc := 57) d5_57 rfl rfl ?_
          refine Own.iload_n H_385 (pc := 58) d5_58 rfl ?_
          refine Own.iconst H_385 (pc := 59) (1) d5_59 rfl ?_
          refine Own.callS H_385 (pc := 60) (y := (⟨"termstone/store/Utf8IsUtf8PinLaw", "c", "([BII)Z"⟩ : MethodName)) [(.ref a), (.int s0), (.int (1 : Int32))] [] d5_60 (hw _ (List.mem_of_getElem? (i := 12) rfl)) (hw _ (List.mem_of_getElem? (i := 13) rfl)) (hw _ (List.mem_of_getElem? (i := 7) rfl)) (hw _ (List.mem_of_getElem? (i := 14) rfl)) (by decide) (rm_c l Z a0 hw a s0 (1 : Int32) _ n0 H_385.z0 bs hl A i hs (by decide) (by show (i : Int) + 1 ≤ 8; omega)) (r := (some .boolean)) (ps := [(.array .byte), .int, .int]) (by decide) rfl rfl 0 rfl (by decide) (by decide) (by decide) (by decide) rfl (fun T_392 v_394 h_393 H_391 z_395 q_396 => ?_)
          obtain ⟨rfl, rfl⟩ := q_396
          show OEnds _ _ _ _ _ _ _ _ _ (mkF _ 63 #[.val (.ref a), .val (.int s0)] [(.int (own_c bs i (1 : Int32)))])
          refine Own.if_eq H_391 (pc := 63) 80 d5_63 (by decide) (by decide) (fun hc63 => ?_) (fun hc63 => ?_)
          · refine Own.iconst H_391 (pc := 80) (0) d5_80 rfl ?_
            exact Own.ret_nar H_391 (pc := 81) (0) d5_81 rfl (by simp) (by decide) (by decide) (by decide) (⟨by simp [own_v6, *], rfl⟩)
          · refine Own.aload_n H_391 (pc := 66) d5_66 rfl rfl ?_
            refine Own.iload_n H_391 (pc := 67) d5_67 rfl ?_
            refine Own.iconst H_391 (pc := 68) (1) d5_68 rfl ?_
            refine Own.iadd H_391 (pc := 69) d5_69 ?_
            refine Own.callS H_391 (pc := 70) (y := (⟨"termstone/store/Utf8IsUtf8PinLaw", "v5", "([BI)Z"⟩ : MethodName)) [(.ref a), (.int (s0 + (1 : Int32)))] [] d5_70 (hw _ (List.mem_of_getElem? (i := 21) rfl)) (hw _ (List.mem_of_getElem? (i := 22) rfl)) (hw _ (List.mem_of_getElem? (i := 7) rfl)) (hw _ (List.mem_of_getElem? (i := 23) rfl)) (by decide) (rm_v5 l Z a0 hw a (s0 + (1 : Int32)) _ n0 H_391.z0 bs hl A (i + 1) (own_addn hs rfl (by omega)) (by omega)) (r := (some .boolean)) (ps := [(.array .byte), .int]) (by decide) rfl rfl 0 rfl (by decide) (by decide) (by decide) (by decide) rfl (fun T_398 v_400 h_399 H_397 z_401 q_402 => ?_)
            obtain ⟨rfl, rfl⟩ := q_402
            show OEnds _ _ _ _ _ _ _ _ _ (mkF _ 73 #[.val (.ref a), .val (.int s0)] [(.int (own_v5 bs (i + 1)))])
            refine Own.if_eq H_397 (pc := 73) 80 d5_73 (by decide) (by decide) (fun hc73 => ?_) (fun hc73 => ?_)
            · refine Own.iconst H_397 (pc := 80) (0) d5_80 rfl ?_
              exact Own.ret_nar H_397 (pc := 81) (0) d5_81 rfl (by simp) (by decide) (by decide) (by decide) (⟨by simp [own_v6, *], rfl⟩)
            · refine Own.iconst H_397 (pc := 76) (1) d5_76 rfl ?_
              refine Own.goto H_397 (pc := 77) 81 d5_77 (by decide) (by decide) ?_
              exact Own.ret_nar H_397 (pc := 81) (1) d5_81 rfl (by simp) (by decide) (by decide) (by decide) (⟨by simp [own_v6, *], rfl⟩)
    · refine Own.aload_n H_361 (pc := 28) d5_28 rfl rfl ?_
      refine Own.iload_n H_361 (pc := 29) d5_29 rfl ?_
      refine Own.iconst H_361 (pc := 30) (3) d5_30 rfl ?_
      refine Own.iadd H_361 (pc := 31) d5_31 ?_
      refine Own.callS H_361 (pc := 32) (y := (⟨"termstone/store/Utf8IsUtf8PinLaw", "v3", "([BI)Z"⟩ : MethodName)) [(.ref a), (.int (s0 + (3 : Int32)))] [] d5_32 (hw _ (List.mem_of_getElem? (i := 27) rfl)) (hw _ (List.mem_of_getElem? (i := 28) rfl)) (hw _ (List.mem_of_getElem? (i := 7) rfl)) (hw _ (List.mem_of_getElem? (i := 29) rfl)) (by decide) (rm_v3 l Z a0 hw a (s0 + (3 : Int32)) _ n0 H_361.z0 bs hl A (i + 3) (own_addn hs rfl (by omega)) (by omega)) (r := (some .boolean)) (ps := [(.array .byte), .int]) (by decide) rfl rfl 0 rfl (by decide) (by decide) (by decide) (by decide) rfl (fun T_404 v_406 h_405 H_403 z_407 q_408 => ?_)
      obtain ⟨rfl, rfl⟩ := q_408
      show OEnds _ _ _ _ _ _ _ _ _ (mkF _ 35 #[.val (.ref a), .val (.int s0)] [(.int (own_v3 bs (i + 3)))])
      refine Own.if_ne H_403 (pc := 35) 76 d5_35 (by decide) (by decide) (fun hc35 => ?_) (fun hc35 => ?_)
      · refine Own.iconst H_403 (pc := 76) (1) d5_76 rfl ?_
        refine Own.goto H_403 (pc := 77) 81 d5_77 (by decide) (by decide) ?_
        exact Own.ret_nar H_403 (pc := 81) (1) d5_81 rfl (by simp) (by decide) (by decide) (by decide) (⟨by simp [own_v6, *], rfl⟩)
      · refine Own.aload_n H_403 (pc := 38) d5_38 rfl rfl ?_
        refine Own.iload_n H_403 (pc := 39) d5_39 rfl ?_
        refine Own.iconst H_403 (pc := 40) (2) d5_40 rfl ?_
        refine Own.callS H_403 (pc := 41) (y := (⟨"termstone/store/Utf8IsUtf8PinLaw", "c", "([BII)Z"⟩ : MethodName)) [(.ref a), (.int s0), (.int (2 : Int32))] [] d5_41 (hw _ (List.mem_of_getElem? (i := 12) rfl)) (hw _ (List.mem_of_getElem? (i := 13) rfl)) (hw _ (List.mem_of_getElem? (i := 7) rfl)) (hw _ (List.mem_of_getElem? (i := 14) rfl)) (by decide) (rm_c l Z a0 hw a s0 (2 : Int32) _ n0 H_403.z0 bs hl A i hs (by decide) (by show (i : Int) + 2 ≤ 8; omega)) (r := (some .boolean)) (ps := [(.array .byte), .int, .int]) (by decide) rfl rfl 0 rfl (by decide) (by decide) (by decide) (by decide) rfl (fun T_410 v_412 h_411 H_409 z_413 q_414 => ?_)
        obtain ⟨rfl, rfl⟩ := q_414
        show OEnds _ _ _ _ _ _ _ _ _ (mkF _ 44 #[.val (.ref a), .val (.int s0)] [(.int (own_c bs i (2 : Int32)))])
        refine Own.if_eq H_409 (pc := 44) 57 d5_44 (by decide) (by decide) (fun hc44 => ?_) (fun hc44 => ?_)
        · refine Own.aload_n H_409 (pc := 57) d5_57 rfl rfl ?_
          refine Own.iload_n H_409 (pc := 58) d5_58 rfl ?_
          refine Own.iconst H_409 (pc := 59) (1) d5_59 rfl ?_
          refine Own.callS H_409 (pc := 60) (y := (⟨"termstone/store/Utf8IsUtf8PinLaw", "c", "([BII)Z"⟩ : MethodName)) [(.ref a), (.int s0), (.int (1 : Int32))] [] d5_60 (hw _ (List.mem_of_getElem? (i := 12) rfl)) (hw _ (List.mem_of_getElem? (i := 13) rfl)) (hw _ (List.mem_of_getElem? (i := 7) rfl)) (hw _ (List.mem_of_getElem? (i := 14) rfl)) (by decide) (rm_c l Z a0 hw a s0 (1 : Int32) _ n0 H_409.z0 bs hl A i hs (by decide) (by show (i : Int) + 1 ≤ 8; omega)) (r := (some .boolean)) (ps := [(.array .byte), .int, .int]) (by decide) rfl rfl 0 rfl (by decide) (by decide) (by decide) (by decide) rfl (fun T_416 v_418 h_417 H_415 z_419 q_420 => ?_)
          obtain ⟨rfl, rfl⟩ := q_420
          show OEnds _ _ _ _ _ _ _ _ _ (mkF _ 63 #[.val (.ref a), .val (.int s0)] [(.int (own_c bs i (1 : Int32)))])
          refine Own.if_eq H_415 (pc := 63) 80 d5_63 (by decide) (by decide) (fun hc63 => ?_) (fun hc63 => ?_)
          · refine Own.iconst H_415 (pc := 80) (0) d5_80 rfl ?_
            exact Own.ret_nar H_415 (pc := 81) (0) d5_81 rfl (by simp) (by decide) (by decide) (by decide) (⟨by simp [own_v6, *], rfl⟩)
          · refine Own.aload_n H_415 (pc := 66) d5_66 rfl rfl ?_
            refine Own.iload_n H_415 (pc := 67) d5_67 rfl ?_
            refine Own.iconst H_415 (pc := 68) (1) d5_68 rfl ?_
            refine Own.iadd H_415 (pc := 69) d5_69 ?_
            refine Own.callS H_415 (pc := 70) (y := (⟨"termstone/store/Utf8IsUtf8PinLaw", "v5", "([BI)Z"⟩ : MethodName)) [(.ref a), (.int (s0 + (1 : Int32)))] [] d5_70 (hw _ (List.mem_of_getElem? (i := 21) rfl)) (hw _ (List.mem_of_getElem? (i := 22) rfl)) (hw _ (List.mem_of_getElem? (i := 7) rfl)) (hw _ (List.mem_of_getElem? (i := 23) rfl)) (by decide) (rm_v5 l Z a0 hw a (s0 + (1 : Int32)) _ n0 H_415.z0 bs hl A (i + 1) (own_addn hs rfl (by omega)) (by omega)) (r := (some .boolean)) (ps := [(.array .byte), .int]) (by decide) rfl rfl 0 rfl (by decide) (by decide) (by decide) (by decide) rfl (fun T_422 v_424 h_423 H_421 z_425 q_426 => ?_)
            obtain ⟨rfl, rfl⟩ := q_426
            show OEnds _ _ _ _ _ _ _ _ _ (mkF _ 73 #[.val (.ref a), .val (.int s0)] [(.int (own_v5 bs (i + 1)))])
            refine Own.if_eq H_421 (pc := 73) 80 d5_73 (by decide) (by decide) (fun hc73 => ?_) (fun hc73 => ?_)
            · refine Own.iconst H_421 (pc := 80) (0) d5_80 rfl ?_
              exact Own.ret_nar H_421 (pc := 81) (0) d5_81 rfl (by simp) (by decide) (by decide) (by decide) (⟨by simp [own_v6, *], rfl⟩)
            · refine Own.iconst H_421 (pc := 76) (1) d5_76 rfl ?_
              refine Own.goto H_421 (pc := 77) 81 d5_77 (by decide) (by decide) ?_
              exact Own.ret_nar H_421 (pc := 81) (1) d5_81 rfl (by simp) (by decide) (by decide) (by decide) (⟨by simp [own_v6, *], rfl⟩)
        · refine Own.aload_n H_409 (pc := 47) d5_47 rfl rfl ?_
          refine Own.iload_n H_409 (pc := 48) d5_48 rfl ?_
          refine Own.iconst H_409 (pc := 49) (2) d5_49 rfl ?_
          refine Own.iadd H_409 (pc := 50) d5_50 ?_
          refine Own.callS H_409 (pc := 51) (y := (⟨"termstone/store/Utf8IsUtf8PinLaw", "v4", "([BI)Z"⟩ : MethodName)) [(.ref a), (.int (s0 + (2 : Int32)))] [] d5_51 (hw _ (List.mem_of_getElem? (i := 24) rfl)) (hw _ (List.mem_of_getElem? (i := 25) rfl)) (hw _ (List.mem_of_getElem? (i := 7) rfl)) (hw _ (List.mem_of_getElem? (i := 26) rfl)) (by decide) (rm_v4 l Z a0 hw a (s0 + (2 : Int32)) _ n0 H_409.z0 bs hl A (i + 2) (own_addn hs rfl (by omega)) (by omega)) (r := (some .boolean)) (ps := [(.array .byte), .int]) (by decide) rfl rfl 0 rfl (by decide) (by decide) (by decide) (by decide) rfl (fun T_428 v_430 h_429 H_427 z_431 q_432 => ?_)
          obtain ⟨rfl, rfl⟩ := q_432
          show OEnds _ _ _ _ _ _ _ _ _ (mkF _ 54 #[.val (.ref a), .val (.int s0)] [(.int (own_v4 bs (i + 2)))])
          refine Own.if_ne H_427 (pc := 54) 76 d5_54 (by decide) (by decide) (fun hc54 => ?_) (fun hc54 => ?_)
          · refine Own.iconst H_427 (pc := 76) (1) d5_76 rfl ?_
            refine Own.goto H_427 (pc := 77) 81 d5_77 (by decide) (by decide) ?_
            exact Own.ret_nar H_427 (pc := 81) (1) d5_81 rfl (by simp) (by decide) (by decide) (by decide) (⟨by simp [own_v6, *], rfl⟩)
          · refine Own.aload_n H_427 (pc := 57) d5_57 rfl rfl ?_
            refine Own.iload_n H_427 (pc := 58) d5_58 rfl ?_
            refine Own.iconst H_427 (pc := 59) (1) d5_59 rfl ?_
            refine Own.callS H_427 (pc := 60) (y := (⟨"termstone/store/Utf8IsUtf8PinLaw", "c", "([BII)Z"⟩ : MethodName)) [(.ref a), (.int s0), (.int (1 : Int32))] [] d5_60 (hw _ (List.mem_of_getElem? (i := 12) rfl)) (hw _ (List.mem_of_getElem? (i := 13) rfl)) (hw _ (List.mem_of_getElem? (i := 7) rfl)) (hw _ (List.mem_of_getElem? (i := 14) rfl)) (by decide) (rm_c l Z a0 hw a s0 (1 : Int32) _ n0 H_427.z0 bs hl A i hs (by decide) (by show (i : Int) + 1 ≤ 8; omega)) (r := (some .boolean)) (ps := [(.array .byte), .int, .int]) (by decide) rfl rfl 0 rfl (by decide) (by decide) (by decide) (by decide) rfl (fun T_434 v_436 h_435 H_433 z_437 q_438 => ?_)
            obtain ⟨rfl, rfl⟩ := q_438
            show OEnds _ _ _ _ _ _ _ _ _ (mkF _ 63 #[.val (.ref a), .val (.int s0)] [(.int (own_c bs i (1 : Int32)))])
            refine Own.if_eq H_433 (pc := 63) 80 d5_63 (by decide) (by decide) (fun hc63 => ?_) (fun hc63 => ?_)
            · refine Own.iconst H_433 (pc := 80) (0) d5_80 rfl ?_
              exact Own.ret_nar H_433 (pc := 81) (0) d5_81 rfl (by simp) (by decide) (by decide) (by decide) (⟨by simp [own_v6, *], rfl⟩)
            · refine Own.aload_n H_433 (pc := 66) d5_66 rfl rfl ?_
              refine Own.iload_n H_433 (pc := 67) d5_67 rfl ?_
              refine Own.iconst H_433 (pc := 68) (1) d5_68 rfl ?_
              refine Own.iadd H_433 (pc := 69) d5_69 ?_
              refine Own.callS H_433 (pc := 70) (y := (⟨"termstone/store/Utf8IsUtf8PinLaw", "v5", "([BI)Z"⟩ : MethodName)) [(.ref a), (.int (s0 + (1 : Int32)))] [] d5_70 (hw _ (List.mem_of_getElem? (i := 21) rfl)) (hw _ (List.mem_of_getElem? (i := 22) rfl)) (hw _ (List.mem_of_getElem? (i := 7) rfl)) (hw _ (List.mem_of_getElem? (i := 23) rfl)) (by decide) (rm_v5 l Z a0 hw a (s0 + (1 : Int32)) _ n0 H_433.z0 bs hl A (i + 1) (own_addn hs rfl (by omega)) (by omega)) (r := (some .boolean)) (ps := [(.array .byte), .int]) (by decide) rfl rfl 0 rfl (by decide) (by decide) (by decide) (by decide) rfl (fun T_440 v_442 h_441 H_439 z_443 q_444 => ?_)
              obtain ⟨rfl, rfl⟩ := q_444
              show OEnds _ _ _ _ _ _ _ _ _ (mkF _ 73 #[.val (.ref a), .val (.int s0)] [(.int (own_v5 bs (i + 1)))])
              refine Own.if_eq H_439 (pc := 73) 80 d5_73 (by decide) (by decide) (fun hc73 => ?_) (fun hc73 => ?_)
              · refine Own.iconst H_439 (pc := 80) (0) d5_80 rfl ?_
                exact Own.ret_nar H_439 (pc := 81) (0) d5_81 rfl (by simp) (by decide) (by decide) (by decide) (⟨by simp [own_v6, *], rfl⟩)
              · refine Own.iconst H_439 (pc := 76) (1) d5_76 rfl ?_
                refine Own.goto H_439 (pc := 77) 81 d5_77 (by decide) (by decide) ?_
                exact Own.ret_nar H_439 (pc := 81) (1) d5_81 rfl (by simp) (by decide) (by decide) (by decide) (⟨by simp [own_v6, *], rfl⟩)
  · refine Own.aload_n H_355 (pc := 9) d5_9 rfl rfl ?_
    refine Own.iload_n H_355 (pc := 10) d5_10 rfl ?_
    refine Own.iconst H_355 (pc := 11) (4) d5_11 rfl ?_
    refine Own.iadd H_355 (pc := 12) d5_12 ?_
    refine Own.callS H_355 (pc := 13) (y := (⟨"termstone/store/Utf8IsUtf8PinLaw", "v2", "([BI)Z"⟩ : MethodName)) [(.ref a), (.int (s0 + (4 : Int32)))] [] d5_13 (hw _ (List.mem_of_getElem? (i := 30) rfl)) (hw _ (List.mem_of_getElem? (i := 31) rfl)) (hw _ (List.mem_of_getElem? (i := 7) rfl)) (hw _ (List.mem_of_getElem? (i := 32) rfl)) (by decide) (rm_v2 l Z a0 hw a (s0 + (4 : Int32)) _ n0 H_355.z0 bs hl A (i + 4) (own_addn hs rfl (by omega)) (by omega)) (r := (some .boolean)) (ps := [(.array .byte), .int]) (by decide) rfl rfl 0 rfl (by decide) (by decide) (by decide) (by decide) rfl (fun T_446 v_448 h_447 H_445 z_449 q_450 => ?_)
    obtain ⟨rfl, rfl⟩ := q_450
    show OEnds _ _ _ _ _ _ _ _ _ (mkF _ 16 #[.val (.ref a), .val (.int s0)] [(.int (own_v2 bs (i + 4)))])
    refine Own.if_ne H_445 (pc := 16) 76 d5_16 (by decide) (by decide) (fun hc16 => ?_) (fun hc16 => ?_)
    · refine Own.iconst H_445 (pc := 76) (1) d5_76 rfl ?_
      refine Own.goto H_445 (pc := 77) 81 d5_77 (by decide) (by decide) ?_
      exact Own.ret_nar H_445 (pc := 81) (1) d5_81 rfl (by simp) (by decide) (by decide) (by decide) (⟨by simp [own_v6, *], rfl⟩)
    · refine Own.aload_n H_445 (pc := 19) d5_19 rfl rfl ?_
      refine Own.iload_n H_445 (pc := 20) d5_20 rfl ?_
      refine Own.iconst H_445 (pc := 21) (3) d5_21 rfl ?_
      refine Own.callS H_445 (pc := 22) (y := (⟨"termstone/store/Utf8IsUtf8PinLaw", "c", "([BII)Z"⟩ : MethodName)) [(.ref a), (.int s0), (.int (3 : Int32))] [] d5_22 (hw _ (List.mem_of_getElem? (i := 12) rfl)) (hw _ (List.mem_of_getElem? (i := 13) rfl)) (hw _ (List.mem_of_getElem? (i := 7) rfl)) (hw _ (List.mem_of_getElem? (i := 14) rfl)) (by decide) (rm_c l Z a0 hw a s0 (3 : Int32) _ n0 H_445.z0 bs hl A i hs (by decide) (by show (i : Int) + 3 ≤ 8; omega)) (r := (some .boolean)) (ps := [(.array .byte), .int, .int]) (by decide) rfl rfl 0 rfl (by decide) (by decide) (by decide) (by decide) rfl (fun T_452 v_454 h_453 H_451 z_455 q_456 => ?_)
      obtain ⟨rfl, rfl⟩ := q_456
      show OEnds _ _ _ _ _ _ _ _ _ (mkF _ 25 #[.val (.ref a), .val (.int s0)] [(.int (own_c bs i (3 : Int32)))])
      refine Own.if_eq H_451 (pc := 25) 38 d5_25 (by decide) (by decide) (fun hc25 => ?_) (fun hc25 => ?_)
      · refine Own.aload_n H_451 (pc := 38) d5_38 rfl rfl ?_
        refine Own.iload_n H_451 (pc := 39) d5_39 rfl ?_
        refine Own.iconst H_451 (pc := 40) (2) d5_40 rfl ?_
        refine Own.callS H_451 (pc := 41) (y := (⟨"termstone/store/Utf8IsUtf8PinLaw", "c", "([BII)Z"⟩ : MethodName)) [(.ref a), (.int s0), (.int (2 : Int32))] [] d5_41 (hw _ (List.mem_of_getElem? (i := 12) rfl)) (hw _ (List.mem_of_getElem? (i := 13) rfl)) (hw _ (List.mem_of_getElem? (i := 7) rfl)) (hw _ (List.mem_of_getElem? (i := 14) rfl)) (by decide) (rm_c l Z a0 hw a s0 (2 : Int32) _ n0 H_451.z0 bs hl A i hs (by decide) (by show (i : Int) + 2 ≤ 8; omega)) (r := (some .boolean)) (ps := [(.array .byte), .int, .int]) (by decide) rfl rfl 0 rfl (by decide) (by decide) (by decide) (by decide) rfl (fun T_458 v_460 h_459 H_457 z_461 q_462 => ?_)
        obtain ⟨rfl, rfl⟩ := q_462
        show OEnds _ _ _ _ _ _ _ _ _ (mkF _ 44 #[.val (.ref a), .val (.int s0)] [(.int (own_c bs i (2 : Int32)))])
        refine Own.if_eq H_457 (pc := 44) 57 d5_44 (by decide) (by decide) (fun hc44 => ?_) (fun hc44 => ?_)
        · refine Own.aload_n H_457 (pc := 57) d5_57 rfl rfl ?_
          refine Own.iload_n H_457 (pc := 58) d5_58 rfl ?_
          refine Own.iconst H_457 (pc := 59) (1) d5_59 rfl ?_
          refine Own.callS H_457 (pc := 60) (y := (⟨"termstone/store/Utf8IsUtf8PinLaw", "c", "([BII)Z"⟩ : MethodName)) [(.ref a), (.int s0), (.int (1 : Int32))] [] d5_60 (hw _ (List.mem_of_getElem? (i := 12) rfl)) (hw _ (List.mem_of_getElem? (i := 13) rfl)) (hw _ (List.mem_of_getElem? (i := 7) rfl)) (hw _ (List.mem_of_getElem? (i := 14) rfl)) (by decide) (rm_c l Z a0 hw a s0 (1 : Int32) _ n0 H_457.z0 bs hl A i hs (by decide) (by show (i : Int) + 1 ≤ 8; omega)) (r := (some .boolean)) (ps := [(.array .byte), .int, .int]) (by decide) rfl rfl 0 rfl (by decide) (by decide) (by decide) (by decide) rfl (fun T_464 v_466 h_465 H_463 z_467 q_468 => ?_)
          obtain ⟨rfl, rfl⟩ := q_468
          show OEnds _ _ _ _ _ _ _ _ _ (mkF _ 63 #[.val (.ref a), .val (.int s0)] [(.int (own_c bs i (1 : Int32)))])
          refine Own.if_eq H_463 (pc := 63) 80 d5_63 (by decide) (by decide) (fun hc63 => ?_) (fun hc63 => ?_)
          · refine Own.iconst H_463 (pc := 80) (0) d5_80 rfl ?_
            exact Own.ret_nar H_463 (pc := 81) (0) d5_81 rfl (by simp) (by decide) (by decide) (by decide) (⟨by simp [own_v6, *], rfl⟩)
          · refine Own.aload_n H_463 (pc := 66) d5_66 rfl rfl ?_
            refine Own.iload_n H_463 (pc := 67) d5_67 rfl ?_
            refine Own.iconst H_463 (pc := 68) (1) d5_68 rfl ?_
            refine Own.iadd H_463 (pc := 69) d5_69 ?_
            refine Own.callS H_463 (pc := 70) (y := (⟨"termstone/store/Utf8IsUtf8PinLaw", "v5", "([BI)Z"⟩ : MethodName)) [(.ref a), (.int (s0 + (1 : Int32)))] [] d5_70 (hw _ (List.mem_of_getElem? (i := 21) rfl)) (hw _ (List.mem_of_getElem? (i := 22) rfl)) (hw _ (List.mem_of_getElem? (i := 7) rfl)) (hw _ (List.mem_of_getElem? (i := 23) rfl)) (by decide) (rm_v5 l Z a0 hw a (s0 + (1 : Int32)) _ n0 H_463.z0 bs hl A (i + 1) (own_addn hs rfl (by omega)) (by omega)) (r := (some .boolean)) (ps := [(.array .byte), .int]) (by decide) rfl rfl 0 rfl (by decide) (by decide) (by decide) (by decide) rfl (fun T_470 v_472 h_471 H_469 z_473 q_474 => ?_)
            obtain ⟨rfl, rfl⟩ := q_474
            show OEnds _ _ _ _ _ _ _ _ _ (mkF _ 73 #[.val (.ref a), .val (.int s0)] [(.int (own_v5 bs (i + 1)))])
            refine Own.if_eq H_469 (pc := 73) 80 d5_73 (by decide) (by decide) (fun hc73 => ?_) (fun hc73 => ?_)
            · refine Own.iconst H_469 (pc := 80) (0) d5_80 rfl ?_
              exact Own.ret_nar H_469 (pc := 81) (0) d5_81 rfl (by simp) (by decide) (by decide) (by decide) (⟨by simp [own_v6, *], rfl⟩)
            · refine Own.iconst H_469 (pc := 76) (1) d5_76 rfl ?_
              refine Own.goto H_469 (pc := 77) 81 d5_77 (by decide) (by decide) ?_
              exact Own.ret_nar H_469 (pc := 81) (1) d5_81 rfl (by simp) (by decide) (by decide) (by decide) (⟨by simp [own_v6, *], rfl⟩)
        · refine Own.aload_n H_457 (pc := 47) d5_47 rfl rfl ?_
          refine Own.iload_n H_457 (pc := 48) d5_48 rfl ?_
          refine Own.iconst H_457 (pc := 49) (2) d5_49 rfl ?_
          refine Own.iadd H_457 (pc := 50) d5_50 ?_
          refine Own.callS H_457 (pc := 51) (y := (⟨"termstone/store/Utf8IsUtf8PinLaw", "v4", "([BI)Z"⟩ : MethodName)) [(.ref a), (.int (s0 + (2 : Int32)))] [] d5_51 (hw _ (List.mem_of_getElem? (i := 24) rfl)) (hw _ (List.mem_of_getElem? (i := 25) rfl)) (hw _ (List.mem_of_getElem? (i := 7) rfl)) (hw _ (List.mem_of_getElem? (i := 26) rfl)) (by decide) (rm_v4 l Z a0 hw a (s0 + (2 : Int32)) _ n0 H_457.z0 bs hl A (i + 2) (own_addn hs rfl (by omega)) (by omega)) (r := (some .boolean)) (ps := [(.array .byte), .int]) (by decide) rfl rfl 0 rfl (by decide) (by decide) (by decide) (by decide) rfl (fun T_476 v_478 h_477 H_475 z_479 q_480 => ?_)
          obtain ⟨rfl, rfl⟩ := q_480
          show OEnds _ _ _ _ _ _ _ _ _ (mkF _ 54 #[.val (.ref a), .val (.int s0)] [(.int (own_v4 bs (i + 2)))])
          refine Own.if_ne H_475 (pc := 54) 76 d5_54 (by decide) (by decide) (fun hc54 => ?_) (fun hc54 => ?_)
          · refine Own.iconst H_475 (pc := 76) (1) d5_76 rfl ?_
            refine Own.goto H_475 (pc := 77) 81 d5_77 (by decide) (by decide) ?_
            exact Own.ret_nar H_475 (pc := 81) (1) d5_81 rfl (by simp) (by decide) (by decide) (by decide) (⟨by simp [own_v6, *], rfl⟩)
          · refine Own.aload_n H_475 (pc := 57) d5_57 rfl rfl ?_
            refine Own.iload_n H_475 (pc := 58) d5_58 rfl ?_
            refine Own.iconst H_475 (pc := 59) (1) d5_59 rfl ?_
            refine Own.callS H_475 (pc := 60) (y := (⟨"termstone/store/Utf8IsUtf8PinLaw", "c", "([BII)Z"⟩ : MethodName)) [(.ref a), (.int s0), (.int (1 : Int32))] [] d5_60 (hw _ (List.mem_of_getElem? (i := 12) rfl)) (hw _ (List.mem_of_getElem? (i := 13) rfl)) (hw _ (List.mem_of_getElem? (i := 7) rfl)) (hw _ (List.mem_of_getElem? (i := 14) rfl)) (by decide) (rm_c l Z a0 hw a s0 (1 : Int32) _ n0 H_475.z0 bs hl A i hs (by decide) (by show (i : Int) + 1 ≤ 8; omega)) (r := (some .boolean)) (ps := [(.array .byte), .int, .int]) (by decide) rfl rfl 0 rfl (by decide) (by decide) (by decide) (by decide) rfl (fun T_482 v_484 h_483 H_481 z_485 q_486 => ?_)
            obtain ⟨rfl, rfl⟩ := q_486
            show OEnds _ _ _ _ _ _ _ _ _ (mkF _ 63 #[.val (.ref a), .val (.int s0)] [(.int (own_c bs i (1 : Int32)))])
            refine Own.if_eq H_481 (pc := 63) 80 d5_63 (by decide) (by decide) (fun hc63 => ?_) (fun hc63 => ?_)
            · refine Own.iconst H_481 (pc := 80) (0) d5_80 rfl ?_
              exact Own.ret_nar H_481 (pc := 81) (0) d5_81 rfl (by simp) (by decide) (by decide) (by decide) (⟨by simp [own_v6, *], rfl⟩)
            · refine Own.aload_n H_481 (pc := 66) d5_66 rfl rfl ?_
              refine Own.iload_n H_481 (pc := 67) d5_67 rfl ?_
              refine Own.iconst H_481 (pc := 68) (1) d5_68 rfl ?_
              refine Own.iadd H_481 (pc := 69) d5_69 ?_
              refine Own.callS H_481 (pc := 70) (y := (⟨"termstone/store/Utf8IsUtf8PinLaw", "v5", "([BI)Z"⟩ : MethodName)) [(.ref a), (.int (s0 + (1 : Int32)))] [] d5_70 (hw _ (List.mem_of_getElem? (i := 21) rfl)) (hw _ (List.mem_of_getElem? (i := 22) rfl)) (hw _ (List.mem_of_getElem? (i := 7) rfl)) (hw _ (List.mem_of_getElem? (i := 23) rfl)) (by decide) (rm_v5 l Z a0 hw a (s0 + (1 : Int32)) _ n0 H_481.z0 bs hl A (i + 1) (own_addn hs rfl (by omega)) (by omega)) (r := (some .boolean)) (ps := [(.array .byte), .int]) (by decide) rfl rfl 0 rfl (by decide) (by decide) (by decide) (by decide) rfl (fun T_488 v_490 h_489 H_487 z_491 q_492 => ?_)
              obtain ⟨rfl, rfl⟩ := q_492
              show OEnds _ _ _ _ _ _ _ _ _ (mkF _ 73 #[.val (.ref a), .val (.int s0)] [(.int (own_v5 bs (i + 1)))])
              refine Own.if_eq H_487 (pc := 73) 80 d5_73 (by decide) (by decide) (fun hc73 => ?_) (fun hc73 => ?_)
              · refine Own.iconst H_487 (pc := 80) (0) d5_80 rfl ?_
                exact Own.ret_nar H_487 (pc := 81) (0) d5_81 rfl (by simp) (by decide) (by decide) (by decide) (⟨by simp [own_v6, *], rfl⟩)
              · refine Own.iconst H_487 (pc := 76) (1) d5_76 rfl ?_
                refine Own.goto H_487 (pc := 77) 81 d5_77 (by decide) (by decide) ?_
                exact Own.ret_nar H_487 (pc := 81) (1) d5_81 rfl (by simp) (by decide) (by decide) (by decide) (⟨by simp [own_v6, *], rfl⟩)
      · refine Own.aload_n H_451 (pc := 28) d5_28 rfl rfl ?_
        refine Own.iload_n H_451 (pc := 29) d5_29 rfl ?_
        refine Own.iconst H_451 (pc := 30) (3) d5_30 rfl ?_
        refine Own.iadd H_451 (pc := 31) d5_31 ?_
        refine Own.callS H_451 (pc := 32) (y := (⟨"termstone/store/Utf8IsUtf8PinLaw", "v3", "([BI)Z"⟩ : MethodName)) [(.ref a), (.int (s0 + (3 : Int32)))] [] d5_32 (hw _ (List.mem_of_getElem? (i := 27) rfl)) (hw _ (List.mem_of_getElem? (i := 28) rfl)) (hw _ (List.mem_of_getElem? (i := 7) rfl)) (hw _ (List.mem_of_getElem? (i := 29) rfl)) (by decide) (rm_v3 l Z a0 hw a (s0 + (3 : Int32)) _ n0 H_451.z0 bs hl A (i + 3) (own_addn hs rfl (by omega)) (by omega)) (r := (some .boolean)) (ps := [(.array .byte), .int]) (by decide) rfl rfl 0 rfl (by decide) (by decide) (by decide) (by decide) rfl (fun T_494 v_496 h_495 H_493 z_497 q_498 => ?_)
        obtain ⟨rfl, rfl⟩ := q_498
        show OEnds _ _ _ _ _ _ _ _ _ (mkF _ 35 #[.val (.ref a), .val (.int s0)] [(.int (own_v3 bs (i + 3)))])
        refine Own.if_ne H_493 (pc := 35) 76 d5_35 (by decide) (by decide) (fun hc35 => ?_) (fun hc35 => ?_)
        · refine Own.iconst H_493 (pc := 76) (1) d5_76 rfl ?_
          refine Own.goto H_493 (pc := 77) 81 d5_77 (by decide) (by decide) ?_
          exact Own.ret_nar H_493 (pc := 81) (1) d5_81 rfl (by simp) (by decide) (by decide) (by decide) (⟨by simp [own_v6, *], rfl⟩)
        · refine Own.aload_n H_493 (pc := 38) d5_38 rfl rfl ?_
          refine Own.iload_n H_493 (pc := 39) d5_39 rfl ?_
          refine Own.iconst H_493 (pc := 40) (2) d5_40 rfl ?_
          refine Own.callS H_493 (pc := 41) (y := (⟨"termstone/store/Utf8IsUtf8PinLaw", "c", "([BII)Z"⟩ : MethodName)) [(.ref a), (.int s0), (.int (2 : Int32))] [] d5_41 (hw _ (List.mem_of_getElem? (i := 12) rfl)) (hw _ (List.mem_of_getElem? (i := 13) rfl)) (hw _ (List.mem_of_getElem? (i := 7) rfl)) (hw _ (List.mem_of_getElem? (i := 14) rfl)) (by decide) (rm_c l Z a0 hw a s0 (2 : Int32) _ n0 H_493.z0 bs hl A i hs (by decide) (by show (i : Int) + 2 ≤ 8; omega)) (r := (some .boolean)) (ps := [(.array .byte), .int, .int]) (by decide) rfl rfl 0 rfl (by decide) (by decide) (by decide) (by decide) rfl (fun T_500 v_502 h_501 H_499 z_503 q_504 => ?_)
          obtain ⟨rfl, rfl⟩ := q_504
          show OEnds _ _ _ _ _ _ _ _ _ (mkF _ 44 #[.val (.ref a), .val (.int s0)] [(.int (own_c bs i (2 : Int32)))])
          refine Own.if_eq H_499 (pc := 44) 57 d5_44 (by decide) (by decide) (fun hc44 => ?_) (fun hc44 => ?_)
          · refine Own.aload_n H_499 (pc := 57) d5_57 rfl rfl ?_
            refine Own.iload_n H_499 (pc := 58) d5_58 rfl ?_
            refine Own.iconst H_499 (pc := 59) (1) d5_59 rfl ?_
            refine Own.callS H_499 (pc := 60) (y := (⟨"termstone/store/Utf8IsUtf8PinLaw", "c", "([BII)Z"⟩ : MethodName)) [(.ref a), (.int s0), (.int (1 : Int32))] [] d5_60 (hw _ (List.mem_of_getElem? (i := 12) rfl)) (hw _ (List.mem_of_getElem? (i := 13) rfl)) (hw _ (List.mem_of_getElem? (i := 7) rfl)) (hw _ (List.mem_of_getElem? (i := 14) rfl)) (by decide) (rm_c l Z a0 hw a s0 (1 : Int32) _ n0 H_499.z0 bs hl A i hs (by decide) (by show (i : Int) + 1 ≤ 8; omega)) (r := (some .boolean)) (ps := [(.array .byte), .int, .int]) (by decide) rfl rfl 0 rfl (by decide) (by decide) (by decide) (by decide) rfl (fun T_506 v_508 h_507 H_505 z_509 q_510 => ?_)
            obtain ⟨rfl, rfl⟩ := q_510
            show OEnds _ _ _ _ _ _ _ _ _ (mkF _ 63 #[.val (.ref a), .val (.int s0)] [(.int (own_c bs i (1 : Int32)))])
            refine Own.if_eq H_505 (pc := 63) 80 d5_63 (by decide) (by decide) (fun hc63 => ?_) (fun hc63 => ?_)
            · refine Own.iconst H_505 (pc := 80) (0) d5_80 rfl ?_
              exact Own.ret_nar H_505 (pc := 81) (0) d5_81 rfl (by simp) (by decide) (by decide) (by decide) (⟨by simp [own_v6, *], rfl⟩)
            · refine Own.aload_n H_505 (pc := 66) d5_66 rfl rfl ?_
              refine Own.iload_n H_505 (pc := 67) d5_67 rfl ?_
              refine Own.iconst H_505 (pc := 68) (1) d5_68 rfl ?_
              refine Own.iadd H_505 (pc := 69) d5_69 ?_
              refine Own.callS H_505 (pc := 70) (y := (⟨"termstone/store/Utf8IsUtf8PinLaw", "v5", "([BI)Z"⟩ : MethodName)) [(.ref a), (.int (s0 + (1 : Int32)))] [] d5_70 (hw _ (List.mem_of_getElem? (i := 21) rfl)) (hw _ (List.mem_of_getElem? (i := 22) rfl)) (hw _ (List.mem_of_getElem? (i := 7) rfl)) (hw _ (List.mem_of_getElem? (i := 23) rfl)) (by decide) (rm_v5 l Z a0 hw a (s0 + (1 : Int32)) _ n0 H_505.z0 bs hl A (i + 1) (own_addn hs rfl (by omega)) (by omega)) (r := (some .boolean)) (ps := [(.array .byte), .int]) (by decide) rfl rfl 0 rfl (by decide) (by decide) (by decide) (by decide) rfl (fun T_512 v_514 h_513 H_511 z_515 q_516 => ?_)
              obtain ⟨rfl, rfl⟩ := q_516
              show OEnds _ _ _ _ _ _ _ _ _ (mkF _ 73 #[.val (.ref a), .val (.int s0)] [(.int (own_v5 bs (i + 1)))])
              refine Own.if_eq H_511 (pc := 73) 80 d5_73 (by decide) (by decide) (fun hc73 => ?_) (fun hc73 => ?_)
              · refine Own.iconst H_511 (pc := 80) (0) d5_80 rfl ?_
                exact Own.ret_nar H_511 (pc := 81) (0) d5_81 rfl (by simp) (by decide) (by decide) (by decide) (⟨by simp [own_v6, *], rfl⟩)
              · refine Own.iconst H_511 (pc := 76) (1) d5_76 rfl ?_
                refine Own.goto H_511 (pc := 77) 81 d5_77 (by decide) (by decide) ?_
                exact Own.ret_nar H_511 (pc := 81) (1) d5_81 rfl (by simp) (by decide) (by decide) (by decide) (⟨by simp [own_v6, *], rfl⟩)
          · refine Own.aload_n H_499 (pc := 47) d5_47 rfl rfl ?_
            refine Own.iload_n H_499 (pc := 48) d5_48 rfl ?_
            refine Own.iconst H_499 (pc := 49) (2) d5_49 rfl ?_
            refine Own.iadd H_499 (pc := 50) d5_50 ?_
            refine Own.callS H_499 (pc := 51) (y := (⟨"termstone/store/Utf8IsUtf8PinLaw", "v4", "([BI)Z"⟩ : MethodName)) [(.ref a), (.int (s0 + (2 : Int32)))] [] d5_51 (hw _ (List.mem_of_getElem? (i := 24) rfl)) (hw _ (List.mem_of_getElem? (i := 25) rfl)) (hw _ (List.mem_of_getElem? (i := 7) rfl)) (hw _ (List.mem_of_getElem? (i := 26) rfl)) (by decide) (rm_v4 l Z a0 hw a (s0 + (2 : Int32)) _ n0 H_499.z0 bs hl A (i + 2) (own_addn hs rfl (by omega)) (by omega)) (r := (some .boolean)) (ps := [(.array .byte), .int]) (by decide) rfl rfl 0 rfl (by decide) (by decide) (by decide) (by decide) rfl (fun T_518 v_520 h_519 H_517 z_521 q_522 => ?_)
            obtain ⟨rfl, rfl⟩ := q_522
            show OEnds _ _ _ _ _ _ _ _ _ (mkF _ 54 #[.val (.ref a), .val (.int s0)] [(.int (own_v4 bs (i + 2)))])
            refine Own.if_ne H_517 (pc := 54) 76 d5_54 (by decide) (by decide) (fun hc54 => ?_) (fun hc54 => ?_)
            · refine Own.iconst H_517 (pc := 76) (1) d5_76 rfl ?_
              refine Own.goto H_517 (pc := 77) 81 d5_77 (by decide) (by decide) ?_
              exact Own.ret_nar H_517 (pc := 81) (1) d5_81 rfl (by simp) (by decide) (by decide) (by decide) (⟨by simp [own_v6, *], rfl⟩)
            · refine Own.aload_n H_517 (pc := 57) d5_57 rfl rfl ?_
              refine Own.iload_n H_517 (pc := 58) d5_58 rfl ?_
              refine Own.iconst H_517 (pc := 59) (1) d5_59 rfl ?_
              refine Own.callS H_517 (pc := 60) (y := (⟨"termstone/store/Utf8IsUtf8PinLaw", "c", "([BII)Z"⟩ : MethodName)) [(.ref a), (.int s0), (.int (1 : Int32))] [] d5_60 (hw _ (List.mem_of_getElem? (i := 12) rfl)) (hw _ (List.mem_of_getElem? (i := 13) rfl)) (hw _ (List.mem_of_getElem? (i := 7) rfl)) (hw _ (List.mem_of_getElem? (i := 14) rfl)) (by decide) (rm_c l Z a0 hw a s0 (1 : Int32) _ n0 H_517.z0 bs hl A i hs (by decide) (by show (i : Int) + 1 ≤ 8; omega)) (r := (some .boolean)) (ps := [(.array .byte), .int, .int]) (by decide) rfl rfl 0 rfl (by decide) (by decide) (by decide) (by decide) rfl (fun T_524 v_526 h_525 H_523 z_527 q_528 => ?_)
              obtain ⟨rfl, rfl⟩ := q_528
              show OEnds _ _ _ _ _ _ _ _ _ (mkF _ 63 #[.val (.ref a), .val (.int s0)] [(.int (own_c bs i (1 : Int32)))])
              refine Own.if_eq H_523 (pc := 63) 80 d5_63 (by decide) (by decide) (fun hc63 => ?_) (fun hc63 => ?_)
              · refine Own.iconst H_523 (pc := 80) (0) d5_80 rfl ?_
                exact Own.ret_nar H_523 (pc := 81) (0) d5_81 rfl (by simp) (by decide) (by decide) (by decide) (⟨by simp [own_v6, *], rfl⟩)
              · refine Own.aload_n H_523 (pc := 66) d5_66 rfl rfl ?_
                refine Own.iload_n H_523 (pc := 67) d5_67 rfl ?_
                refine Own.iconst H_523 (pc := 68) (1) d5_68 rfl ?_
                refine Own.iadd H_523 (pc := 69) d5_69 ?_
                refine Own.callS H_523 (pc := 70) (y := (⟨"termstone/store/Utf8IsUtf8PinLaw", "v5", "([BI)Z"⟩ : MethodName)) [(.ref a), (.int (s0 + (1 : Int32)))] [] d5_70 (hw _ (List.mem_of_getElem? (i := 21) rfl)) (hw _ (List.mem_of_getElem? (i := 22) rfl)) (hw _ (List.mem_of_getElem? (i := 7) rfl)) (hw _ (List.mem_of_getElem? (i := 23) rfl)) (by decide) (rm_v5 l Z a0 hw a (s0 + (1 : Int32)) _ n0 H_523.z0 bs hl A (i + 1) (own_addn hs rfl (by omega)) (by omega)) (r := (some .boolean)) (ps := [(.array .byte), .int]) (by decide) rfl rfl 0 rfl (by decide) (by decide) (by decide) (by decide) rfl (fun T_530 v_532 h_531 H_529 z_533 q_534 => ?_)
                obtain ⟨rfl, rfl⟩ := q_534
                show OEnds _ _ _ _ _ _ _ _ _ (mkF _ 73 #[.val (.ref a), .val (.int s0)] [(.int (own_v5 bs (i + 1)))])
                refine Own.if_eq H_529 (pc := 73) 80 d5_73 (by decide) (by decide) (fun hc73 => ?_) (fun hc73 => ?_)
                · refine Own.iconst H_529 (pc := 80) (0) d5_80 rfl ?_
                  exact Own.ret_nar H_529 (pc := 81) (0) d5_81 rfl (by simp) (by decide) (by decide) (by decide) (⟨by simp [own_v6, *], rfl⟩)
                · refine Own.iconst H_529 (pc := 76) (1) d5_76 rfl ?_
                  refine Own.goto H_529 (pc := 77) 81 d5_77 (by decide) (by decide) ?_
                  exact Own.ret_nar H_529 (pc := 81) (1) d5_81 rfl (by simp) (by decide) (by decide) (by decide) (⟨by simp [own_v6, *], rfl⟩)
theorem d11_0 : decode method_12_code 0 = .ok (.aload_n 0, 1) := by decide +kernel
theorem d11_1 : decode method_12_code 1 = .ok (.iload_n 1, 1) := by decide +kernel
theorem d11_2 : decode method_12_code 2 = .ok (.iconst 4, 1) := by decide +kernel
theorem d11_3 : decode method_12_code 3 = .ok (.invokestatic 51, 3) := by decide +kernel
theorem d11_6 : decode method_12_code 6 = .ok (.ifCond .eq 13, 3) := by decide +kernel
theorem d11_9 : decode method_12_code 9 = .ok (.aload_n 0, 1) := by decide +kernel
theorem d11_10 : decode method_12_code 10 = .ok (.iload_n 1, 1) := by decide +kernel
theorem d11_11 : decode method_12_code 11 = .ok (.iconst 4, 1) := by decide +kernel
theorem d11_12 : decode method_12_code 12 = .ok (.iadd, 1) := by decide +kernel
theorem d11_13 : decode method_12_code 13 = .ok (.invokestatic 33, 3) := by decide +kernel
theorem d11_16 : decode method_12_code 16 = .ok (.ifCond .ne 60, 3) := by decide +kernel
theorem d11_19 : decode method_12_code 19 = .ok (.aload_n 0, 1) := by decide +kernel
theorem d11_20 : decode method_12_code 20 = .ok (.iload_n 1, 1) := by decide +kernel
theorem d11_21 : decode method_12_code 21 = .ok (.iconst 3, 1) := by decide +kernel
theorem d11_22 : decode method_12_code 22 = .ok (.invokestatic 51, 3) := by decide +kernel
theorem d11_25 : decode method_12_code 25 = .ok (.ifCond .eq 13, 3) := by decide +kernel
theorem d11_28 : decode method_12_code 28 = .ok (.aload_n 0, 1) := by decide +kernel
theorem d11_29 : decode method_12_code 29 = .ok (.iload_n 1, 1) := by decide +kernel
theorem d11_30 : decode method_12_code 30 = .ok (.iconst 3, 1) := by decide +kernel
theorem d11_31 : decode method_12_code 31 = .ok (.iadd, 1) := by decide +kernel
theorem d11_32 : decode method_12_code 32 = .ok (.invokestatic 36, 3) := by decide +kernel
theorem d11_35 : decode method_12_code 35 = .ok (.ifCond .ne 41, 3) := by decide +kernel
theorem d11_38 : decode method_12_code 38 = .ok (.aload_n 0, 1) := by decide +kernel
theorem d11_39 : decode method_12_code 39 = .ok (.iload_n 1, 1) := by decide +kernel
theorem d11_40 : decode method_12_code 40 = .ok (.iconst 2, 1) := by decide +kernel
theorem d11_41 : decode method_12_code 41 = .ok (.invokestatic 51, 3) := by decide +kernel
theorem d11_44 : decode method_12_code 44 = .ok (.ifCond .eq 13, 3) := by decide +kernel
theorem d11_47 : decode method_12_code 47 = .ok (.aload_n 0, 1) := by decide +kernel
theorem d11_48 : decode method_12_code 48 = .ok (.iload_n 1, 1) := by decide +kernel
theorem d11_49 : decode method_12_code 49 = .ok (.iconst 2, 1) := by decide +kernel
theorem d11_50 : decode method_12_code 50 = .ok (.iadd, 1) := by decide +kernel
theorem d11_51 : decode method_12_code 51 = .ok (.invokestatic 39, 3) := by decide +kernel
theorem d11_54 : decode method_12_code 54 = .ok (.ifCond .ne 22, 3) := by decide +kernel
theorem d11_57 : decode method_12_code 57 = .ok (.aload_n 0, 1) := by decide +kernel
theorem d11_58 : decode method_12_code 58 = .ok (.iload_n 1, 1) := by decide +kernel
theorem d11_59 : decode method_12_code 59 = .ok (.iconst 1, 1) := by decide +kernel
theorem d11_60 : decode method_12_code 60 = .ok (.invokestatic 51, 3) := by decide +kernel
theorem d11_63 : decode method_12_code 63 = .ok (.ifCond .eq 17, 3) := by decide +kernel
theorem d11_66 : decode method_12_code 66 = .ok (.aload_n 0, 1) := by decide +kernel
theorem d11_67 : decode method_12_code 67 = .ok (.iload_n 1, 1) := by decide +kernel
theorem d11_68 : decode method_12_code 68 = .ok (.iconst 1, 1) := by decide +kernel
theorem d11_69 : decode method_12_code 69 = .ok (.iadd, 1) := by decide +kernel
theorem d11_70 : decode method_12_code 70 = .ok (.invokestatic 42, 3) := by decide +kernel
theorem d11_73 : decode method_12_code 73 = .ok (.ifCond .eq 7, 3) := by decide +kernel
theorem d11_76 : decode method_12_code 76 = .ok (.iconst 1, 1) := by decide +kernel
theorem d11_77 : decode method_12_code 77 = .ok (.goto 4, 3) := by decide +kernel
theorem d11_80 : decode method_12_code 80 = .ok (.iconst 0, 1) := by decide +kernel
theorem d11_81 : decode method_12_code 81 = .ok (.ireturn, 1) := by decide +kernel
theorem pn_rm_v7 : plainFor (⟨"termstone/store/Utf8IsUtf8PinLaw", "v7", "([BI)Z"⟩ : MethodName) = true := by first | exact plainFor_of_name (by first | (simp [plainName, overriddenIn]; done) | decide +kernel) | decide +kernel
theorem ef_rm_v7 (a : Nat) (s0 : Int32) (m : MethodId) : entryFrame m #[(.ref a), (.int s0)] 2 = mkF m 0 #[.val (.ref a), .val (.int s0)] [] := by first | (simp [entryFrame, mkF, argsToLocals, Value.category]; done) | rfl
set_option maxRecDepth 65536 in
set_option maxHeartbeats 40000000 in
theorem rm_v7 (l : Launch) (Z : State) (a0 : Array Value) (hw : ∀ d ∈ tables_1, d.before a0 Z = true) (a : Nat) (s0 : Int32) (h0 : Heap) (n0 : Nat) (Z0 : n0 ≤ h0.size) (bs : List Int32) (hl : bs.length = 8) (A : OAry Z h0 a .byte (bs.map Value.int)) (i : Nat) (hs : s0.toInt = (i : Int)) (hin : i + 7 ≤ 8) :
    OMet l Z n0 (⟨"termstone/store/Utf8IsUtf8PinLaw", "v7", "([BI)Z"⟩ : MethodName) method_12_code 2 (some .boolean) ({ frames := 8, cells := 0, slots := 0, locals := 109 } : Room) #[(.ref a), (.int s0)] h0 (fun v h => v = some (.int (own_v7 bs i)) ∧ h = h0) := by
  refine OMet.of pn_rm_v7 Z0 (ef_rm_v7 a s0) ?_
  intro p e s m below meth c T H
  refine Own.aload_n H (pc := 0) d11_0 rfl rfl ?_
  refine Own.iload_n H (pc := 1) d11_1 rfl ?_
  refine Own.iconst H (pc := 2) (4) d11_2 rfl ?_
  refine Own.callS H (pc := 3) (y := (⟨"termstone/store/Utf8IsUtf8PinLaw", "c", "([BII)Z"⟩ : MethodName)) [(.ref a), (.int s0), (.int (4 : Int32))] [] d11_3 (hw _ (List.mem_of_getElem? (i := 12) rfl)) (hw _ (List.mem_of_getElem? (i := 13) rfl)) (hw _ (List.mem_of_getElem? (i := 7) rfl)) (hw _ (List.mem_of_getElem? (i := 14) rfl)) (by decide) (rm_c l Z a0 hw a s0 (4 : Int32) _ n0 H.z0 bs hl A i hs (by decide) (by show (i : Int) + 4 ≤ 8; omega)) (r := (some .boolean)) (ps := [(.array .byte), .int, .int]) (by decide) rfl rfl 0 rfl (by decide) (by decide) (by decide) (by decide) rfl (fun T_536 v_538 h_537 H_535 z_539 q_540 => ?_)
  obtain ⟨rfl, rfl⟩ := q_540
  show OEnds _ _ _ _ _ _ _ _ _ (mkF _ 6 #[.val (.ref a), .val (.int s0)] [(.int (own_c bs i (4 : Int32)))])
  refine Own.if_eq H_535 (pc := 6) 19 d11_6 (by decide) (by decide) (fun hc6 => ?_) (fun hc6 => ?_)
  · refine Own.aload_n H_535 (pc := 19) d11_19 rfl rfl ?_
    refine Own.iload_n H_535 (pc := 20) d11_20 rfl ?_
    refine Own.iconst H_535 (pc := 21) (3) d11_21 rfl ?_
    refine Own.callS H_535 (pc := 22) (y := (⟨"termstone/store/Utf8IsUtf8PinLaw", "c", "([BII)Z"⟩ : MethodName)) [(.ref a), (.int s0), (.int (3 : Int32))] [] d11_22 (hw _ (List.mem_of_getElem? (i := 12) rfl)) (hw _ (List.mem_of_getElem? (i := 13) rfl)) (hw _ (List.mem_of_getElem? (i := 7) rfl)) (hw _ (List.mem_of_getElem? (i := 14) rfl)) (by decide) (rm_c l Z a0 hw a s0 (3 : Int32) _ n0 H_535.z0 bs hl A i hs (by decide) (by show (i : Int) + 3 ≤ 8; omega)) (r := (some .boolean)) (ps := [(.array .byte), .int, .int]) (by decide) rfl rfl 0 rfl (by decide) (by decide) (by decide) (by decide) rfl (fun T_542 v_544 h_543 H_541 z_545 q_546 => ?_)
    obtain ⟨rfl, rfl⟩ := q_546
    show OEnds _ _ _ _ _ _ _ _ _ (mkF _ 25 #[.val (.ref a), .val (.int s0)] [(.int (own_c bs i (3 : Int32)))])
    refine Own.if_eq H_541 (pc := 25) 38 d11_25 (by decide) (by decide) (fun hc25 => ?_) (fun hc25 => ?_)
    · refine Own.aload_n H_541 (pc := 38) d11_38 rfl rfl ?_
      refine Own.iload_n H_541 (pc := 39) d11_39 rfl ?_
      refine Own.iconst H_541 (pc := 40) (2) d11_40 rfl ?_
      refine Own.callS H_541 (pc := 41) (y := (⟨"termstone/store/Utf8IsUtf8PinLaw", "c", "([BII)Z"⟩ : MethodName)) [(.ref a), (.int s0), (.int (2 : Int32))] [] d11_41 (hw _ (List.mem_of_getElem? (i := 12) rfl)) (hw _ (List.mem_of_getElem? (i := 13) rfl)) (hw _ (List.mem_of_getElem? (i := 7) rfl)) (hw _ (List.mem_of_getElem? (i := 14) rfl)) (by decide) (rm_c l Z a0 hw a s0 (2 : Int32) _ n0 H_541.z0 bs hl A i hs (by decide) (by show (i : Int) + 2 ≤ 8; omega)) (r := (some .boolean)) (ps := [(.array .byte), .int, .int]) (by decide) rfl rfl 0 rfl (by decide) (by decide) (by decide) (by decide) rfl (fun T_548 v_550 h_549 H_547 z_551 q_552 => ?_)
      obtain ⟨rfl, rfl⟩ := q_552
      show OEnds _ _ _ _ _ _ _ _ _ (mkF _ 44 #[.val (.ref a), .val (.int s0)] [(.int (own_c bs i (2 : Int32)))])
      refine Own.if_eq H_547 (pc := 44) 57 d11_44 (by decide) (by decide) (fun hc44 => ?_) (fun hc44 => ?_)
      · refine Own.aload_n H_547 (pc := 57) d11_57 rfl rfl ?_
        refine Own.iload_n H_547 (pc := 58) d11_58 rfl ?_
        refine Own.iconst H_547 (pc := 59) (1) d11_59 rfl ?_
        refine Own.callS H_547 (pc := 60) (y := (⟨"termstone/store/Utf8IsUtf8PinLaw", "c", "([BII)Z"⟩ : MethodName)) [(.ref a), (.int s0), (.int (1 : Int32))] [] d11_60 (hw _ (List.mem_of_getElem? (i := 12) rfl)) (hw _ (List.mem_of_getElem? (i := 13) rfl)) (hw _ (List.mem_of_getElem? (i := 7) rfl)) (hw _ (List.mem_of_getElem? (i := 14) rfl)) (by decide) (rm_c l Z a0 hw a s0 (1 : Int32) _ n0 H_547.z0 bs hl A i hs (by decide) (by show (i : Int) + 1 ≤ 8; omega)) (r := (some .boolean)) (ps := [(.array .byte), .int, .int]) (by decide) rfl rfl 0 rfl (by decide) (by decide) (by decide) (by decide) rfl (fun T_554 v_556 h_555 H_553 z_557 q_558 => ?_)
        obtain ⟨rfl, rfl⟩ := q_558
        show OEnds _ _ _ _ _ _ _ _ _ (mkF _ 63 #[.val (.ref a), .val (.int s0)] [(.int (own_c bs i (1 : Int32)))])
        refine Own.if_eq H_553 (pc := 63) 80 d11_63 (by decide) (by decide) (fun hc63 => ?_) (fun hc63 => ?_)
        · refine Own.iconst H_553 (pc := 80) (0) d11_80 rfl ?_
          exact Own.ret_nar H_553 (pc := 81) (0) d11_81 rfl (by simp) (by decide) (by decide) (by decide) (⟨by simp [own_v7, *], rfl⟩)
        · refine Own.aload_n H_553 (pc := 66) d11_66 rfl rfl ?_
          refine Own.iload_n H_553 (pc := 67) d11_67 rfl ?_
          refine Own.iconst H_553 (pc := 68) (1) d11_68 rfl ?_
          refine Own.iadd H_553 (pc := 69) d11_69 ?_
          refine Own.callS H_553 (pc := 70) (y := (⟨"termstone/store/Utf8IsUtf8PinLaw", "v6", "([BI)Z"⟩ : MethodName)) [(.ref a), (.int (s0 + (1 : Int32)))] [] d11_70 (hw _ (List.mem_of_getElem? (i := 15) rfl)) (hw _ (List.mem_of_getElem? (i := 16) rfl)) (hw _ (List.mem_of_getElem? (i := 7) rfl)) (hw _ (List.mem_of_getElem? (i := 17) rfl)) (by decide) (rm_v6 l Z a0 hw a (s0 + (1 : Int32)) _ n0 H_553.z0 bs hl A (i + 1) (own_addn hs rfl (by omega)) (by omega)) (r := (some .boolean)) (ps := [(.array .byte), .int]) (by decide) rfl rfl 0 rfl (by decide) (by decide) (by decide) (by decide) rfl (fun T_560 v_562 h_561 H_559 z_563 q_564 => ?_)
          obtain ⟨rfl, rfl⟩ := q_564
          show OEnds _ _ _ _ _ _ _ _ _ (mkF _ 73 #[.val (.ref a), .val (.int s0)] [(.int (own_v6 bs (i + 1)))])
          refine Own.if_eq H_559 (pc := 73) 80 d11_73 (by decide) (by decide) (fun hc73 => ?_) (fun hc73 => ?_)
          · refine Own.iconst H_559 (pc := 80) (0) d11_80 rfl ?_
            exact Own.ret_nar H_559 (pc := 81) (0) d11_81 rfl (by simp) (by decide) (by decide) (by decide) (⟨by simp [own_v7, *], rfl⟩)
          · refine Own.iconst H_559 (pc := 76) (1) d11_76 rfl ?_
            refine Own.goto H_559 (pc := 77) 81 d11_77 (by decide) (by decide) ?_
            exact Own.ret_nar H_559 (pc := 81) (1) d11_81 rfl (by simp) (by decide) (by decide) (by decide) (⟨by simp [own_v7, *], rfl⟩)
      · refine Own.aload_n H_547 (pc := 47) d11_47 rfl rfl ?_
        refine Own.iload_n H_547 (pc := 48) d11_48 rfl ?_
        refine Own.iconst H_547 (pc := 49) (2) d11_49 rfl ?_
        refine Own.iadd H_547 (pc := 50) d11_50 ?_
        refine Own.callS H_547 (pc := 51) (y := (⟨"termstone/store/Utf8IsUtf8PinLaw", "v5", "([BI)Z"⟩ : MethodName)) [(.ref a), (.int (s0 + (2 : Int32)))] [] d11_51 (hw _ (List.mem_of_getElem? (i := 21) rfl)) (hw _ (List.mem_of_getElem? (i := 22) rfl)) (hw _ (List.mem_of_getElem? (i := 7) rfl)) (hw _ (List.mem_of_getElem? (i := 23) rfl)) (by decide) (rm_v5 l Z a0 hw a (s0 + (2 : Int32)) _ n0 H_547.z0 bs hl A (i + 2) (own_addn hs rfl (by omega)) (by omega)) (r := (some .boolean)) (ps := [(.array .byte), .int]) (by decide) rfl rfl 0 rfl (by decide) (by decide) (by decide) (by decide) rfl (fun T_566 v_568 h_567 H_565 z_569 q_570 => ?_)
        obtain ⟨rfl, rfl⟩ := q_570
        show OEnds _ _ _ _ _ _ _ _ _ (mkF _ 54 #[.val (.ref a), .val (.int s0)] [(.int (own_v5 bs (i + 2)))])
        refine Own.if_ne H_565 (pc := 54) 76 d11_54 (by decide) (by decide) (fun hc54 => ?_) (fun hc54 => ?_)
        · refine Own.iconst H_565 (pc := 76) (1) d11_76 rfl ?_
          refine Own.goto H_565 (pc := 77) 81 d11_77 (by decide) (by decide) ?_
          exact Own.ret_nar H_565 (pc := 81) (1) d11_81 rfl (by simp) (by decide) (by decide) (by decide) (⟨by simp [own_v7, *], rfl⟩)
        · refine Own.aload_n H_565 (pc := 57) d11_57 rfl rfl ?_
          refine Own.iload_n H_565 (pc := 58) d11_58 rfl ?_
          refine Own.iconst H_565 (pc := 59) (1) d11_59 rfl ?_
          refine Own.callS H_565 (pc := 60) (y := (⟨"termstone/store/Utf8IsUtf8PinLaw", "c", "([BII)Z"⟩ : MethodName)) [(.ref a), (.int s0), (.int (1 : Int32))] [] d11_60 (hw _ (List.mem_of_getElem? (i := 12) rfl)) (hw _ (List.mem_of_getElem? (i := 13) rfl)) (hw _ (List.mem_of_getElem? (i := 7) rfl)) (hw _ (List.mem_of_getElem? (i := 14) rfl)) (by decide) (rm_c l Z a0 hw a s0 (1 : Int32) _ n0 H_565.z0 bs hl A i hs (by decide) (by show (i : Int) + 1 ≤ 8; omega)) (r := (some .boolean)) (ps := [(.array .byte), .int, .int]) (by decide) rfl rfl 0 rfl (by decide) (by decide) (by decide) (by decide) rfl (fun T_572 v_574 h_573 H_571 z_575 q_576 => ?_)
          obtain ⟨rfl, rfl⟩ := q_576
          show OEnds _ _ _ _ _ _ _ _ _ (mkF _ 63 #[.val (.ref a), .val (.int s0)] [(.int (own_c bs i (1 : Int32)))])
          refine Own.if_eq H_571 (pc := 63) 80 d11_63 (by decide) (by decide) (fun hc63 => ?_) (fun hc63 => ?_)
          · refine Own.iconst H_571 (pc := 80) (0) d11_80 rfl ?_
            exact Own.ret_nar H_571 (pc := 81) (0) d11_81 rfl (by simp) (by decide) (by decide) (by decide) (⟨by simp [own_v7, *], rfl⟩)
          · refine Own.aload_n H_571 (pc := 66) d11_66 rfl rfl ?_
            refine Own.iload_n H_571 (pc := 67) d11_67 rfl ?_
            refine Own.iconst H_571 (pc := 68) (1) d11_68 rfl ?_
            refine Own.iadd H_571 (pc := 69) d11_69 ?_
            refine Own.callS H_571 (pc := 70) (y := (⟨"termstone/store/Utf8IsUtf8PinLaw", "v6", "([BI)Z"⟩ : MethodName)) [(.ref a), (.int (s0 + (1 : Int32)))] [] d11_70 (hw _ (List.mem_of_getElem? (i := 15) rfl)) (hw _ (List.mem_of_getElem? (i := 16) rfl)) (hw _ (List.mem_of_getElem? (i := 7) rfl)) (hw _ (List.mem_of_getElem? (i := 17) rfl)) (by decide) (rm_v6 l Z a0 hw a (s0 + (1 : Int32)) _ n0 H_571.z0 bs hl A (i + 1) (own_addn hs rfl (by omega)) (by omega)) (r := (some .boolean)) (ps := [(.array .byte), .int]) (by decide) rfl rfl 0 rfl (by decide) (by decide) (by decide) (by decide) rfl (fun T_578 v_580 h_579 H_577 z_581 q_582 => ?_)
            obtain ⟨rfl, rfl⟩ := q_582
            show OEnds _ _ _ _ _ _ _ _ _ (mkF _ 73 #[.val (.ref a), .val (.int s0)] [(.int (own_v6 bs (i + 1)))])
            refine Own.if_eq H_577 (pc := 73) 80 d11_73 (by decide) (by decide) (fun hc73 => ?_) (fun hc73 => ?_)
            · refine Own.iconst H_577 (pc := 80) (0) d11_80 rfl ?_
              exact Own.ret_nar H_577 (pc := 81) (0) d11_81 rfl (by simp) (by decide) (by decide) (by decide) (⟨by simp [own_v7, *], rfl⟩)
            · refine Own.iconst H_577 (pc := 76) (1) d11_76 rfl ?_
              refine Own.goto H_577 (pc := 77) 81 d11_77 (by decide) (by decide) ?_
              exact Own.ret_nar H_577 (pc := 81) (1) d11_81 rfl (by simp) (by decide) (by decide) (by decide) (⟨by simp [own_v7, *], rfl⟩)
    · refine Own.aload_n H_541 (pc := 28) d11_28 rfl rfl ?_
      refine Own.iload_n H_541 (pc := 29) d11_29 rfl ?_
      refine Own.iconst H_541 (pc := 30) (3) d11_30 rfl ?_
      refine Own.iadd H_541 (pc := 31) d11_31 ?_
      refine Own.callS H_541 (pc := 32) (y := (⟨"termstone/store/Utf8IsUtf8PinLaw", "v4", "([BI)Z"⟩ : MethodName)) [(.ref a), (.int (s0 + (3 : Int32)))] [] d11_32 (hw _ (List.mem_of_getElem? (i := 24) rfl)) (hw _ (List.mem_of_getElem? (i := 25) rfl)) (hw _ (List.mem_of_getElem? (i := 7) rfl)) (hw _ (List.mem_of_getElem? (i := 26) rfl)) (by decide) (rm_v4 l Z a0 hw a (s0 + (3 : Int32)) _ n0 H_541.z0 bs hl A (i + 3) (own_addn hs rfl (by omega)) (by omega)) (r := (some .boolean)) (ps := [(.array .byte), .int]) (by decide) rfl rfl 0 rfl (by decide) (by decide) (by decide) (by decide) rfl (fun T_584 v_586 h_585 H_583 z_587 q_588 => ?_)
      obtain ⟨rfl, rfl⟩ := q_588
      show OEnds _ _ _ _ _ _ _ _ _ (mkF _ 35 #[.val (.ref a), .val (.int s0)] [(.int (own_v4 bs (i + 3)))])
      refine Own.if_ne H_583 (pc := 35) 76 d11_35 (by decide) (by decide) (fun hc35 => ?_) (fun hc35 => ?_)
      · refine Own.iconst H_583 (pc := 76) (1) d11_76 rfl ?_
        refine Own.goto H_583 (pc := 77) 81 d11_77 (by decide) (by decide) ?_
        exact Own.ret_nar H_583 (pc := 81) (1) d11_81 rfl (by simp) (by decide) (by decide) (by decide) (⟨by simp [own_v7, *], rfl⟩)
      · refine Own.aload_n H_583 (pc := 38) d11_38 rfl rfl ?_
        refine Own.iload_n H_583 (pc := 39) d11_39 rfl ?_
        refine Own.iconst H_583 (pc := 40) (2) d11_40 rfl ?_
        refine Own.callS H_583 (pc := 41) (y := (⟨"termstone/store/Utf8IsUtf8PinLaw", "c", "([BII)Z"⟩ : MethodName)) [(.ref a), (.int s0), (.int (2 : Int32))] [] d11_41 (hw _ (List.mem_of_getElem? (i := 12) rfl)) (hw _ (List.mem_of_getElem? (i := 13) rfl)) (hw _ (List.mem_of_getElem? (i := 7) rfl)) (hw _ (List.mem_of_getElem? (i := 14) rfl)) (by decide) (rm_c l Z a0 hw a s0 (2 : Int32) _ n0 H_583.z0 bs hl A i hs (by decide) (by show (i : Int) + 2 ≤ 8; omega)) (r := (some .boolean)) (ps := [(.array .byte), .int, .int]) (by decide) rfl rfl 0 rfl (by decide) (by decide) (by decide) (by decide) rfl (fun T_590 v_592 h_591 H_589 z_593 q_594 => ?_)
        obtain ⟨rfl, rfl⟩ := q_594
        show OEnds _ _ _ _ _ _ _ _ _ (mkF _ 44 #[.val (.ref a), .val (.int s0)] [(.int (own_c bs i (2 : Int32)))])
        refine Own.if_eq H_589 (pc := 44) 57 d11_44 (by decide) (by decide) (fun hc44 => ?_) (fun hc44 => ?_)
        · refine Own.aload_n H_589 (pc := 57) d11_57 rfl rfl ?_
          refine Own.iload_n H_589 (pc := 58) d11_58 rfl ?_
          refine Own.iconst H_589 (pc := 59) (1) d11_59 rfl ?_
          refine Own.callS H_589 (pc := 60) (y := (⟨"termstone/store/Utf8IsUtf8PinLaw", "c", "([BII)Z"⟩ : MethodName)) [(.ref a), (.int s0), (.int (1 : Int32))] [] d11_60 (hw _ (List.mem_of_getElem? (i := 12) rfl)) (hw _ (List.mem_of_getElem? (i := 13) rfl)) (hw _ (List.mem_of_getElem? (i := 7) rfl)) (hw _ (List.mem_of_getElem? (i := 14) rfl)) (by decide) (rm_c l Z a0 hw a s0 (1 : Int32) _ n0 H_589.z0 bs hl A i hs (by decide) (by show (i : Int) + 1 ≤ 8; omega)) (r := (some .boolean)) (ps := [(.array .byte), .int, .int]) (by decide) rfl rfl 0 rfl (by decide) (by decide) (by decide) (by decide) rfl (fun T_596 v_598 h_597 H_595 z_599 q_600 => ?_)
          obtain ⟨rfl, rfl⟩ := q_600
          show OEnds _ _ _ _ _ _ _ _ _ (mkF _ 63 #[.val (.ref a), .val (.int s0)] [(.int (own_c bs i (1 : Int32)))])
          refine Own.if_eq H_595 (pc := 63) 80 d11_63 (by decide) (by decide) (fun hc63 => ?_) (fun hc63 => ?_)
          · refine Own.iconst H_595 (pc := 80) (0) d11_80 rfl ?_
            exact Own.ret_nar H_595 (pc := 81) (0) d11_81 rfl (by simp) (by decide) (by decide) (by decide) (⟨by simp [own_v7, *], rfl⟩)
          · refine Own.aload_n H_595 (pc := 66) d11_66 rfl rfl ?_
            refine Own.iload_n H_595 (pc := 67) d11_67 rfl ?_
            refine Own.iconst H_595 (pc := 68) (1) d11_68 rfl ?_
            refine Own.iadd H_595 (pc := 69) d11_69 ?_
            refine Own.callS H_595 (pc := 70) (y := (⟨"termstone/store/Utf8IsUtf8PinLaw", "v6", "([BI)Z"⟩ : MethodName)) [(.ref a), (.int (s0 + (1 : Int32)))] [] d11_70 (hw _ (List.mem_of_getElem? (i := 15) rfl)) (hw _ (List.mem_of_getElem? (i := 16) rfl)) (hw _ (List.mem_of_getElem? (i := 7) rfl)) (hw _ (List.mem_of_getElem? (i := 17) rfl)) (by decide) (rm_v6 l Z a0 hw a (s0 + (1 : Int32)) _ n0 H_595.z0 bs hl A (i + 1) (own_addn hs rfl (by omega)) (by omega)) (r := (some .boolean)) (ps := [(.array .byte), .int]) (by decide) rfl rfl 0 rfl (by decide) (by decide) (by decide) (by decide) rfl (fun T_602 v_604 h_603 H_601 z_605 q_606 => ?_)
            obtain ⟨rfl, rfl⟩ := q_606
            show OEnds _ _ _ _ _ _ _ _ _ (mkF _ 73 #[.val (.ref a), .val (.int s0)] [(.int (own_v6 bs (i + 1)))])
            refine Own.if_eq H_601 (pc := 73) 80 d11_73 (by decide) (by decide) (fun hc73 => ?_) (fun hc73 => ?_)
            · refine Own.iconst H_601 (pc := 80) (0) d11_80 rfl ?_
              exact Own.ret_nar H_601 (pc := 81) (0) d11_81 rfl (by simp) (by decide) (by decide) (by decide) (⟨by simp [own_v7, *], rfl⟩)
            · refine Own.iconst H_601 (pc := 76) (1) d11_76 rfl ?_
              refine Own.goto H_601 (pc := 77) 81 d11_77 (by decide) (by decide) ?_
              exact Own.ret_nar H_601 (pc := 81) (1) d11_81 rfl (by simp) (by decide) (by decide) (by decide) (⟨by simp [own_v7, *], rfl⟩)
        · refine Own.aload_n H_589 (pc := 47) d11_47 rfl rfl ?_
          refine Own.iload_n H_589 (pc := 48) d11_48 rfl ?_
          refine Own.iconst H_589 (pc := 49) (2) d11_49 rfl ?_
          refine Own.iadd H_589 (pc := 50) d11_50 ?_
          refine Own.callS H_589 (pc := 51) (y := (⟨"termstone/store/Utf8IsUtf8PinLaw", "v5", "([BI)Z"⟩ : MethodName)) [(.ref a), (.int (s0 + (2 : Int32)))] [] d11_51 (hw _ (List.mem_of_getElem? (i := 21) rfl)) (hw _ (List.mem_of_getElem? (i := 22) rfl)) (hw _ (List.mem_of_getElem? (i := 7) rfl)) (hw _ (List.mem_of_getElem? (i := 23) rfl)) (by decide) (rm_v5 l Z a0 hw a (s0 + (2 : Int32)) _ n0 H_589.z0 bs hl A (i + 2) (own_addn hs rfl (by omega)) (by omega)) (r := (some .boolean)) (ps := [(.array .byte), .int]) (by decide) rfl rfl 0 rfl (by decide) (by decide) (by decide) (by decide) rfl (fun T_608 v_610 h_609 H_607 z_611 q_612 => ?_)
          obtain ⟨rfl, rfl⟩ := q_612
          show OEnds _ _ _ _ _ _ _ _ _ (mkF _ 54 #[.val (.ref a), .val (.int s0)] [(.int (own_v5 bs (i + 2)))])
          refine Own.if_ne H_607 (pc := 54) 76 d11_54 (by decide) (by decide) (fun hc54 => ?_) (fun hc54 => ?_)
          · refine Own.iconst H_607 (pc := 76) (1) d11_76 rfl ?_
            refine Own.goto H_607 (pc := 77) 81 d11_77 (by decide) (by decide) ?_
            exact Own.ret_nar H_607 (pc := 81) (1) d11_81 rfl (by simp) (by decide) (by decide) (by decide) (⟨by simp [own_v7, *], rfl⟩)
          · refine Own.aload_n H_607 (pc := 57) d11_57 rfl rfl ?_
            refine Own.iload_n H_607 (pc := 58) d11_58 rfl ?_
            refine Own.iconst H_607 (pc := 59) (1) d11_59 rfl ?_
            refine Own.callS H_607 (pc := 60) (y := (⟨"termstone/store/Utf8IsUtf8PinLaw", "c", "([BII)Z"⟩ : MethodName)) [(.ref a), (.int s0), (.int (1 : Int32))] [] d11_60 (hw _ (List.mem_of_getElem? (i := 12) rfl)) (hw _ (List.mem_of_getElem? (i := 13) rfl)) (hw _ (List.mem_of_getElem? (i := 7) rfl)) (hw _ (List.mem_of_getElem? (i := 14) rfl)) (by decide) (rm_c l Z a0 hw a s0 (1 : Int32) _ n0 H_607.z0 bs hl A i hs (by decide) (by show (i : Int) + 1 ≤ 8; omega)) (r := (some .boolean)) (ps := [(.array .byte), .int, .int]) (by decide) rfl rfl 0 rfl (by decide) (by decide) (by decide) (by decide) rfl (fun T_614 v_616 h_615 H_613 z_617 q_618 => ?_)
            obtain ⟨rfl, rfl⟩ := q_618
            show OEnds _ _ _ _ _ _ _ _ _ (mkF _ 63 #[.val (.ref a), .val (.int s0)] [(.int (own_c bs i (1 : Int32)))])
            refine Own.if_eq H_613 (pc := 63) 80 d11_63 (by decide) (by decide) (fun hc63 => ?_) (fun hc63 => ?_)
            · refine Own.iconst H_613 (pc := 80) (0) d11_80 rfl ?_
              exact Own.ret_nar H_613 (pc := 81) (0) d11_81 rfl (by simp) (by decide) (by decide) (by decide) (⟨by simp [own_v7, *], rfl⟩)
            · refine Own.aload_n H_613 (pc := 66) d11_66 rfl rfl ?_
              refine Own.iload_n H_613 (pc := 67) d11_67 rfl ?_
              refine Own.iconst H_613 (pc := 68) (1) d11_68 rfl ?_
              refine Own.iadd H_613 (pc := 69) d11_69 ?_
              refine Own.callS H_613 (pc := 70) (y := (⟨"termstone/store/Utf8IsUtf8PinLaw", "v6", "([BI)Z"⟩ : MethodName)) [(.ref a), (.int (s0 + (1 : Int32)))] [] d11_70 (hw _ (List.mem_of_getElem? (i := 15) rfl)) (hw _ (List.mem_of_getElem? (i := 16) rfl)) (hw _ (List.mem_of_getElem? (i := 7) rfl)) (hw _ (List.mem_of_getElem? (i := 17) rfl)) (by decide) (rm_v6 l Z a0 hw a (s0 + (1 : Int32)) _ n0 H_613.z0 bs hl A (i + 1) (own_addn hs rfl (by omega)) (by omega)) (r := (some .boolean)) (ps := [(.array .byte), .int]) (by decide) rfl rfl 0 rfl (by decide) (by decide) (by decide) (by decide) rfl (fun T_620 v_622 h_621 H_619 z_623 q_624 => ?_)
              obtain ⟨rfl, rfl⟩ := q_624
              show OEnds _ _ _ _ _ _ _ _ _ (mkF _ 73 #[.val (.ref a), .val (.int s0)] [(.int (own_v6 bs (i + 1)))])
              refine Own.if_eq H_619 (pc := 73) 80 d11_73 (by decide) (by decide) (fun hc73 => ?_) (fun hc73 => ?_)
              · refine Own.iconst H_619 (pc := 80) (0) d11_80 rfl ?_
                exact Own.ret_nar H_619 (pc := 81) (0) d11_81 rfl (by simp) (by decide) (by decide) (by decide) (⟨by simp [own_v7, *], rfl⟩)
              · refine Own.iconst H_619 (pc := 76) (1) d11_76 rfl ?_
                refine Own.goto H_619 (pc := 77) 81 d11_77 (by decide) (by decide) ?_
                exact Own.ret_nar H_619 (pc := 81) (1) d11_81 rfl (by simp) (by decide) (by decide) (by decide) (⟨by simp [own_v7, *], rfl⟩)
  · refine Own.aload_n H_535 (pc := 9) d11_9 rfl rfl ?_
    refine Own.iload_n H_535 (pc := 10) d11_10 rfl ?_
    refine Own.iconst H_535 (pc := 11) (4) d11_11 rfl ?_
    refine Own.iadd H_535 (pc := 12) d11_12 ?_
    refine Own.callS H_535 (pc := 13) (y := (⟨"termstone/store/Utf8IsUtf8PinLaw", "v3", "([BI)Z"⟩ : MethodName)) [(.ref a), (.int (s0 + (4 : Int32)))] [] d11_13 (hw _ (List.mem_of_getElem? (i := 27) rfl)) (hw _ (List.mem_of_getElem? (i := 28) rfl)) (hw _ (List.mem_of_getElem? (i := 7) rfl)) (hw _ (List.mem_of_getElem? (i := 29) rfl)) (by decide) (rm_v3 l Z a0 hw a (s0 + (4 : Int32)) _ n0 H_535.z0 bs hl A (i + 4) (own_addn hs rfl (by omega)) (by omega)) (r := (some .boolean)) (ps := [(.array .byte), .int]) (by decide) rfl rfl 0 rfl (by decide) (by decide) (by decide) (by decide) rfl (fun T_626 v_628 h_627 H_625 z_629 q_630 => ?_)
    obtain ⟨rfl, rfl⟩ := q_630
    show OEnds _ _ _ _ _ _ _ _ _ (mkF _ 16 #[.val (.ref a), .val (.int s0)] [(.int (own_v3 bs (i + 4)))])
    refine Own.if_ne H_625 (pc := 16) 76 d11_16 (by decide) (by decide) (fun hc16 => ?_) (fun hc16 => ?_)
    · refine Own.iconst H_625 (pc := 76) (1) d11_76 rfl ?_
      refine Own.goto H_625 (pc := 77) 81 d11_77 (by decide) (by decide) ?_
      exact Own.ret_nar H_625 (pc := 81) (1) d11_81 rfl (by simp) (by decide) (by decide) (by decide) (⟨by simp [own_v7, *], rfl⟩)
    · refine Own.aload_n H_625 (pc := 19) d11_19 rfl rfl ?_
      refine Own.iload_n H_625 (pc := 20) d11_20 rfl ?_
      refine Own.iconst H_625 (pc := 21) (3) d11_21 rfl ?_
      refine Own.callS H_625 (pc := 22) (y := (⟨"termstone/store/Utf8IsUtf8PinLaw", "c", "([BII)Z"⟩ : MethodName)) [(.ref a), (.int s0), (.int (3 : Int32))] [] d11_22 (hw _ (List.mem_of_getElem? (i := 12) rfl)) (hw _ (List.mem_of_getElem? (i := 13) rfl)) (hw _ (List.mem_of_getElem? (i := 7) rfl)) (hw _ (List.mem_of_getElem? (i := 14) rfl)) (by decide) (rm_c l Z a0 hw a s0 (3 : Int32) _ n0 H_625.z0 bs hl A i hs (by decide) (by show (i : Int) + 3 ≤ 8; omega)) (r := (some .boolean)) (ps := [(.array .byte), .int, .int]) (by decide) rfl rfl 0 rfl (by decide) (by decide) (by decide) (by decide) rfl (fun T_632 v_634 h_633 H_631 z_635 q_636 => ?_)
      obtain ⟨rfl, rfl⟩ := q_636
      show OEnds _ _ _ _ _ _ _ _ _ (mkF _ 25 #[.val (.ref a), .val (.int s0)] [(.int (own_c bs i (3 : Int32)))])
      refine Own.if_eq H_631 (pc := 25) 38 d11_25 (by decide) (by decide) (fun hc25 => ?_) (fun hc25 => ?_)
      · refine Own.aload_n H_631 (pc := 38) d11_38 rfl rfl ?_
        refine Own.iload_n H_631 (pc := 39) d11_39 rfl ?_
        refine Own.iconst H_631 (pc := 40) (2) d11_40 rfl ?_
        refine Own.callS H_631 (pc := 41) (y := (⟨"termstone/store/Utf8IsUtf8PinLaw", "c", "([BII)Z"⟩ : MethodName)) [(.ref a), (.int s0), (.int (2 : Int32))] [] d11_41 (hw _ (List.mem_of_getElem? (i := 12) rfl)) (hw _ (List.mem_of_getElem? (i := 13) rfl)) (hw _ (List.mem_of_getElem? (i := 7) rfl)) (hw _ (List.mem_of_getElem? (i := 14) rfl)) (by decide) (rm_c l Z a0 hw a s0 (2 : Int32) _ n0 H_631.z0 bs hl A i hs (by decide) (by show (i : Int) + 2 ≤ 8; omega)) (r := (some .boolean)) (ps := [(.array .byte), .int, .int]) (by decide) rfl rfl 0 rfl (by decide) (by decide) (by decide) (by decide) rfl (fun T_638 v_640 h_639 H_637 z_641 q_642 => ?_)
        obtain ⟨rfl, rfl⟩ := q_642
        show OEnds _ _ _ _ _ _ _ _ _ (mkF _ 44 #[.val (.ref a), .val (.int s0)] [(.int (own_c bs i (2 : Int32)))])
        refine Own.if_eq H_637 (pc := 44) 57 d11_44 (by decide) (by decide) (fun hc44 => ?_) (fun hc44 => ?_)
        · refine Own.aload_n H_637 (pc := 57) d11_57 rfl rfl ?_
          refine Own.iload_n H_637 (pc := 58) d11_58 rfl ?_
          refine Own.iconst H_637 (pc := 59) (1) d11_59 rfl ?_
          refine Own.callS H_637 (pc := 60) (y := (⟨"termstone/store/Utf8IsUtf8PinLaw", "c", "([BII)Z"⟩ : MethodName)) [(.ref a), (.int s0), (.int (1 : Int32))] [] d11_60 (hw _ (List.mem_of_getElem? (i := 12) rfl)) (hw _ (List.mem_of_getElem? (i := 13) rfl)) (hw _ (List.mem_of_getElem? (i := 7) rfl)) (hw _ (List.mem_of_getElem? (i := 14) rfl)) (by decide) (rm_c l Z a0 hw a s0 (1 : Int32) _ n0 H_637.z0 bs hl A i hs (by decide) (by show (i : Int) + 1 ≤ 8; omega)) (r := (some .boolean)) (ps := [(.array .byte), .int, .int]) (by decide) rfl rfl 0 rfl (by decide) (by decide) (by decide) (by decide) rfl (fun T_644 v_646 h_645 H_643 z_647 q_648 => ?_)
          obtain ⟨rfl, rfl⟩ := q_648
          show OEnds _ _ _ _ _ _ _ _ _ (mkF _ 63 #[.val (.ref a), .val (.int s0)] [(.int (own_c bs i (1 : Int32)))])
          refine Own.if_eq H_643 (pc := 63) 80 d11_63 (by decide) (by decide) (fun hc63 => ?_) (fun hc63 => ?_)
          · refine Own.iconst H_643 (pc := 80) (0) d11_80 rfl ?_
            exact Own.ret_nar H_643 (pc := 81) (0) d11_81 rfl (by simp) (by decide) (by decide) (by decide) (⟨by simp [own_v7, *], rfl⟩)
          · refine Own.aload_n H_643 (pc := 66) d11_66 rfl rfl ?_
            refine Own.iload_n H_643 (pc := 67) d11_67 rfl ?_
            refine Own.iconst H_643 (pc := 68) (1) d11_68 rfl ?_
            refine Own.iadd H_643 (pc := 69) d11_69 ?_
            refine Own.callS H_643 (pc := 70) (y := (⟨"termstone/store/Utf8IsUtf8PinLaw", "v6", "([BI)Z"⟩ : MethodName)) [(.ref a), (.int (s0 + (1 : Int32)))] [] d11_70 (hw _ (List.mem_of_getElem? (i := 15) rfl)) (hw _ (List.mem_of_getElem? (i := 16) rfl)) (hw _ (List.mem_of_getElem? (i := 7) rfl)) (hw _ (List.mem_of_getElem? (i := 17) rfl)) (by decide) (rm_v6 l Z a0 hw a (s0 + (1 : Int32)) _ n0 H_643.z0 bs hl A (i + 1) (own_addn hs rfl (by omega)) (by omega)) (r := (some .boolean)) (ps := [(.array .byte), .int]) (by decide) rfl rfl 0 rfl (by decide) (by decide) (by decide) (by decide) rfl (fun T_650 v_652 h_651 H_649 z_653 q_654 => ?_)
            obtain ⟨rfl, rfl⟩ := q_654
            show OEnds _ _ _ _ _ _ _ _ _ (mkF _ 73 #[.val (.ref a), .val (.int s0)] [(.int (own_v6 bs (i + 1)))])
            refine Own.if_eq H_649 (pc := 73) 80 d11_73 (by decide) (by decide) (fun hc73 => ?_) (fun hc73 => ?_)
            · refine Own.iconst H_649 (pc := 80) (0) d11_80 rfl ?_
              exact Own.ret_nar H_649 (pc := 81) (0) d11_81 rfl (by simp) (by decide) (by decide) (by decide) (⟨by simp [own_v7, *], rfl⟩)
            · refine Own.iconst H_649 (pc := 76) (1) d11_76 rfl ?_
              refine Own.goto H_649 (pc := 77) 81 d11_77 (by decide) (by decide) ?_
              exact Own.ret_nar H_649 (pc := 81) (1) d11_81 rfl (by simp) (by decide) (by decide) (by decide) (⟨by simp [own_v7, *], rfl⟩)
        · refine Own.aload_n H_637 (pc := 47) d11_47 rfl rfl ?_
          refine Own.iload_n H_637 (pc := 48) d11_48 rfl ?_
          refine Own.iconst H_637 (pc := 49) (2) d11_49 rfl ?_
          refine Own.iadd H_637 (pc := 50) d11_50 ?_
          refine Own.callS H_637 (pc := 51) (y := (⟨"termstone/store/Utf8IsUtf8PinLaw", "v5", "([BI)Z"⟩ : MethodName)) [(.ref a), (.int (s0 + (2 : Int32)))] [] d11_51 (hw _ (List.mem_of_getElem? (i := 21) rfl)) (hw _ (List.mem_of_getElem? (i := 22) rfl)) (hw _ (List.mem_of_getElem? (i := 7) rfl)) (hw _ (List.mem_of_getElem? (i := 23) rfl)) (by decide) (rm_v5 l Z a0 hw a (s0 + (2 : Int32)) _ n0 H_637.z0 bs hl A (i + 2) (own_addn hs rfl (by omega)) (by omega)) (r := (some .boolean)) (ps := [(.array .byte), .int]) (by decide) rfl rfl 0 rfl (by decide) (by decide) (by decide) (by decide) rfl (fun T_656 v_658 h_657 H_655 z_659 q_660 => ?_)
          obtain ⟨rfl, rfl⟩ := q_660
          show OEnds _ _ _ _ _ _ _ _ _ (mkF _ 54 #[.val (.ref a), .val (.int s0)] [(.int (own_v5 bs (i + 2)))])
          refine Own.if_ne H_655 (pc := 54) 76 d11_54 (by decide) (by decide) (fun hc54 => ?_) (fun hc54 => ?_)
          · refine Own.iconst H_655 (pc := 76) (1) d11_76 rfl ?_
            refine Own.goto H_655 (pc := 77) 81 d11_77 (by decide) (by decide) ?_
            exact Own.ret_nar H_655 (pc := 81) (1) d11_81 rfl (by simp) (by decide) (by decide) (by decide) (⟨by simp [own_v7, *], rfl⟩)
          · refine Own.aload_n H_655 (pc := 57) d11_57 rfl rfl ?_
            refine Own.iload_n H_655 (pc := 58) d11_58 rfl ?_
            refine Own.iconst H_655 (pc := 59) (1) d11_59 rfl ?_
            refine Own.callS H_655 (pc := 60) (y := (⟨"termstone/store/Utf8IsUtf8PinLaw", "c", "([BII)Z"⟩ : MethodName)) [(.ref a), (.int s0), (.int (1 : Int32))] [] d11_60 (hw _ (List.mem_of_getElem? (i := 12) rfl)) (hw _ (List.mem_of_getElem? (i := 13) rfl)) (hw _ (List.mem_of_getElem? (i := 7) rfl)) (hw _ (List.mem_of_getElem? (i := 14) rfl)) (by decide) (rm_c l Z a0 hw a s0 (1 : Int32) _ n0 H_655.z0 bs hl A i hs (by decide) (by show (i : Int) + 1 ≤ 8; omega)) (r := (some .boolean)) (ps := [(.array .byte), .int, .int]) (by decide) rfl rfl 0 rfl (by decide) (by decide) (by decide) (by decide) rfl (fun T_662 v_664 h_663 H_661 z_665 q_666 => ?_)
            obtain ⟨rfl, rfl⟩ := q_666
            show OEnds _ _ _ _ _ _ _ _ _ (mkF _ 63 #[.val (.ref a), .val (.int s0)] [(.int (own_c bs i (1 : Int32)))])
            refine Own.if_eq H_661 (pc := 63) 80 d11_63 (by decide) (by decide) (fun hc63 => ?_) (fun hc63 => ?_)
            · refine Own.iconst H_661 (pc := 80) (0) d11_80 rfl ?_
              exact Own.ret_nar H_661 (pc := 81) (0) d11_81 rfl (by simp) (by decide) (by decide) (by decide) (⟨by simp [own_v7, *], rfl⟩)
            · refine Own.aload_n H_661 (pc := 66) d11_66 rfl rfl ?_
              refine Own.iload_n H_661 (pc := 67) d11_67 rfl ?_
              refine Own.iconst H_661 (pc := 68) (1) d11_68 rfl ?_
              refine Own.iadd H_661 (pc := 69) d11_69 ?_
              refine Own.callS H_661 (pc := 70) (y := (⟨"termstone/store/Utf8IsUtf8PinLaw", "v6", "([BI)Z"⟩ : MethodName)) [(.ref a), (.int (s0 + (1 : Int32)))] [] d11_70 (hw _ (List.mem_of_getElem? (i := 15) rfl)) (hw _ (List.mem_of_getElem? (i := 16) rfl)) (hw _ (List.mem_of_getElem? (i := 7) rfl)) (hw _ (List.mem_of_getElem? (i := 17) rfl)) (by decide) (rm_v6 l Z a0 hw a (s0 + (1 : Int32)) _ n0 H_661.z0 bs hl A (i + 1) (own_addn hs rfl (by omega)) (by omega)) (r := (some .boolean)) (ps := [(.array .byte), .int]) (by decide) rfl rfl 0 rfl (by decide) (by decide) (by decide) (by decide) rfl (fun T_668 v_670 h_669 H_667 z_671 q_672 => ?_)
              obtain ⟨rfl, rfl⟩ := q_672
              show OEnds _ _ _ _ _ _ _ _ _ (mkF _ 73 #[.val (.ref a), .val (.int s0)] [(.int (own_v6 bs (i + 1)))])
              refine Own.if_eq H_667 (pc := 73) 80 d11_73 (by decide) (by decide) (fun hc73 => ?_) (fun hc73 => ?_)
              · refine Own.iconst H_667 (pc := 80) (0) d11_80 rfl ?_
                exact Own.ret_nar H_667 (pc := 81) (0) d11_81 rfl (by simp) (by decide) (by decide) (by decide) (⟨by simp [own_v7, *], rfl⟩)
              · refine Own.iconst H_667 (pc := 76) (1) d11_76 rfl ?_
                refine Own.goto H_667 (pc := 77) 81 d11_77 (by decide) (by decide) ?_
                exact Own.ret_nar H_667 (pc := 81) (1) d11_81 rfl (by simp) (by decide) (by decide) (by decide) (⟨by simp [own_v7, *], rfl⟩)
      · refine Own.aload_n H_631 (pc := 28) d11_28 rfl rfl ?_
        refine Own.iload_n H_631 (pc := 29) d11_29 rfl ?_
        refine Own.iconst H_631 (pc := 30) (3) d11_30 rfl ?_
        refine Own.iadd H_631 (pc := 31) d11_31 ?_
        refine Own.callS H_631 (pc := 32) (y := (⟨"termstone/store/Utf8IsUtf8PinLaw", "v4", "([BI)Z"⟩ : MethodName)) [(.ref a), (.int (s0 + (3 : Int32)))] [] d11_32 (hw _ (List.mem_of_getElem? (i := 24) rfl)) (hw _ (List.mem_of_getElem? (i := 25) rfl)) (hw _ (List.mem_of_getElem? (i := 7) rfl)) (hw _ (List.mem_of_getElem? (i := 26) rfl)) (by decide) (rm_v4 l Z a0 hw a (s0 + (3 : Int32)) _ n0 H_631.z0 bs hl A (i + 3) (own_addn hs rfl (by omega)) (by omega)) (r := (some .boolean)) (ps := [(.array .byte), .int]) (by decide) rfl rfl 0 rfl (by decide) (by decide) (by decide) (by decide) rfl (fun T_674 v_676 h_675 H_673 z_677 q_678 => ?_)
        obtain ⟨rfl, rfl⟩ := q_678
        show OEnds _ _ _ _ _ _ _ _ _ (mkF _ 35 #[.val (.ref a), .val (.int s0)] [(.int (own_v4 bs (i + 3)))])
        refine Own.if_ne H_673 (pc := 35) 76 d11_35 (by decide) (by decide) (fun hc35 => ?_) (fun hc35 => ?_)
        · refine Own.iconst H_673 (pc := 76) (1) d11_76 rfl ?_
          refine Own.goto H_673 (pc := 77) 81 d11_77 (by decide) (by decide) ?_
          exact Own.ret_nar H_673 (pc := 81) (1) d11_81 rfl (by simp) (by decide) (by decide) (by decide) (⟨by simp [own_v7, *], rfl⟩)
        · refine Own.aload_n H_673 (pc := 38) d11_38 rfl rfl ?_
          refine Own.iload_n H_673 (pc := 39) d11_39 rfl ?_
          refine Own.iconst H_673 (pc := 40) (2) d11_40 rfl ?_
          refine Own.callS H_673 (pc := 41) (y := (⟨"termstone/store/Utf8IsUtf8PinLaw", "c", "([BII)Z"⟩ : MethodName)) [(.ref a), (.int s0), (.int (2 : Int32))] [] d11_41 (hw _ (List.mem_of_getElem? (i := 12) rfl)) (hw _ (List.mem_of_getElem? (i := 13) rfl)) (hw _ (List.mem_of_getElem? (i := 7) rfl)) (hw _ (List.mem_of_getElem? (i := 14) rfl)) (by decide) (rm_c l Z a0 hw a s0 (2 : Int32) _ n0 H_673.z0 bs hl A i hs (by decide) (by show (i : Int) + 2 ≤ 8; omega)) (r := (some .boolean)) (ps := [(.array .byte), .int, .int]) (by decide) rfl rfl 0 rfl (by decide) (by decide) (by decide) (by decide) rfl (fun T_680 v_682 h_681 H_679 z_683 q_684 => ?_)
          obtain ⟨rfl, rfl⟩ := q_684
          show OEnds _ _ _ _ _ _ _ _ _ (mkF _ 44 #[.val (.ref a), .val (.int s0)] [(.int (own_c bs i (2 : Int32)))])
          refine Own.if_eq H_679 (pc := 44) 57 d11_44 (by decide) (by decide) (fun hc44 => ?_) (fun hc44 => ?_)
          · refine Own.aload_n H_679 (pc := 57) d11_57 rfl rfl ?_
            refine Own.iload_n H_679 (pc := 58) d11_58 rfl ?_
            refine Own.iconst H_679 (pc := 59) (1) d11_59 rfl ?_
            refine Own.callS H_679 (pc := 60) (y := (⟨"termstone/store/Utf8IsUtf8PinLaw", "c", "([BII)Z"⟩ : MethodName)) [(.ref a), (.int s0), (.int (1 : Int32))] [] d11_60 (hw _ (List.mem_of_getElem? (i := 12) rfl)) (hw _ (List.mem_of_getElem? (i := 13) rfl)) (hw _ (List.mem_of_getElem? (i := 7) rfl)) (hw _ (List.mem_of_getElem? (i := 14) rfl)) (by decide) (rm_c l Z a0 hw a s0 (1 : Int32) _ n0 H_679.z0 bs hl A i hs (by decide) (by show (i : Int) + 1 ≤ 8; omega)) (r := (some .boolean)) (ps := [(.array .byte), .int, .int]) (by decide) rfl rfl 0 rfl (by decide) (by decide) (by decide) (by decide) rfl (fun T_686 v_688 h_687 H_685 z_689 q_690 => ?_)
            obtain ⟨rfl, rfl⟩ := q_690
            show OEnds _ _ _ _ _ _ _ _ _ (mkF _ 63 #[.val (.ref a), .val (.int s0)] [(.int (own_c bs i (1 : Int32)))])
            refine Own.if_eq H_685 (pc := 63) 80 d11_63 (by decide) (by decide) (fun hc63 => ?_) (fun hc63 => ?_)
            · refine Own.iconst H_685 (pc := 80) (0) d11_80 rfl ?_
              exact Own.ret_nar H_685 (pc := 81) (0) d11_81 rfl (by simp) (by decide) (by decide) (by decide) (⟨by simp [own_v7, *], rfl⟩)
            · refine Own.aload_n H_685 (pc := 66) d11_66 rfl rfl ?_
              refine Own.iload_n H_685 (pc := 67) d11_67 rfl ?_
              refine Own.iconst H_685 (pc := 68) (1) d11_68 rfl ?_
              refine Own.iadd H_685 (pc := 69) d11_69 ?_
              refine Own.callS H_685 (pc := 70) (y := (⟨"termstone/store/Utf8IsUtf8PinLaw", "v6", "([BI)Z"⟩ : MethodName)) [(.ref a), (.int (s0 + (1 : Int32)))] [] d11_70 (hw _ (List.mem_of_getElem? (i := 15) rfl)) (hw _ (List.mem_of_getElem? (i := 16) rfl)) (hw _ (List.mem_of_getElem? (i := 7) rfl)) (hw _ (List.mem_of_getElem? (i := 17) rfl)) (by decide) (rm_v6 l Z a0 hw a (s0 + (1 : Int32)) _ n0 H_685.z0 bs hl A (i + 1) (own_addn hs rfl (by omega)) (by omega)) (r := (some .boolean)) (ps := [(.array .byte), .int]) (by decide) rfl rfl 0 rfl (by decide) (by decide) (by decide) (by decide) rfl (fun T_692 v_694 h_693 H_691 z_695 q_696 => ?_)
              obtain ⟨rfl, rfl⟩ := q_696
              show OEnds _ _ _ _ _ _ _ _ _ (mkF _ 73 #[.val (.ref a), .val (.int s0)] [(.int (own_v6 bs (i + 1)))])
              refine Own.if_eq H_691 (pc := 73) 80 d11_73 (by decide) (by decide) (fun hc73 => ?_) (fun hc73 => ?_)
              · refine Own.iconst H_691 (pc := 80) (0) d11_80 rfl ?_
                exact Own.ret_nar H_691 (pc := 81) (0) d11_81 rfl (by simp) (by decide) (by decide) (by decide) (⟨by simp [own_v7, *], rfl⟩)
              · refine Own.iconst H_691 (pc := 76) (1) d11_76 rfl ?_
                refine Own.goto H_691 (pc := 77) 81 d11_77 (by decide) (by decide) ?_
                exact Own.ret_nar H_691 (pc := 81) (1) d11_81 rfl (by simp) (by decide) (by decide) (by decide) (⟨by simp [own_v7, *], rfl⟩)
          · refine Own.aload_n H_679 (pc := 47) d11_47 rfl rfl ?_
            refine Own.iload_n H_679 (pc := 48) d11_48 rfl ?_
            refine Own.iconst H_679 (pc := 49) (2) d11_49 rfl ?_
            refine Own.iadd H_679 (pc := 50) d11_50 ?_
            refine Own.callS H_679 (pc := 51) (y := (⟨"termstone/store/Utf8IsUtf8PinLaw", "v5", "([BI)Z"⟩ : MethodName)) [(.ref a), (.int (s0 + (2 : Int32)))] [] d11_51 (hw _ (List.mem_of_getElem? (i := 21) rfl)) (hw _ (List.mem_of_getElem? (i := 22) rfl)) (hw _ (List.mem_of_getElem? (i := 7) rfl)) (hw _ (List.mem_of_getElem? (i := 23) rfl)) (by decide) (rm_v5 l Z a0 hw a (s0 + (2 : Int32)) _ n0 H_679.z0 bs hl A (i + 2) (own_addn hs rfl (by omega)) (by omega)) (r := (some .boolean)) (ps := [(.array .byte), .int]) (by decide) rfl rfl 0 rfl (by decide) (by decide) (by decide) (by decide) rfl (fun T_698 v_700 h_699 H_697 z_701 q_702 => ?_)
            obtain ⟨rfl, rfl⟩ := q_702
            show OEnds _ _ _ _ _ _ _ _ _ (mkF _ 54 #[.val (.ref a), .val (.int s0)] [(.int (own_v5 bs (i + 2)))])
            refine Own.if_ne H_697 (pc := 54) 76 d11_54 (by decide) (by decide) (fun hc54 => ?_) (fun hc54 => ?_)
            · refine Own.iconst H_697 (pc := 76) (1) d11_76 rfl ?_
              refine Own.goto H_697 (pc := 77) 81 d11_77 (by decide) (by decide) ?_
              exact Own.ret_nar H_697 (pc := 81) (1) d11_81 rfl (by simp) (by decide) (by decide) (by decide) (⟨by simp [own_v7, *], rfl⟩)
            · refine Own.aload_n H_697 (pc := 57) d11_57 rfl rfl ?_
              refine Own.iload_n H_697 (pc := 58) d11_58 rfl ?_
              refine Own.iconst H_697 (pc := 59) (1) d11_59 rfl ?_
              refine Own.callS H_697 (pc := 60) (y := (⟨"termstone/store/Utf8IsUtf8PinLaw", "c", "([BII)Z"⟩ : MethodName)) [(.ref a), (.int s0), (.int (1 : Int32))] [] d11_60 (hw _ (List.mem_of_getElem? (i := 12) rfl)) (hw _ (List.mem_of_getElem? (i := 13) rfl)) (hw _ (List.mem_of_getElem? (i := 7) rfl)) (hw _ (List.mem_of_getElem? (i := 14) rfl)) (by decide) (rm_c l Z a0 hw a s0 (1 : Int32) _ n0 H_697.z0 bs hl A i hs (by decide) (by show (i : Int) + 1 ≤ 8; omega)) (r := (some .boolean)) (ps := [(.array .byte), .int, .int]) (by decide) rfl rfl 0 rfl (by decide) (by decide) (by decide) (by decide) rfl (fun T_704 v_706 h_705 H_703 z_707 q_708 => ?_)
              obtain ⟨rfl, rfl⟩ := q_708
              show OEnds _ _ _ _ _ _ _ _ _ (mkF _ 63 #[.val (.ref a), .val (.int s0)] [(.int (own_c bs i (1 : Int32)))])
              refine Own.if_eq H_703 (pc := 63) 80 d11_63 (by decide) (by decide) (fun hc63 => ?_) (fun hc63 => ?_)
              · refine Own.iconst H_703 (pc := 80) (0) d11_80 rfl ?_
                exact Own.ret_nar H_703 (pc := 81) (0) d11_81 rfl (by simp) (by decide) (by decide) (by decide) (⟨by simp [own_v7, *], rfl⟩)
              · refine Own.aload_n H_703 (pc := 66) d11_66 rfl rfl ?_
                refine Own.iload_n H_703 (pc := 67) d11_67 rfl ?_
                refine Own.iconst H_703 (pc := 68) (1) d11_68 rfl ?_
                refine Own.iadd H_703 (pc := 69) d11_69 ?_
                refine Own.callS H_703 (pc := 70) (y := (⟨"termstone/store/Utf8IsUtf8PinLaw", "v6", "([BI)Z"⟩ : MethodName)) [(.ref a), (.int (s0 + (1 : Int32)))] [] d11_70 (hw _ (List.mem_of_getElem? (i := 15) rfl)) (hw _ (List.mem_of_getElem? (i := 16) rfl)) (hw _ (List.mem_of_getElem? (i := 7) rfl)) (hw _ (List.mem_of_getElem? (i := 17) rfl)) (by decide) (rm_v6 l Z a0 hw a (s0 + (1 : Int32)) _ n0 H_703.z0 bs hl A (i + 1) (own_addn hs rfl (by omega)) (by omega)) (r := (some .boolean)) (ps := [(.array .byte), .int]) (by decide) rfl rfl 0 rfl (by decide) (by decide) (by decide) (by decide) rfl (fun T_710 v_712 h_711 H_709 z_713 q_714 => ?_)
                obtain ⟨rfl, rfl⟩ := q_714
                show OEnds _ _ _ _ _ _ _ _ _ (mkF _ 73 #[.val (.ref a), .val (.int s0)] [(.int (own_v6 bs (i + 1)))])
                refine Own.if_eq H_709 (pc := 73) 80 d11_73 (by decide) (by decide) (fun hc73 => ?_) (fun hc73 => ?_)
                · refine Own.iconst H_709 (pc := 80) (0) d11_80 rfl ?_
                  exact Own.ret_nar H_709 (pc := 81) (0) d11_81 rfl (by simp) (by decide) (by decide) (by decide) (⟨by simp [own_v7, *], rfl⟩)
                · refine Own.iconst H_709 (pc := 76) (1) d11_76 rfl ?_
                  refine Own.goto H_709 (pc := 77) 81 d11_77 (by decide) (by decide) ?_
                  exact Own.ret_nar H_709 (pc := 81) (1) d11_81 rfl (by simp) (by decide) (by decide) (by decide) (⟨by simp [own_v7, *], rfl⟩)
theorem d12_0 : decode method_13_code 0 = .ok (.aload_n 0, 1) := by decide +kernel
theorem d12_1 : decode method_13_code 1 = .ok (.iload_n 1, 1) := by decide +kernel
theorem d12_2 : decode method_13_code 2 = .ok (.iconst 4, 1) := by decide +kernel
theorem d12_3 : decode method_13_code 3 = .ok (.invokestatic 51, 3) := by decide +kernel
theorem d12_6 : decode method_13_code 6 = .ok (.ifCond .eq 13, 3) := by decide +kernel
theorem d12_9 : decode method_13_code 9 = .ok (.aload_n 0, 1) := by decide +kernel
theorem d12_10 : decode method_13_code 10 = .ok (.iload_n 1, 1) := by decide +kernel
theorem d12_11 : decode method_13_code 11 = .ok (.iconst 4, 1) := by decide +kernel
theorem d12_12 : decode method_13_code 12 = .ok (.iadd, 1) := by decide +kernel
theorem d12_13 : decode method_13_code 13 = .ok (.invokestatic 36, 3) := by decide +kernel
theorem d12_16 : decode method_13_code 16 = .ok (.ifCond .ne 60, 3) := by decide +kernel
theorem d12_19 : decode method_13_code 19 = .ok (.aload_n 0, 1) := by decide +kernel
theorem d12_20 : decode method_13_code 20 = .ok (.iload_n 1, 1) := by decide +kernel
theorem d12_21 : decode method_13_code 21 = .ok (.iconst 3, 1) := by decide +kernel
theorem d12_22 : decode method_13_code 22 = .ok (.invokestatic 51, 3) := by decide +kernel
theorem d12_25 : decode method_13_code 25 = .ok (.ifCond .eq 13, 3) := by decide +kernel
theorem d12_28 : decode method_13_code 28 = .ok (.aload_n 0, 1) := by decide +kernel
theorem d12_29 : decode method_13_code 29 = .ok (.iload_n 1, 1) := by decide +kernel
theorem d12_30 : decode method_13_code 30 = .ok (.iconst 3, 1) := by decide +kernel
theorem d12_31 : decode method_13_code 31 = .ok (.iadd, 1) := by decide +kernel
theorem d12_32 : decode method_13_code 32 = .ok (.invokestatic 39, 3) := by decide +kernel
theorem d12_35 : decode method_13_code 35 = .ok (.ifCond .ne 41, 3) := by decide +kernel
theorem d12_38 : decode method_13_code 38 = .ok (.aload_n 0, 1) := by decide +kernel
theorem d12_39 : decode method_13_code 39 = .ok (.iload_n 1, 1) := by decide +kernel
theorem d12_40 : decode method_13_code 40 = .ok (.iconst 2, 1) := by decide +kernel
theorem d12_41 : decode method_13_code 41 = .ok (.invokestatic 51, 3) := by decide +kernel
theorem d12_44 : decode method_13_code 44 = .ok (.ifCond .eq 13, 3) := by decide +kernel
theorem d12_47 : decode method_13_code 47 = .ok (.aload_n 0, 1) := by decide +kernel
theorem d12_48 : decode method_13_code 48 = .ok (.iload_n 1, 1) := by decide +kernel
theorem d12_49 : decode method_13_code 49 = .ok (.iconst 2, 1) := by decide +kernel
theorem d12_50 : decode method_13_code 50 = .ok (.iadd, 1) := by decide +kernel
theorem d12_51 : decode method_13_code 51 = .ok (.invokestatic 42, 3) := by decide +kernel
theorem d12_54 : decode method_13_code 54 = .ok (.ifCond .ne 22, 3) := by decide +kernel
theorem d12_57 : decode method_13_code 57 = .ok (.aload_n 0, 1) := by decide +kernel
theorem d12_58 : decode method_13_code 58 = .ok (.iload_n 1, 1) := by decide +kernel
theorem d12_59 : decode method_13_code 59 = .ok (.iconst 1, 1) := by decide +kernel
theorem d12_60 : decode method_13_code 60 = .ok (.invokestatic 51, 3) := by decide +kernel
theorem d12_63 : decode method_13_code 63 = .ok (.ifCond .eq 17, 3) := by decide +kernel
theorem d12_66 : decode method_13_code 66 = .ok (.aload_n 0, 1) := by decide +kernel
theorem d12_67 : decode method_13_code 67 = .ok (.iload_n 1, 1) := by decide +kernel
theorem d12_68 : decode method_13_code 68 = .ok (.iconst 1, 1) := by decide +kernel
theorem d12_69 : decode method_13_code 69 = .ok (.iadd, 1) := by decide +kernel
theorem d12_70 : decode method_13_code 70 = .ok (.invokestatic 45, 3) := by decide +kernel
theorem d12_73 : decode method_13_code 73 = .ok (.ifCond .eq 7, 3) := by decide +kernel
theorem d12_76 : decode method_13_code 76 = .ok (.iconst 1, 1) := by decide +kernel
theorem d12_77 : decode method_13_code 77 = .ok (.goto 4, 3) := by decide +kernel
theorem d12_80 : decode method_13_code 80 = .ok (.iconst 0, 1) := by decide +kernel
theorem d12_81 : decode method_13_code 81 = .ok (.ireturn, 1) := by decide +kernel
theorem pn_rm_v8 : plainFor (⟨"termstone/store/Utf8IsUtf8PinLaw", "v8", "([BI)Z"⟩ : MethodName) = true := by first | exact plainFor_of_name (by first | (simp [plainName, overriddenIn]; done) | decide +kernel) | decide +kernel
theorem ef_rm_v8 (a : Nat) (s0 : Int32) (m : MethodId) : entryFrame m #[(.ref a), (.int s0)] 2 = mkF m 0 #[.val (.ref a), .val (.int s0)] [] := by first | (simp [entryFrame, mkF, argsToLocals, Value.category]; done) | rfl
set_option maxRecDepth 65536 in
set_option maxHeartbeats 40000000 in
theorem rm_v8 (l : Launch) (Z : State) (a0 : Array Value) (hw : ∀ d ∈ tables_1, d.before a0 Z = true) (a : Nat) (s0 : Int32) (h0 : Heap) (n0 : Nat) (Z0 : n0 ≤ h0.size) (bs : List Int32) (hl : bs.length = 8) (A : OAry Z h0 a .byte (bs.map Value.int)) (i : Nat) (hs : s0.toInt = (i : Int)) (hin : i + 8 ≤ 8) :
    OMet l Z n0 (⟨"termstone/store/Utf8IsUtf8PinLaw", "v8", "([BI)Z"⟩ : MethodName) method_13_code 2 (some .boolean) ({ frames := 9, cells := 0, slots := 0, locals := 122 } : Room) #[(.ref a), (.int s0)] h0 (fun v h => v = some (.int (own_v8 bs i)) ∧ h = h0) := by
  refine OMet.of pn_rm_v8 Z0 (ef_rm_v8 a s0) ?_
  intro p e s m below meth c T H
  refine Own.aload_n H (pc := 0) d12_0 rfl rfl ?_
  refine Own.iload_n H (pc := 1) d12_1 rfl ?_
  refine Own.iconst H (pc := 2) (4) d12_2 rfl ?_
  refine Own.callS H (pc := 3) (y := (⟨"termstone/store/Utf8IsUtf8PinLaw", "c", "([BII)Z"⟩ : MethodName)) [(.ref a), (.int s0), (.int (4 : Int32))] [] d12_3 (hw _ (List.mem_of_getElem? (i := 12) rfl)) (hw _ (List.mem_of_getElem? (i := 13) rfl)) (hw _ (List.mem_of_getElem? (i := 7) rfl)) (hw _ (List.mem_of_getElem? (i := 14) rfl)) (by decide) (rm_c l Z a0 hw a s0 (4 : Int32) _ n0 H.z0 bs hl A i hs (by decide) (by show (i : Int) + 4 ≤ 8; omega)) (r := (some .boolean)) (ps := [(.array .byte), .int, .int]) (by decide) rfl rfl 0 rfl (by decide) (by decide) (by decide) (by decide) rfl (fun T_716 v_718 h_717 H_715 z_719 q_720 => ?_)
  obtain ⟨rfl, rfl⟩ := q_720
  show OEnds _ _ _ _ _ _ _ _ _ (mkF _ 6 #[.val (.ref a), .val (.int s0)] [(.int (own_c bs i (4 : Int32)))])
  refine Own.if_eq H_715 (pc := 6) 19 d12_6 (by decide) (by decide) (fun hc6 => ?_) (fun hc6 => ?_)
  · refine Own.aload_n H_715 (pc := 19) d12_19 rfl rfl ?_
    refine Own.iload_n H_715 (pc := 20) d12_20 rfl ?_
    refine Own.iconst H_715 (pc := 21) (3) d12_21 rfl ?_
    refine Own.callS H_715 (pc := 22) (y := (⟨"termstone/store/Utf8IsUtf8PinLaw", "c", "([BII)Z"⟩ : MethodName)) [(.ref a), (.int s0), (.int (3 : Int32))] [] d12_22 (hw _ (List.mem_of_getElem? (i := 12) rfl)) (hw _ (List.mem_of_getElem? (i := 13) rfl)) (hw _ (List.mem_of_getElem? (i := 7) rfl)) (hw _ (List.mem_of_getElem? (i := 14) rfl)) (by decide) (rm_c l Z a0 hw a s0 (3 : Int32) _ n0 H_715.z0 bs hl A i hs (by decide) (by show (i : Int) + 3 ≤ 8; omega)) (r := (some .boolean)) (ps := [(.array .byte), .int, .int]) (by decide) rfl rfl 0 rfl (by decide) (by decide) (by decide) (by decide) rfl (fun T_722 v_724 h_723 H_721 z_725 q_726 => ?_)
    obtain ⟨rfl, rfl⟩ := q_726
    show OEnds _ _ _ _ _ _ _ _ _ (mkF _ 25 #[.val (.ref a), .val (.int s0)] [(.int (own_c bs i (3 : Int32)))])
    refine Own.if_eq H_721 (pc := 25) 38 d12_25 (by decide) (by decide) (fun hc25 => ?_) (fun hc25 => ?_)
    · refine Own.aload_n H_721 (pc := 38) d12_38 rfl rfl ?_
      refine Own.iload_n H_721 (pc := 39) d12_39 rfl ?_
      refine Own.iconst H_721 (pc := 40) (2) d12_40 rfl ?_
      refine Own.callS H_721 (pc := 41) (y := (⟨"termstone/store/Utf8IsUtf8PinLaw", "c", "([BII)Z"⟩ : MethodName)) [(.ref a), (.int s0), (.int (2 : Int32))] [] d12_41 (hw _ (List.mem_of_getElem? (i := 12) rfl)) (hw _ (List.mem_of_getElem? (i := 13) rfl)) (hw _ (List.mem_of_getElem? (i := 7) rfl)) (hw _ (List.mem_of_getElem? (i := 14) rfl)) (by decide) (rm_c l Z a0 hw a s0 (2 : Int32) _ n0 H_721.z0 bs hl A i hs (by decide) (by show (i : Int) + 2 ≤ 8; omega)) (r := (some .boolean)) (ps := [(.array .byte), .int, .int]) (by decide) rfl rfl 0 rfl (by decide) (by decide) (by decide) (by decide) rfl (fun T_728 v_730 h_729 H_727 z_731 q_732 => ?_)
      obtain ⟨rfl, rfl⟩ := q_732
      show OEnds _ _ _ _ _ _ _ _ _ (mkF _ 44 #[.val (.ref a), .val (.int s0)] [(.int (own_c bs i (2 : Int32)))])
      refine Own.if_eq H_727 (pc := 44) 57 d12_44 (by decide) (by decide) (fun hc44 => ?_) (fun hc44 => ?_)
      · refine Own.aload_n H_727 (pc := 57) d12_57 rfl rfl ?_
        refine Own.iload_n H_727 (pc := 58) d12_58 rfl ?_
        refine Own.iconst H_727 (pc := 59) (1) d12_59 rfl ?_
        refine Own.callS H_727 (pc := 60) (y := (⟨"termstone/store/Utf8IsUtf8PinLaw", "c", "([BII)Z"⟩ : MethodName)) [(.ref a), (.int s0), (.int (1 : Int32))] [] d12_60 (hw _ (List.mem_of_getElem? (i := 12) rfl)) (hw _ (List.mem_of_getElem? (i := 13) rfl)) (hw _ (List.mem_of_getElem? (i := 7) rfl)) (hw _ (List.mem_of_getElem? (i := 14) rfl)) (by decide) (rm_c l Z a0 hw a s0 (1 : Int32) _ n0 H_727.z0 bs hl A i hs (by decide) (by show (i : Int) + 1 ≤ 8; omega)) (r := (some .boolean)) (ps := [(.array .byte), .int, .int]) (by decide) rfl rfl 0 rfl (by decide) (by decide) (by decide) (by decide) rfl (fun T_734 v_736 h_735 H_733 z_737 q_738 => ?_)
        obtain ⟨rfl, rfl⟩ := q_738
        show OEnds _ _ _ _ _ _ _ _ _ (mkF _ 63 #[.val (.ref a), .val (.int s0)] [(.int (own_c bs i (1 : Int32)))])
        refine Own.if_eq H_733 (pc := 63) 80 d12_63 (by decide) (by decide) (fun hc63 => ?_) (fun hc63 => ?_)
        · refine Own.iconst H_733 (pc := 80) (0) d12_80 rfl ?_
          exact Own.ret_nar H_733 (pc := 81) (0) d12_81 rfl (by simp) (by decide) (by decide) (by decide) (⟨by simp [own_v8, *], rfl⟩)
        · refine Own.aload_n H_733 (pc := 66) d12_66 rfl rfl ?_
          refine Own.iload_n H_733 (pc := 67) d12_67 rfl ?_
          refine Own.iconst H_733 (pc := 68) (1) d12_68 rfl ?_
          refine Own.iadd H_733 (pc := 69) d12_69 ?_
          refine Own.callS H_733 (pc := 70) (y := (⟨"termstone/store/Utf8IsUtf8PinLaw", "v7", "([BI)Z"⟩ : MethodName)) [(.ref a), (.int (s0 + (1 : Int32)))] [] d12_70 (hw _ (List.mem_of_getElem? (i := 33) rfl)) (hw _ (List.mem_of_getElem? (i := 34) rfl)) (hw _ (List.mem_of_getElem? (i := 7) rfl)) (hw _ (List.mem_of_getElem? (i := 35) rfl)) (by decide) (rm_v7 l Z a0 hw a (s0 + (1 : Int32)) _ n0 H_733.z0 bs hl A (i + 1) (own_addn hs rfl (by omega)) (by omega)) (r := (some .boolean)) (ps := [(.array .byte), .int]) (by decide) rfl rfl 0 rfl (by decide) (by decide) (by decide) (by decide) rfl (fun T_740 v_742 h_741 H_739 z_743 q_744 => ?_)
          obtain ⟨rfl, rfl⟩ := q_744
          show OEnds _ _ _ _ _ _ _ _ _ (mkF _ 73 #[.val (.ref a), .val (.int s0)] [(.int (own_v7 bs (i + 1)))])
          refine Own.if_eq H_739 (pc := 73) 80 d12_73 (by decide) (by decide) (fun hc73 => ?_) (fun hc73 => ?_)
          · refine Own.iconst H_739 (pc := 80) (0) d12_80 rfl ?_
            exact Own.ret_nar H_739 (pc := 81) (0) d12_81 rfl (by simp) (by decide) (by decide) (by decide) (⟨by simp [own_v8, *], rfl⟩)
          · refine Own.iconst H_739 (pc := 76) (1) d12_76 rfl ?_
            refine Own.goto H_739 (pc := 77) 81 d12_77 (by decide) (by decide) ?_
            exact Own.ret_nar H_739 (pc := 81) (1) d12_81 rfl (by simp) (by decide) (by decide) (by decide) (⟨by simp [own_v8, *], rfl⟩)
      · refine Own.aload_n H_727 (pc := 47) d12_47 rfl rfl ?_
        refine Own.iload_n H_727 (pc := 48) d12_48 rfl ?_
        refine Own.iconst H_727 (pc := 49) (2) d12_49 rfl ?_
        refine Own.iadd H_727 (pc := 50) d12_50 ?_
        refine Own.callS H_727 (pc := 51) (y := (⟨"termstone/store/Utf8IsUtf8PinLaw", "v6", "([BI)Z"⟩ : MethodName)) [(.ref a), (.int (s0 + (2 : Int32)))] [] d12_51 (hw _ (List.mem_of_getElem? (i := 15) rfl)) (hw _ (List.mem_of_getElem? (i := 16) rfl)) (hw _ (List.mem_of_getElem? (i := 7) rfl)) (hw _ (List.mem_of_getElem? (i := 17) rfl)) (by decide) (rm_v6 l Z a0 hw a (s0 + (2 : Int32)) _ n0 H_727.z0 bs hl A (i + 2) (own_addn hs rfl (by omega)) (by omega)) (r := (some .boolean)) (ps := [(.array .byte), .int]) (by decide) rfl rfl 0 rfl (by decide) (by decide) (by decide) (by decide) rfl (fun T_746 v_748 h_747 H_745 z_749 q_750 => ?_)
        obtain ⟨rfl, rfl⟩ := q_750
        show OEnds _ _ _ _ _ _ _ _ _ (mkF _ 54 #[.val (.ref a), .val (.int s0)] [(.int (own_v6 bs (i + 2)))])
        refine Own.if_ne H_745 (pc := 54) 76 d12_54 (by decide) (by decide) (fun hc54 => ?_) (fun hc54 => ?_)
        · refine Own.iconst H_745 (pc := 76) (1) d12_76 rfl ?_
          refine Own.goto H_745 (pc := 77) 81 d12_77 (by decide) (by decide) ?_
          exact Own.ret_nar H_745 (pc := 81) (1) d12_81 rfl (by simp) (by decide) (by decide) (by decide) (⟨by simp [own_v8, *], rfl⟩)
        · refine Own.aload_n H_745 (pc := 57) d12_57 rfl rfl ?_
          refine Own.iload_n H_745 (pc := 58) d12_58 rfl ?_
          refine Own.iconst H_745 (pc := 59) (1) d12_59 rfl ?_
          refine Own.callS H_745 (pc := 60) (y := (⟨"termstone/store/Utf8IsUtf8PinLaw", "c", "([BII)Z"⟩ : MethodName)) [(.ref a), (.int s0), (.int (1 : Int32))] [] d12_60 (hw _ (List.mem_of_getElem? (i := 12) rfl)) (hw _ (List.mem_of_getElem? (i := 13) rfl)) (hw _ (List.mem_of_getElem? (i := 7) rfl)) (hw _ (List.mem_of_getElem? (i := 14) rfl)) (by decide) (rm_c l Z a0 hw a s0 (1 : Int32) _ n0 H_745.z0 bs hl A i hs (by decide) (by show (i : Int) + 1 ≤ 8; omega)) (r := (some .boolean)) (ps := [(.array .byte), .int, .int]) (by decide) rfl rfl 0 rfl (by decide) (by decide) (by decide) (by decide) rfl (fun T_752 v_754 h_753 H_751 z_755 q_756 => ?_)
          obtain ⟨rfl, rfl⟩ := q_756
          show OEnds _ _ _ _ _ _ _ _ _ (mkF _ 63 #[.val (.ref a), .val (.int s0)] [(.int (own_c bs i (1 : Int32)))])
          refine Own.if_eq H_751 (pc := 63) 80 d12_63 (by decide) (by decide) (fun hc63 => ?_) (fun hc63 => ?_)
          · refine Own.iconst H_751 (pc := 80) (0) d12_80 rfl ?_
            exact Own.ret_nar H_751 (pc := 81) (0) d12_81 rfl (by simp) (by decide) (by decide) (by decide) (⟨by simp [own_v8, *], rfl⟩)
          · refine Own.aload_n H_751 (pc := 66) d12_66 rfl rfl ?_
            refine Own.iload_n H_751 (pc := 67) d12_67 rfl ?_
            refine Own.iconst H_751 (pc := 68) (1) d12_68 rfl ?_
            refine Own.iadd H_751 (pc := 69) d12_69 ?_
            refine Own.callS H_751 (pc := 70) (y := (⟨"termstone/store/Utf8IsUtf8PinLaw", "v7", "([BI)Z"⟩ : MethodName)) [(.ref a), (.int (s0 + (1 : Int32)))] [] d12_70 (hw _ (List.mem_of_getElem? (i := 33) rfl)) (hw _ (List.mem_of_getElem? (i := 34) rfl)) (hw _ (List.mem_of_getElem? (i := 7) rfl)) (hw _ (List.mem_of_getElem? (i := 35) rfl)) (by decide) (rm_v7 l Z a0 hw a (s0 + (1 : Int32)) _ n0 H_751.z0 bs hl A (i + 1) (own_addn hs rfl (by omega)) (by omega)) (r := (some .boolean)) (ps := [(.array .byte), .int]) (by decide) rfl rfl 0 rfl (by decide) (by decide) (by decide) (by decide) rfl (fun T_758 v_760 h_759 H_757 z_761 q_762 => ?_)
            obtain ⟨rfl, rfl⟩ := q_762
            show OEnds _ _ _ _ _ _ _ _ _ (mkF _ 73 #[.val (.ref a), .val (.int s0)] [(.int (own_v7 bs (i + 1)))])
            refine Own.if_eq H_757 (pc := 73) 80 d12_73 (by decide) (by decide) (fun hc73 => ?_) (fun hc73 => ?_)
            · refine Own.iconst H_757 (pc := 80) (0) d12_80 rfl ?_
              exact Own.ret_nar H_757 (pc := 81) (0) d12_81 rfl (by simp) (by decide) (by decide) (by decide) (⟨by simp [own_v8, *], rfl⟩)
            · refine Own.iconst H_757 (pc := 76) (1) d12_76 rfl ?_
              refine Own.goto H_757 (pc := 77) 81 d12_77 (by decide) (by decide) ?_
              exact Own.ret_nar H_757 (pc := 81) (1) d12_81 rfl (by simp) (by decide) (by decide) (by decide) (⟨by simp [own_v8, *], rfl⟩)
    · refine Own.aload_n H_721 (pc := 28) d12_28 rfl rfl ?_
      refine Own.iload_n H_721 (pc := 29) d12_29 rfl ?_
      refine Own.iconst H_721 (pc := 30) (3) d12_30 rfl ?_
      refine Own.iadd H_721 (pc := 31) d12_31 ?_
      refine Own.callS H_721 (pc := 32) (y := (⟨"termstone/store/Utf8IsUtf8PinLaw", "v5", "([BI)Z"⟩ : MethodName)) [(.ref a), (.int (s0 + (3 : Int32)))] [] d12_32 (hw _ (List.mem_of_getElem? (i := 21) rfl)) (hw _ (List.mem_of_getElem? (i := 22) rfl)) (hw _ (List.mem_of_getElem? (i := 7) rfl)) (hw _ (List.mem_of_getElem? (i := 23) rfl)) (by decide) (rm_v5 l Z a0 hw a (s0 + (3 : Int32)) _ n0 H_721.z0 bs hl A (i + 3) (own_addn hs rfl (by omega)) (by omega)) (r := (some .boolean)) (ps := [(.array .byte), .int]) (by decide) rfl rfl 0 rfl (by decide) (by decide) (by decide) (by decide) rfl (fun T_764 v_766 h_765 H_763 z_767 q_768 => ?_)
      obtain ⟨rfl, rfl⟩ := q_768
      show OEnds _ _ _ _ _ _ _ _ _ (mkF _ 35 #[.val (.ref a), .val (.int s0)] [(.int (own_v5 bs (i + 3)))])
      refine Own.if_ne H_763 (pc := 35) 76 d12_35 (by decide) (by decide) (fun hc35 => ?_) (fun hc35 => ?_)
      · refine Own.iconst H_763 (pc := 76) (1) d12_76 rfl ?_
        refine Own.goto H_763 (pc := 77) 81 d12_77 (by decide) (by decide) ?_
        exact Own.ret_nar H_763 (pc := 81) (1) d12_81 rfl (by simp) (by decide) (by decide) (by decide) (⟨by simp [own_v8, *], rfl⟩)
      · refine Own.aload_n H_763 (pc := 38) d12_38 rfl rfl ?_
        refine Own.iload_n H_763 (pc := 39) d12_39 rfl ?_
        refine Own.iconst H_763 (pc := 40) (2) d12_40 rfl ?_
        refine Own.callS H_763 (pc := 41) (y := (⟨"termstone/store/Utf8IsUtf8PinLaw", "c", "([BII)Z"⟩ : MethodName)) [(.ref a), (.int s0), (.int (2 : Int32))] [] d12_41 (hw _ (List.mem_of_getElem? (i := 12) rfl)) (hw _ (List.mem_of_getElem? (i := 13) rfl)) (hw _ (List.mem_of_getElem? (i := 7) rfl)) (hw _ (List.mem_of_getElem? (i := 14) rfl)) (by decide) (rm_c l Z a0 hw a s0 (2 : Int32) _ n0 H_763.z0 bs hl A i hs (by decide) (by show (i : Int) + 2 ≤ 8; omega)) (r := (some .boolean)) (ps := [(.array .byte), .int, .int]) (by decide) rfl rfl 0 rfl (by decide) (by decide) (by decide) (by decide) rfl (fun T_770 v_772 h_771 H_769 z_773 q_774 => ?_)
        obtain ⟨rfl, rfl⟩ := q_774
        show OEnds _ _ _ _ _ _ _ _ _ (mkF _ 44 #[.val (.ref a), .val (.int s0)] [(.int (own_c bs i (2 : Int32)))])
        refine Own.if_eq H_769 (pc := 44) 57 d12_44 (by decide) (by decide) (fun hc44 => ?_) (fun hc44 => ?_)
        · refine Own.aload_n H_769 (pc := 57) d12_57 rfl rfl ?_
          refine Own.iload_n H_769 (pc := 58) d12_58 rfl ?_
          refine Own.iconst H_769 (pc := 59) (1) d12_59 rfl ?_
          refine Own.callS H_769 (pc := 60) (y := (⟨"termstone/store/Utf8IsUtf8PinLaw", "c", "([BII)Z"⟩ : MethodName)) [(.ref a), (.int s0), (.int (1 : Int32))] [] d12_60 (hw _ (List.mem_of_getElem? (i := 12) rfl)) (hw _ (List.mem_of_getElem? (i := 13) rfl)) (hw _ (List.mem_of_getElem? (i := 7) rfl)) (hw _ (List.mem_of_getElem? (i := 14) rfl)) (by decide) (rm_c l Z a0 hw a s0 (1 : Int32) _ n0 H_769.z0 bs hl A i hs (by decide) (by show (i : Int) + 1 ≤ 8; omega)) (r := (some .boolean)) (ps := [(.array .byte), .int, .int]) (by decide) rfl rfl 0 rfl (by decide) (by decide) (by decide) (by decide) rfl (fun T_776 v_778 h_777 H_775 z_779 q_780 => ?_)
          obtain ⟨rfl, rfl⟩ := q_780
          show OEnds _ _ _ _ _ _ _ _ _ (mkF _ 63 #[.val (.ref a), .val (.int s0)] [(.int (own_c bs i (1 : Int32)))])
          refine Own.if_eq H_775 (pc := 63) 80 d12_63 (by decide) (by decide) (fun hc63 => ?_) (fun hc63 => ?_)
          · refine Own.iconst H_775 (pc := 80) (0) d12_80 rfl ?_
            exact Own.ret_nar H_775 (pc := 81) (0) d12_81 rfl (by simp) (by decide) (by decide) (by decide) (⟨by simp [own_v8, *], rfl⟩)
          · refine Own.aload_n H_775 (pc := 66) d12_66 rfl rfl ?_
            refine Own.iload_n H_775 (pc := 67) d12_67 rfl ?_
            refine Own.iconst H_775 (pc := 68) (1) d12_68 rfl ?_
            refine Own.iadd H_775 (pc := 69) d12_69 ?_
            refine Own.callS H_775 (pc := 70) (y := (⟨"termstone/store/Utf8IsUtf8PinLaw", "v7", "([BI)Z"⟩ : MethodName)) [(.ref a), (.int (s0 + (1 : Int32)))] [] d12_70 (hw _ (List.mem_of_getElem? (i := 33) rfl)) (hw _ (List.mem_of_getElem? (i := 34) rfl)) (hw _ (List.mem_of_getElem? (i := 7) rfl)) (hw _ (List.mem_of_getElem? (i := 35) rfl)) (by decide) (rm_v7 l Z a0 hw a (s0 + (1 : Int32)) _ n0 H_775.z0 bs hl A (i + 1) (own_addn hs rfl (by omega)) (by omega)) (r := (some .boolean)) (ps := [(.array .byte), .int]) (by decide) rfl rfl 0 rfl (by decide) (by decide) (by decide) (by decide) rfl (fun T_782 v_784 h_783 H_781 z_785 q_786 => ?_)
            obtain ⟨rfl, rfl⟩ := q_786
            show OEnds _ _ _ _ _ _ _ _ _ (mkF _ 73 #[.val (.ref a), .val (.int s0)] [(.int (own_v7 bs (i + 1)))])
            refine Own.if_eq H_781 (pc := 73) 80 d12_73 (by decide) (by decide) (fun hc73 => ?_) (fun hc73 => ?_)
            · refine Own.iconst H_781 (pc := 80) (0) d12_80 rfl ?_
              exact Own.ret_nar H_781 (pc := 81) (0) d12_81 rfl (by simp) (by decide) (by decide) (by decide) (⟨by simp [own_v8, *], rfl⟩)
            · refine Own.iconst H_781 (pc := 76) (1) d12_76 rfl ?_
              refine Own.goto H_781 (pc := 77) 81 d12_77 (by decide) (by decide) ?_
              exact Own.ret_nar H_781 (pc := 81) (1) d12_81 rfl (by simp) (by decide) (by decide) (by decide) (⟨by simp [own_v8, *], rfl⟩)
        · refine Own.aload_n H_769 (pc := 47) d12_47 rfl rfl ?_
          refine Own.iload_n H_769 (pc := 48) d12_48 rfl ?_
          refine Own.iconst H_769 (pc := 49) (2) d12_49 rfl ?_
          refine Own.iadd H_769 (pc := 50) d12_50 ?_
          refine Own.callS H_769 (pc := 51) (y := (⟨"termstone/store/Utf8IsUtf8PinLaw", "v6", "([BI)Z"⟩ : MethodName)) [(.ref a), (.int (s0 + (2 : Int32)))] [] d12_51 (hw _ (List.mem_of_getElem? (i := 15) rfl)) (hw _ (List.mem_of_getElem? (i := 16) rfl)) (hw _ (List.mem_of_getElem? (i := 7) rfl)) (hw _ (List.mem_of_getElem? (i := 17) rfl)) (by decide) (rm_v6 l Z a0 hw a (s0 + (2 : Int32)) _ n0 H_769.z0 bs hl A (i + 2) (own_addn hs rfl (by omega)) (by omega)) (r := (some .boolean)) (ps := [(.array .byte), .int]) (by decide) rfl rfl 0 rfl (by decide) (by decide) (by decide) (by decide) rfl (fun T_788 v_790 h_789 H_787 z_791 q_792 => ?_)
          obtain ⟨rfl, rfl⟩ := q_792
          show OEnds _ _ _ _ _ _ _ _ _ (mkF _ 54 #[.val (.ref a), .val (.int s0)] [(.int (own_v6 bs (i + 2)))])
          refine Own.if_ne H_787 (pc := 54) 76 d12_54 (by decide) (by decide) (fun hc54 => ?_) (fun hc54 => ?_)
          · refine Own.iconst H_787 (pc := 76) (1) d12_76 rfl ?_
            refine Own.goto H_787 (pc := 77) 81 d12_77 (by decide) (by decide) ?_
            exact Own.ret_nar H_787 (pc := 81) (1) d12_81 rfl (by simp) (by decide) (by decide) (by decide) (⟨by simp [own_v8, *], rfl⟩)
          · refine Own.aload_n H_787 (pc := 57) d12_57 rfl rfl ?_
            refine Own.iload_n H_787 (pc := 58) d12_58 rfl ?_
            refine Own.iconst H_787 (pc := 59) (1) d12_59 rfl ?_
            refine Own.callS H_787 (pc := 60) (y := (⟨"termstone/store/Utf8IsUtf8PinLaw", "c", "([BII)Z"⟩ : MethodName)) [(.ref a), (.int s0), (.int (1 : Int32))] [] d12_60 (hw _ (List.mem_of_getElem? (i := 12) rfl)) (hw _ (List.mem_of_getElem? (i := 13) rfl)) (hw _ (List.mem_of_getElem? (i := 7) rfl)) (hw _ (List.mem_of_getElem? (i := 14) rfl)) (by decide) (rm_c l Z a0 hw a s0 (1 : Int32) _ n0 H_787.z0 bs hl A i hs (by decide) (by show (i : Int) + 1 ≤ 8; omega)) (r := (some .boolean)) (ps := [(.array .byte), .int, .int]) (by decide) rfl rfl 0 rfl (by decide) (by decide) (by decide) (by decide) rfl (fun T_794 v_796 h_795 H_793 z_797 q_798 => ?_)
            obtain ⟨rfl, rfl⟩ := q_798
            show OEnds _ _ _ _ _ _ _ _ _ (mkF _ 63 #[.val (.ref a), .val (.int s0)] [(.int (own_c bs i (1 : Int32)))])
            refine Own.if_eq H_793 (pc := 63) 80 d12_63 (by decide) (by decide) (fun hc63 => ?_) (fun hc63 => ?_)
            · refine Own.iconst H_793 (pc := 80) (0) d12_80 rfl ?_
              exact Own.ret_nar H_793 (pc := 81) (0) d12_81 rfl (by simp) (by decide) (by decide) (by decide) (⟨by simp [own_v8, *], rfl⟩)
            · refine Own.aload_n H_793 (pc := 66) d12_66 rfl rfl ?_
              refine Own.iload_n H_793 (pc := 67) d12_67 rfl ?_
              refine Own.iconst H_793 (pc := 68) (1) d12_68 rfl ?_
              refine Own.iadd H_793 (pc := 69) d12_69 ?_
              refine Own.callS H_793 (pc := 70) (y := (⟨"termstone/store/Utf8IsUtf8PinLaw", "v7", "([BI)Z"⟩ : MethodName)) [(.ref a), (.int (s0 + (1 : Int32)))] [] d12_70 (hw _ (List.mem_of_getElem? (i := 33) rfl)) (hw _ (List.mem_of_getElem? (i := 34) rfl)) (hw _ (List.mem_of_getElem? (i := 7) rfl)) (hw _ (List.mem_of_getElem? (i := 35) rfl)) (by decide) (rm_v7 l Z a0 hw a (s0 + (1 : Int32)) _ n0 H_793.z0 bs hl A (i + 1) (own_addn hs rfl (by omega)) (by omega)) (r := (some .boolean)) (ps := [(.array .byte), .int]) (by decide) rfl rfl 0 rfl (by decide) (by decide) (by decide) (by decide) rfl (fun T_800 v_802 h_801 H_799 z_803 q_804 => ?_)
              obtain ⟨rfl, rfl⟩ := q_804
              show OEnds _ _ _ _ _ _ _ _ _ (mkF _ 73 #[.val (.ref a), .val (.int s0)] [(.int (own_v7 bs (i + 1)))])
              refine Own.if_eq H_799 (pc := 73) 80 d12_73 (by decide) (by decide) (fun hc73 => ?_) (fun hc73 => ?_)
              · refine Own.iconst H_799 (pc := 80) (0) d12_80 rfl ?_
                exact Own.ret_nar H_799 (pc := 81) (0) d12_81 rfl (by simp) (by decide) (by decide) (by decide) (⟨by simp [own_v8, *], rfl⟩)
              · refine Own.iconst H_799 (pc := 76) (1) d12_76 rfl ?_
                refine Own.goto H_799 (pc := 77) 81 d12_77 (by decide) (by decide) ?_
                exact Own.ret_nar H_799 (pc := 81) (1) d12_81 rfl (by simp) (by decide) (by decide) (by decide) (⟨by simp [own_v8, *], rfl⟩)
  · refine Own.aload_n H_715 (pc := 9) d12_9 rfl rfl ?_
    refine Own.iload_n H_715 (pc := 10) d12_10 rfl ?_
    refine Own.iconst H_715 (pc := 11) (4) d12_11 rfl ?_
    refine Own.iadd H_715 (pc := 12) d12_12 ?_
    refine Own.callS H_715 (pc := 13) (y := (⟨"termstone/store/Utf8IsUtf8PinLaw", "v4", "([BI)Z"⟩ : MethodName)) [(.ref a), (.int (s0 + (4 : Int32)))] [] d12_13 (hw _ (List.mem_of_getElem? (i := 24) rfl)) (hw _ (List.mem_of_getElem? (i := 25) rfl)) (hw _ (List.mem_of_getElem? (i := 7) rfl)) (hw _ (List.mem_of_getElem? (i := 26) rfl)) (by decide) (rm_v4 l Z a0 hw a (s0 + (4 : Int32)) _ n0 H_715.z0 bs hl A (i + 4) (own_addn hs rfl (by omega)) (by omega)) (r := (some .boolean)) (ps := [(.array .byte), .int]) (by decide) rfl rfl 0 rfl (by decide) (by decide) (by decide) (by decide) rfl (fun T_806 v_808 h_807 H_805 z_809 q_810 => ?_)
    obtain ⟨rfl, rfl⟩ := q_810
    show OEnds _ _ _ _ _ _ _ _ _ (mkF _ 16 #[.val (.ref a), .val (.int s0)] [(.int (own_v4 bs (i + 4)))])
    refine Own.if_ne H_805 (pc := 16) 76 d12_16 (by decide) (by decide) (fun hc16 => ?_) (fun hc16 => ?_)
    · refine Own.iconst H_805 (pc := 76) (1) d12_76 rfl ?_
      refine Own.goto H_805 (pc := 77) 81 d12_77 (by decide) (by decide) ?_
      exact Own.ret_nar H_805 (pc := 81) (1) d12_81 rfl (by simp) (by decide) (by decide) (by decide) (⟨by simp [own_v8, *], rfl⟩)
    · refine Own.aload_n H_805 (pc := 19) d12_19 rfl rfl ?_
      refine Own.iload_n H_805 (pc := 20) d12_20 rfl ?_
      refine Own.iconst H_805 (pc := 21) (3) d12_21 rfl ?_
      refine Own.callS H_805 (pc := 22) (y := (⟨"termstone/store/Utf8IsUtf8PinLaw", "c", "([BII)Z"⟩ : MethodName)) [(.ref a), (.int s0), (.int (3 : Int32))] [] d12_22 (hw _ (List.mem_of_getElem? (i := 12) rfl)) (hw _ (List.mem_of_getElem? (i := 13) rfl)) (hw _ (List.mem_of_getElem? (i := 7) rfl)) (hw _ (List.mem_of_getElem? (i := 14) rfl)) (by decide) (rm_c l Z a0 hw a s0 (3 : Int32) _ n0 H_805.z0 bs hl A i hs (by decide) (by show (i : Int) + 3 ≤ 8; omega)) (r := (some .boolean)) (ps := [(.array .byte), .int, .int]) (by decide) rfl rfl 0 rfl (by decide) (by decide) (by decide) (by decide) rfl (fun T_812 v_814 h_813 H_811 z_815 q_816 => ?_)
      obtain ⟨rfl, rfl⟩ := q_816
      show OEnds _ _ _ _ _ _ _ _ _ (mkF _ 25 #[.val (.ref a), .val (.int s0)] [(.int (own_c bs i (3 : Int32)))])
      refine Own.if_eq H_811 (pc := 25) 38 d12_25 (by decide) (by decide) (fun hc25 => ?_) (fun hc25 => ?_)
      · refine Own.aload_n H_811 (pc := 38) d12_38 rfl rfl ?_
        refine Own.iload_n H_811 (pc := 39) d12_39 rfl ?_
        refine Own.iconst H_811 (pc := 40) (2) d12_40 rfl ?_
        refine Own.callS H_811 (pc := 41) (y := (⟨"termstone/store/Utf8IsUtf8PinLaw", "c", "([BII)Z"⟩ : MethodName)) [(.ref a), (.int s0), (.int (2 : Int32))] [] d12_41 (hw _ (List.mem_of_getElem? (i := 12) rfl)) (hw _ (List.mem_of_getElem? (i := 13) rfl)) (hw _ (List.mem_of_getElem? (i := 7) rfl)) (hw _ (List.mem_of_getElem? (i := 14) rfl)) (by decide) (rm_c l Z a0 hw a s0 (2 : Int32) _ n0 H_811.z0 bs hl A i hs (by decide) (by show (i : Int) + 2 ≤ 8; omega)) (r := (some .boolean)) (ps := [(.array .byte), .int, .int]) (by decide) rfl rfl 0 rfl (by decide) (by decide) (by decide) (by decide) rfl (fun T_818 v_820 h_819 H_817 z_821 q_822 => ?_)
        obtain ⟨rfl, rfl⟩ := q_822
        show OEnds _ _ _ _ _ _ _ _ _ (mkF _ 44 #[.val (.ref a), .val (.int s0)] [(.int (own_c bs i (2 : Int32)))])
        refine Own.if_eq H_817 (pc := 44) 57 d12_44 (by decide) (by decide) (fun hc44 => ?_) (fun hc44 => ?_)
        · refine Own.aload_n H_817 (pc := 57) d12_57 rfl rfl ?_
          refine Own.iload_n H_817 (pc := 58) d12_58 rfl ?_
          refine Own.iconst H_817 (pc := 59) (1) d12_59 rfl ?_
          refine Own.callS H_817 (pc := 60) (y := (⟨"termstone/store/Utf8IsUtf8PinLaw", "c", "([BII)Z"⟩ : MethodName)) [(.ref a), (.int s0), (.int (1 : Int32))] [] d12_60 (hw _ (List.mem_of_getElem? (i := 12) rfl)) (hw _ (List.mem_of_getElem? (i := 13) rfl)) (hw _ (List.mem_of_getElem? (i := 7) rfl)) (hw _ (List.mem_of_getElem? (i := 14) rfl)) (by decide) (rm_c l Z a0 hw a s0 (1 : Int32) _ n0 H_817.z0 bs hl A i hs (by decide) (by show (i : Int) + 1 ≤ 8; omega)) (r := (some .boolean)) (ps := [(.array .byte), .int, .int]) (by decide) rfl rfl 0 rfl (by decide) (by decide) (by decide) (by decide) rfl (fun T_824 v_826 h_825 H_823 z_827 q_828 => ?_)
          obtain ⟨rfl, rfl⟩ := q_828
          show OEnds _ _ _ _ _ _ _ _ _ (mkF _ 63 #[.val (.ref a), .val (.int s0)] [(.int (own_c bs i (1 : Int32)))])
          refine Own.if_eq H_823 (pc := 63) 80 d12_63 (by decide) (by decide) (fun hc63 => ?_) (fun hc63 => ?_)
          · refine Own.iconst H_823 (pc := 80) (0) d12_80 rfl ?_
            exact Own.ret_nar H_823 (pc := 81) (0) d12_81 rfl (by simp) (by decide) (by decide) (by decide) (⟨by simp [own_v8, *], rfl⟩)
          · refine Own.aload_n H_823 (pc := 66) d12_66 rfl rfl ?_
            refine Own.iload_n H_823 (pc := 67) d12_67 rfl ?_
            refine Own.iconst H_823 (pc := 68) (1) d12_68 rfl ?_
            refine Own.iadd H_823 (pc := 69) d12_69 ?_
            refine Own.callS H_823 (pc := 70) (y := (⟨"termstone/store/Utf8IsUtf8PinLaw", "v7", "([BI)Z"⟩ : MethodName)) [(.ref a), (.int (s0 + (1 : Int32)))] [] d12_70 (hw _ (List.mem_of_getElem? (i := 33) rfl)) (hw _ (List.mem_of_getElem? (i := 34) rfl)) (hw _ (List.mem_of_getElem? (i := 7) rfl)) (hw _ (List.mem_of_getElem? (i := 35) rfl)) (by decide) (rm_v7 l Z a0 hw a (s0 + (1 : Int32)) _ n0 H_823.z0 bs hl A (i + 1) (own_addn hs rfl (by omega)) (by omega)) (r := (some .boolean)) (ps := [(.array .byte), .int]) (by decide) rfl rfl 0 rfl (by decide) (by decide) (by decide) (by decide) rfl (fun T_830 v_832 h_831 H_829 z_833 q_834 => ?_)
            obtain ⟨rfl, rfl⟩ := q_834
            show OEnds _ _ _ _ _ _ _ _ _ (mkF _ 73 #[.val (.ref a), .val (.int s0)] [(.int (own_v7 bs (i + 1)))])
            refine Own.if_eq H_829 (pc := 73) 80 d12_73 (by decide) (by decide) (fun hc73 => ?_) (fun hc73 => ?_)
            · refine Own.iconst H_829 (pc := 80) (0) d12_80 rfl ?_
              exact Own.ret_nar H_829 (pc := 81) (0) d12_81 rfl (by simp) (by decide) (by decide) (by decide) (⟨by simp [own_v8, *], rfl⟩)
            · refine Own.iconst H_829 (pc := 76) (1) d12_76 rfl ?_
              refine Own.goto H_829 (pc := 77) 81 d12_77 (by decide) (by decide) ?_
              exact Own.ret_nar H_829 (pc := 81) (1) d12_81 rfl (by simp) (by decide) (by decide) (by decide) (⟨by simp [own_v8, *], rfl⟩)
        · refine Own.aload_n H_817 (pc := 47) d12_47 rfl rfl ?_
          refine Own.iload_n H_817 (pc := 48) d12_48 rfl ?_
          refine Own.iconst H_817 (pc := 49) (2) d12_49 rfl ?_
          refine Own.iadd H_817 (pc := 50) d12_50 ?_
          refine Own.callS H_817 (pc := 51) (y := (⟨"termstone/store/Utf8IsUtf8PinLaw", "v6", "([BI)Z"⟩ : MethodName)) [(.ref a), (.int (s0 + (2 : Int32)))] [] d12_51 (hw _ (List.mem_of_getElem? (i := 15) rfl)) (hw _ (List.mem_of_getElem? (i := 16) rfl)) (hw _ (List.mem_of_getElem? (i := 7) rfl)) (hw _ (List.mem_of_getElem? (i := 17) rfl)) (by decide) (rm_v6 l Z a0 hw a (s0 + (2 : Int32)) _ n0 H_817.z0 bs hl A (i + 2) (own_addn hs rfl (by omega)) (by omega)) (r := (some .boolean)) (ps := [(.array .byte), .int]) (by decide) rfl rfl 0 rfl (by decide) (by decide) (by decide) (by decide) rfl (fun T_836 v_838 h_837 H_835 z_839 q_840 => ?_)
          obtain ⟨rfl, rfl⟩ := q_840
          show OEnds _ _ _ _ _ _ _ _ _ (mkF _ 54 #[.val (.ref a), .val (.int s0)] [(.int (own_v6 bs (i + 2)))])
          refine Own.if_ne H_835 (pc := 54) 76 d12_54 (by decide) (by decide) (fun hc54 => ?_) (fun hc54 => ?_)
          · refine Own.iconst H_835 (pc := 76) (1) d12_76 rfl ?_
            refine Own.goto H_835 (pc := 77) 81 d12_77 (by decide) (by decide) ?_
            exact Own.ret_nar H_835 (pc := 81) (1) d12_81 rfl (by simp) (by decide) (by decide) (by decide) (⟨by simp [own_v8, *], rfl⟩)
          · refine Own.aload_n H_835 (pc := 57) d12_57 rfl rfl ?_
            refine Own.iload_n H_835 (pc := 58) d12_58 rfl ?_
            refine Own.iconst H_835 (pc := 59) (1) d12_59 rfl ?_
            refine Own.callS H_835 (pc := 60) (y := (⟨"termstone/store/Utf8IsUtf8PinLaw", "c", "([BII)Z"⟩ : MethodName)) [(.ref a), (.int s0), (.int (1 : Int32))] [] d12_60 (hw _ (List.mem_of_getElem? (i := 12) rfl)) (hw _ (List.mem_of_getElem? (i := 13) rfl)) (hw _ (List.mem_of_getElem? (i := 7) rfl)) (hw _ (List.mem_of_getElem? (i := 14) rfl)) (by decide) (rm_c l Z a0 hw a s0 (1 : Int32) _ n0 H_835.z0 bs hl A i hs (by decide) (by show (i : Int) + 1 ≤ 8; omega)) (r := (some .boolean)) (ps := [(.array .byte), .int, .int]) (by decide) rfl rfl 0 rfl (by decide) (by decide) (by decide) (by decide) rfl (fun T_842 v_844 h_843 H_841 z_845 q_846 => ?_)
            obtain ⟨rfl, rfl⟩ := q_846
            show OEnds _ _ _ _ _ _ _ _ _ (mkF _ 63 #[.val (.ref a), .val (.int s0)] [(.int (own_c bs i (1 : Int32)))])
            refine Own.if_eq H_841 (pc := 63) 80 d12_63 (by decide) (by decide) (fun hc63 => ?_) (fun hc63 => ?_)
            · refine Own.iconst H_841 (pc := 80) (0) d12_80 rfl ?_
              exact Own.ret_nar H_841 (pc := 81) (0) d12_81 rfl (by simp) (by decide) (by decide) (by decide) (⟨by simp [own_v8, *], rfl⟩)
            · refine Own.aload_n H_841 (pc := 66) d12_66 rfl rfl ?_
              refine Own.iload_n H_841 (pc := 67) d12_67 rfl ?_
              refine Own.iconst H_841 (pc := 68) (1) d12_68 rfl ?_
              refine Own.iadd H_841 (pc := 69) d12_69 ?_
              refine Own.callS H_841 (pc := 70) (y := (⟨"termstone/store/Utf8IsUtf8PinLaw", "v7", "([BI)Z"⟩ : MethodName)) [(.ref a), (.int (s0 + (1 : Int32)))] [] d12_70 (hw _ (List.mem_of_getElem? (i := 33) rfl)) (hw _ (List.mem_of_getElem? (i := 34) rfl)) (hw _ (List.mem_of_getElem? (i := 7) rfl)) (hw _ (List.mem_of_getElem? (i := 35) rfl)) (by decide) (rm_v7 l Z a0 hw a (s0 + (1 : Int32)) _ n0 H_841.z0 bs hl A (i + 1) (own_addn hs rfl (by omega)) (by omega)) (r := (some .boolean)) (ps := [(.array .byte), .int]) (by decide) rfl rfl 0 rfl (by decide) (by decide) (by decide) (by decide) rfl (fun T_848 v_850 h_849 H_847 z_851 q_852 => ?_)
              obtain ⟨rfl, rfl⟩ := q_852
              show OEnds _ _ _ _ _ _ _ _ _ (mkF _ 73 #[.val (.ref a), .val (.int s0)] [(.int (own_v7 bs (i + 1)))])
              refine Own.if_eq H_847 (pc := 73) 80 d12_73 (by decide) (by decide) (fun hc73 => ?_) (fun hc73 => ?_)
              · refine Own.iconst H_847 (pc := 80) (0) d12_80 rfl ?_
                exact Own.ret_nar H_847 (pc := 81) (0) d12_81 rfl (by simp) (by decide) (by decide) (by decide) (⟨by simp [own_v8, *], rfl⟩)
              · refine Own.iconst H_847 (pc := 76) (1) d12_76 rfl ?_
                refine Own.goto H_847 (pc := 77) 81 d12_77 (by decide) (by decide) ?_
                exact Own.ret_nar H_847 (pc := 81) (1) d12_81 rfl (by simp) (by decide) (by decide) (by decide) (⟨by simp [own_v8, *], rfl⟩)
      · refine Own.aload_n H_811 (pc := 28) d12_28 rfl rfl ?_
        refine Own.iload_n H_811 (pc := 29) d12_29 rfl ?_
        refine Own.iconst H_811 (pc := 30) (3) d12_30 rfl ?_
        refine Own.iadd H_811 (pc := 31) d12_31 ?_
        refine Own.callS H_811 (pc := 32) (y := (⟨"termstone/store/Utf8IsUtf8PinLaw", "v5", "([BI)Z"⟩ : MethodName)) [(.ref a), (.int (s0 + (3 : Int32)))] [] d12_32 (hw _ (List.mem_of_getElem? (i := 21) rfl)) (hw _ (List.mem_of_getElem? (i := 22) rfl)) (hw _ (List.mem_of_getElem? (i := 7) rfl)) (hw _ (List.mem_of_getElem? (i := 23) rfl)) (by decide) (rm_v5 l Z a0 hw a (s0 + (3 : Int32)) _ n0 H_811.z0 bs hl A (i + 3) (own_addn hs rfl (by omega)) (by omega)) (r := (some .boolean)) (ps := [(.array .byte), .int]) (by decide) rfl rfl 0 rfl (by decide) (by decide) (by decide) (by decide) rfl (fun T_854 v_856 h_855 H_853 z_857 q_858 => ?_)
        obtain ⟨rfl, rfl⟩ := q_858
        show OEnds _ _ _ _ _ _ _ _ _ (mkF _ 35 #[.val (.ref a), .val (.int s0)] [(.int (own_v5 bs (i + 3)))])
        refine Own.if_ne H_853 (pc := 35) 76 d12_35 (by decide) (by decide) (fun hc35 => ?_) (fun hc35 => ?_)
        · refine Own.iconst H_853 (pc := 76) (1) d12_76 rfl ?_
          refine Own.goto H_853 (pc := 77) 81 d12_77 (by decide) (by decide) ?_
          exact Own.ret_nar H_853 (pc := 81) (1) d12_81 rfl (by simp) (by decide) (by decide) (by decide) (⟨by simp [own_v8, *], rfl⟩)
        · refine Own.aload_n H_853 (pc := 38) d12_38 rfl rfl ?_
          refine Own.iload_n H_853 (pc := 39) d12_39 rfl ?_
          refine Own.iconst H_853 (pc := 40) (2) d12_40 rfl ?_
          refine Own.callS H_853 (pc := 41) (y := (⟨"termstone/store/Utf8IsUtf8PinLaw", "c", "([BII)Z"⟩ : MethodName)) [(.ref a), (.int s0), (.int (2 : Int32))] [] d12_41 (hw _ (List.mem_of_getElem? (i := 12) rfl)) (hw _ (List.mem_of_getElem? (i := 13) rfl)) (hw _ (List.mem_of_getElem? (i := 7) rfl)) (hw _ (List.mem_of_getElem? (i := 14) rfl)) (by decide) (rm_c l Z a0 hw a s0 (2 : Int32) _ n0 H_853.z0 bs hl A i hs (by decide) (by show (i : Int) + 2 ≤ 8; omega)) (r := (some .boolean)) (ps := [(.array .byte), .int, .int]) (by decide) rfl rfl 0 rfl (by decide) (by decide) (by decide) (by decide) rfl (fun T_860 v_862 h_861 H_859 z_863 q_864 => ?_)
          obtain ⟨rfl, rfl⟩ := q_864
          show OEnds _ _ _ _ _ _ _ _ _ (mkF _ 44 #[.val (.ref a), .val (.int s0)] [(.int (own_c bs i (2 : Int32)))])
          refine Own.if_eq H_859 (pc := 44) 57 d12_44 (by decide) (by decide) (fun hc44 => ?_) (fun hc44 => ?_)
          · refine Own.aload_n H_859 (pc := 57) d12_57 rfl rfl ?_
            refine Own.iload_n H_859 (pc := 58) d12_58 rfl ?_
            refine Own.iconst H_859 (pc := 59) (1) d12_59 rfl ?_
            refine Own.callS H_859 (pc := 60) (y := (⟨"termstone/store/Utf8IsUtf8PinLaw", "c", "([BII)Z"⟩ : MethodName)) [(.ref a), (.int s0), (.int (1 : Int32))] [] d12_60 (hw _ (List.mem_of_getElem? (i := 12) rfl)) (hw _ (List.mem_of_getElem? (i := 13) rfl)) (hw _ (List.mem_of_getElem? (i := 7) rfl)) (hw _ (List.mem_of_getElem? (i := 14) rfl)) (by decide) (rm_c l Z a0 hw a s0 (1 : Int32) _ n0 H_859.z0 bs hl A i hs (by decide) (by show (i : Int) + 1 ≤ 8; omega)) (r := (some .boolean)) (ps := [(.array .byte), .int, .int]) (by decide) rfl rfl 0 rfl (by decide) (by decide) (by decide) (by decide) rfl (fun T_866 v_868 h_867 H_865 z_869 q_870 => ?_)
            obtain ⟨rfl, rfl⟩ := q_870
            show OEnds _ _ _ _ _ _ _ _ _ (mkF _ 63 #[.val (.ref a), .val (.int s0)] [(.int (own_c bs i (1 : Int32)))])
            refine Own.if_eq H_865 (pc := 63) 80 d12_63 (by decide) (by decide) (fun hc63 => ?_) (fun hc63 => ?_)
            · refine Own.iconst H_865 (pc := 80) (0) d12_80 rfl ?_
              exact Own.ret_nar H_865 (pc := 81) (0) d12_81 rfl (by simp) (by decide) (by decide) (by decide) (⟨by simp [own_v8, *], rfl⟩)
            · refine Own.aload_n H_865 (pc := 66) d12_66 rfl rfl ?_
              refine Own.iload_n H_865 (pc := 67) d12_67 rfl ?_
              refine Own.iconst H_865 (pc := 68) (1) d12_68 rfl ?_
              refine Own.iadd H_865 (pc := 69) d12_69 ?_
              refine Own.callS H_865 (pc := 70) (y := (⟨"termstone/store/Utf8IsUtf8PinLaw", "v7", "([BI)Z"⟩ : MethodName)) [(.ref a), (.int (s0 + (1 : Int32)))] [] d12_70 (hw _ (List.mem_of_getElem? (i := 33) rfl)) (hw _ (List.mem_of_getElem? (i := 34) rfl)) (hw _ (List.mem_of_getElem? (i := 7) rfl)) (hw _ (List.mem_of_getElem? (i := 35) rfl)) (by decide) (rm_v7 l Z a0 hw a (s0 + (1 : Int32)) _ n0 H_865.z0 bs hl A (i + 1) (own_addn hs rfl (by omega)) (by omega)) (r := (some .boolean)) (ps := [(.array .byte), .int]) (by decide) rfl rfl 0 rfl (by decide) (by decide) (by decide) (by decide) rfl (fun T_872 v_874 h_873 H_871 z_875 q_876 => ?_)
              obtain ⟨rfl, rfl⟩ := q_876
              show OEnds _ _ _ _ _ _ _ _ _ (mkF _ 73 #[.val (.ref a), .val (.int s0)] [(.int (own_v7 bs (i + 1)))])
              refine Own.if_eq H_871 (pc := 73) 80 d12_73 (by decide) (by decide) (fun hc73 => ?_) (fun hc73 => ?_)
              · refine Own.iconst H_871 (pc := 80) (0) d12_80 rfl ?_
                exact Own.ret_nar H_871 (pc := 81) (0) d12_81 rfl (by simp) (by decide) (by decide) (by decide) (⟨by simp [own_v8, *], rfl⟩)
              · refine Own.iconst H_871 (pc := 76) (1) d12_76 rfl ?_
                refine Own.goto H_871 (pc := 77) 81 d12_77 (by decide) (by decide) ?_
                exact Own.ret_nar H_871 (pc := 81) (1) d12_81 rfl (by simp) (by decide) (by decide) (by decide) (⟨by simp [own_v8, *], rfl⟩)
          · refine Own.aload_n H_859 (pc := 47) d12_47 rfl rfl ?_
            refine Own.iload_n H_859 (pc := 48) d12_48 rfl ?_
            refine Own.iconst H_859 (pc := 49) (2) d12_49 rfl ?_
            refine Own.iadd H_859 (pc := 50) d12_50 ?_
            refine Own.callS H_859 (pc := 51) (y := (⟨"termstone/store/Utf8IsUtf8PinLaw", "v6", "([BI)Z"⟩ : MethodName)) [(.ref a), (.int (s0 + (2 : Int32)))] [] d12_51 (hw _ (List.mem_of_getElem? (i := 15) rfl)) (hw _ (List.mem_of_getElem? (i := 16) rfl)) (hw _ (List.mem_of_getElem? (i := 7) rfl)) (hw _ (List.mem_of_getElem? (i := 17) rfl)) (by decide) (rm_v6 l Z a0 hw a (s0 + (2 : Int32)) _ n0 H_859.z0 bs hl A (i + 2) (own_addn hs rfl (by omega)) (by omega)) (r := (some .boolean)) (ps := [(.array .byte), .int]) (by decide) rfl rfl 0 rfl (by decide) (by decide) (by decide) (by decide) rfl (fun T_878 v_880 h_879 H_877 z_881 q_882 => ?_)
            obtain ⟨rfl, rfl⟩ := q_882
            show OEnds _ _ _ _ _ _ _ _ _ (mkF _ 54 #[.val (.ref a), .val (.int s0)] [(.int (own_v6 bs (i + 2)))])
            refine Own.if_ne H_877 (pc := 54) 76 d12_54 (by decide) (by decide) (fun hc54 => ?_) (fun hc54 => ?_)
            · refine Own.iconst H_877 (pc := 76) (1) d12_76 rfl ?_
              refine Own.goto H_877 (pc := 77) 81 d12_77 (by decide) (by decide) ?_
              exact Own.ret_nar H_877 (pc := 81) (1) d12_81 rfl (by simp) (by decide) (by decide) (by decide) (⟨by simp [own_v8, *], rfl⟩)
            · refine Own.aload_n H_877 (pc := 57) d12_57 rfl rfl ?_
              refine Own.iload_n H_877 (pc := 58) d12_58 rfl ?_
              refine Own.iconst H_877 (pc := 59) (1) d12_59 rfl ?_
              refine Own.callS H_877 (pc := 60) (y := (⟨"termstone/store/Utf8IsUtf8PinLaw", "c", "([BII)Z"⟩ : MethodName)) [(.ref a), (.int s0), (.int (1 : Int32))] [] d12_60 (hw _ (List.mem_of_getElem? (i := 12) rfl)) (hw _ (List.mem_of_getElem? (i := 13) rfl)) (hw _ (List.mem_of_getElem? (i := 7) rfl)) (hw _ (List.mem_of_getElem? (i := 14) rfl)) (by decide) (rm_c l Z a0 hw a s0 (1 : Int32) _ n0 H_877.z0 bs hl A i hs (by decide) (by show (i : Int) + 1 ≤ 8; omega)) (r := (some .boolean)) (ps := [(.array .byte), .int, .int]) (by decide) rfl rfl 0 rfl (by decide) (by decide) (by decide) (by decide) rfl (fun T_884 v_886 h_885 H_883 z_887 q_888 => ?_)
              obtain ⟨rfl, rfl⟩ := q_888
              show OEnds _ _ _ _ _ _ _ _ _ (mkF _ 63 #[.val (.ref a), .val (.int s0)] [(.int (own_c bs i (1 : Int32)))])
              refine Own.if_eq H_883 (pc := 63) 80 d12_63 (by decide) (by decide) (fun hc63 => ?_) (fun hc63 => ?_)
              · refine Own.iconst H_883 (pc := 80) (0) d12_80 rfl ?_
                exact Own.ret_nar H_883 (pc := 81) (0) d12_81 rfl (by simp) (by decide) (by decide) (by decide) (⟨by simp [own_v8, *], rfl⟩)
              · refine Own.aload_n H_883 (pc := 66) d12_66 rfl rfl ?_
                refine Own.iload_n H_883 (pc := 67) d12_67 rfl ?_
                refine Own.iconst H_883 (pc := 68) (1) d12_68 rfl ?_
                refine Own.iadd H_883 (pc := 69) d12_69 ?_
                refine Own.callS H_883 (pc := 70) (y := (⟨"termstone/store/Utf8IsUtf8PinLaw", "v7", "([BI)Z"⟩ : MethodName)) [(.ref a), (.int (s0 + (1 : Int32)))] [] d12_70 (hw _ (List.mem_of_getElem? (i := 33) rfl)) (hw _ (List.mem_of_getElem? (i := 34) rfl)) (hw _ (List.mem_of_getElem? (i := 7) rfl)) (hw _ (List.mem_of_getElem? (i := 35) rfl)) (by decide) (rm_v7 l Z a0 hw a (s0 + (1 : Int32)) _ n0 H_883.z0 bs hl A (i + 1) (own_addn hs rfl (by omega)) (by omega)) (r := (some .boolean)) (ps := [(.array .byte), .int]) (by decide) rfl rfl 0 rfl (by decide) (by decide) (by decide) (by decide) rfl (fun T_890 v_892 h_891 H_889 z_893 q_894 => ?_)
                obtain ⟨rfl, rfl⟩ := q_894
                show OEnds _ _ _ _ _ _ _ _ _ (mkF _ 73 #[.val (.ref a), .val (.int s0)] [(.int (own_v7 bs (i + 1)))])
                refine Own.if_eq H_889 (pc := 73) 80 d12_73 (by decide) (by decide) (fun hc73 => ?_) (fun hc73 => ?_)
                · refine Own.iconst H_889 (pc := 80) (0) d12_80 rfl ?_
                  exact Own.ret_nar H_889 (pc := 81) (0) d12_81 rfl (by simp) (by decide) (by decide) (by decide) (⟨by simp [own_v8, *], rfl⟩)
                · refine Own.iconst H_889 (pc := 76) (1) d12_76 rfl ?_
                  refine Own.goto H_889 (pc := 77) 81 d12_77 (by decide) (by decide) ?_
                  exact Own.ret_nar H_889 (pc := 81) (1) d12_81 rfl (by simp) (by decide) (by decide) (by decide) (⟨by simp [own_v8, *], rfl⟩)
theorem d2_0 : decode method_5_code 0 = .ok (.iload_n 2, 1) := by decide +kernel
theorem d2_1 : decode method_5_code 1 = .ok (.ifCond .ne 5, 3) := by decide +kernel
theorem d2_4 : decode method_5_code 4 = .ok (.iconst 1, 1) := by decide +kernel
theorem d2_5 : decode method_5_code 5 = .ok (.ireturn, 1) := by decide +kernel
theorem d2_6 : decode method_5_code 6 = .ok (.iload_n 2, 1) := by decide +kernel
theorem d2_7 : decode method_5_code 7 = .ok (.iconst 1, 1) := by decide +kernel
theorem d2_8 : decode method_5_code 8 = .ok (.if_icmp .ne 9, 3) := by decide +kernel
theorem d2_11 : decode method_5_code 11 = .ok (.aload_n 0, 1) := by decide +kernel
theorem d2_12 : decode method_5_code 12 = .ok (.iload_n 1, 1) := by decide +kernel
theorem d2_13 : decode method_5_code 13 = .ok (.invokestatic 26, 3) := by decide +kernel
theorem d2_16 : decode method_5_code 16 = .ok (.ireturn, 1) := by decide +kernel
theorem d2_17 : decode method_5_code 17 = .ok (.iload_n 2, 1) := by decide +kernel
theorem d2_18 : decode method_5_code 18 = .ok (.iconst 2, 1) := by decide +kernel
theorem d2_19 : decode method_5_code 19 = .ok (.if_icmp .ne 9, 3) := by decide +kernel
theorem d2_22 : decode method_5_code 22 = .ok (.aload_n 0, 1) := by decide +kernel
theorem d2_23 : decode method_5_code 23 = .ok (.iload_n 1, 1) := by decide +kernel
theorem d2_24 : decode method_5_code 24 = .ok (.invokestatic 30, 3) := by decide +kernel
theorem d2_27 : decode method_5_code 27 = .ok (.ireturn, 1) := by decide +kernel
theorem d2_28 : decode method_5_code 28 = .ok (.iload_n 2, 1) := by decide +kernel
theorem d2_29 : decode method_5_code 29 = .ok (.iconst 3, 1) := by decide +kernel
theorem d2_30 : decode method_5_code 30 = .ok (.if_icmp .ne 9, 3) := by decide +kernel
theorem d2_33 : decode method_5_code 33 = .ok (.aload_n 0, 1) := by decide +kernel
theorem d2_34 : decode method_5_code 34 = .ok (.iload_n 1, 1) := by decide +kernel
theorem d2_35 : decode method_5_code 35 = .ok (.invokestatic 33, 3) := by decide +kernel
theorem d2_38 : decode method_5_code 38 = .ok (.ireturn, 1) := by decide +kernel
theorem d2_39 : decode method_5_code 39 = .ok (.iload_n 2, 1) := by decide +kernel
theorem d2_40 : decode method_5_code 40 = .ok (.iconst 4, 1) := by decide +kernel
theorem d2_41 : decode method_5_code 41 = .ok (.if_icmp .ne 9, 3) := by decide +kernel
theorem d2_44 : decode method_5_code 44 = .ok (.aload_n 0, 1) := by decide +kernel
theorem d2_45 : decode method_5_code 45 = .ok (.iload_n 1, 1) := by decide +kernel
theorem d2_46 : decode method_5_code 46 = .ok (.invokestatic 36, 3) := by decide +kernel
theorem d2_49 : decode method_5_code 49 = .ok (.ireturn, 1) := by decide +kernel
theorem d2_50 : decode method_5_code 50 = .ok (.iload_n 2, 1) := by decide +kernel
theorem d2_51 : decode method_5_code 51 = .ok (.iconst 5, 1) := by decide +kernel
theorem d2_52 : decode method_5_code 52 = .ok (.if_icmp .ne 9, 3) := by decide +kernel
theorem d2_55 : decode method_5_code 55 = .ok (.aload_n 0, 1) := by decide +kernel
theorem d2_56 : decode method_5_code 56 = .ok (.iload_n 1, 1) := by decide +kernel
theorem d2_57 : decode method_5_code 57 = .ok (.invokestatic 39, 3) := by decide +kernel
theorem d2_60 : decode method_5_code 60 = .ok (.ireturn, 1) := by decide +kernel
theorem d2_61 : decode method_5_code 61 = .ok (.iload_n 2, 1) := by decide +kernel
theorem d2_62 : decode method_5_code 62 = .ok (.bipush 6, 2) := by decide +kernel
theorem d2_64 : decode method_5_code 64 = .ok (.if_icmp .ne 9, 3) := by decide +kernel
theorem d2_67 : decode method_5_code 67 = .ok (.aload_n 0, 1) := by decide +kernel
theorem d2_68 : decode method_5_code 68 = .ok (.iload_n 1, 1) := by decide +kernel
theorem d2_69 : decode method_5_code 69 = .ok (.invokestatic 42, 3) := by decide +kernel
theorem d2_72 : decode method_5_code 72 = .ok (.ireturn, 1) := by decide +kernel
theorem d2_73 : decode method_5_code 73 = .ok (.iload_n 2, 1) := by decide +kernel
theorem d2_74 : decode method_5_code 74 = .ok (.bipush 7, 2) := by decide +kernel
theorem d2_76 : decode method_5_code 76 = .ok (.if_icmp .ne 9, 3) := by decide +kernel
theorem d2_79 : decode method_5_code 79 = .ok (.aload_n 0, 1) := by decide +kernel
theorem d2_80 : decode method_5_code 80 = .ok (.iload_n 1, 1) := by decide +kernel
theorem d2_81 : decode method_5_code 81 = .ok (.invokestatic 45, 3) := by decide +kernel
theorem d2_84 : decode method_5_code 84 = .ok (.ireturn, 1) := by decide +kernel
theorem d2_85 : decode method_5_code 85 = .ok (.aload_n 0, 1) := by decide +kernel
theorem d2_86 : decode method_5_code 86 = .ok (.iload_n 1, 1) := by decide +kernel
theorem d2_87 : decode method_5_code 87 = .ok (.invokestatic 48, 3) := by decide +kernel
theorem d2_90 : decode method_5_code 90 = .ok (.ireturn, 1) := by decide +kernel
theorem own_n1 (bs : List Int32) (s : Nat) : nar .boolean (own_v1 bs s) = own_v1 bs s := own_nz (own_z1 bs s)
theorem own_n2 (bs : List Int32) (s : Nat) : nar .boolean (own_v2 bs s) = own_v2 bs s := own_nz (own_z2 bs s)
theorem own_n3 (bs : List Int32) (s : Nat) : nar .boolean (own_v3 bs s) = own_v3 bs s := own_nz (own_z3 bs s)
theorem own_n4 (bs : List Int32) (s : Nat) : nar .boolean (own_v4 bs s) = own_v4 bs s := own_nz (own_z4 bs s)
theorem own_n5 (bs : List Int32) (s : Nat) : nar .boolean (own_v5 bs s) = own_v5 bs s := own_nz (own_z5 bs s)
theorem own_n6 (bs : List Int32) (s : Nat) : nar .boolean (own_v6 bs s) = own_v6 bs s := own_nz (own_z6 bs s)
theorem own_n7 (bs : List Int32) (s : Nat) : nar .boolean (own_v7 bs s) = own_v7 bs s := own_nz (own_z7 bs s)
theorem own_n8 (bs : List Int32) (s : Nat) : nar .boolean (own_v8 bs s) = own_v8 bs s := own_nz (own_z8 bs s)
theorem pn_rm_wf : plainFor (⟨"termstone/store/Utf8IsUtf8PinLaw", "wf", "([BII)Z"⟩ : MethodName) = true := by first | exact plainFor_of_name (by first | (simp [plainName, overriddenIn]; done) | decide +kernel) | decide +kernel
theorem ef_rm_wf (a : Nat) (s0 : Int32) (n : Int32) (m : MethodId) : entryFrame m #[(.ref a), (.int s0), (.int n)] 3 = mkF m 0 #[.val (.ref a), .val (.int s0), .val (.int n)] [] := by first | (simp [entryFrame, mkF, argsToLocals, Value.category]; done) | rfl
set_option maxRecDepth 65536 in
set_option maxHeartbeats 40000000 in
theorem rm_wf (l : Launch) (Z : State) (a0 : Array Value) (hw : ∀ d ∈ tables_1, d.before a0 Z = true) (a : Nat) (s0 : Int32) (n : Int32) (h0 : Heap) (n0 : Nat) (Z0 : n0 ≤ h0.size) (bs : List Int32) (hl : bs.length = 8) (A : OAry Z h0 a .byte (bs.map Value.int)) (i : Nat) (hs : s0.toInt = (i : Int)) (hn : 0 ≤ n.toInt) (hin : (i : Int) + n.toInt ≤ 8) :
    OMet l Z n0 (⟨"termstone/store/Utf8IsUtf8PinLaw", "wf", "([BII)Z"⟩ : MethodName) method_5_code 3 (some .boolean) ({ frames := 10, cells := 0, slots := 0, locals := 135 } : Room) #[(.ref a), (.int s0), (.int n)] h0 (fun v h => v = some (.int (own_wf bs i n)) ∧ h = h0) := by
  refine OMet.of pn_rm_wf Z0 (ef_rm_wf a s0 n) ?_
  intro p e s m below meth c T H
  refine Own.iload_n H (pc := 0) d2_0 rfl ?_
  refine Own.if_ne H (pc := 1) 6 d2_1 (by decide) (by decide) (fun hcx => ?_) (fun hcx => ?_)
  · have ne0 : ¬ n = 0 := hcx
    have nn0 : n.toInt ≠ 0 := fun e => hcx (own_eq e)
    refine Own.iload_n H (pc := 6) d2_6 rfl ?_
    refine Own.iconst H (pc := 7) (1) d2_7 rfl ?_
    refine Own.icmp_ne H (pc := 8) 17 d2_8 (by decide) (by decide) (fun hcx => ?_) (fun hcx => ?_)
    · have ne1 : ¬ n = 1 := hcx
      have nn1 : n.toInt ≠ 1 := fun e => hcx (own_eq e)
      refine Own.iload_n H (pc := 17) d2_17 rfl ?_
      refine Own.iconst H (pc := 18) (2) d2_18 rfl ?_
      refine Own.icmp_ne H (pc := 19) 28 d2_19 (by decide) (by decide) (fun hcx => ?_) (fun hcx => ?_)
      · have ne2 : ¬ n = 2 := hcx
        have nn2 : n.toInt ≠ 2 := fun e => hcx (own_eq e)
        refine Own.iload_n H (pc := 28) d2_28 rfl ?_
        refine Own.iconst H (pc := 29) (3) d2_29 rfl ?_
        refine Own.icmp_ne H (pc := 30) 39 d2_30 (by decide) (by decide) (fun hcx => ?_) (fun hcx => ?_)
        · have ne3 : ¬ n = 3 := hcx
          have nn3 : n.toInt ≠ 3 := fun e => hcx (own_eq e)
          refine Own.iload_n H (pc := 39) d2_39 rfl ?_
          refine Own.iconst H (pc := 40) (4) d2_40 rfl ?_
          refine Own.icmp_ne H (pc := 41) 50 d2_41 (by decide) (by decide) (fun hcx => ?_) (fun hcx => ?_)
          · have ne4 : ¬ n = 4 := hcx
            have nn4 : n.toInt ≠ 4 := fun e => hcx (own_eq e)
            refine Own.iload_n H (pc := 50) d2_50 rfl ?_
            refine Own.iconst H (pc := 51) (5) d2_51 rfl ?_
            refine Own.icmp_ne H (pc := 52) 61 d2_52 (by decide) (by decide) (fun hcx => ?_) (fun hcx => ?_)
            · have ne5 : ¬ n = 5 := hcx
              have nn5 : n.toInt ≠ 5 := fun e => hcx (own_eq e)
              refine Own.iload_n H (pc := 61) d2_61 rfl ?_
              refine Own.bipush H (pc := 62) (6) d2_62 rfl ?_
              refine Own.icmp_ne H (pc := 64) 73 d2_64 (by decide) (by decide) (fun hcx => ?_) (fun hcx => ?_)
              · have ne6 : ¬ n = 6 := hcx
                have nn6 : n.toInt ≠ 6 := fun e => hcx (own_eq e)
                refine Own.iload_n H (pc := 73) d2_73 rfl ?_
                refine Own.bipush H (pc := 74) (7) d2_74 rfl ?_
                refine Own.icmp_ne H (pc := 76) 85 d2_76 (by decide) (by decide) (fun hcx => ?_) (fun hcx => ?_)
                · have ne7 : ¬ n = 7 := hcx
                  have nn7 : n.toInt ≠ 7 := fun e => hcx (own_eq e)
                  refine Own.aload_n H (pc := 85) d2_85 rfl rfl ?_
                  refine Own.iload_n H (pc := 86) d2_86 rfl ?_
                  have hn' : i + 8 ≤ 8 := by
                    have := hn; have := hin; omega
                  refine Own.callS H (pc := 87) (y := (⟨"termstone/store/Utf8IsUtf8PinLaw", "v8", "([BI)Z"⟩ : MethodName)) [(.ref a), (.int s0)] [] d2_87 (hw _ (List.mem_of_getElem? (i := 36) rfl)) (hw _ (List.mem_of_getElem? (i := 37) rfl)) (hw _ (List.mem_of_getElem? (i := 7) rfl)) (hw _ (List.mem_of_getElem? (i := 38) rfl)) (by decide) (rm_v8 l Z a0 hw a s0 _ n0 H.z0 bs hl A i hs hn') (r := (some .boolean)) (ps := [(.array .byte), .int]) (by decide) rfl rfl 0 rfl (by decide) (by decide) (by decide) (by decide) rfl (fun T_938 v_940 h_939 H_937 z_941 q_942 => ?_)
                  obtain ⟨rfl, rfl⟩ := q_942
                  show OEnds _ _ _ _ _ _ _ _ _ (mkF _ 90 #[.val (.ref a), .val (.int s0), .val (.int n)] [(.int (own_v8 bs i))])
                  exact Own.ret_nar H_937 (pc := 90) (own_v8 bs i) d2_90 rfl (by simp) (own_n8 _ _) (by decide) (by decide) (⟨by simp [own_wf, *], rfl⟩)
                · refine Own.aload_n H (pc := 79) d2_79 rfl rfl ?_
                  refine Own.iload_n H (pc := 80) d2_80 rfl ?_
                  have hn' : i + 7 ≤ 8 := by
                    have e1 : n.toInt = 7 := by rw [hcx]; rfl
                    omega
                  refine Own.callS H (pc := 81) (y := (⟨"termstone/store/Utf8IsUtf8PinLaw", "v7", "([BI)Z"⟩ : MethodName)) [(.ref a), (.int s0)] [] d2_81 (hw _ (List.mem_of_getElem? (i := 33) rfl)) (hw _ (List.mem_of_getElem? (i := 34) rfl)) (hw _ (List.mem_of_getElem? (i := 7) rfl)) (hw _ (List.mem_of_getElem? (i := 35) rfl)) (by decide) (rm_v7 l Z a0 hw a s0 _ n0 H.z0 bs hl A i hs hn') (r := (some .boolean)) (ps := [(.array .byte), .int]) (by decide) rfl rfl 0 rfl (by decide) (by decide) (by decide) (by decide) rfl (fun T_932 v_934 h_933 H_931 z_935 q_936 => ?_)
                  obtain ⟨rfl, rfl⟩ := q_936
                  show OEnds _ _ _ _ _ _ _ _ _ (mkF _ 84 #[.val (.ref a), .val (.int s0), .val (.int n)] [(.int (own_v7 bs i))])
                  exact Own.ret_nar H_931 (pc := 84) (own_v7 bs i) d2_84 rfl (by simp) (own_n7 _ _) (by decide) (by decide) (⟨by simp [own_wf, *], rfl⟩)
              · refine Own.aload_n H (pc := 67) d2_67 rfl rfl ?_
                refine Own.iload_n H (pc := 68) d2_68 rfl ?_
                have hn' : i + 6 ≤ 8 := by
                  have e1 : n.toInt = 6 := by rw [hcx]; rfl
                  omega
                refine Own.callS H (pc := 69) (y := (⟨"termstone/store/Utf8IsUtf8PinLaw", "v6", "([BI)Z"⟩ : MethodName)) [(.ref a), (.int s0)] [] d2_69 (hw _ (List.mem_of_getElem? (i := 15) rfl)) (hw _ (List.mem_of_getElem? (i := 16) rfl)) (hw _ (List.mem_of_getElem? (i := 7) rfl)) (hw _ (List.mem_of_getElem? (i := 17) rfl)) (by decide) (rm_v6 l Z a0 hw a s0 _ n0 H.z0 bs hl A i hs hn') (r := (some .boolean)) (ps := [(.array .byte), .int]) (by decide) rfl rfl 0 rfl (by decide) (by decide) (by decide) (by decide) rfl (fun T_926 v_928 h_927 H_925 z_929 q_930 => ?_)
                obtain ⟨rfl, rfl⟩ := q_930
                show OEnds _ _ _ _ _ _ _ _ _ (mkF _ 72 #[.val (.ref a), .val (.int s0), .val (.int n)] [(.int (own_v6 bs i))])
                exact Own.ret_nar H_925 (pc := 72) (own_v6 bs i) d2_72 rfl (by simp) (own_n6 _ _) (by decide) (by decide) (⟨by simp [own_wf, *], rfl⟩)
            · refine Own.aload_n H (pc := 55) d2_55 rfl rfl ?_
              refine Own.iload_n H (pc := 56) d2_56 rfl ?_
              have hn' : i + 5 ≤ 8 := by
                have e1 : n.toInt = 5 := by rw [hcx]; rfl
                omega
              refine Own.callS H (pc := 57) (y := (⟨"termstone/store/Utf8IsUtf8PinLaw", "v5", "([BI)Z"⟩ : MethodName)) [(.ref a), (.int s0)] [] d2_57 (hw _ (List.mem_of_getElem? (i := 21) rfl)) (hw _ (List.mem_of_getElem? (i := 22) rfl)) (hw _ (List.mem_of_getElem? (i := 7) rfl)) (hw _ (List.mem_of_getElem? (i := 23) rfl)) (by decide) (rm_v5 l Z a0 hw a s0 _ n0 H.z0 bs hl A i hs hn') (r := (some .boolean)) (ps := [(.array .byte), .int]) (by decide) rfl rfl 0 rfl (by decide) (by decide) (by decide) (by decide) rfl (fun T_920 v_922 h_921 H_919 z_923 q_924 => ?_)
              obtain ⟨rfl, rfl⟩ := q_924
              show OEnds _ _ _ _ _ _ _ _ _ (mkF _ 60 #[.val (.ref a), .val (.int s0), .val (.int n)] [(.int (own_v5 bs i))])
              exact Own.ret_nar H_919 (pc := 60) (own_v5 bs i) d2_60 rfl (by simp) (own_n5 _ _) (by decide) (by decide) (⟨by simp [own_wf, *], rfl⟩)
          · refine Own.aload_n H (pc := 44) d2_44 rfl rfl ?_
            refine Own.iload_n H (pc := 45) d2_45 rfl ?_
            have hn' : i + 4 ≤ 8 := by
              have e1 : n.toInt = 4 := by rw [hcx]; rfl
              omega
            refine Own.callS H (pc := 46) (y := (⟨"termstone/store/Utf8IsUtf8PinLaw", "v4", "([BI)Z"⟩ : MethodName)) [(.ref a), (.int s0)] [] d2_46 (hw _ (List.mem_of_getElem? (i := 24) rfl)) (hw _ (List.mem_of_getElem? (i := 25) rfl)) (hw _ (List.mem_of_getElem? (i := 7) rfl)) (hw _ (List.mem_of_getElem? (i := 26) rfl)) (by decide) (rm_v4 l Z a0 hw a s0 _ n0 H.z0 bs hl A i hs hn') (r := (some .boolean)) (ps := [(.array .byte), .int]) (by decide) rfl rfl 0 rfl (by decide) (by decide) (by decide) (by decide) rfl (fun T_914 v_916 h_915 H_913 z_917 q_918 => ?_)
            obtain ⟨rfl, rfl⟩ := q_918
            show OEnds _ _ _ _ _ _ _ _ _ (mkF _ 49 #[.val (.ref a), .val (.int s0), .val (.int n)] [(.int (own_v4 bs i))])
            exact Own.ret_nar H_913 (pc := 49) (own_v4 bs i) d2_49 rfl (by simp) (own_n4 _ _) (by decide) (by decide) (⟨by simp [own_wf, *], rfl⟩)
        · refine Own.aload_n H (pc := 33) d2_33 rfl rfl ?_
          refine Own.iload_n H (pc := 34) d2_34 rfl ?_
          have hn' : i + 3 ≤ 8 := by
            have e1 : n.toInt = 3 := by rw [hcx]; rfl
            omega
          refine Own.callS H (pc := 35) (y := (⟨"termstone/store/Utf8IsUtf8PinLaw", "v3", "([BI)Z"⟩ : MethodName)) [(.ref a), (.int s0)] [] d2_35 (hw _ (List.mem_of_getElem? (i := 27) rfl)) (hw _ (List.mem_of_getElem? (i := 28) rfl)) (hw _ (List.mem_of_getElem? (i := 7) rfl)) (hw _ (List.mem_of_getElem? (i := 29) rfl)) (by decide) (rm_v3 l Z a0 hw a s0 _ n0 H.z0 bs hl A i hs hn') (r := (some .boolean)) (ps := [(.array .byte), .int]) (by decide) rfl rfl 0 rfl (by decide) (by decide) (by decide) (by decide) rfl (fun T_908 v_910 h_909 H_907 z_911 q_912 => ?_)
          obtain ⟨rfl, rfl⟩ := q_912
          show OEnds _ _ _ _ _ _ _ _ _ (mkF _ 38 #[.val (.ref a), .val (.int s0), .val (.int n)] [(.int (own_v3 bs i))])
          exact Own.ret_nar H_907 (pc := 38) (own_v3 bs i) d2_38 rfl (by simp) (own_n3 _ _) (by decide) (by decide) (⟨by simp [own_wf, *], rfl⟩)
      · refine Own.aload_n H (pc := 22) d2_22 rfl rfl ?_
        refine Own.iload_n H (pc := 23) d2_23 rfl ?_
        have hn' : i + 2 ≤ 8 := by
          have e1 : n.toInt = 2 := by rw [hcx]; rfl
          omega
        refine Own.callS H (pc := 24) (y := (⟨"termstone/store/Utf8IsUtf8PinLaw", "v2", "([BI)Z"⟩ : MethodName)) [(.ref a), (.int s0)] [] d2_24 (hw _ (List.mem_of_getElem? (i := 30) rfl)) (hw _ (List.mem_of_getElem? (i := 31) rfl)) (hw _ (List.mem_of_getElem? (i := 7) rfl)) (hw _ (List.mem_of_getElem? (i := 32) rfl)) (by decide) (rm_v2 l Z a0 hw a s0 _ n0 H.z0 bs hl A i hs hn') (r := (some .boolean)) (ps := [(.array .byte), .int]) (by decide) rfl rfl 0 rfl (by decide) (by decide) (by decide) (by decide) rfl (fun T_902 v_904 h_903 H_901 z_905 q_906 => ?_)
        obtain ⟨rfl, rfl⟩ := q_906
        show OEnds _ _ _ _ _ _ _ _ _ (mkF _ 27 #[.val (.ref a), .val (.int s0), .val (.int n)] [(.int (own_v2 bs i))])
        exact Own.ret_nar H_901 (pc := 27) (own_v2 bs i) d2_27 rfl (by simp) (own_n2 _ _) (by decide) (by decide) (⟨by simp [own_wf, *], rfl⟩)
    · refine Own.aload_n H (pc := 11) d2_11 rfl rfl ?_
      refine Own.iload_n H (pc := 12) d2_12 rfl ?_
      have hn' : i + 1 ≤ 8 := by
        have e1 : n.toInt = 1 := by rw [hcx]; rfl
        omega
      refine Own.callS H (pc := 13) (y := (⟨"termstone/store/Utf8IsUtf8PinLaw", "v1", "([BI)Z"⟩ : MethodName)) [(.ref a), (.int s0)] [] d2_13 (hw _ (List.mem_of_getElem? (i := 9) rfl)) (hw _ (List.mem_of_getElem? (i := 10) rfl)) (hw _ (List.mem_of_getElem? (i := 7) rfl)) (hw _ (List.mem_of_getElem? (i := 11) rfl)) (by decide) (rm_v1 l Z a0 hw a s0 _ n0 H.z0 bs hl A i hs hn') (r := (some .boolean)) (ps := [(.array .byte), .int]) (by decide) rfl rfl 0 rfl (by decide) (by decide) (by decide) (by decide) rfl (fun T_896 v_898 h_897 H_895 z_899 q_900 => ?_)
      obtain ⟨rfl, rfl⟩ := q_900
      show OEnds _ _ _ _ _ _ _ _ _ (mkF _ 16 #[.val (.ref a), .val (.int s0), .val (.int n)] [(.int (own_v1 bs i))])
      exact Own.ret_nar H_895 (pc := 16) (own_v1 bs i) d2_16 rfl (by simp) (own_n1 _ _) (by decide) (by decide) (⟨by simp [own_wf, *], rfl⟩)
  · refine Own.iconst H (pc := 4) (1) d2_4 rfl ?_
    exact Own.ret_nar H (pc := 5) (1) d2_5 rfl (by simp) (by decide) (by decide) (by decide) (⟨by simp [own_wf, *], rfl⟩)

def own_V (bs : List Int32) (n i : Nat) : Int32 := match n with
  | 0 => 1 | 1 => own_v1 bs i | 2 => own_v2 bs i | 3 => own_v3 bs i | 4 => own_v4 bs i | 5 => own_v5 bs i | 6 => own_v6 bs i | 7 => own_v7 bs i | _ => own_v8 bs i
theorem own_byte (bs : List Int32) (i : Nat) : 0 ≤ (own_u bs i).toInt ∧ (own_u bs i).toInt ≤ 255 := c_and _ 255 (by decide)
theorem own_masks (x : Int32) (h : 0 ≤ x.toInt ∧ x.toInt ≤ 255) : ((x &&& 192).toInt = x.toInt / 64 * 64) ∧ ((x &&& 224).toInt = x.toInt / 32 * 32) ∧ ((x &&& 240).toInt = x.toInt / 16 * 16) ∧ ((x &&& 248).toInt = x.toInt / 8 * 8) := by
  have e : x = Int32.ofNat x.toInt.toNat := own_eq (by rw [own_ofNat (by omega)]; omega)
  have all : ∀ n : Fin 256, (((Int32.ofNat n.val) &&& 192).toInt = (Int32.ofNat n.val).toInt / 64 * 64) ∧ (((Int32.ofNat n.val) &&& 224).toInt = (Int32.ofNat n.val).toInt / 32 * 32) ∧ (((Int32.ofNat n.val) &&& 240).toInt = (Int32.ofNat n.val).toInt / 16 * 16) ∧ (((Int32.ofNat n.val) &&& 248).toInt = (Int32.ofNat n.val).toInt / 8 * 8) := by decide +kernel
  have := all ⟨x.toInt.toNat, by omega⟩
  rw [← e] at this
  exact this
theorem own_cont_iff (x : Int32) (h : 0 ≤ x.toInt ∧ x.toInt ≤ 255) : own_cont x = 0 ↔ ¬ (128 ≤ x.toInt ∧ x.toInt ≤ 191) := by
  have m := (own_masks x h).1
  have e : (x &&& 192 = 128) ↔ (x &&& 192).toInt = 128 := ⟨fun q => by rw [q]; rfl, fun q => own_eq q⟩
  unfold own_cont
  simp only [e, m]
  split
  · have : ¬ ((1 : Int32) = 0) := by decide
    simp only [this, false_iff]
    omega
  · simp only [true_iff]
    omega
theorem own_low (x : Int32) : (x &&& 63).toInt = x.toInt % 64 ∧ (x &&& 31).toInt = x.toInt % 32 ∧ (x &&& 15).toInt = x.toInt % 16 ∧ (x &&& 7).toInt = x.toInt % 8 := by
  have a := c_mask x 63 6 (by decide) (by decide)
  have b := c_mask x 31 5 (by decide) (by decide)
  have d := c_mask x 15 4 (by decide) (by decide)
  have f := c_mask x 7 3 (by decide) (by decide)
  exact ⟨a, b, d, f⟩
theorem own_or2 (x y : Int32) (hx : 0 ≤ x.toInt ∧ x.toInt < 64) (hy : 0 ≤ y.toInt ∧ y.toInt < 64) : ((x <<< ((6 : Int32) &&& 31)) ||| y).toInt = x.toInt * 64 + y.toInt := by
  have s := c_ishl x 6 6 (by decide)
  have r := rng32 (x <<< ((6 : Int32) &&& 31))
  simp only [Nat.reducePow] at s
  have v : (x <<< ((6 : Int32) &&& 31)).toInt = x.toInt * 64 := by omega
  have o := c_or (x <<< ((6 : Int32) &&& 31)) y 6 (by decide) 64 rfl (by omega) hy.1 hy.2
  have r2 := rng32 ((x <<< ((6 : Int32) &&& 31)) ||| y)
  omega
theorem own_or3 (x y z : Int32) (hx : 0 ≤ x.toInt ∧ x.toInt < 64) (hy : 0 ≤ y.toInt ∧ y.toInt < 64) (hz : 0 ≤ z.toInt ∧ z.toInt < 64) : (((x <<< ((12 : Int32) &&& 31)) ||| (y <<< ((6 : Int32) &&& 31))) ||| z).toInt = x.toInt * 4096 + y.toInt * 64 + z.toInt := by
  have s := c_ishl x 12 12 (by decide)
  have r := rng32 (x <<< ((12 : Int32) &&& 31))
  have s2 := c_ishl y 6 6 (by decide)
  have r2 := rng32 (y <<< ((6 : Int32) &&& 31))
  simp only [Nat.reducePow] at s s2
  have v : (x <<< ((12 : Int32) &&& 31)).toInt = x.toInt * 4096 := by omega
  have v2 : (y <<< ((6 : Int32) &&& 31)).toInt = y.toInt * 64 := by omega
  have o := c_or (x <<< ((12 : Int32) &&& 31)) (y <<< ((6 : Int32) &&& 31)) 12 (by decide) 4096 rfl (by omega) (by omega) (by omega)
  have r3 := rng32 ((x <<< ((12 : Int32) &&& 31)) ||| (y <<< ((6 : Int32) &&& 31)))
  have o2 := c_or ((x <<< ((12 : Int32) &&& 31)) ||| (y <<< ((6 : Int32) &&& 31))) z 6 (by decide) 64 rfl (by omega) hz.1 hz.2
  have r4 := rng32 (((x <<< ((12 : Int32) &&& 31)) ||| (y <<< ((6 : Int32) &&& 31))) ||| z)
  omega
theorem own_or4 (x y z u : Int32) (hx : 0 ≤ x.toInt ∧ x.toInt < 64) (hy : 0 ≤ y.toInt ∧ y.toInt < 64) (hz : 0 ≤ z.toInt ∧ z.toInt < 64) (hu : 0 ≤ u.toInt ∧ u.toInt < 64) : ((((x <<< ((18 : Int32) &&& 31)) ||| (y <<< ((12 : Int32) &&& 31))) ||| (z <<< ((6 : Int32) &&& 31))) ||| u).toInt = x.toInt * 262144 + y.toInt * 4096 + z.toInt * 64 + u.toInt := by
  have s := c_ishl x 18 18 (by decide)
  have r := rng32 (x <<< ((18 : Int32) &&& 31))
  have s2 := c_ishl y 12 12 (by decide)
  have r2 := rng32 (y <<< ((12 : Int32) &&& 31))
  have s3 := c_ishl z 6 6 (by decide)
  have r3 := rng32 (z <<< ((6 : Int32) &&& 31))
  simp only [Nat.reducePow] at s s2 s3
  have v : (x <<< ((18 : Int32) &&& 31)).toInt = x.toInt * 262144 := by omega
  have v2 : (y <<< ((12 : Int32) &&& 31)).toInt = y.toInt * 4096 := by omega
  have v3 : (z <<< ((6 : Int32) &&& 31)).toInt = z.toInt * 64 := by omega
  have o := c_or (x <<< ((18 : Int32) &&& 31)) (y <<< ((12 : Int32) &&& 31)) 18 (by decide) 262144 rfl (by omega) (by omega) (by omega)
  have r4 := rng32 ((x <<< ((18 : Int32) &&& 31)) ||| (y <<< ((12 : Int32) &&& 31)))
  have o2 := c_or ((x <<< ((18 : Int32) &&& 31)) ||| (y <<< ((12 : Int32) &&& 31))) (z <<< ((6 : Int32) &&& 31)) 12 (by decide) 4096 rfl (by omega) (by omega) (by omega)
  have r5 := rng32 (((x <<< ((18 : Int32) &&& 31)) ||| (y <<< ((12 : Int32) &&& 31))) ||| (z <<< ((6 : Int32) &&& 31)))
  have o3 := c_or (((x <<< ((18 : Int32) &&& 31)) ||| (y <<< ((12 : Int32) &&& 31))) ||| (z <<< ((6 : Int32) &&& 31))) u 6 (by decide) 64 rfl (by omega) hu.1 hu.2
  have r6 := rng32 ((((x <<< ((18 : Int32) &&& 31)) ||| (y <<< ((12 : Int32) &&& 31))) ||| (z <<< ((6 : Int32) &&& 31))) ||| u)
  omega
theorem own_eqi {x y : Int32} : x = y ↔ x.toInt = y.toInt := ⟨fun q => by rw [q], own_eq⟩
theorem own_C1 (bs : List Int32) (i : Nat) : own_c bs i 1 = 0 ↔ ¬ (own_u bs i).toInt < 128 := by
  have e : (own_u bs i < 128) ↔ (own_u bs i).toInt < 128 := own_lt
  unfold own_c
  rw [if_pos rfl]
  simp only [e]
  split
  · rename_i q; simp only [q, not_true, iff_false]; decide
  · rename_i q; simp only [q, not_false_iff]
theorem own_C2 (bs : List Int32) (i : Nat) : own_c bs i 2 = 0 ↔ ¬ (194 ≤ (own_u bs i).toInt ∧ (own_u bs i).toInt ≤ 223 ∧ 128 ≤ (own_u bs (i + 1)).toInt ∧ (own_u bs (i + 1)).toInt ≤ 191) := by
  have b0 := own_byte bs i
  have b1 := own_byte bs (i + 1)
  unfold own_c
  rw [if_neg (by decide), if_pos rfl]
  simp only [own_cont_iff _ b1]
  generalize own_u bs i = x at *
  generalize own_u bs (i + 1) = y at *
  have l1 := own_low x
  have l2 := own_low y
  have m := own_masks x b0
  have o2 := own_or2 (x &&& 31) (y &&& 63) (by omega) (by omega)
  simp only [own_eqi (x := x &&& 224), own_lt, o2, m.2.1, l1.2.1, l2.1]
  have e1 : (192 : Int32).toInt = 192 := rfl
  have e2 : (128 : Int32).toInt = 128 := rfl
  simp only [e1, e2]
  have n1 : ¬ ((1 : Int32) = 0) := by decide
  by_cases h1 : 128 ≤ y.toInt ∧ y.toInt ≤ 191
  · rw [if_neg (by omega)]
    by_cases h2 : x.toInt / 32 * 32 = 192
    · rw [if_pos h2]
      split
      · simp only [true_iff]; omega
      · simp only [n1, false_iff]; omega
    · rw [if_neg h2]; simp only [true_iff]; omega
  · rw [if_pos h1]; simp only [true_iff]; omega
theorem own_C3 (bs : List Int32) (i : Nat) : own_c bs i 3 = 0 ↔ ¬ (224 ≤ (own_u bs i).toInt ∧ (own_u bs i).toInt ≤ 239 ∧ 128 ≤ (own_u bs (i + 1)).toInt ∧ (own_u bs (i + 1)).toInt ≤ 191 ∧ 128 ≤ (own_u bs (i + 2)).toInt ∧ (own_u bs (i + 2)).toInt ≤ 191 ∧ ((own_u bs i).toInt = 224 → 160 ≤ (own_u bs (i + 1)).toInt) ∧ ((own_u bs i).toInt = 237 → (own_u bs (i + 1)).toInt ≤ 159)) := by
  have b0 := own_byte bs i
  have b1 := own_byte bs (i + 1)
  have b2 := own_byte bs (i + 2)
  unfold own_c
  rw [if_neg (by decide), if_neg (by decide : ¬ ((3 : Int32) = 2)), if_pos rfl]
  simp only [own_cont_iff _ b1, own_cont_iff _ b2]
  generalize own_u bs i = x at *
  generalize own_u bs (i + 1) = y at *
  generalize own_u bs (i + 2) = z at *
  have l1 := own_low x
  have l2 := own_low y
  have l3 := own_low z
  have m := own_masks x b0
  have o3 := own_or3 (x &&& 15) (y &&& 63) (z &&& 63) (by omega) (by omega) (by omega)
  simp only [own_eqi (x := x &&& 240), own_lt, o3, m.2.2.1, l1.2.2.1, l2.1, l3.1]
  have e1 : (224 : Int32).toInt = 224 := rfl
  have e2 : (2048 : Int32).toInt = 2048 := rfl
  have e3 : (55296 : Int32).toInt = 55296 := rfl
  have e4 : (57343 : Int32).toInt = 57343 := rfl
  simp only [e1, e2, e3, e4]
  have n1 : ¬ ((1 : Int32) = 0) := by decide
  by_cases h1 : 128 ≤ y.toInt ∧ y.toInt ≤ 191
  · rw [if_neg (by omega)]
    by_cases h3 : 128 ≤ z.toInt ∧ z.toInt ≤ 191
    · rw [if_neg (by omega)]
      by_cases h2 : x.toInt / 16 * 16 = 224
      · rw [if_pos h2]
        have f1 : x.toInt % 16 = x.toInt - 224 := by omega
        have f2 : y.toInt % 64 = y.toInt - 128 := by omega
        have f3 : z.toInt % 64 = z.toInt - 128 := by omega
        have f5 : 224 ≤ x.toInt ∧ x.toInt ≤ 239 := by omega
        simp only [f1, f2, f3]
        clear f1 f2 f3 h2 l1 l2 l3 m o3 b0 b1 b2
        split
        · simp only [true_iff]; omega
        · split
          · simp only [n1, false_iff]; omega
          · split
            · simp only [n1, false_iff]; omega
            · simp only [true_iff]; omega
      · rw [if_neg h2]; simp only [true_iff]; omega
    · rw [if_pos h3]; simp only [true_iff]; omega
  · rw [if_pos h1]; simp only [true_iff]; omega
theorem own_C4 (bs : List Int32) (i : Nat) : own_c bs i 4 = 0 ↔ ¬ (240 ≤ (own_u bs i).toInt ∧ (own_u bs i).toInt ≤ 244 ∧ 128 ≤ (own_u bs (i + 1)).toInt ∧ (own_u bs (i + 1)).toInt ≤ 191 ∧ 128 ≤ (own_u bs (i + 2)).toInt ∧ (own_u bs (i + 2)).toInt ≤ 191 ∧ 128 ≤ (own_u bs (i + 3)).toInt ∧ (own_u bs (i + 3)).toInt ≤ 191 ∧ ((own_u bs i).toInt = 240 → 144 ≤ (own_u bs (i + 1)).toInt) ∧ ((own_u bs i).toInt = 244 → (own_u bs (i + 1)).toInt ≤ 143)) := by
  have b0 := own_byte bs i
  have b1 := own_byte bs (i + 1)
  have b2 := own_byte bs (i + 2)
  have b3 := own_byte bs (i + 3)
  unfold own_c
  rw [if_neg (by decide), if_neg (by decide : ¬ ((4 : Int32) = 2)), if_neg (by decide : ¬ ((4 : Int32) = 3))]
  simp only [own_cont_iff _ b1, own_cont_iff _ b2, own_cont_iff _ b3]
  generalize own_u bs i = x at *
  generalize own_u bs (i + 1) = y at *
  generalize own_u bs (i + 2) = z at *
  generalize own_u bs (i + 3) = u at *
  have l1 := own_low x
  have l2 := own_low y
  have l3 := own_low z
  have l4 := own_low u
  have m := own_masks x b0
  have o4 := own_or4 (x &&& 7) (y &&& 63) (z &&& 63) (u &&& 63) (by omega) (by omega) (by omega) (by omega)
  simp only [own_eqi (x := x &&& 248), own_lt, o4, m.2.2.2, l1.2.2.2, l2.1, l3.1, l4.1]
  have e1 : (240 : Int32).toInt = 240 := rfl
  have e2 : (65536 : Int32).toInt = 65536 := rfl
  have e3 : (1114111 : Int32).toInt = 1114111 := rfl
  simp only [e1, e2, e3]
  have n1 : ¬ ((1 : Int32) = 0) := by decide
  by_cases h1 : 128 ≤ y.toInt ∧ y.toInt ≤ 191
  · rw [if_neg (by omega)]
    by_cases h3 : 128 ≤ z.toInt ∧ z.toInt ≤ 191
    · rw [if_neg (by omega)]
      by_cases h4 : 128 ≤ u.toInt ∧ u.toInt ≤ 191
      · rw [if_neg (by omega)]
        by_cases h2 : x.toInt / 8 * 8 = 240
        · rw [if_pos h2]
          have f1 : x.toInt % 8 = x.toInt - 240 := by omega
          have f2 : y.toInt % 64 = y.toInt - 128 := by omega
          have f3 : z.toInt % 64 = z.toInt - 128 := by omega
          have f4 : u.toInt % 64 = u.toInt - 128 := by omega
          have f5 : 240 ≤ x.toInt ∧ x.toInt ≤ 247 := by omega
          simp only [f1, f2, f3, f4]
          clear f1 f2 f3 f4 h2 l1 l2 l3 l4 m o4 b0 b1 b2 b3
          split
          · simp only [true_iff]; omega
          · split
            · simp only [true_iff]; omega
            · simp only [n1, false_iff]; omega
        · rw [if_neg h2]; simp only [true_iff]; omega
      · rw [if_pos h4]; simp only [true_iff]; omega
    · rw [if_pos h3]; simp only [true_iff]; omega
  · rw [if_pos h1]; simp only [true_iff]; omega
theorem own_01 (bs : List Int32) (n i : Nat) : own_V bs n i = 0 ∨ own_V bs n i = 1 := by
  unfold own_V
  split
  · exact Or.inr rfl
  · exact own_z1 bs i
  · exact own_z2 bs i
  · exact own_z3 bs i
  · exact own_z4 bs i
  · exact own_z5 bs i
  · exact own_z6 bs i
  · exact own_z7 bs i
  · exact own_z8 bs i
theorem own_if (a b X : Int32) : (if a = 0 then X else if b = 0 then X else 1) = 0 ↔ ¬ (¬ a = 0 ∧ ¬ b = 0) ∧ X = 0 := by
  by_cases h1 : a = 0 <;> by_cases h2 : b = 0 <;> simp [h1, h2]
theorem own_if1 (a X : Int32) : (if a = 0 then X else 1) = 0 ↔ a = 0 ∧ X = 0 := by
  by_cases h1 : a = 0 <;> simp [h1]
theorem own_step (bs : List Int32) (n i : Nat) (h1 : 1 ≤ n) (h8 : n ≤ 8) : own_V bs n i = 0 ↔ ¬ ((4 ≤ n ∧ ¬ own_c bs i 4 = 0 ∧ ¬ own_V bs (n - 4) (i + 4) = 0) ∨ (3 ≤ n ∧ ¬ own_c bs i 3 = 0 ∧ ¬ own_V bs (n - 3) (i + 3) = 0) ∨ (2 ≤ n ∧ ¬ own_c bs i 2 = 0 ∧ ¬ own_V bs (n - 2) (i + 2) = 0) ∨ (¬ own_c bs i 1 = 0 ∧ ¬ own_V bs (n - 1) (i + 1) = 0)) := by
  have n1 : ((1 : Int32) = 0) = False := by decide
  have hc : n = 1 ∨ n = 2 ∨ n = 3 ∨ n = 4 ∨ n = 5 ∨ n = 6 ∨ n = 7 ∨ n = 8 := by omega
  rcases hc with rfl | rfl | rfl | rfl | rfl | rfl | rfl | rfl
  · show own_v1 bs i = 0 ↔ ¬ ((4 ≤ 1 ∧ ¬ own_c bs i 4 = 0 ∧ ¬ own_V bs (1 - 4) (i + 4) = 0) ∨ (3 ≤ 1 ∧ ¬ own_c bs i 3 = 0 ∧ ¬ own_V bs (1 - 3) (i + 3) = 0) ∨ (2 ≤ 1 ∧ ¬ own_c bs i 2 = 0 ∧ ¬ own_V bs (1 - 2) (i + 2) = 0) ∨ (¬ own_c bs i 1 = 0 ∧ ¬ (1 : Int32) = 0))
    unfold own_v1
    simp only [Nat.reduceLeDiff, Nat.le_refl, n1, not_false_iff, and_true, true_and, false_and, false_or, not_or, Classical.not_not]
  · show own_v2 bs i = 0 ↔ ¬ ((4 ≤ 2 ∧ ¬ own_c bs i 4 = 0 ∧ ¬ own_V bs (2 - 4) (i + 4) = 0) ∨ (3 ≤ 2 ∧ ¬ own_c bs i 3 = 0 ∧ ¬ own_V bs (2 - 3) (i + 3) = 0) ∨ (2 ≤ 2 ∧ ¬ own_c bs i 2 = 0 ∧ ¬ (1 : Int32) = 0) ∨ (¬ own_c bs i 1 = 0 ∧ ¬ own_v1 bs (i + 1) = 0))
    unfold own_v2
    rw [own_if1, own_if]
    simp only [Nat.reduceLeDiff, Nat.le_refl, n1, not_false_iff, and_true, true_and, false_and, false_or, not_or, Classical.not_not]
  · show own_v3 bs i = 0 ↔ ¬ ((4 ≤ 3 ∧ ¬ own_c bs i 4 = 0 ∧ ¬ own_V bs (3 - 4) (i + 4) = 0) ∨ (3 ≤ 3 ∧ ¬ own_c bs i 3 = 0 ∧ ¬ (1 : Int32) = 0) ∨ (2 ≤ 3 ∧ ¬ own_c bs i 2 = 0 ∧ ¬ own_v1 bs (i + 2) = 0) ∨ (¬ own_c bs i 1 = 0 ∧ ¬ own_v2 bs (i + 1) = 0))
    unfold own_v3
    rw [own_if1, own_if, own_if]
    simp only [Nat.reduceLeDiff, Nat.le_refl, n1, not_false_iff, and_true, true_and, false_and, false_or, not_or, Classical.not_not]
  · show own_v4 bs i = 0 ↔ ¬ ((4 ≤ 4 ∧ ¬ own_c bs i 4 = 0 ∧ ¬ (1 : Int32) = 0) ∨ (3 ≤ 4 ∧ ¬ own_c bs i 3 = 0 ∧ ¬ own_v1 bs (i + 3) = 0) ∨ (2 ≤ 4 ∧ ¬ own_c bs i 2 = 0 ∧ ¬ own_v2 bs (i + 2) = 0) ∨ (¬ own_c bs i 1 = 0 ∧ ¬ own_v3 bs (i + 1) = 0))
    unfold own_v4
    rw [own_if1, own_if, own_if, own_if]
    simp only [Nat.reduceLeDiff, Nat.le_refl, n1, not_false_iff, and_true, true_and, false_and, false_or, not_or, Classical.not_not]
  · show own_v5 bs i = 0 ↔ ¬ ((4 ≤ 5 ∧ ¬ own_c bs i 4 = 0 ∧ ¬ own_v1 bs (i + 4) = 0) ∨ (3 ≤ 5 ∧ ¬ own_c bs i 3 = 0 ∧ ¬ own_v2 bs (i + 3) = 0) ∨ (2 ≤ 5 ∧ ¬ own_c bs i 2 = 0 ∧ ¬ own_v3 bs (i + 2) = 0) ∨ (¬ own_c bs i 1 = 0 ∧ ¬ own_v4 bs (i + 1) = 0))
    unfold own_v5
    rw [own_if, own_if, own_if, own_if]
    simp only [Nat.reduceLeDiff, Nat.le_refl, n1, not_false_iff, and_true, true_and, false_and, false_or, not_or, Classical.not_not]
  · show own_v6 bs i = 0 ↔ ¬ ((4 ≤ 6 ∧ ¬ own_c bs i 4 = 0 ∧ ¬ own_v2 bs (i + 4) = 0) ∨ (3 ≤ 6 ∧ ¬ own_c bs i 3 = 0 ∧ ¬ own_v3 bs (i + 3) = 0) ∨ (2 ≤ 6 ∧ ¬ own_c bs i 2 = 0 ∧ ¬ own_v4 bs (i + 2) = 0) ∨ (¬ own_c bs i 1 = 0 ∧ ¬ own_v5 bs (i + 1) = 0))
    unfold own_v6
    rw [own_if, own_if, own_if, own_if]
    simp only [Nat.reduceLeDiff, Nat.le_refl, n1, not_false_iff, and_true, true_and, false_and, false_or, not_or, Classical.not_not]
  · show own_v7 bs i = 0 ↔ ¬ ((4 ≤ 7 ∧ ¬ own_c bs i 4 = 0 ∧ ¬ own_v3 bs (i + 4) = 0) ∨ (3 ≤ 7 ∧ ¬ own_c bs i 3 = 0 ∧ ¬ own_v4 bs (i + 3) = 0) ∨ (2 ≤ 7 ∧ ¬ own_c bs i 2 = 0 ∧ ¬ own_v5 bs (i + 2) = 0) ∨ (¬ own_c bs i 1 = 0 ∧ ¬ own_v6 bs (i + 1) = 0))
    unfold own_v7
    rw [own_if, own_if, own_if, own_if]
    simp only [Nat.reduceLeDiff, Nat.le_refl, n1, not_false_iff, and_true, true_and, false_and, false_or, not_or, Classical.not_not]
  · show own_v8 bs i = 0 ↔ ¬ ((4 ≤ 8 ∧ ¬ own_c bs i 4 = 0 ∧ ¬ own_v4 bs (i + 4) = 0) ∨ (3 ≤ 8 ∧ ¬ own_c bs i 3 = 0 ∧ ¬ own_v5 bs (i + 3) = 0) ∨ (2 ≤ 8 ∧ ¬ own_c bs i 2 = 0 ∧ ¬ own_v6 bs (i + 2) = 0) ∨ (¬ own_c bs i 1 = 0 ∧ ¬ own_v7 bs (i + 1) = 0))
    unfold own_v8
    rw [own_if, own_if, own_if, own_if]
    simp only [Nat.reduceLeDiff, Nat.le_refl, n1, not_false_iff, and_true, true_and, false_and, false_or, not_or, Classical.not_not]
def own_W (bs : List Int32) (n i : Nat) : Int := (own_V bs n i).toInt
theorem own_W0 {bs : List Int32} {n i : Nat} : own_V bs n i = 0 ↔ own_W bs n i = 0 := own_eqi
theorem own_next {bs : List Int32} {n i m : Nat} (h : own_W bs n i = 0 ↔ own_W bs (n - m) (i + m) = 0) : own_V bs n i = own_V bs (n - m) (i + m) := by
  rw [← own_W0, ← own_W0] at h
  rcases own_01 bs n i with u | u <;> rcases own_01 bs (n - m) (i + m) with v | v
  · rw [u, v]
  · exact absurd (h.mp u) (by rw [v]; decide)
  · exact absurd (h.mpr v) (by rw [u]; decide)
  · rw [u, v]
theorem own_go (bs : List Int32) (n i : Nat) (h1 : 1 ≤ n) (h8 : n ≤ 8) : own_W bs n i = 0 ↔ ¬ ((4 ≤ n ∧ (240 ≤ (own_u bs i).toInt ∧ (own_u bs i).toInt ≤ 244 ∧ 128 ≤ (own_u bs (i + 1)).toInt ∧ (own_u bs (i + 1)).toInt ≤ 191 ∧ 128 ≤ (own_u bs (i + 2)).toInt ∧ (own_u bs (i + 2)).toInt ≤ 191 ∧ 128 ≤ (own_u bs (i + 3)).toInt ∧ (own_u bs (i + 3)).toInt ≤ 191 ∧ ((own_u bs i).toInt = 240 → 144 ≤ (own_u bs (i + 1)).toInt) ∧ ((own_u bs i).toInt = 244 → (own_u bs (i + 1)).toInt ≤ 143)) ∧ ¬ own_W bs (n - 4) (i + 4) = 0) ∨ (3 ≤ n ∧ (224 ≤ (own_u bs i).toInt ∧ (own_u bs i).toInt ≤ 239 ∧ 128 ≤ (own_u bs (i + 1)).toInt ∧ (own_u bs (i + 1)).toInt ≤ 191 ∧ 128 ≤ (own_u bs (i + 2)).toInt ∧ (own_u bs (i + 2)).toInt ≤ 191 ∧ ((own_u bs i).toInt = 224 → 160 ≤ (own_u bs (i + 1)).toInt) ∧ ((own_u bs i).toInt = 237 → (own_u bs (i + 1)).toInt ≤ 159)) ∧ ¬ own_W bs (n - 3) (i + 3) = 0) ∨ (2 ≤ n ∧ (194 ≤ (own_u bs i).toInt ∧ (own_u bs i).toInt ≤ 223 ∧ 128 ≤ (own_u bs (i + 1)).toInt ∧ (own_u bs (i + 1)).toInt ≤ 191) ∧ ¬ own_W bs (n - 2) (i + 2) = 0) ∨ ((own_u bs i).toInt < 128 ∧ ¬ own_W bs (n - 1) (i + 1) = 0)) := by
  rw [← own_W0, own_step bs n i h1 h8, own_C1, own_C2, own_C3, own_C4]
  simp only [Classical.not_not, own_W0]

theorem d1_0 : decode prog_159_method_3_code 0 = .ok (.iload_n 1, 1) := by decide +kernel
theorem d1_1 : decode prog_159_method_3_code 1 = .ok (.istore_n 3, 1) := by decide +kernel
theorem d1_2 : decode prog_159_method_3_code 2 = .ok (.iload_n 3, 1) := by decide +kernel
theorem d1_3 : decode prog_159_method_3_code 3 = .ok (.iload_n 2, 1) := by decide +kernel
theorem d1_4 : decode prog_159_method_3_code 4 = .ok (.if_icmp .ge 270, 3) := by decide +kernel
theorem d1_7 : decode prog_159_method_3_code 7 = .ok (.aload_n 0, 1) := by decide +kernel
theorem d1_8 : decode prog_159_method_3_code 8 = .ok (.iload_n 3, 1) := by decide +kernel
theorem d1_9 : decode prog_159_method_3_code 9 = .ok (.baload, 1) := by decide +kernel
theorem d1_10 : decode prog_159_method_3_code 10 = .ok (.sipush 255, 3) := by decide +kernel
theorem d1_13 : decode prog_159_method_3_code 13 = .ok (.iand, 1) := by decide +kernel
theorem d1_14 : decode prog_159_method_3_code 14 = .ok (.istore 4, 2) := by decide +kernel
theorem d1_16 : decode prog_159_method_3_code 16 = .ok (.sipush 128, 3) := by decide +kernel
theorem d1_19 : decode prog_159_method_3_code 19 = .ok (.istore 6, 2) := by decide +kernel
theorem d1_21 : decode prog_159_method_3_code 21 = .ok (.sipush 191, 3) := by decide +kernel
theorem d1_24 : decode prog_159_method_3_code 24 = .ok (.istore 7, 2) := by decide +kernel
theorem d1_26 : decode prog_159_method_3_code 26 = .ok (.iload 4, 2) := by decide +kernel
theorem d1_28 : decode prog_159_method_3_code 28 = .ok (.sipush 128, 3) := by decide +kernel
theorem d1_31 : decode prog_159_method_3_code 31 = .ok (.if_icmp .ge 9, 3) := by decide +kernel
theorem d1_34 : decode prog_159_method_3_code 34 = .ok (.iconst 0, 1) := by decide +kernel
theorem d1_35 : decode prog_159_method_3_code 35 = .ok (.istore 5, 2) := by decide +kernel
theorem d1_37 : decode prog_159_method_3_code 37 = .ok (.goto 147, 3) := by decide +kernel
theorem d1_40 : decode prog_159_method_3_code 40 = .ok (.iload 4, 2) := by decide +kernel
theorem d1_42 : decode prog_159_method_3_code 42 = .ok (.sipush 194, 3) := by decide +kernel
theorem d1_45 : decode prog_159_method_3_code 45 = .ok (.if_icmp .lt 17, 3) := by decide +kernel
theorem d1_48 : decode prog_159_method_3_code 48 = .ok (.iload 4, 2) := by decide +kernel
theorem d1_50 : decode prog_159_method_3_code 50 = .ok (.sipush 223, 3) := by decide +kernel
theorem d1_53 : decode prog_159_method_3_code 53 = .ok (.if_icmp .gt 9, 3) := by decide +kernel
theorem d1_56 : decode prog_159_method_3_code 56 = .ok (.iconst 1, 1) := by decide +kernel
theorem d1_57 : decode prog_159_method_3_code 57 = .ok (.istore 5, 2) := by decide +kernel
theorem d1_59 : decode prog_159_method_3_code 59 = .ok (.goto 125, 3) := by decide +kernel
theorem d1_62 : decode prog_159_method_3_code 62 = .ok (.iload 4, 2) := by decide +kernel
theorem d1_64 : decode prog_159_method_3_code 64 = .ok (.sipush 224, 3) := by decide +kernel
theorem d1_67 : decode prog_159_method_3_code 67 = .ok (.if_icmp .ne 14, 3) := by decide +kernel
theorem d1_70 : decode prog_159_method_3_code 70 = .ok (.iconst 2, 1) := by decide +kernel
theorem d1_71 : decode prog_159_method_3_code 71 = .ok (.istore 5, 2) := by decide +kernel
theorem d1_73 : decode prog_159_method_3_code 73 = .ok (.sipush 160, 3) := by decide +kernel
theorem d1_76 : decode prog_159_method_3_code 76 = .ok (.istore 6, 2) := by decide +kernel
theorem d1_78 : decode prog_159_method_3_code 78 = .ok (.goto 106, 3) := by decide +kernel
theorem d1_81 : decode prog_159_method_3_code 81 = .ok (.iload 4, 2) := by decide +kernel
theorem d1_83 : decode prog_159_method_3_code 83 = .ok (.sipush 237, 3) := by decide +kernel
theorem d1_86 : decode prog_159_method_3_code 86 = .ok (.if_icmp .ne 14, 3) := by decide +kernel
theorem d1_89 : decode prog_159_method_3_code 89 = .ok (.iconst 2, 1) := by decide +kernel
theorem d1_90 : decode prog_159_method_3_code 90 = .ok (.istore 5, 2) := by decide +kernel
theorem d1_92 : decode prog_159_method_3_code 92 = .ok (.sipush 159, 3) := by decide +kernel
theorem d1_95 : decode prog_159_method_3_code 95 = .ok (.istore 7, 2) := by decide +kernel
theorem d1_97 : decode prog_159_method_3_code 97 = .ok (.goto 87, 3) := by decide +kernel
theorem d1_100 : decode prog_159_method_3_code 100 = .ok (.iload 4, 2) := by decide +kernel
theorem d1_102 : decode prog_159_method_3_code 102 = .ok (.sipush 225, 3) := by decide +kernel
theorem d1_105 : decode prog_159_method_3_code 105 = .ok (.if_icmp .lt 17, 3) := by decide +kernel
theorem d1_108 : decode prog_159_method_3_code 108 = .ok (.iload 4, 2) := by decide +kernel
theorem d1_110 : decode prog_159_method_3_code 110 = .ok (.sipush 239, 3) := by decide +kernel
theorem d1_113 : decode prog_159_method_3_code 113 = .ok (.if_icmp .gt 9, 3) := by decide +kernel
theorem d1_116 : decode prog_159_method_3_code 116 = .ok (.iconst 2, 1) := by decide +kernel
theorem d1_117 : decode prog_159_method_3_code 117 = .ok (.istore 5, 2) := by decide +kernel
theorem d1_119 : decode prog_159_method_3_code 119 = .ok (.goto 65, 3) := by decide +kernel
theorem d1_122 : decode prog_159_method_3_code 122 = .ok (.iload 4, 2) := by decide +kernel
theorem d1_124 : decode prog_159_method_3_code 124 = .ok (.sipush 240, 3) := by decide +kernel
theorem d1_127 : decode prog_159_method_3_code 127 = .ok (.if_icmp .ne 14, 3) := by decide +kernel
theorem d1_130 : decode prog_159_method_3_code 130 = .ok (.iconst 3, 1) := by decide +kernel
theorem d1_131 : decode prog_159_method_3_code 131 = .ok (.istore 5, 2) := by decide +kernel
theorem d1_133 : decode prog_159_method_3_code 133 = .ok (.sipush 144, 3) := by decide +kernel
theorem d1_136 : decode prog_159_method_3_code 136 = .ok (.istore 6, 2) := by decide +kernel
theorem d1_138 : decode prog_159_method_3_code 138 = .ok (.goto 46, 3) := by decide +kernel
theorem d1_141 : decode prog_159_method_3_code 141 = .ok (.iload 4, 2) := by decide +kernel
theorem d1_143 : decode prog_159_method_3_code 143 = .ok (.sipush 241, 3) := by decide +kernel
theorem d1_146 : decode prog_159_method_3_code 146 = .ok (.if_icmp .lt 17, 3) := by decide +kernel
theorem d1_149 : decode prog_159_method_3_code 149 = .ok (.iload 4, 2) := by decide +kernel
theorem d1_151 : decode prog_159_method_3_code 151 = .ok (.sipush 243, 3) := by decide +kernel
theorem d1_154 : decode prog_159_method_3_code 154 = .ok (.if_icmp .gt 9, 3) := by decide +kernel
theorem d1_157 : decode prog_159_method_3_code 157 = .ok (.iconst 3, 1) := by decide +kernel
theorem d1_158 : decode prog_159_method_3_code 158 = .ok (.istore 5, 2) := by decide +kernel
theorem d1_160 : decode prog_159_method_3_code 160 = .ok (.goto 24, 3) := by decide +kernel
theorem d1_163 : decode prog_159_method_3_code 163 = .ok (.iload 4, 2) := by decide +kernel
theorem d1_165 : decode prog_159_method_3_code 165 = .ok (.sipush 244, 3) := by decide +kernel
theorem d1_168 : decode prog_159_method_3_code 168 = .ok (.if_icmp .ne 14, 3) := by decide +kernel
theorem d1_171 : decode prog_159_method_3_code 171 = .ok (.iconst 3, 1) := by decide +kernel
theorem d1_172 : decode prog_159_method_3_code 172 = .ok (.istore 5, 2) := by decide +kernel
theorem d1_174 : decode prog_159_method_3_code 174 = .ok (.sipush 143, 3) := by decide +kernel
theorem d1_177 : decode prog_159_method_3_code 177 = .ok (.istore 7, 2) := by decide +kernel
theorem d1_179 : decode prog_159_method_3_code 179 = .ok (.goto 5, 3) := by decide +kernel
theorem d1_182 : decode prog_159_method_3_code 182 = .ok (.iconst 0, 1) := by decide +kernel
theorem d1_183 : decode prog_159_method_3_code 183 = .ok (.ireturn, 1) := by decide +kernel
theorem d1_184 : decode prog_159_method_3_code 184 = .ok (.iload 5, 2) := by decide +kernel
theorem d1_186 : decode prog_159_method_3_code 186 = .ok (.iload_n 2, 1) := by decide +kernel
theorem d1_187 : decode prog_159_method_3_code 187 = .ok (.iload_n 3, 1) := by decide +kernel
theorem d1_188 : decode prog_159_method_3_code 188 = .ok (.isub, 1) := by decide +kernel
theorem d1_189 : decode prog_159_method_3_code 189 = .ok (.iconst 1, 1) := by decide +kernel
theorem d1_190 : decode prog_159_method_3_code 190 = .ok (.isub, 1) := by decide +kernel
theorem d1_191 : decode prog_159_method_3_code 191 = .ok (.if_icmp .le 5, 3) := by decide +kernel
theorem d1_194 : decode prog_159_method_3_code 194 = .ok (.iconst 0, 1) := by decide +kernel
theorem d1_195 : decode prog_159_method_3_code 195 = .ok (.ireturn, 1) := by decide +kernel
theorem d1_196 : decode prog_159_method_3_code 196 = .ok (.iconst 1, 1) := by decide +kernel
theorem d1_197 : decode prog_159_method_3_code 197 = .ok (.istore 8, 2) := by decide +kernel
theorem d1_199 : decode prog_159_method_3_code 199 = .ok (.iload 8, 2) := by decide +kernel
theorem d1_201 : decode prog_159_method_3_code 201 = .ok (.iload 5, 2) := by decide +kernel
theorem d1_203 : decode prog_159_method_3_code 203 = .ok (.if_icmp .gt 61, 3) := by decide +kernel
theorem d1_206 : decode prog_159_method_3_code 206 = .ok (.aload_n 0, 1) := by decide +kernel
theorem d1_207 : decode prog_159_method_3_code 207 = .ok (.iload_n 3, 1) := by decide +kernel
theorem d1_208 : decode prog_159_method_3_code 208 = .ok (.iload 8, 2) := by decide +kernel
theorem d1_210 : decode prog_159_method_3_code 210 = .ok (.iadd, 1) := by decide +kernel
theorem d1_211 : decode prog_159_method_3_code 211 = .ok (.baload, 1) := by decide +kernel
theorem d1_212 : decode prog_159_method_3_code 212 = .ok (.sipush 255, 3) := by decide +kernel
theorem d1_215 : decode prog_159_method_3_code 215 = .ok (.iand, 1) := by decide +kernel
theorem d1_216 : decode prog_159_method_3_code 216 = .ok (.istore 9, 2) := by decide +kernel
theorem d1_218 : decode prog_159_method_3_code 218 = .ok (.iload 9, 2) := by decide +kernel
theorem d1_220 : decode prog_159_method_3_code 220 = .ok (.iload 8, 2) := by decide +kernel
theorem d1_222 : decode prog_159_method_3_code 222 = .ok (.iconst 1, 1) := by decide +kernel
theorem d1_223 : decode prog_159_method_3_code 223 = .ok (.if_icmp .ne 8, 3) := by decide +kernel
theorem d1_226 : decode prog_159_method_3_code 226 = .ok (.iload 6, 2) := by decide +kernel
theorem d1_228 : decode prog_159_method_3_code 228 = .ok (.goto 6, 3) := by decide +kernel
theorem d1_231 : decode prog_159_method_3_code 231 = .ok (.sipush 128, 3) := by decide +kernel
theorem d1_234 : decode prog_159_method_3_code 234 = .ok (.if_icmp .lt 22, 3) := by decide +kernel
theorem d1_237 : decode prog_159_method_3_code 237 = .ok (.iload 9, 2) := by decide +kernel
theorem d1_239 : decode prog_159_method_3_code 239 = .ok (.iload 8, 2) := by decide +kernel
theorem d1_241 : decode prog_159_method_3_code 241 = .ok (.iconst 1, 1) := by decide +kernel
theorem d1_242 : decode prog_159_method_3_code 242 = .ok (.if_icmp .ne 8, 3) := by decide +kernel
theorem d1_245 : decode prog_159_method_3_code 245 = .ok (.iload 7, 2) := by decide +kernel
theorem d1_247 : decode prog_159_method_3_code 247 = .ok (.goto 6, 3) := by decide +kernel
theorem d1_250 : decode prog_159_method_3_code 250 = .ok (.sipush 191, 3) := by decide +kernel
theorem d1_253 : decode prog_159_method_3_code 253 = .ok (.if_icmp .le 5, 3) := by decide +kernel
theorem d1_256 : decode prog_159_method_3_code 256 = .ok (.iconst 0, 1) := by decide +kernel
theorem d1_257 : decode prog_159_method_3_code 257 = .ok (.ireturn, 1) := by decide +kernel
theorem d1_258 : decode prog_159_method_3_code 258 = .ok (.iinc 8 1, 3) := by decide +kernel
theorem d1_261 : decode prog_159_method_3_code 261 = .ok (.goto (-62), 3) := by decide +kernel
theorem d1_264 : decode prog_159_method_3_code 264 = .ok (.iload_n 3, 1) := by decide +kernel
theorem d1_265 : decode prog_159_method_3_code 265 = .ok (.iconst 1, 1) := by decide +kernel
theorem d1_266 : decode prog_159_method_3_code 266 = .ok (.iload 5, 2) := by decide +kernel
theorem d1_268 : decode prog_159_method_3_code 268 = .ok (.iadd, 1) := by decide +kernel
theorem d1_269 : decode prog_159_method_3_code 269 = .ok (.iadd, 1) := by decide +kernel
theorem d1_270 : decode prog_159_method_3_code 270 = .ok (.istore_n 3, 1) := by decide +kernel
theorem d1_271 : decode prog_159_method_3_code 271 = .ok (.goto (-269), 3) := by decide +kernel
theorem d1_274 : decode prog_159_method_3_code 274 = .ok (.iconst 1, 1) := by decide +kernel
theorem d1_275 : decode prog_159_method_3_code 275 = .ok (.ireturn, 1) := by decide +kernel
theorem pn_rm_utf8 : plainFor (⟨"termstone/store/Utf8", "isUtf8", "([BII)Z"⟩ : MethodName) = true := by first | exact plainFor_of_name (by first | (simp [plainName, overriddenIn]; done) | decide +kernel) | decide +kernel
theorem ef_rm_utf8 (a : Nat) (f0 : Int32) (t0 : Int32) (m : MethodId) : entryFrame m #[(.ref a), (.int f0), (.int t0)] 10 = mkF m 0 #[.val (.ref a), .val (.int f0), .val (.int t0), .unset, .unset, .unset, .unset, .unset, .unset, .unset] [] := by first | (simp [entryFrame, mkF, argsToLocals, Value.category]; done) | rfl
set_option maxRecDepth 65536 in
set_option maxHeartbeats 40000000 in
theorem rm_utf8 (l : Launch) (Z : State) (a0 : Array Value) (hw : ∀ d ∈ tables_1, d.before a0 Z = true) (a : Nat) (f0 : Int32) (t0 : Int32) (h0 : Heap) (n0 : Nat) (Z0 : n0 ≤ h0.size) (bs : List Int32) (hl : bs.length = 8) (A : OAry Z h0 a .byte (bs.map Value.int)) (fi ti : Nat) (hf : f0.toInt = (fi : Int)) (ht : t0.toInt = (ti : Int)) (hft : fi ≤ ti) (ht8 : ti ≤ 8) :
    OMet l Z n0 (⟨"termstone/store/Utf8", "isUtf8", "([BII)Z"⟩ : MethodName) prog_159_method_3_code 10 (some .boolean) ({ frames := 0, cells := 0, slots := 0, locals := 0 } : Room) #[(.ref a), (.int f0), (.int t0)] h0 (fun v h => v = some (.int (own_V bs (ti - fi) fi)) ∧ h = h0) := by
  refine OMet.of pn_rm_utf8 Z0 (ef_rm_utf8 a f0 t0) ?_
  intro p e s m below meth c T H
  refine Own.iload_n H (pc := 0) d1_0 rfl ?_
  refine Own.istore_n H (pc := 1) #[.val (.ref a), .val (.int f0), .val (.int t0), .val (.int f0), .unset, .unset, .unset, .unset, .unset, .unset] d1_1 rfl ?_
  have loop : ∀ (n i : Nat) (j : Int32) (o4 o5 o6 o7 o8 o9 : Slot) (T : State), i + n = ti → j.toInt = (i : Int) → LS o4 → LS o5 → LS o6 → LS o7 → LS o8 → LS o9 → own_V bs n i = own_V bs (ti - fi) fi → OHr p l e ({ frames := 0, cells := 0, slots := 0, locals := 0 } : Room) s m #[(.ref a), (.int f0), (.int t0)] below meth c Z n0 "termstone/store/Utf8" "isUtf8" prog_159_method_3_code 10 (some .boolean) T h0 0 0 → OEnds p e below s n0 (fun v h => v = some (.int (own_V bs (ti - fi) fi)) ∧ h = h0) ({ frames := 0, cells := 0, slots := 0, locals := 0 } : Room).cells ({ frames := 0, cells := 0, slots := 0, locals := 0 } : Room).slots T (mkF m 2 #[.val (.ref a), .val (.int f0), .val (.int t0), .val (.int j), o4, o5, o6, o7, o8, o9] []) := by
    intro n
    induction n using Nat.strongRecOn with
    | ind n ih =>
      intro i j o4 o5 o6 o7 o8 o9 T hi hj h_o4 h_o5 h_o6 h_o7 h_o8 h_o9 hV H
      refine Own.iload_n H (pc := 2) d1_2 rfl ?_
      refine Own.iload_n H (pc := 3) d1_3 rfl ?_
      refine Own.icmp_ge H (pc := 4) 274 d1_4 (by decide) (by decide) (fun hend => ?_) (fun hend => ?_)
      · have e1 : n = 0 := by rw [own_lt, hj, ht] at hend; omega
        subst e1
        refine Own.iconst H (pc := 274) (1) d1_274 rfl ?_
        exact Own.ret_nar H (pc := 275) (1) d1_275 rfl (by simp) (by decide) (by decide) (by decide) (⟨by rw [← hV]; rfl, rfl⟩)
      · have hn1 : 1 ≤ n := by rw [own_lt, hj, ht] at hend; omega
        have G := own_go bs n i hn1 (by omega)
        have b0 := own_byte bs i
        refine Own.aload_n H (pc := 7) d1_7 rfl rfl ?_
        refine Own.iload_n H (pc := 8) d1_8 rfl ?_
        refine Own.baload H (pc := 9) (v := (bs.getD i 0)) i d1_9 A hj (own_map (by omega)) ?_
        refine Own.sipush H (pc := 10) (255) d1_10 rfl ?_
        refine Own.iand H (pc := 13) d1_13 ?_
        show OEnds _ _ _ _ _ _ _ _ _ (mkF _ 14 #[.val (.ref a), .val (.int f0), .val (.int t0), .val (.int j), o4, o5, o6, o7, o8, o9] [(.int (own_u bs i))])
        refine Own.istore H (pc := 14) #[.val (.ref a), .val (.int f0), .val (.int t0), .val (.int j), .val (.int (own_u bs i)), o5, o6, o7, o8, o9] d1_14 (by rcases h_o4 with q | ⟨x, q⟩ <;> subst q <;> rfl) ?_
        refine Own.sipush H (pc := 16) (128) d1_16 rfl ?_
        refine Own.istore H (pc := 19) #[.val (.ref a), .val (.int f0), .val (.int t0), .val (.int j), .val (.int (own_u bs i)), o5, .val (.int (128 : Int32)), o7, o8, o9] d1_19 (by rcases h_o6 with q | ⟨x, q⟩ <;> subst q <;> rfl) ?_
        refine Own.sipush H (pc := 21) (191) d1_21 rfl ?_
        refine Own.istore H (pc := 24) #[.val (.ref a), .val (.int f0), .val (.int t0), .val (.int j), .val (.int (own_u bs i)), o5, .val (.int (128 : Int32)), .val (.int (191 : Int32)), o8, o9] d1_24 (by rcases h_o7 with q | ⟨x, q⟩ <;> subst q <;> rfl) ?_
        refine Own.iload H (pc := 26) d1_26 rfl ?_
        refine Own.sipush H (pc := 28) (128) d1_28 rfl ?_
        refine Own.icmp_ge H (pc := 31) 40 d1_31 (by decide) (by decide) (fun hc31 => ?_) (fun hc31 => ?_)
        · replace hc31 : ¬ ((own_u bs i)).toInt < 128 := fun q => hc31 (own_lt.mpr q)
          refine Own.iload H (pc := 40) d1_40 rfl ?_
          refine Own.sipush H (pc := 42) (194) d1_42 rfl ?_
          refine Own.icmp_lt H (pc := 45) 62 d1_45 (by decide) (by decide) (fun hc45 => ?_) (fun hc45 => ?_)
          · replace hc45 : ((own_u bs i)).toInt < 194 := own_lt.mp hc45
            refine Own.iload H (pc := 62) d1_62 rfl ?_
            refine Own.sipush H (pc := 64) (224) d1_64 rfl ?_
            refine Own.icmp_ne H (pc := 67) 81 d1_67 (by decide) (by decide) (fun _ => ?_) (fun hX => absurd hX (fun q => absurd (own_eqi.mp q) (show ¬ (own_u bs i).toInt = 224 by omega)))
            refine Own.iload H (pc := 81) d1_81 rfl ?_
            refine Own.sipush H (pc := 83) (237) d1_83 rfl ?_
            refine Own.icmp_ne H (pc := 86) 100 d1_86 (by decide) (by decide) (fun _ => ?_) (fun hX => absurd hX (fun q => absurd (own_eqi.mp q) (show ¬ (own_u bs i).toInt = 237 by omega)))
            refine Own.iload H (pc := 100) d1_100 rfl ?_
            refine Own.sipush H (pc := 102) (225) d1_102 rfl ?_
            refine Own.icmp_lt H (pc := 105) 122 d1_105 (by decide) (by decide) (fun _ => ?_) (fun hX => absurd (own_lt.mpr (show (own_u bs i).toInt < 225 by omega)) hX)
            refine Own.iload H (pc := 122) d1_122 rfl ?_
            refine Own.sipush H (pc := 124) (240) d1_124 rfl ?_
            refine Own.icmp_ne H (pc := 127) 141 d1_127 (by decide) (by decide) (fun _ => ?_) (fun hX => absurd hX (fun q => absurd (own_eqi.mp q) (show ¬ (own_u bs i).toInt = 240 by omega)))
            refine Own.iload H (pc := 141) d1_141 rfl ?_
            refine Own.sipush H (pc := 143) (241) d1_143 rfl ?_
            refine Own.icmp_lt H (pc := 146) 163 d1_146 (by decide) (by decide) (fun _ => ?_) (fun hX => absurd (own_lt.mpr (show (own_u bs i).toInt < 241 by omega)) hX)
            refine Own.iload H (pc := 163) d1_163 rfl ?_
            refine Own.sipush H (pc := 165) (244) d1_165 rfl ?_
            refine Own.icmp_ne H (pc := 168) 182 d1_168 (by decide) (by decide) (fun _ => ?_) (fun hX => absurd hX (fun q => absurd (own_eqi.mp q) (show ¬ (own_u bs i).toInt = 244 by omega)))
            refine Own.iconst H (pc := 182) (0) d1_182 rfl ?_
            exact Own.ret_nar H (pc := 183) (0) d1_183 rfl (by simp) (by decide) (by decide) (by decide) (⟨by rw [← hV, own_W0.mpr (G.mpr (by omega))], rfl⟩)
          · replace hc45 : ¬ ((own_u bs i)).toInt < 194 := fun q => hc45 (own_lt.mpr q)
            refine Own.iload H (pc := 48) d1_48 rfl ?_
            refine Own.sipush H (pc := 50) (223) d1_50 rfl ?_
            refine Own.icmp_gt H (pc := 53) 62 d1_53 (by decide) (by decide) (fun hc53 => ?_) (fun hc53 => ?_)
            · replace hc53 : 223 < ((own_u bs i)).toInt := own_lt.mp hc53
              refine Own.iload H (pc := 62) d1_62 rfl ?_
              refine Own.sipush H (pc := 64) (224) d1_64 rfl ?_
              refine Own.icmp_ne H (pc := 67) 81 d1_67 (by decide) (by decide) (fun hc67 => ?_) (fun hc67 => ?_)
              · replace hc67 : ¬ ((own_u bs i)).toInt = 224 := fun q => hc67 (own_eqi.mpr q)
                refine Own.iload H (pc := 81) d1_81 rfl ?_
                refine Own.sipush H (pc := 83) (237) d1_83 rfl ?_
                refine Own.icmp_ne H (pc := 86) 100 d1_86 (by decide) (by decide) (fun hc86 => ?_) (fun hc86 => ?_)
                · replace hc86 : ¬ ((own_u bs i)).toInt = 237 := fun q => hc86 (own_eqi.mpr q)
                  refine Own.iload H (pc := 100) d1_100 rfl ?_
                  refine Own.sipush H (pc := 102) (225) d1_102 rfl ?_
                  refine Own.icmp_lt H (pc := 105) 122 d1_105 (by decide) (by decide) (fun hX => absurd hX (fun q => absurd (own_lt.mp q) (show ¬ (own_u bs i).toInt < 225 by omega))) (fun _ => ?_)
                  refine Own.iload H (pc := 108) d1_108 rfl ?_
                  refine Own.sipush H (pc := 110) (239) d1_110 rfl ?_
                  refine Own.icmp_gt H (pc := 113) 122 d1_113 (by decide) (by decide) (fun hc113 => ?_) (fun hc113 => ?_)
                  · replace hc113 : 239 < ((own_u bs i)).toInt := own_lt.mp hc113
                    refine Own.iload H (pc := 122) d1_122 rfl ?_
                    refine Own.sipush H (pc := 124) (240) d1_124 rfl ?_
                    refine Own.icmp_ne H (pc := 127) 141 d1_127 (by decide) (by decide) (fun hc127 => ?_) (fun hc127 => ?_)
                    · replace hc127 : ¬ ((own_u bs i)).toInt = 240 := fun q => hc127 (own_eqi.mpr q)
                      refine Own.iload H (pc := 141) d1_141 rfl ?_
                      refine Own.sipush H (pc := 143) (241) d1_143 rfl ?_
                      refine Own.icmp_lt H (pc := 146) 163 d1_146 (by decide) (by decide) (fun hX => absurd hX (fun q => absurd (own_lt.mp q) (show ¬ (own_u bs i).toInt < 241 by omega))) (fun _ => ?_)
                      refine Own.iload H (pc := 149) d1_149 rfl ?_
                      refine Own.sipush H (pc := 151) (243) d1_151 rfl ?_
                      refine Own.icmp_gt H (pc := 154) 163 d1_154 (by decide) (by decide) (fun hc154 => ?_) (fun hc154 => ?_)
                      · replace hc154 : 243 < ((own_u bs i)).toInt := own_lt.mp hc154
                        refine Own.iload H (pc := 163) d1_163 rfl ?_
                        refine Own.sipush H (pc := 165) (244) d1_165 rfl ?_
                        refine Own.icmp_ne H (pc := 168) 182 d1_168 (by decide) (by decide) (fun hc168 => ?_) (fun hc168 => ?_)
                        · replace hc168 : ¬ ((own_u bs i)).toInt = 244 := fun q => hc168 (own_eqi.mpr q)
                          refine Own.iconst H (pc := 182) (0) d1_182 rfl ?_
                          exact Own.ret_nar H (pc := 183) (0) d1_183 rfl (by simp) (by decide) (by decide) (by decide) (⟨by rw [← hV, own_W0.mpr (G.mpr (by omega))], rfl⟩)
                        · replace hc168 : ((own_u bs i)).toInt = 244 := own_eqi.mp hc168
                          refine Own.iconst H (pc := 171) (3) d1_171 rfl ?_
                          refine Own.istore H (pc := 172) #[.val (.ref a), .val (.int f0), .val (.int t0), .val (.int j), .val (.int (own_u bs i)), .val (.int (3 : Int32)), .val (.int (128 : Int32)), .val (.int (191 : Int32)), o8, o9] d1_172 (by rcases h_o5 with q | ⟨x, q⟩ <;> subst q <;> rfl) ?_
                          refine Own.sipush H (pc := 174) (143) d1_174 rfl ?_
                          refine Own.istore H (pc := 177) #[.val (.ref a), .val (.int f0), .val (.int t0), .val (.int j), .val (.int (own_u bs i)), .val (.int (3 : Int32)), .val (.int (128 : Int32)), .val (.int (143 : Int32)), o8, o9] d1_177 rfl ?_
                          refine Own.goto H (pc := 179) 184 d1_179 (by decide) (by decide) ?_
                          refine Own.iload H (pc := 184) d1_184 rfl ?_
                          refine Own.iload_n H (pc := 186) d1_186 rfl ?_
                          refine Own.iload_n H (pc := 187) d1_187 rfl ?_
                          refine Own.isub H (pc := 188) d1_188 ?_
                          refine Own.iconst H (pc := 189) (1) d1_189 rfl ?_
                          refine Own.isub H (pc := 190) d1_190 ?_
                          have hrem : ((t0 - j) - (1 : Int32)).toInt = (n : Int) - 1 := by
                            have a1 := c_isub t0 j
                            have a2 := c_isub (t0 - j) 1
                            have r1 := rng32 (t0 - j)
                            have r2 := rng32 ((t0 - j) - 1)
                            have e1 : (1 : Int32).toInt = 1 := rfl
                            omega
                          refine Own.icmp_le H (pc := 191) 196 d1_191 (by decide) (by decide) (fun hr => ?_) (fun hr => ?_)
                          · replace hr : ¬ (n : Int) - 1 < 3 := fun q => hr (own_lt.mpr (hrem ▸ q))
                            refine Own.iconst H (pc := 196) (1) d1_196 rfl ?_
                            refine Own.istore H (pc := 197) #[.val (.ref a), .val (.int f0), .val (.int t0), .val (.int j), .val (.int (own_u bs i)), .val (.int (3 : Int32)), .val (.int (128 : Int32)), .val (.int (143 : Int32)), .val (.int (1 : Int32)), o9] d1_197 (by rcases h_o8 with q | ⟨x, q⟩ <;> subst q <;> rfl) ?_
                            refine Own.iload H (pc := 199) d1_199 rfl ?_
                            refine Own.iload H (pc := 201) d1_201 rfl ?_
                            refine Own.icmp_gt H (pc := 203) 264 d1_203 (by decide) (by decide) (fun hc => absurd hc (by decide)) (fun _ => ?_)
                            refine Own.aload_n H (pc := 206) d1_206 rfl rfl ?_
                            refine Own.iload_n H (pc := 207) d1_207 rfl ?_
                            refine Own.iload H (pc := 208) d1_208 rfl ?_
                            refine Own.iadd H (pc := 210) d1_210 ?_
                            refine Own.baload H (pc := 211) (v := (bs.getD (i + 1) 0)) (i + 1) d1_211 A (own_addn hj rfl (by omega)) (own_map (by omega)) ?_
                            refine Own.sipush H (pc := 212) (255) d1_212 rfl ?_
                            refine Own.iand H (pc := 215) d1_215 ?_
                            show OEnds _ _ _ _ _ _ _ _ _ (mkF _ 216 #[.val (.ref a), .val (.int f0), .val (.int t0), .val (.int j), .val (.int (own_u bs i)), .val (.int (3 : Int32)), .val (.int (128 : Int32)), .val (.int (143 : Int32)), .val (.int (1 : Int32)), o9] [(.int (own_u bs (i + 1)))])
                            have b1 := own_byte bs (i + 1)
                            refine Own.istore H (pc := 216) #[.val (.ref a), .val (.int f0), .val (.int t0), .val (.int j), .val (.int (own_u bs i)), .val (.int (3 : Int32)), .val (.int (128 : Int32)), .val (.int (143 : Int32)), .val (.int (1 : Int32)), .val (.int (own_u bs (i + 1)))] d1_216 (by rcases h_o9 with q | ⟨x, q⟩ <;> subst q <;> rfl) ?_
                            refine Own.iload H (pc := 218) d1_218 rfl ?_
                            refine Own.iload H (pc := 220) d1_220 rfl ?_
                            refine Own.iconst H (pc := 222) (1) d1_222 rfl ?_
                            refine Own.icmp_ne H (pc := 223) 231 d1_223 (by decide) (by decide) (fun hc => absurd hc (by decide)) (fun _ => ?_)
                            refine Own.iload H (pc := 226) d1_226 rfl ?_
                            refine Own.goto H (pc := 228) 234 d1_228 (by decide) (by decide) ?_
                            refine Own.icmp_lt H (pc := 234) 256 d1_234 (by decide) (by decide) (fun hk1_234 => ?_) (fun hk1_234 => ?_)
                            · replace hk1_234 : ((own_u bs (i + 1))).toInt < 128 := own_lt.mp hk1_234
                              refine Own.iconst H (pc := 256) (0) d1_256 rfl ?_
                              exact Own.ret_nar H (pc := 257) (0) d1_257 rfl (by simp) (by decide) (by decide) (by decide) (⟨by rw [← hV, own_W0.mpr (G.mpr (by omega))], rfl⟩)
                            · replace hk1_234 : ¬ ((own_u bs (i + 1))).toInt < 128 := fun q => hk1_234 (own_lt.mpr q)
                              refine Own.iload H (pc := 237) d1_237 rfl ?_
                              refine Own.iload H (pc := 239) d1_239 rfl ?_
                              refine Own.iconst H (pc := 241) (1) d1_241 rfl ?_
                              refine Own.icmp_ne H (pc := 242) 250 d1_242 (by decide) (by decide) (fun hc => absurd hc (by decide)) (fun _ => ?_)
                              refine Own.iload H (pc := 245) d1_245 rfl ?_
                              refine Own.goto H (pc := 247) 253 d1_247 (by decide) (by decide) ?_
                              refine Own.icmp_le H (pc := 253) 258 d1_253 (by decide) (by decide) (fun hk1_253 => ?_) (fun hk1_253 => ?_)
                              · replace hk1_253 : ¬ 143 < ((own_u bs (i + 1))).toInt := fun q => hk1_253 (own_lt.mpr q)
                                refine Own.iinc_c H (pc := 258) (2) #[.val (.ref a), .val (.int f0), .val (.int t0), .val (.int j), .val (.int (own_u bs i)), .val (.int (3 : Int32)), .val (.int (128 : Int32)), .val (.int (143 : Int32)), .val (.int (2 : Int32)), .val (.int (own_u bs (i + 1)))] d1_258 rfl (by decide) rfl ?_
                                refine Own.goto H (pc := 261) 199 d1_261 (by decide) (by decide) ?_
                                refine Own.iload H (pc := 199) d1_199 rfl ?_
                                refine Own.iload H (pc := 201) d1_201 rfl ?_
                                refine Own.icmp_gt H (pc := 203) 264 d1_203 (by decide) (by decide) (fun hc => absurd hc (by decide)) (fun _ => ?_)
                                refine Own.aload_n H (pc := 206) d1_206 rfl rfl ?_
                                refine Own.iload_n H (pc := 207) d1_207 rfl ?_
                                refine Own.iload H (pc := 208) d1_208 rfl ?_
                                refine Own.iadd H (pc := 210) d1_210 ?_
                                refine Own.baload H (pc := 211) (v := (bs.getD (i + 2) 0)) (i + 2) d1_211 A (own_addn hj rfl (by omega)) (own_map (by omega)) ?_
                                refine Own.sipush H (pc := 212) (255) d1_212 rfl ?_
                                refine Own.iand H (pc := 215) d1_215 ?_
                                show OEnds _ _ _ _ _ _ _ _ _ (mkF _ 216 #[.val (.ref a), .val (.int f0), .val (.int t0), .val (.int j), .val (.int (own_u bs i)), .val (.int (3 : Int32)), .val (.int (128 : Int32)), .val (.int (143 : Int32)), .val (.int (2 : Int32)), .val (.int (own_u bs (i + 1)))] [(.int (own_u bs (i + 2)))])
                                have b2 := own_byte bs (i + 2)
                                refine Own.istore H (pc := 216) #[.val (.ref a), .val (.int f0), .val (.int t0), .val (.int j), .val (.int (own_u bs i)), .val (.int (3 : Int32)), .val (.int (128 : Int32)), .val (.int (143 : Int32)), .val (.int (2 : Int32)), .val (.int (own_u bs (i + 2)))] d1_216 rfl ?_
                                refine Own.iload H (pc := 218) d1_218 rfl ?_
                                refine Own.iload H (pc := 220) d1_220 rfl ?_
                                refine Own.iconst H (pc := 222) (1) d1_222 rfl ?_
                                refine Own.icmp_ne H (pc := 223) 231 d1_223 (by decide) (by decide) (fun _ => ?_) (fun hc => absurd hc (by decide))
                                refine Own.sipush H (pc := 231) (128) d1_231 rfl ?_
                                refine Own.icmp_lt H (pc := 234) 256 d1_234 (by decide) (by decide) (fun hk2_234 => ?_) (fun hk2_234 => ?_)
                                · replace hk2_234 : ((own_u bs (i + 2))).toInt < 128 := own_lt.mp hk2_234
                                  refine Own.iconst H (pc := 256) (0) d1_256 rfl ?_
                                  exact Own.ret_nar H (pc := 257) (0) d1_257 rfl (by simp) (by decide) (by decide) (by decide) (⟨by rw [← hV, own_W0.mpr (G.mpr (by omega))], rfl⟩)
                                · replace hk2_234 : ¬ ((own_u bs (i + 2))).toInt < 128 := fun q => hk2_234 (own_lt.mpr q)
                                  refine Own.iload H (pc := 237) d1_237 rfl ?_
                                  refine Own.iload H (pc := 239) d1_239 rfl ?_
                                  refine Own.iconst H (pc := 241) (1) d1_241 rfl ?_
                                  refine Own.icmp_ne H (pc := 242) 250 d1_242 (by decide) (by decide) (fun _ => ?_) (fun hc => absurd hc (by decide))
                                  refine Own.sipush H (pc := 250) (191) d1_250 rfl ?_
                                  refine Own.icmp_le H (pc := 253) 258 d1_253 (by decide) (by decide) (fun hk2_253 => ?_) (fun hk2_253 => ?_)
                                  · replace hk2_253 : ¬ 191 < ((own_u bs (i + 2))).toInt := fun q => hk2_253 (own_lt.mpr q)
                                    refine Own.iinc_c H (pc := 258) (3) #[.val (.ref a), .val (.int f0), .val (.int t0), .val (.int j), .val (.int (own_u bs i)), .val (.int (3 : Int32)), .val (.int (128 : Int32)), .val (.int (143 : Int32)), .val (.int (3 : Int32)), .val (.int (own_u bs (i + 2)))] d1_258 rfl (by decide) rfl ?_
                                    refine Own.goto H (pc := 261) 199 d1_261 (by decide) (by decide) ?_
                                    refine Own.iload H (pc := 199) d1_199 rfl ?_
                                    refine Own.iload H (pc := 201) d1_201 rfl ?_
                                    refine Own.icmp_gt H (pc := 203) 264 d1_203 (by decide) (by decide) (fun hc => absurd hc (by decide)) (fun _ => ?_)
                                    refine Own.aload_n H (pc := 206) d1_206 rfl rfl ?_
                                    refine Own.iload_n H (pc := 207) d1_207 rfl ?_
                                    refine Own.iload H (pc := 208) d1_208 rfl ?_
                                    refine Own.iadd H (pc := 210) d1_210 ?_
                                    refine Own.baload H (pc := 211) (v := (bs.getD (i + 3) 0)) (i + 3) d1_211 A (own_addn hj rfl (by omega)) (own_map (by omega)) ?_
                                    refine Own.sipush H (pc := 212) (255) d1_212 rfl ?_
                                    refine Own.iand H (pc := 215) d1_215 ?_
                                    show OEnds _ _ _ _ _ _ _ _ _ (mkF _ 216 #[.val (.ref a), .val (.int f0), .val (.int t0), .val (.int j), .val (.int (own_u bs i)), .val (.int (3 : Int32)), .val (.int (128 : Int32)), .val (.int (143 : Int32)), .val (.int (3 : Int32)), .val (.int (own_u bs (i + 2)))] [(.int (own_u bs (i + 3)))])
                                    have b3 := own_byte bs (i + 3)
                                    refine Own.istore H (pc := 216) #[.val (.ref a), .val (.int f0), .val (.int t0), .val (.int j), .val (.int (own_u bs i)), .val (.int (3 : Int32)), .val (.int (128 : Int32)), .val (.int (143 : Int32)), .val (.int (3 : Int32)), .val (.int (own_u bs (i + 3)))] d1_216 rfl ?_
                                    refine Own.iload H (pc := 218) d1_218 rfl ?_
                                    refine Own.iload H (pc := 220) d1_220 rfl ?_
                                    refine Own.iconst H (pc := 222) (1) d1_222 rfl ?_
                                    refine Own.icmp_ne H (pc := 223) 231 d1_223 (by decide) (by decide) (fun _ => ?_) (fun hc => absurd hc (by decide))
                                    refine Own.sipush H (pc := 231) (128) d1_231 rfl ?_
                                    refine Own.icmp_lt H (pc := 234) 256 d1_234 (by decide) (by decide) (fun hk3_234 => ?_) (fun hk3_234 => ?_)
                                    · replace hk3_234 : ((own_u bs (i + 3))).toInt < 128 := own_lt.mp hk3_234
                                      refine Own.iconst H (pc := 256) (0) d1_256 rfl ?_
                                      exact Own.ret_nar H (pc := 257) (0) d1_257 rfl (by simp) (by decide) (by decide) (by decide) (⟨by rw [← hV, own_W0.mpr (G.mpr (by omega))], rfl⟩)
                                    · replace hk3_234 : ¬ ((own_u bs (i + 3))).toInt < 128 := fun q => hk3_234 (own_lt.mpr q)
                                      refine Own.iload H (pc := 237) d1_237 rfl ?_
                                      refine Own.iload H (pc := 239) d1_239 rfl ?_
                                      refine Own.iconst H (pc := 241) (1) d1_241 rfl ?_
                                      refine Own.icmp_ne H (pc := 242) 250 d1_242 (by decide) (by decide) (fun _ => ?_) (fun hc => absurd hc (by decide))
                                      refine Own.sipush H (pc := 250) (191) d1_250 rfl ?_
                                      refine Own.icmp_le H (pc := 253) 258 d1_253 (by decide) (by decide) (fun hk3_253 => ?_) (fun hk3_253 => ?_)
                                      · replace hk3_253 : ¬ 191 < ((own_u bs (i + 3))).toInt := fun q => hk3_253 (own_lt.mpr q)
                                        refine Own.iinc_c H (pc := 258) (4) #[.val (.ref a), .val (.int f0), .val (.int t0), .val (.int j), .val (.int (own_u bs i)), .val (.int (3 : Int32)), .val (.int (128 : Int32)), .val (.int (143 : Int32)), .val (.int (4 : Int32)), .val (.int (own_u bs (i + 3)))] d1_258 rfl (by decide) rfl ?_
                                        refine Own.goto H (pc := 261) 199 d1_261 (by decide) (by decide) ?_
                                        refine Own.iload H (pc := 199) d1_199 rfl ?_
                                        refine Own.iload H (pc := 201) d1_201 rfl ?_
                                        refine Own.icmp_gt H (pc := 203) 264 d1_203 (by decide) (by decide) (fun _ => ?_) (fun hc => absurd hc (by decide))
                                        refine Own.iload_n H (pc := 264) d1_264 rfl ?_
                                        refine Own.iconst H (pc := 265) (1) d1_265 rfl ?_
                                        refine Own.iload H (pc := 266) d1_266 rfl ?_
                                        refine Own.iadd_c H (pc := 268) (4) d1_268 (by decide) ?_
                                        refine Own.iadd H (pc := 269) d1_269 ?_
                                        refine Own.istore_n H (pc := 270) #[.val (.ref a), .val (.int f0), .val (.int t0), .val (.int (j + (4 : Int32))), .val (.int (own_u bs i)), .val (.int (3 : Int32)), .val (.int (128 : Int32)), .val (.int (143 : Int32)), .val (.int (4 : Int32)), .val (.int (own_u bs (i + 3)))] d1_270 rfl ?_
                                        refine Own.goto H (pc := 271) 2 d1_271 (by decide) (by decide) ?_
                                        exact ih (n - 4) (by omega) (i + 4) _ _ _ _ _ _ _ _ (by omega) (own_addn hj rfl (by omega)) (Or.inr ⟨_, rfl⟩) (Or.inr ⟨_, rfl⟩) (Or.inr ⟨_, rfl⟩) (Or.inr ⟨_, rfl⟩) (Or.inr ⟨_, rfl⟩) (Or.inr ⟨_, rfl⟩) ((own_next (by rw [G]; omega)).symm.trans hV) H
                                      · replace hk3_253 : 191 < ((own_u bs (i + 3))).toInt := own_lt.mp hk3_253
                                        refine Own.iconst H (pc := 256) (0) d1_256 rfl ?_
                                        exact Own.ret_nar H (pc := 257) (0) d1_257 rfl (by simp) (by decide) (by decide) (by decide) (⟨by rw [← hV, own_W0.mpr (G.mpr (by omega))], rfl⟩)
                                  · replace hk2_253 : 191 < ((own_u bs (i + 2))).toInt := own_lt.mp hk2_253
                                    refine Own.iconst H (pc := 256) (0) d1_256 rfl ?_
                                    exact Own.ret_nar H (pc := 257) (0) d1_257 rfl (by simp) (by decide) (by decide) (by decide) (⟨by rw [← hV, own_W0.mpr (G.mpr (by omega))], rfl⟩)
                              · replace hk1_253 : 143 < ((own_u bs (i + 1))).toInt := own_lt.mp hk1_253
                                refine Own.iconst H (pc := 256) (0) d1_256 rfl ?_
                                exact Own.ret_nar H (pc := 257) (0) d1_257 rfl (by simp) (by decide) (by decide) (by decide) (⟨by rw [← hV, own_W0.mpr (G.mpr (by omega))], rfl⟩)
                          · replace hr : (n : Int) - 1 < 3 := hrem ▸ own_lt.mp hr
                            refine Own.iconst H (pc := 194) (0) d1_194 rfl ?_
                            exact Own.ret_nar H (pc := 195) (0) d1_195 rfl (by simp) (by decide) (by decide) (by decide) (⟨by rw [← hV, own_W0.mpr (G.mpr (by omega))], rfl⟩)
                      · replace hc154 : ¬ 243 < ((own_u bs i)).toInt := fun q => hc154 (own_lt.mpr q)
                        refine Own.iconst H (pc := 157) (3) d1_157 rfl ?_
                        refine Own.istore H (pc := 158) #[.val (.ref a), .val (.int f0), .val (.int t0), .val (.int j), .val (.int (own_u bs i)), .val (.int (3 : Int32)), .val (.int (128 : Int32)), .val (.int (191 : Int32)), o8, o9] d1_158 (by rcases h_o5 with q | ⟨x, q⟩ <;> subst q <;> rfl) ?_
                        refine Own.goto H (pc := 160) 184 d1_160 (by decide) (by decide) ?_
                        refine Own.iload H (pc := 184) d1_184 rfl ?_
                        refine Own.iload_n H (pc := 186) d1_186 rfl ?_
                        refine Own.iload_n H (pc := 187) d1_187 rfl ?_
                        refine Own.isub H (pc := 188) d1_188 ?_
                        refine Own.iconst H (pc := 189) (1) d1_189 rfl ?_
                        refine Own.isub H (pc := 190) d1_190 ?_
                        have hrem : ((t0 - j) - (1 : Int32)).toInt = (n : Int) - 1 := by
                          have a1 := c_isub t0 j
                          have a2 := c_isub (t0 - j) 1
                          have r1 := rng32 (t0 - j)
                          have r2 := rng32 ((t0 - j) - 1)
                          have e1 : (1 : Int32).toInt = 1 := rfl
                          omega
                        refine Own.icmp_le H (pc := 191) 196 d1_191 (by decide) (by decide) (fun hr => ?_) (fun hr => ?_)
                        · replace hr : ¬ (n : Int) - 1 < 3 := fun q => hr (own_lt.mpr (hrem ▸ q))
                          refine Own.iconst H (pc := 196) (1) d1_196 rfl ?_
                          refine Own.istore H (pc := 197) #[.val (.ref a), .val (.int f0), .val (.int t0), .val (.int j), .val (.int (own_u bs i)), .val (.int (3 : Int32)), .val (.int (128 : Int32)), .val (.int (191 : Int32)), .val (.int (1 : Int32)), o9] d1_197 (by rcases h_o8 with q | ⟨x, q⟩ <;> subst q <;> rfl) ?_
                          refine Own.iload H (pc := 199) d1_199 rfl ?_
                          refine Own.iload H (pc := 201) d1_201 rfl ?_
                          refine Own.icmp_gt H (pc := 203) 264 d1_203 (by decide) (by decide) (fun hc => absurd hc (by decide)) (fun _ => ?_)
                          refine Own.aload_n H (pc := 206) d1_206 rfl rfl ?_
                          refine Own.iload_n H (pc := 207) d1_207 rfl ?_
                          refine Own.iload H (pc := 208) d1_208 rfl ?_
                          refine Own.iadd H (pc := 210) d1_210 ?_
                          refine Own.baload H (pc := 211) (v := (bs.getD (i + 1) 0)) (i + 1) d1_211 A (own_addn hj rfl (by omega)) (own_map (by omega)) ?_
                          refine Own.sipush H (pc := 212) (255) d1_212 rfl ?_
                          refine Own.iand H (pc := 215) d1_215 ?_
                          show OEnds _ _ _ _ _ _ _ _ _ (mkF _ 216 #[.val (.ref a), .val (.int f0), .val (.int t0), .val (.int j), .val (.int (own_u bs i)), .val (.int (3 : Int32)), .val (.int (128 : Int32)), .val (.int (191 : Int32)), .val (.int (1 : Int32)), o9] [(.int (own_u bs (i + 1)))])
                          have b1 := own_byte bs (i + 1)
                          refine Own.istore H (pc := 216) #[.val (.ref a), .val (.int f0), .val (.int t0), .val (.int j), .val (.int (own_u bs i)), .val (.int (3 : Int32)), .val (.int (128 : Int32)), .val (.int (191 : Int32)), .val (.int (1 : Int32)), .val (.int (own_u bs (i + 1)))] d1_216 (by rcases h_o9 with q | ⟨x, q⟩ <;> subst q <;> rfl) ?_
                          refine Own.iload H (pc := 218) d1_218 rfl ?_
                          refine Own.iload H (pc := 220) d1_220 rfl ?_
                          refine Own.iconst H (pc := 222) (1) d1_222 rfl ?_
                          refine Own.icmp_ne H (pc := 223) 231 d1_223 (by decide) (by decide) (fun hc => absurd hc (by decide)) (fun _ => ?_)
                          refine Own.iload H (pc := 226) d1_226 rfl ?_
                          refine Own.goto H (pc := 228) 234 d1_228 (by decide) (by decide) ?_
                          refine Own.icmp_lt H (pc := 234) 256 d1_234 (by decide) (by decide) (fun hk1_234 => ?_) (fun hk1_234 => ?_)
                          · replace hk1_234 : ((own_u bs (i + 1))).toInt < 128 := own_lt.mp hk1_234
                            refine Own.iconst H (pc := 256) (0) d1_256 rfl ?_
                            exact Own.ret_nar H (pc := 257) (0) d1_257 rfl (by simp) (by decide) (by decide) (by decide) (⟨by rw [← hV, own_W0.mpr (G.mpr (by omega))], rfl⟩)
                          · replace hk1_234 : ¬ ((own_u bs (i + 1))).toInt < 128 := fun q => hk1_234 (own_lt.mpr q)
                            refine Own.iload H (pc := 237) d1_237 rfl ?_
                            refine Own.iload H (pc := 239) d1_239 rfl ?_
                            refine Own.iconst H (pc := 241) (1) d1_241 rfl ?_
                            refine Own.icmp_ne H (pc := 242) 250 d1_242 (by decide) (by decide) (fun hc => absurd hc (by decide)) (fun _ => ?_)
                            refine Own.iload H (pc := 245) d1_245 rfl ?_
                            refine Own.goto H (pc := 247) 253 d1_247 (by decide) (by decide) ?_
                            refine Own.icmp_le H (pc := 253) 258 d1_253 (by decide) (by decide) (fun hk1_253 => ?_) (fun hk1_253 => ?_)
                            · replace hk1_253 : ¬ 191 < ((own_u bs (i + 1))).toInt := fun q => hk1_253 (own_lt.mpr q)
                              refine Own.iinc_c H (pc := 258) (2) #[.val (.ref a), .val (.int f0), .val (.int t0), .val (.int j), .val (.int (own_u bs i)), .val (.int (3 : Int32)), .val (.int (128 : Int32)), .val (.int (191 : Int32)), .val (.int (2 : Int32)), .val (.int (own_u bs (i + 1)))] d1_258 rfl (by decide) rfl ?_
                              refine Own.goto H (pc := 261) 199 d1_261 (by decide) (by decide) ?_
                              refine Own.iload H (pc := 199) d1_199 rfl ?_
                              refine Own.iload H (pc := 201) d1_201 rfl ?_
                              refine Own.icmp_gt H (pc := 203) 264 d1_203 (by decide) (by decide) (fun hc => absurd hc (by decide)) (fun _ => ?_)
                              refine Own.aload_n H (pc := 206) d1_206 rfl rfl ?_
                              refine Own.iload_n H (pc := 207) d1_207 rfl ?_
                              refine Own.iload H (pc := 208) d1_208 rfl ?_
                              refine Own.iadd H (pc := 210) d1_210 ?_
                              refine Own.baload H (pc := 211) (v := (bs.getD (i + 2) 0)) (i + 2) d1_211 A (own_addn hj rfl (by omega)) (own_map (by omega)) ?_
                              refine Own.sipush H (pc := 212) (255) d1_212 rfl ?_
                              refine Own.iand H (pc := 215) d1_215 ?_
                              show OEnds _ _ _ _ _ _ _ _ _ (mkF _ 216 #[.val (.ref a), .val (.int f0), .val (.int t0), .val (.int j), .val (.int (own_u bs i)), .val (.int (3 : Int32)), .val (.int (128 : Int32)), .val (.int (191 : Int32)), .val (.int (2 : Int32)), .val (.int (own_u bs (i + 1)))] [(.int (own_u bs (i + 2)))])
                              have b2 := own_byte bs (i + 2)
                              refine Own.istore H (pc := 216) #[.val (.ref a), .val (.int f0), .val (.int t0), .val (.int j), .val (.int (own_u bs i)), .val (.int (3 : Int32)), .val (.int (128 : Int32)), .val (.int (191 : Int32)), .val (.int (2 : Int32)), .val (.int (own_u bs (i + 2)))] d1_216 rfl ?_
                              refine Own.iload H (pc := 218) d1_218 rfl ?_
                              refine Own.iload H (pc := 220) d1_220 rfl ?_
                              refine Own.iconst H (pc := 222) (1) d1_222 rfl ?_
                              refine Own.icmp_ne H (pc := 223) 231 d1_223 (by decide) (by decide) (fun _ => ?_) (fun hc => absurd hc (by decide))
                              refine Own.sipush H (pc := 231) (128) d1_231 rfl ?_
                              refine Own.icmp_lt H (pc := 234) 256 d1_234 (by decide) (by decide) (fun hk2_234 => ?_) (fun hk2_234 => ?_)
                              · replace hk2_234 : ((own_u bs (i + 2))).toInt < 128 := own_lt.mp hk2_234
                                refine Own.iconst H (pc := 256) (0) d1_256 rfl ?_
                                exact Own.ret_nar H (pc := 257) (0) d1_257 rfl (by simp) (by decide) (by decide) (by decide) (⟨by rw [← hV, own_W0.mpr (G.mpr (by omega))], rfl⟩)
                              · replace hk2_234 : ¬ ((own_u bs (i + 2))).toInt < 128 := fun q => hk2_234 (own_lt.mpr q)
                                refine Own.iload H (pc := 237) d1_237 rfl ?_
                                refine Own.iload H (pc := 239) d1_239 rfl ?_
                                refine Own.iconst H (pc := 241) (1) d1_241 rfl ?_
                                refine Own.icmp_ne H (pc := 242) 250 d1_242 (by decide) (by decide) (fun _ => ?_) (fun hc => absurd hc (by decide))
                                refine Own.sipush H (pc := 250) (191) d1_250 rfl ?_
                                refine Own.icmp_le H (pc := 253) 258 d1_253 (by decide) (by decide) (fun hk2_253 => ?_) (fun hk2_253 => ?_)
                                · replace hk2_253 : ¬ 191 < ((own_u bs (i + 2))).toInt := fun q => hk2_253 (own_lt.mpr q)
                                  refine Own.iinc_c H (pc := 258) (3) #[.val (.ref a), .val (.int f0), .val (.int t0), .val (.int j), .val (.int (own_u bs i)), .val (.int (3 : Int32)), .val (.int (128 : Int32)), .val (.int (191 : Int32)), .val (.int (3 : Int32)), .val (.int (own_u bs (i + 2)))] d1_258 rfl (by decide) rfl ?_
                                  refine Own.goto H (pc := 261) 199 d1_261 (by decide) (by decide) ?_
                                  refine Own.iload H (pc := 199) d1_199 rfl ?_
                                  refine Own.iload H (pc := 201) d1_201 rfl ?_
                                  refine Own.icmp_gt H (pc := 203) 264 d1_203 (by decide) (by decide) (fun hc => absurd hc (by decide)) (fun _ => ?_)
                                  refine Own.aload_n H (pc := 206) d1_206 rfl rfl ?_
                                  refine Own.iload_n H (pc := 207) d1_207 rfl ?_
                                  refine Own.iload H (pc := 208) d1_208 rfl ?_
                                  refine Own.iadd H (pc := 210) d1_210 ?_
                                  refine Own.baload H (pc := 211) (v := (bs.getD (i + 3) 0)) (i + 3) d1_211 A (own_addn hj rfl (by omega)) (own_map (by omega)) ?_
                                  refine Own.sipush H (pc := 212) (255) d1_212 rfl ?_
                                  refine Own.iand H (pc := 215) d1_215 ?_
                                  show OEnds _ _ _ _ _ _ _ _ _ (mkF _ 216 #[.val (.ref a), .val (.int f0), .val (.int t0), .val (.int j), .val (.int (own_u bs i)), .val (.int (3 : Int32)), .val (.int (128 : Int32)), .val (.int (191 : Int32)), .val (.int (3 : Int32)), .val (.int (own_u bs (i + 2)))] [(.int (own_u bs (i + 3)))])
                                  have b3 := own_byte bs (i + 3)
                                  refine Own.istore H (pc := 216) #[.val (.ref a), .val (.int f0), .val (.int t0), .val (.int j), .val (.int (own_u bs i)), .val (.int (3 : Int32)), .val (.int (128 : Int32)), .val (.int (191 : Int32)), .val (.int (3 : Int32)), .val (.int (own_u bs (i + 3)))] d1_216 rfl ?_
                                  refine Own.iload H (pc := 218) d1_218 rfl ?_
                                  refine Own.iload H (pc := 220) d1_220 rfl ?_
                                  refine Own.iconst H (pc := 222) (1) d1_222 rfl ?_
                                  refine Own.icmp_ne H (pc := 223) 231 d1_223 (by decide) (by decide) (fun _ => ?_) (fun hc => absurd hc (by decide))
                                  refine Own.sipush H (pc := 231) (128) d1_231 rfl ?_
                                  refine Own.icmp_lt H (pc := 234) 256 d1_234 (by decide) (by decide) (fun hk3_234 => ?_) (fun hk3_234 => ?_)
                                  · replace hk3_234 : ((own_u bs (i + 3))).toInt < 128 := own_lt.mp hk3_234
                                    refine Own.iconst H (pc := 256) (0) d1_256 rfl ?_
                                    exact Own.ret_nar H (pc := 257) (0) d1_257 rfl (by simp) (by decide) (by decide) (by decide) (⟨by rw [← hV, own_W0.mpr (G.mpr (by omega))], rfl⟩)
                                  · replace hk3_234 : ¬ ((own_u bs (i + 3))).toInt < 128 := fun q => hk3_234 (own_lt.mpr q)
                                    refine Own.iload H (pc := 237) d1_237 rfl ?_
                                    refine Own.iload H (pc := 239) d1_239 rfl ?_
                                    refine Own.iconst H (pc := 241) (1) d1_241 rfl ?_
                                    refine Own.icmp_ne H (pc := 242) 250 d1_242 (by decide) (by decide) (fun _ => ?_) (fun hc => absurd hc (by decide))
                                    refine Own.sipush H (pc := 250) (191) d1_250 rfl ?_
                                    refine Own.icmp_le H (pc := 253) 258 d1_253 (by decide) (by decide) (fun hk3_253 => ?_) (fun hk3_253 => ?_)
                                    · replace hk3_253 : ¬ 191 < ((own_u bs (i + 3))).toInt := fun q => hk3_253 (own_lt.mpr q)
                                      refine Own.iinc_c H (pc := 258) (4) #[.val (.ref a), .val (.int f0), .val (.int t0), .val (.int j), .val (.int (own_u bs i)), .val (.int (3 : Int32)), .val (.int (128 : Int32)), .val (.int (191 : Int32)), .val (.int (4 : Int32)), .val (.int (own_u bs (i + 3)))] d1_258 rfl (by decide) rfl ?_
                                      refine Own.goto H (pc := 261) 199 d1_261 (by decide) (by decide) ?_
                                      refine Own.iload H (pc := 199) d1_199 rfl ?_
                                      refine Own.iload H (pc := 201) d1_201 rfl ?_
                                      refine Own.icmp_gt H (pc := 203) 264 d1_203 (by decide) (by decide) (fun _ => ?_) (fun hc => absurd hc (by decide))
                                      refine Own.iload_n H (pc := 264) d1_264 rfl ?_
                                      refine Own.iconst H (pc := 265) (1) d1_265 rfl ?_
                                      refine Own.iload H (pc := 266) d1_266 rfl ?_
                                      refine Own.iadd_c H (pc := 268) (4) d1_268 (by decide) ?_
                                      refine Own.iadd H (pc := 269) d1_269 ?_
                                      refine Own.istore_n H (pc := 270) #[.val (.ref a), .val (.int f0), .val (.int t0), .val (.int (j + (4 : Int32))), .val (.int (own_u bs i)), .val (.int (3 : Int32)), .val (.int (128 : Int32)), .val (.int (191 : Int32)), .val (.int (4 : Int32)), .val (.int (own_u bs (i + 3)))] d1_270 rfl ?_
                                      refine Own.goto H (pc := 271) 2 d1_271 (by decide) (by decide) ?_
                                      exact ih (n - 4) (by omega) (i + 4) _ _ _ _ _ _ _ _ (by omega) (own_addn hj rfl (by omega)) (Or.inr ⟨_, rfl⟩) (Or.inr ⟨_, rfl⟩) (Or.inr ⟨_, rfl⟩) (Or.inr ⟨_, rfl⟩) (Or.inr ⟨_, rfl⟩) (Or.inr ⟨_, rfl⟩) ((own_next (by rw [G]; omega)).symm.trans hV) H
                                    · replace hk3_253 : 191 < ((own_u bs (i + 3))).toInt := own_lt.mp hk3_253
                                      refine Own.iconst H (pc := 256) (0) d1_256 rfl ?_
                                      exact Own.ret_nar H (pc := 257) (0) d1_257 rfl (by simp) (by decide) (by decide) (by decide) (⟨by rw [← hV, own_W0.mpr (G.mpr (by omega))], rfl⟩)
                                · replace hk2_253 : 191 < ((own_u bs (i + 2))).toInt := own_lt.mp hk2_253
                                  refine Own.iconst H (pc := 256) (0) d1_256 rfl ?_
                                  exact Own.ret_nar H (pc := 257) (0) d1_257 rfl (by simp) (by decide) (by decide) (by decide) (⟨by rw [← hV, own_W0.mpr (G.mpr (by omega))], rfl⟩)
                            · replace hk1_253 : 191 < ((own_u bs (i + 1))).toInt := own_lt.mp hk1_253
                              refine Own.iconst H (pc := 256) (0) d1_256 rfl ?_
                              exact Own.ret_nar H (pc := 257) (0) d1_257 rfl (by simp) (by decide) (by decide) (by decide) (⟨by rw [← hV, own_W0.mpr (G.mpr (by omega))], rfl⟩)
                        · replace hr : (n : Int) - 1 < 3 := hrem ▸ own_lt.mp hr
                          refine Own.iconst H (pc := 194) (0) d1_194 rfl ?_
                          exact Own.ret_nar H (pc := 195) (0) d1_195 rfl (by simp) (by decide) (by decide) (by decide) (⟨by rw [← hV, own_W0.mpr (G.mpr (by omega))], rfl⟩)
                    · replace hc127 : ((own_u bs i)).toInt = 240 := own_eqi.mp hc127
                      refine Own.iconst H (pc := 130) (3) d1_130 rfl ?_
                      refine Own.istore H (pc := 131) #[.val (.ref a), .val (.int f0), .val (.int t0), .val (.int j), .val (.int (own_u bs i)), .val (.int (3 : Int32)), .val (.int (128 : Int32)), .val (.int (191 : Int32)), o8, o9] d1_131 (by rcases h_o5 with q | ⟨x, q⟩ <;> subst q <;> rfl) ?_
                      refine Own.sipush H (pc := 133) (144) d1_133 rfl ?_
                      refine Own.istore H (pc := 136) #[.val (.ref a), .val (.int f0), .val (.int t0), .val (.int j), .val (.int (own_u bs i)), .val (.int (3 : Int32)), .val (.int (144 : Int32)), .val (.int (191 : Int32)), o8, o9] d1_136 rfl ?_
                      refine Own.goto H (pc := 138) 184 d1_138 (by decide) (by decide) ?_
                      refine Own.iload H (pc := 184) d1_184 rfl ?_
                      refine Own.iload_n H (pc := 186) d1_186 rfl ?_
                      refine Own.iload_n H (pc := 187) d1_187 rfl ?_
                      refine Own.isub H (pc := 188) d1_188 ?_
                      refine Own.iconst H (pc := 189) (1) d1_189 rfl ?_
                      refine Own.isub H (pc := 190) d1_190 ?_
                      have hrem : ((t0 - j) - (1 : Int32)).toInt = (n : Int) - 1 := by
                        have a1 := c_isub t0 j
                        have a2 := c_isub (t0 - j) 1
                        have r1 := rng32 (t0 - j)
                        have r2 := rng32 ((t0 - j) - 1)
                        have e1 : (1 : Int32).toInt = 1 := rfl
                        omega
                      refine Own.icmp_le H (pc := 191) 196 d1_191 (by decide) (by decide) (fun hr => ?_) (fun hr => ?_)
                      · replace hr : ¬ (n : Int) - 1 < 3 := fun q => hr (own_lt.mpr (hrem ▸ q))
                        refine Own.iconst H (pc := 196) (1) d1_196 rfl ?_
                        refine Own.istore H (pc := 197) #[.val (.ref a), .val (.int f0), .val (.int t0), .val (.int j), .val (.int (own_u bs i)), .val (.int (3 : Int32)), .val (.int (144 : Int32)), .val (.int (191 : Int32)), .val (.int (1 : Int32)), o9] d1_197 (by rcases h_o8 with q | ⟨x, q⟩ <;> subst q <;> rfl) ?_
                        refine Own.iload H (pc := 199) d1_199 rfl ?_
                        refine Own.iload H (pc := 201) d1_201 rfl ?_
                        refine Own.icmp_gt H (pc := 203) 264 d1_203 (by decide) (by decide) (fun hc => absurd hc (by decide)) (fun _ => ?_)
                        refine Own.aload_n H (pc := 206) d1_206 rfl rfl ?_
                        refine Own.iload_n H (pc := 207) d1_207 rfl ?_
                        refine Own.iload H (pc := 208) d1_208 rfl ?_
                        refine Own.iadd H (pc := 210) d1_210 ?_
                        refine Own.baload H (pc := 211) (v := (bs.getD (i + 1) 0)) (i + 1) d1_211 A (own_addn hj rfl (by omega)) (own_map (by omega)) ?_
                        refine Own.sipush H (pc := 212) (255) d1_212 rfl ?_
                        refine Own.iand H (pc := 215) d1_215 ?_
                        show OEnds _ _ _ _ _ _ _ _ _ (mkF _ 216 #[.val (.ref a), .val (.int f0), .val (.int t0), .val (.int j), .val (.int (own_u bs i)), .val (.int (3 : Int32)), .val (.int (144 : Int32)), .val (.int (191 : Int32)), .val (.int (1 : Int32)), o9] [(.int (own_u bs (i + 1)))])
                        have b1 := own_byte bs (i + 1)
                        refine Own.istore H (pc := 216) #[.val (.ref a), .val (.int f0), .val (.int t0), .val (.int j), .val (.int (own_u bs i)), .val (.int (3 : Int32)), .val (.int (144 : Int32)), .val (.int (191 : Int32)), .val (.int (1 : Int32)), .val (.int (own_u bs (i + 1)))] d1_216 (by rcases h_o9 with q | ⟨x, q⟩ <;> subst q <;> rfl) ?_
                        refine Own.iload H (pc := 218) d1_218 rfl ?_
                        refine Own.iload H (pc := 220) d1_220 rfl ?_
                        refine Own.iconst H (pc := 222) (1) d1_222 rfl ?_
                        refine Own.icmp_ne H (pc := 223) 231 d1_223 (by decide) (by decide) (fun hc => absurd hc (by decide)) (fun _ => ?_)
                        refine Own.iload H (pc := 226) d1_226 rfl ?_
                        refine Own.goto H (pc := 228) 234 d1_228 (by decide) (by decide) ?_
                        refine Own.icmp_lt H (pc := 234) 256 d1_234 (by decide) (by decide) (fun hk1_234 => ?_) (fun hk1_234 => ?_)
                        · replace hk1_234 : ((own_u bs (i + 1))).toInt < 144 := own_lt.mp hk1_234
                          refine Own.iconst H (pc := 256) (0) d1_256 rfl ?_
                          exact Own.ret_nar H (pc := 257) (0) d1_257 rfl (by simp) (by decide) (by decide) (by decide) (⟨by rw [← hV, own_W0.mpr (G.mpr (by omega))], rfl⟩)
                        · replace hk1_234 : ¬ ((own_u bs (i + 1))).toInt < 144 := fun q => hk1_234 (own_lt.mpr q)
                          refine Own.iload H (pc := 237) d1_237 rfl ?_
                          refine Own.iload H (pc := 239) d1_239 rfl ?_
                          refine Own.iconst H (pc := 241) (1) d1_241 rfl ?_
                          refine Own.icmp_ne H (pc := 242) 250 d1_242 (by decide) (by decide) (fun hc => absurd hc (by decide)) (fun _ => ?_)
                          refine Own.iload H (pc := 245) d1_245 rfl ?_
                          refine Own.goto H (pc := 247) 253 d1_247 (by decide) (by decide) ?_
                          refine Own.icmp_le H (pc := 253) 258 d1_253 (by decide) (by decide) (fun hk1_253 => ?_) (fun hk1_253 => ?_)
                          · replace hk1_253 : ¬ 191 < ((own_u bs (i + 1))).toInt := fun q => hk1_253 (own_lt.mpr q)
                            refine Own.iinc_c H (pc := 258) (2) #[.val (.ref a), .val (.int f0), .val (.int t0), .val (.int j), .val (.int (own_u bs i)), .val (.int (3 : Int32)), .val (.int (144 : Int32)), .val (.int (191 : Int32)), .val (.int (2 : Int32)), .val (.int (own_u bs (i + 1)))] d1_258 rfl (by decide) rfl ?_
                            refine Own.goto H (pc := 261) 199 d1_261 (by decide) (by decide) ?_
                            refine Own.iload H (pc := 199) d1_199 rfl ?_
                            refine Own.iload H (pc := 201) d1_201 rfl ?_
                            refine Own.icmp_gt H (pc := 203) 264 d1_203 (by decide) (by decide) (fun hc => absurd hc (by decide)) (fun _ => ?_)
                            refine Own.aload_n H (pc := 206) d1_206 rfl rfl ?_
                            refine Own.iload_n H (pc := 207) d1_207 rfl ?_
                            refine Own.iload H (pc := 208) d1_208 rfl ?_
                            refine Own.iadd H (pc := 210) d1_210 ?_
                            refine Own.baload H (pc := 211) (v := (bs.getD (i + 2) 0)) (i + 2) d1_211 A (own_addn hj rfl (by omega)) (own_map (by omega)) ?_
                            refine Own.sipush H (pc := 212) (255) d1_212 rfl ?_
                            refine Own.iand H (pc := 215) d1_215 ?_
                            show OEnds _ _ _ _ _ _ _ _ _ (mkF _ 216 #[.val (.ref a), .val (.int f0), .val (.int t0), .val (.int j), .val (.int (own_u bs i)), .val (.int (3 : Int32)), .val (.int (144 : Int32)), .val (.int (191 : Int32)), .val (.int (2 : Int32)), .val (.int (own_u bs (i + 1)))] [(.int (own_u bs (i + 2)))])
                            have b2 := own_byte bs (i + 2)
                            refine Own.istore H (pc := 216) #[.val (.ref a), .val (.int f0), .val (.int t0), .val (.int j), .val (.int (own_u bs i)), .val (.int (3 : Int32)), .val (.int (144 : Int32)), .val (.int (191 : Int32)), .val (.int (2 : Int32)), .val (.int (own_u bs (i + 2)))] d1_216 rfl ?_
                            refine Own.iload H (pc := 218) d1_218 rfl ?_
                            refine Own.iload H (pc := 220) d1_220 rfl ?_
                            refine Own.iconst H (pc := 222) (1) d1_222 rfl ?_
                            refine Own.icmp_ne H (pc := 223) 231 d1_223 (by decide) (by decide) (fun _ => ?_) (fun hc => absurd hc (by decide))
                            refine Own.sipush H (pc := 231) (128) d1_231 rfl ?_
                            refine Own.icmp_lt H (pc := 234) 256 d1_234 (by decide) (by decide) (fun hk2_234 => ?_) (fun hk2_234 => ?_)
                            · replace hk2_234 : ((own_u bs (i + 2))).toInt < 128 := own_lt.mp hk2_234
                              refine Own.iconst H (pc := 256) (0) d1_256 rfl ?_
                              exact Own.ret_nar H (pc := 257) (0) d1_257 rfl (by simp) (by decide) (by decide) (by decide) (⟨by rw [← hV, own_W0.mpr (G.mpr (by omega))], rfl⟩)
                            · replace hk2_234 : ¬ ((own_u bs (i + 2))).toInt < 128 := fun q => hk2_234 (own_lt.mpr q)
                              refine Own.iload H (pc := 237) d1_237 rfl ?_
                              refine Own.iload H (pc := 239) d1_239 rfl ?_
                              refine Own.iconst H (pc := 241) (1) d1_241 rfl ?_
                              refine Own.icmp_ne H (pc := 242) 250 d1_242 (by decide) (by decide) (fun _ => ?_) (fun hc => absurd hc (by decide))
                              refine Own.sipush H (pc := 250) (191) d1_250 rfl ?_
                              refine Own.icmp_le H (pc := 253) 258 d1_253 (by decide) (by decide) (fun hk2_253 => ?_) (fun hk2_253 => ?_)
                              · replace hk2_253 : ¬ 191 < ((own_u bs (i + 2))).toInt := fun q => hk2_253 (own_lt.mpr q)
                                refine Own.iinc_c H (pc := 258) (3) #[.val (.ref a), .val (.int f0), .val (.int t0), .val (.int j), .val (.int (own_u bs i)), .val (.int (3 : Int32)), .val (.int (144 : Int32)), .val (.int (191 : Int32)), .val (.int (3 : Int32)), .val (.int (own_u bs (i + 2)))] d1_258 rfl (by decide) rfl ?_
                                refine Own.goto H (pc := 261) 199 d1_261 (by decide) (by decide) ?_
                                refine Own.iload H (pc := 199) d1_199 rfl ?_
                                refine Own.iload H (pc := 201) d1_201 rfl ?_
                                refine Own.icmp_gt H (pc := 203) 264 d1_203 (by decide) (by decide) (fun hc => absurd hc (by decide)) (fun _ => ?_)
                                refine Own.aload_n H (pc := 206) d1_206 rfl rfl ?_
                                refine Own.iload_n H (pc := 207) d1_207 rfl ?_
                                refine Own.iload H (pc := 208) d1_208 rfl ?_
                                refine Own.iadd H (pc := 210) d1_210 ?_
                                refine Own.baload H (pc := 211) (v := (bs.getD (i + 3) 0)) (i + 3) d1_211 A (own_addn hj rfl (by omega)) (own_map (by omega)) ?_
                                refine Own.sipush H (pc := 212) (255) d1_212 rfl ?_
                                refine Own.iand H (pc := 215) d1_215 ?_
                                show OEnds _ _ _ _ _ _ _ _ _ (mkF _ 216 #[.val (.ref a), .val (.int f0), .val (.int t0), .val (.int j), .val (.int (own_u bs i)), .val (.int (3 : Int32)), .val (.int (144 : Int32)), .val (.int (191 : Int32)), .val (.int (3 : Int32)), .val (.int (own_u bs (i + 2)))] [(.int (own_u bs (i + 3)))])
                                have b3 := own_byte bs (i + 3)
                                refine Own.istore H (pc := 216) #[.val (.ref a), .val (.int f0), .val (.int t0), .val (.int j), .val (.int (own_u bs i)), .val (.int (3 : Int32)), .val (.int (144 : Int32)), .val (.int (191 : Int32)), .val (.int (3 : Int32)), .val (.int (own_u bs (i + 3)))] d1_216 rfl ?_
                                refine Own.iload H (pc := 218) d1_218 rfl ?_
                                refine Own.iload H (pc := 220) d1_220 rfl ?_
                                refine Own.iconst H (pc := 222) (1) d1_222 rfl ?_
                                refine Own.icmp_ne H (pc := 223) 231 d1_223 (by decide) (by decide) (fun _ => ?_) (fun hc => absurd hc (by decide))
                                refine Own.sipush H (pc := 231) (128) d1_231 rfl ?_
                                refine Own.icmp_lt H (pc := 234) 256 d1_234 (by decide) (by decide) (fun hk3_234 => ?_) (fun hk3_234 => ?_)
                                · replace hk3_234 : ((own_u bs (i + 3))).toInt < 128 := own_lt.mp hk3_234
                                  refine Own.iconst H (pc := 256) (0) d1_256 rfl ?_
                                  exact Own.ret_nar H (pc := 257) (0) d1_257 rfl (by simp) (by decide) (by decide) (by decide) (⟨by rw [← hV, own_W0.mpr (G.mpr (by omega))], rfl⟩)
                                · replace hk3_234 : ¬ ((own_u bs (i + 3))).toInt < 128 := fun q => hk3_234 (own_lt.mpr q)
                                  refine Own.iload H (pc := 237) d1_237 rfl ?_
                                  refine Own.iload H (pc := 239) d1_239 rfl ?_
                                  refine Own.iconst H (pc := 241) (1) d1_241 rfl ?_
                                  refine Own.icmp_ne H (pc := 242) 250 d1_242 (by decide) (by decide) (fun _ => ?_) (fun hc => absurd hc (by decide))
                                  refine Own.sipush H (pc := 250) (191) d1_250 rfl ?_
                                  refine Own.icmp_le H (pc := 253) 258 d1_253 (by decide) (by decide) (fun hk3_253 => ?_) (fun hk3_253 => ?_)
                                  · replace hk3_253 : ¬ 191 < ((own_u bs (i + 3))).toInt := fun q => hk3_253 (own_lt.mpr q)
                                    refine Own.iinc_c H (pc := 258) (4) #[.val (.ref a), .val (.int f0), .val (.int t0), .val (.int j), .val (.int (own_u bs i)), .val (.int (3 : Int32)), .val (.int (144 : Int32)), .val (.int (191 : Int32)), .val (.int (4 : Int32)), .val (.int (own_u bs (i + 3)))] d1_258 rfl (by decide) rfl ?_
                                    refine Own.goto H (pc := 261) 199 d1_261 (by decide) (by decide) ?_
                                    refine Own.iload H (pc := 199) d1_199 rfl ?_
                                    refine Own.iload H (pc := 201) d1_201 rfl ?_
                                    refine Own.icmp_gt H (pc := 203) 264 d1_203 (by decide) (by decide) (fun _ => ?_) (fun hc => absurd hc (by decide))
                                    refine Own.iload_n H (pc := 264) d1_264 rfl ?_
                                    refine Own.iconst H (pc := 265) (1) d1_265 rfl ?_
                                    refine Own.iload H (pc := 266) d1_266 rfl ?_
                                    refine Own.iadd_c H (pc := 268) (4) d1_268 (by decide) ?_
                                    refine Own.iadd H (pc := 269) d1_269 ?_
                                    refine Own.istore_n H (pc := 270) #[.val (.ref a), .val (.int f0), .val (.int t0), .val (.int (j + (4 : Int32))), .val (.int (own_u bs i)), .val (.int (3 : Int32)), .val (.int (144 : Int32)), .val (.int (191 : Int32)), .val (.int (4 : Int32)), .val (.int (own_u bs (i + 3)))] d1_270 rfl ?_
                                    refine Own.goto H (pc := 271) 2 d1_271 (by decide) (by decide) ?_
                                    exact ih (n - 4) (by omega) (i + 4) _ _ _ _ _ _ _ _ (by omega) (own_addn hj rfl (by omega)) (Or.inr ⟨_, rfl⟩) (Or.inr ⟨_, rfl⟩) (Or.inr ⟨_, rfl⟩) (Or.inr ⟨_, rfl⟩) (Or.inr ⟨_, rfl⟩) (Or.inr ⟨_, rfl⟩) ((own_next (by rw [G]; omega)).symm.trans hV) H
                                  · replace hk3_253 : 191 < ((own_u bs (i + 3))).toInt := own_lt.mp hk3_253
                                    refine Own.iconst H (pc := 256) (0) d1_256 rfl ?_
                                    exact Own.ret_nar H (pc := 257) (0) d1_257 rfl (by simp) (by decide) (by decide) (by decide) (⟨by rw [← hV, own_W0.mpr (G.mpr (by omega))], rfl⟩)
                              · replace hk2_253 : 191 < ((own_u bs (i + 2))).toInt := own_lt.mp hk2_253
                                refine Own.iconst H (pc := 256) (0) d1_256 rfl ?_
                                exact Own.ret_nar H (pc := 257) (0) d1_257 rfl (by simp) (by decide) (by decide) (by decide) (⟨by rw [← hV, own_W0.mpr (G.mpr (by omega))], rfl⟩)
                          · replace hk1_253 : 191 < ((own_u bs (i + 1))).toInt := own_lt.mp hk1_253
                            refine Own.iconst H (pc := 256) (0) d1_256 rfl ?_
                            exact Own.ret_nar H (pc := 257) (0) d1_257 rfl (by simp) (by decide) (by decide) (by decide) (⟨by rw [← hV, own_W0.mpr (G.mpr (by omega))], rfl⟩)
                      · replace hr : (n : Int) - 1 < 3 := hrem ▸ own_lt.mp hr
                        refine Own.iconst H (pc := 194) (0) d1_194 rfl ?_
                        exact Own.ret_nar H (pc := 195) (0) d1_195 rfl (by simp) (by decide) (by decide) (by decide) (⟨by rw [← hV, own_W0.mpr (G.mpr (by omega))], rfl⟩)
                  · replace hc113 : ¬ 239 < ((own_u bs i)).toInt := fun q => hc113 (own_lt.mpr q)
                    refine Own.iconst H (pc := 116) (2) d1_116 rfl ?_
                    refine Own.istore H (pc := 117) #[.val (.ref a), .val (.int f0), .val (.int t0), .val (.int j), .val (.int (own_u bs i)), .val (.int (2 : Int32)), .val (.int (128 : Int32)), .val (.int (191 : Int32)), o8, o9] d1_117 (by rcases h_o5 with q | ⟨x, q⟩ <;> subst q <;> rfl) ?_
                    refine Own.goto H (pc := 119) 184 d1_119 (by decide) (by decide) ?_
                    refine Own.iload H (pc := 184) d1_184 rfl ?_
                    refine Own.iload_n H (pc := 186) d1_186 rfl ?_
                    refine Own.iload_n H (pc := 187) d1_187 rfl ?_
                    refine Own.isub H (pc := 188) d1_188 ?_
                    refine Own.iconst H (pc := 189) (1) d1_189 rfl ?_
                    refine Own.isub H (pc := 190) d1_190 ?_
                    have hrem : ((t0 - j) - (1 : Int32)).toInt = (n : Int) - 1 := by
                      have a1 := c_isub t0 j
                      have a2 := c_isub (t0 - j) 1
                      have r1 := rng32 (t0 - j)
                      have r2 := rng32 ((t0 - j) - 1)
                      have e1 : (1 : Int32).toInt = 1 := rfl
                      omega
                    refine Own.icmp_le H (pc := 191) 196 d1_191 (by decide) (by decide) (fun hr => ?_) (fun hr => ?_)
                    · replace hr : ¬ (n : Int) - 1 < 2 := fun q => hr (own_lt.mpr (hrem ▸ q))
                      refine Own.iconst H (pc := 196) (1) d1_196 rfl ?_
                      refine Own.istore H (pc := 197) #[.val (.ref a), .val (.int f0), .val (.int t0), .val (.int j), .val (.int (own_u bs i)), .val (.int (2 : Int32)), .val (.int (128 : Int32)), .val (.int (191 : Int32)), .val (.int (1 : Int32)), o9] d1_197 (by rcases h_o8 with q | ⟨x, q⟩ <;> subst q <;> rfl) ?_
                      refine Own.iload H (pc := 199) d1_199 rfl ?_
                      refine Own.iload H (pc := 201) d1_201 rfl ?_
                      refine Own.icmp_gt H (pc := 203) 264 d1_203 (by decide) (by decide) (fun hc => absurd hc (by decide)) (fun _ => ?_)
                      refine Own.aload_n H (pc := 206) d1_206 rfl rfl ?_
                      refine Own.iload_n H (pc := 207) d1_207 rfl ?_
                      refine Own.iload H (pc := 208) d1_208 rfl ?_
                      refine Own.iadd H (pc := 210) d1_210 ?_
                      refine Own.baload H (pc := 211) (v := (bs.getD (i + 1) 0)) (i + 1) d1_211 A (own_addn hj rfl (by omega)) (own_map (by omega)) ?_
                      refine Own.sipush H (pc := 212) (255) d1_212 rfl ?_
                      refine Own.iand H (pc := 215) d1_215 ?_
                      show OEnds _ _ _ _ _ _ _ _ _ (mkF _ 216 #[.val (.ref a), .val (.int f0), .val (.int t0), .val (.int j), .val (.int (own_u bs i)), .val (.int (2 : Int32)), .val (.int (128 : Int32)), .val (.int (191 : Int32)), .val (.int (1 : Int32)), o9] [(.int (own_u bs (i + 1)))])
                      have b1 := own_byte bs (i + 1)
                      refine Own.istore H (pc := 216) #[.val (.ref a), .val (.int f0), .val (.int t0), .val (.int j), .val (.int (own_u bs i)), .val (.int (2 : Int32)), .val (.int (128 : Int32)), .val (.int (191 : Int32)), .val (.int (1 : Int32)), .val (.int (own_u bs (i + 1)))] d1_216 (by rcases h_o9 with q | ⟨x, q⟩ <;> subst q <;> rfl) ?_
                      refine Own.iload H (pc := 218) d1_218 rfl ?_
                      refine Own.iload H (pc := 220) d1_220 rfl ?_
                      refine Own.iconst H (pc := 222) (1) d1_222 rfl ?_
                      refine Own.icmp_ne H (pc := 223) 231 d1_223 (by decide) (by decide) (fun hc => absurd hc (by decide)) (fun _ => ?_)
                      refine Own.iload H (pc := 226) d1_226 rfl ?_
                      refine Own.goto H (pc := 228) 234 d1_228 (by decide) (by decide) ?_
                      refine Own.icmp_lt H (pc := 234) 256 d1_234 (by decide) (by decide) (fun hk1_234 => ?_) (fun hk1_234 => ?_)
                      · replace hk1_234 : ((own_u bs (i + 1))).toInt < 128 := own_lt.mp hk1_234
                        refine Own.iconst H (pc := 256) (0) d1_256 rfl ?_
                        exact Own.ret_nar H (pc := 257) (0) d1_257 rfl (by simp) (by decide) (by decide) (by decide) (⟨by rw [← hV, own_W0.mpr (G.mpr (by omega))], rfl⟩)
                      · replace hk1_234 : ¬ ((own_u bs (i + 1))).toInt < 128 := fun q => hk1_234 (own_lt.mpr q)
                        refine Own.iload H (pc := 237) d1_237 rfl ?_
                        refine Own.iload H (pc := 239) d1_239 rfl ?_
                        refine Own.iconst H (pc := 241) (1) d1_241 rfl ?_
                        refine Own.icmp_ne H (pc := 242) 250 d1_242 (by decide) (by decide) (fun hc => absurd hc (by decide)) (fun _ => ?_)
                        refine Own.iload H (pc := 245) d1_245 rfl ?_
                        refine Own.goto H (pc := 247) 253 d1_247 (by decide) (by decide) ?_
                        refine Own.icmp_le H (pc := 253) 258 d1_253 (by decide) (by decide) (fun hk1_253 => ?_) (fun hk1_253 => ?_)
                        · replace hk1_253 : ¬ 191 < ((own_u bs (i + 1))).toInt := fun q => hk1_253 (own_lt.mpr q)
                          refine Own.iinc_c H (pc := 258) (2) #[.val (.ref a), .val (.int f0), .val (.int t0), .val (.int j), .val (.int (own_u bs i)), .val (.int (2 : Int32)), .val (.int (128 : Int32)), .val (.int (191 : Int32)), .val (.int (2 : Int32)), .val (.int (own_u bs (i + 1)))] d1_258 rfl (by decide) rfl ?_
                          refine Own.goto H (pc := 261) 199 d1_261 (by decide) (by decide) ?_
                          refine Own.iload H (pc := 199) d1_199 rfl ?_
                          refine Own.iload H (pc := 201) d1_201 rfl ?_
                          refine Own.icmp_gt H (pc := 203) 264 d1_203 (by decide) (by decide) (fun hc => absurd hc (by decide)) (fun _ => ?_)
                          refine Own.aload_n H (pc := 206) d1_206 rfl rfl ?_
                          refine Own.iload_n H (pc := 207) d1_207 rfl ?_
                          refine Own.iload H (pc := 208) d1_208 rfl ?_
                          refine Own.iadd H (pc := 210) d1_210 ?_
                          refine Own.baload H (pc := 211) (v := (bs.getD (i + 2) 0)) (i + 2) d1_211 A (own_addn hj rfl (by omega)) (own_map (by omega)) ?_
                          refine Own.sipush H (pc := 212) (255) d1_212 rfl ?_
                          refine Own.iand H (pc := 215) d1_215 ?_
                          show OEnds _ _ _ _ _ _ _ _ _ (mkF _ 216 #[.val (.ref a), .val (.int f0), .val (.int t0), .val (.int j), .val (.int (own_u bs i)), .val (.int (2 : Int32)), .val (.int (128 : Int32)), .val (.int (191 : Int32)), .val (.int (2 : Int32)), .val (.int (own_u bs (i + 1)))] [(.int (own_u bs (i + 2)))])
                          have b2 := own_byte bs (i + 2)
                          refine Own.istore H (pc := 216) #[.val (.ref a), .val (.int f0), .val (.int t0), .val (.int j), .val (.int (own_u bs i)), .val (.int (2 : Int32)), .val (.int (128 : Int32)), .val (.int (191 : Int32)), .val (.int (2 : Int32)), .val (.int (own_u bs (i + 2)))] d1_216 rfl ?_
                          refine Own.iload H (pc := 218) d1_218 rfl ?_
                          refine Own.iload H (pc := 220) d1_220 rfl ?_
                          refine Own.iconst H (pc := 222) (1) d1_222 rfl ?_
                          refine Own.icmp_ne H (pc := 223) 231 d1_223 (by decide) (by decide) (fun _ => ?_) (fun hc => absurd hc (by decide))
                          refine Own.sipush H (pc := 231) (128) d1_231 rfl ?_
                          refine Own.icmp_lt H (pc := 234) 256 d1_234 (by decide) (by decide) (fun hk2_234 => ?_) (fun hk2_234 => ?_)
                          · replace hk2_234 : ((own_u bs (i + 2))).toInt < 128 := own_lt.mp hk2_234
                            refine Own.iconst H (pc := 256) (0) d1_256 rfl ?_
                            exact Own.ret_nar H (pc := 257) (0) d1_257 rfl (by simp) (by decide) (by decide) (by decide) (⟨by rw [← hV, own_W0.mpr (G.mpr (by omega))], rfl⟩)
                          · replace hk2_234 : ¬ ((own_u bs (i + 2))).toInt < 128 := fun q => hk2_234 (own_lt.mpr q)
                            refine Own.iload H (pc := 237) d1_237 rfl ?_
                            refine Own.iload H (pc := 239) d1_239 rfl ?_
                            refine Own.iconst H (pc := 241) (1) d1_241 rfl ?_
                            refine Own.icmp_ne H (pc := 242) 250 d1_242 (by decide) (by decide) (fun _ => ?_) (fun hc => absurd hc (by decide))
                            refine Own.sipush H (pc := 250) (191) d1_250 rfl ?_
                            refine Own.icmp_le H (pc := 253) 258 d1_253 (by decide) (by decide) (fun hk2_253 => ?_) (fun hk2_253 => ?_)
                            · replace hk2_253 : ¬ 191 < ((own_u bs (i + 2))).toInt := fun q => hk2_253 (own_lt.mpr q)
                              refine Own.iinc_c H (pc := 258) (3) #[.val (.ref a), .val (.int f0), .val (.int t0), .val (.int j), .val (.int (own_u bs i)), .val (.int (2 : Int32)), .val (.int (128 : Int32)), .val (.int (191 : Int32)), .val (.int (3 : Int32)), .val (.int (own_u bs (i + 2)))] d1_258 rfl (by decide) rfl ?_
                              refine Own.goto H (pc := 261) 199 d1_261 (by decide) (by decide) ?_
                              refine Own.iload H (pc := 199) d1_199 rfl ?_
                              refine Own.iload H (pc := 201) d1_201 rfl ?_
                              refine Own.icmp_gt H (pc := 203) 264 d1_203 (by decide) (by decide) (fun _ => ?_) (fun hc => absurd hc (by decide))
                              refine Own.iload_n H (pc := 264) d1_264 rfl ?_
                              refine Own.iconst H (pc := 265) (1) d1_265 rfl ?_
                              refine Own.iload H (pc := 266) d1_266 rfl ?_
                              refine Own.iadd_c H (pc := 268) (3) d1_268 (by decide) ?_
                              refine Own.iadd H (pc := 269) d1_269 ?_
                              refine Own.istore_n H (pc := 270) #[.val (.ref a), .val (.int f0), .val (.int t0), .val (.int (j + (3 : Int32))), .val (.int (own_u bs i)), .val (.int (2 : Int32)), .val (.int (128 : Int32)), .val (.int (191 : Int32)), .val (.int (3 : Int32)), .val (.int (own_u bs (i + 2)))] d1_270 rfl ?_
                              refine Own.goto H (pc := 271) 2 d1_271 (by decide) (by decide) ?_
                              exact ih (n - 3) (by omega) (i + 3) _ _ _ _ _ _ _ _ (by omega) (own_addn hj rfl (by omega)) (Or.inr ⟨_, rfl⟩) (Or.inr ⟨_, rfl⟩) (Or.inr ⟨_, rfl⟩) (Or.inr ⟨_, rfl⟩) (Or.inr ⟨_, rfl⟩) (Or.inr ⟨_, rfl⟩) ((own_next (by rw [G]; omega)).symm.trans hV) H
                            · replace hk2_253 : 191 < ((own_u bs (i + 2))).toInt := own_lt.mp hk2_253
                              refine Own.iconst H (pc := 256) (0) d1_256 rfl ?_
                              exact Own.ret_nar H (pc := 257) (0) d1_257 rfl (by simp) (by decide) (by decide) (by decide) (⟨by rw [← hV, own_W0.mpr (G.mpr (by omega))], rfl⟩)
                        · replace hk1_253 : 191 < ((own_u bs (i + 1))).toInt := own_lt.mp hk1_253
                          refine Own.iconst H (pc := 256) (0) d1_256 rfl ?_
                          exact Own.ret_nar H (pc := 257) (0) d1_257 rfl (by simp) (by decide) (by decide) (by decide) (⟨by rw [← hV, own_W0.mpr (G.mpr (by omega))], rfl⟩)
                    · replace hr : (n : Int) - 1 < 2 := hrem ▸ own_lt.mp hr
                      refine Own.iconst H (pc := 194) (0) d1_194 rfl ?_
                      exact Own.ret_nar H (pc := 195) (0) d1_195 rfl (by simp) (by decide) (by decide) (by decide) (⟨by rw [← hV, own_W0.mpr (G.mpr (by omega))], rfl⟩)
                · replace hc86 : ((own_u bs i)).toInt = 237 := own_eqi.mp hc86
                  refine Own.iconst H (pc := 89) (2) d1_89 rfl ?_
                  refine Own.istore H (pc := 90) #[.val (.ref a), .val (.int f0), .val (.int t0), .val (.int j), .val (.int (own_u bs i)), .val (.int (2 : Int32)), .val (.int (128 : Int32)), .val (.int (191 : Int32)), o8, o9] d1_90 (by rcases h_o5 with q | ⟨x, q⟩ <;> subst q <;> rfl) ?_
                  refine Own.sipush H (pc := 92) (159) d1_92 rfl ?_
                  refine Own.istore H (pc := 95) #[.val (.ref a), .val (.int f0), .val (.int t0), .val (.int j), .val (.int (own_u bs i)), .val (.int (2 : Int32)), .val (.int (128 : Int32)), .val (.int (159 : Int32)), o8, o9] d1_95 rfl ?_
                  refine Own.goto H (pc := 97) 184 d1_97 (by decide) (by decide) ?_
                  refine Own.iload H (pc := 184) d1_184 rfl ?_
                  refine Own.iload_n H (pc := 186) d1_186 rfl ?_
                  refine Own.iload_n H (pc := 187) d1_187 rfl ?_
                  refine Own.isub H (pc := 188) d1_188 ?_
                  refine Own.iconst H (pc := 189) (1) d1_189 rfl ?_
                  refine Own.isub H (pc := 190) d1_190 ?_
                  have hrem : ((t0 - j) - (1 : Int32)).toInt = (n : Int) - 1 := by
                    have a1 := c_isub t0 j
                    have a2 := c_isub (t0 - j) 1
                    have r1 := rng32 (t0 - j)
                    have r2 := rng32 ((t0 - j) - 1)
                    have e1 : (1 : Int32).toInt = 1 := rfl
                    omega
                  refine Own.icmp_le H (pc := 191) 196 d1_191 (by decide) (by decide) (fun hr => ?_) (fun hr => ?_)
                  · replace hr : ¬ (n : Int) - 1 < 2 := fun q => hr (own_lt.mpr (hrem ▸ q))
                    refine Own.iconst H (pc := 196) (1) d1_196 rfl ?_
                    refine Own.istore H (pc := 197) #[.val (.ref a), .val (.int f0), .val (.int t0), .val (.int j), .val (.int (own_u bs i)), .val (.int (2 : Int32)), .val (.int (128 : Int32)), .val (.int (159 : Int32)), .val (.int (1 : Int32)), o9] d1_197 (by rcases h_o8 with q | ⟨x, q⟩ <;> subst q <;> rfl) ?_
                    refine Own.iload H (pc := 199) d1_199 rfl ?_
                    refine Own.iload H (pc := 201) d1_201 rfl ?_
                    refine Own.icmp_gt H (pc := 203) 264 d1_203 (by decide) (by decide) (fun hc => absurd hc (by decide)) (fun _ => ?_)
                    refine Own.aload_n H (pc := 206) d1_206 rfl rfl ?_
                    refine Own.iload_n H (pc := 207) d1_207 rfl ?_
                    refine Own.iload H (pc := 208) d1_208 rfl ?_
                    refine Own.iadd H (pc := 210) d1_210 ?_
                    refine Own.baload H (pc := 211) (v := (bs.getD (i + 1) 0)) (i + 1) d1_211 A (own_addn hj rfl (by omega)) (own_map (by omega)) ?_
                    refine Own.sipush H (pc := 212) (255) d1_212 rfl ?_
                    refine Own.iand H (pc := 215) d1_215 ?_
                    show OEnds _ _ _ _ _ _ _ _ _ (mkF _ 216 #[.val (.ref a), .val (.int f0), .val (.int t0), .val (.int j), .val (.int (own_u bs i)), .val (.int (2 : Int32)), .val (.int (128 : Int32)), .val (.int (159 : Int32)), .val (.int (1 : Int32)), o9] [(.int (own_u bs (i + 1)))])
                    have b1 := own_byte bs (i + 1)
                    refine Own.istore H (pc := 216) #[.val (.ref a), .val (.int f0), .val (.int t0), .val (.int j), .val (.int (own_u bs i)), .val (.int (2 : Int32)), .val (.int (128 : Int32)), .val (.int (159 : Int32)), .val (.int (1 : Int32)), .val (.int (own_u bs (i + 1)))] d1_216 (by rcases h_o9 with q | ⟨x, q⟩ <;> subst q <;> rfl) ?_
                    refine Own.iload H (pc := 218) d1_218 rfl ?_
                    refine Own.iload H (pc := 220) d1_220 rfl ?_
                    refine Own.iconst H (pc := 222) (1) d1_222 rfl ?_
                    refine Own.icmp_ne H (pc := 223) 231 d1_223 (by decide) (by decide) (fun hc => absurd hc (by decide)) (fun _ => ?_)
                    refine Own.iload H (pc := 226) d1_226 rfl ?_
                    refine Own.goto H (pc := 228) 234 d1_228 (by decide) (by decide) ?_
                    refine Own.icmp_lt H (pc := 234) 256 d1_234 (by decide) (by decide) (fun hk1_234 => ?_) (fun hk1_234 => ?_)
                    · replace hk1_234 : ((own_u bs (i + 1))).toInt < 128 := own_lt.mp hk1_234
                      refine Own.iconst H (pc := 256) (0) d1_256 rfl ?_
                      exact Own.ret_nar H (pc := 257) (0) d1_257 rfl (by simp) (by decide) (by decide) (by decide) (⟨by rw [← hV, own_W0.mpr (G.mpr (by omega))], rfl⟩)
                    · replace hk1_234 : ¬ ((own_u bs (i + 1))).toInt < 128 := fun q => hk1_234 (own_lt.mpr q)
                      refine Own.iload H (pc := 237) d1_237 rfl ?_
                      refine Own.iload H (pc := 239) d1_239 rfl ?_
                      refine Own.iconst H (pc := 241) (1) d1_241 rfl ?_
                      refine Own.icmp_ne H (pc := 242) 250 d1_242 (by decide) (by decide) (fun hc => absurd hc (by decide)) (fun _ => ?_)
                      refine Own.iload H (pc := 245) d1_245 rfl ?_
                      refine Own.goto H (pc := 247) 253 d1_247 (by decide) (by decide) ?_
                      refine Own.icmp_le H (pc := 253) 258 d1_253 (by decide) (by decide) (fun hk1_253 => ?_) (fun hk1_253 => ?_)
                      · replace hk1_253 : ¬ 159 < ((own_u bs (i + 1))).toInt := fun q => hk1_253 (own_lt.mpr q)
                        refine Own.iinc_c H (pc := 258) (2) #[.val (.ref a), .val (.int f0), .val (.int t0), .val (.int j), .val (.int (own_u bs i)), .val (.int (2 : Int32)), .val (.int (128 : Int32)), .val (.int (159 : Int32)), .val (.int (2 : Int32)), .val (.int (own_u bs (i + 1)))] d1_258 rfl (by decide) rfl ?_
                        refine Own.goto H (pc := 261) 199 d1_261 (by decide) (by decide) ?_
                        refine Own.iload H (pc := 199) d1_199 rfl ?_
                        refine Own.iload H (pc := 201) d1_201 rfl ?_
                        refine Own.icmp_gt H (pc := 203) 264 d1_203 (by decide) (by decide) (fun hc => absurd hc (by decide)) (fun _ => ?_)
                        refine Own.aload_n H (pc := 206) d1_206 rfl rfl ?_
                        refine Own.iload_n H (pc := 207) d1_207 rfl ?_
                        refine Own.iload H (pc := 208) d1_208 rfl ?_
                        refine Own.iadd H (pc := 210) d1_210 ?_
                        refine Own.baload H (pc := 211) (v := (bs.getD (i + 2) 0)) (i + 2) d1_211 A (own_addn hj rfl (by omega)) (own_map (by omega)) ?_
                        refine Own.sipush H (pc := 212) (255) d1_212 rfl ?_
                        refine Own.iand H (pc := 215) d1_215 ?_
                        show OEnds _ _ _ _ _ _ _ _ _ (mkF _ 216 #[.val (.ref a), .val (.int f0), .val (.int t0), .val (.int j), .val (.int (own_u bs i)), .val (.int (2 : Int32)), .val (.int (128 : Int32)), .val (.int (159 : Int32)), .val (.int (2 : Int32)), .val (.int (own_u bs (i + 1)))] [(.int (own_u bs (i + 2)))])
                        have b2 := own_byte bs (i + 2)
                        refine Own.istore H (pc := 216) #[.val (.ref a), .val (.int f0), .val (.int t0), .val (.int j), .val (.int (own_u bs i)), .val (.int (2 : Int32)), .val (.int (128 : Int32)), .val (.int (159 : Int32)), .val (.int (2 : Int32)), .val (.int (own_u bs (i + 2)))] d1_216 rfl ?_
                        refine Own.iload H (pc := 218) d1_218 rfl ?_
                        refine Own.iload H (pc := 220) d1_220 rfl ?_
                        refine Own.iconst H (pc := 222) (1) d1_222 rfl ?_
                        refine Own.icmp_ne H (pc := 223) 231 d1_223 (by decide) (by decide) (fun _ => ?_) (fun hc => absurd hc (by decide))
                        refine Own.sipush H (pc := 231) (128) d1_231 rfl ?_
                        refine Own.icmp_lt H (pc := 234) 256 d1_234 (by decide) (by decide) (fun hk2_234 => ?_) (fun hk2_234 => ?_)
                        · replace hk2_234 : ((own_u bs (i + 2))).toInt < 128 := own_lt.mp hk2_234
                          refine Own.iconst H (pc := 256) (0) d1_256 rfl ?_
                          exact Own.ret_nar H (pc := 257) (0) d1_257 rfl (by simp) (by decide) (by decide) (by decide) (⟨by rw [← hV, own_W0.mpr (G.mpr (by omega))], rfl⟩)
                        · replace hk2_234 : ¬ ((own_u bs (i + 2))).toInt < 128 := fun q => hk2_234 (own_lt.mpr q)
                          refine Own.iload H (pc := 237) d1_237 rfl ?_
                          refine Own.iload H (pc := 239) d1_239 rfl ?_
                          refine Own.iconst H (pc := 241) (1) d1_241 rfl ?_
                          refine Own.icmp_ne H (pc := 242) 250 d1_242 (by decide) (by decide) (fun _ => ?_) (fun hc => absurd hc (by decide))
                          refine Own.sipush H (pc := 250) (191) d1_250 rfl ?_
                          refine Own.icmp_le H (pc := 253) 258 d1_253 (by decide) (by decide) (fun hk2_253 => ?_) (fun hk2_253 => ?_)
                          · replace hk2_253 : ¬ 191 < ((own_u bs (i + 2))).toInt := fun q => hk2_253 (own_lt.mpr q)
                            refine Own.iinc_c H (pc := 258) (3) #[.val (.ref a), .val (.int f0), .val (.int t0), .val (.int j), .val (.int (own_u bs i)), .val (.int (2 : Int32)), .val (.int (128 : Int32)), .val (.int (159 : Int32)), .val (.int (3 : Int32)), .val (.int (own_u bs (i + 2)))] d1_258 rfl (by decide) rfl ?_
                            refine Own.goto H (pc := 261) 199 d1_261 (by decide) (by decide) ?_
                            refine Own.iload H (pc := 199) d1_199 rfl ?_
                            refine Own.iload H (pc := 201) d1_201 rfl ?_
                            refine Own.icmp_gt H (pc := 203) 264 d1_203 (by decide) (by decide) (fun _ => ?_) (fun hc => absurd hc (by decide))
                            refine Own.iload_n H (pc := 264) d1_264 rfl ?_
                            refine Own.iconst H (pc := 265) (1) d1_265 rfl ?_
                            refine Own.iload H (pc := 266) d1_266 rfl ?_
                            refine Own.iadd_c H (pc := 268) (3) d1_268 (by decide) ?_
                            refine Own.iadd H (pc := 269) d1_269 ?_
                            refine Own.istore_n H (pc := 270) #[.val (.ref a), .val (.int f0), .val (.int t0), .val (.int (j + (3 : Int32))), .val (.int (own_u bs i)), .val (.int (2 : Int32)), .val (.int (128 : Int32)), .val (.int (159 : Int32)), .val (.int (3 : Int32)), .val (.int (own_u bs (i + 2)))] d1_270 rfl ?_
                            refine Own.goto H (pc := 271) 2 d1_271 (by decide) (by decide) ?_
                            exact ih (n - 3) (by omega) (i + 3) _ _ _ _ _ _ _ _ (by omega) (own_addn hj rfl (by omega)) (Or.inr ⟨_, rfl⟩) (Or.inr ⟨_, rfl⟩) (Or.inr ⟨_, rfl⟩) (Or.inr ⟨_, rfl⟩) (Or.inr ⟨_, rfl⟩) (Or.inr ⟨_, rfl⟩) ((own_next (by rw [G]; omega)).symm.trans hV) H
                          · replace hk2_253 : 191 < ((own_u bs (i + 2))).toInt := own_lt.mp hk2_253
                            refine Own.iconst H (pc := 256) (0) d1_256 rfl ?_
                            exact Own.ret_nar H (pc := 257) (0) d1_257 rfl (by simp) (by decide) (by decide) (by decide) (⟨by rw [← hV, own_W0.mpr (G.mpr (by omega))], rfl⟩)
                      · replace hk1_253 : 159 < ((own_u bs (i + 1))).toInt := own_lt.mp hk1_253
                        refine Own.iconst H (pc := 256) (0) d1_256 rfl ?_
                        exact Own.ret_nar H (pc := 257) (0) d1_257 rfl (by simp) (by decide) (by decide) (by decide) (⟨by rw [← hV, own_W0.mpr (G.mpr (by omega))], rfl⟩)
                  · replace hr : (n : Int) - 1 < 2 := hrem ▸ own_lt.mp hr
                    refine Own.iconst H (pc := 194) (0) d1_194 rfl ?_
                    exact Own.ret_nar H (pc := 195) (0) d1_195 rfl (by simp) (by decide) (by decide) (by decide) (⟨by rw [← hV, own_W0.mpr (G.mpr (by omega))], rfl⟩)
              · replace hc67 : ((own_u bs i)).toInt = 224 := own_eqi.mp hc67
                refine Own.iconst H (pc := 70) (2) d1_70 rfl ?_
                refine Own.istore H (pc := 71) #[.val (.ref a), .val (.int f0), .val (.int t0), .val (.int j), .val (.int (own_u bs i)), .val (.int (2 : Int32)), .val (.int (128 : Int32)), .val (.int (191 : Int32)), o8, o9] d1_71 (by rcases h_o5 with q | ⟨x, q⟩ <;> subst q <;> rfl) ?_
                refine Own.sipush H (pc := 73) (160) d1_73 rfl ?_
                refine Own.istore H (pc := 76) #[.val (.ref a), .val (.int f0), .val (.int t0), .val (.int j), .val (.int (own_u bs i)), .val (.int (2 : Int32)), .val (.int (160 : Int32)), .val (.int (191 : Int32)), o8, o9] d1_76 rfl ?_
                refine Own.goto H (pc := 78) 184 d1_78 (by decide) (by decide) ?_
                refine Own.iload H (pc := 184) d1_184 rfl ?_
                refine Own.iload_n H (pc := 186) d1_186 rfl ?_
                refine Own.iload_n H (pc := 187) d1_187 rfl ?_
                refine Own.isub H (pc := 188) d1_188 ?_
                refine Own.iconst H (pc := 189) (1) d1_189 rfl ?_
                refine Own.isub H (pc := 190) d1_190 ?_
                have hrem : ((t0 - j) - (1 : Int32)).toInt = (n : Int) - 1 := by
                  have a1 := c_isub t0 j
                  have a2 := c_isub (t0 - j) 1
                  have r1 := rng32 (t0 - j)
                  have r2 := rng32 ((t0 - j) - 1)
                  have e1 : (1 : Int32).toInt = 1 := rfl
                  omega
                refine Own.icmp_le H (pc := 191) 196 d1_191 (by decide) (by decide) (fun hr => ?_) (fun hr => ?_)
                · replace hr : ¬ (n : Int) - 1 < 2 := fun q => hr (own_lt.mpr (hrem ▸ q))
                  refine Own.iconst H (pc := 196) (1) d1_196 rfl ?_
                  refine Own.istore H (pc := 197) #[.val (.ref a), .val (.int f0), .val (.int t0), .val (.int j), .val (.int (own_u bs i)), .val (.int (2 : Int32)), .val (.int (160 : Int32)), .val (.int (191 : Int32)), .val (.int (1 : Int32)), o9] d1_197 (by rcases h_o8 with q | ⟨x, q⟩ <;> subst q <;> rfl) ?_
                  refine Own.iload H (pc := 199) d1_199 rfl ?_
                  refine Own.iload H (pc := 201) d1_201 rfl ?_
                  refine Own.icmp_gt H (pc := 203) 264 d1_203 (by decide) (by decide) (fun hc => absurd hc (by decide)) (fun _ => ?_)
                  refine Own.aload_n H (pc := 206) d1_206 rfl rfl ?_
                  refine Own.iload_n H (pc := 207) d1_207 rfl ?_
                  refine Own.iload H (pc := 208) d1_208 rfl ?_
                  refine Own.iadd H (pc := 210) d1_210 ?_
                  refine Own.baload H (pc := 211) (v := (bs.getD (i + 1) 0)) (i + 1) d1_211 A (own_addn hj rfl (by omega)) (own_map (by omega)) ?_
                  refine Own.sipush H (pc := 212) (255) d1_212 rfl ?_
                  refine Own.iand H (pc := 215) d1_215 ?_
                  show OEnds _ _ _ _ _ _ _ _ _ (mkF _ 216 #[.val (.ref a), .val (.int f0), .val (.int t0), .val (.int j), .val (.int (own_u bs i)), .val (.int (2 : Int32)), .val (.int (160 : Int32)), .val (.int (191 : Int32)), .val (.int (1 : Int32)), o9] [(.int (own_u bs (i + 1)))])
                  have b1 := own_byte bs (i + 1)
                  refine Own.istore H (pc := 216) #[.val (.ref a), .val (.int f0), .val (.int t0), .val (.int j), .val (.int (own_u bs i)), .val (.int (2 : Int32)), .val (.int (160 : Int32)), .val (.int (191 : Int32)), .val (.int (1 : Int32)), .val (.int (own_u bs (i + 1)))] d1_216 (by rcases h_o9 with q | ⟨x, q⟩ <;> subst q <;> rfl) ?_
                  refine Own.iload H (pc := 218) d1_218 rfl ?_
                  refine Own.iload H (pc := 220) d1_220 rfl ?_
                  refine Own.iconst H (pc := 222) (1) d1_222 rfl ?_
                  refine Own.icmp_ne H (pc := 223) 231 d1_223 (by decide) (by decide) (fun hc => absurd hc (by decide)) (fun _ => ?_)
                  refine Own.iload H (pc := 226) d1_226 rfl ?_
                  refine Own.goto H (pc := 228) 234 d1_228 (by decide) (by decide) ?_
                  refine Own.icmp_lt H (pc := 234) 256 d1_234 (by decide) (by decide) (fun hk1_234 => ?_) (fun hk1_234 => ?_)
                  · replace hk1_234 : ((own_u bs (i + 1))).toInt < 160 := own_lt.mp hk1_234
                    refine Own.iconst H (pc := 256) (0) d1_256 rfl ?_
                    exact Own.ret_nar H (pc := 257) (0) d1_257 rfl (by simp) (by decide) (by decide) (by decide) (⟨by rw [← hV, own_W0.mpr (G.mpr (by omega))], rfl⟩)
                  · replace hk1_234 : ¬ ((own_u bs (i + 1))).toInt < 160 := fun q => hk1_234 (own_lt.mpr q)
                    refine Own.iload H (pc := 237) d1_237 rfl ?_
                    refine Own.iload H (pc := 239) d1_239 rfl ?_
                    refine Own.iconst H (pc := 241) (1) d1_241 rfl ?_
                    refine Own.icmp_ne H (pc := 242) 250 d1_242 (by decide) (by decide) (fun hc => absurd hc (by decide)) (fun _ => ?_)
                    refine Own.iload H (pc := 245) d1_245 rfl ?_
                    refine Own.goto H (pc := 247) 253 d1_247 (by decide) (by decide) ?_
                    refine Own.icmp_le H (pc := 253) 258 d1_253 (by decide) (by decide) (fun hk1_253 => ?_) (fun hk1_253 => ?_)
                    · replace hk1_253 : ¬ 191 < ((own_u bs (i + 1))).toInt := fun q => hk1_253 (own_lt.mpr q)
                      refine Own.iinc_c H (pc := 258) (2) #[.val (.ref a), .val (.int f0), .val (.int t0), .val (.int j), .val (.int (own_u bs i)), .val (.int (2 : Int32)), .val (.int (160 : Int32)), .val (.int (191 : Int32)), .val (.int (2 : Int32)), .val (.int (own_u bs (i + 1)))] d1_258 rfl (by decide) rfl ?_
                      refine Own.goto H (pc := 261) 199 d1_261 (by decide) (by decide) ?_
                      refine Own.iload H (pc := 199) d1_199 rfl ?_
                      refine Own.iload H (pc := 201) d1_201 rfl ?_
                      refine Own.icmp_gt H (pc := 203) 264 d1_203 (by decide) (by decide) (fun hc => absurd hc (by decide)) (fun _ => ?_)
                      refine Own.aload_n H (pc := 206) d1_206 rfl rfl ?_
                      refine Own.iload_n H (pc := 207) d1_207 rfl ?_
                      refine Own.iload H (pc := 208) d1_208 rfl ?_
                      refine Own.iadd H (pc := 210) d1_210 ?_
                      refine Own.baload H (pc := 211) (v := (bs.getD (i + 2) 0)) (i + 2) d1_211 A (own_addn hj rfl (by omega)) (own_map (by omega)) ?_
                      refine Own.sipush H (pc := 212) (255) d1_212 rfl ?_
                      refine Own.iand H (pc := 215) d1_215 ?_
                      show OEnds _ _ _ _ _ _ _ _ _ (mkF _ 216 #[.val (.ref a), .val (.int f0), .val (.int t0), .val (.int j), .val (.int (own_u bs i)), .val (.int (2 : Int32)), .val (.int (160 : Int32)), .val (.int (191 : Int32)), .val (.int (2 : Int32)), .val (.int (own_u bs (i + 1)))] [(.int (own_u bs (i + 2)))])
                      have b2 := own_byte bs (i + 2)
                      refine Own.istore H (pc := 216) #[.val (.ref a), .val (.int f0), .val (.int t0), .val (.int j), .val (.int (own_u bs i)), .val (.int (2 : Int32)), .val (.int (160 : Int32)), .val (.int (191 : Int32)), .val (.int (2 : Int32)), .val (.int (own_u bs (i + 2)))] d1_216 rfl ?_
                      refine Own.iload H (pc := 218) d1_218 rfl ?_
                      refine Own.iload H (pc := 220) d1_220 rfl ?_
                      refine Own.iconst H (pc := 222) (1) d1_222 rfl ?_
                      refine Own.icmp_ne H (pc := 223) 231 d1_223 (by decide) (by decide) (fun _ => ?_) (fun hc => absurd hc (by decide))
                      refine Own.sipush H (pc := 231) (128) d1_231 rfl ?_
                      refine Own.icmp_lt H (pc := 234) 256 d1_234 (by decide) (by decide) (fun hk2_234 => ?_) (fun hk2_234 => ?_)
                      · replace hk2_234 : ((own_u bs (i + 2))).toInt < 128 := own_lt.mp hk2_234
                        refine Own.iconst H (pc := 256) (0) d1_256 rfl ?_
                        exact Own.ret_nar H (pc := 257) (0) d1_257 rfl (by simp) (by decide) (by decide) (by decide) (⟨by rw [← hV, own_W0.mpr (G.mpr (by omega))], rfl⟩)
                      · replace hk2_234 : ¬ ((own_u bs (i + 2))).toInt < 128 := fun q => hk2_234 (own_lt.mpr q)
                        refine Own.iload H (pc := 237) d1_237 rfl ?_
                        refine Own.iload H (pc := 239) d1_239 rfl ?_
                        refine Own.iconst H (pc := 241) (1) d1_241 rfl ?_
                        refine Own.icmp_ne H (pc := 242) 250 d1_242 (by decide) (by decide) (fun _ => ?_) (fun hc => absurd hc (by decide))
                        refine Own.sipush H (pc := 250) (191) d1_250 rfl ?_
                        refine Own.icmp_le H (pc := 253) 258 d1_253 (by decide) (by decide) (fun hk2_253 => ?_) (fun hk2_253 => ?_)
                        · replace hk2_253 : ¬ 191 < ((own_u bs (i + 2))).toInt := fun q => hk2_253 (own_lt.mpr q)
                          refine Own.iinc_c H (pc := 258) (3) #[.val (.ref a), .val (.int f0), .val (.int t0), .val (.int j), .val (.int (own_u bs i)), .val (.int (2 : Int32)), .val (.int (160 : Int32)), .val (.int (191 : Int32)), .val (.int (3 : Int32)), .val (.int (own_u bs (i + 2)))] d1_258 rfl (by decide) rfl ?_
                          refine Own.goto H (pc := 261) 199 d1_261 (by decide) (by decide) ?_
                          refine Own.iload H (pc := 199) d1_199 rfl ?_
                          refine Own.iload H (pc := 201) d1_201 rfl ?_
                          refine Own.icmp_gt H (pc := 203) 264 d1_203 (by decide) (by decide) (fun _ => ?_) (fun hc => absurd hc (by decide))
                          refine Own.iload_n H (pc := 264) d1_264 rfl ?_
                          refine Own.iconst H (pc := 265) (1) d1_265 rfl ?_
                          refine Own.iload H (pc := 266) d1_266 rfl ?_
                          refine Own.iadd_c H (pc := 268) (3) d1_268 (by decide) ?_
                          refine Own.iadd H (pc := 269) d1_269 ?_
                          refine Own.istore_n H (pc := 270) #[.val (.ref a), .val (.int f0), .val (.int t0), .val (.int (j + (3 : Int32))), .val (.int (own_u bs i)), .val (.int (2 : Int32)), .val (.int (160 : Int32)), .val (.int (191 : Int32)), .val (.int (3 : Int32)), .val (.int (own_u bs (i + 2)))] d1_270 rfl ?_
                          refine Own.goto H (pc := 271) 2 d1_271 (by decide) (by decide) ?_
                          exact ih (n - 3) (by omega) (i + 3) _ _ _ _ _ _ _ _ (by omega) (own_addn hj rfl (by omega)) (Or.inr ⟨_, rfl⟩) (Or.inr ⟨_, rfl⟩) (Or.inr ⟨_, rfl⟩) (Or.inr ⟨_, rfl⟩) (Or.inr ⟨_, rfl⟩) (Or.inr ⟨_, rfl⟩) ((own_next (by rw [G]; omega)).symm.trans hV) H
                        · replace hk2_253 : 191 < ((own_u bs (i + 2))).toInt := own_lt.mp hk2_253
                          refine Own.iconst H (pc := 256) (0) d1_256 rfl ?_
                          exact Own.ret_nar H (pc := 257) (0) d1_257 rfl (by simp) (by decide) (by decide) (by decide) (⟨by rw [← hV, own_W0.mpr (G.mpr (by omega))], rfl⟩)
                    · replace hk1_253 : 191 < ((own_u bs (i + 1))).toInt := own_lt.mp hk1_253
                      refine Own.iconst H (pc := 256) (0) d1_256 rfl ?_
                      exact Own.ret_nar H (pc := 257) (0) d1_257 rfl (by simp) (by decide) (by decide) (by decide) (⟨by rw [← hV, own_W0.mpr (G.mpr (by omega))], rfl⟩)
                · replace hr : (n : Int) - 1 < 2 := hrem ▸ own_lt.mp hr
                  refine Own.iconst H (pc := 194) (0) d1_194 rfl ?_
                  exact Own.ret_nar H (pc := 195) (0) d1_195 rfl (by simp) (by decide) (by decide) (by decide) (⟨by rw [← hV, own_W0.mpr (G.mpr (by omega))], rfl⟩)
            · replace hc53 : ¬ 223 < ((own_u bs i)).toInt := fun q => hc53 (own_lt.mpr q)
              refine Own.iconst H (pc := 56) (1) d1_56 rfl ?_
              refine Own.istore H (pc := 57) #[.val (.ref a), .val (.int f0), .val (.int t0), .val (.int j), .val (.int (own_u bs i)), .val (.int (1 : Int32)), .val (.int (128 : Int32)), .val (.int (191 : Int32)), o8, o9] d1_57 (by rcases h_o5 with q | ⟨x, q⟩ <;> subst q <;> rfl) ?_
              refine Own.goto H (pc := 59) 184 d1_59 (by decide) (by decide) ?_
              refine Own.iload H (pc := 184) d1_184 rfl ?_
              refine Own.iload_n H (pc := 186) d1_186 rfl ?_
              refine Own.iload_n H (pc := 187) d1_187 rfl ?_
              refine Own.isub H (pc := 188) d1_188 ?_
              refine Own.iconst H (pc := 189) (1) d1_189 rfl ?_
              refine Own.isub H (pc := 190) d1_190 ?_
              have hrem : ((t0 - j) - (1 : Int32)).toInt = (n : Int) - 1 := by
                have a1 := c_isub t0 j
                have a2 := c_isub (t0 - j) 1
                have r1 := rng32 (t0 - j)
                have r2 := rng32 ((t0 - j) - 1)
                have e1 : (1 : Int32).toInt = 1 := rfl
                omega
              refine Own.icmp_le H (pc := 191) 196 d1_191 (by decide) (by decide) (fun hr => ?_) (fun hr => ?_)
              · replace hr : ¬ (n : Int) - 1 < 1 := fun q => hr (own_lt.mpr (hrem ▸ q))
                refine Own.iconst H (pc := 196) (1) d1_196 rfl ?_
                refine Own.istore H (pc := 197) #[.val (.ref a), .val (.int f0), .val (.int t0), .val (.int j), .val (.int (own_u bs i)), .val (.int (1 : Int32)), .val (.int (128 : Int32)), .val (.int (191 : Int32)), .val (.int (1 : Int32)), o9] d1_197 (by rcases h_o8 with q | ⟨x, q⟩ <;> subst q <;> rfl) ?_
                refine Own.iload H (pc := 199) d1_199 rfl ?_
                refine Own.iload H (pc := 201) d1_201 rfl ?_
                refine Own.icmp_gt H (pc := 203) 264 d1_203 (by decide) (by decide) (fun hc => absurd hc (by decide)) (fun _ => ?_)
                refine Own.aload_n H (pc := 206) d1_206 rfl rfl ?_
                refine Own.iload_n H (pc := 207) d1_207 rfl ?_
                refine Own.iload H (pc := 208) d1_208 rfl ?_
                refine Own.iadd H (pc := 210) d1_210 ?_
                refine Own.baload H (pc := 211) (v := (bs.getD (i + 1) 0)) (i + 1) d1_211 A (own_addn hj rfl (by omega)) (own_map (by omega)) ?_
                refine Own.sipush H (pc := 212) (255) d1_212 rfl ?_
                refine Own.iand H (pc := 215) d1_215 ?_
                show OEnds _ _ _ _ _ _ _ _ _ (mkF _ 216 #[.val (.ref a), .val (.int f0), .val (.int t0), .val (.int j), .val (.int (own_u bs i)), .val (.int (1 : Int32)), .val (.int (128 : Int32)), .val (.int (191 : Int32)), .val (.int (1 : Int32)), o9] [(.int (own_u bs (i + 1)))])
                have b1 := own_byte bs (i + 1)
                refine Own.istore H (pc := 216) #[.val (.ref a), .val (.int f0), .val (.int t0), .val (.int j), .val (.int (own_u bs i)), .val (.int (1 : Int32)), .val (.int (128 : Int32)), .val (.int (191 : Int32)), .val (.int (1 : Int32)), .val (.int (own_u bs (i + 1)))] d1_216 (by rcases h_o9 with q | ⟨x, q⟩ <;> subst q <;> rfl) ?_
                refine Own.iload H (pc := 218) d1_218 rfl ?_
                refine Own.iload H (pc := 220) d1_220 rfl ?_
                refine Own.iconst H (pc := 222) (1) d1_222 rfl ?_
                refine Own.icmp_ne H (pc := 223) 231 d1_223 (by decide) (by decide) (fun hc => absurd hc (by decide)) (fun _ => ?_)
                refine Own.iload H (pc := 226) d1_226 rfl ?_
                refine Own.goto H (pc := 228) 234 d1_228 (by decide) (by decide) ?_
                refine Own.icmp_lt H (pc := 234) 256 d1_234 (by decide) (by decide) (fun hk1_234 => ?_) (fun hk1_234 => ?_)
                · replace hk1_234 : ((own_u bs (i + 1))).toInt < 128 := own_lt.mp hk1_234
                  refine Own.iconst H (pc := 256) (0) d1_256 rfl ?_
                  exact Own.ret_nar H (pc := 257) (0) d1_257 rfl (by simp) (by decide) (by decide) (by decide) (⟨by rw [← hV, own_W0.mpr (G.mpr (by omega))], rfl⟩)
                · replace hk1_234 : ¬ ((own_u bs (i + 1))).toInt < 128 := fun q => hk1_234 (own_lt.mpr q)
                  refine Own.iload H (pc := 237) d1_237 rfl ?_
                  refine Own.iload H (pc := 239) d1_239 rfl ?_
                  refine Own.iconst H (pc := 241) (1) d1_241 rfl ?_
                  refine Own.icmp_ne H (pc := 242) 250 d1_242 (by decide) (by decide) (fun hc => absurd hc (by decide)) (fun _ => ?_)
                  refine Own.iload H (pc := 245) d1_245 rfl ?_
                  refine Own.goto H (pc := 247) 253 d1_247 (by decide) (by decide) ?_
                  refine Own.icmp_le H (pc := 253) 258 d1_253 (by decide) (by decide) (fun hk1_253 => ?_) (fun hk1_253 => ?_)
                  · replace hk1_253 : ¬ 191 < ((own_u bs (i + 1))).toInt := fun q => hk1_253 (own_lt.mpr q)
                    refine Own.iinc_c H (pc := 258) (2) #[.val (.ref a), .val (.int f0), .val (.int t0), .val (.int j), .val (.int (own_u bs i)), .val (.int (1 : Int32)), .val (.int (128 : Int32)), .val (.int (191 : Int32)), .val (.int (2 : Int32)), .val (.int (own_u bs (i + 1)))] d1_258 rfl (by decide) rfl ?_
                    refine Own.goto H (pc := 261) 199 d1_261 (by decide) (by decide) ?_
                    refine Own.iload H (pc := 199) d1_199 rfl ?_
                    refine Own.iload H (pc := 201) d1_201 rfl ?_
                    refine Own.icmp_gt H (pc := 203) 264 d1_203 (by decide) (by decide) (fun _ => ?_) (fun hc => absurd hc (by decide))
                    refine Own.iload_n H (pc := 264) d1_264 rfl ?_
                    refine Own.iconst H (pc := 265) (1) d1_265 rfl ?_
                    refine Own.iload H (pc := 266) d1_266 rfl ?_
                    refine Own.iadd_c H (pc := 268) (2) d1_268 (by decide) ?_
                    refine Own.iadd H (pc := 269) d1_269 ?_
                    refine Own.istore_n H (pc := 270) #[.val (.ref a), .val (.int f0), .val (.int t0), .val (.int (j + (2 : Int32))), .val (.int (own_u bs i)), .val (.int (1 : Int32)), .val (.int (128 : Int32)), .val (.int (191 : Int32)), .val (.int (2 : Int32)), .val (.int (own_u bs (i + 1)))] d1_270 rfl ?_
                    refine Own.goto H (pc := 271) 2 d1_271 (by decide) (by decide) ?_
                    exact ih (n - 2) (by omega) (i + 2) _ _ _ _ _ _ _ _ (by omega) (own_addn hj rfl (by omega)) (Or.inr ⟨_, rfl⟩) (Or.inr ⟨_, rfl⟩) (Or.inr ⟨_, rfl⟩) (Or.inr ⟨_, rfl⟩) (Or.inr ⟨_, rfl⟩) (Or.inr ⟨_, rfl⟩) ((own_next (by rw [G]; omega)).symm.trans hV) H
                  · replace hk1_253 : 191 < ((own_u bs (i + 1))).toInt := own_lt.mp hk1_253
                    refine Own.iconst H (pc := 256) (0) d1_256 rfl ?_
                    exact Own.ret_nar H (pc := 257) (0) d1_257 rfl (by simp) (by decide) (by decide) (by decide) (⟨by rw [← hV, own_W0.mpr (G.mpr (by omega))], rfl⟩)
              · replace hr : (n : Int) - 1 < 1 := hrem ▸ own_lt.mp hr
                refine Own.iconst H (pc := 194) (0) d1_194 rfl ?_
                exact Own.ret_nar H (pc := 195) (0) d1_195 rfl (by simp) (by decide) (by decide) (by decide) (⟨by rw [← hV, own_W0.mpr (G.mpr (by omega))], rfl⟩)
        · replace hc31 : ((own_u bs i)).toInt < 128 := own_lt.mp hc31
          refine Own.iconst H (pc := 34) (0) d1_34 rfl ?_
          refine Own.istore H (pc := 35) #[.val (.ref a), .val (.int f0), .val (.int t0), .val (.int j), .val (.int (own_u bs i)), .val (.int (0 : Int32)), .val (.int (128 : Int32)), .val (.int (191 : Int32)), o8, o9] d1_35 (by rcases h_o5 with q | ⟨x, q⟩ <;> subst q <;> rfl) ?_
          refine Own.goto H (pc := 37) 184 d1_37 (by decide) (by decide) ?_
          refine Own.iload H (pc := 184) d1_184 rfl ?_
          refine Own.iload_n H (pc := 186) d1_186 rfl ?_
          refine Own.iload_n H (pc := 187) d1_187 rfl ?_
          refine Own.isub H (pc := 188) d1_188 ?_
          refine Own.iconst H (pc := 189) (1) d1_189 rfl ?_
          refine Own.isub H (pc := 190) d1_190 ?_
          have hrem : ((t0 - j) - (1 : Int32)).toInt = (n : Int) - 1 := by
            have a1 := c_isub t0 j
            have a2 := c_isub (t0 - j) 1
            have r1 := rng32 (t0 - j)
            have r2 := rng32 ((t0 - j) - 1)
            have e1 : (1 : Int32).toInt = 1 := rfl
            omega
          refine Own.icmp_le H (pc := 191) 196 d1_191 (by decide) (by decide) (fun hr => ?_) (fun hr => ?_)
          · replace hr : ¬ (n : Int) - 1 < 0 := fun q => hr (own_lt.mpr (hrem ▸ q))
            refine Own.iconst H (pc := 196) (1) d1_196 rfl ?_
            refine Own.istore H (pc := 197) #[.val (.ref a), .val (.int f0), .val (.int t0), .val (.int j), .val (.int (own_u bs i)), .val (.int (0 : Int32)), .val (.int (128 : Int32)), .val (.int (191 : Int32)), .val (.int (1 : Int32)), o9] d1_197 (by rcases h_o8 with q | ⟨x, q⟩ <;> subst q <;> rfl) ?_
            refine Own.iload H (pc := 199) d1_199 rfl ?_
            refine Own.iload H (pc := 201) d1_201 rfl ?_
            refine Own.icmp_gt H (pc := 203) 264 d1_203 (by decide) (by decide) (fun _ => ?_) (fun hc => absurd hc (by decide))
            refine Own.iload_n H (pc := 264) d1_264 rfl ?_
            refine Own.iconst H (pc := 265) (1) d1_265 rfl ?_
            refine Own.iload H (pc := 266) d1_266 rfl ?_
            refine Own.iadd_c H (pc := 268) (1) d1_268 (by decide) ?_
            refine Own.iadd H (pc := 269) d1_269 ?_
            refine Own.istore_n H (pc := 270) #[.val (.ref a), .val (.int f0), .val (.int t0), .val (.int (j + (1 : Int32))), .val (.int (own_u bs i)), .val (.int (0 : Int32)), .val (.int (128 : Int32)), .val (.int (191 : Int32)), .val (.int (1 : Int32)), o9] d1_270 rfl ?_
            refine Own.goto H (pc := 271) 2 d1_271 (by decide) (by decide) ?_
            exact ih (n - 1) (by omega) (i + 1) _ _ _ _ _ _ _ _ (by omega) (own_addn hj rfl (by omega)) (Or.inr ⟨_, rfl⟩) (Or.inr ⟨_, rfl⟩) (Or.inr ⟨_, rfl⟩) (Or.inr ⟨_, rfl⟩) (Or.inr ⟨_, rfl⟩) h_o9 ((own_next (by rw [G]; omega)).symm.trans hV) H
          · replace hr : (n : Int) - 1 < 0 := hrem ▸ own_lt.mp hr
            refine Own.iconst H (pc := 194) (0) d1_194 rfl ?_
            exact Own.ret_nar H (pc := 195) (0) d1_195 rfl (by simp) (by decide) (by decide) (by decide) (⟨by rw [← hV, own_W0.mpr (G.mpr (by omega))], rfl⟩)
  exact loop (ti - fi) fi _ _ _ _ _ _ _ _ (by omega) hf (Or.inl rfl) (Or.inl rfl) (Or.inl rfl) (Or.inl rfl) (Or.inl rfl) (Or.inl rfl) rfl H

theorem own_remm (x k d : Int32) (hk : 0 ≤ k.toInt) (hd : 0 < d.toInt) : 0 ≤ ((x &&& k) % d).toInt ∧ ((x &&& k) % d).toInt < d.toInt := by
  have h1 := (c_iremV (x &&& k) d).1 (c_and x k hk).1 hd
  exact ⟨h1.1, h1.2.1⟩
theorem own_same (bs : List Int32) (s : Nat) (n : Int32) (k : Nat) (hn : n.toInt = (k : Int)) (h8 : k ≤ 8) : own_V bs k s = own_wf bs s n := by
  have hc : k = 0 ∨ k = 1 ∨ k = 2 ∨ k = 3 ∨ k = 4 ∨ k = 5 ∨ k = 6 ∨ k = 7 ∨ k = 8 := by omega
  rcases hc with rfl | rfl | rfl | rfl | rfl | rfl | rfl | rfl | rfl
  · obtain rfl : n = 0 := own_eq hn
    rfl
  · obtain rfl : n = 1 := own_eq hn
    rfl
  · obtain rfl : n = 2 := own_eq hn
    rfl
  · obtain rfl : n = 3 := own_eq hn
    rfl
  · obtain rfl : n = 4 := own_eq hn
    rfl
  · obtain rfl : n = 5 := own_eq hn
    rfl
  · obtain rfl : n = 6 := own_eq hn
    rfl
  · obtain rfl : n = 7 := own_eq hn
    rfl
  · obtain rfl : n = 8 := own_eq hn
    rfl
theorem pn_rm_law : plainFor x = true := by first | exact plainFor_of_name (by first | (simp [plainName, overriddenIn]; done) | decide +kernel) | decide +kernel
theorem ef_rm_law (p0 : Int32) (p1 : Int32) (p2 : Int32) (m : MethodId) : entryFrame m #[(.int p0), (.int p1), (.int p2)] maxLocals = mkF m 0 #[.val (.int p0), .val (.int p1), .val (.int p2), .unset, .unset, .unset, .unset] [] := by first | (simp [entryFrame, mkF, argsToLocals, Value.category, maxLocals]; done) | rfl
set_option maxRecDepth 65536 in
set_option maxHeartbeats 40000000 in
theorem rm_law (l : Launch) (Z : State) (a0 : Array Value) (hw : ∀ d ∈ tables_1, d.before a0 Z = true) (p0 : Int32) (p1 : Int32) (p2 : Int32) (h0 : Heap) (n0 : Nat) (Z0 : n0 ≤ h0.size)  :
    OMet l Z n0 x code maxLocals ret room_1 #[(.int p0), (.int p1), (.int p2)] h0 (fun v h => v = some (.int 1)) := by
  refine OMet.of pn_rm_law Z0 (ef_rm_law p0 p1 p2) ?_
  intro p e s m below meth c T H
  refine Own.bipush H (pc := 0) (8) at_0 rfl ?_
  refine Own.newarray H (pc := 2) (i := 8) 8 at_2 (hw _ (List.mem_of_getElem? (i := 0) rfl)) rfl (by decide) (by decide) (by decide) (by decide) (by decide) (fun T_944 h_945 a eq_a ge_a H_943 Ext_a Ary_a => ?_)
  refine Own.astore_n H_943 (pc := 4) #[.val (.int p0), .val (.int p1), .val (.int p2), .val (.ref a), .unset, .unset, .unset] at_4 rfl rfl ?_
  refine Own.aload_n H_943 (pc := 5) at_5 rfl rfl ?_
  refine Own.iconst H_943 (pc := 6) (0) at_6 rfl ?_
  refine Own.iload_n H_943 (pc := 7) at_7 rfl ?_
  refine Own.i2b H_943 (pc := 8) at_8 ?_
  refine Own.bastore H_943 (pc := 9) 0 at_9 Ary_a ge_a rfl (by simp) (fun T_947 h_948 H_946 W_949 A_950 => ?_)
  refine Own.aload_n H_946 (pc := 10) at_10 rfl rfl ?_
  refine Own.iconst H_946 (pc := 11) (1) at_11 rfl ?_
  refine Own.iload_n H_946 (pc := 12) at_12 rfl ?_
  refine Own.bipush H_946 (pc := 13) (8) at_13 rfl ?_
  refine Own.iushr H_946 (pc := 15) at_15 ?_
  refine Own.i2b H_946 (pc := 16) at_16 ?_
  refine Own.bastore H_946 (pc := 17) 1 at_17 A_950 ge_a rfl (by simp) (fun T_952 h_953 H_951 W_954 A_955 => ?_)
  refine Own.aload_n H_951 (pc := 18) at_18 rfl rfl ?_
  refine Own.iconst H_951 (pc := 19) (2) at_19 rfl ?_
  refine Own.iload_n H_951 (pc := 20) at_20 rfl ?_
  refine Own.bipush H_951 (pc := 21) (16) at_21 rfl ?_
  refine Own.iushr H_951 (pc := 23) at_23 ?_
  refine Own.i2b H_951 (pc := 24) at_24 ?_
  refine Own.bastore H_951 (pc := 25) 2 at_25 A_955 ge_a rfl (by simp) (fun T_957 h_958 H_956 W_959 A_960 => ?_)
  refine Own.aload_n H_956 (pc := 26) at_26 rfl rfl ?_
  refine Own.iconst H_956 (pc := 27) (3) at_27 rfl ?_
  refine Own.iload_n H_956 (pc := 28) at_28 rfl ?_
  refine Own.bipush H_956 (pc := 29) (24) at_29 rfl ?_
  refine Own.iushr H_956 (pc := 31) at_31 ?_
  refine Own.i2b H_956 (pc := 32) at_32 ?_
  refine Own.bastore H_956 (pc := 33) 3 at_33 A_960 ge_a rfl (by simp) (fun T_962 h_963 H_961 W_964 A_965 => ?_)
  refine Own.aload_n H_961 (pc := 34) at_34 rfl rfl ?_
  refine Own.iconst H_961 (pc := 35) (4) at_35 rfl ?_
  refine Own.iload_n H_961 (pc := 36) at_36 rfl ?_
  refine Own.i2b H_961 (pc := 37) at_37 ?_
  refine Own.bastore H_961 (pc := 38) 4 at_38 A_965 ge_a rfl (by simp) (fun T_967 h_968 H_966 W_969 A_970 => ?_)
  refine Own.aload_n H_966 (pc := 39) at_39 rfl rfl ?_
  refine Own.iconst H_966 (pc := 40) (5) at_40 rfl ?_
  refine Own.iload_n H_966 (pc := 41) at_41 rfl ?_
  refine Own.bipush H_966 (pc := 42) (8) at_42 rfl ?_
  refine Own.iushr H_966 (pc := 44) at_44 ?_
  refine Own.i2b H_966 (pc := 45) at_45 ?_
  refine Own.bastore H_966 (pc := 46) 5 at_46 A_970 ge_a rfl (by simp) (fun T_972 h_973 H_971 W_974 A_975 => ?_)
  refine Own.aload_n H_971 (pc := 47) at_47 rfl rfl ?_
  refine Own.bipush H_971 (pc := 48) (6) at_48 rfl ?_
  refine Own.iload_n H_971 (pc := 50) at_50 rfl ?_
  refine Own.bipush H_971 (pc := 51) (16) at_51 rfl ?_
  refine Own.iushr H_971 (pc := 53) at_53 ?_
  refine Own.i2b H_971 (pc := 54) at_54 ?_
  refine Own.bastore H_971 (pc := 55) 6 at_55 A_975 ge_a rfl (by simp) (fun T_977 h_978 H_976 W_979 A_980 => ?_)
  refine Own.aload_n H_976 (pc := 56) at_56 rfl rfl ?_
  refine Own.bipush H_976 (pc := 57) (7) at_57 rfl ?_
  refine Own.iload_n H_976 (pc := 59) at_59 rfl ?_
  refine Own.bipush H_976 (pc := 60) (24) at_60 rfl ?_
  refine Own.iushr H_976 (pc := 62) at_62 ?_
  refine Own.i2b H_976 (pc := 63) at_63 ?_
  refine Own.bastore H_976 (pc := 64) 7 at_64 A_980 ge_a rfl (by simp) (fun T_982 h_983 H_981 W_984 A_985 => ?_)
  obtain ⟨bs, hl, B⟩ : ∃ bs : List Int32, bs.length = 8 ∧ OAry Z h_983 a .byte (bs.map Value.int) := ⟨[_, _, _, _, _, _, _, _], rfl, A_985⟩
  refine Own.iload_n H_981 (pc := 65) at_65 rfl ?_
  refine Own.bipush H_981 (pc := 66) (15) at_66 rfl ?_
  refine Own.iand H_981 (pc := 68) at_68 ?_
  refine Own.bipush H_981 (pc := 69) (9) at_69 rfl ?_
  refine Own.irem H_981 (pc := 71) at_71 (by decide) ?_
  generalize ef : ((p2 &&& (15 : Int32)) % (9 : Int32)) = f0
  have hf : 0 ≤ f0.toInt ∧ f0.toInt < 9 := by rw [← ef]; exact own_remm p2 15 9 (by decide) (by decide)
  have e9 : (9 : Int32).toInt = 9 := rfl
  refine Own.istore H_981 (pc := 72) #[.val (.int p0), .val (.int p1), .val (.int p2), .val (.ref a), .val (.int f0), .unset, .unset] at_72 rfl ?_
  refine Own.iload_n H_981 (pc := 74) at_74 rfl ?_
  refine Own.iconst H_981 (pc := 75) (4) at_75 rfl ?_
  refine Own.iushr H_981 (pc := 76) at_76 ?_
  refine Own.bipush H_981 (pc := 77) (15) at_77 rfl ?_
  refine Own.iand H_981 (pc := 79) at_79 ?_
  refine Own.bipush H_981 (pc := 80) (9) at_80 rfl ?_
  refine Own.iload H_981 (pc := 82) at_82 rfl ?_
  refine Own.isub H_981 (pc := 84) at_84 ?_
  have h9 : ((9 : Int32) - f0).toInt = 9 - f0.toInt := by
    have a1 := c_isub 9 f0
    have r := rng32 ((9 : Int32) - f0)
    omega
  refine Own.irem H_981 (pc := 85) at_85 (own_ne (by rw [h9]; show _ ≠ (0 : Int); omega)) ?_
  generalize en : (((XT.ushr p2 (4 : Int32)) &&& (15 : Int32)) % ((9 : Int32) - f0)) = n
  have hn : 0 ≤ n.toInt ∧ n.toInt < ((9 : Int32) - f0).toInt := by rw [← en]; exact own_remm (XT.ushr p2 (4 : Int32)) 15 ((9 : Int32) - f0) (by decide) (by omega)
  refine Own.istore H_981 (pc := 86) #[.val (.int p0), .val (.int p1), .val (.int p2), .val (.ref a), .val (.int f0), .val (.int n), .unset] at_86 rfl ?_
  refine Own.iload H_981 (pc := 88) at_88 rfl ?_
  refine Own.iload H_981 (pc := 90) at_90 rfl ?_
  refine Own.iadd H_981 (pc := 92) at_92 ?_
  refine Own.istore H_981 (pc := 93) #[.val (.int p0), .val (.int p1), .val (.int p2), .val (.ref a), .val (.int f0), .val (.int n), .val (.int (f0 + n))] at_93 rfl ?_
  refine Own.aload_n H_981 (pc := 95) at_95 rfl rfl ?_
  refine Own.iload H_981 (pc := 96) at_96 rfl ?_
  refine Own.iload H_981 (pc := 98) at_98 rfl ?_
  have ht : (f0 + n).toInt = ((f0.toInt.toNat + n.toInt.toNat : Nat) : Int) := own_addn (by omega) (by omega) (by omega)
  refine Own.callS H_981 (pc := 100) (y := (⟨"termstone/store/Utf8", "isUtf8", "([BII)Z"⟩ : MethodName)) [(.ref a), (.int f0), (.int (f0 + n))] [] at_100 (hw _ (List.mem_of_getElem? (i := 1) rfl)) (hw _ (List.mem_of_getElem? (i := 2) rfl)) (hw _ (List.mem_of_getElem? (i := 3) rfl)) (hw _ (List.mem_of_getElem? (i := 4) rfl)) (by decide) (rm_utf8 l Z a0 hw a f0 (f0 + n) _ n0 H_981.z0 bs hl B f0.toInt.toNat (f0.toInt.toNat + n.toInt.toNat) (by omega) ht (by omega) (by omega)) (r := (some .boolean)) (ps := [(.array .byte), .int, .int]) (by decide) rfl rfl 0 rfl (by decide) (by decide) (by decide) (by decide) rfl (fun T_987 v_989 h_988 H_986 z_990 q_991 => ?_)
  obtain ⟨rfl, rfl⟩ := q_991
  show OEnds _ _ _ _ _ _ _ _ _ (mkF _ 103 #[.val (.int p0), .val (.int p1), .val (.int p2), .val (.ref a), .val (.int f0), .val (.int n), .val (.int (f0 + n))] [(.int (own_V bs (f0.toInt.toNat + n.toInt.toNat - f0.toInt.toNat) f0.toInt.toNat))])
  refine Own.aload_n H_986 (pc := 103) at_103 rfl rfl ?_
  refine Own.iload H_986 (pc := 104) at_104 rfl ?_
  refine Own.iload H_986 (pc := 106) at_106 rfl ?_
  refine Own.callS H_986 (pc := 108) (y := (⟨"termstone/store/Utf8IsUtf8PinLaw", "wf", "([BII)Z"⟩ : MethodName)) [(.ref a), (.int f0), (.int n)] [(.int (own_V bs (f0.toInt.toNat + n.toInt.toNat - f0.toInt.toNat) f0.toInt.toNat))] at_108 (hw _ (List.mem_of_getElem? (i := 5) rfl)) (hw _ (List.mem_of_getElem? (i := 6) rfl)) (hw _ (List.mem_of_getElem? (i := 7) rfl)) (hw _ (List.mem_of_getElem? (i := 8) rfl)) (by decide) (rm_wf l Z a0 hw a f0 n _ n0 H_986.z0 bs hl B f0.toInt.toNat (by omega) hn.1 (by omega)) (r := (some .boolean)) (ps := [(.array .byte), .int, .int]) (by decide) rfl rfl 1 rfl (by decide) (by decide) (by decide) (by decide) rfl (fun T_993 v_995 h_994 H_992 z_996 q_997 => ?_)
  obtain ⟨rfl, rfl⟩ := q_997
  show OEnds _ _ _ _ _ _ _ _ _ (mkF _ 111 #[.val (.int p0), .val (.int p1), .val (.int p2), .val (.ref a), .val (.int f0), .val (.int n), .val (.int (f0 + n))] [(.int (own_wf bs f0.toInt.toNat n)), (.int (own_V bs (f0.toInt.toNat + n.toInt.toNat - f0.toInt.toNat) f0.toInt.toNat))])
  refine Own.icmp_ne H_992 (pc := 111) 118 at_111 (by decide) (by decide) (fun hX => absurd (by rw [Nat.add_sub_cancel_left]; exact own_same bs _ n _ (by omega) (by omega)) hX) (fun _ => ?_)
  refine Own.iconst H_992 (pc := 114) (1) at_114 rfl ?_
  refine Own.goto H_992 (pc := 115) 119 at_115 (by decide) (by decide) ?_
  exact Own.ret_nar H_992 (pc := 119) (1) at_119 rfl (by simp) (by decide) (by decide) (by decide) (rfl)
set_option maxRecDepth 65536 in
set_option maxHeartbeats 40000000 in
theorem comes_1 {Post : Tables → Env → Array Value → State → Outcome → State → Prop} (hpost : ∀ tb e args s v u, (limb_1_1.after args s (.returned v) u = true ∧ limb_1_2.after args s (.returned v) u = true ∧ True) → FrameEnd s (.returned v) u (Jvm.fieldLocs frame_1_writes args s ++ Jvm.arrayLocs frame_1_arrays args s ++ Jvm.staticLocs frame_1_statics s) 16 128 → Post tb e args s (.returned v) u) :
    ArmFor flags0 classFile x code maxLocals ret World_1 tables_1 room_1 Calls_1 rest_1 Pre_1 Post := by
  intro l hfl _ _ p e ha hc hk s m args below hf hA hF happ hP
  obtain ⟨hcalls, hrest, hpre⟩ := hP
  obtain ⟨-, -, -, hnamed, -, -, -, hat⟩ := (Spec.applies_iff hf).mp happ
  obtain ⟨hg, hn⟩ := and_e (Cond.before_iff.mp (show (Jvm.Cond.and given_1 narrow_1).before args s = true from hpre))
  obtain ⟨g0, k0⟩ := and_e hg
  obtain ⟨g1, k1⟩ := and_e k0
  obtain ⟨g2, k2⟩ := and_e k1
  obtain ⟨w0, w1, w2, rfl⟩ : ∃ w0 w1 w2 : Value, args = #[w0, w1, w2] := by
    have hs : args.size = 3 := by simpa [Cond.value, given_1] using g0
    obtain ⟨L⟩ := args
    match L, hs with
    | [w0, w1, w2], _ => exact ⟨w0, w1, w2, rfl⟩
  have hw := fun d (hd : d ∈ tables_1) => atoms_spec (ws := Jvm.Cond.code x code maxLocals ret :: tables_1) hat d (List.mem_cons_of_mem _ hd)
  have hfit : Fit s := fun {y c} hc i hi => by
    obtain ⟨ha, rfl⟩ := Array.getElem?_eq_some_iff.mp hc
    have q := List.all_eq_true.mp ((Array.all_eq_true_iff_forall_mem.mp hF) _ (Array.getElem_mem ha)) i (List.mem_range.mpr hi)
    simpa [Array.getElem?_eq_getElem hi] using q
  obtain ⟨i0, e0⟩ := is_v g1
  obtain rfl : w0 = (.int i0) := Option.some.inj e0
  obtain ⟨i1, e1⟩ := is_v g2
  obtain rfl : w1 = (.int i1) := Option.some.inj e1
  obtain ⟨i2, e2⟩ := is_v k2
  obtain rfl : w2 = (.int i2) := Option.some.inj e2
  obtain ⟨n, o, h1, h2, h3, _, L, rfl, ⟨N, -, rfl⟩, hq⟩ := rm_law l s _ hw i0 i1 i2 s.heap s.heap.size (Nat.le_refl _)  tables_1 p e ha hc hk s m _ below hf ((Spec.applies_iff_loose hf).mp happ).1 ⟨rfl, State.Warmed39.refl s, rfl⟩ trivial
  refine ⟨n, _, h1, h2, h3, hpost _ _ _ _ _ _ ⟨Cond.after_iff.mpr rfl, Cond.after_iff.mpr (eq_i res_at (Term.int_eval (1)) rfl), trivial⟩ ⟨hq.1, hq.2.1, (hq.2.2.sift fun y hy => Or.inr (N y hy)).mono (by decide) (by decide)⟩⟩
theorem main_1_1 : Claimed_1_1 := comes_1 fun _ _ _ _ _ _ h hF => ⟨h.1, hF⟩
theorem main_1_2 : Claimed_1_2 := comes_1 fun _ _ _ _ _ _ h hF => ⟨h.2.1, hF⟩
end Jvm.Pilot.@@N@@
namespace Jvm.Pilot.@@N@@
open Jvm Jvm.ClassFile Sem Op Lib Jvm.Free Jvm.Stand Jvm.Pilot.@@N@@.Jvm.D
/-! MADE BY PROGRAM (witnessworld.py) out of the Statement's table words and the real class files: 9 classes; the members and pool entries that the words name. The judged class is class 1, her method 1. -/
namespace start1
open Jvm.ClassFile
def u (s : String) : CpInfo := .utf8 (stringToUtf16 s)
/-- a pool by its gaps: so many unusable entries, then the entry; so many at the end -/
def gap : Nat → List CpInfo → List CpInfo
  | 0, r => r
  | n + 1, r => .unusable :: gap n r
def poolList (es : List (Nat × CpInfo)) (last : Nat) : List CpInfo := es.foldr (fun e r => gap e.1 (e.2 :: r)) (gap last [])
def pool (es : List (Nat × CpInfo)) (last : Nat) : Array CpInfo := ⟨poolList es last⟩
def fileOf (pool : Array CpInfo) (this : Nat) (attrs : Array Attribute := #[]) (ms : Array MethodInfo := #[]) (fl : Nat := 33) (sup : Nat := 0) (ifs : Array Nat := #[]) (fds : Array FieldInfo := #[]) : ClassFile where
  minorVersion := 0
  majorVersion := 65
  constantPool := pool
  accessFlags := fl
  thisClass := this
  superClass := sup
  interfaces := ifs
  fields := fds
  methods := ms
  attributes := attrs
def plain (name : String) (sup : Option ClassId) : Class where
  name := name
  kind := .ordinary
  loader := none
  accessFlags := 33
  super := sup
  interfaces := #[]
  cf := none
  fields := #[]
  methods := #[]
  instanceTypes := #[]
  staticTypes := #[]
  resolved := #[]
  callSites := []
  init := .initialized
  statics := none
  mirror := none

def pool0 : Array CpInfo := pool [(5, u "<init>"), (0, u "()V"), (1, .class_ 10), (1, u "java/lang/Object")] 113

def k0m0 : Method := { name := "<init>", desc := "()V", sig := { parameters := [], returnType := none }, accessFlags := 1, code := none }
/-- java/lang/Object -/
def k0 : Class := { plain "java/lang/Object" none with
  accessFlags := 33
  interfaces := #[]
  cf := some (fileOf pool0 8 #[] #[{ accessFlags := 1, nameIndex := 5, descriptorIndex := 6, attributes := #[] }] 33 0 #[] #[])
  fields := #[]
  methods := #[k0m0]
  instanceTypes := #[]
  staticTypes := #[]
  resolved := Array.replicate 124 none
  statics := none }

def pool1 : Array CpInfo := pool [(2, .class_ 4), (1, u "java/lang/Object"), (0, u "<init>"), (0, u "()V"), (0, .methodref 8 9), (0, .class_ 10), (0, .nameAndType 11 12), (0, u "termstone/store/Utf8"), (0, u "isUtf8"), (0, u "([BII)Z"), (0, .methodref 14 15), (0, .class_ 16), (0, .nameAndType 17 12), (0, u "termstone/store/Utf8IsUtf8PinLaw"), (0, u "wf"), (0, .methodref 14 19), (0, .nameAndType 20 21), (0, u "cont"), (0, u "(I)Z"), (0, .integer 55296), (0, .integer 57343), (0, .integer 65536), (0, .integer 1114111), (0, .methodref 14 27), (0, .nameAndType 28 29), (0, u "v1"), (0, u "([BI)Z"), (0, .methodref 14 31), (0, .nameAndType 32 29), (0, u "v2"), (0, .methodref 14 34), (0, .nameAndType 35 29), (0, u "v3"), (0, .methodref 14 37), (0, .nameAndType 38 29), (0, u "v4"), (0, .methodref 14 40), (0, .nameAndType 41 29), (0, u "v5"), (0, .methodref 14 43), (0, .nameAndType 44 29), (0, u "v6"), (0, .methodref 14 46), (0, .nameAndType 47 29), (0, u "v7"), (0, .methodref 14 49), (0, .nameAndType 50 29), (0, u "v8"), (0, .methodref 14 52), (0, .nameAndType 53 12), (0, u "c"), (2, u "law"), (0, u "(III)Z")] 5

def k1m0 : Method := { name := "<init>", desc := "()V", sig := { parameters := [], returnType := none }, accessFlags := 2, code := none }
def k1c1 : Code := { maxStack := 4, maxLocals := 7, code := code, exceptionTable := #[], attributes := #[] }
def k1m1 : Method := { name := "law", desc := "(III)Z", sig := { parameters := [.int, .int, .int], returnType := some .boolean }, accessFlags := 9, code := some k1c1 }
def k1c2 : Code := { maxStack := 2, maxLocals := 1, code := method_3_code, exceptionTable := #[], attributes := #[] }
def k1m2 : Method := { name := "cont", desc := "(I)Z", sig := { parameters := [.int], returnType := some .boolean }, accessFlags := 10, code := some k1c2 }
def k1c3 : Code := { maxStack := 3, maxLocals := 8, code := method_4_code, exceptionTable := #[], attributes := #[] }
def k1m3 : Method := { name := "c", desc := "([BII)Z", sig := { parameters := [(.array .byte), .int, .int], returnType := some .boolean }, accessFlags := 10, code := some k1c3 }
def k1c4 : Code := { maxStack := 2, maxLocals := 3, code := method_5_code, exceptionTable := #[], attributes := #[] }
def k1m4 : Method := { name := "wf", desc := "([BII)Z", sig := { parameters := [(.array .byte), .int, .int], returnType := some .boolean }, accessFlags := 10, code := some k1c4 }
def k1c5 : Code := { maxStack := 3, maxLocals := 2, code := method_6_code, exceptionTable := #[], attributes := #[] }
def k1m5 : Method := { name := "v1", desc := "([BI)Z", sig := { parameters := [(.array .byte), .int], returnType := some .boolean }, accessFlags := 10, code := some k1c5 }
def k1c6 : Code := { maxStack := 3, maxLocals := 2, code := method_7_code, exceptionTable := #[], attributes := #[] }
def k1m6 : Method := { name := "v2", desc := "([BI)Z", sig := { parameters := [(.array .byte), .int], returnType := some .boolean }, accessFlags := 10, code := some k1c6 }
def k1c7 : Code := { maxStack := 3, maxLocals := 2, code := method_8_code, exceptionTable := #[], attributes := #[] }
def k1m7 : Method := { name := "v3", desc := "([BI)Z", sig := { parameters := [(.array .byte), .int], returnType := some .boolean }, accessFlags := 10, code := some k1c7 }
def k1c8 : Code := { maxStack := 3, maxLocals := 2, code := method_9_code, exceptionTable := #[], attributes := #[] }
def k1m8 : Method := { name := "v4", desc := "([BI)Z", sig := { parameters := [(.array .byte), .int], returnType := some .boolean }, accessFlags := 10, code := some k1c8 }
def k1c9 : Code := { maxStack := 3, maxLocals := 2, code := method_10_code, exceptionTable := #[], attributes := #[] }
def k1m9 : Method := { name := "v5", desc := "([BI)Z", sig := { parameters := [(.array .byte), .int], returnType := some .boolean }, accessFlags := 10, code := some k1c9 }
def k1c10 : Code := { maxStack := 3, maxLocals := 2, code := method_11_code, exceptionTable := #[], attributes := #[] }
def k1m10 : Method := { name := "v6", desc := "([BI)Z", sig := { parameters := [(.array .byte), .int], returnType := some .boolean }, accessFlags := 10, code := some k1c10 }
def k1c11 : Code := { maxStack := 3, maxLocals := 2, code := method_12_code, exceptionTable := #[], attributes := #[] }
def k1m11 : Method := { name := "v7", desc := "([BI)Z", sig := { parameters := [(.array .byte), .int], returnType := some .boolean }, accessFlags := 10, code := some k1c11 }
def k1c12 : Code := { maxStack := 3, maxLocals := 2, code := method_13_code, exceptionTable := #[], attributes := #[] }
def k1m12 : Method := { name := "v8", desc := "([BI)Z", sig := { parameters := [(.array .byte), .int], returnType := some .boolean }, accessFlags := 10, code := some k1c12 }
/-- termstone/store/Utf8IsUtf8PinLaw -/
def k1 : Class := { plain "termstone/store/Utf8IsUtf8PinLaw" (some 0) with
  accessFlags := 49
  interfaces := #[]
  cf := some (fileOf pool1 14 #[] #[{ accessFlags := 2, nameIndex := 5, descriptorIndex := 6, attributes := #[] }, { accessFlags := 9, nameIndex := 56, descriptorIndex := 57, attributes := #[] }, { accessFlags := 10, nameIndex := 20, descriptorIndex := 21, attributes := #[] }, { accessFlags := 10, nameIndex := 53, descriptorIndex := 12, attributes := #[] }, { accessFlags := 10, nameIndex := 17, descriptorIndex := 12, attributes := #[] }, { accessFlags := 10, nameIndex := 28, descriptorIndex := 29, attributes := #[] }, { accessFlags := 10, nameIndex := 32, descriptorIndex := 29, attributes := #[] }, { accessFlags := 10, nameIndex := 35, descriptorIndex := 29, attributes := #[] }, { accessFlags := 10, nameIndex := 38, descriptorIndex := 29, attributes := #[] }, { accessFlags := 10, nameIndex := 41, descriptorIndex := 29, attributes := #[] }, { accessFlags := 10, nameIndex := 44, descriptorIndex := 29, attributes := #[] }, { accessFlags := 10, nameIndex := 47, descriptorIndex := 29, attributes := #[] }, { accessFlags := 10, nameIndex := 50, descriptorIndex := 29, attributes := #[] }] 49 2 #[] #[])
  fields := #[]
  methods := #[k1m0, k1m1, k1m2, k1m3, k1m4, k1m5, k1m6, k1m7, k1m8, k1m9, k1m10, k1m11, k1m12]
  instanceTypes := #[]
  staticTypes := #[]
  resolved := Array.replicate 63 none
  statics := none }

def pool2 : Array CpInfo := pool [(3, .class_ 4), (0, u "termstone/store/Utf8"), (1, .class_ 8), (1, u "java/lang/Object"), (0, u "<init>"), (0, u "()V"), (101, u "MOST_BYTES"), (0, u "I"), (1, u "LONGEST_FOR_GET_BYTES"), (5, u "isUtf8"), (0, u "([BII)Z")] 21

def k2m0 : Method := { name := "<init>", desc := "()V", sig := { parameters := [], returnType := none }, accessFlags := 2, code := none }
def k2c1 : Code := { maxStack := 3, maxLocals := 10, code := prog_159_method_3_code, exceptionTable := #[], attributes := #[] }
def k2m1 : Method := { name := "isUtf8", desc := "([BII)Z", sig := { parameters := [(.array .byte), .int, .int], returnType := some .boolean }, accessFlags := 9, code := some k2c1 }
/-- termstone/store/Utf8 -/
def k2 : Class := { plain "termstone/store/Utf8" (some 0) with
  accessFlags := 49
  interfaces := #[]
  cf := some (fileOf pool2 3 #[] #[{ accessFlags := 2, nameIndex := 9, descriptorIndex := 10, attributes := #[] }, { accessFlags := 9, nameIndex := 121, descriptorIndex := 122, attributes := #[] }] 49 6 #[] #[{ accessFlags := 26, nameIndex := 112, descriptorIndex := 113, attributes := #[] }, { accessFlags := 26, nameIndex := 115, descriptorIndex := 113, attributes := #[] }])
  fields := #[{ name := "MOST_BYTES", type := .int, accessFlags := 26, slot := 0, constantValue := 0 }, { name := "LONGEST_FOR_GET_BYTES", type := .int, accessFlags := 26, slot := 1, constantValue := 0 }]
  methods := #[k2m0, k2m1]
  instanceTypes := #[]
  staticTypes := #[.int, .int]
  resolved := Array.replicate 144 none
  statics := none }

def pool3 : Array CpInfo := pool [(1, u "java/lang/Cloneable"), (0, .class_ 1), (0, u "java/lang/Object"), (0, .class_ 3)] 3

/-- java/lang/Cloneable -/
def k3 : Class := { plain "java/lang/Cloneable" (some 0) with
  accessFlags := 1537
  interfaces := #[]
  cf := some (fileOf pool3 2 #[] #[] 1537 4 #[] #[])
  fields := #[]
  methods := #[]
  instanceTypes := #[]
  staticTypes := #[]
  resolved := Array.replicate 8 none
  statics := none }

def pool4 : Array CpInfo := pool [(1, u "java/io/Serializable"), (0, .class_ 1), (0, u "java/lang/Object"), (0, .class_ 3)] 3

/-- java/io/Serializable -/
def k4 : Class := { plain "java/io/Serializable" (some 0) with
  accessFlags := 1537
  interfaces := #[]
  cf := some (fileOf pool4 2 #[] #[] 1537 4 #[] #[])
  fields := #[]
  methods := #[]
  instanceTypes := #[]
  staticTypes := #[]
  resolved := Array.replicate 8 none
  statics := none }

/-- the primitive byte -/
def k5 : Class := { plain "byte" none with kind := .primitive 'B', accessFlags := 0x411 }
/-- [B -/
def k6 : Class := { plain "[B" (some 0) with kind := .array 5 .byte, interfaces := #[3, 4], accessFlags := 1041 }

/-- the primitive int -/
def k7 : Class := { plain "int" none with kind := .primitive 'I', accessFlags := 0x411 }
/-- [I -/
def k8 : Class := { plain "[I" (some 0) with kind := .array 7 .int, interfaces := #[3, 4], accessFlags := 1041 }

def heap : Heap := #[]
def classes : Array Class := #[k0, k1, k2, k3, k4, k5, k6, k7, k8]
def interned : List (Array UInt16 × Addr) := []
def slotsUsed : Nat := 0
def theMethod : MethodId := ⟨1, 1⟩
def args0 : Array Value := #[.int 5, .int 7, .int 9]
def aboutOver (below : List Frame) : State where
  vm := { classes := classes, interned := interned.toArray }
  heap := heap
  slotsUsed := slotsUsed
  threads := #[{ frames := .invoking theMethod args0 :: below }]
def below0 : List Frame := [.native { method := ⟨0, 0⟩, args := #[] }]
def about1 : State := aboutOver below0
def p0 : Program := .bare "" "" ""
def e0 : Env := launch0.env 0 0 0
theorem w_frames : about1.frames = Frame.invoking theMethod args0 :: below0 := rfl
set_option maxRecDepth 65536 in
theorem w_args : argsFit about1.vm theMethod args0 = true := by decide +kernel
set_option maxRecDepth 65536 in
theorem w_heap : heapFits about1 = true := by decide +kernel
set_option maxRecDepth 65536 in
theorem w_runnable : about1.curStatus? = some .runnable := by decide +kernel
set_option maxRecDepth 65536 in
theorem w_alone : about1.alone = true := by decide +kernel
set_option maxRecDepth 65536 in
theorem w_named : about1.methodNamed? x = some theMethod := by decide +kernel
set_option maxRecDepth 65536 in
theorem w_hears : about1.hears theMethod below0 = true := by decide +kernel
set_option maxRecDepth 65536 in
theorem w_ripe : about1.ripe theMethod args0 below0 = true := by decide +kernel
theorem w_running : about1.status = .running := rfl
set_option maxRecDepth 65536 in
theorem w_room : about1.hasRoom e0.platform room_1 = true :=
  launch0.hasRoom_least _ room_1 (by decide +kernel) (by decide +kernel) (by decide +kernel) (by decide +kernel) (by decide +kernel) (by decide +kernel)
theorem allAtoms_all (ts : List Jvm.Cond) (a : Array Jvm.Value) (st : Jvm.State) : (allAtoms ts).before a st = ts.all (fun c => c.before a st) := by
  induction ts with
  | nil => rfl
  | cons c t ih =>
    show (Jvm.Cond.and c (allAtoms t)).before a st = _
    rw [Jvm.Cond.before_and, ih, List.all_cons]
def words1 : List Jvm.Cond := Jvm.Cond.code x code maxLocals ret :: tables_1
/-- a 'code' word, met by the world's own term for the bytes: nothing is compared byte by byte -/
theorem code_word {y : MethodName} {bytes : ByteArray} {mx : Nat} {rt : Option FieldType} {a : Array Value} {s : State} {m : MethodId} {meth : Method} {c : Code} (h1 : s.methodNamed? y = some m) (h2 : s.vm.method? m = some meth) (h3 : meth.code = some c) (h4 : c.code = bytes)
    (h5 : (c.maxLocals == mx && c.exceptionTable.isEmpty && decide (c.maxStack ≤ mostOperands) && decide (meth.sig.returnType = rt) && !meth.locks && decide (parseMethodDescriptor y.desc = some meth.sig)) = true) : (Jvm.Cond.code y bytes mx rt).before a s = true := by
  simp only [Bool.and_eq_true, beq_iff_eq, Bool.not_eq_true', decide_eq_true_eq] at h5
  obtain ⟨⟨⟨⟨⟨g1, g2⟩, g3⟩, g4⟩, g5⟩, g6⟩ := h5
  simp [Cond.before, Cond.holds, Cond.value, h1, h2, h3, h4, g1, g2, g3, g4, g5, g6]
def isCode : Jvm.Cond → Bool
  | .code _ _ _ _ => true
  | _ => false
theorem all_split {L : List Jvm.Cond} {P : Jvm.Cond → Bool} (h1 : L.all (fun c => isCode c || P c) = true) (h2 : ∀ c ∈ L.filter isCode, P c = true) : L.all P = true := by
  refine List.all_eq_true.mpr fun c hc => ?_
  have h := List.all_eq_true.mp h1 c hc
  rcases Bool.eq_false_or_eq_true (isCode c) with hi | hi
  · exact h2 c (List.mem_filter.mpr ⟨hc, hi⟩)
  · simpa [hi] using h
set_option maxRecDepth 65536 in
theorem w_c0 : (Jvm.Cond.code x code maxLocals ret).before args0 about1 = true := code_word (m := ⟨1, 1⟩) (meth := k1m1) (c := k1c1) (by decide +kernel) rfl rfl rfl (by decide +kernel)
set_option maxRecDepth 65536 in
theorem w_c1 : (Jvm.Cond.code ({ cls := "termstone/store/Utf8", name := "isUtf8", desc := "([BII)Z" } : Jvm.MethodName) prog_159_method_3_code (10 : Nat) (Option.some Jvm.ClassFile.FieldType.boolean)).before args0 about1 = true := code_word (m := ⟨2, 1⟩) (meth := k2m1) (c := k2c1) (by decide +kernel) rfl rfl rfl (by decide +kernel)
set_option maxRecDepth 65536 in
theorem w_c2 : (Jvm.Cond.code ({ cls := "termstone/store/Utf8IsUtf8PinLaw", name := "wf", desc := "([BII)Z" } : Jvm.MethodName) method_5_code (3 : Nat) (Option.some Jvm.ClassFile.FieldType.boolean)).before args0 about1 = true := code_word (m := ⟨1, 4⟩) (meth := k1m4) (c := k1c4) (by decide +kernel) rfl rfl rfl (by decide +kernel)
set_option maxRecDepth 65536 in
theorem w_c3 : (Jvm.Cond.code ({ cls := "termstone/store/Utf8IsUtf8PinLaw", name := "v1", desc := "([BI)Z" } : Jvm.MethodName) method_6_code (2 : Nat) (Option.some Jvm.ClassFile.FieldType.boolean)).before args0 about1 = true := code_word (m := ⟨1, 5⟩) (meth := k1m5) (c := k1c5) (by decide +kernel) rfl rfl rfl (by decide +kernel)
set_option maxRecDepth 65536 in
theorem w_c4 : (Jvm.Cond.code ({ cls := "termstone/store/Utf8IsUtf8PinLaw", name := "c", desc := "([BII)Z" } : Jvm.MethodName) method_4_code (8 : Nat) (Option.some Jvm.ClassFile.FieldType.boolean)).before args0 about1 = true := code_word (m := ⟨1, 3⟩) (meth := k1m3) (c := k1c3) (by decide +kernel) rfl rfl rfl (by decide +kernel)
set_option maxRecDepth 65536 in
theorem w_c5 : (Jvm.Cond.code ({ cls := "termstone/store/Utf8IsUtf8PinLaw", name := "v6", desc := "([BI)Z" } : Jvm.MethodName) method_11_code (2 : Nat) (Option.some Jvm.ClassFile.FieldType.boolean)).before args0 about1 = true := code_word (m := ⟨1, 10⟩) (meth := k1m10) (c := k1c10) (by decide +kernel) rfl rfl rfl (by decide +kernel)
set_option maxRecDepth 65536 in
theorem w_c6 : (Jvm.Cond.code ({ cls := "termstone/store/Utf8IsUtf8PinLaw", name := "cont", desc := "(I)Z" } : Jvm.MethodName) method_3_code (1 : Nat) (Option.some Jvm.ClassFile.FieldType.boolean)).before args0 about1 = true := code_word (m := ⟨1, 2⟩) (meth := k1m2) (c := k1c2) (by decide +kernel) rfl rfl rfl (by decide +kernel)
set_option maxRecDepth 65536 in
theorem w_c7 : (Jvm.Cond.code ({ cls := "termstone/store/Utf8IsUtf8PinLaw", name := "v5", desc := "([BI)Z" } : Jvm.MethodName) method_10_code (2 : Nat) (Option.some Jvm.ClassFile.FieldType.boolean)).before args0 about1 = true := code_word (m := ⟨1, 9⟩) (meth := k1m9) (c := k1c9) (by decide +kernel) rfl rfl rfl (by decide +kernel)
set_option maxRecDepth 65536 in
theorem w_c8 : (Jvm.Cond.code ({ cls := "termstone/store/Utf8IsUtf8PinLaw", name := "v4", desc := "([BI)Z" } : Jvm.MethodName) method_9_code (2 : Nat) (Option.some Jvm.ClassFile.FieldType.boolean)).before args0 about1 = true := code_word (m := ⟨1, 8⟩) (meth := k1m8) (c := k1c8) (by decide +kernel) rfl rfl rfl (by decide +kernel)
set_option maxRecDepth 65536 in
theorem w_c9 : (Jvm.Cond.code ({ cls := "termstone/store/Utf8IsUtf8PinLaw", name := "v3", desc := "([BI)Z" } : Jvm.MethodName) method_8_code (2 : Nat) (Option.some Jvm.ClassFile.FieldType.boolean)).before args0 about1 = true := code_word (m := ⟨1, 7⟩) (meth := k1m7) (c := k1c7) (by decide +kernel) rfl rfl rfl (by decide +kernel)
set_option maxRecDepth 65536 in
theorem w_c10 : (Jvm.Cond.code ({ cls := "termstone/store/Utf8IsUtf8PinLaw", name := "v2", desc := "([BI)Z" } : Jvm.MethodName) method_7_code (2 : Nat) (Option.some Jvm.ClassFile.FieldType.boolean)).before args0 about1 = true := code_word (m := ⟨1, 6⟩) (meth := k1m6) (c := k1c6) (by decide +kernel) rfl rfl rfl (by decide +kernel)
set_option maxRecDepth 65536 in
theorem w_c11 : (Jvm.Cond.code ({ cls := "termstone/store/Utf8IsUtf8PinLaw", name := "v7", desc := "([BI)Z" } : Jvm.MethodName) method_12_code (2 : Nat) (Option.some Jvm.ClassFile.FieldType.boolean)).before args0 about1 = true := code_word (m := ⟨1, 11⟩) (meth := k1m11) (c := k1c11) (by decide +kernel) rfl rfl rfl (by decide +kernel)
set_option maxRecDepth 65536 in
theorem w_c12 : (Jvm.Cond.code ({ cls := "termstone/store/Utf8IsUtf8PinLaw", name := "v8", desc := "([BI)Z" } : Jvm.MethodName) method_13_code (2 : Nat) (Option.some Jvm.ClassFile.FieldType.boolean)).before args0 about1 = true := code_word (m := ⟨1, 12⟩) (meth := k1m12) (c := k1c12) (by decide +kernel) rfl rfl rfl (by decide +kernel)
def codes1 : List Jvm.Cond := [Jvm.Cond.code x code maxLocals ret, Jvm.Cond.code ({ cls := "termstone/store/Utf8", name := "isUtf8", desc := "([BII)Z" } : Jvm.MethodName) prog_159_method_3_code (10 : Nat) (Option.some Jvm.ClassFile.FieldType.boolean), Jvm.Cond.code ({ cls := "termstone/store/Utf8IsUtf8PinLaw", name := "wf", desc := "([BII)Z" } : Jvm.MethodName) method_5_code (3 : Nat) (Option.some Jvm.ClassFile.FieldType.boolean), Jvm.Cond.code ({ cls := "termstone/store/Utf8IsUtf8PinLaw", name := "v1", desc := "([BI)Z" } : Jvm.MethodName) method_6_code (2 : Nat) (Option.some Jvm.ClassFile.FieldType.boolean), Jvm.Cond.code ({ cls := "termstone/store/Utf8IsUtf8PinLaw", name := "c", desc := "([BII)Z" } : Jvm.MethodName) method_4_code (8 : Nat) (Option.some Jvm.ClassFile.FieldType.boolean), Jvm.Cond.code ({ cls := "termstone/store/Utf8IsUtf8PinLaw", name := "v6", desc := "([BI)Z" } : Jvm.MethodName) method_11_code (2 : Nat) (Option.some Jvm.ClassFile.FieldType.boolean), Jvm.Cond.code ({ cls := "termstone/store/Utf8IsUtf8PinLaw", name := "cont", desc := "(I)Z" } : Jvm.MethodName) method_3_code (1 : Nat) (Option.some Jvm.ClassFile.FieldType.boolean), Jvm.Cond.code ({ cls := "termstone/store/Utf8IsUtf8PinLaw", name := "v5", desc := "([BI)Z" } : Jvm.MethodName) method_10_code (2 : Nat) (Option.some Jvm.ClassFile.FieldType.boolean), Jvm.Cond.code ({ cls := "termstone/store/Utf8IsUtf8PinLaw", name := "v4", desc := "([BI)Z" } : Jvm.MethodName) method_9_code (2 : Nat) (Option.some Jvm.ClassFile.FieldType.boolean), Jvm.Cond.code ({ cls := "termstone/store/Utf8IsUtf8PinLaw", name := "v3", desc := "([BI)Z" } : Jvm.MethodName) method_8_code (2 : Nat) (Option.some Jvm.ClassFile.FieldType.boolean), Jvm.Cond.code ({ cls := "termstone/store/Utf8IsUtf8PinLaw", name := "v2", desc := "([BI)Z" } : Jvm.MethodName) method_7_code (2 : Nat) (Option.some Jvm.ClassFile.FieldType.boolean), Jvm.Cond.code ({ cls := "termstone/store/Utf8IsUtf8PinLaw", name := "v7", desc := "([BI)Z" } : Jvm.MethodName) method_12_code (2 : Nat) (Option.some Jvm.ClassFile.FieldType.boolean), Jvm.Cond.code ({ cls := "termstone/store/Utf8IsUtf8PinLaw", name := "v8", desc := "([BI)Z" } : Jvm.MethodName) method_13_code (2 : Nat) (Option.some Jvm.ClassFile.FieldType.boolean)]
set_option maxRecDepth 65536 in
theorem codes_eq : words1.filter isCode = codes1 := rfl
theorem w_codes : ∀ c ∈ words1.filter isCode, c.before args0 about1 = true := by
  rw [codes_eq]
  intro c hc
  simp only [codes1, List.mem_cons, List.not_mem_nil, or_false] at hc
  rcases hc with rfl | rfl | rfl | rfl | rfl | rfl | rfl | rfl | rfl | rfl | rfl | rfl | rfl
  · exact w_c0
  · exact w_c1
  · exact w_c2
  · exact w_c3
  · exact w_c4
  · exact w_c5
  · exact w_c6
  · exact w_c7
  · exact w_c8
  · exact w_c9
  · exact w_c10
  · exact w_c11
  · exact w_c12
set_option maxRecDepth 65536 in
theorem w_t1 : (words1.take 24).all (fun c => isCode c || c.before args0 about1) = true := by decide +kernel
set_option maxRecDepth 65536 in
theorem w_t2 : (words1.drop 24).all (fun c => isCode c || c.before args0 about1) = true := by decide +kernel
theorem w_tables : (allAtoms (Jvm.Cond.code x code maxLocals ret :: tables_1)).before args0 about1 = true := by
  rw [allAtoms_all]
  show words1.all (fun c => c.before args0 about1) = true
  refine all_split ?_ w_codes
  rw [← List.take_append_drop 24 words1, List.all_append, w_t1, w_t2]
  rfl
set_option maxRecDepth 65536 in
theorem w_case : (Jvm.Cond.and given_1 narrow_1).before args0 about1 = true := by decide +kernel
theorem w_applies : (headSpec (Jvm.Cond.code x code maxLocals ret :: tables_1) room_1).applies x e0.platform about1 = true :=
  (Spec.applies_iff w_frames).mpr ⟨w_running, w_runnable, w_alone, w_named, w_hears, w_ripe, w_room, w_tables⟩
theorem atStart : AtStart classFile x code maxLocals ret World_1 tables_1 room_1 Calls_1 rest_1 Pre_1 launch0 p0 e0 about1 theMethod args0 below0 :=
  ⟨lists_1, trivial, launch0.admits_env _ _ _, launch0.least_env, fairChoices_fair.cas, fairChoices_fair.clock, w_frames, w_args, w_heap, w_applies, trivial, trivial, w_case⟩
end start1
theorem witness_1 : WitnessClaimed_1 := ⟨start1.p0, start1.e0, start1.about1, start1.theMethod, start1.args0, start1.below0, start1.atStart⟩
end Jvm.Pilot.@@N@@
