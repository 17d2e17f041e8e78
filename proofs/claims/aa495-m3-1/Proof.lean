import JvmDerived
import JvmDerived.Pilot.@@N@@Statement
import JvmDerived.Pilot.@@N@@Code
set_option linter.unusedVariables false
set_option linter.unusedSimpArgs false
namespace Jvm.Own
open Jvm Jvm.ClassFile Sem Op Lib Jvm.Free Jvm.Stand Jvm.LawKit Jvm.RoadKit
def OHr (p : Program) (l : Launch) (e : Env) (R : Room) (s : State) (m : MethodId) (args : Array Value) (below : List Frame) (meth : Method) (c : Code) (Z : State) (n0 : Nat) (own nm : String) (code : ByteArray) (maxL : Nat) (ret : Option FieldType) (T : State) (h : Heap) (ce sl : Nat) : Prop :=
  (p.tables.exec = Jvm.exec ∧ Z.Warmed39 s.vm ∧ c.code = code ∧ c.maxLocals = maxL ∧ s.vm.findClass own = some m.cls ∧ meth.name = nm ∧ meth.sig.returnType = ret ∧ meth.locks = false) ∧
  ∃ locs, Stand p l e R s m args below meth c T locs ce sl ∧ T.heap = h ∧ Fr n0 locs ∧ n0 ≤ h.size
def OEnds (p : Program) (e : Env) (below : List Frame) (s : State) (n0 : Nat) (Q : Option Value → Heap → Prop) (C S : Nat) (T : State) (g : JFrame) : Prop :=
  ∃ s₂ o, Steps p.tables e below (T.setTop g) s₂ ∧ s₂.status = .running ∧ Ended s₂ below o ∧ ∃ v L, o = .returned v ∧ (Fr n0 L ∧ Q v s₂.heap) ∧ FrameEnd s o s₂ L C S
def OMet (l : Launch) (Z : State) (n0 : Nat) (y : MethodName) (bytes : ByteArray) (maxL : Nat) (ret : Option FieldType) (rm : Room) (as : Array Value) (h0 : Heap) (Q : Option Value → Heap → Prop) : Prop :=
  ∀ ws, MetFree l y (head1 (Cond.code y bytes maxL ret :: ws) rm) (fun a U => a = as ∧ Z.Warmed39 U.vm ∧ U.heap = h0) (fun _ _ _ _ _ => True) (fun _ U o U' => ∃ v L, o = .returned v ∧ (Fr n0 L ∧ h0.size ≤ U'.heap.size ∧ Q v U'.heap) ∧ FrameEnd U o U' L rm.cells rm.slots)
theorem OMet.of {l : Launch} {Z : State} {n0 : Nat} {y : MethodName} {bytes : ByteArray} {maxL : Nat} {ret : Option FieldType} {rm : Room} {as : Array Value} {h0 : Heap} {Q : Option Value → Heap → Prop} {Ls : Array Slot}
    (pn : plainFor y = true) (Z0 : n0 ≤ h0.size) (ef : ∀ m, entryFrame m as maxL = mkF m 0 Ls [])
    (body : ∀ p e s m below meth c T, OHr p l e rm s m as below meth c Z n0 y.cls y.name bytes maxL ret T h0 0 0 → OEnds p e below s n0 Q rm.cells rm.slots T (mkF m 0 Ls [])) : OMet l Z n0 y bytes maxL ret rm as h0 Q := by
  intro ws
  refine MetFree.of_bodySF pn hisR ?_
  intro p e s m args below meth c s₁ Bd hml0 hP hK
  obtain ⟨rfl, hZ, hh⟩ := hP
  have X0 : Stand p l e rm s m _ below meth c s₁ [] 0 0 := Stand.of_body Bd
  have e0 : s₁.heap = h0 := by rw [← hh, Bd.state]; rfl
  rw [ef]
  obtain ⟨s₂, o, g1, g2, g3, v, L, g4, ⟨g5, g6⟩, g7⟩ := body p e s m below meth c s₁ ⟨⟨Bd.exec, hZ, Bd.bytes, hml0, findClass_of_methodNamed Bd.named, (name_of_methodNamed Bd.named Bd.method).1, Bd.returns, Bd.notSynchronized⟩, [], X0, e0, Fr.nil n0, Z0⟩
  exact ⟨s₂, o, g1, g2, g3, v, L, g4, ⟨g5, by rw [← hh]; exact g7.2.2.2.1, g6⟩, g7⟩
theorem OMet.mono {l : Launch} {Z : State} {n0 : Nat} {y : MethodName} {bytes : ByteArray} {maxL : Nat} {ret : Option FieldType} {rm : Room} {as : Array Value} {h0 : Heap} {Q Q' : Option Value → Heap → Prop}
    (M : OMet l Z n0 y bytes maxL ret rm as h0 Q) (q : ∀ v h, Q v h → Q' v h) : OMet l Z n0 y bytes maxL ret rm as h0 Q' := by
  intro ws p e h1 h2 h3 s m args below h4 h5 h6 h7
  obtain ⟨n, o, k1, k2, k3, v, L, k4, ⟨k5, k5', k6⟩, k7⟩ := M ws p e h1 h2 h3 s m args below h4 h5 h6 h7
  exact ⟨n, o, k1, k2, k3, v, L, k4, ⟨k5, k5', q _ _ k6⟩, k7⟩
/-! arrays by the list of their values -/
def OAry (Z : State) (h : Heap) (a : Addr) (ty : FieldType) (vs : List Value) : Prop := ∃ c : Cell, Arr Z h a c ty ∧ c.slots.toList = vs ∧ vs.length < 2 ^ 31 ∧ ∀ v ∈ vs, fits ty v = true
section Facts
variable {Z : State} {h h' : Heap} {a b : Nat} {ty : FieldType} {vs : List Value} {v : Value} {sl : Nat} {ws : List Addr} {i : Nat}
theorem OAry.lt (A : OAry Z h a ty vs) : a < h.size := by obtain ⟨c, A, -⟩ := A; exact A.lt
theorem OAry.ext (A : OAry Z h a ty vs) (E : Ext h h') : OAry Z h' a ty vs := by obtain ⟨c, A, r⟩ := A; exact ⟨c, A.ext E, r⟩
theorem OAry.other (A : OAry Z h b ty vs) (W : Wr h h' a sl v) (q : b ≠ a) : OAry Z h' b ty vs := by obtain ⟨c, A, r⟩ := A; exact ⟨c, A.other W q, r⟩
theorem OAry.keep (A : OAry Z h a ty vs) (K : Keep h h' ws) (q : a ∉ ws) : OAry Z h' a ty vs := by obtain ⟨c, A, r⟩ := A; exact ⟨c, ⟨K.2.1 _ _ A.1 q, A.2⟩, r⟩
theorem OAry.len (A : OAry Z h a ty vs) : vs.length < 2 ^ 31 := by obtain ⟨c, A, -, r, -⟩ := A; exact r
theorem OAry.fit (A : OAry Z h a ty vs) (q : v ∈ vs) : fits ty v = true := by obtain ⟨c, A, -, -, r⟩ := A; exact r v q
theorem OAry.new {cA : ClassId} {n : Int32} (A : Arr Z h a (newA cA ty n) ty) (hf : fits ty (defaultValue ty) = true) : OAry Z h a ty (List.replicate n.toNatClampNeg (defaultValue ty)) := by
  refine ⟨_, A, by simp [newA], ?_, ?_⟩
  · rw [List.length_replicate]
    have := n.toInt_lt
    have e : n.toNatClampNeg = n.toInt.toNat := rfl
    omega
  · intro v hv
    rw [List.eq_of_mem_replicate hv]
    exact hf
theorem OAry.wr (A : OAry Z h a ty vs) (W : Wr h h' a i v) (hf : fits ty v = true) : OAry Z h' a ty (vs.set i v) := by
  obtain ⟨c, A, r1, r2, r3⟩ := A
  refine ⟨_, A.same W, by simp [Cell.setSlot, r1], by simpa using r2, fun w hw => ?_⟩
  rcases List.mem_or_eq_of_mem_set hw with q | q
  · exact r3 w q
  · rw [q]; exact hf
theorem OAry.uniq {ty' : FieldType} {vs' : List Value} (A : OAry Z h a ty vs) (B : OAry Z h a ty' vs') : vs = vs' := by
  obtain ⟨c, A, r1, -⟩ := A
  obtain ⟨c', B, r1', -⟩ := B
  have e : c = c' := Option.some.inj (A.1.symm.trans B.1)
  subst e
  rw [← r1, ← r1']
theorem nat_idx {j : Int32} {i : Nat} (hj : j.toInt = (i : Int)) : j.toNatClampNeg = i ∧ ¬ j < 0 := by
  have e : j.toNatClampNeg = j.toInt.toNat := rfl
  refine ⟨by omega, ?_⟩
  rw [Int32.lt_iff_toInt_lt]
  have : (0 : Int32).toInt = 0 := rfl
  omega
theorem Fr.one {k : Nat} {L : List Loc} {a : Addr} {i : Nat} (N : Fr k L) (q : k ≤ a) : Fr k (L ++ [⟨a, i⟩]) := Fr.app N (fun y hy => by
  have e : y = ⟨a, i⟩ := List.mem_singleton.mp hy
  subst e; exact q)
theorem ext_size (E : Ext h h') : h.size ≤ h'.size := E.1
end Facts
section Go
variable {p : Program} {l : Launch} {e : Env} {R : Room} {s : State} {m : MethodId} {args : Array Value} {below : List Frame} {meth : Method} {c : Code} {Z : State} {n0 : Nat} {own nm : String} {code : ByteArray} {maxL : Nat} {ret : Option FieldType} {T : State} {h : Heap} {ce sl : Nat} {Q : Option Value → Heap → Prop} {C S : Nat} {pc : Nat} {Ls : Array Slot} {st : List Value} {a0 : Array Value}
theorem OHr.mono (H : OHr p l e R s m args below meth c Z n0 own nm code maxL ret T h ce sl) {ce' sl' : Nat} (q1 : ce ≤ ce') (q2 : sl ≤ sl') : OHr p l e R s m args below meth c Z n0 own nm code maxL ret T h ce' sl' := by
  obtain ⟨K, locs, X, r⟩ := H
  exact ⟨K, locs, { X with same := X.same.mono q1 q2 }, r⟩
theorem OHr.z0 (H : OHr p l e R s m args below meth c Z n0 own nm code maxL ret T h ce sl) : n0 ≤ h.size := by obtain ⟨K, locs, X, r1, r2, r3⟩ := H; exact r3
theorem go {T' : State} {g g' : JFrame} (q : ∀ t, Steps p.tables e below (T'.setTop g') t → Steps p.tables e below (T.setTop g) t) (k : OEnds p e below s n0 Q C S T' (g')) : OEnds p e below s n0 Q C S T (g) := by
  obtain ⟨a, o, h1, h2⟩ := k
  exact ⟨a, o, q _ h1, h2⟩
theorem go1 {T' : State} {g g' : JFrame} (q : Steps p.tables e below (T.setTop g) (T'.setTop g')) (k : OEnds p e below s n0 Q C S T' (g')) : OEnds p e below s n0 Q C S T (g) := by
  obtain ⟨a, o, h1, h2⟩ := k
  exact ⟨a, o, q.trans h1, h2⟩
theorem cut {A : Type} (P : A → Prop) (g : A → JFrame) {g0 : JFrame} (k : ∀ a, P a → OEnds p e below s n0 Q C S T (g a)) (main : (∀ a, P a → OEnds p e below s n0 Q C S T (g a)) → OEnds p e below s n0 Q C S T (g0)) : OEnds p e below s n0 Q C S T (g0) := main k
theorem cast {g g' : JFrame} (q : g = g') (k : OEnds p e below s n0 Q C S T (g')) : OEnds p e below s n0 Q C S T (g) := q ▸ k
theorem iload_n (H : OHr p l e R s m args below meth c Z n0 own nm code maxL ret T h ce sl) {k : Fin 4} {v : Int32} (hd : decode code pc = .ok (.iload_n k, 1)) (hl : Ls[k.val]? = some (.val (.int v))) (k : OEnds p e below s n0 Q C S T (mkF m (pc + 1) Ls (.int v :: st))) : OEnds p e below s n0 Q C S T (mkF m pc Ls (st)) := by
  obtain ⟨⟨hx, hZ, hby, hml, hown, hnm, hrt, hlk⟩, locs, X, eT, N, z0⟩ := H
  exact go (fun t q => XS.iloadN X.here hx rfl (hb hby hd) hl q) k
theorem lload_n (H : OHr p l e R s m args below meth c Z n0 own nm code maxL ret T h ce sl) {k : Fin 4} {v : Int64} (hd : decode code pc = .ok (.lload_n k, 1)) (hl : Ls[k.val]? = some (.val (.long v))) (k : OEnds p e below s n0 Q C S T (mkF m (pc + 1) Ls (.long v :: st))) : OEnds p e below s n0 Q C S T (mkF m pc Ls (st)) := by
  obtain ⟨⟨hx, hZ, hby, hml, hown, hnm, hrt, hlk⟩, locs, X, eT, N, z0⟩ := H
  exact go (fun t q => XT.lloadN X.here hx rfl (hb hby hd) hl q) k
theorem iload (H : OHr p l e R s m args below meth c Z n0 own nm code maxL ret T h ce sl) {k : Nat} {v : Int32} (hd : decode code pc = .ok (.iload k, 2)) (hl : Ls[k]? = some (.val (.int v))) (k : OEnds p e below s n0 Q C S T (mkF m (pc + 2) Ls (.int v :: st))) : OEnds p e below s n0 Q C S T (mkF m pc Ls (st)) := by
  obtain ⟨⟨hx, hZ, hby, hml, hown, hnm, hrt, hlk⟩, locs, X, eT, N, z0⟩ := H
  exact go (fun t q => XS.iload X.here hx rfl (hb hby hd) hl q) k
theorem lload (H : OHr p l e R s m args below meth c Z n0 own nm code maxL ret T h ce sl) {k : Nat} {v : Int64} (hd : decode code pc = .ok (.lload k, 2)) (hl : Ls[k]? = some (.val (.long v))) (k : OEnds p e below s n0 Q C S T (mkF m (pc + 2) Ls (.long v :: st))) : OEnds p e below s n0 Q C S T (mkF m pc Ls (st)) := by
  obtain ⟨⟨hx, hZ, hby, hml, hown, hnm, hrt, hlk⟩, locs, X, eT, N, z0⟩ := H
  exact go (fun t q => XT.lload X.here hx rfl (hb hby hd) hl q) k
theorem aload_n (H : OHr p l e R s m args below meth c Z n0 own nm code maxL ret T h ce sl) {k : Fin 4} {v : Value} (hd : decode code pc = .ok (.aload_n k, 1)) (hl : Ls[k.val]? = some (.val v)) (hv : v.isRef = true) (k : OEnds p e below s n0 Q C S T (mkF m (pc + 1) Ls (v :: st))) : OEnds p e below s n0 Q C S T (mkF m pc Ls (st)) := by
  obtain ⟨⟨hx, hZ, hby, hml, hown, hnm, hrt, hlk⟩, locs, X, eT, N, z0⟩ := H
  exact go (fun t q => XS.aloadN X.here hx rfl (hb hby hd) hl hv q) k
theorem aload (H : OHr p l e R s m args below meth c Z n0 own nm code maxL ret T h ce sl) {k : Nat} {v : Value} (hd : decode code pc = .ok (.aload k, 2)) (hl : Ls[k]? = some (.val v)) (hv : v.isRef = true) (k : OEnds p e below s n0 Q C S T (mkF m (pc + 2) Ls (v :: st))) : OEnds p e below s n0 Q C S T (mkF m pc Ls (st)) := by
  obtain ⟨⟨hx, hZ, hby, hml, hown, hnm, hrt, hlk⟩, locs, X, eT, N, z0⟩ := H
  exact go (fun t q => XS.aload X.here hx rfl (hb hby hd) hl hv q) k
theorem istore_n (H : OHr p l e R s m args below meth c Z n0 own nm code maxL ret T h ce sl) {k : Fin 4} {v : Int32} (l' : Array Slot) (hd : decode code pc = .ok (.istore_n k, 1)) (hl : storeLocals Ls k.val (.int v) = some l') (k : OEnds p e below s n0 Q C S T (mkF m (pc + 1) l' (st))) : OEnds p e below s n0 Q C S T (mkF m pc Ls (.int v :: st)) := by
  obtain ⟨⟨hx, hZ, hby, hml, hown, hnm, hrt, hlk⟩, locs, X, eT, N, z0⟩ := H
  exact go (fun t q => XS.istoreN X.here hx rfl (hb hby hd) rfl hl q) k
theorem istore (H : OHr p l e R s m args below meth c Z n0 own nm code maxL ret T h ce sl) {k : Nat} {v : Int32} (l' : Array Slot) (hd : decode code pc = .ok (.istore k, 2)) (hl : storeLocals Ls k (.int v) = some l') (k : OEnds p e below s n0 Q C S T (mkF m (pc + 2) l' (st))) : OEnds p e below s n0 Q C S T (mkF m pc Ls (.int v :: st)) := by
  obtain ⟨⟨hx, hZ, hby, hml, hown, hnm, hrt, hlk⟩, locs, X, eT, N, z0⟩ := H
  exact go (fun t q => XS.istore X.here hx rfl (hb hby hd) rfl hl q) k
theorem lstore_n (H : OHr p l e R s m args below meth c Z n0 own nm code maxL ret T h ce sl) {k : Fin 4} {v : Int64} (l' : Array Slot) (hd : decode code pc = .ok (.lstore_n k, 1)) (hl : storeLocals Ls k.val (.long v) = some l') (k : OEnds p e below s n0 Q C S T (mkF m (pc + 1) l' (st))) : OEnds p e below s n0 Q C S T (mkF m pc Ls (.long v :: st)) := by
  obtain ⟨⟨hx, hZ, hby, hml, hown, hnm, hrt, hlk⟩, locs, X, eT, N, z0⟩ := H
  exact go (fun t q => XT.lstoreN X.here hx rfl (hb hby hd) rfl hl q) k
theorem lstore (H : OHr p l e R s m args below meth c Z n0 own nm code maxL ret T h ce sl) {k : Nat} {v : Int64} (l' : Array Slot) (hd : decode code pc = .ok (.lstore k, 2)) (hl : storeLocals Ls k (.long v) = some l') (k : OEnds p e below s n0 Q C S T (mkF m (pc + 2) l' (st))) : OEnds p e below s n0 Q C S T (mkF m pc Ls (.long v :: st)) := by
  obtain ⟨⟨hx, hZ, hby, hml, hown, hnm, hrt, hlk⟩, locs, X, eT, N, z0⟩ := H
  exact go (fun t q => XT.lstore X.here hx rfl (hb hby hd) rfl hl q) k
theorem astore_n (H : OHr p l e R s m args below meth c Z n0 own nm code maxL ret T h ce sl) {k : Fin 4} {v : Value} (l' : Array Slot) (hd : decode code pc = .ok (.astore_n k, 1)) (hv : v.isRef = true) (hl : storeLocals Ls k.val v = some l') (k : OEnds p e below s n0 Q C S T (mkF m (pc + 1) l' (st))) : OEnds p e below s n0 Q C S T (mkF m pc Ls (v :: st)) := by
  obtain ⟨⟨hx, hZ, hby, hml, hown, hnm, hrt, hlk⟩, locs, X, eT, N, z0⟩ := H
  exact go (fun t q => XS.astoreN X.here hx rfl (hb hby hd) rfl hv hl q) k
theorem astore (H : OHr p l e R s m args below meth c Z n0 own nm code maxL ret T h ce sl) {k : Nat} {v : Value} (l' : Array Slot) (hd : decode code pc = .ok (.astore k, 2)) (hv : v.isRef = true) (hl : storeLocals Ls k v = some l') (k : OEnds p e below s n0 Q C S T (mkF m (pc + 2) l' (st))) : OEnds p e below s n0 Q C S T (mkF m pc Ls (v :: st)) := by
  obtain ⟨⟨hx, hZ, hby, hml, hown, hnm, hrt, hlk⟩, locs, X, eT, N, z0⟩ := H
  exact go (fun t q => XS.astore X.here hx rfl (hb hby hd) rfl hv hl q) k
theorem iinc (H : OHr p l e R s m args below meth c Z n0 own nm code maxL ret T h ce sl) {k : Nat} {cst : Int} {x : Int32} (d : Int32) (l' : Array Slot) (hd : decode code pc = .ok (.iinc k cst, 3)) (hl : Ls[k]? = some (.val (.int x))) (hv : Int32.ofInt cst = d) (hl' : storeLocals Ls k (.int (x + d)) = some l') (k : OEnds p e below s n0 Q C S T (mkF m (pc + 3) l' (st))) : OEnds p e below s n0 Q C S T (mkF m pc Ls (st)) := by
  obtain ⟨⟨hx, hZ, hby, hml, hown, hnm, hrt, hlk⟩, locs, X, eT, N, z0⟩ := H
  exact go (fun t q => XS.iinc X.here hx rfl (hb hby hd) hl (by rw [hv]; exact hl') q) k
theorem iinc_c (H : OHr p l e R s m args below meth c Z n0 own nm code maxL ret T h ce sl) {k : Nat} {cst : Int} {x : Int32} (r : Int32) (l' : Array Slot) (hd : decode code pc = .ok (.iinc k cst, 3)) (hl : Ls[k]? = some (.val (.int x))) (hr : x + Int32.ofInt cst = r) (hl' : storeLocals Ls k (.int r) = some l') (kk : OEnds p e below s n0 Q C S T (mkF m (pc + 3) l' st)) : OEnds p e below s n0 Q C S T (mkF m pc Ls st) := by
  subst hr
  exact iinc H _ l' hd hl rfl hl' kk
theorem iconst (H : OHr p l e R s m args below meth c Z n0 own nm code maxL ret T h ce sl) {i : Int} (v : Int32) (hd : decode code pc = .ok (.iconst i, 1)) (hv : Int32.ofInt i = v) (k : OEnds p e below s n0 Q C S T (mkF m (pc + 1) Ls (.int v :: st))) : OEnds p e below s n0 Q C S T (mkF m pc Ls st) := by
  obtain ⟨⟨hx, hZ, hby, hml, hown, hnm, hrt, hlk⟩, locs, X, eT, N, z0⟩ := H
  subst hv
  exact go (fun t q => XS.iconst X.here hx rfl (hb hby hd) q) k
theorem bipush (H : OHr p l e R s m args below meth c Z n0 own nm code maxL ret T h ce sl) {i : Int} (v : Int32) (hd : decode code pc = .ok (.bipush i, 2)) (hv : (Int8.ofInt i).toInt32 = v) (k : OEnds p e below s n0 Q C S T (mkF m (pc + 2) Ls (.int v :: st))) : OEnds p e below s n0 Q C S T (mkF m pc Ls st) := by
  obtain ⟨⟨hx, hZ, hby, hml, hown, hnm, hrt, hlk⟩, locs, X, eT, N, z0⟩ := H
  subst hv
  exact go (fun t q => XS.bipush X.here hx rfl (hb hby hd) q) k
theorem sipush (H : OHr p l e R s m args below meth c Z n0 own nm code maxL ret T h ce sl) {i : Int} (v : Int32) (hd : decode code pc = .ok (.sipush i, 3)) (hv : (Int16.ofInt i).toInt32 = v) (k : OEnds p e below s n0 Q C S T (mkF m (pc + 3) Ls (.int v :: st))) : OEnds p e below s n0 Q C S T (mkF m pc Ls st) := by
  obtain ⟨⟨hx, hZ, hby, hml, hown, hnm, hrt, hlk⟩, locs, X, eT, N, z0⟩ := H
  subst hv
  exact go (fun t q => XS.sipush X.here hx rfl (hb hby hd) q) k
theorem lconst (H : OHr p l e R s m args below meth c Z n0 own nm code maxL ret T h ce sl) {i : Fin 2} (v : Int64) (hd : decode code pc = .ok (.lconst i, 1)) (hv : Int64.ofNat i = v) (k : OEnds p e below s n0 Q C S T (mkF m (pc + 1) Ls (.long v :: st))) : OEnds p e below s n0 Q C S T (mkF m pc Ls st) := by
  obtain ⟨⟨hx, hZ, hby, hml, hown, hnm, hrt, hlk⟩, locs, X, eT, N, z0⟩ := H
  subst hv
  exact go (fun t q => XT.lconst X.here hx rfl (hb hby hd) q) k
theorem aconst_null (H : OHr p l e R s m args below meth c Z n0 own nm code maxL ret T h ce sl)  (hd : decode code pc = .ok (.aconst_null, 1))  (k : OEnds p e below s n0 Q C S T (mkF m (pc + 1) Ls (.null :: st))) : OEnds p e below s n0 Q C S T (mkF m pc Ls (st)) := by
  obtain ⟨⟨hx, hZ, hby, hml, hown, hnm, hrt, hlk⟩, locs, X, eT, N, z0⟩ := H
  exact go (fun t q => XS.aconstNull X.here hx rfl (hb hby hd) q) k
theorem ldc (H : OHr p l e R s m args below meth c Z n0 own nm code maxL ret T h ce sl) {i : Nat} {v : Int32} (hd : decode code pc = .ok (.ldc i, 2)) (w : (Cond.constant own i v).before a0 Z = true) (k : OEnds p e below s n0 Q C S T (mkF m (pc + 2) Ls (.int v :: st))) : OEnds p e below s n0 Q C S T (mkF m pc Ls st) := by
  obtain ⟨⟨hx, hZ, hby, hml, hown, hnm, hrt, hlk⟩, locs, X, eT, N, z0⟩ := H
  exact go (X.ldcInt hx hown (mvT hZ w) rfl (hb hby hd)) k
theorem ldc2_w (H : OHr p l e R s m args below meth c Z n0 own nm code maxL ret T h ce sl) {i : Nat} {v : Int64} (hd : decode code pc = .ok (.ldc2_w i, 3)) (w : (Cond.constantLong own i v).before a0 Z = true) (k : OEnds p e below s n0 Q C S T (mkF m (pc + 3) Ls (.long v :: st))) : OEnds p e below s n0 Q C S T (mkF m pc Ls st) := by
  obtain ⟨⟨hx, hZ, hby, hml, hown, hnm, hrt, hlk⟩, locs, X, eT, N, z0⟩ := H
  exact go (X.ldc2Long hx hown (mvT hZ w) rfl (hb hby hd)) k
theorem iadd (H : OHr p l e R s m args below meth c Z n0 own nm code maxL ret T h ce sl) {x y : Int32} (hd : decode code pc = .ok (.iadd, 1))  (k : OEnds p e below s n0 Q C S T (mkF m (pc + 1) Ls (.int (x + y) :: st))) : OEnds p e below s n0 Q C S T (mkF m pc Ls (.int y :: .int x :: st)) := by
  obtain ⟨⟨hx, hZ, hby, hml, hown, hnm, hrt, hlk⟩, locs, X, eT, N, z0⟩ := H
  exact go (fun t q => XS.iadd X.here hx rfl (hb hby hd) rfl q) k
theorem isub (H : OHr p l e R s m args below meth c Z n0 own nm code maxL ret T h ce sl) {x y : Int32} (hd : decode code pc = .ok (.isub, 1))  (k : OEnds p e below s n0 Q C S T (mkF m (pc + 1) Ls (.int (x - y) :: st))) : OEnds p e below s n0 Q C S T (mkF m pc Ls (.int y :: .int x :: st)) := by
  obtain ⟨⟨hx, hZ, hby, hml, hown, hnm, hrt, hlk⟩, locs, X, eT, N, z0⟩ := H
  exact go (fun t q => XS.isub X.here hx rfl (hb hby hd) rfl q) k
theorem imul (H : OHr p l e R s m args below meth c Z n0 own nm code maxL ret T h ce sl) {x y : Int32} (hd : decode code pc = .ok (.imul, 1))  (k : OEnds p e below s n0 Q C S T (mkF m (pc + 1) Ls (.int (x * y) :: st))) : OEnds p e below s n0 Q C S T (mkF m pc Ls (.int y :: .int x :: st)) := by
  obtain ⟨⟨hx, hZ, hby, hml, hown, hnm, hrt, hlk⟩, locs, X, eT, N, z0⟩ := H
  exact go (fun t q => XS.imul X.here hx rfl (hb hby hd) rfl q) k
theorem iand (H : OHr p l e R s m args below meth c Z n0 own nm code maxL ret T h ce sl) {x y : Int32} (hd : decode code pc = .ok (.iand, 1))  (k : OEnds p e below s n0 Q C S T (mkF m (pc + 1) Ls (.int (x &&& y) :: st))) : OEnds p e below s n0 Q C S T (mkF m pc Ls (.int y :: .int x :: st)) := by
  obtain ⟨⟨hx, hZ, hby, hml, hown, hnm, hrt, hlk⟩, locs, X, eT, N, z0⟩ := H
  exact go (fun t q => XS.iand X.here hx rfl (hb hby hd) rfl q) k
theorem ior (H : OHr p l e R s m args below meth c Z n0 own nm code maxL ret T h ce sl) {x y : Int32} (hd : decode code pc = .ok (.ior, 1))  (k : OEnds p e below s n0 Q C S T (mkF m (pc + 1) Ls (.int (x ||| y) :: st))) : OEnds p e below s n0 Q C S T (mkF m pc Ls (.int y :: .int x :: st)) := by
  obtain ⟨⟨hx, hZ, hby, hml, hown, hnm, hrt, hlk⟩, locs, X, eT, N, z0⟩ := H
  exact go (fun t q => XT.ior X.here hx rfl (hb hby hd) rfl q) k
theorem ixor (H : OHr p l e R s m args below meth c Z n0 own nm code maxL ret T h ce sl) {x y : Int32} (hd : decode code pc = .ok (.ixor, 1))  (k : OEnds p e below s n0 Q C S T (mkF m (pc + 1) Ls (.int (x ^^^ y) :: st))) : OEnds p e below s n0 Q C S T (mkF m pc Ls (.int y :: .int x :: st)) := by
  obtain ⟨⟨hx, hZ, hby, hml, hown, hnm, hrt, hlk⟩, locs, X, eT, N, z0⟩ := H
  exact go (fun t q => XT.ixor X.here hx rfl (hb hby hd) rfl q) k
theorem ishl (H : OHr p l e R s m args below meth c Z n0 own nm code maxL ret T h ce sl) {x y : Int32} (hd : decode code pc = .ok (.ishl, 1))  (k : OEnds p e below s n0 Q C S T (mkF m (pc + 1) Ls (.int (x <<< (y &&& 31)) :: st))) : OEnds p e below s n0 Q C S T (mkF m pc Ls (.int y :: .int x :: st)) := by
  obtain ⟨⟨hx, hZ, hby, hml, hown, hnm, hrt, hlk⟩, locs, X, eT, N, z0⟩ := H
  exact go (fun t q => XT.ishl X.here hx rfl (hb hby hd) rfl q) k
theorem ishr (H : OHr p l e R s m args below meth c Z n0 own nm code maxL ret T h ce sl) {x y : Int32} (hd : decode code pc = .ok (.ishr, 1))  (k : OEnds p e below s n0 Q C S T (mkF m (pc + 1) Ls (.int (x >>> (y &&& 31)) :: st))) : OEnds p e below s n0 Q C S T (mkF m pc Ls (.int y :: .int x :: st)) := by
  obtain ⟨⟨hx, hZ, hby, hml, hown, hnm, hrt, hlk⟩, locs, X, eT, N, z0⟩ := H
  exact go (fun t q => XT.ishr X.here hx rfl (hb hby hd) rfl q) k
theorem iushr (H : OHr p l e R s m args below meth c Z n0 own nm code maxL ret T h ce sl) {x y : Int32} (hd : decode code pc = .ok (.iushr, 1))  (k : OEnds p e below s n0 Q C S T (mkF m (pc + 1) Ls (.int (XT.ushr x y) :: st))) : OEnds p e below s n0 Q C S T (mkF m pc Ls (.int y :: .int x :: st)) := by
  obtain ⟨⟨hx, hZ, hby, hml, hown, hnm, hrt, hlk⟩, locs, X, eT, N, z0⟩ := H
  exact go (fun t q => XT.iushr X.here hx rfl (hb hby hd) rfl q) k
theorem idiv (H : OHr p l e R s m args below meth c Z n0 own nm code maxL ret T h ce sl) {x y : Int32} (hd : decode code pc = .ok (.idiv, 1)) (hy : y ≠ 0) (k : OEnds p e below s n0 Q C S T (mkF m (pc + 1) Ls (.int (x / y) :: st))) : OEnds p e below s n0 Q C S T (mkF m pc Ls (.int y :: .int x :: st)) := by
  obtain ⟨⟨hx, hZ, hby, hml, hown, hnm, hrt, hlk⟩, locs, X, eT, N, z0⟩ := H
  exact go (fun t q => XS.idiv X.here hx rfl (hb hby hd) rfl hy q) k
theorem irem (H : OHr p l e R s m args below meth c Z n0 own nm code maxL ret T h ce sl) {x y : Int32} (hd : decode code pc = .ok (.irem, 1)) (hy : y ≠ 0) (k : OEnds p e below s n0 Q C S T (mkF m (pc + 1) Ls (.int (x % y) :: st))) : OEnds p e below s n0 Q C S T (mkF m pc Ls (.int y :: .int x :: st)) := by
  obtain ⟨⟨hx, hZ, hby, hml, hown, hnm, hrt, hlk⟩, locs, X, eT, N, z0⟩ := H
  exact go (fun t q => iremM X hx rfl (hb hby hd) rfl hy q) k
theorem iadd_c (H : OHr p l e R s m args below meth c Z n0 own nm code maxL ret T h ce sl) {x y : Int32} (r : Int32) (hd : decode code pc = .ok (.iadd, 1)) (hr : x + y = r) (k : OEnds p e below s n0 Q C S T (mkF m (pc + 1) Ls (.int r :: st))) : OEnds p e below s n0 Q C S T (mkF m pc Ls (.int y :: .int x :: st)) := by
  subst hr
  exact iadd H hd k
theorem isub_c (H : OHr p l e R s m args below meth c Z n0 own nm code maxL ret T h ce sl) {x y : Int32} (r : Int32) (hd : decode code pc = .ok (.isub, 1)) (hr : x - y = r) (k : OEnds p e below s n0 Q C S T (mkF m (pc + 1) Ls (.int r :: st))) : OEnds p e below s n0 Q C S T (mkF m pc Ls (.int y :: .int x :: st)) := by
  subst hr
  exact isub H hd k
theorem imul_c (H : OHr p l e R s m args below meth c Z n0 own nm code maxL ret T h ce sl) {x y : Int32} (r : Int32) (hd : decode code pc = .ok (.imul, 1)) (hr : x * y = r) (k : OEnds p e below s n0 Q C S T (mkF m (pc + 1) Ls (.int r :: st))) : OEnds p e below s n0 Q C S T (mkF m pc Ls (.int y :: .int x :: st)) := by
  subst hr
  exact imul H hd k
theorem iand_c (H : OHr p l e R s m args below meth c Z n0 own nm code maxL ret T h ce sl) {x y : Int32} (r : Int32) (hd : decode code pc = .ok (.iand, 1)) (hr : x &&& y = r) (k : OEnds p e below s n0 Q C S T (mkF m (pc + 1) Ls (.int r :: st))) : OEnds p e below s n0 Q C S T (mkF m pc Ls (.int y :: .int x :: st)) := by
  subst hr
  exact iand H hd k
theorem ior_c (H : OHr p l e R s m args below meth c Z n0 own nm code maxL ret T h ce sl) {x y : Int32} (r : Int32) (hd : decode code pc = .ok (.ior, 1)) (hr : x ||| y = r) (k : OEnds p e below s n0 Q C S T (mkF m (pc + 1) Ls (.int r :: st))) : OEnds p e below s n0 Q C S T (mkF m pc Ls (.int y :: .int x :: st)) := by
  subst hr
  exact ior H hd k
theorem ixor_c (H : OHr p l e R s m args below meth c Z n0 own nm code maxL ret T h ce sl) {x y : Int32} (r : Int32) (hd : decode code pc = .ok (.ixor, 1)) (hr : x ^^^ y = r) (k : OEnds p e below s n0 Q C S T (mkF m (pc + 1) Ls (.int r :: st))) : OEnds p e below s n0 Q C S T (mkF m pc Ls (.int y :: .int x :: st)) := by
  subst hr
  exact ixor H hd k
theorem ishl_c (H : OHr p l e R s m args below meth c Z n0 own nm code maxL ret T h ce sl) {x y : Int32} (r : Int32) (hd : decode code pc = .ok (.ishl, 1)) (hr : x <<< (y &&& 31) = r) (k : OEnds p e below s n0 Q C S T (mkF m (pc + 1) Ls (.int r :: st))) : OEnds p e below s n0 Q C S T (mkF m pc Ls (.int y :: .int x :: st)) := by
  subst hr
  exact ishl H hd k
theorem ishr_c (H : OHr p l e R s m args below meth c Z n0 own nm code maxL ret T h ce sl) {x y : Int32} (r : Int32) (hd : decode code pc = .ok (.ishr, 1)) (hr : x >>> (y &&& 31) = r) (k : OEnds p e below s n0 Q C S T (mkF m (pc + 1) Ls (.int r :: st))) : OEnds p e below s n0 Q C S T (mkF m pc Ls (.int y :: .int x :: st)) := by
  subst hr
  exact ishr H hd k
theorem iushr_c (H : OHr p l e R s m args below meth c Z n0 own nm code maxL ret T h ce sl) {x y : Int32} (r : Int32) (hd : decode code pc = .ok (.iushr, 1)) (hr : XT.ushr x y = r) (k : OEnds p e below s n0 Q C S T (mkF m (pc + 1) Ls (.int r :: st))) : OEnds p e below s n0 Q C S T (mkF m pc Ls (.int y :: .int x :: st)) := by
  subst hr
  exact iushr H hd k
theorem idiv_c (H : OHr p l e R s m args below meth c Z n0 own nm code maxL ret T h ce sl) {x y : Int32} (r : Int32) (hd : decode code pc = .ok (.idiv, 1)) (hy : y ≠ 0) (hr : x / y = r) (k : OEnds p e below s n0 Q C S T (mkF m (pc + 1) Ls (.int r :: st))) : OEnds p e below s n0 Q C S T (mkF m pc Ls (.int y :: .int x :: st)) := by
  subst hr
  exact idiv H hd hy k
theorem irem_c (H : OHr p l e R s m args below meth c Z n0 own nm code maxL ret T h ce sl) {x y : Int32} (r : Int32) (hd : decode code pc = .ok (.irem, 1)) (hy : y ≠ 0) (hr : x % y = r) (k : OEnds p e below s n0 Q C S T (mkF m (pc + 1) Ls (.int r :: st))) : OEnds p e below s n0 Q C S T (mkF m pc Ls (.int y :: .int x :: st)) := by
  subst hr
  exact irem H hd hy k
theorem ineg (H : OHr p l e R s m args below meth c Z n0 own nm code maxL ret T h ce sl) {x : Int32} (hd : decode code pc = .ok (.ineg, 1))  (k : OEnds p e below s n0 Q C S T (mkF m (pc + 1) Ls (.int (-x) :: st))) : OEnds p e below s n0 Q C S T (mkF m pc Ls (.int x :: st)) := by
  obtain ⟨⟨hx, hZ, hby, hml, hown, hnm, hrt, hlk⟩, locs, X, eT, N, z0⟩ := H
  exact go (fun t q => XS.ineg X.here hx rfl (hb hby hd) rfl q) k
theorem ladd (H : OHr p l e R s m args below meth c Z n0 own nm code maxL ret T h ce sl) {x y : Int64} (hd : decode code pc = .ok (.ladd, 1))  (k : OEnds p e below s n0 Q C S T (mkF m (pc + 1) Ls (.long (x + y) :: st))) : OEnds p e below s n0 Q C S T (mkF m pc Ls (.long y :: .long x :: st)) := by
  obtain ⟨⟨hx, hZ, hby, hml, hown, hnm, hrt, hlk⟩, locs, X, eT, N, z0⟩ := H
  exact go (fun t q => XT.ladd X.here hx rfl (hb hby hd) rfl q) k
theorem lsub (H : OHr p l e R s m args below meth c Z n0 own nm code maxL ret T h ce sl) {x y : Int64} (hd : decode code pc = .ok (.lsub, 1))  (k : OEnds p e below s n0 Q C S T (mkF m (pc + 1) Ls (.long (x - y) :: st))) : OEnds p e below s n0 Q C S T (mkF m pc Ls (.long y :: .long x :: st)) := by
  obtain ⟨⟨hx, hZ, hby, hml, hown, hnm, hrt, hlk⟩, locs, X, eT, N, z0⟩ := H
  exact go (fun t q => XT.lsub X.here hx rfl (hb hby hd) rfl q) k
theorem lmul (H : OHr p l e R s m args below meth c Z n0 own nm code maxL ret T h ce sl) {x y : Int64} (hd : decode code pc = .ok (.lmul, 1))  (k : OEnds p e below s n0 Q C S T (mkF m (pc + 1) Ls (.long (x * y) :: st))) : OEnds p e below s n0 Q C S T (mkF m pc Ls (.long y :: .long x :: st)) := by
  obtain ⟨⟨hx, hZ, hby, hml, hown, hnm, hrt, hlk⟩, locs, X, eT, N, z0⟩ := H
  exact go (fun t q => XT.lmul X.here hx rfl (hb hby hd) rfl q) k
theorem land (H : OHr p l e R s m args below meth c Z n0 own nm code maxL ret T h ce sl) {x y : Int64} (hd : decode code pc = .ok (.land, 1))  (k : OEnds p e below s n0 Q C S T (mkF m (pc + 1) Ls (.long (x &&& y) :: st))) : OEnds p e below s n0 Q C S T (mkF m pc Ls (.long y :: .long x :: st)) := by
  obtain ⟨⟨hx, hZ, hby, hml, hown, hnm, hrt, hlk⟩, locs, X, eT, N, z0⟩ := H
  exact go (fun t q => XT.land X.here hx rfl (hb hby hd) rfl q) k
theorem lor (H : OHr p l e R s m args below meth c Z n0 own nm code maxL ret T h ce sl) {x y : Int64} (hd : decode code pc = .ok (.lor, 1))  (k : OEnds p e below s n0 Q C S T (mkF m (pc + 1) Ls (.long (x ||| y) :: st))) : OEnds p e below s n0 Q C S T (mkF m pc Ls (.long y :: .long x :: st)) := by
  obtain ⟨⟨hx, hZ, hby, hml, hown, hnm, hrt, hlk⟩, locs, X, eT, N, z0⟩ := H
  exact go (fun t q => XT.lor X.here hx rfl (hb hby hd) rfl q) k
theorem lxor (H : OHr p l e R s m args below meth c Z n0 own nm code maxL ret T h ce sl) {x y : Int64} (hd : decode code pc = .ok (.lxor, 1))  (k : OEnds p e below s n0 Q C S T (mkF m (pc + 1) Ls (.long (x ^^^ y) :: st))) : OEnds p e below s n0 Q C S T (mkF m pc Ls (.long y :: .long x :: st)) := by
  obtain ⟨⟨hx, hZ, hby, hml, hown, hnm, hrt, hlk⟩, locs, X, eT, N, z0⟩ := H
  exact go (fun t q => XT.lxor X.here hx rfl (hb hby hd) rfl q) k
theorem lshl (H : OHr p l e R s m args below meth c Z n0 own nm code maxL ret T h ce sl) {x : Int64} {y : Int32} (hd : decode code pc = .ok (.lshl, 1))  (k : OEnds p e below s n0 Q C S T (mkF m (pc + 1) Ls (.long (x <<< (y.toInt64 &&& 63)) :: st))) : OEnds p e below s n0 Q C S T (mkF m pc Ls (.int y :: .long x :: st)) := by
  obtain ⟨⟨hx, hZ, hby, hml, hown, hnm, hrt, hlk⟩, locs, X, eT, N, z0⟩ := H
  exact go (fun t q => XT.lshl X.here hx rfl (hb hby hd) rfl q) k
theorem lshr (H : OHr p l e R s m args below meth c Z n0 own nm code maxL ret T h ce sl) {x : Int64} {y : Int32} (hd : decode code pc = .ok (.lshr, 1))  (k : OEnds p e below s n0 Q C S T (mkF m (pc + 1) Ls (.long (x >>> (y.toInt64 &&& 63)) :: st))) : OEnds p e below s n0 Q C S T (mkF m pc Ls (.int y :: .long x :: st)) := by
  obtain ⟨⟨hx, hZ, hby, hml, hown, hnm, hrt, hlk⟩, locs, X, eT, N, z0⟩ := H
  exact go (fun t q => XT.lshr X.here hx rfl (hb hby hd) rfl q) k
theorem lushr (H : OHr p l e R s m args below meth c Z n0 own nm code maxL ret T h ce sl) {x : Int64} {y : Int32} (hd : decode code pc = .ok (.lushr, 1))  (k : OEnds p e below s n0 Q C S T (mkF m (pc + 1) Ls (.long (XT.ushrL x y) :: st))) : OEnds p e below s n0 Q C S T (mkF m pc Ls (.int y :: .long x :: st)) := by
  obtain ⟨⟨hx, hZ, hby, hml, hown, hnm, hrt, hlk⟩, locs, X, eT, N, z0⟩ := H
  exact go (fun t q => XT.lushr X.here hx rfl (hb hby hd) rfl q) k
theorem lneg (H : OHr p l e R s m args below meth c Z n0 own nm code maxL ret T h ce sl) {x : Int64} (hd : decode code pc = .ok (.lneg, 1))  (k : OEnds p e below s n0 Q C S T (mkF m (pc + 1) Ls (.long (-x) :: st))) : OEnds p e below s n0 Q C S T (mkF m pc Ls (.long x :: st)) := by
  obtain ⟨⟨hx, hZ, hby, hml, hown, hnm, hrt, hlk⟩, locs, X, eT, N, z0⟩ := H
  exact go (fun t q => XT.lneg X.here hx rfl (hb hby hd) rfl q) k
theorem i2l (H : OHr p l e R s m args below meth c Z n0 own nm code maxL ret T h ce sl) {x : Int32} (hd : decode code pc = .ok (.i2l, 1))  (k : OEnds p e below s n0 Q C S T (mkF m (pc + 1) Ls (.long x.toInt64 :: st))) : OEnds p e below s n0 Q C S T (mkF m pc Ls (.int x :: st)) := by
  obtain ⟨⟨hx, hZ, hby, hml, hown, hnm, hrt, hlk⟩, locs, X, eT, N, z0⟩ := H
  exact go (fun t q => XT.i2l X.here hx rfl (hb hby hd) rfl q) k
theorem l2i (H : OHr p l e R s m args below meth c Z n0 own nm code maxL ret T h ce sl) {x : Int64} (hd : decode code pc = .ok (.l2i, 1))  (k : OEnds p e below s n0 Q C S T (mkF m (pc + 1) Ls (.int x.toInt32 :: st))) : OEnds p e below s n0 Q C S T (mkF m pc Ls (.long x :: st)) := by
  obtain ⟨⟨hx, hZ, hby, hml, hown, hnm, hrt, hlk⟩, locs, X, eT, N, z0⟩ := H
  exact go (fun t q => XT.l2i X.here hx rfl (hb hby hd) rfl q) k
theorem i2b (H : OHr p l e R s m args below meth c Z n0 own nm code maxL ret T h ce sl) {x : Int32} (hd : decode code pc = .ok (.i2b, 1))  (k : OEnds p e below s n0 Q C S T (mkF m (pc + 1) Ls (.int x.toInt8.toInt32 :: st))) : OEnds p e below s n0 Q C S T (mkF m pc Ls (.int x :: st)) := by
  obtain ⟨⟨hx, hZ, hby, hml, hown, hnm, hrt, hlk⟩, locs, X, eT, N, z0⟩ := H
  exact go (fun t q => XT.i2b X.here hx rfl (hb hby hd) rfl q) k
theorem i2c (H : OHr p l e R s m args below meth c Z n0 own nm code maxL ret T h ce sl) {x : Int32} (hd : decode code pc = .ok (.i2c, 1))  (k : OEnds p e below s n0 Q C S T (mkF m (pc + 1) Ls (.int x.toUInt32.toUInt16.toUInt32.toInt32 :: st))) : OEnds p e below s n0 Q C S T (mkF m pc Ls (.int x :: st)) := by
  obtain ⟨⟨hx, hZ, hby, hml, hown, hnm, hrt, hlk⟩, locs, X, eT, N, z0⟩ := H
  exact go (fun t q => XT.i2c X.here hx rfl (hb hby hd) rfl q) k
theorem lcmp (H : OHr p l e R s m args below meth c Z n0 own nm code maxL ret T h ce sl) {x y : Int64} (hd : decode code pc = .ok (.lcmp, 1))  (k : OEnds p e below s n0 Q C S T (mkF m (pc + 1) Ls (.int (XT.cmpL x y) :: st))) : OEnds p e below s n0 Q C S T (mkF m pc Ls (.long y :: .long x :: st)) := by
  obtain ⟨⟨hx, hZ, hby, hml, hown, hnm, hrt, hlk⟩, locs, X, eT, N, z0⟩ := H
  exact go (fun t q => XT.lcmp X.here hx rfl (hb hby hd) rfl q) k
theorem dup (H : OHr p l e R s m args below meth c Z n0 own nm code maxL ret T h ce sl) {x : Value} (hd : decode code pc = .ok (.dup, 1)) (hc : x.category = 1) (k : OEnds p e below s n0 Q C S T (mkF m (pc + 1) Ls (x :: x :: st))) : OEnds p e below s n0 Q C S T (mkF m pc Ls (x :: st)) := by
  obtain ⟨⟨hx, hZ, hby, hml, hown, hnm, hrt, hlk⟩, locs, X, eT, N, z0⟩ := H
  exact go (fun t q => XS.dup X.here hx rfl (hb hby hd) rfl hc q) k
theorem pop (H : OHr p l e R s m args below meth c Z n0 own nm code maxL ret T h ce sl) {x : Value} (hd : decode code pc = .ok (.pop, 1)) (hc : x.category = 1) (k : OEnds p e below s n0 Q C S T (mkF m (pc + 1) Ls (st))) : OEnds p e below s n0 Q C S T (mkF m pc Ls (x :: st)) := by
  obtain ⟨⟨hx, hZ, hby, hml, hown, hnm, hrt, hlk⟩, locs, X, eT, N, z0⟩ := H
  exact go (fun t q => XT.pop X.here hx rfl (hb hby hd) rfl hc q) k
theorem dup_x1 (H : OHr p l e R s m args below meth c Z n0 own nm code maxL ret T h ce sl) {x y : Value} (hd : decode code pc = .ok (.dup_x1, 1)) (hc : x.category = 1) (hc' : y.category = 1) (k : OEnds p e below s n0 Q C S T (mkF m (pc + 1) Ls (x :: y :: x :: st))) : OEnds p e below s n0 Q C S T (mkF m pc Ls (x :: y :: st)) := by
  obtain ⟨⟨hx, hZ, hby, hml, hown, hnm, hrt, hlk⟩, locs, X, eT, N, z0⟩ := H
  exact go (fun t q => XT.dupX1 X.here hx rfl (hb hby hd) rfl hc hc' q) k
theorem dup2 (H : OHr p l e R s m args below meth c Z n0 own nm code maxL ret T h ce sl) {x y : Value} (hd : decode code pc = .ok (.dup2, 1)) (hc : x.category = 1) (hc' : y.category = 1) (k : OEnds p e below s n0 Q C S T (mkF m (pc + 1) Ls (x :: y :: x :: y :: st))) : OEnds p e below s n0 Q C S T (mkF m pc Ls (x :: y :: st)) := by
  obtain ⟨⟨hx, hZ, hby, hml, hown, hnm, hrt, hlk⟩, locs, X, eT, N, z0⟩ := H
  exact go (fun t q => XT.dup2 X.here hx rfl (hb hby hd) rfl hc hc' q) k
theorem goto (H : OHr p l e R s m args below meth c Z n0 own nm code maxL ret T h ce sl) {o : Int} (pc' : Nat) (hd : decode code pc = .ok (.goto o, 3)) (ho : 0 ≤ (pc : Int) + o) (hp : ((pc : Int) + o).toNat = pc') (k : OEnds p e below s n0 Q C S T (mkF m pc' Ls st)) : OEnds p e below s n0 Q C S T (mkF m pc Ls st) := by
  obtain ⟨⟨hx, hZ, hby, hml, hown, hnm, hrt, hlk⟩, locs, X, eT, N, z0⟩ := H
  exact go (fun t q => XS.goto X.here hx rfl rfl (hb hby hd) ho hp q) k
theorem icmp_lt (H : OHr p l e R s m args below meth c Z n0 own nm code maxL ret T h ce sl) {x y : Int32} {o : Int} (pc' : Nat) (hd : decode code pc = .ok (.if_icmp .lt o, 3)) (ho : 0 ≤ (pc : Int) + o) (hp : ((pc : Int) + o).toNat = pc') (kt : x < y → OEnds p e below s n0 Q C S T (mkF m pc' Ls st)) (kf : ¬ x < y → OEnds p e below s n0 Q C S T (mkF m (pc + 3) Ls st)) : OEnds p e below s n0 Q C S T (mkF m pc Ls (.int y :: .int x :: st)) := by
  obtain ⟨⟨hx, hZ, hby, hml, hown, hnm, hrt, hlk⟩, locs, X, eT, N, z0⟩ := H
  by_cases q : x < y
  · exact go (fun t r => XS.icmpYes X.here hx rfl rfl (hb hby hd) rfl (tlt q).1 ho hp r) (kt q)
  · exact go (fun t r => XS.icmpNo X.here hx rfl (hb hby hd) rfl (flt q).1 r) (kf q)
theorem if_lt (H : OHr p l e R s m args below meth c Z n0 own nm code maxL ret T h ce sl) {x : Int32} {o : Int} (pc' : Nat) (hd : decode code pc = .ok (.ifCond .lt o, 3)) (ho : 0 ≤ (pc : Int) + o) (hp : ((pc : Int) + o).toNat = pc') (kt : x < (0 : Int32) → OEnds p e below s n0 Q C S T (mkF m pc' Ls st)) (kf : ¬ x < (0 : Int32) → OEnds p e below s n0 Q C S T (mkF m (pc + 3) Ls st)) : OEnds p e below s n0 Q C S T (mkF m pc Ls (.int x :: st)) := by
  obtain ⟨⟨hx, hZ, hby, hml, hown, hnm, hrt, hlk⟩, locs, X, eT, N, z0⟩ := H
  by_cases q : x < (0 : Int32)
  · exact go (fun t r => XS.ifYes X.here hx rfl rfl (hb hby hd) rfl ((if0 _ _).trans (tlt q).1) ho hp r) (kt q)
  · exact go (fun t r => XS.ifNo X.here hx rfl (hb hby hd) rfl ((if0 _ _).trans (flt q).1) r) (kf q)
theorem icmp_ge (H : OHr p l e R s m args below meth c Z n0 own nm code maxL ret T h ce sl) {x y : Int32} {o : Int} (pc' : Nat) (hd : decode code pc = .ok (.if_icmp .ge o, 3)) (ho : 0 ≤ (pc : Int) + o) (hp : ((pc : Int) + o).toNat = pc') (kt : ¬ x < y → OEnds p e below s n0 Q C S T (mkF m pc' Ls st)) (kf : x < y → OEnds p e below s n0 Q C S T (mkF m (pc + 3) Ls st)) : OEnds p e below s n0 Q C S T (mkF m pc Ls (.int y :: .int x :: st)) := by
  obtain ⟨⟨hx, hZ, hby, hml, hown, hnm, hrt, hlk⟩, locs, X, eT, N, z0⟩ := H
  by_cases q : x < y
  · exact go (fun t r => XS.icmpNo X.here hx rfl (hb hby hd) rfl (tlt q).2.1 r) (kf q)
  · exact go (fun t r => XS.icmpYes X.here hx rfl rfl (hb hby hd) rfl (flt q).2.1 ho hp r) (kt q)
theorem if_ge (H : OHr p l e R s m args below meth c Z n0 own nm code maxL ret T h ce sl) {x : Int32} {o : Int} (pc' : Nat) (hd : decode code pc = .ok (.ifCond .ge o, 3)) (ho : 0 ≤ (pc : Int) + o) (hp : ((pc : Int) + o).toNat = pc') (kt : ¬ x < (0 : Int32) → OEnds p e below s n0 Q C S T (mkF m pc' Ls st)) (kf : x < (0 : Int32) → OEnds p e below s n0 Q C S T (mkF m (pc + 3) Ls st)) : OEnds p e below s n0 Q C S T (mkF m pc Ls (.int x :: st)) := by
  obtain ⟨⟨hx, hZ, hby, hml, hown, hnm, hrt, hlk⟩, locs, X, eT, N, z0⟩ := H
  by_cases q : x < (0 : Int32)
  · exact go (fun t r => XS.ifNo X.here hx rfl (hb hby hd) rfl ((if0 _ _).trans (tlt q).2.1) r) (kf q)
  · exact go (fun t r => XS.ifYes X.here hx rfl rfl (hb hby hd) rfl ((if0 _ _).trans (flt q).2.1) ho hp r) (kt q)
theorem icmp_gt (H : OHr p l e R s m args below meth c Z n0 own nm code maxL ret T h ce sl) {x y : Int32} {o : Int} (pc' : Nat) (hd : decode code pc = .ok (.if_icmp .gt o, 3)) (ho : 0 ≤ (pc : Int) + o) (hp : ((pc : Int) + o).toNat = pc') (kt : y < x → OEnds p e below s n0 Q C S T (mkF m pc' Ls st)) (kf : ¬ y < x → OEnds p e below s n0 Q C S T (mkF m (pc + 3) Ls st)) : OEnds p e below s n0 Q C S T (mkF m pc Ls (.int y :: .int x :: st)) := by
  obtain ⟨⟨hx, hZ, hby, hml, hown, hnm, hrt, hlk⟩, locs, X, eT, N, z0⟩ := H
  by_cases q : y < x
  · exact go (fun t r => XS.icmpYes X.here hx rfl rfl (hb hby hd) rfl (tlt q).2.2.1 ho hp r) (kt q)
  · exact go (fun t r => XS.icmpNo X.here hx rfl (hb hby hd) rfl (flt q).2.2.1 r) (kf q)
theorem if_gt (H : OHr p l e R s m args below meth c Z n0 own nm code maxL ret T h ce sl) {x : Int32} {o : Int} (pc' : Nat) (hd : decode code pc = .ok (.ifCond .gt o, 3)) (ho : 0 ≤ (pc : Int) + o) (hp : ((pc : Int) + o).toNat = pc') (kt : (0 : Int32) < x → OEnds p e below s n0 Q C S T (mkF m pc' Ls st)) (kf : ¬ (0 : Int32) < x → OEnds p e below s n0 Q C S T (mkF m (pc + 3) Ls st)) : OEnds p e below s n0 Q C S T (mkF m pc Ls (.int x :: st)) := by
  obtain ⟨⟨hx, hZ, hby, hml, hown, hnm, hrt, hlk⟩, locs, X, eT, N, z0⟩ := H
  by_cases q : (0 : Int32) < x
  · exact go (fun t r => XS.ifYes X.here hx rfl rfl (hb hby hd) rfl ((if0 _ _).trans (tlt q).2.2.1) ho hp r) (kt q)
  · exact go (fun t r => XS.ifNo X.here hx rfl (hb hby hd) rfl ((if0 _ _).trans (flt q).2.2.1) r) (kf q)
theorem icmp_le (H : OHr p l e R s m args below meth c Z n0 own nm code maxL ret T h ce sl) {x y : Int32} {o : Int} (pc' : Nat) (hd : decode code pc = .ok (.if_icmp .le o, 3)) (ho : 0 ≤ (pc : Int) + o) (hp : ((pc : Int) + o).toNat = pc') (kt : ¬ y < x → OEnds p e below s n0 Q C S T (mkF m pc' Ls st)) (kf : y < x → OEnds p e below s n0 Q C S T (mkF m (pc + 3) Ls st)) : OEnds p e below s n0 Q C S T (mkF m pc Ls (.int y :: .int x :: st)) := by
  obtain ⟨⟨hx, hZ, hby, hml, hown, hnm, hrt, hlk⟩, locs, X, eT, N, z0⟩ := H
  by_cases q : y < x
  · exact go (fun t r => XS.icmpNo X.here hx rfl (hb hby hd) rfl (tlt q).2.2.2 r) (kf q)
  · exact go (fun t r => XS.icmpYes X.here hx rfl rfl (hb hby hd) rfl (flt q).2.2.2 ho hp r) (kt q)
theorem if_le (H : OHr p l e R s m args below meth c Z n0 own nm code maxL ret T h ce sl) {x : Int32} {o : Int} (pc' : Nat) (hd : decode code pc = .ok (.ifCond .le o, 3)) (ho : 0 ≤ (pc : Int) + o) (hp : ((pc : Int) + o).toNat = pc') (kt : ¬ (0 : Int32) < x → OEnds p e below s n0 Q C S T (mkF m pc' Ls st)) (kf : (0 : Int32) < x → OEnds p e below s n0 Q C S T (mkF m (pc + 3) Ls st)) : OEnds p e below s n0 Q C S T (mkF m pc Ls (.int x :: st)) := by
  obtain ⟨⟨hx, hZ, hby, hml, hown, hnm, hrt, hlk⟩, locs, X, eT, N, z0⟩ := H
  by_cases q : (0 : Int32) < x
  · exact go (fun t r => XS.ifNo X.here hx rfl (hb hby hd) rfl ((if0 _ _).trans (tlt q).2.2.2) r) (kf q)
  · exact go (fun t r => XS.ifYes X.here hx rfl rfl (hb hby hd) rfl ((if0 _ _).trans (flt q).2.2.2) ho hp r) (kt q)
theorem icmp_eq (H : OHr p l e R s m args below meth c Z n0 own nm code maxL ret T h ce sl) {x y : Int32} {o : Int} (pc' : Nat) (hd : decode code pc = .ok (.if_icmp .eq o, 3)) (ho : 0 ≤ (pc : Int) + o) (hp : ((pc : Int) + o).toNat = pc') (kt : x = y → OEnds p e below s n0 Q C S T (mkF m pc' Ls st)) (kf : ¬ x = y → OEnds p e below s n0 Q C S T (mkF m (pc + 3) Ls st)) : OEnds p e below s n0 Q C S T (mkF m pc Ls (.int y :: .int x :: st)) := by
  obtain ⟨⟨hx, hZ, hby, hml, hown, hnm, hrt, hlk⟩, locs, X, eT, N, z0⟩ := H
  by_cases q : x = y
  · exact go (fun t r => XS.icmpYes X.here hx rfl rfl (hb hby hd) rfl (teq q).1 ho hp r) (kt q)
  · exact go (fun t r => XS.icmpNo X.here hx rfl (hb hby hd) rfl (feq q).1 r) (kf q)
theorem if_eq (H : OHr p l e R s m args below meth c Z n0 own nm code maxL ret T h ce sl) {x : Int32} {o : Int} (pc' : Nat) (hd : decode code pc = .ok (.ifCond .eq o, 3)) (ho : 0 ≤ (pc : Int) + o) (hp : ((pc : Int) + o).toNat = pc') (kt : x = (0 : Int32) → OEnds p e below s n0 Q C S T (mkF m pc' Ls st)) (kf : ¬ x = (0 : Int32) → OEnds p e below s n0 Q C S T (mkF m (pc + 3) Ls st)) : OEnds p e below s n0 Q C S T (mkF m pc Ls (.int x :: st)) := by
  obtain ⟨⟨hx, hZ, hby, hml, hown, hnm, hrt, hlk⟩, locs, X, eT, N, z0⟩ := H
  by_cases q : x = (0 : Int32)
  · exact go (fun t r => XS.ifYes X.here hx rfl rfl (hb hby hd) rfl ((if0 _ _).trans (teq q).1) ho hp r) (kt q)
  · exact go (fun t r => XS.ifNo X.here hx rfl (hb hby hd) rfl ((if0 _ _).trans (feq q).1) r) (kf q)
theorem icmp_ne (H : OHr p l e R s m args below meth c Z n0 own nm code maxL ret T h ce sl) {x y : Int32} {o : Int} (pc' : Nat) (hd : decode code pc = .ok (.if_icmp .ne o, 3)) (ho : 0 ≤ (pc : Int) + o) (hp : ((pc : Int) + o).toNat = pc') (kt : ¬ x = y → OEnds p e below s n0 Q C S T (mkF m pc' Ls st)) (kf : x = y → OEnds p e below s n0 Q C S T (mkF m (pc + 3) Ls st)) : OEnds p e below s n0 Q C S T (mkF m pc Ls (.int y :: .int x :: st)) := by
  obtain ⟨⟨hx, hZ, hby, hml, hown, hnm, hrt, hlk⟩, locs, X, eT, N, z0⟩ := H
  by_cases q : x = y
  · exact go (fun t r => XS.icmpNo X.here hx rfl (hb hby hd) rfl (teq q).2 r) (kf q)
  · exact go (fun t r => XS.icmpYes X.here hx rfl rfl (hb hby hd) rfl (feq q).2 ho hp r) (kt q)
theorem if_ne (H : OHr p l e R s m args below meth c Z n0 own nm code maxL ret T h ce sl) {x : Int32} {o : Int} (pc' : Nat) (hd : decode code pc = .ok (.ifCond .ne o, 3)) (ho : 0 ≤ (pc : Int) + o) (hp : ((pc : Int) + o).toNat = pc') (kt : ¬ x = (0 : Int32) → OEnds p e below s n0 Q C S T (mkF m pc' Ls st)) (kf : x = (0 : Int32) → OEnds p e below s n0 Q C S T (mkF m (pc + 3) Ls st)) : OEnds p e below s n0 Q C S T (mkF m pc Ls (.int x :: st)) := by
  obtain ⟨⟨hx, hZ, hby, hml, hown, hnm, hrt, hlk⟩, locs, X, eT, N, z0⟩ := H
  by_cases q : x = (0 : Int32)
  · exact go (fun t r => XS.ifNo X.here hx rfl (hb hby hd) rfl ((if0 _ _).trans (teq q).2) r) (kf q)
  · exact go (fun t r => XS.ifYes X.here hx rfl rfl (hb hby hd) rfl ((if0 _ _).trans (feq q).2) ho hp r) (kt q)
theorem ifnull_ref (H : OHr p l e R s m args below meth c Z n0 own nm code maxL ret T h ce sl) {o : Int} {b : Addr} (hd : decode code pc = .ok (.ifnull o, 3)) (k : OEnds p e below s n0 Q C S T (mkF m (pc + 3) Ls st)) : OEnds p e below s n0 Q C S T (mkF m pc Ls (.ref b :: st)) := by
  obtain ⟨⟨hx, hZ, hby, hml, hown, hnm, hrt, hlk⟩, locs, X, eT, N, z0⟩ := H
  exact go (fun t q => XS.ifnullNo X.here hx rfl (hb hby hd) rfl q) k
theorem ifnonnull_ref (H : OHr p l e R s m args below meth c Z n0 own nm code maxL ret T h ce sl) {o : Int} {b : Addr} (pc' : Nat) (hd : decode code pc = .ok (.ifnonnull o, 3)) (ho : 0 ≤ (pc : Int) + o) (hp : ((pc : Int) + o).toNat = pc') (k : OEnds p e below s n0 Q C S T (mkF m pc' Ls st)) : OEnds p e below s n0 Q C S T (mkF m pc Ls (.ref b :: st)) := by
  obtain ⟨⟨hx, hZ, hby, hml, hown, hnm, hrt, hlk⟩, locs, X, eT, N, z0⟩ := H
  exact go (fun t q => XT.ifnonnullYes X.here hx rfl rfl (hb hby hd) rfl ho hp q) k
theorem acmp_ne (H : OHr p l e R s m args below meth c Z n0 own nm code maxL ret T h ce sl) {x y : Value} {o : Int} (pc' : Nat) (hd : decode code pc = .ok (.if_acmp .ne o, 3)) (h1 : x.isRef = true) (h2 : y.isRef = true) (ho : 0 ≤ (pc : Int) + o) (hp : ((pc : Int) + o).toNat = pc') (kt : ¬ x = y → OEnds p e below s n0 Q C S T (mkF m pc' Ls st)) (kf : x = y → OEnds p e below s n0 Q C S T (mkF m (pc + 3) Ls st)) : OEnds p e below s n0 Q C S T (mkF m pc Ls (y :: x :: st)) := by
  obtain ⟨⟨hx, hZ, hby, hml, hown, hnm, hrt, hlk⟩, locs, X, eT, N, z0⟩ := H
  by_cases q : x = y
  · exact go (fun t r => XT.acmpNo X.here hx rfl (hb hby hd) rfl h1 h2 (by simp [XT.acmp, q]) r) (kf q)
  · exact go (fun t r => XT.acmpYes X.here hx rfl rfl (hb hby hd) rfl h1 h2 (by simp [XT.acmp, q]) ho hp r) (kt q)
theorem acmp_eq (H : OHr p l e R s m args below meth c Z n0 own nm code maxL ret T h ce sl) {x y : Value} {o : Int} (pc' : Nat) (hd : decode code pc = .ok (.if_acmp .eq o, 3)) (h1 : x.isRef = true) (h2 : y.isRef = true) (ho : 0 ≤ (pc : Int) + o) (hp : ((pc : Int) + o).toNat = pc') (kt : x = y → OEnds p e below s n0 Q C S T (mkF m pc' Ls st)) (kf : ¬ x = y → OEnds p e below s n0 Q C S T (mkF m (pc + 3) Ls st)) : OEnds p e below s n0 Q C S T (mkF m pc Ls (y :: x :: st)) := by
  obtain ⟨⟨hx, hZ, hby, hml, hown, hnm, hrt, hlk⟩, locs, X, eT, N, z0⟩ := H
  by_cases q : x = y
  · exact go (fun t r => XT.acmpYes X.here hx rfl rfl (hb hby hd) rfl h1 h2 (by simp [XT.acmp, q]) ho hp r) (kt q)
  · exact go (fun t r => XT.acmpNo X.here hx rfl (hb hby hd) rfl h1 h2 (by simp [XT.acmp, q]) r) (kf q)
theorem ret_int (H : OHr p l e R s m args below meth c Z n0 own nm code maxL ret T h ce sl) {z : Int32} (hd : decode code pc = .ok (.ireturn, 1)) (hr : ret = some .int) (hC : ce ≤ C) (hS : sl ≤ S) (hq : Q (some (.int z)) h) : OEnds p e below s n0 Q C S T (mkF m pc Ls (.int z :: st)) := by
  obtain ⟨⟨hx, hZ, hby, hml, hown, hnm, hrt, hlk⟩, locs, X, eT, N, z0⟩ := H
  obtain ⟨fs, hrr, hrun, hended, hW, hsame⟩ := X.leave (v := some (.int z)) (fun q => by rw [hrt, hr] at q; cases q) hlk
  refine ⟨_, _, ?_, hrun, hended, _, _, rfl, ⟨N, ?_⟩, ⟨_, rfl⟩, hW, hsame.mono hC hS⟩
  · exact retOut X hx (hrt.trans hr) rfl (Or.inl ⟨rfl, Or.inl rfl, _, rfl⟩) (hb hby hd) hrr
  · show Q _ T.heap
    rw [eT]; exact hq
theorem ret_nar (H : OHr p l e R s m args below meth c Z n0 own nm code maxL ret T h ce sl) {z : Int32} (w : Int32) {t : FieldType} (hd : decode code pc = .ok (.ireturn, 1)) (hr : ret = some t) (ht : t = .boolean ∨ t = .byte ∨ t = .char ∨ t = .short) (hw : nar t z = w) (hC : ce ≤ C) (hS : sl ≤ S) (hq : Q (some (.int w)) h) : OEnds p e below s n0 Q C S T (mkF m pc Ls (.int z :: st)) := by
  obtain ⟨⟨hx, hZ, hby, hml, hown, hnm, hrt, hlk⟩, locs, X, eT, N, z0⟩ := H
  subst hw
  obtain ⟨fs, hrr, hrun, hended, hW, hsame⟩ := X.leave (v := some (.int (nar t z))) (fun q => by rw [hrt, hr] at q; cases q) hlk
  refine ⟨_, _, ?_, hrun, hended, _, _, rfl, ⟨N, ?_⟩, ⟨_, rfl⟩, hW, hsame.mono hC hS⟩
  · exact retN X hx (hrt.trans hr) ht (hb hby hd) hrr
  · show Q _ T.heap
    rw [eT]; exact hq
theorem ret_long (H : OHr p l e R s m args below meth c Z n0 own nm code maxL ret T h ce sl) {z : Int64} (hd : decode code pc = .ok (.lreturn, 1)) (hr : ret = some .long) (hC : ce ≤ C) (hS : sl ≤ S) (hq : Q (some (.long z)) h) : OEnds p e below s n0 Q C S T (mkF m pc Ls (.long z :: st)) := by
  obtain ⟨⟨hx, hZ, hby, hml, hown, hnm, hrt, hlk⟩, locs, X, eT, N, z0⟩ := H
  obtain ⟨fs, hrr, hrun, hended, hW, hsame⟩ := X.leave (v := some (.long z)) (fun q => by rw [hrt, hr] at q; cases q) hlk
  refine ⟨_, _, ?_, hrun, hended, _, _, rfl, ⟨N, ?_⟩, ⟨_, rfl⟩, hW, hsame.mono hC hS⟩
  · exact retOut X hx (hrt.trans hr) rfl (Or.inr (Or.inl ⟨rfl, rfl, _, rfl⟩)) (hb hby hd) hrr
  · show Q _ T.heap
    rw [eT]; exact hq
theorem ret_ref (H : OHr p l e R s m args below meth c Z n0 own nm code maxL ret T h ce sl) {z : Value} {t : FieldType} (hd : decode code pc = .ok (.areturn, 1)) (hr : ret = some t) (ht : t.isReference = true) (hn : narrow t z = z) (hz : z.isRef = true) (hC : ce ≤ C) (hS : sl ≤ S) (hq : Q (some z) h) : OEnds p e below s n0 Q C S T (mkF m pc Ls (z :: st)) := by
  obtain ⟨⟨hx, hZ, hby, hml, hown, hnm, hrt, hlk⟩, locs, X, eT, N, z0⟩ := H
  obtain ⟨fs, hrr, hrun, hended, hW, hsame⟩ := X.leave (v := some z) (fun q => by rw [hrt, hr] at q; cases q) hlk
  refine ⟨_, _, ?_, hrun, hended, _, _, rfl, ⟨N, ?_⟩, ⟨_, rfl⟩, hW, hsame.mono hC hS⟩
  · exact retOut X hx (hrt.trans hr) hn (Or.inr (Or.inr (Or.inr (Or.inr ⟨rfl, ht, hz⟩)))) (hb hby hd) hrr
  · show Q _ T.heap
    rw [eT]; exact hq
theorem ret_void (H : OHr p l e R s m args below meth c Z n0 own nm code maxL ret T h ce sl) (hd : decode code pc = .ok (.return_, 1)) (hr : ret = none) (hC : ce ≤ C) (hS : sl ≤ S) (hq : Q none h) : OEnds p e below s n0 Q C S T (mkF m pc Ls []) := by
  obtain ⟨⟨hx, hZ, hby, hml, hown, hnm, hrt, hlk⟩, locs, X, eT, N, z0⟩ := H
  obtain ⟨fs, hrr, hrun, hended, hW, hsame⟩ := X.leave (v := none) (fun _ => rfl) hlk
  refine ⟨_, _, ?_, hrun, hended, _, _, rfl, ⟨N, ?_⟩, ⟨_, rfl⟩, hW, hsame.mono hC hS⟩
  · exact X.returnOut hx (hrt.trans hr) (hb hby hd) hrr
  · show Q _ T.heap
    rw [eT]; exact hq
theorem getfield (H : OHr p l e R s m args below meth c Z n0 own nm code maxL ret T h ce sl) {O n d : String} {idx : Nat} {a : Addr} {v : Value} (hd : decode code pc = .ok (.getfield idx, 3)) (w : (Cond.fieldLink own idx O n d).before a0 Z = true) (F : Fld Z h a O n d v) (k : ∀ T', OHr p l e R s m args below meth c Z n0 own nm code maxL ret T' h ce sl → OEnds p e below s n0 Q C S T' (mkF m (pc + 3) Ls (v :: st))) : OEnds p e below s n0 Q C S T (mkF m pc Ls (.ref a :: st)) := by
  obtain ⟨⟨hx, hZ, hby, hml, hown, hnm, hrt, hlk⟩, locs, X, eT, N, z0⟩ := H
  obtain ⟨T', X', e', q⟩ := getF X hx hZ hown (host := "") (Or.inl w) Via.refl eT F (g := mkF m pc Ls (.ref a :: st)) rfl rfl (hb hby hd)
  exact go q (k T' ⟨⟨hx, hZ, hby, hml, hown, hnm, hrt, hlk⟩, locs, X', e', N, z0⟩)
theorem putfield (H : OHr p l e R s m args below meth c Z n0 own nm code maxL ret T h ce sl) {O n d CC : String} {idx kk : Nat} {ty : FieldType} {a : Addr} {v old : Value} (hd : decode code pc = .ok (.putfield idx, 3)) (w : (Cond.fieldLink own idx O n d).before a0 Z = true) (F : Fld Z h a O n d old) (E : Exa Z h a CC) (L : (Cond.lays CC O n d).before a0 Z = true ∨ ((Cond.laysFinal CC O n d).before a0 Z = true ∧ own = O ∧ nm = "<init>")) (wi : (Cond.instantiable CC kk).before a0 Z = true) (hty : parseFieldDescriptor d = some ty) (hn : narrow ty v = v) (hf : fits ty v = true) (ge : n0 ≤ a)
    (k : ∀ T' h', OHr p l e R s m args below meth c Z n0 own nm code maxL ret T' h' ce sl → Wr h h' a (Jvm.RoadKit.slotOf Z O n d) v → OEnds p e below s n0 Q C S T' (mkF m (pc + 3) Ls st)) : OEnds p e below s n0 Q C S T (mkF m pc Ls (v :: .ref a :: st)) := by
  obtain ⟨⟨hx, hZ, hby, hml, hown, hnm, hrt, hlk⟩, locs, X, eT, N, z0⟩ := H
  obtain ⟨T', h', X', e', W, q⟩ := putF X hx hZ hown (host := "") (Or.inl w) Via.refl eT F E (by rcases L with q | ⟨q1, q2, q3⟩; exact Or.inl q; exact Or.inr ⟨q1, q2, hnm.trans q3⟩) wi hty hn hf (g := mkF m pc Ls (v :: .ref a :: st)) rfl rfl (hb hby hd)
  exact go q (k T' h' ⟨⟨hx, hZ, hby, hml, hown, hnm, hrt, hlk⟩, _, X', e', Fr.one N ge, by rw [W.size]; exact z0⟩ W)
theorem getstatic (H : OHr p l e R s m args below meth c Z n0 own nm code maxL ret T h ce sl) {O n d : String} {idx : Nat} {v : Value} (hd : decode code pc = .ok (.getstatic idx, 3)) (w : (Cond.fieldLink own idx O n d).before a0 Z = true) (F : Sta Z h O n d v) (k : ∀ T', OHr p l e R s m args below meth c Z n0 own nm code maxL ret T' h ce sl → OEnds p e below s n0 Q C S T' (mkF m (pc + 3) Ls (v :: st))) : OEnds p e below s n0 Q C S T (mkF m pc Ls st) := by
  obtain ⟨⟨hx, hZ, hby, hml, hown, hnm, hrt, hlk⟩, locs, X, eT, N, z0⟩ := H
  obtain ⟨T', X', e', q⟩ := getS (host := "") X hx hZ hown w Via.refl eT F (g := mkF m pc Ls st) rfl (hb hby hd)
  exact go q (k T' ⟨⟨hx, hZ, hby, hml, hown, hnm, hrt, hlk⟩, locs, X', e', N, z0⟩)
theorem new_ (H : OHr p l e R s m args below meth c Z n0 own nm code maxL ret T h ce sl) {CC : String} {idx n : Nat} (hd : decode code pc = .ok (.new idx, 3)) (w : (Cond.classLink own idx CC).before a0 Z = true) (wi : (Cond.instantiable CC n).before a0 Z = true) (wz : (Cond.initialized CC).before a0 Z = true) (hc : ce + 1 ≤ R.cells) (hl : sl + n ≤ R.slots)
    (k : ∀ T' h' a, a = h.size → n0 ≤ a → OHr p l e R s m args below meth c Z n0 own nm code maxL ret T' h' (ce + 1) (sl + n) → Ext h h' → Exa Z h' a CC → (∀ {O nm d : String} {ty : FieldType}, Laid Z a0 CC O nm d → parseFieldDescriptor d = some ty → Fld Z h' a O nm d (defaultValue ty)) → OEnds p e below s n0 Q C S T' (mkF m (pc + 3) Ls (.ref a :: st))) : OEnds p e below s n0 Q C S T (mkF m pc Ls st) := by
  obtain ⟨⟨hx, hZ, hby, hml, hown, hnm, hrt, hlk⟩, locs, X, eT, N, z0⟩ := H
  obtain ⟨T', h', X', e', E', A', D', -, q⟩ := newO X hx hZ hown w wi wz eT (g := mkF m pc Ls st) rfl (hb hby hd) hc hl
  exact go q (k T' h' _ rfl z0 ⟨⟨hx, hZ, hby, hml, hown, hnm, hrt, hlk⟩, locs, X', e', N, Nat.le_trans z0 E'.1⟩ E' A' D')
theorem newarray (H : OHr p l e R s m args below meth c Z n0 own nm code maxL ret T h ce sl) {aty : ArrayType} {n : Int32} {i : Nat} (cap : Nat) (hd : decode code pc = .ok (.newarray aty, 2)) (w : (Cond.arrayClass (newarray.typeOf aty)).before a0 Z = true) (hn : n.toInt = (i : Int)) (hf : fits (newarray.typeOf aty) (defaultValue (newarray.typeOf aty)) = true) (hcap : i ≤ cap) (hb8 : cap * 8 ≤ 536870912) (hc : ce + 1 ≤ R.cells) (hl : sl + cap ≤ R.slots)
    (k : ∀ T' h' a, a = h.size → n0 ≤ a → OHr p l e R s m args below meth c Z n0 own nm code maxL ret T' h' (ce + 1) (sl + cap) → Ext h h' → OAry Z h' a (newarray.typeOf aty) (List.replicate i (defaultValue (newarray.typeOf aty))) → OEnds p e below s n0 Q C S T' (mkF m (pc + 2) Ls (.ref a :: st))) : OEnds p e below s n0 Q C S T (mkF m pc Ls (.int n :: st)) := by
  obtain ⟨⟨hx, hZ, hby, hml, hown, hnm, hrt, hlk⟩, locs, X, eT, N, z0⟩ := H
  obtain ⟨n1, n2⟩ := nat_idx hn
  obtain ⟨T', h', cA, X', e', E', A', q⟩ := newP X hx hZ w eT (g := mkF m pc Ls (.int n :: st)) rfl (hb hby hd) rfl n2 (cap := cap) (by rw [n1]; exact hcap) hb8 hc hl
  exact go q (k T' h' _ rfl z0 ⟨⟨hx, hZ, hby, hml, hown, hnm, hrt, hlk⟩, locs, X', e', N, Nat.le_trans z0 E'.1⟩ E' (by have := OAry.new A' hf; rw [n1] at this; exact this))
theorem arraylength (H : OHr p l e R s m args below meth c Z n0 own nm code maxL ret T h ce sl) {a : Addr} {ty : FieldType} {vs : List Value} (n : Int32) (hd : decode code pc = .ok (.arraylength, 1)) (A : OAry Z h a ty vs) (hn : n.toInt = (vs.length : Int)) (k : OEnds p e below s n0 Q C S T (mkF m (pc + 1) Ls (.int n :: st))) : OEnds p e below s n0 Q C S T (mkF m pc Ls (.ref a :: st)) := by
  obtain ⟨⟨hx, hZ, hby, hml, hown, hnm, hrt, hlk⟩, locs, X, eT, N, z0⟩ := H
  obtain ⟨c1, A, r1, r2, r3⟩ := A
  have hsz : c1.slots.size = vs.length := by rw [← r1]; simp
  obtain ⟨n1, n2⟩ := nat_idx hn
  have e1 : c1.slots.size.toInt32 = n := by rw [hsz, ← n1]; exact (back32 n2).1
  refine go (fun t q => X.arraylength hx (cell := c1) (by rw [eT]; exact A.1) (State.isArrayOf_alike hZ.alike A.2.1) (g := mkF m pc Ls (.ref a :: st)) rfl rfl (hb hby hd) t q) ?_
  rw [e1]
  exact k
theorem iaload (H : OHr p l e R s m args below meth c Z n0 own nm code maxL ret T h ce sl) {a : Addr} {vs : List Value} {j : Int32} {v : Int32} (i : Nat) (hd : decode code pc = .ok (.iaload, 1)) (A : OAry Z h a .int vs) (hj : j.toInt = (i : Int)) (hv : vs[i]? = some (.int v)) (k : OEnds p e below s n0 Q C S T (mkF m (pc + 1) Ls (.int v :: st))) : OEnds p e below s n0 Q C S T (mkF m pc Ls (.int j :: .ref a :: st)) := by
  obtain ⟨⟨hx, hZ, hby, hml, hown, hnm, hrt, hlk⟩, locs, X, eT, N, z0⟩ := H
  obtain ⟨c1, A, r1, r2, r3⟩ := A
  have hsz : c1.slots.size = vs.length := by rw [← r1]; simp
  obtain ⟨n1, n2⟩ := nat_idx hj
  have hi : i < vs.length := by rcases Nat.lt_or_ge i vs.length with q | q; exact q; rw [List.getElem?_eq_none q] at hv; cases hv
  have hat : c1.slots[j.toNatClampNeg]? = some (.int v) := by rw [n1, ← Array.getElem?_toList, r1]; exact hv
  have hin : ¬ (j < 0 ∨ c1.slots.size ≤ j.toNatClampNeg) := by rw [n1, hsz]; intro q; rcases q with q | q; exact n2 q; omega
  exact go (fun t q => X.iaload hx (by rw [eT]; exact A.1) (State.isArrayOf_alike hZ.alike A.2.1) A.2.2 hin hat (g := mkF m pc Ls (.int j :: .ref a :: st)) rfl rfl (hb hby hd) t q) k
theorem laload (H : OHr p l e R s m args below meth c Z n0 own nm code maxL ret T h ce sl) {a : Addr} {vs : List Value} {j : Int32} {v : Int64} (i : Nat) (hd : decode code pc = .ok (.laload, 1)) (A : OAry Z h a .long vs) (hj : j.toInt = (i : Int)) (hv : vs[i]? = some (.long v)) (k : OEnds p e below s n0 Q C S T (mkF m (pc + 1) Ls (.long v :: st))) : OEnds p e below s n0 Q C S T (mkF m pc Ls (.int j :: .ref a :: st)) := by
  obtain ⟨⟨hx, hZ, hby, hml, hown, hnm, hrt, hlk⟩, locs, X, eT, N, z0⟩ := H
  obtain ⟨c1, A, r1, r2, r3⟩ := A
  have hsz : c1.slots.size = vs.length := by rw [← r1]; simp
  obtain ⟨n1, n2⟩ := nat_idx hj
  have hi : i < vs.length := by rcases Nat.lt_or_ge i vs.length with q | q; exact q; rw [List.getElem?_eq_none q] at hv; cases hv
  have hat : c1.slots[j.toNatClampNeg]? = some (.long v) := by rw [n1, ← Array.getElem?_toList, r1]; exact hv
  have hin : ¬ (j < 0 ∨ c1.slots.size ≤ j.toNatClampNeg) := by rw [n1, hsz]; intro q; rcases q with q | q; exact n2 q; omega
  exact go (fun t q => X.laload hx (by rw [eT]; exact A.1) (State.isArrayOf_alike hZ.alike A.2.1) A.2.2 hin hat (g := mkF m pc Ls (.int j :: .ref a :: st)) rfl rfl (hb hby hd) t q) k
theorem caload (H : OHr p l e R s m args below meth c Z n0 own nm code maxL ret T h ce sl) {a : Addr} {vs : List Value} {j : Int32} {v : Int32} (i : Nat) (hd : decode code pc = .ok (.caload, 1)) (A : OAry Z h a .char vs) (hj : j.toInt = (i : Int)) (hv : vs[i]? = some (.int v)) (k : OEnds p e below s n0 Q C S T (mkF m (pc + 1) Ls (.int v :: st))) : OEnds p e below s n0 Q C S T (mkF m pc Ls (.int j :: .ref a :: st)) := by
  obtain ⟨⟨hx, hZ, hby, hml, hown, hnm, hrt, hlk⟩, locs, X, eT, N, z0⟩ := H
  obtain ⟨c1, A, r1, r2, r3⟩ := A
  have hsz : c1.slots.size = vs.length := by rw [← r1]; simp
  obtain ⟨n1, n2⟩ := nat_idx hj
  have hi : i < vs.length := by rcases Nat.lt_or_ge i vs.length with q | q; exact q; rw [List.getElem?_eq_none q] at hv; cases hv
  have hat : c1.slots[j.toNatClampNeg]? = some (.int v) := by rw [n1, ← Array.getElem?_toList, r1]; exact hv
  have hin : ¬ (j < 0 ∨ c1.slots.size ≤ j.toNatClampNeg) := by rw [n1, hsz]; intro q; rcases q with q | q; exact n2 q; omega
  exact go (fun t q => X.caload hx (by rw [eT]; exact A.1) (State.isArrayOf_alike hZ.alike A.2.1) A.2.2 hin hat (g := mkF m pc Ls (.int j :: .ref a :: st)) rfl rfl (hb hby hd) t q) k
theorem baload (H : OHr p l e R s m args below meth c Z n0 own nm code maxL ret T h ce sl) {a : Addr} {vs : List Value} {j : Int32} {v : Int32} (i : Nat) (hd : decode code pc = .ok (.baload, 1)) (A : OAry Z h a .byte vs) (hj : j.toInt = (i : Int)) (hv : vs[i]? = some (.int v)) (k : OEnds p e below s n0 Q C S T (mkF m (pc + 1) Ls (.int v :: st))) : OEnds p e below s n0 Q C S T (mkF m pc Ls (.int j :: .ref a :: st)) := by
  obtain ⟨⟨hx, hZ, hby, hml, hown, hnm, hrt, hlk⟩, locs, X, eT, N, z0⟩ := H
  obtain ⟨c1, A, r1, r2, r3⟩ := A
  have hsz : c1.slots.size = vs.length := by rw [← r1]; simp
  obtain ⟨n1, n2⟩ := nat_idx hj
  have hi : i < vs.length := by rcases Nat.lt_or_ge i vs.length with q | q; exact q; rw [List.getElem?_eq_none q] at hv; cases hv
  have hat : c1.slots[j.toNatClampNeg]? = some (.int v) := by rw [n1, ← Array.getElem?_toList, r1]; exact hv
  have hin : ¬ (j < 0 ∨ c1.slots.size ≤ j.toNatClampNeg) := by rw [n1, hsz]; intro q; rcases q with q | q; exact n2 q; omega
  exact go (fun t q => X.baloadBytes hx (by rw [eT]; exact A.1) (State.isArrayOf_alike hZ.alike A.2.1) A.2.2 hin hat (g := mkF m pc Ls (.int j :: .ref a :: st)) rfl rfl (hb hby hd) t q) k
theorem aaload (H : OHr p l e R s m args below meth c Z n0 own nm code maxL ret T h ce sl) {a : Addr} {ty : FieldType} {vs : List Value} {j : Int32} {v : Value} (i : Nat) (hd : decode code pc = .ok (.aaload, 1)) (A : OAry Z h a ty vs) (ht : ty.isReference = true) (hj : j.toInt = (i : Int)) (hv : vs[i]? = some v) (k : OEnds p e below s n0 Q C S T (mkF m (pc + 1) Ls (v :: st))) : OEnds p e below s n0 Q C S T (mkF m pc Ls (.int j :: .ref a :: st)) := by
  obtain ⟨⟨hx, hZ, hby, hml, hown, hnm, hrt, hlk⟩, locs, X, eT, N, z0⟩ := H
  obtain ⟨c1, A, r1, r2, r3⟩ := A
  have hsz : c1.slots.size = vs.length := by rw [← r1]; simp
  obtain ⟨n1, n2⟩ := nat_idx hj
  have hi : i < vs.length := by rcases Nat.lt_or_ge i vs.length with q | q; exact q; rw [List.getElem?_eq_none q] at hv; cases hv
  have hat : c1.slots[j.toNatClampNeg]? = some v := by rw [n1, ← Array.getElem?_toList, r1]; exact hv
  have hin : ¬ (j < 0 ∨ c1.slots.size ≤ j.toNatClampNeg) := by rw [n1, hsz]; intro q; rcases q with q | q; exact n2 q; omega
  exact go (fun t q => X.aaload hx (by rw [eT]; exact A.1) (State.isArrayOf_alike hZ.alike A.2.1) ht A.2.2 hin hat (g := mkF m pc Ls (.int j :: .ref a :: st)) rfl rfl (hb hby hd) t q) k
theorem iastore (H : OHr p l e R s m args below meth c Z n0 own nm code maxL ret T h ce sl) {a : Addr} {vs : List Value} {j : Int32} {v : Int32} (i : Nat) (hd : decode code pc = .ok (.iastore, 1)) (A : OAry Z h a .int vs) (ge : n0 ≤ a) (hj : j.toInt = (i : Int)) (hi : i < vs.length) (k : ∀ T' h', OHr p l e R s m args below meth c Z n0 own nm code maxL ret T' h' ce sl → Wr h h' a i (.int v) → OAry Z h' a .int (vs.set i (.int v)) → OEnds p e below s n0 Q C S T' (mkF m (pc + 1) Ls st)) : OEnds p e below s n0 Q C S T (mkF m pc Ls (.int v :: .int j :: .ref a :: st)) := by
  obtain ⟨⟨hx, hZ, hby, hml, hown, hnm, hrt, hlk⟩, locs, X, eT, N, z0⟩ := H
  have A0 := A
  obtain ⟨c1, A, r1, r2, r3⟩ := A
  have hsz : c1.slots.size = vs.length := by rw [← r1]; simp
  obtain ⟨n1, n2⟩ := nat_idx hj
  have hin : ¬ (j < 0 ∨ c1.slots.size ≤ j.toNatClampNeg) := by rw [n1, hsz]; intro q; rcases q with q | q; exact n2 q; omega
  obtain ⟨T', h', X', e', W, q⟩ := stI X hx hZ eT A hin (g := mkF m pc Ls (.int v :: .int j :: .ref a :: st)) rfl rfl (hb hby hd)
  rw [n1] at X' W
  exact go q (k T' h' ⟨⟨hx, hZ, hby, hml, hown, hnm, hrt, hlk⟩, _, X', e', Fr.one N ge, by rw [W.size]; exact z0⟩ W (A0.wr W rfl))
theorem lastore (H : OHr p l e R s m args below meth c Z n0 own nm code maxL ret T h ce sl) {a : Addr} {vs : List Value} {j : Int32} {v : Int64} (i : Nat) (hd : decode code pc = .ok (.lastore, 1)) (A : OAry Z h a .long vs) (ge : n0 ≤ a) (hj : j.toInt = (i : Int)) (hi : i < vs.length) (k : ∀ T' h', OHr p l e R s m args below meth c Z n0 own nm code maxL ret T' h' ce sl → Wr h h' a i (.long v) → OAry Z h' a .long (vs.set i (.long v)) → OEnds p e below s n0 Q C S T' (mkF m (pc + 1) Ls st)) : OEnds p e below s n0 Q C S T (mkF m pc Ls (.long v :: .int j :: .ref a :: st)) := by
  obtain ⟨⟨hx, hZ, hby, hml, hown, hnm, hrt, hlk⟩, locs, X, eT, N, z0⟩ := H
  have A0 := A
  obtain ⟨c1, A, r1, r2, r3⟩ := A
  have hsz : c1.slots.size = vs.length := by rw [← r1]; simp
  obtain ⟨n1, n2⟩ := nat_idx hj
  have hin : ¬ (j < 0 ∨ c1.slots.size ≤ j.toNatClampNeg) := by rw [n1, hsz]; intro q; rcases q with q | q; exact n2 q; omega
  obtain ⟨T', h', X', e', W, q⟩ := stJ X hx hZ eT A hin (g := mkF m pc Ls (.long v :: .int j :: .ref a :: st)) rfl rfl (hb hby hd)
  rw [n1] at X' W
  exact go q (k T' h' ⟨⟨hx, hZ, hby, hml, hown, hnm, hrt, hlk⟩, _, X', e', Fr.one N ge, by rw [W.size]; exact z0⟩ W (A0.wr W rfl))
theorem castore (H : OHr p l e R s m args below meth c Z n0 own nm code maxL ret T h ce sl) {a : Addr} {vs : List Value} {j : Int32} {v : Int32} (i : Nat) (hd : decode code pc = .ok (.castore, 1)) (A : OAry Z h a .char vs) (ge : n0 ≤ a) (hj : j.toInt = (i : Int)) (hi : i < vs.length) (k : ∀ T' h', OHr p l e R s m args below meth c Z n0 own nm code maxL ret T' h' ce sl → Wr h h' a i (.int (nar .char v)) → OAry Z h' a .char (vs.set i (.int (nar .char v))) → OEnds p e below s n0 Q C S T' (mkF m (pc + 1) Ls st)) : OEnds p e below s n0 Q C S T (mkF m pc Ls (.int v :: .int j :: .ref a :: st)) := by
  obtain ⟨⟨hx, hZ, hby, hml, hown, hnm, hrt, hlk⟩, locs, X, eT, N, z0⟩ := H
  have A0 := A
  obtain ⟨c1, A, r1, r2, r3⟩ := A
  have hsz : c1.slots.size = vs.length := by rw [← r1]; simp
  obtain ⟨n1, n2⟩ := nat_idx hj
  have hin : ¬ (j < 0 ∨ c1.slots.size ≤ j.toNatClampNeg) := by rw [n1, hsz]; intro q; rcases q with q | q; exact n2 q; omega
  obtain ⟨T', h', X', e', W, q⟩ := stC X hx hZ eT A hin (g := mkF m pc Ls (.int v :: .int j :: .ref a :: st)) rfl rfl (hb hby hd)
  rw [n1] at X' W
  exact go q (k T' h' ⟨⟨hx, hZ, hby, hml, hown, hnm, hrt, hlk⟩, _, X', e', Fr.one N ge, by rw [W.size]; exact z0⟩ W (A0.wr W (fits_nar_char v)))
theorem bastore (H : OHr p l e R s m args below meth c Z n0 own nm code maxL ret T h ce sl) {a : Addr} {vs : List Value} {j : Int32} {v : Int32} (i : Nat) (hd : decode code pc = .ok (.bastore, 1)) (A : OAry Z h a .byte vs) (ge : n0 ≤ a) (hj : j.toInt = (i : Int)) (hi : i < vs.length) (k : ∀ T' h', OHr p l e R s m args below meth c Z n0 own nm code maxL ret T' h' ce sl → Wr h h' a i (.int (nar .byte v)) → OAry Z h' a .byte (vs.set i (.int (nar .byte v))) → OEnds p e below s n0 Q C S T' (mkF m (pc + 1) Ls st)) : OEnds p e below s n0 Q C S T (mkF m pc Ls (.int v :: .int j :: .ref a :: st)) := by
  obtain ⟨⟨hx, hZ, hby, hml, hown, hnm, hrt, hlk⟩, locs, X, eT, N, z0⟩ := H
  have A0 := A
  obtain ⟨c1, A, r1, r2, r3⟩ := A
  have hsz : c1.slots.size = vs.length := by rw [← r1]; simp
  obtain ⟨n1, n2⟩ := nat_idx hj
  have hin : ¬ (j < 0 ∨ c1.slots.size ≤ j.toNatClampNeg) := by rw [n1, hsz]; intro q; rcases q with q | q; exact n2 q; omega
  obtain ⟨T', h', X', e', W, q⟩ := stB X hx hZ eT A hin (g := mkF m pc Ls (.int v :: .int j :: .ref a :: st)) rfl rfl (hb hby hd)
  rw [n1] at X' W
  exact go q (k T' h' ⟨⟨hx, hZ, hby, hml, hown, hnm, hrt, hlk⟩, _, X', e', Fr.one N ge, by rw [W.size]; exact z0⟩ W (A0.wr W (fits_nar_byte v)))
theorem callS (H : OHr p l e R s m args below meth c Z n0 own nm code maxL ret T h ce sl) {y : MethodName} {idx mxL : Nat} {bytes : ByteArray} {rt : Option FieldType} {rm : Room} {Q' : Option Value → Heap → Prop} {ps : List FieldType} {r : Option FieldType} (argsL rest : List Value) (hd : decode code pc = .ok (.invokestatic idx, 3)) (w1 : (Cond.methodLink own idx y).before a0 Z = true) (w2 : (Cond.static y).before a0 Z = true) (w3 : (Cond.initialized y.cls).before a0 Z = true) (w4 : (Cond.code y bytes mxL rt).before a0 Z = true) (hy : y.cls ≠ "java/lang/invoke/MethodHandle" ∧ y.cls ≠ "java/lang/invoke/VarHandle")
    (M : OMet l Z n0 y bytes mxL rt rm argsL.toArray h Q') (hde : parseMethodDescriptor y.desc = some ⟨ps, r⟩) (hlen : argsL.length = ps.length) (hst : st = argsL.reverse ++ rest) (W : Nat) (hW0 : (rest.map fun v => v.category).sum = W) (hfr : rm.frames + 1 ≤ R.frames) (hW : W + (mxL + 11) + rm.locals ≤ R.locals) (hc : ce + rm.cells ≤ R.cells) (hs : sl + rm.slots ≤ R.slots) (hL : Ls.size = maxL)
    (k : ∀ T' v h', OHr p l e R s m args below meth c Z n0 own nm code maxL ret T' h' (ce + rm.cells) (sl + rm.slots) → h.size ≤ h'.size → Q' v h' → OEnds p e below s n0 Q C S T' (mkF m (pc + 3) Ls (v.toList ++ rest))) : OEnds p e below s n0 Q C S T (mkF m pc Ls st) := by
  obtain ⟨⟨hx, hZ, hby, hml, hown, hnm, hrt, hlk⟩, locs, X, eT, N, z0⟩ := H
  obtain ⟨v, _, ⟨T1, L1, k1, n1⟩, -, X1, ⟨Lc, ⟨f1, hle, hQ1⟩, l1, y1, z1⟩, q⟩ := Jvm.LawKit.callS X hx (y := y) hown (mvT hZ w1) (mvT hZ w2) (mvT hZ w3) (mvT hZ w4) hy (backOf (W := W) (Q := fun v h' L => Fr n0 L ∧ h.size ≤ h'.size ∧ Q' v h') (M []) hZ w4 w3 hfr hW) (g := mkF m pc Ls st) rfl (hL.trans hml.symm) (argsL := argsL) (rest := rest) (lenOf hde hlen) hst (by show 2 * 0 + _ ≤ _; rw [hW0]; omega) (hb hby hd) (fun _ _ => ⟨rfl, eT, hc, hs⟩)
  dsimp only [Pt.U, Pt.locs, Pt.cells, Pt.slots] at X1 l1 y1 z1 q hQ1 hle
  subst l1 y1 z1
  exact go q (k T1 v _ ⟨⟨hx, hZ, hby, hml, hown, hnm, hrt, hlk⟩, _, X1, rfl, Fr.app N f1, Nat.le_trans z0 hle⟩ hle hQ1)
theorem callI (H : OHr p l e R s m args below meth c Z n0 own nm code maxL ret T h ce sl) {y : MethodName} {idx mxL : Nat} {bytes : ByteArray} {rm : Room} {Q' : Option Value → Heap → Prop} {ps : List FieldType} {r : Option FieldType} (a : Addr) (argsL rest : List Value) (hd : decode code pc = .ok (.invokespecial idx, 3)) (hy1 : y.name = "<init>") (w1 : (Cond.methodLink own idx y).before a0 Z = true) (w2 : (Cond.instanceMethod y).before a0 Z = true) (w3 : (Cond.initialized y.cls).before a0 Z = true) (w4 : (Cond.code y bytes mxL none).before a0 Z = true) (hy : y.cls ≠ "java/lang/invoke/MethodHandle" ∧ y.cls ≠ "java/lang/invoke/VarHandle")
    (M : OMet l Z n0 y bytes mxL none rm (.ref a :: argsL).toArray h Q') (hde : parseMethodDescriptor y.desc = some ⟨ps, r⟩) (hlen : argsL.length = ps.length) (hst : st = argsL.reverse ++ .ref a :: rest) (W : Nat) (hW0 : (rest.map fun v => v.category).sum = W) (hfr : rm.frames + 1 ≤ R.frames) (hW : W + (mxL + 11) + rm.locals ≤ R.locals) (hc : ce + rm.cells ≤ R.cells) (hs : sl + rm.slots ≤ R.slots) (hL : Ls.size = maxL)
    (k : ∀ T' v h', OHr p l e R s m args below meth c Z n0 own nm code maxL ret T' h' (ce + rm.cells) (sl + rm.slots) → h.size ≤ h'.size → Q' v h' → OEnds p e below s n0 Q C S T' (mkF m (pc + 3) Ls (v.toList ++ rest))) : OEnds p e below s n0 Q C S T (mkF m pc Ls st) := by
  obtain ⟨⟨hx, hZ, hby, hml, hown, hnm, hrt, hlk⟩, locs, X, eT, N, z0⟩ := H
  obtain ⟨v, _, ⟨T1, L1, k1, n1⟩, -, X1, ⟨Lc, ⟨f1, hle, hQ1⟩, l1, y1, z1⟩, q⟩ := X.specialBack hx (y := y) hy1 hown (mvT hZ w1) (mvT hZ w2) (mvT hZ w4) hy (backOf (W := W) (Q := fun v h' L => Fr n0 L ∧ h.size ≤ h'.size ∧ Q' v h') (M []) hZ w4 w3 hfr hW) (g := mkF m pc Ls st) rfl (hL.trans hml.symm) (Steps.refl _) (a := a) (argsL := argsL) (rest := rest) (lenOf hde hlen) hst (by show 2 * 0 + _ ≤ _; rw [hW0]; omega) (hb hby hd) (fun _ _ => ⟨rfl, eT, hc, hs⟩)
  dsimp only [Pt.U, Pt.locs, Pt.cells, Pt.slots] at X1 l1 y1 z1 q hQ1 hle
  subst l1 y1 z1
  exact go1 q (k T1 v _ ⟨⟨hx, hZ, hby, hml, hown, hnm, hrt, hlk⟩, _, X1, rfl, Fr.app N f1, Nat.le_trans z0 hle⟩ hle hQ1)
theorem callV (H : OHr p l e R s m args below meth c Z n0 own nm code maxL ret T h ce sl) {y z : MethodName} {CC : String} {idx mxL : Nat} {bytes : ByteArray} {rt : Option FieldType} {rm : Room} {Q' : Option Value → Heap → Prop} {ps : List FieldType} {r : Option FieldType} (a : Addr) (argsL rest : List Value) (hd : decode code pc = .ok (.invokevirtual idx, 3)) (w1 : (Cond.methodLink own idx y).before a0 Z = true) (w2 : (Cond.declares y).before a0 Z = true) (nf : NotFace s y) (w5 : (Cond.selects CC y z).before a0 Z = true) (w6 : (Cond.instanceMethod z).before a0 Z = true) (w3 : (Cond.initialized z.cls).before a0 Z = true) (w4 : (Cond.code z bytes mxL rt).before a0 Z = true) (hy : y.cls ≠ "java/lang/invoke/MethodHandle" ∧ y.cls ≠ "java/lang/invoke/VarHandle") (E : Exa Z h a CC)
    (M : OMet l Z n0 z bytes mxL rt rm (.ref a :: argsL).toArray h Q') (hde : parseMethodDescriptor y.desc = some ⟨ps, r⟩) (hlen : argsL.length = ps.length) (hst : st = argsL.reverse ++ .ref a :: rest) (W : Nat) (hW0 : (rest.map fun v => v.category).sum = W) (hfr : rm.frames + 1 ≤ R.frames) (hW : W + (mxL + 11) + rm.locals ≤ R.locals) (hc : ce + rm.cells ≤ R.cells) (hs : sl + rm.slots ≤ R.slots) (hL : Ls.size = maxL)
    (k : ∀ T' v h', OHr p l e R s m args below meth c Z n0 own nm code maxL ret T' h' (ce + rm.cells) (sl + rm.slots) → h.size ≤ h'.size → Q' v h' → OEnds p e below s n0 Q C S T' (mkF m (pc + 3) Ls (v.toList ++ rest))) : OEnds p e below s n0 Q C S T (mkF m pc Ls st) := by
  obtain ⟨⟨hx, hZ, hby, hml, hown, hnm, hrt, hlk⟩, locs, X, eT, N, z0⟩ := H
  obtain ⟨cq, kq, qa, qb, qc⟩ := isOf hZ eT E
  obtain ⟨v, _, ⟨T1, L1, k1, n1⟩, -, X1, ⟨Lc, ⟨f1, hle, hQ1⟩, l1, y1, z1⟩, q⟩ := X.virtualBack hx (y := y) (z := z) hown (mvT hZ w1) (mvT hZ w2) nf (mvT hZ w5) (mvT hZ w6) hy (backOf (W := W) (Q := fun v h' L => Fr n0 L ∧ h.size ≤ h'.size ∧ Q' v h') (M []) hZ w4 w3 hfr hW) qa qc (g := mkF m pc Ls st) rfl (hL.trans hml.symm) (Steps.refl _) (argsL := argsL) (rest := rest) (lenOf hde hlen) hst (by show 2 * 0 + _ ≤ _; rw [hW0]; omega) (hb hby hd) (fun _ _ => ⟨rfl, eT, hc, hs⟩)
  dsimp only [Pt.U, Pt.locs, Pt.cells, Pt.slots] at X1 l1 y1 z1 q hQ1 hle
  subst l1 y1 z1
  exact go1 q (k T1 v _ ⟨⟨hx, hZ, hby, hml, hown, hnm, hrt, hlk⟩, _, X1, rfl, Fr.app N f1, Nat.le_trans z0 hle⟩ hle hQ1)
theorem callO (H : OHr p l e R s m args below meth c Z n0 own nm code maxL ret T h ce sl) {idx : Nat} {a : Addr} (hd : decode code pc = .ok (.invokespecial idx, 3)) (w1 : (Cond.methodLink own idx Lib.objectInit).before a0 Z = true) (w2 : (Cond.instanceMethod Lib.objectInit).before a0 Z = true) (w3 : (Cond.code Lib.objectInit ⟨#[0xb1]⟩ 1 none).before a0 Z = true) (W : Nat) (hW0 : (st.map fun v => v.category).sum = W) (hfr : 1 ≤ R.frames) (hW : W + 12 ≤ R.locals) (hL : Ls.size = maxL) (k : ∀ T', OHr p l e R s m args below meth c Z n0 own nm code maxL ret T' h ce sl → OEnds p e below s n0 Q C S T' (mkF m (pc + 3) Ls st)) : OEnds p e below s n0 Q C S T (mkF m pc Ls (.ref a :: st)) := by
  obtain ⟨⟨hx, hZ, hby, hml, hown, hnm, hrt, hlk⟩, locs, X, eT, N, z0⟩ := H
  obtain ⟨T', X', e', q⟩ := initO X hx hZ hown w1 w2 w3 eT (g := mkF m pc Ls (.ref a :: st)) rfl (hL.trans hml.symm) rfl (hb hby hd) hfr (W := W) (by show 2 * 0 + _ ≤ _; rw [hW0]; omega) hW
  exact go q (k T' ⟨⟨hx, hZ, hby, hml, hown, hnm, hrt, hlk⟩, locs, X', e', N, z0⟩)
theorem OHr.nf (H : OHr p l e R s m args below meth c Z n0 own nm code maxL ret T h ce sl) {y : MethodName} {CC : String} (w : (Cond.selects CC y y).before a0 Z = true) : NotFace s y := by
  obtain ⟨⟨hx, hZ, hby, hml, hown, hnm, hrt, hlk⟩, locs, X, eT, N, z0⟩ := H
  exact notFace_of_selects (args := #[]) (mvT hZ w)
theorem clone_ (H : OHr p l e R s m args below meth c Z n0 own nm code maxL ret T h ce sl) {ad : String} {idx : Nat} {a : Addr} {ty : FieldType} {vs : List Value} (cap : Nat) (hd : decode code pc = .ok (.invokevirtual idx, 3)) (w1 : (Cond.methodLink own idx ⟨ad, "clone", "()Ljava/lang/Object;"⟩).before a0 Z = true) (w2 : (Cond.sameMethod ad "java/lang/Object" "clone" "()Ljava/lang/Object;").before a0 Z = true) (w3 : (Cond.native ⟨"java/lang/Object", "clone", "()Ljava/lang/Object;"⟩).before a0 Z = true)
    (w4 : (Cond.instanceMethod ⟨"java/lang/Object", "clone", "()Ljava/lang/Object;"⟩).before a0 Z = true) (w5 : (Cond.selects ad ⟨ad, "clone", "()Ljava/lang/Object;"⟩ ⟨"java/lang/Object", "clone", "()Ljava/lang/Object;"⟩).before a0 Z = true) (w6 : (Cond.castable ad "java/lang/Cloneable").before a0 Z = true) (A : OAry Z h a ty vs) (E : Exa Z h a ad) (W : Nat) (hW0 : (st.map fun v => v.category).sum = W) (hfr : 1 ≤ R.frames) (hW : W + 14 ≤ R.locals) (hcap : vs.length ≤ cap) (hc : ce + 1 ≤ R.cells) (hs : sl + cap ≤ R.slots) (hL : Ls.size = maxL)
    (k : ∀ T' h' b, b = h.size → n0 ≤ b → OHr p l e R s m args below meth c Z n0 own nm code maxL ret T' h' (ce + 1) (sl + cap) → Ext h h' → OAry Z h' b ty vs → Exa Z h' b ad → OEnds p e below s n0 Q C S T' (mkF m (pc + 3) Ls (.ref b :: st))) : OEnds p e below s n0 Q C S T (mkF m pc Ls (.ref a :: st)) := by
  obtain ⟨⟨hx, hZ, hby, hml, hown, hnm, hrt, hlk⟩, locs, X, eT, N, z0⟩ := H
  obtain ⟨c1, A, r1, r2, r3⟩ := A
  have hsz : c1.slots.size = vs.length := by rw [← r1]; simp
  have hF : FitC Z c1 := fitC_of A (fun i hi v hv => r3 v (by rw [← r1]; rw [← Array.getElem?_toList] at hv; exact List.mem_of_getElem? hv))
  obtain ⟨T', h', X', e', E', A', B', q⟩ := cloneA X hx hZ hown w1 w2 w3 w4 w5 w6 eT A E hF (g := mkF m pc Ls (.ref a :: st)) rfl (hL.trans hml.symm) rfl (hb hby hd) hfr (W := W) (by show 2 * 0 + _ ≤ _; rw [hW0]; omega) hW (cap := cap) (by rw [hsz]; exact hcap) hc hs
  exact go q (k T' h' _ rfl z0 ⟨⟨hx, hZ, hby, hml, hown, hnm, hrt, hlk⟩, locs, X', e', N, Nat.le_trans z0 E'.1⟩ E' ⟨_, A', r1, r2, r3⟩ B')
theorem checkcast (H : OHr p l e R s m args below meth c Z n0 own nm code maxL ret T h ce sl) {KK : String} {idx : Nat} {a : Addr} (hd : decode code pc = .ok (.checkcast idx, 3)) (w : (Cond.classLink own idx KK).before a0 Z = true) (F : Ins Z h a KK true) (k : ∀ T', OHr p l e R s m args below meth c Z n0 own nm code maxL ret T' h ce sl → OEnds p e below s n0 Q C S T' (mkF m (pc + 3) Ls (.ref a :: st))) : OEnds p e below s n0 Q C S T (mkF m pc Ls (.ref a :: st)) := by
  obtain ⟨⟨hx, hZ, hby, hml, hown, hnm, hrt, hlk⟩, locs, X, eT, N, z0⟩ := H
  obtain ⟨T', X', e', q⟩ := castY X hx hZ hown w eT F (g := mkF m pc Ls (.ref a :: st)) rfl rfl (hb hby hd)
  exact go q (k T' ⟨⟨hx, hZ, hby, hml, hown, hnm, hrt, hlk⟩, locs, X', e', N, z0⟩)
end Go
end Jvm.Own
namespace Jvm.Pilot.@@N@@
open Jvm Jvm.ClassFile Sem Op Lib Jvm.Free Jvm.Stand Jvm.LawKit Jvm.RoadKit Bundle Jvm.Pilot.@@N@@.Jvm.D
open Jvm.Own (OHr OEnds OMet OAry)

theorem own_rem (x d : Int32) (hd : 0 < d.toInt) : 0 ≤ ((x &&& 2147483647) % d).toInt ∧ ((x &&& 2147483647) % d).toInt < d.toInt := by
  have h0 : 0 ≤ (x &&& 2147483647).toInt := (c_and x 2147483647 (by decide)).1
  have h1 := (c_iremV (x &&& 2147483647) d).1 h0 hd
  exact ⟨h1.1, h1.2.1⟩
theorem own_ne {x y : Int32} (h : x.toInt ≠ y.toInt) : ¬ x = y := fun e => h (by rw [e])
theorem own_eq {x y : Int32} (h : x.toInt = y.toInt) : x = y := Int32.toInt_inj.mp h
theorem own_lt {x y : Int32} : x < y ↔ x.toInt < y.toInt := Int32.lt_iff_toInt_lt


theorem own_cg (x y : Int64) : 0 < XT.cmpL x y ↔ y < x := lw_gt x y
theorem own_cl (x y : Int64) : XT.cmpL x y < 0 ↔ x < y := lw_lt x y
theorem own_ce (x y : Int64) : XT.cmpL x y = 0 ↔ x = y := lw_eq x y
theorem own_ltL {x y : Int64} : x < y ↔ x.toInt < y.toInt := Int64.lt_iff_toInt_lt
theorem own_eqL {x y : Int64} (h : x.toInt = y.toInt) : x = y := Int64.toInt_inj.mp h


theorem own_map {cs : List Int32} {i : Nat} (h : i < cs.length) : (cs.map Value.int)[i]? = some (.int (cs.getD i 0)) := by
  simp [List.getElem?_map, List.getD_eq_getElem?_getD, List.getElem?_eq_getElem h]
theorem own_fill {L : List Value} {d v : Value} {i : Nat} (h : L[i]? = some v) : (L.take i ++ List.replicate (L.length - i) d).set i v = L.take (i + 1) ++ List.replicate (L.length - (i + 1)) d := by
  have hi : i < L.length := by rcases Nat.lt_or_ge i L.length with q | q; exact q; rw [List.getElem?_eq_none q] at h; cases h
  have e : L.length - i = (L.length - (i + 1)) + 1 := by omega
  rw [e, List.replicate_succ, List.set_append_right _ _ (by simp; omega)]
  have e2 : i - (L.take i).length = 0 := by simp; omega
  rw [e2, List.set_cons_zero, List.take_add_one, h]
  simp
theorem own_ofNat {i : Nat} (h : i < 2147483648) : (Int32.ofNat i).toInt = (i : Int) := Int32.toInt_ofNat_of_lt h
theorem own_one (i : Nat) : Int32.ofNat i + (1 : Int32) = Int32.ofNat (i + 1) := (Int32.ofNat_add i 1).symm


theorem own_addn {x d : Int32} {s j : Nat} (hx : x.toInt = (s : Int)) (hd : d.toInt = (j : Int)) (h : s + j < 2147483648) : (x + d).toInt = ((s + j : Nat) : Int) := by
  have a := c_iadd x d
  have r := rng32 (x + d)
  omega


theorem own_eqi {x y : Int32} : x = y ↔ x.toInt = y.toInt := ⟨fun q => by rw [q], own_eq⟩
def own_byt (P : Int64) (n : Nat) : Int32 := ((XT.ushrL P (Int32.ofNat n)).toInt32).toInt8.toInt32
def own_em (P : Int64) : Nat → List Int32 → Nat → Nat → List Int32
  | 0, bs, _, _ => bs
  | k + 1, bs, a, H => own_em P k (bs.set a (own_byt P (H - 8))) (a + 1) (H - 8)
theorem own_em_len (P : Int64) : ∀ (k : Nat) (bs : List Int32) (a H : Nat), (own_em P k bs a H).length = bs.length
  | 0, _, _, _ => rfl
  | k + 1, bs, a, H => by rw [own_em, own_em_len P k]; simp
theorem own_em_get (P : Int64) : ∀ (k : Nat) (bs : List Int32) (a H i : Nat), a + k ≤ bs.length → 8 * k ≤ H → (own_em P k bs a H).getD i 0 = if a ≤ i ∧ i < a + k then own_byt P (H - 8 * (i - a + 1)) else bs.getD i 0
  | 0, bs, a, H, i, _, _ => by rw [own_em, if_neg (by omega)]
  | k + 1, bs, a, H, i, h1, h2 => by
    rw [own_em, own_em_get P k _ _ _ i (by simp; omega) (by omega)]
    by_cases q : a + 1 ≤ i ∧ i < a + 1 + k
    · rw [if_pos q, if_pos (by omega)]
      congr 1
      omega
    · rw [if_neg q]
      by_cases u : i = a
      · subst u
        rw [if_pos (by omega), List.getD_eq_getElem?_getD, List.getElem?_set_self (by omega)]
        have e : H - 8 * (i - i + 1) = H - 8 := by omega
        rw [e]; rfl
      · rw [if_neg (by omega), List.getD_eq_getElem?_getD, List.getElem?_set_ne (by omega), ← List.getD_eq_getElem?_getD]
theorem own_narb (x : Int32) : nar .byte (x.toInt8.toInt32) = x.toInt8.toInt32 := by
  have h1 := c_i2b x
  have h2 := c_i2b (x.toInt8.toInt32)
  apply own_eq
  show (x.toInt8.toInt32).toInt8.toInt32.toInt = _
  omega
theorem own_sub1 (x y : Int64) : (x + y) - x = y := by
  have a := c_ladd x y
  have b := c_lsub (x + y) x
  have r := rng64 ((x + y) - x)
  have r2 := rng64 y
  apply own_eqL
  omega
theorem own_zero (x : Int64) (y : Int64) : ((0 : Int64) <<< y) ||| x = x := by
  have e : (0 : Int64) <<< y = 0 := by
    apply Int64.toBitVec_inj.mp
    show (0#64) <<< (y.toBitVec.smod 64) = 0#64
    rw [BitVec.shiftLeft_eq']
    exact BitVec.zero_shiftLeft _
  rw [e]
  apply Int64.toBitVec_inj.mp
  simp

theorem d1_0 : decode prog_74_method_1_code 0 = .ok (.aload_n 0, 1) := by decide +kernel
theorem d1_1 : decode prog_74_method_1_code 1 = .ok (.invokespecial 5, 3) := by decide +kernel
theorem d1_4 : decode prog_74_method_1_code 4 = .ok (.aload_n 0, 1) := by decide +kernel
theorem d1_5 : decode prog_74_method_1_code 5 = .ok (.lload_n 1, 1) := by decide +kernel
theorem d1_6 : decode prog_74_method_1_code 6 = .ok (.putfield 11, 3) := by decide +kernel
theorem d1_9 : decode prog_74_method_1_code 9 = .ok (.aload_n 0, 1) := by decide +kernel
theorem d1_10 : decode prog_74_method_1_code 10 = .ok (.iload_n 3, 1) := by decide +kernel
theorem d1_11 : decode prog_74_method_1_code 11 = .ok (.putfield 17, 3) := by decide +kernel
theorem d1_14 : decode prog_74_method_1_code 14 = .ok (.return_, 1) := by decide +kernel
theorem d3_0 : decode prog_74_method_2_code 0 = .ok (.aload_n 0, 1) := by decide +kernel
theorem d3_1 : decode prog_74_method_2_code 1 = .ok (.aload_n 0, 1) := by decide +kernel
theorem d3_2 : decode prog_74_method_2_code 2 = .ok (.getfield 21, 3) := by decide +kernel
theorem d3_5 : decode prog_74_method_2_code 5 = .ok (.aload_n 0, 1) := by decide +kernel
theorem d3_6 : decode prog_74_method_2_code 6 = .ok (.getfield 17, 3) := by decide +kernel
theorem d3_9 : decode prog_74_method_2_code 9 = .ok (.lshl, 1) := by decide +kernel
theorem d3_10 : decode prog_74_method_2_code 10 = .ok (.lload_n 1, 1) := by decide +kernel
theorem d3_11 : decode prog_74_method_2_code 11 = .ok (.aload_n 0, 1) := by decide +kernel
theorem d3_12 : decode prog_74_method_2_code 12 = .ok (.getfield 11, 3) := by decide +kernel
theorem d3_15 : decode prog_74_method_2_code 15 = .ok (.lsub, 1) := by decide +kernel
theorem d3_16 : decode prog_74_method_2_code 16 = .ok (.lor, 1) := by decide +kernel
theorem d3_17 : decode prog_74_method_2_code 17 = .ok (.putfield 21, 3) := by decide +kernel
theorem d3_20 : decode prog_74_method_2_code 20 = .ok (.aload_n 0, 1) := by decide +kernel
theorem d3_21 : decode prog_74_method_2_code 21 = .ok (.dup, 1) := by decide +kernel
theorem d3_22 : decode prog_74_method_2_code 22 = .ok (.getfield 24, 3) := by decide +kernel
theorem d3_25 : decode prog_74_method_2_code 25 = .ok (.aload_n 0, 1) := by decide +kernel
theorem d3_26 : decode prog_74_method_2_code 26 = .ok (.getfield 17, 3) := by decide +kernel
theorem d3_29 : decode prog_74_method_2_code 29 = .ok (.iadd, 1) := by decide +kernel
theorem d3_30 : decode prog_74_method_2_code 30 = .ok (.putfield 24, 3) := by decide +kernel
theorem d3_33 : decode prog_74_method_2_code 33 = .ok (.iload 4, 2) := by decide +kernel
theorem d3_35 : decode prog_74_method_2_code 35 = .ok (.istore 5, 2) := by decide +kernel
theorem d3_37 : decode prog_74_method_2_code 37 = .ok (.aload_n 0, 1) := by decide +kernel
theorem d3_38 : decode prog_74_method_2_code 38 = .ok (.getfield 24, 3) := by decide +kernel
theorem d3_41 : decode prog_74_method_2_code 41 = .ok (.bipush 8, 2) := by decide +kernel
theorem d3_43 : decode prog_74_method_2_code 43 = .ok (.if_icmp .lt 35, 3) := by decide +kernel
theorem d3_46 : decode prog_74_method_2_code 46 = .ok (.aload_n 0, 1) := by decide +kernel
theorem d3_47 : decode prog_74_method_2_code 47 = .ok (.dup, 1) := by decide +kernel
theorem d3_48 : decode prog_74_method_2_code 48 = .ok (.getfield 24, 3) := by decide +kernel
theorem d3_51 : decode prog_74_method_2_code 51 = .ok (.bipush 8, 2) := by decide +kernel
theorem d3_53 : decode prog_74_method_2_code 53 = .ok (.isub, 1) := by decide +kernel
theorem d3_54 : decode prog_74_method_2_code 54 = .ok (.putfield 24, 3) := by decide +kernel
theorem d3_57 : decode prog_74_method_2_code 57 = .ok (.aload_n 3, 1) := by decide +kernel
theorem d3_58 : decode prog_74_method_2_code 58 = .ok (.iload 5, 2) := by decide +kernel
theorem d3_60 : decode prog_74_method_2_code 60 = .ok (.iinc 5 1, 3) := by decide +kernel
theorem d3_63 : decode prog_74_method_2_code 63 = .ok (.aload_n 0, 1) := by decide +kernel
theorem d3_64 : decode prog_74_method_2_code 64 = .ok (.getfield 21, 3) := by decide +kernel
theorem d3_67 : decode prog_74_method_2_code 67 = .ok (.aload_n 0, 1) := by decide +kernel
theorem d3_68 : decode prog_74_method_2_code 68 = .ok (.getfield 24, 3) := by decide +kernel
theorem d3_71 : decode prog_74_method_2_code 71 = .ok (.lushr, 1) := by decide +kernel
theorem d3_72 : decode prog_74_method_2_code 72 = .ok (.l2i, 1) := by decide +kernel
theorem d3_73 : decode prog_74_method_2_code 73 = .ok (.i2b, 1) := by decide +kernel
theorem d3_74 : decode prog_74_method_2_code 74 = .ok (.bastore, 1) := by decide +kernel
theorem d3_75 : decode prog_74_method_2_code 75 = .ok (.goto (-38), 3) := by decide +kernel
theorem d3_78 : decode prog_74_method_2_code 78 = .ok (.iload 5, 2) := by decide +kernel
theorem d3_80 : decode prog_74_method_2_code 80 = .ok (.ireturn, 1) := by decide +kernel
theorem d4_0 : decode prog_74_method_3_code 0 = .ok (.aload_n 0, 1) := by decide +kernel
theorem d4_1 : decode prog_74_method_3_code 1 = .ok (.getfield 24, 3) := by decide +kernel
theorem d4_4 : decode prog_74_method_3_code 4 = .ok (.ifCond .ne 5, 3) := by decide +kernel
theorem d4_7 : decode prog_74_method_3_code 7 = .ok (.iload_n 2, 1) := by decide +kernel
theorem d4_8 : decode prog_74_method_3_code 8 = .ok (.ireturn, 1) := by decide +kernel
theorem d4_9 : decode prog_74_method_3_code 9 = .ok (.aload_n 1, 1) := by decide +kernel
theorem d4_10 : decode prog_74_method_3_code 10 = .ok (.iload_n 2, 1) := by decide +kernel
theorem d4_11 : decode prog_74_method_3_code 11 = .ok (.aload_n 0, 1) := by decide +kernel
theorem d4_12 : decode prog_74_method_3_code 12 = .ok (.getfield 21, 3) := by decide +kernel
theorem d4_15 : decode prog_74_method_3_code 15 = .ok (.bipush 8, 2) := by decide +kernel
theorem d4_17 : decode prog_74_method_3_code 17 = .ok (.aload_n 0, 1) := by decide +kernel
theorem d4_18 : decode prog_74_method_3_code 18 = .ok (.getfield 24, 3) := by decide +kernel
theorem d4_21 : decode prog_74_method_3_code 21 = .ok (.isub, 1) := by decide +kernel
theorem d4_22 : decode prog_74_method_3_code 22 = .ok (.lshl, 1) := by decide +kernel
theorem d4_23 : decode prog_74_method_3_code 23 = .ok (.l2i, 1) := by decide +kernel
theorem d4_24 : decode prog_74_method_3_code 24 = .ok (.i2b, 1) := by decide +kernel
theorem d4_25 : decode prog_74_method_3_code 25 = .ok (.bastore, 1) := by decide +kernel
theorem d4_26 : decode prog_74_method_3_code 26 = .ok (.aload_n 0, 1) := by decide +kernel
theorem d4_27 : decode prog_74_method_3_code 27 = .ok (.iconst 0, 1) := by decide +kernel
theorem d4_28 : decode prog_74_method_3_code 28 = .ok (.putfield 24, 3) := by decide +kernel
theorem d4_31 : decode prog_74_method_3_code 31 = .ok (.iload_n 2, 1) := by decide +kernel
theorem d4_32 : decode prog_74_method_3_code 32 = .ok (.iconst 1, 1) := by decide +kernel
theorem d4_33 : decode prog_74_method_3_code 33 = .ok (.iadd, 1) := by decide +kernel
theorem d4_34 : decode prog_74_method_3_code 34 = .ok (.ireturn, 1) := by decide +kernel
theorem d5_0 : decode method_3_code 0 = .ok (.iload_n 1, 1) := by decide +kernel
theorem d5_1 : decode method_3_code 1 = .ok (.iload_n 2, 1) := by decide +kernel
theorem d5_2 : decode method_3_code 2 = .ok (.isub, 1) := by decide +kernel
theorem d5_3 : decode method_3_code 3 = .ok (.istore 6, 2) := by decide +kernel
theorem d5_5 : decode method_3_code 5 = .ok (.iload 6, 2) := by decide +kernel
theorem d5_7 : decode method_3_code 7 = .ok (.ifCond .lt 9, 3) := by decide +kernel
theorem d5_10 : decode method_3_code 10 = .ok (.iload 6, 2) := by decide +kernel
theorem d5_12 : decode method_3_code 12 = .ok (.iload_n 3, 1) := by decide +kernel
theorem d5_13 : decode method_3_code 13 = .ok (.if_icmp .lt 8, 3) := by decide +kernel
theorem d5_16 : decode method_3_code 16 = .ok (.bipush 90, 2) := by decide +kernel
theorem d5_18 : decode method_3_code 18 = .ok (.goto 16, 3) := by decide +kernel
theorem d5_21 : decode method_3_code 21 = .ok (.lload 4, 2) := by decide +kernel
theorem d5_23 : decode method_3_code 23 = .ok (.bipush 56, 2) := by decide +kernel
theorem d5_25 : decode method_3_code 25 = .ok (.bipush 8, 2) := by decide +kernel
theorem d5_27 : decode method_3_code 27 = .ok (.iload 6, 2) := by decide +kernel
theorem d5_29 : decode method_3_code 29 = .ok (.imul, 1) := by decide +kernel
theorem d5_30 : decode method_3_code 30 = .ok (.isub, 1) := by decide +kernel
theorem d5_31 : decode method_3_code 31 = .ok (.lushr, 1) := by decide +kernel
theorem d5_32 : decode method_3_code 32 = .ok (.l2i, 1) := by decide +kernel
theorem d5_33 : decode method_3_code 33 = .ok (.i2b, 1) := by decide +kernel
theorem d5_34 : decode method_3_code 34 = .ok (.istore 7, 2) := by decide +kernel
theorem d5_36 : decode method_3_code 36 = .ok (.aload_n 0, 1) := by decide +kernel
theorem d5_37 : decode method_3_code 37 = .ok (.iload_n 1, 1) := by decide +kernel
theorem d5_38 : decode method_3_code 38 = .ok (.baload, 1) := by decide +kernel
theorem d5_39 : decode method_3_code 39 = .ok (.iload 7, 2) := by decide +kernel
theorem d5_41 : decode method_3_code 41 = .ok (.if_icmp .ne 7, 3) := by decide +kernel
theorem d5_44 : decode method_3_code 44 = .ok (.iconst 1, 1) := by decide +kernel
theorem d5_45 : decode method_3_code 45 = .ok (.goto 4, 3) := by decide +kernel
theorem d5_48 : decode method_3_code 48 = .ok (.iconst 0, 1) := by decide +kernel
theorem d5_49 : decode method_3_code 49 = .ok (.ireturn, 1) := by decide +kernel
theorem pn_rm_init : plainFor (⟨"termstone/packing/PackedInts$Packer", "<init>", "(JI)V"⟩ : MethodName) = true := by first | exact plainFor_of_name (by first | (simp [plainName, overriddenIn]; done) | decide +kernel) | decide +kernel
theorem ef_rm_init (a : Nat) (B : Int64) (b : Int32) (m : MethodId) : entryFrame m #[(.ref a), (.long B), (.int b)] 4 = mkF m 0 #[.val (.ref a), .val (.long B), .second, .val (.int b)] [] := by first | (simp [entryFrame, mkF, argsToLocals, Value.category]; done) | rfl
set_option maxRecDepth 65536 in
set_option maxHeartbeats 40000000 in
theorem rm_init (l : Launch) (Z : State) (a0 : Array Value) (hw : ∀ d ∈ tables_1, d.before a0 Z = true) (a : Nat) (B : Int64) (b : Int32) (h0 : Heap) (n0 : Nat) (Z0 : n0 ≤ h0.size) (u_base : Value) (F_base : Fld Z h0 a "termstone/packing/PackedInts$Packer" "base" "J" u_base) (u_bits : Value) (F_bits : Fld Z h0 a "termstone/packing/PackedInts$Packer" "bits" "I" u_bits) (F_pending : Fld Z h0 a "termstone/packing/PackedInts$Packer" "pending" "J" (.long 0)) (F_held : Fld Z h0 a "termstone/packing/PackedInts$Packer" "held" "I" (.int 0)) (E : Exa Z h0 a "termstone/packing/PackedInts$Packer") (ge : n0 ≤ a) :
    OMet l Z n0 (⟨"termstone/packing/PackedInts$Packer", "<init>", "(JI)V"⟩ : MethodName) prog_74_method_1_code 4 none ({ frames := 1, cells := 0, slots := 0, locals := 12 } : Room) #[(.ref a), (.long B), (.int b)] h0 (fun v h => v = none ∧ Keep h0 h [a] ∧ Fld Z h a "termstone/packing/PackedInts$Packer" "base" "J" (.long B) ∧ Fld Z h a "termstone/packing/PackedInts$Packer" "bits" "I" (.int b) ∧ Fld Z h a "termstone/packing/PackedInts$Packer" "pending" "J" (.long 0) ∧ Fld Z h a "termstone/packing/PackedInts$Packer" "held" "I" (.int 0) ∧ Exa Z h a "termstone/packing/PackedInts$Packer") := by
  refine OMet.of pn_rm_init Z0 (ef_rm_init a B b) ?_
  intro p e s m below meth c T H
  refine Own.aload_n H (pc := 0) d1_0 rfl rfl ?_
  refine Own.callO H (pc := 1) d1_1 (hw _ (List.mem_of_getElem? (i := 8) rfl)) (hw _ (List.mem_of_getElem? (i := 9) rfl)) (hw _ (List.mem_of_getElem? (i := 10) rfl)) 0 rfl (by decide) (by decide) rfl (fun T_2 H_1 => ?_)
  refine Own.aload_n H_1 (pc := 4) d1_4 rfl rfl ?_
  refine Own.lload_n H_1 (pc := 5) d1_5 rfl ?_
  refine Own.putfield H_1 (pc := 6) d1_6 (hw _ (List.mem_of_getElem? (i := 11) rfl)) F_base E (Or.inr ⟨(hw _ (List.mem_of_getElem? (i := 12) rfl)), rfl, rfl⟩) (hw _ (List.mem_of_getElem? (i := 3) rfl)) (ty := .long) (by decide) rfl rfl ge (fun T_4 h_5 H_3 W_6 => ?_)
  have E_7 := E.wr W_6
  have F_8 := F_base.same W_6
  have F_9 := F_bits.other W_6 (Or.inr (slot_ne (Or.inr (hw _ (List.mem_of_getElem? (i := 14) rfl))) (Or.inr (hw _ (List.mem_of_getElem? (i := 12) rfl))) (by decide) (t := .int) (t' := .long) (by decide) (by decide)))
  have F_10 := F_pending.other W_6 (Or.inr (slot_ne (Or.inl (hw _ (List.mem_of_getElem? (i := 21) rfl))) (Or.inr (hw _ (List.mem_of_getElem? (i := 12) rfl))) (by decide) (t := .long) (t' := .long) (by decide) (by decide)))
  have F_11 := F_held.other W_6 (Or.inr (slot_ne (Or.inl (hw _ (List.mem_of_getElem? (i := 23) rfl))) (Or.inr (hw _ (List.mem_of_getElem? (i := 12) rfl))) (by decide) (t := .int) (t' := .long) (by decide) (by decide)))
  have K_12 := (Keep.refl h0 [a]).wr W_6 (Or.inl List.mem_cons_self)
  refine Own.aload_n H_3 (pc := 9) d1_9 rfl rfl ?_
  refine Own.iload_n H_3 (pc := 10) d1_10 rfl ?_
  refine Own.putfield H_3 (pc := 11) d1_11 (hw _ (List.mem_of_getElem? (i := 13) rfl)) F_9 E_7 (Or.inr ⟨(hw _ (List.mem_of_getElem? (i := 14) rfl)), rfl, rfl⟩) (hw _ (List.mem_of_getElem? (i := 3) rfl)) (ty := .int) (by decide) rfl rfl ge (fun T_14 h_15 H_13 W_16 => ?_)
  have E_17 := E_7.wr W_16
  have F_18 := F_8.other W_16 (Or.inr (slot_ne (Or.inr (hw _ (List.mem_of_getElem? (i := 12) rfl))) (Or.inr (hw _ (List.mem_of_getElem? (i := 14) rfl))) (by decide) (t := .long) (t' := .int) (by decide) (by decide)))
  have F_19 := F_9.same W_16
  have F_20 := F_10.other W_16 (Or.inr (slot_ne (Or.inl (hw _ (List.mem_of_getElem? (i := 21) rfl))) (Or.inr (hw _ (List.mem_of_getElem? (i := 14) rfl))) (by decide) (t := .long) (t' := .int) (by decide) (by decide)))
  have F_21 := F_11.other W_16 (Or.inr (slot_ne (Or.inl (hw _ (List.mem_of_getElem? (i := 23) rfl))) (Or.inr (hw _ (List.mem_of_getElem? (i := 14) rfl))) (by decide) (t := .int) (t' := .int) (by decide) (by decide)))
  have K_22 := K_12.wr W_16 (Or.inl List.mem_cons_self)
  exact Own.ret_void H_13 (pc := 14) d1_14 rfl (by decide) (by decide) (⟨rfl, K_22, F_18, F_19, F_20, F_21, E_17⟩)
theorem pn_rm_add : plainFor (⟨"termstone/packing/PackedInts$Packer", "add", "(J[BI)I"⟩ : MethodName) = true := by first | exact plainFor_of_name (by first | (simp [plainName, overriddenIn]; done) | decide +kernel) | decide +kernel
theorem ef_rm_add (a : Nat) (x : Int64) (ob : Nat) (at_ : Int32) (m : MethodId) : entryFrame m #[(.ref a), (.long x), (.ref ob), (.int at_)] 6 = mkF m 0 #[.val (.ref a), .val (.long x), .second, .val (.ref ob), .val (.int at_), .unset] [] := by first | (simp [entryFrame, mkF, argsToLocals, Value.category]; done) | rfl
set_option maxRecDepth 65536 in
set_option maxHeartbeats 40000000 in
theorem rm_add (l : Launch) (Z : State) (a0 : Array Value) (hw : ∀ d ∈ tables_1, d.before a0 Z = true) (a : Nat) (x : Int64) (ob : Nat) (at_ : Int32) (h0 : Heap) (n0 : Nat) (Z0 : n0 ≤ h0.size) (B P : Int64) (b hI : Int32) (bs : List Int32) (hd bn ai : Nat) (F_base : Fld Z h0 a "termstone/packing/PackedInts$Packer" "base" "J" (.long B)) (F_bits : Fld Z h0 a "termstone/packing/PackedInts$Packer" "bits" "I" (.int b)) (F_pending : Fld Z h0 a "termstone/packing/PackedInts$Packer" "pending" "J" (.long P)) (F_held : Fld Z h0 a "termstone/packing/PackedInts$Packer" "held" "I" (.int hI)) (E : Exa Z h0 a "termstone/packing/PackedInts$Packer") (A : OAry Z h0 ob .byte (bs.map Value.int)) (ge : n0 ≤ a) (go : n0 ≤ ob) (ne : a ≠ ob) (hh : hI.toInt = (hd : Int)) (hbn : b.toInt = (bn : Int)) (hat : at_.toInt = (ai : Int)) (h7 : hd ≤ 7) (h32 : bn ≤ 32) (hl : bs.length = 12) (hfit : ai + (hd + bn) / 8 ≤ 12) :
    OMet l Z n0 (⟨"termstone/packing/PackedInts$Packer", "add", "(J[BI)I"⟩ : MethodName) prog_74_method_2_code 6 (some .int) ({ frames := 0, cells := 0, slots := 0, locals := 0 } : Room) #[(.ref a), (.long x), (.ref ob), (.int at_)] h0 (fun v h => ∃ rI hI2 : Int32, v = some (.int rI) ∧ rI.toInt = ((ai + (hd + bn) / 8 : Nat) : Int) ∧ hI2.toInt = (((hd + bn) % 8 : Nat) : Int) ∧ Fld Z h a "termstone/packing/PackedInts$Packer" "base" "J" (.long B) ∧ Fld Z h a "termstone/packing/PackedInts$Packer" "bits" "I" (.int b) ∧ Fld Z h a "termstone/packing/PackedInts$Packer" "pending" "J" (.long ((P <<< (b.toInt64 &&& 63)) ||| (x - B))) ∧ Fld Z h a "termstone/packing/PackedInts$Packer" "held" "I" (.int hI2) ∧ Exa Z h a "termstone/packing/PackedInts$Packer" ∧ OAry Z h ob .byte ((own_em ((P <<< (b.toInt64 &&& 63)) ||| (x - B)) ((hd + bn) / 8) bs ai (hd + bn)).map Value.int)) := by
  refine OMet.of pn_rm_add Z0 (ef_rm_add a x ob at_) ?_
  intro p e s m below meth c T H
  refine Own.aload_n H (pc := 0) d3_0 rfl rfl ?_
  refine Own.aload_n H (pc := 1) d3_1 rfl rfl ?_
  refine Own.getfield H (pc := 2) d3_2 (hw _ (List.mem_of_getElem? (i := 20) rfl)) F_pending (fun T_24 H_23 => ?_)
  refine Own.aload_n H_23 (pc := 5) d3_5 rfl rfl ?_
  refine Own.getfield H_23 (pc := 6) d3_6 (hw _ (List.mem_of_getElem? (i := 13) rfl)) F_bits (fun T_26 H_25 => ?_)
  refine Own.lshl H_25 (pc := 9) d3_9 ?_
  refine Own.lload_n H_25 (pc := 10) d3_10 rfl ?_
  refine Own.aload_n H_25 (pc := 11) d3_11 rfl rfl ?_
  refine Own.getfield H_25 (pc := 12) d3_12 (hw _ (List.mem_of_getElem? (i := 11) rfl)) F_base (fun T_28 H_27 => ?_)
  refine Own.lsub H_27 (pc := 15) d3_15 ?_
  refine Own.lor H_27 (pc := 16) d3_16 ?_
  show OEnds _ _ _ _ _ _ _ _ _ (mkF _ 17 #[.val (.ref a), .val (.long x), .second, .val (.ref ob), .val (.int at_), .unset] [(.long ((P <<< (b.toInt64 &&& 63)) ||| (x - B))), (.ref a)])
  generalize eP2 : ((P <<< (b.toInt64 &&& 63)) ||| (x - B)) = P2
  refine Own.putfield H_27 (pc := 17) d3_17 (hw _ (List.mem_of_getElem? (i := 20) rfl)) F_pending E (Or.inl (hw _ (List.mem_of_getElem? (i := 21) rfl))) (hw _ (List.mem_of_getElem? (i := 3) rfl)) (ty := .long) (by decide) rfl rfl ge (fun T_30 h_31 H_29 W_32 => ?_)
  have E_33 := E.wr W_32
  have F_34 := F_base.other W_32 (Or.inr (slot_ne (Or.inr (hw _ (List.mem_of_getElem? (i := 12) rfl))) (Or.inl (hw _ (List.mem_of_getElem? (i := 21) rfl))) (by decide) (t := .long) (t' := .long) (by decide) (by decide)))
  have F_35 := F_bits.other W_32 (Or.inr (slot_ne (Or.inr (hw _ (List.mem_of_getElem? (i := 14) rfl))) (Or.inl (hw _ (List.mem_of_getElem? (i := 21) rfl))) (by decide) (t := .int) (t' := .long) (by decide) (by decide)))
  have F_36 := F_pending.same W_32
  have F_37 := F_held.other W_32 (Or.inr (slot_ne (Or.inl (hw _ (List.mem_of_getElem? (i := 23) rfl))) (Or.inl (hw _ (List.mem_of_getElem? (i := 21) rfl))) (by decide) (t := .int) (t' := .long) (by decide) (by decide)))
  have A1 := A.other W_32 ne.symm
  refine Own.aload_n H_29 (pc := 20) d3_20 rfl rfl ?_
  refine Own.dup H_29 (pc := 21) d3_21 rfl ?_
  refine Own.getfield H_29 (pc := 22) d3_22 (hw _ (List.mem_of_getElem? (i := 22) rfl)) F_37 (fun T_39 H_38 => ?_)
  refine Own.aload_n H_38 (pc := 25) d3_25 rfl rfl ?_
  refine Own.getfield H_38 (pc := 26) d3_26 (hw _ (List.mem_of_getElem? (i := 13) rfl)) F_35 (fun T_41 H_40 => ?_)
  refine Own.iadd H_40 (pc := 29) d3_29 ?_
  refine Own.putfield H_40 (pc := 30) d3_30 (hw _ (List.mem_of_getElem? (i := 22) rfl)) F_37 E_33 (Or.inl (hw _ (List.mem_of_getElem? (i := 23) rfl))) (hw _ (List.mem_of_getElem? (i := 3) rfl)) (ty := .int) (by decide) rfl rfl ge (fun T_43 h_44 H_42 W_45 => ?_)
  have E_46 := E_33.wr W_45
  have F_47 := F_34.other W_45 (Or.inr (slot_ne (Or.inr (hw _ (List.mem_of_getElem? (i := 12) rfl))) (Or.inl (hw _ (List.mem_of_getElem? (i := 23) rfl))) (by decide) (t := .long) (t' := .int) (by decide) (by decide)))
  have F_48 := F_35.other W_45 (Or.inr (slot_ne (Or.inr (hw _ (List.mem_of_getElem? (i := 14) rfl))) (Or.inl (hw _ (List.mem_of_getElem? (i := 23) rfl))) (by decide) (t := .int) (t' := .int) (by decide) (by decide)))
  have F_49 := F_36.other W_45 (Or.inr (slot_ne (Or.inl (hw _ (List.mem_of_getElem? (i := 21) rfl))) (Or.inl (hw _ (List.mem_of_getElem? (i := 23) rfl))) (by decide) (t := .long) (t' := .int) (by decide) (by decide)))
  have F_50 := F_37.same W_45
  have A2 := A1.other W_45 ne.symm
  refine Own.iload H_42 (pc := 33) d3_33 rfl ?_
  refine Own.istore H_42 (pc := 35) #[.val (.ref a), .val (.long x), .second, .val (.ref ob), .val (.int at_), .val (.int at_)] d3_35 rfl ?_
  have hsum : (hI + b).toInt = ((hd + bn : Nat) : Int) := own_addn hh hbn (by omega)
  have loop : ∀ (k G ai2 : Nat) (gI aI : Int32) (cs : List Int32) (T : State) (h : Heap), G / 8 = k → G % 8 = (hd + bn) % 8 → ai2 + k = ai + (hd + bn) / 8 → G ≤ 39 → gI.toInt = (G : Int) → aI.toInt = (ai2 : Int) → cs.length = 12 → own_em P2 k cs ai2 G = own_em P2 ((hd + bn) / 8) bs ai (hd + bn) → OHr p l e ({ frames := 0, cells := 0, slots := 0, locals := 0 } : Room) s m #[(.ref a), (.long x), (.ref ob), (.int at_)] below meth c Z n0 "termstone/packing/PackedInts$Packer" "add" prog_74_method_2_code 6 (some .int) T h 0 0 → Fld Z h a "termstone/packing/PackedInts$Packer" "base" "J" (.long B) → Fld Z h a "termstone/packing/PackedInts$Packer" "bits" "I" (.int b) → Fld Z h a "termstone/packing/PackedInts$Packer" "pending" "J" (.long P2) → Fld Z h a "termstone/packing/PackedInts$Packer" "held" "I" (.int gI) → Exa Z h a "termstone/packing/PackedInts$Packer" → OAry Z h ob .byte (cs.map Value.int) → OEnds p e below s n0 (fun v h => ∃ rI hI2 : Int32, v = some (.int rI) ∧ rI.toInt = ((ai + (hd + bn) / 8 : Nat) : Int) ∧ hI2.toInt = (((hd + bn) % 8 : Nat) : Int) ∧ Fld Z h a "termstone/packing/PackedInts$Packer" "base" "J" (.long B) ∧ Fld Z h a "termstone/packing/PackedInts$Packer" "bits" "I" (.int b) ∧ Fld Z h a "termstone/packing/PackedInts$Packer" "pending" "J" (.long P2) ∧ Fld Z h a "termstone/packing/PackedInts$Packer" "held" "I" (.int hI2) ∧ Exa Z h a "termstone/packing/PackedInts$Packer" ∧ OAry Z h ob .byte ((own_em P2 ((hd + bn) / 8) bs ai (hd + bn)).map Value.int)) ({ frames := 0, cells := 0, slots := 0, locals := 0 } : Room).cells ({ frames := 0, cells := 0, slots := 0, locals := 0 } : Room).slots T (mkF m 37 #[.val (.ref a), .val (.long x), .second, .val (.ref ob), .val (.int at_), .val (.int aI)] []) := by
    intro k
    induction k with
    | zero =>
      intro G ai2 gI aI cs T h hk hmod hai h39 hg ha hcl hem H F_base F_bits F_pending F_held E A
      refine Own.aload_n H (pc := 37) d3_37 rfl rfl ?_
      refine Own.getfield H (pc := 38) d3_38 (hw _ (List.mem_of_getElem? (i := 22) rfl)) F_held (fun T_52 H_51 => ?_)
      refine Own.bipush H_51 (pc := 41) (8) d3_41 rfl ?_
      refine Own.icmp_lt H_51 (pc := 43) 78 d3_43 (by decide) (by decide) (fun _ => ?_) (fun hX => absurd (own_lt.mpr (show gI.toInt < 8 by omega)) hX)
      refine Own.iload H_51 (pc := 78) d3_78 rfl ?_
      exact Own.ret_int H_51 (pc := 80) d3_80 rfl (by decide) (by decide) (⟨aI, gI, rfl, by omega, by omega, F_base, F_bits, F_pending, F_held, E, by rw [← hem]; exact A⟩)
    | succ k ih =>
      intro G ai2 gI aI cs T h hk hmod hai h39 hg ha hcl hem H F_base F_bits F_pending F_held E A
      refine Own.aload_n H (pc := 37) d3_37 rfl rfl ?_
      refine Own.getfield H (pc := 38) d3_38 (hw _ (List.mem_of_getElem? (i := 22) rfl)) F_held (fun T_54 H_53 => ?_)
      refine Own.bipush H_53 (pc := 41) (8) d3_41 rfl ?_
      refine Own.icmp_lt H_53 (pc := 43) 78 d3_43 (by decide) (by decide) (fun hX => absurd hX (fun q => absurd (own_lt.mp q) (show ¬ gI.toInt < 8 by omega))) (fun _ => ?_)
      refine Own.aload_n H_53 (pc := 46) d3_46 rfl rfl ?_
      refine Own.dup H_53 (pc := 47) d3_47 rfl ?_
      refine Own.getfield H_53 (pc := 48) d3_48 (hw _ (List.mem_of_getElem? (i := 22) rfl)) F_held (fun T_56 H_55 => ?_)
      refine Own.bipush H_55 (pc := 51) (8) d3_51 rfl ?_
      refine Own.isub H_55 (pc := 53) d3_53 ?_
      have hg8 : (gI - (8 : Int32)).toInt = ((G - 8 : Nat) : Int) := by
        have a1 := c_isub gI 8
        have r := rng32 (gI - 8)
        have e8 : (8 : Int32).toInt = 8 := rfl
        omega
      generalize eg2 : (gI - (8 : Int32)) = g2
      rw [eg2] at hg8
      refine Own.putfield H_55 (pc := 54) d3_54 (hw _ (List.mem_of_getElem? (i := 22) rfl)) F_held E (Or.inl (hw _ (List.mem_of_getElem? (i := 23) rfl))) (hw _ (List.mem_of_getElem? (i := 3) rfl)) (ty := .int) (by decide) rfl rfl ge (fun T_58 h_59 H_57 W_60 => ?_)
      have E_61 := E.wr W_60
      have F_62 := F_base.other W_60 (Or.inr (slot_ne (Or.inr (hw _ (List.mem_of_getElem? (i := 12) rfl))) (Or.inl (hw _ (List.mem_of_getElem? (i := 23) rfl))) (by decide) (t := .long) (t' := .int) (by decide) (by decide)))
      have F_63 := F_bits.other W_60 (Or.inr (slot_ne (Or.inr (hw _ (List.mem_of_getElem? (i := 14) rfl))) (Or.inl (hw _ (List.mem_of_getElem? (i := 23) rfl))) (by decide) (t := .int) (t' := .int) (by decide) (by decide)))
      have F_64 := F_pending.other W_60 (Or.inr (slot_ne (Or.inl (hw _ (List.mem_of_getElem? (i := 21) rfl))) (Or.inl (hw _ (List.mem_of_getElem? (i := 23) rfl))) (by decide) (t := .long) (t' := .int) (by decide) (by decide)))
      have F_65 := F_held.same W_60
      have A1 := A.other W_60 ne.symm
      refine Own.aload_n H_57 (pc := 57) d3_57 rfl rfl ?_
      refine Own.iload H_57 (pc := 58) d3_58 rfl ?_
      refine Own.iinc H_57 (pc := 60) (1) #[.val (.ref a), .val (.long x), .second, .val (.ref ob), .val (.int at_), .val (.int (aI + (1 : Int32)))] d3_60 rfl rfl rfl ?_
      refine Own.aload_n H_57 (pc := 63) d3_63 rfl rfl ?_
      refine Own.getfield H_57 (pc := 64) d3_64 (hw _ (List.mem_of_getElem? (i := 20) rfl)) F_64 (fun T_67 H_66 => ?_)
      refine Own.aload_n H_66 (pc := 67) d3_67 rfl rfl ?_
      refine Own.getfield H_66 (pc := 68) d3_68 (hw _ (List.mem_of_getElem? (i := 22) rfl)) F_65 (fun T_69 H_68 => ?_)
      refine Own.lushr H_68 (pc := 71) d3_71 ?_
      refine Own.l2i H_68 (pc := 72) d3_72 ?_
      refine Own.i2b H_68 (pc := 73) d3_73 ?_
      refine Own.bastore H_68 (pc := 74) ai2 d3_74 A1 go ha (by simp; omega) (fun T_71 h_72 H_70 W_73 A_74 => ?_)
      have hval : nar .byte ((XT.ushrL P2 g2).toInt32.toInt8.toInt32) = own_byt P2 (G - 8) := by
        rw [own_narb]; unfold own_byt; congr 4; apply own_eq; rw [hg8, own_ofNat (by omega)]
      rw [hval, ← List.map_set] at A_74
      have F_75 := F_62.other W_73 (Or.inl ne)
      have F_76 := F_63.other W_73 (Or.inl ne)
      have F_77 := F_64.other W_73 (Or.inl ne)
      have F_78 := F_65.other W_73 (Or.inl ne)
      have E_79 := E_61.wr W_73
      refine Own.goto H_70 (pc := 75) 37 d3_75 (by decide) (by decide) ?_
      exact ih (G - 8) (ai2 + 1) g2 _ _ _ _ (by omega) (by omega) (by omega) (by omega) hg8 (own_addn ha rfl (by omega)) (by simpa using hcl) hem H_70 F_75 F_76 F_77 F_78 E_79 A_74
  exact loop ((hd + bn) / 8) (hd + bn) ai _ _ bs _ _ rfl rfl rfl (by omega) hsum hat hl rfl H_42 F_47 F_48 F_49 F_50 E_46 A2
theorem pn_rm_finish : plainFor (⟨"termstone/packing/PackedInts$Packer", "finish", "([BI)I"⟩ : MethodName) = true := by first | exact plainFor_of_name (by first | (simp [plainName, overriddenIn]; done) | decide +kernel) | decide +kernel
theorem ef_rm_finish (a : Nat) (ob : Nat) (at_ : Int32) (m : MethodId) : entryFrame m #[(.ref a), (.ref ob), (.int at_)] 3 = mkF m 0 #[.val (.ref a), .val (.ref ob), .val (.int at_)] [] := by first | (simp [entryFrame, mkF, argsToLocals, Value.category]; done) | rfl
set_option maxRecDepth 65536 in
set_option maxHeartbeats 40000000 in
theorem rm_finish (l : Launch) (Z : State) (a0 : Array Value) (hw : ∀ d ∈ tables_1, d.before a0 Z = true) (a : Nat) (ob : Nat) (at_ : Int32) (h0 : Heap) (n0 : Nat) (Z0 : n0 ≤ h0.size) (P : Int64) (hI : Int32) (bs : List Int32) (hd ai : Nat) (F_pending : Fld Z h0 a "termstone/packing/PackedInts$Packer" "pending" "J" (.long P)) (F_held : Fld Z h0 a "termstone/packing/PackedInts$Packer" "held" "I" (.int hI)) (E : Exa Z h0 a "termstone/packing/PackedInts$Packer") (A : OAry Z h0 ob .byte (bs.map Value.int)) (ge : n0 ≤ a) (go : n0 ≤ ob) (ne : a ≠ ob) (hh : hI.toInt = (hd : Int)) (hat : at_.toInt = (ai : Int)) (h7 : hd ≤ 7) (hl : bs.length = 12) (hfit : hd ≠ 0 → ai < 12) (h12 : ai ≤ 12) :
    OMet l Z n0 (⟨"termstone/packing/PackedInts$Packer", "finish", "([BI)I"⟩ : MethodName) prog_74_method_3_code 3 (some .int) ({ frames := 0, cells := 0, slots := 0, locals := 0 } : Room) #[(.ref a), (.ref ob), (.int at_)] h0 (fun v h => ∃ rI : Int32, v = some (.int rI) ∧ rI.toInt = ((if hd = 0 then ai else ai + 1 : Nat) : Int) ∧ OAry Z h ob .byte ((if hd = 0 then bs else bs.set ai (((P <<< (((8 : Int32) - hI).toInt64 &&& 63)).toInt32).toInt8.toInt32)).map Value.int)) := by
  refine OMet.of pn_rm_finish Z0 (ef_rm_finish a ob at_) ?_
  intro p e s m below meth c T H
  refine Own.aload_n H (pc := 0) d4_0 rfl rfl ?_
  refine Own.getfield H (pc := 1) d4_1 (hw _ (List.mem_of_getElem? (i := 22) rfl)) F_held (fun T_81 H_80 => ?_)
  refine Own.if_ne H_80 (pc := 4) 9 d4_4 (by decide) (by decide) (fun hz => ?_) (fun hz => ?_)
  · have h0' : hd ≠ 0 := fun q => hz (own_eq (by rw [hh, q]; rfl))
    refine Own.aload_n H_80 (pc := 9) d4_9 rfl rfl ?_
    refine Own.iload_n H_80 (pc := 10) d4_10 rfl ?_
    refine Own.aload_n H_80 (pc := 11) d4_11 rfl rfl ?_
    refine Own.getfield H_80 (pc := 12) d4_12 (hw _ (List.mem_of_getElem? (i := 20) rfl)) F_pending (fun T_83 H_82 => ?_)
    refine Own.bipush H_82 (pc := 15) (8) d4_15 rfl ?_
    refine Own.aload_n H_82 (pc := 17) d4_17 rfl rfl ?_
    refine Own.getfield H_82 (pc := 18) d4_18 (hw _ (List.mem_of_getElem? (i := 22) rfl)) F_held (fun T_85 H_84 => ?_)
    refine Own.isub H_84 (pc := 21) d4_21 ?_
    refine Own.lshl H_84 (pc := 22) d4_22 ?_
    refine Own.l2i H_84 (pc := 23) d4_23 ?_
    refine Own.i2b H_84 (pc := 24) d4_24 ?_
    refine Own.bastore H_84 (pc := 25) ai d4_25 A go hat (by simp; have := hfit h0'; omega) (fun T_87 h_88 H_86 W_89 A_90 => ?_)
    rw [own_narb, ← List.map_set] at A_90
    have F_91 := F_pending.other W_89 (Or.inl ne)
    have F_92 := F_held.other W_89 (Or.inl ne)
    have E_93 := E.wr W_89
    refine Own.aload_n H_86 (pc := 26) d4_26 rfl rfl ?_
    refine Own.iconst H_86 (pc := 27) (0) d4_27 rfl ?_
    refine Own.putfield H_86 (pc := 28) d4_28 (hw _ (List.mem_of_getElem? (i := 22) rfl)) F_92 E_93 (Or.inl (hw _ (List.mem_of_getElem? (i := 23) rfl))) (hw _ (List.mem_of_getElem? (i := 3) rfl)) (ty := .int) (by decide) rfl rfl ge (fun T_95 h_96 H_94 W_97 => ?_)
    have E_98 := E_93.wr W_97
    have F_99 := F_91.other W_97 (Or.inr (slot_ne (Or.inl (hw _ (List.mem_of_getElem? (i := 21) rfl))) (Or.inl (hw _ (List.mem_of_getElem? (i := 23) rfl))) (by decide) (t := .long) (t' := .int) (by decide) (by decide)))
    have F_100 := F_92.same W_97
    have A3 := A_90.other W_97 ne.symm
    refine Own.iload_n H_94 (pc := 31) d4_31 rfl ?_
    refine Own.iconst H_94 (pc := 32) (1) d4_32 rfl ?_
    refine Own.iadd H_94 (pc := 33) d4_33 ?_
    exact Own.ret_int H_94 (pc := 34) d4_34 rfl (by decide) (by decide) (⟨_, rfl, by rw [if_neg h0']; exact own_addn hat rfl (by omega), by rw [if_neg h0']; exact A3⟩)
  · have h0' : hd = 0 := by have e := own_eqi.mp hz; rw [hh] at e; have e2 : (0 : Int32).toInt = 0 := rfl; omega
    refine Own.iload_n H_80 (pc := 7) d4_7 rfl ?_
    exact Own.ret_int H_80 (pc := 8) d4_8 rfl (by decide) (by decide) (⟨at_, rfl, by rw [if_pos h0']; exact hat, by rw [if_pos h0']; exact A⟩)
theorem pn_rm_ok : plainFor (⟨"termstone/packing/PackerAddPinLaw", "byteOk", "([BIIIJ)Z"⟩ : MethodName) = true := by first | exact plainFor_of_name (by first | (simp [plainName, overriddenIn]; done) | decide +kernel) | decide +kernel
theorem ef_rm_ok (ob : Nat) (k : Int32) (at_ : Int32) (nn : Int32) (left : Int64) (m : MethodId) : entryFrame m #[(.ref ob), (.int k), (.int at_), (.int nn), (.long left)] 8 = mkF m 0 #[.val (.ref ob), .val (.int k), .val (.int at_), .val (.int nn), .val (.long left), .second, .unset, .unset] [] := by first | (simp [entryFrame, mkF, argsToLocals, Value.category]; done) | rfl
set_option maxRecDepth 65536 in
set_option maxHeartbeats 40000000 in
theorem rm_ok (l : Launch) (Z : State) (a0 : Array Value) (hw : ∀ d ∈ tables_1, d.before a0 Z = true) (ob : Nat) (k : Int32) (at_ : Int32) (nn : Int32) (left : Int64) (h0 : Heap) (n0 : Nat) (Z0 : n0 ≤ h0.size) (bs : List Int32) (A : OAry Z h0 ob .byte (bs.map Value.int)) (i ai m1 : Nat) (hk : k.toInt = (i : Int)) (hat : at_.toInt = (ai : Int)) (hn : nn.toInt = (m1 : Int)) (hi : i < bs.length) (h12 : bs.length = 12) (h3 : ai ≤ 3) (h8 : m1 ≤ 8) (hv : bs.getD i 0 = if ai ≤ i ∧ i < ai + m1 then own_byt left (56 - 8 * (i - ai)) else 90) :
    OMet l Z n0 (⟨"termstone/packing/PackerAddPinLaw", "byteOk", "([BIIIJ)Z"⟩ : MethodName) method_3_code 8 (some .boolean) ({ frames := 0, cells := 0, slots := 0, locals := 0 } : Room) #[(.ref ob), (.int k), (.int at_), (.int nn), (.long left)] h0 (fun v h => v = some (.int 1) ∧ h = h0) := by
  refine OMet.of pn_rm_ok Z0 (ef_rm_ok ob k at_ nn left) ?_
  intro p e s m below meth c T H
  have hj : (k - at_).toInt = (i : Int) - ai := by
    have a1 := c_isub k at_
    have r := rng32 (k - at_)
    omega
  refine Own.iload_n H (pc := 0) d5_0 rfl ?_
  refine Own.iload_n H (pc := 1) d5_1 rfl ?_
  refine Own.isub H (pc := 2) d5_2 ?_
  generalize ej : (k - at_) = j
  rw [ej] at hj
  refine Own.istore H (pc := 3) #[.val (.ref ob), .val (.int k), .val (.int at_), .val (.int nn), .val (.long left), .second, .val (.int j), .unset] d5_3 rfl ?_
  refine Own.iload H (pc := 5) d5_5 rfl ?_
  refine Own.if_lt H (pc := 7) 16 d5_7 (by decide) (by decide) (fun h1 => ?_) (fun h1 => ?_)
  · replace h1 : (j).toInt < 0 := own_lt.mp h1
    refine Own.bipush H (pc := 16) (90) d5_16 rfl ?_
    refine Own.goto H (pc := 18) 34 d5_18 (by decide) (by decide) ?_
    refine Own.istore H (pc := 34) #[.val (.ref ob), .val (.int k), .val (.int at_), .val (.int nn), .val (.long left), .second, .val (.int j), .val (.int (90 : Int32))] d5_34 rfl ?_
    refine Own.aload_n H (pc := 36) d5_36 rfl rfl ?_
    refine Own.iload_n H (pc := 37) d5_37 rfl ?_
    refine Own.baload H (pc := 38) (v := (bs.getD i 0)) i d5_38 A hk (own_map hi) ?_
    refine Own.iload H (pc := 39) d5_39 rfl ?_
    refine Own.icmp_ne H (pc := 41) 48 d5_41 (by decide) (by decide) (fun hX => absurd (by rw [hv, if_neg (by omega)]) hX) (fun _ => ?_)
    refine Own.iconst H (pc := 44) (1) d5_44 rfl ?_
    refine Own.goto H (pc := 45) 49 d5_45 (by decide) (by decide) ?_
    exact Own.ret_nar H (pc := 49) (1) d5_49 rfl (by simp) (by decide) (by decide) (by decide) (⟨rfl, rfl⟩)
  · replace h1 : ¬ (j).toInt < 0 := fun q => h1 (own_lt.mpr q)
    refine Own.iload H (pc := 10) d5_10 rfl ?_
    refine Own.iload_n H (pc := 12) d5_12 rfl ?_
    refine Own.icmp_lt H (pc := 13) 21 d5_13 (by decide) (by decide) (fun h2 => ?_) (fun h2 => ?_)
    · replace h2 : (j).toInt < (nn).toInt := own_lt.mp h2
      refine Own.lload H (pc := 21) d5_21 rfl ?_
      refine Own.bipush H (pc := 23) (56) d5_23 rfl ?_
      refine Own.bipush H (pc := 25) (8) d5_25 rfl ?_
      refine Own.iload H (pc := 27) d5_27 rfl ?_
      refine Own.imul H (pc := 29) d5_29 ?_
      refine Own.isub H (pc := 30) d5_30 ?_
      refine Own.lushr H (pc := 31) d5_31 ?_
      refine Own.l2i H (pc := 32) d5_32 ?_
      refine Own.i2b H (pc := 33) d5_33 ?_
      refine Own.istore H (pc := 34) #[.val (.ref ob), .val (.int k), .val (.int at_), .val (.int nn), .val (.long left), .second, .val (.int j), .val (.int (((XT.ushrL left ((56 : Int32) - ((8 : Int32) * j)))).toInt32).toInt8.toInt32)] d5_34 rfl ?_
      refine Own.aload_n H (pc := 36) d5_36 rfl rfl ?_
      refine Own.iload_n H (pc := 37) d5_37 rfl ?_
      refine Own.baload H (pc := 38) (v := (bs.getD i 0)) i d5_38 A hk (own_map hi) ?_
      refine Own.iload H (pc := 39) d5_39 rfl ?_
      refine Own.icmp_ne H (pc := 41) 48 d5_41 (by decide) (by decide) (fun hX => absurd (by rw [hv, if_pos (by omega)]; unfold own_byt; congr 4; apply own_eq; have e8 : (8 : Int32).toInt = 8 := rfl; have e56 : (56 : Int32).toInt = 56 := rfl; rw [own_ofNat (by omega)]; have a1 := c_imul 8 j; have a2 := c_isub 56 (8 * j); have r1 := rng32 (8 * j); have r2 := rng32 (56 - 8 * j); rw [e8] at a1; omega) hX) (fun _ => ?_)
      refine Own.iconst H (pc := 44) (1) d5_44 rfl ?_
      refine Own.goto H (pc := 45) 49 d5_45 (by decide) (by decide) ?_
      exact Own.ret_nar H (pc := 49) (1) d5_49 rfl (by simp) (by decide) (by decide) (by decide) (⟨rfl, rfl⟩)
    · replace h2 : ¬ (j).toInt < (nn).toInt := fun q => h2 (own_lt.mpr q)
      refine Own.bipush H (pc := 16) (90) d5_16 rfl ?_
      refine Own.goto H (pc := 18) 34 d5_18 (by decide) (by decide) ?_
      refine Own.istore H (pc := 34) #[.val (.ref ob), .val (.int k), .val (.int at_), .val (.int nn), .val (.long left), .second, .val (.int j), .val (.int (90 : Int32))] d5_34 rfl ?_
      refine Own.aload_n H (pc := 36) d5_36 rfl rfl ?_
      refine Own.iload_n H (pc := 37) d5_37 rfl ?_
      refine Own.baload H (pc := 38) (v := (bs.getD i 0)) i d5_38 A hk (own_map hi) ?_
      refine Own.iload H (pc := 39) d5_39 rfl ?_
      refine Own.icmp_ne H (pc := 41) 48 d5_41 (by decide) (by decide) (fun hX => absurd (by rw [hv, if_neg (by omega)]) hX) (fun _ => ?_)
      refine Own.iconst H (pc := 44) (1) d5_44 rfl ?_
      refine Own.goto H (pc := 45) 49 d5_45 (by decide) (by decide) ?_
      exact Own.ret_nar H (pc := 49) (1) d5_49 rfl (by simp) (by decide) (by decide) (by decide) (⟨rfl, rfl⟩)
theorem own_bits (X Y : Int64) (h : ∀ i, i < 8 → X.toBitVec.getLsbD i = Y.toBitVec.getLsbD i) : X.toInt32.toInt8.toInt32 = Y.toInt32.toInt8.toInt32 := by
  have e : X.toInt32.toInt8 = Y.toInt32.toInt8 := by
    apply Int8.toBitVec_inj.mp
    apply BitVec.eq_of_getLsbD_eq
    intro i hi
    show ((X.toBitVec.signExtend 32).signExtend 8).getLsbD i = ((Y.toBitVec.signExtend 32).signExtend 8).getLsbD i
    have h1 := h i hi
    have h32 : i < 32 := by omega
    have h64 : i < 64 := by omega
    simp only [BitVec.getLsbD_signExtend, hi, h32, h64, h1, if_true, decide_true, Bool.true_and]
  rw [e]
theorem own_ush (P : Int64) (n : Nat) (hn : n < 64) : (XT.ushrL P (Int32.ofNat n)).toBitVec = P.toBitVec >>> n := by
  have e : ∀ k : Fin 64, ((((Int32.ofNat k.val).toInt64.toUInt64 &&& Int64.toUInt64 63) % 64).toBitVec.toNat = k.val) := by decide +kernel
  have e1 := e ⟨n, hn⟩
  show P.toBitVec >>> ((((Int32.ofNat n).toInt64.toUInt64 &&& Int64.toUInt64 63) % 64).toBitVec) = _
  rw [BitVec.ushiftRight_eq', e1]
theorem own_sh (x : Int64) (k : Nat) (y : Int64) (hy : y.toBitVec = BitVec.ofNat 64 k) (hk : k < 64) : (x <<< y).toBitVec = x.toBitVec <<< k := by
  have e : (x <<< y).toBitVec = x.toBitVec <<< (y.toBitVec.smod 64) := rfl
  rw [e, hy, BitVec.shiftLeft_eq']
  congr 1
  exact smod64 k hk
theorem own_shn (x : Int64) (k : Nat) (b : Int32) (hb : b.toInt = (k : Int)) (hk : k < 64) : (x <<< (b.toInt64 &&& 63)).toBitVec = x.toBitVec <<< k := by
  have e : ∀ k : Fin 64, ((Int32.ofNat k.val).toInt64 &&& 63).toBitVec = BitVec.ofNat 64 k.val := by decide +kernel
  have e1 := e ⟨k, hk⟩
  have eb : b = Int32.ofNat k := Int32.toInt_inj.mp (by rw [hb, Int32.toInt_ofNat_of_lt (by omega)])
  rw [eb]
  exact own_sh x k _ e1 hk
theorem own_mask (x : Int64) (k : Nat) (b : Int32) (hb : b.toInt = (k : Int)) (hk : k ≤ 32) (t : Nat) (ht : k ≤ t) : (x &&& (((1 : Int64) <<< (b.toInt64 &&& 63)) - 1)).toBitVec.getLsbD t = false := by
  have e : ∀ (k : Fin 33) (t : Fin 64), k.val ≤ t.val → (((1 : Int64) <<< ((Int32.ofNat k.val).toInt64 &&& 63)) - 1).toBitVec.getLsbD t.val = false := by decide +kernel
  have eb : b = Int32.ofNat k := Int32.toInt_inj.mp (by rw [hb, Int32.toInt_ofNat_of_lt (by omega)])
  rw [eb, Int64.toBitVec_and, BitVec.getLsbD_and]
  by_cases h : t < 64
  · have e1 := e ⟨k, by omega⟩ ⟨t, h⟩ ht
    simp only at e1
    rw [e1, Bool.and_false]
  · rw [BitVec.getLsbD_of_ge _ _ (by omega), Bool.false_and]
-- the three pieces: w = (v1 << b) | v2, left = w << (64 - 2b)
theorem own_A (v1 v2 w left : Int64) (b j : Nat) (hw : w.toBitVec = v1.toBitVec <<< b ||| v2.toBitVec) (hl : left.toBitVec = w.toBitVec <<< (64 - 2 * b)) (h2 : ∀ t, b ≤ t → v2.toBitVec.getLsbD t = false) (hb : b ≤ 32) (hj : 8 * (j + 1) ≤ b) : own_byt v1 (b - 8 * (j + 1)) = own_byt left (56 - 8 * j) := by
  apply own_bits
  intro i hi
  rw [own_ush _ _ (by omega), own_ush _ _ (by omega), BitVec.getLsbD_ushiftRight, BitVec.getLsbD_ushiftRight, hl, BitVec.getLsbD_shiftLeft, hw, BitVec.getLsbD_or, BitVec.getLsbD_shiftLeft, h2 _ (by omega)]
  have e1 : 56 - 8 * j + i - (64 - 2 * b) - b = b - 8 * (j + 1) + i := by omega
  have e2 : 56 - 8 * j + i < 64 := by omega
  have e3 : ¬ (56 - 8 * j + i < 64 - 2 * b) := by omega
  have e4 : 56 - 8 * j + i - (64 - 2 * b) < 64 := by omega
  have e5 : ¬ (56 - 8 * j + i - (64 - 2 * b) < b) := by omega
  simp [e1, e2, e3, e4, e5]
theorem own_B (w left : Int64) (b j : Nat) (hl : left.toBitVec = w.toBitVec <<< (64 - 2 * b)) (hb : b ≤ 32) (hj : 8 * (j + 1) ≤ 2 * b) : own_byt w (2 * b - 8 * (j + 1)) = own_byt left (56 - 8 * j) := by
  apply own_bits
  intro i hi
  rw [own_ush _ _ (by omega), own_ush _ _ (by omega), BitVec.getLsbD_ushiftRight, BitVec.getLsbD_ushiftRight, hl, BitVec.getLsbD_shiftLeft]
  have e1 : 56 - 8 * j + i - (64 - 2 * b) = 2 * b - 8 * (j + 1) + i := by omega
  have e2 : 56 - 8 * j + i < 64 := by omega
  have e3 : ¬ (56 - 8 * j + i < 64 - 2 * b) := by omega
  simp [e1, e2, e3]
theorem own_C (w left : Int64) (b j h : Nat) (hI : Int32) (hh : hI.toInt = (h : Int)) (hl : left.toBitVec = w.toBitVec <<< (64 - 2 * b)) (hb : b ≤ 32) (hj : 2 * b = 8 * j + h) (h0 : 1 ≤ h) (h7 : h ≤ 7) : ((w <<< (((8 : Int32) - hI).toInt64 &&& 63)).toInt32).toInt8.toInt32 = own_byt left (56 - 8 * j) := by
  have e8 : ((8 : Int32) - hI).toInt = ((8 - h : Nat) : Int) := by
    have a1 := c_isub 8 hI
    have r := rng32 (8 - hI)
    have e : (8 : Int32).toInt = 8 := rfl
    omega
  apply own_bits
  intro i hi
  rw [own_shn _ _ _ e8 (by omega), own_ush _ _ (by omega), BitVec.getLsbD_ushiftRight, hl, BitVec.getLsbD_shiftLeft, BitVec.getLsbD_shiftLeft]
  have e2 : 56 - 8 * j + i < 64 := by omega
  have e0 : i < 64 := by omega
  by_cases q : i < 8 - h
  · have e3 : 56 - 8 * j + i < 64 - 2 * b := by omega
    simp [q, e2, e3]
  · have e3 : ¬ (56 - 8 * j + i < 64 - 2 * b) := by omega
    have e1 : 56 - 8 * j + i - (64 - 2 * b) = i - (8 - h) := by omega
    simp [q, e0, e1, e2, e3]

theorem own_list (b ai h : Nat) (v1 v2 w left : Int64) (hI : Int32) (hb : b ≤ 32) (hai : ai ≤ 3) (hw : w.toBitVec = v1.toBitVec <<< b ||| v2.toBitVec) (hl : left.toBitVec = w.toBitVec <<< (64 - 2 * b)) (h2 : ∀ t, b ≤ t → v2.toBitVec.getLsbD t = false) (hh : hI.toInt = (h : Int)) (he : h = (b % 8 + b) % 8) (i : Nat) (hi : i < 12) :
    (if h = 0 then own_em w ((b % 8 + b) / 8) (own_em v1 (b / 8) (List.replicate 12 90) ai b) (ai + b / 8) (b % 8 + b) else (own_em w ((b % 8 + b) / 8) (own_em v1 (b / 8) (List.replicate 12 90) ai b) (ai + b / 8) (b % 8 + b)).set (ai + b / 8 + (b % 8 + b) / 8) (((w <<< (((8 : Int32) - hI).toInt64 &&& 63)).toInt32).toInt8.toInt32)).getD i 0
      = if ai ≤ i ∧ i < ai + (2 * b + 7) / 8 then own_byt left (56 - 8 * (i - ai)) else 90 := by
  have len1 : (own_em v1 (b / 8) (List.replicate 12 (90 : Int32)) ai b).length = 12 := by rw [own_em_len]; simp
  have len2 : (own_em w ((b % 8 + b) / 8) (own_em v1 (b / 8) (List.replicate 12 90) ai b) (ai + b / 8) (b % 8 + b)).length = 12 := by rw [own_em_len]; exact len1
  have r90 : (List.replicate 12 (90 : Int32)).getD i 0 = 90 := by rw [List.getD_eq_getElem?_getD, List.getElem?_replicate]; simp [hi]
  have base : (own_em w ((b % 8 + b) / 8) (own_em v1 (b / 8) (List.replicate 12 90) ai b) (ai + b / 8) (b % 8 + b)).getD i 0 = if ai ≤ i ∧ i < ai + 2 * b / 8 then own_byt left (56 - 8 * (i - ai)) else 90 := by
    rw [own_em_get w _ _ _ _ i (by rw [len1]; omega) (by omega), own_em_get v1 _ _ _ _ i (by simp; omega) (by omega), r90]
    by_cases q1 : ai + b / 8 ≤ i ∧ i < ai + b / 8 + (b % 8 + b) / 8
    · rw [if_pos q1, if_pos (by omega)]
      have e : b % 8 + b - 8 * (i - (ai + b / 8) + 1) = 2 * b - 8 * ((i - ai) + 1) := by omega
      rw [e]
      exact own_B w left b (i - ai) hl hb (by omega)
    · rw [if_neg q1]
      by_cases q2 : ai ≤ i ∧ i < ai + b / 8
      · rw [if_pos q2, if_pos (by omega)]
        exact own_A v1 v2 w left b (i - ai) hw hl h2 hb (by omega)
      · rw [if_neg q2, if_neg (by omega)]
  by_cases q : h = 0
  · rw [if_pos q, base]
    have e : (2 * b + 7) / 8 = 2 * b / 8 := by omega
    rw [e]
  · rw [if_neg q]
    by_cases q3 : i = ai + b / 8 + (b % 8 + b) / 8
    · rw [if_pos (by omega), List.getD_eq_getElem?_getD, ← q3, List.getElem?_set_self (by rw [len2]; exact hi)]
      exact own_C w left b (i - ai) h hI hh hl hb (by omega) (by omega) (by omega)
    · rw [List.getD_eq_getElem?_getD, List.getElem?_set_ne (by omega), ← List.getD_eq_getElem?_getD, base]
      by_cases q4 : ai ≤ i ∧ i < ai + 2 * b / 8
      · rw [if_pos q4, if_pos (by omega)]
      · rw [if_neg q4, if_neg (by omega)]

theorem pn_rm_law : plainFor x = true := by first | exact plainFor_of_name (by first | (simp [plainName, overriddenIn]; done) | decide +kernel) | decide +kernel
theorem ef_rm_law (p0 : Int32) (p1 : Int64) (p2 : Int64) (p3 : Int64) (p4 : Int32) (m : MethodId) : entryFrame m #[(.int p0), (.long p1), (.long p2), (.long p3), (.int p4)] maxLocals = mkF m 0 #[.val (.int p0), .val (.long p1), .second, .val (.long p2), .second, .val (.long p3), .second, .val (.int p4), .unset, .unset, .unset, .unset, .unset, .unset, .unset, .unset, .unset, .unset, .unset, .unset, .unset, .unset, .unset, .unset, .unset, .unset, .unset, .unset] [] := by first | (simp [entryFrame, mkF, argsToLocals, Value.category, maxLocals]; done) | rfl
set_option maxRecDepth 65536 in
set_option maxHeartbeats 40000000 in
theorem rm_law (l : Launch) (Z : State) (a0 : Array Value) (hw : ∀ d ∈ tables_1, d.before a0 Z = true) (p0 : Int32) (p1 : Int64) (p2 : Int64) (p3 : Int64) (p4 : Int32) (h0 : Heap) (n0 : Nat) (Z0 : n0 ≤ h0.size)  :
    OMet l Z n0 x code maxLocals ret room_1 #[(.int p0), (.long p1), (.long p2), (.long p3), (.int p4)] h0 (fun v h => v = some (.int 1)) := by
  refine OMet.of pn_rm_law Z0 (ef_rm_law p0 p1 p2 p3 p4) ?_
  intro p e s m below meth c T H
  refine Own.iload_n H (pc := 0) at_0 rfl ?_
  refine Own.ldc H (pc := 1) at_1 (hw _ (List.mem_of_getElem? (i := 0) rfl)) ?_
  refine Own.iand H (pc := 3) at_3 ?_
  refine Own.bipush H (pc := 4) (33) at_4 rfl ?_
  refine Own.irem H (pc := 6) at_6 (by decide) ?_
  generalize eb : ((p0 &&& (2147483647 : Int32)) % (33 : Int32)) = b
  have hb : 0 ≤ b.toInt ∧ b.toInt < 33 := by rw [← eb]; exact own_rem p0 33 (by decide)
  clear eb
  obtain ⟨bn, hbn⟩ : ∃ bn : Nat, b.toInt = (bn : Int) := ⟨b.toInt.toNat, by omega⟩
  have h32 : bn ≤ 32 := by omega
  refine Own.istore H (pc := 7) #[.val (.int p0), .val (.long p1), .second, .val (.long p2), .second, .val (.long p3), .second, .val (.int p4), .val (.int b), .unset, .unset, .unset, .unset, .unset, .unset, .unset, .unset, .unset, .unset, .unset, .unset, .unset, .unset, .unset, .unset, .unset, .unset, .unset] at_7 rfl ?_
  refine Own.lconst H (pc := 9) (1) at_9 rfl ?_
  refine Own.iload H (pc := 10) at_10 rfl ?_
  refine Own.lshl H (pc := 12) at_12 ?_
  refine Own.lconst H (pc := 13) (1) at_13 rfl ?_
  refine Own.lsub H (pc := 14) at_14 ?_
  refine Own.lstore H (pc := 15) #[.val (.int p0), .val (.long p1), .second, .val (.long p2), .second, .val (.long p3), .second, .val (.int p4), .val (.int b), .val (.long (((1 : Int64) <<< ((b).toInt64 &&& 63)) - (1 : Int64))), .second, .unset, .unset, .unset, .unset, .unset, .unset, .unset, .unset, .unset, .unset, .unset, .unset, .unset, .unset, .unset, .unset, .unset] at_15 rfl ?_
  refine Own.lload_n H (pc := 17) at_17 rfl ?_
  refine Own.lload H (pc := 18) at_18 rfl ?_
  refine Own.land H (pc := 20) at_20 ?_
  generalize ev1 : (p2 &&& (((1 : Int64) <<< ((b).toInt64 &&& 63)) - (1 : Int64))) = v1
  refine Own.lstore H (pc := 21) #[.val (.int p0), .val (.long p1), .second, .val (.long p2), .second, .val (.long p3), .second, .val (.int p4), .val (.int b), .val (.long (((1 : Int64) <<< ((b).toInt64 &&& 63)) - (1 : Int64))), .second, .val (.long v1), .second, .unset, .unset, .unset, .unset, .unset, .unset, .unset, .unset, .unset, .unset, .unset, .unset, .unset, .unset, .unset] at_21 rfl ?_
  refine Own.lload H (pc := 23) at_23 rfl ?_
  refine Own.lload H (pc := 25) at_25 rfl ?_
  refine Own.land H (pc := 27) at_27 ?_
  generalize ev2 : (p3 &&& (((1 : Int64) <<< ((b).toInt64 &&& 63)) - (1 : Int64))) = v2
  have hv2 : ∀ t, bn ≤ t → v2.toBitVec.getLsbD t = false := by intro t ht; rw [← ev2]; exact own_mask p3 bn b hbn h32 t ht
  clear ev1 ev2
  refine Own.lstore H (pc := 28) #[.val (.int p0), .val (.long p1), .second, .val (.long p2), .second, .val (.long p3), .second, .val (.int p4), .val (.int b), .val (.long (((1 : Int64) <<< ((b).toInt64 &&& 63)) - (1 : Int64))), .second, .val (.long v1), .second, .val (.long v2), .second, .unset, .unset, .unset, .unset, .unset, .unset, .unset, .unset, .unset, .unset, .unset, .unset, .unset] at_28 rfl ?_
  refine Own.iload H (pc := 30) at_30 rfl ?_
  refine Own.iconst H (pc := 32) (3) at_32 rfl ?_
  refine Own.iand H (pc := 33) at_33 ?_
  generalize eat : (p4 &&& (3 : Int32)) = at_
  have ha4 : 0 ≤ at_.toInt ∧ at_.toInt ≤ 3 := by rw [← eat]; exact c_and p4 3 (by decide)
  clear eat
  obtain ⟨ai, hai⟩ : ∃ ai : Nat, at_.toInt = (ai : Int) := ⟨at_.toInt.toNat, by omega⟩
  refine Own.istore H (pc := 34) #[.val (.int p0), .val (.long p1), .second, .val (.long p2), .second, .val (.long p3), .second, .val (.int p4), .val (.int b), .val (.long (((1 : Int64) <<< ((b).toInt64 &&& 63)) - (1 : Int64))), .second, .val (.long v1), .second, .val (.long v2), .second, .val (.int at_), .unset, .unset, .unset, .unset, .unset, .unset, .unset, .unset, .unset, .unset, .unset, .unset] at_34 rfl ?_
  refine Own.bipush H (pc := 36) (12) at_36 rfl ?_
  refine Own.newarray H (pc := 38) (i := 12) 12 at_38 (hw _ (List.mem_of_getElem? (i := 1) rfl)) rfl (by decide) (by decide) (by decide) (by decide) (by decide) (fun T_102 h_103 ob eq_ob ge_ob H_101 Ext_ob Ary_ob => ?_)
  have A_104 : OAry Z h_103 ob .byte [(.int (0 : Int32)), (.int (0 : Int32)), (.int (0 : Int32)), (.int (0 : Int32)), (.int (0 : Int32)), (.int (0 : Int32)), (.int (0 : Int32)), (.int (0 : Int32)), (.int (0 : Int32)), (.int (0 : Int32)), (.int (0 : Int32)), (.int (0 : Int32))] := Ary_ob
  refine Own.dup H_101 (pc := 40) at_40 rfl ?_
  refine Own.iconst H_101 (pc := 41) (0) at_41 rfl ?_
  refine Own.bipush H_101 (pc := 42) (90) at_42 rfl ?_
  refine Own.bastore H_101 (pc := 44) 0 at_44 A_104 ge_ob rfl (by simp) (fun T_106 h_107 H_105 W_108 A_109 => ?_)
  have A_110 : OAry Z h_107 ob .byte [(.int (nar .byte (90 : Int32))), (.int (0 : Int32)), (.int (0 : Int32)), (.int (0 : Int32)), (.int (0 : Int32)), (.int (0 : Int32)), (.int (0 : Int32)), (.int (0 : Int32)), (.int (0 : Int32)), (.int (0 : Int32)), (.int (0 : Int32)), (.int (0 : Int32))] := A_109
  refine Own.dup H_105 (pc := 45) at_45 rfl ?_
  refine Own.iconst H_105 (pc := 46) (1) at_46 rfl ?_
  refine Own.bipush H_105 (pc := 47) (90) at_47 rfl ?_
  refine Own.bastore H_105 (pc := 49) 1 at_49 A_110 ge_ob rfl (by simp) (fun T_112 h_113 H_111 W_114 A_115 => ?_)
  have A_116 : OAry Z h_113 ob .byte [(.int (nar .byte (90 : Int32))), (.int (nar .byte (90 : Int32))), (.int (0 : Int32)), (.int (0 : Int32)), (.int (0 : Int32)), (.int (0 : Int32)), (.int (0 : Int32)), (.int (0 : Int32)), (.int (0 : Int32)), (.int (0 : Int32)), (.int (0 : Int32)), (.int (0 : Int32))] := A_115
  refine Own.dup H_111 (pc := 50) at_50 rfl ?_
  refine Own.iconst H_111 (pc := 51) (2) at_51 rfl ?_
  refine Own.bipush H_111 (pc := 52) (90) at_52 rfl ?_
  refine Own.bastore H_111 (pc := 54) 2 at_54 A_116 ge_ob rfl (by simp) (fun T_118 h_119 H_117 W_120 A_121 => ?_)
  have A_122 : OAry Z h_119 ob .byte [(.int (nar .byte (90 : Int32))), (.int (nar .byte (90 : Int32))), (.int (nar .byte (90 : Int32))), (.int (0 : Int32)), (.int (0 : Int32)), (.int (0 : Int32)), (.int (0 : Int32)), (.int (0 : Int32)), (.int (0 : Int32)), (.int (0 : Int32)), (.int (0 : Int32)), (.int (0 : Int32))] := A_121
  refine Own.dup H_117 (pc := 55) at_55 rfl ?_
  refine Own.iconst H_117 (pc := 56) (3) at_56 rfl ?_
  refine Own.bipush H_117 (pc := 57) (90) at_57 rfl ?_
  refine Own.bastore H_117 (pc := 59) 3 at_59 A_122 ge_ob rfl (by simp) (fun T_124 h_125 H_123 W_126 A_127 => ?_)
  have A_128 : OAry Z h_125 ob .byte [(.int (nar .byte (90 : Int32))), (.int (nar .byte (90 : Int32))), (.int (nar .byte (90 : Int32))), (.int (nar .byte (90 : Int32))), (.int (0 : Int32)), (.int (0 : Int32)), (.int (0 : Int32)), (.int (0 : Int32)), (.int (0 : Int32)), (.int (0 : Int32)), (.int (0 : Int32)), (.int (0 : Int32))] := A_127
  refine Own.dup H_123 (pc := 60) at_60 rfl ?_
  refine Own.iconst H_123 (pc := 61) (4) at_61 rfl ?_
  refine Own.bipush H_123 (pc := 62) (90) at_62 rfl ?_
  refine Own.bastore H_123 (pc := 64) 4 at_64 A_128 ge_ob rfl (by simp) (fun T_130 h_131 H_129 W_132 A_133 => ?_)
  have A_134 : OAry Z h_131 ob .byte [(.int (nar .byte (90 : Int32))), (.int (nar .byte (90 : Int32))), (.int (nar .byte (90 : Int32))), (.int (nar .byte (90 : Int32))), (.int (nar .byte (90 : Int32))), (.int (0 : Int32)), (.int (0 : Int32)), (.int (0 : Int32)), (.int (0 : Int32)), (.int (0 : Int32)), (.int (0 : Int32)), (.int (0 : Int32))] := A_133
  refine Own.dup H_129 (pc := 65) at_65 rfl ?_
  refine Own.iconst H_129 (pc := 66) (5) at_66 rfl ?_
  refine Own.bipush H_129 (pc := 67) (90) at_67 rfl ?_
  refine Own.bastore H_129 (pc := 69) 5 at_69 A_134 ge_ob rfl (by simp) (fun T_136 h_137 H_135 W_138 A_139 => ?_)
  have A_140 : OAry Z h_137 ob .byte [(.int (nar .byte (90 : Int32))), (.int (nar .byte (90 : Int32))), (.int (nar .byte (90 : Int32))), (.int (nar .byte (90 : Int32))), (.int (nar .byte (90 : Int32))), (.int (nar .byte (90 : Int32))), (.int (0 : Int32)), (.int (0 : Int32)), (.int (0 : Int32)), (.int (0 : Int32)), (.int (0 : Int32)), (.int (0 : Int32))] := A_139
  refine Own.dup H_135 (pc := 70) at_70 rfl ?_
  refine Own.bipush H_135 (pc := 71) (6) at_71 rfl ?_
  refine Own.bipush H_135 (pc := 73) (90) at_73 rfl ?_
  refine Own.bastore H_135 (pc := 75) 6 at_75 A_140 ge_ob rfl (by simp) (fun T_142 h_143 H_141 W_144 A_145 => ?_)
  have A_146 : OAry Z h_143 ob .byte [(.int (nar .byte (90 : Int32))), (.int (nar .byte (90 : Int32))), (.int (nar .byte (90 : Int32))), (.int (nar .byte (90 : Int32))), (.int (nar .byte (90 : Int32))), (.int (nar .byte (90 : Int32))), (.int (nar .byte (90 : Int32))), (.int (0 : Int32)), (.int (0 : Int32)), (.int (0 : Int32)), (.int (0 : Int32)), (.int (0 : Int32))] := A_145
  refine Own.dup H_141 (pc := 76) at_76 rfl ?_
  refine Own.bipush H_141 (pc := 77) (7) at_77 rfl ?_
  refine Own.bipush H_141 (pc := 79) (90) at_79 rfl ?_
  refine Own.bastore H_141 (pc := 81) 7 at_81 A_146 ge_ob rfl (by simp) (fun T_148 h_149 H_147 W_150 A_151 => ?_)
  have A_152 : OAry Z h_149 ob .byte [(.int (nar .byte (90 : Int32))), (.int (nar .byte (90 : Int32))), (.int (nar .byte (90 : Int32))), (.int (nar .byte (90 : Int32))), (.int (nar .byte (90 : Int32))), (.int (nar .byte (90 : Int32))), (.int (nar .byte (90 : Int32))), (.int (nar .byte (90 : Int32))), (.int (0 : Int32)), (.int (0 : Int32)), (.int (0 : Int32)), (.int (0 : Int32))] := A_151
  refine Own.dup H_147 (pc := 82) at_82 rfl ?_
  refine Own.bipush H_147 (pc := 83) (8) at_83 rfl ?_
  refine Own.bipush H_147 (pc := 85) (90) at_85 rfl ?_
  refine Own.bastore H_147 (pc := 87) 8 at_87 A_152 ge_ob rfl (by simp) (fun T_154 h_155 H_153 W_156 A_157 => ?_)
  have A_158 : OAry Z h_155 ob .byte [(.int (nar .byte (90 : Int32))), (.int (nar .byte (90 : Int32))), (.int (nar .byte (90 : Int32))), (.int (nar .byte (90 : Int32))), (.int (nar .byte (90 : Int32))), (.int (nar .byte (90 : Int32))), (.int (nar .byte (90 : Int32))), (.int (nar .byte (90 : Int32))), (.int (nar .byte (90 : Int32))), (.int (0 : Int32)), (.int (0 : Int32)), (.int (0 : Int32))] := A_157
  refine Own.dup H_153 (pc := 88) at_88 rfl ?_
  refine Own.bipush H_153 (pc := 89) (9) at_89 rfl ?_
  refine Own.bipush H_153 (pc := 91) (90) at_91 rfl ?_
  refine Own.bastore H_153 (pc := 93) 9 at_93 A_158 ge_ob rfl (by simp) (fun T_160 h_161 H_159 W_162 A_163 => ?_)
  have A_164 : OAry Z h_161 ob .byte [(.int (nar .byte (90 : Int32))), (.int (nar .byte (90 : Int32))), (.int (nar .byte (90 : Int32))), (.int (nar .byte (90 : Int32))), (.int (nar .byte (90 : Int32))), (.int (nar .byte (90 : Int32))), (.int (nar .byte (90 : Int32))), (.int (nar .byte (90 : Int32))), (.int (nar .byte (90 : Int32))), (.int (nar .byte (90 : Int32))), (.int (0 : Int32)), (.int (0 : Int32))] := A_163
  refine Own.dup H_159 (pc := 94) at_94 rfl ?_
  refine Own.bipush H_159 (pc := 95) (10) at_95 rfl ?_
  refine Own.bipush H_159 (pc := 97) (90) at_97 rfl ?_
  refine Own.bastore H_159 (pc := 99) 10 at_99 A_164 ge_ob rfl (by simp) (fun T_166 h_167 H_165 W_168 A_169 => ?_)
  have A_170 : OAry Z h_167 ob .byte [(.int (nar .byte (90 : Int32))), (.int (nar .byte (90 : Int32))), (.int (nar .byte (90 : Int32))), (.int (nar .byte (90 : Int32))), (.int (nar .byte (90 : Int32))), (.int (nar .byte (90 : Int32))), (.int (nar .byte (90 : Int32))), (.int (nar .byte (90 : Int32))), (.int (nar .byte (90 : Int32))), (.int (nar .byte (90 : Int32))), (.int (nar .byte (90 : Int32))), (.int (0 : Int32))] := A_169
  refine Own.dup H_165 (pc := 100) at_100 rfl ?_
  refine Own.bipush H_165 (pc := 101) (11) at_101 rfl ?_
  refine Own.bipush H_165 (pc := 103) (90) at_103 rfl ?_
  refine Own.bastore H_165 (pc := 105) 11 at_105 A_170 ge_ob rfl (by simp) (fun T_172 h_173 H_171 W_174 A_175 => ?_)
  have A_176 : OAry Z h_173 ob .byte [(.int (nar .byte (90 : Int32))), (.int (nar .byte (90 : Int32))), (.int (nar .byte (90 : Int32))), (.int (nar .byte (90 : Int32))), (.int (nar .byte (90 : Int32))), (.int (nar .byte (90 : Int32))), (.int (nar .byte (90 : Int32))), (.int (nar .byte (90 : Int32))), (.int (nar .byte (90 : Int32))), (.int (nar .byte (90 : Int32))), (.int (nar .byte (90 : Int32))), (.int (nar .byte (90 : Int32)))] := A_175
  refine Own.astore H_171 (pc := 106) #[.val (.int p0), .val (.long p1), .second, .val (.long p2), .second, .val (.long p3), .second, .val (.int p4), .val (.int b), .val (.long (((1 : Int64) <<< ((b).toInt64 &&& 63)) - (1 : Int64))), .second, .val (.long v1), .second, .val (.long v2), .second, .val (.int at_), .val (.ref ob), .unset, .unset, .unset, .unset, .unset, .unset, .unset, .unset, .unset, .unset, .unset] at_106 rfl rfl ?_
  have B : OAry Z h_173 ob .byte ((List.replicate 12 (90 : Int32)).map Value.int) := A_176
  refine Own.new_ H_171 (pc := 108) at_108 (hw _ (List.mem_of_getElem? (i := 2) rfl)) (hw _ (List.mem_of_getElem? (i := 3) rfl)) (hw _ (List.mem_of_getElem? (i := 4) rfl)) (by decide) (by decide) (fun T_178 h_179 a eq_a ge_a H_177 Ext_a Exa_a D_a => ?_)
  have hlt : ob < a := by have := B.lt; omega
  have ne : a ≠ ob := by omega
  have B0 := B.ext Ext_a
  refine Own.dup H_177 (pc := 111) at_111 rfl ?_
  refine Own.lload_n H_177 (pc := 112) at_112 rfl ?_
  refine Own.iload H_177 (pc := 113) at_113 rfl ?_
  refine Own.callI H_177 (pc := 115) (y := (⟨"termstone/packing/PackedInts$Packer", "<init>", "(JI)V"⟩ : MethodName)) a [(.long p1), (.int b)] [(.ref a)] at_115 rfl (hw _ (List.mem_of_getElem? (i := 5) rfl)) (hw _ (List.mem_of_getElem? (i := 6) rfl)) (hw _ (List.mem_of_getElem? (i := 4) rfl)) (hw _ (List.mem_of_getElem? (i := 7) rfl)) (by decide) (rm_init l Z a0 hw a p1 b _ n0 H_177.z0 _ (D_a (Or.inr (hw _ (List.mem_of_getElem? (i := 12) rfl))) (ty := .long) (by decide)) _ (D_a (Or.inr (hw _ (List.mem_of_getElem? (i := 14) rfl))) (ty := .int) (by decide)) (D_a (Or.inl (hw _ (List.mem_of_getElem? (i := 21) rfl))) (ty := .long) (by decide)) (D_a (Or.inl (hw _ (List.mem_of_getElem? (i := 23) rfl))) (ty := .int) (by decide)) Exa_a ge_a) (r := none) (ps := [.long, .int]) (by decide) rfl rfl 1 rfl (by decide) (by decide) (by decide) (by decide) rfl (fun T_181 v_183 h_182 H_180 z_184 q_185 => ?_)
  obtain ⟨rfl, K1, F1, F2, F3, F4, E1⟩ := q_185
  show OEnds _ _ _ _ _ _ _ _ _ (mkF _ 118 #[.val (.int p0), .val (.long p1), .second, .val (.long p2), .second, .val (.long p3), .second, .val (.int p4), .val (.int b), .val (.long (((1 : Int64) <<< ((b).toInt64 &&& 63)) - (1 : Int64))), .second, .val (.long v1), .second, .val (.long v2), .second, .val (.int at_), .val (.ref ob), .unset, .unset, .unset, .unset, .unset, .unset, .unset, .unset, .unset, .unset, .unset] [(.ref a)])
  have B1 := B0.keep K1 (ninS ne.symm nin0)
  refine Own.astore H_180 (pc := 118) #[.val (.int p0), .val (.long p1), .second, .val (.long p2), .second, .val (.long p3), .second, .val (.int p4), .val (.int b), .val (.long (((1 : Int64) <<< ((b).toInt64 &&& 63)) - (1 : Int64))), .second, .val (.long v1), .second, .val (.long v2), .second, .val (.int at_), .val (.ref ob), .val (.ref a), .unset, .unset, .unset, .unset, .unset, .unset, .unset, .unset, .unset, .unset] at_118 rfl rfl ?_
  refine Own.aload H_180 (pc := 120) at_120 rfl rfl ?_
  refine Own.lload_n H_180 (pc := 122) at_122 rfl ?_
  refine Own.lload H_180 (pc := 123) at_123 rfl ?_
  refine Own.ladd H_180 (pc := 125) at_125 ?_
  refine Own.aload H_180 (pc := 126) at_126 rfl rfl ?_
  refine Own.iload H_180 (pc := 128) at_128 rfl ?_
  refine Own.callV H_180 (pc := 130) (y := (⟨"termstone/packing/PackedInts$Packer", "add", "(J[BI)I"⟩ : MethodName)) (z := (⟨"termstone/packing/PackedInts$Packer", "add", "(J[BI)I"⟩ : MethodName)) (CC := "termstone/packing/PackedInts$Packer") a [(.long (p1 + v1)), (.ref ob), (.int at_)] [] at_130 (hw _ (List.mem_of_getElem? (i := 15) rfl)) (hw _ (List.mem_of_getElem? (i := 16) rfl)) (H_180.nf (hw _ (List.mem_of_getElem? (i := 18) rfl))) (hw _ (List.mem_of_getElem? (i := 18) rfl)) (hw _ (List.mem_of_getElem? (i := 17) rfl)) (hw _ (List.mem_of_getElem? (i := 4) rfl)) (hw _ (List.mem_of_getElem? (i := 19) rfl)) (by decide) E1 (rm_add l Z a0 hw a (p1 + v1) ob at_ _ n0 H_180.z0 p1 0 b 0 (List.replicate 12 90) 0 bn ai F1 F2 F3 F4 E1 B1 ge_a ge_ob ne rfl hbn hai (by omega) h32 (by simp) (by omega)) (r := (some .int)) (ps := [.long, (.array .byte), .int]) (by decide) rfl rfl 0 rfl (by decide) (by decide) (by decide) (by decide) rfl (fun T_187 v_189 h_188 H_186 z_190 q_191 => ?_)
  obtain ⟨r1, g1, rfl, hr1, hg1, F1, F2, F3, F4, E1, B2⟩ := q_191
  show OEnds _ _ _ _ _ _ _ _ _ (mkF _ 133 #[.val (.int p0), .val (.long p1), .second, .val (.long p2), .second, .val (.long p3), .second, .val (.int p4), .val (.int b), .val (.long (((1 : Int64) <<< ((b).toInt64 &&& 63)) - (1 : Int64))), .second, .val (.long v1), .second, .val (.long v2), .second, .val (.int at_), .val (.ref ob), .val (.ref a), .unset, .unset, .unset, .unset, .unset, .unset, .unset, .unset, .unset, .unset] [(.int r1)])
  rw [Nat.zero_add] at hr1 hg1
  rw [own_sub1, own_zero] at F3
  rw [own_sub1, own_zero, Nat.zero_add] at B2
  refine Own.istore H_186 (pc := 133) #[.val (.int p0), .val (.long p1), .second, .val (.long p2), .second, .val (.long p3), .second, .val (.int p4), .val (.int b), .val (.long (((1 : Int64) <<< ((b).toInt64 &&& 63)) - (1 : Int64))), .second, .val (.long v1), .second, .val (.long v2), .second, .val (.int at_), .val (.ref ob), .val (.ref a), .val (.int r1), .unset, .unset, .unset, .unset, .unset, .unset, .unset, .unset, .unset] at_133 rfl ?_
  refine Own.aload H_186 (pc := 135) at_135 rfl rfl ?_
  refine Own.lload_n H_186 (pc := 137) at_137 rfl ?_
  refine Own.lload H_186 (pc := 138) at_138 rfl ?_
  refine Own.ladd H_186 (pc := 140) at_140 ?_
  refine Own.aload H_186 (pc := 141) at_141 rfl rfl ?_
  refine Own.iload H_186 (pc := 143) at_143 rfl ?_
  refine Own.callV H_186 (pc := 145) (y := (⟨"termstone/packing/PackedInts$Packer", "add", "(J[BI)I"⟩ : MethodName)) (z := (⟨"termstone/packing/PackedInts$Packer", "add", "(J[BI)I"⟩ : MethodName)) (CC := "termstone/packing/PackedInts$Packer") a [(.long (p1 + v2)), (.ref ob), (.int r1)] [] at_145 (hw _ (List.mem_of_getElem? (i := 15) rfl)) (hw _ (List.mem_of_getElem? (i := 16) rfl)) (H_186.nf (hw _ (List.mem_of_getElem? (i := 18) rfl))) (hw _ (List.mem_of_getElem? (i := 18) rfl)) (hw _ (List.mem_of_getElem? (i := 17) rfl)) (hw _ (List.mem_of_getElem? (i := 4) rfl)) (hw _ (List.mem_of_getElem? (i := 19) rfl)) (by decide) E1 (rm_add l Z a0 hw a (p1 + v2) ob r1 _ n0 H_186.z0 p1 v1 b g1 _ (bn % 8) bn (ai + bn / 8) F1 F2 F3 F4 E1 B2 ge_a ge_ob ne hg1 hbn hr1 (by omega) h32 (by rw [own_em_len]; simp) (by omega)) (r := (some .int)) (ps := [.long, (.array .byte), .int]) (by decide) rfl rfl 0 rfl (by decide) (by decide) (by decide) (by decide) rfl (fun T_193 v_195 h_194 H_192 z_196 q_197 => ?_)
  obtain ⟨r2, g2, rfl, hr2, hg2, F1, F2, F3, F4, E1, B3⟩ := q_197
  show OEnds _ _ _ _ _ _ _ _ _ (mkF _ 148 #[.val (.int p0), .val (.long p1), .second, .val (.long p2), .second, .val (.long p3), .second, .val (.int p4), .val (.int b), .val (.long (((1 : Int64) <<< ((b).toInt64 &&& 63)) - (1 : Int64))), .second, .val (.long v1), .second, .val (.long v2), .second, .val (.int at_), .val (.ref ob), .val (.ref a), .val (.int r1), .unset, .unset, .unset, .unset, .unset, .unset, .unset, .unset, .unset] [(.int r2)])
  rw [own_sub1] at F3
  rw [own_sub1] at B3
  refine Own.istore H_192 (pc := 148) #[.val (.int p0), .val (.long p1), .second, .val (.long p2), .second, .val (.long p3), .second, .val (.int p4), .val (.int b), .val (.long (((1 : Int64) <<< ((b).toInt64 &&& 63)) - (1 : Int64))), .second, .val (.long v1), .second, .val (.long v2), .second, .val (.int at_), .val (.ref ob), .val (.ref a), .val (.int r1), .val (.int r2), .unset, .unset, .unset, .unset, .unset, .unset, .unset, .unset] at_148 rfl ?_
  refine Own.aload H_192 (pc := 150) at_150 rfl rfl ?_
  refine Own.aload H_192 (pc := 152) at_152 rfl rfl ?_
  refine Own.iload H_192 (pc := 154) at_154 rfl ?_
  refine Own.callV H_192 (pc := 156) (y := (⟨"termstone/packing/PackedInts$Packer", "finish", "([BI)I"⟩ : MethodName)) (z := (⟨"termstone/packing/PackedInts$Packer", "finish", "([BI)I"⟩ : MethodName)) (CC := "termstone/packing/PackedInts$Packer") a [(.ref ob), (.int r2)] [] at_156 (hw _ (List.mem_of_getElem? (i := 24) rfl)) (hw _ (List.mem_of_getElem? (i := 25) rfl)) (H_192.nf (hw _ (List.mem_of_getElem? (i := 27) rfl))) (hw _ (List.mem_of_getElem? (i := 27) rfl)) (hw _ (List.mem_of_getElem? (i := 26) rfl)) (hw _ (List.mem_of_getElem? (i := 4) rfl)) (hw _ (List.mem_of_getElem? (i := 28) rfl)) (by decide) E1 (rm_finish l Z a0 hw a ob r2 _ n0 H_192.z0 _ g2 _ ((bn % 8 + bn) % 8) (ai + bn / 8 + (bn % 8 + bn) / 8) F3 F4 E1 B3 ge_a ge_ob ne hg2 hr2 (by omega) (by rw [own_em_len, own_em_len]; simp) (by omega) (by omega)) (r := (some .int)) (ps := [(.array .byte), .int]) (by decide) rfl rfl 0 rfl (by decide) (by decide) (by decide) (by decide) rfl (fun T_199 v_201 h_200 H_198 z_202 q_203 => ?_)
  obtain ⟨r3, rfl, hr3, B4⟩ := q_203
  show OEnds _ _ _ _ _ _ _ _ _ (mkF _ 159 #[.val (.int p0), .val (.long p1), .second, .val (.long p2), .second, .val (.long p3), .second, .val (.int p4), .val (.int b), .val (.long (((1 : Int64) <<< ((b).toInt64 &&& 63)) - (1 : Int64))), .second, .val (.long v1), .second, .val (.long v2), .second, .val (.int at_), .val (.ref ob), .val (.ref a), .val (.int r1), .val (.int r2), .unset, .unset, .unset, .unset, .unset, .unset, .unset, .unset] [(.int r3)])
  refine Own.istore H_198 (pc := 159) #[.val (.int p0), .val (.long p1), .second, .val (.long p2), .second, .val (.long p3), .second, .val (.int p4), .val (.int b), .val (.long (((1 : Int64) <<< ((b).toInt64 &&& 63)) - (1 : Int64))), .second, .val (.long v1), .second, .val (.long v2), .second, .val (.int at_), .val (.ref ob), .val (.ref a), .val (.int r1), .val (.int r2), .val (.int r3), .unset, .unset, .unset, .unset, .unset, .unset, .unset] at_159 rfl ?_
  refine Own.iconst H_198 (pc := 161) (2) at_161 rfl ?_
  refine Own.iload H_198 (pc := 162) at_162 rfl ?_
  refine Own.imul H_198 (pc := 164) at_164 ?_
  generalize et2 : ((2 : Int32) * b) = t2
  have ht2 : t2.toInt = 2 * (bn : Int) := by
    rw [← et2]
    have a1 := c_imul 2 b
    have r := rng32 (2 * b)
    have e2 : (2 : Int32).toInt = 2 := rfl
    rw [e2] at a1
    omega
  clear et2
  refine Own.istore H_198 (pc := 165) #[.val (.int p0), .val (.long p1), .second, .val (.long p2), .second, .val (.long p3), .second, .val (.int p4), .val (.int b), .val (.long (((1 : Int64) <<< ((b).toInt64 &&& 63)) - (1 : Int64))), .second, .val (.long v1), .second, .val (.long v2), .second, .val (.int at_), .val (.ref ob), .val (.ref a), .val (.int r1), .val (.int r2), .val (.int r3), .val (.int t2), .unset, .unset, .unset, .unset, .unset, .unset] at_165 rfl ?_
  refine Own.iload H_198 (pc := 167) at_167 rfl ?_
  refine Own.bipush H_198 (pc := 169) (7) at_169 rfl ?_
  refine Own.iadd H_198 (pc := 171) at_171 ?_
  refine Own.bipush H_198 (pc := 172) (8) at_172 rfl ?_
  refine Own.idiv H_198 (pc := 174) at_174 (by decide) ?_
  generalize enn : ((t2 + (7 : Int32)) / (8 : Int32)) = nn
  have hnn : nn.toInt = (((2 * bn + 7) / 8 : Nat) : Int) := by
    rw [← enn]
    have a1 := c_iadd t2 7
    have r := rng32 (t2 + 7)
    have e7 : (7 : Int32).toInt = 7 := rfl
    have d := (c_idiv (t2 + 7) 8 8 rfl (by decide)).1 (by omega)
    omega
  clear enn
  refine Own.istore H_198 (pc := 175) #[.val (.int p0), .val (.long p1), .second, .val (.long p2), .second, .val (.long p3), .second, .val (.int p4), .val (.int b), .val (.long (((1 : Int64) <<< ((b).toInt64 &&& 63)) - (1 : Int64))), .second, .val (.long v1), .second, .val (.long v2), .second, .val (.int at_), .val (.ref ob), .val (.ref a), .val (.int r1), .val (.int r2), .val (.int r3), .val (.int t2), .val (.int nn), .unset, .unset, .unset, .unset, .unset] at_175 rfl ?_
  refine Own.lload H_198 (pc := 177) at_177 rfl ?_
  refine Own.iload H_198 (pc := 179) at_179 rfl ?_
  refine Own.lshl H_198 (pc := 181) at_181 ?_
  refine Own.lload H_198 (pc := 182) at_182 rfl ?_
  refine Own.lor H_198 (pc := 184) at_184 ?_
  generalize ew : ((v1 <<< ((b).toInt64 &&& 63)) ||| v2) = w
  rw [ew] at B4
  have hw2 : w.toBitVec = v1.toBitVec <<< bn ||| v2.toBitVec := by rw [← ew, Int64.toBitVec_or, own_shn v1 bn b hbn (by omega)]
  clear ew
  refine Own.lstore H_198 (pc := 185) #[.val (.int p0), .val (.long p1), .second, .val (.long p2), .second, .val (.long p3), .second, .val (.int p4), .val (.int b), .val (.long (((1 : Int64) <<< ((b).toInt64 &&& 63)) - (1 : Int64))), .second, .val (.long v1), .second, .val (.long v2), .second, .val (.int at_), .val (.ref ob), .val (.ref a), .val (.int r1), .val (.int r2), .val (.int r3), .val (.int t2), .val (.int nn), .val (.long w), .second, .unset, .unset, .unset] at_185 rfl ?_
  refine Own.iload H_198 (pc := 187) at_187 rfl ?_
  refine Own.cut (P := fun left : Int64 => left.toBitVec = w.toBitVec <<< (64 - 2 * bn)) (g := fun left => mkF m 204 #[.val (.int p0), .val (.long p1), .second, .val (.long p2), .second, .val (.long p3), .second, .val (.int p4), .val (.int b), .val (.long (((1 : Int64) <<< ((b).toInt64 &&& 63)) - (1 : Int64))), .second, .val (.long v1), .second, .val (.long v2), .second, .val (.int at_), .val (.ref ob), .val (.ref a), .val (.int r1), .val (.int r2), .val (.int r3), .val (.int t2), .val (.int nn), .val (.long w), .second, .unset, .unset, .unset] [.long left]) ?_ ?_
  · intro left hl
    obtain ⟨L, hLn, hLv, B5⟩ : ∃ L : List Int32, L.length = 12 ∧ (∀ i, i < 12 → L.getD i 0 = if ai ≤ i ∧ i < ai + (2 * bn + 7) / 8 then own_byt left (56 - 8 * (i - ai)) else 90) ∧ OAry Z h_200 ob .byte (L.map Value.int) :=
      ⟨_, by split <;> simp [own_em_len], own_list bn ai ((bn % 8 + bn) % 8) v1 v2 w left g2 h32 (by omega) hw2 hl hv2 hg2 rfl, B4⟩
    show OEnds _ _ _ _ _ _ _ _ _ (mkF _ 204 #[.val (.int p0), .val (.long p1), .second, .val (.long p2), .second, .val (.long p3), .second, .val (.int p4), .val (.int b), .val (.long (((1 : Int64) <<< ((b).toInt64 &&& 63)) - (1 : Int64))), .second, .val (.long v1), .second, .val (.long v2), .second, .val (.int at_), .val (.ref ob), .val (.ref a), .val (.int r1), .val (.int r2), .val (.int r3), .val (.int t2), .val (.int nn), .val (.long w), .second, .unset, .unset, .unset] [(.long left)])
    refine Own.lstore H_198 (pc := 204) #[.val (.int p0), .val (.long p1), .second, .val (.long p2), .second, .val (.long p3), .second, .val (.int p4), .val (.int b), .val (.long (((1 : Int64) <<< ((b).toInt64 &&& 63)) - (1 : Int64))), .second, .val (.long v1), .second, .val (.long v2), .second, .val (.int at_), .val (.ref ob), .val (.ref a), .val (.int r1), .val (.int r2), .val (.int r3), .val (.int t2), .val (.int nn), .val (.long w), .second, .val (.long left), .second, .unset] at_204 rfl ?_
    refine Own.iload H_198 (pc := 206) at_206 rfl ?_
    refine Own.iload H_198 (pc := 208) at_208 rfl ?_
    refine Own.iload H_198 (pc := 210) at_210 rfl ?_
    refine Own.bipush H_198 (pc := 212) (8) at_212 rfl ?_
    refine Own.idiv H_198 (pc := 214) at_214 (by decide) ?_
    refine Own.iadd H_198 (pc := 215) at_215 ?_
    refine Own.icmp_ne H_198 (pc := 216) 246 at_216 (by decide) (by decide) (fun hX => absurd (own_eq (by have d := (c_idiv b 8 8 rfl (by decide)).1 (by omega); have a1 := c_iadd at_ (b / 8); have r := rng32 (at_ + b / 8); omega)) hX) (fun _ => ?_)
    refine Own.iload H_198 (pc := 219) at_219 rfl ?_
    refine Own.iload H_198 (pc := 221) at_221 rfl ?_
    refine Own.iload H_198 (pc := 223) at_223 rfl ?_
    refine Own.bipush H_198 (pc := 225) (8) at_225 rfl ?_
    refine Own.idiv H_198 (pc := 227) at_227 (by decide) ?_
    refine Own.iadd H_198 (pc := 228) at_228 ?_
    refine Own.icmp_ne H_198 (pc := 229) 246 at_229 (by decide) (by decide) (fun hX => absurd (own_eq (by have d := (c_idiv t2 8 8 rfl (by decide)).1 (by omega); have a1 := c_iadd at_ (t2 / 8); have r := rng32 (at_ + t2 / 8); omega)) hX) (fun _ => ?_)
    refine Own.iload H_198 (pc := 232) at_232 rfl ?_
    refine Own.iload H_198 (pc := 234) at_234 rfl ?_
    refine Own.iload H_198 (pc := 236) at_236 rfl ?_
    refine Own.iadd H_198 (pc := 238) at_238 ?_
    refine Own.icmp_ne H_198 (pc := 239) 246 at_239 (by decide) (by decide) (fun hX => absurd (own_eq (by have a1 := c_iadd at_ nn; have r := rng32 (at_ + nn); have e3 : (if (bn % 8 + bn) % 8 = 0 then ai + bn / 8 + (bn % 8 + bn) / 8 else ai + bn / 8 + (bn % 8 + bn) / 8 + 1) = ai + (2 * bn + 7) / 8 := (by split <;> omega); rw [e3] at hr3; omega)) hX) (fun _ => ?_)
    refine Own.iconst H_198 (pc := 242) (1) at_242 rfl ?_
    refine Own.goto H_198 (pc := 243) 247 at_243 (by decide) (by decide) ?_
    refine Own.istore H_198 (pc := 247) #[.val (.int p0), .val (.long p1), .second, .val (.long p2), .second, .val (.long p3), .second, .val (.int p4), .val (.int b), .val (.long (((1 : Int64) <<< ((b).toInt64 &&& 63)) - (1 : Int64))), .second, .val (.long v1), .second, .val (.long v2), .second, .val (.int at_), .val (.ref ob), .val (.ref a), .val (.int r1), .val (.int r2), .val (.int r3), .val (.int t2), .val (.int nn), .val (.long w), .second, .val (.long left), .second, .val (.int (1 : Int32))] at_247 rfl ?_
    refine Own.iload H_198 (pc := 249) at_249 rfl ?_
    refine Own.if_eq H_198 (pc := 251) 444 at_251 (by decide) (by decide) (fun hc => absurd hc (by decide)) (fun _ => ?_)
    refine Own.aload H_198 (pc := 254) at_254 rfl rfl ?_
    refine Own.iconst H_198 (pc := 256) (0) at_256 rfl ?_
    refine Own.iload H_198 (pc := 257) at_257 rfl ?_
    refine Own.iload H_198 (pc := 259) at_259 rfl ?_
    refine Own.lload H_198 (pc := 261) at_261 rfl ?_
    refine Own.callS H_198 (pc := 263) (y := (⟨"termstone/packing/PackerAddPinLaw", "byteOk", "([BIIIJ)Z"⟩ : MethodName)) [(.ref ob), (.int (0 : Int32)), (.int at_), (.int nn), (.long left)] [] at_263 (hw _ (List.mem_of_getElem? (i := 29) rfl)) (hw _ (List.mem_of_getElem? (i := 30) rfl)) (hw _ (List.mem_of_getElem? (i := 31) rfl)) (hw _ (List.mem_of_getElem? (i := 32) rfl)) (by decide) (rm_ok l Z a0 hw ob (0 : Int32) at_ nn left _ n0 H_198.z0 L B5 0 ai ((2 * bn + 7) / 8) rfl hai hnn (by omega) hLn (by omega) (by omega) (hLv 0 (by decide))) (r := (some .boolean)) (ps := [(.array .byte), .int, .int, .int, .long]) (by decide) rfl rfl 0 rfl (by decide) (by decide) (by decide) (by decide) rfl (fun T_205 v_207 h_206 H_204 z_208 q_209 => ?_)
    obtain ⟨rfl, rfl⟩ := q_209
    show OEnds _ _ _ _ _ _ _ _ _ (mkF _ 266 #[.val (.int p0), .val (.long p1), .second, .val (.long p2), .second, .val (.long p3), .second, .val (.int p4), .val (.int b), .val (.long (((1 : Int64) <<< ((b).toInt64 &&& 63)) - (1 : Int64))), .second, .val (.long v1), .second, .val (.long v2), .second, .val (.int at_), .val (.ref ob), .val (.ref a), .val (.int r1), .val (.int r2), .val (.int r3), .val (.int t2), .val (.int nn), .val (.long w), .second, .val (.long left), .second, .val (.int (1 : Int32))] [(.int (1 : Int32))])
    refine Own.if_eq H_204 (pc := 266) 444 at_266 (by decide) (by decide) (fun hc => absurd hc (by decide)) (fun _ => ?_)
    refine Own.aload H_204 (pc := 269) at_269 rfl rfl ?_
    refine Own.iconst H_204 (pc := 271) (1) at_271 rfl ?_
    refine Own.iload H_204 (pc := 272) at_272 rfl ?_
    refine Own.iload H_204 (pc := 274) at_274 rfl ?_
    refine Own.lload H_204 (pc := 276) at_276 rfl ?_
    refine Own.callS H_204 (pc := 278) (y := (⟨"termstone/packing/PackerAddPinLaw", "byteOk", "([BIIIJ)Z"⟩ : MethodName)) [(.ref ob), (.int (1 : Int32)), (.int at_), (.int nn), (.long left)] [] at_278 (hw _ (List.mem_of_getElem? (i := 29) rfl)) (hw _ (List.mem_of_getElem? (i := 30) rfl)) (hw _ (List.mem_of_getElem? (i := 31) rfl)) (hw _ (List.mem_of_getElem? (i := 32) rfl)) (by decide) (rm_ok l Z a0 hw ob (1 : Int32) at_ nn left _ n0 H_204.z0 L B5 1 ai ((2 * bn + 7) / 8) rfl hai hnn (by omega) hLn (by omega) (by omega) (hLv 1 (by decide))) (r := (some .boolean)) (ps := [(.array .byte), .int, .int, .int, .long]) (by decide) rfl rfl 0 rfl (by decide) (by decide) (by decide) (by decide) rfl (fun T_211 v_213 h_212 H_210 z_214 q_215 => ?_)
    obtain ⟨rfl, rfl⟩ := q_215
    show OEnds _ _ _ _ _ _ _ _ _ (mkF _ 281 #[.val (.int p0), .val (.long p1), .second, .val (.long p2), .second, .val (.long p3), .second, .val (.int p4), .val (.int b), .val (.long (((1 : Int64) <<< ((b).toInt64 &&& 63)) - (1 : Int64))), .second, .val (.long v1), .second, .val (.long v2), .second, .val (.int at_), .val (.ref ob), .val (.ref a), .val (.int r1), .val (.int r2), .val (.int r3), .val (.int t2), .val (.int nn), .val (.long w), .second, .val (.long left), .second, .val (.int (1 : Int32))] [(.int (1 : Int32))])
    refine Own.if_eq H_210 (pc := 281) 444 at_281 (by decide) (by decide) (fun hc => absurd hc (by decide)) (fun _ => ?_)
    refine Own.aload H_210 (pc := 284) at_284 rfl rfl ?_
    refine Own.iconst H_210 (pc := 286) (2) at_286 rfl ?_
    refine Own.iload H_210 (pc := 287) at_287 rfl ?_
    refine Own.iload H_210 (pc := 289) at_289 rfl ?_
    refine Own.lload H_210 (pc := 291) at_291 rfl ?_
    refine Own.callS H_210 (pc := 293) (y := (⟨"termstone/packing/PackerAddPinLaw", "byteOk", "([BIIIJ)Z"⟩ : MethodName)) [(.ref ob), (.int (2 : Int32)), (.int at_), (.int nn), (.long left)] [] at_293 (hw _ (List.mem_of_getElem? (i := 29) rfl)) (hw _ (List.mem_of_getElem? (i := 30) rfl)) (hw _ (List.mem_of_getElem? (i := 31) rfl)) (hw _ (List.mem_of_getElem? (i := 32) rfl)) (by decide) (rm_ok l Z a0 hw ob (2 : Int32) at_ nn left _ n0 H_210.z0 L B5 2 ai ((2 * bn + 7) / 8) rfl hai hnn (by omega) hLn (by omega) (by omega) (hLv 2 (by decide))) (r := (some .boolean)) (ps := [(.array .byte), .int, .int, .int, .long]) (by decide) rfl rfl 0 rfl (by decide) (by decide) (by decide) (by decide) rfl (fun T_217 v_219 h_218 H_216 z_220 q_221 => ?_)
    obtain ⟨rfl, rfl⟩ := q_221
    show OEnds _ _ _ _ _ _ _ _ _ (mkF _ 296 #[.val (.int p0), .val (.long p1), .second, .val (.long p2), .second, .val (.long p3), .second, .val (.int p4), .val (.int b), .val (.long (((1 : Int64) <<< ((b).toInt64 &&& 63)) - (1 : Int64))), .second, .val (.long v1), .second, .val (.long v2), .second, .val (.int at_), .val (.ref ob), .val (.ref a), .val (.int r1), .val (.int r2), .val (.int r3), .val (.int t2), .val (.int nn), .val (.long w), .second, .val (.long left), .second, .val (.int (1 : Int32))] [(.int (1 : Int32))])
    refine Own.if_eq H_216 (pc := 296) 444 at_296 (by decide) (by decide) (fun hc => absurd hc (by decide)) (fun _ => ?_)
    refine Own.aload H_216 (pc := 299) at_299 rfl rfl ?_
    refine Own.iconst H_216 (pc := 301) (3) at_301 rfl ?_
    refine Own.iload H_216 (pc := 302) at_302 rfl ?_
    refine Own.iload H_216 (pc := 304) at_304 rfl ?_
    refine Own.lload H_216 (pc := 306) at_306 rfl ?_
    refine Own.callS H_216 (pc := 308) (y := (⟨"termstone/packing/PackerAddPinLaw", "byteOk", "([BIIIJ)Z"⟩ : MethodName)) [(.ref ob), (.int (3 : Int32)), (.int at_), (.int nn), (.long left)] [] at_308 (hw _ (List.mem_of_getElem? (i := 29) rfl)) (hw _ (List.mem_of_getElem? (i := 30) rfl)) (hw _ (List.mem_of_getElem? (i := 31) rfl)) (hw _ (List.mem_of_getElem? (i := 32) rfl)) (by decide) (rm_ok l Z a0 hw ob (3 : Int32) at_ nn left _ n0 H_216.z0 L B5 3 ai ((2 * bn + 7) / 8) rfl hai hnn (by omega) hLn (by omega) (by omega) (hLv 3 (by decide))) (r := (some .boolean)) (ps := [(.array .byte), .int, .int, .int, .long]) (by decide) rfl rfl 0 rfl (by decide) (by decide) (by decide) (by decide) rfl (fun T_223 v_225 h_224 H_222 z_226 q_227 => ?_)
    obtain ⟨rfl, rfl⟩ := q_227
    show OEnds _ _ _ _ _ _ _ _ _ (mkF _ 311 #[.val (.int p0), .val (.long p1), .second, .val (.long p2), .second, .val (.long p3), .second, .val (.int p4), .val (.int b), .val (.long (((1 : Int64) <<< ((b).toInt64 &&& 63)) - (1 : Int64))), .second, .val (.long v1), .second, .val (.long v2), .second, .val (.int at_), .val (.ref ob), .val (.ref a), .val (.int r1), .val (.int r2), .val (.int r3), .val (.int t2), .val (.int nn), .val (.long w), .second, .val (.long left), .second, .val (.int (1 : Int32))] [(.int (1 : Int32))])
    refine Own.if_eq H_222 (pc := 311) 444 at_311 (by decide) (by decide) (fun hc => absurd hc (by decide)) (fun _ => ?_)
    refine Own.aload H_222 (pc := 314) at_314 rfl rfl ?_
    refine Own.iconst H_222 (pc := 316) (4) at_316 rfl ?_
    refine Own.iload H_222 (pc := 317) at_317 rfl ?_
    refine Own.iload H_222 (pc := 319) at_319 rfl ?_
    refine Own.lload H_222 (pc := 321) at_321 rfl ?_
    refine Own.callS H_222 (pc := 323) (y := (⟨"termstone/packing/PackerAddPinLaw", "byteOk", "([BIIIJ)Z"⟩ : MethodName)) [(.ref ob), (.int (4 : Int32)), (.int at_), (.int nn), (.long left)] [] at_323 (hw _ (List.mem_of_getElem? (i := 29) rfl)) (hw _ (List.mem_of_getElem? (i := 30) rfl)) (hw _ (List.mem_of_getElem? (i := 31) rfl)) (hw _ (List.mem_of_getElem? (i := 32) rfl)) (by decide) (rm_ok l Z a0 hw ob (4 : Int32) at_ nn left _ n0 H_222.z0 L B5 4 ai ((2 * bn + 7) / 8) rfl hai hnn (by omega) hLn (by omega) (by omega) (hLv 4 (by decide))) (r := (some .boolean)) (ps := [(.array .byte), .int, .int, .int, .long]) (by decide) rfl rfl 0 rfl (by decide) (by decide) (by decide) (by decide) rfl (fun T_229 v_231 h_230 H_228 z_232 q_233 => ?_)
    obtain ⟨rfl, rfl⟩ := q_233
    show OEnds _ _ _ _ _ _ _ _ _ (mkF _ 326 #[.val (.int p0), .val (.long p1), .second, .val (.long p2), .second, .val (.long p3), .second, .val (.int p4), .val (.int b), .val (.long (((1 : Int64) <<< ((b).toInt64 &&& 63)) - (1 : Int64))), .second, .val (.long v1), .second, .val (.long v2), .second, .val (.int at_), .val (.ref ob), .val (.ref a), .val (.int r1), .val (.int r2), .val (.int r3), .val (.int t2), .val (.int nn), .val (.long w), .second, .val (.long left), .second, .val (.int (1 : Int32))] [(.int (1 : Int32))])
    refine Own.if_eq H_228 (pc := 326) 444 at_326 (by decide) (by decide) (fun hc => absurd hc (by decide)) (fun _ => ?_)
    refine Own.aload H_228 (pc := 329) at_329 rfl rfl ?_
    refine Own.iconst H_228 (pc := 331) (5) at_331 rfl ?_
    refine Own.iload H_228 (pc := 332) at_332 rfl ?_
    refine Own.iload H_228 (pc := 334) at_334 rfl ?_
    refine Own.lload H_228 (pc := 336) at_336 rfl ?_
    refine Own.callS H_228 (pc := 338) (y := (⟨"termstone/packing/PackerAddPinLaw", "byteOk", "([BIIIJ)Z"⟩ : MethodName)) [(.ref ob), (.int (5 : Int32)), (.int at_), (.int nn), (.long left)] [] at_338 (hw _ (List.mem_of_getElem? (i := 29) rfl)) (hw _ (List.mem_of_getElem? (i := 30) rfl)) (hw _ (List.mem_of_getElem? (i := 31) rfl)) (hw _ (List.mem_of_getElem? (i := 32) rfl)) (by decide) (rm_ok l Z a0 hw ob (5 : Int32) at_ nn left _ n0 H_228.z0 L B5 5 ai ((2 * bn + 7) / 8) rfl hai hnn (by omega) hLn (by omega) (by omega) (hLv 5 (by decide))) (r := (some .boolean)) (ps := [(.array .byte), .int, .int, .int, .long]) (by decide) rfl rfl 0 rfl (by decide) (by decide) (by decide) (by decide) rfl (fun T_235 v_237 h_236 H_234 z_238 q_239 => ?_)
    obtain ⟨rfl, rfl⟩ := q_239
    show OEnds _ _ _ _ _ _ _ _ _ (mkF _ 341 #[.val (.int p0), .val (.long p1), .second, .val (.long p2), .second, .val (.long p3), .second, .val (.int p4), .val (.int b), .val (.long (((1 : Int64) <<< ((b).toInt64 &&& 63)) - (1 : Int64))), .second, .val (.long v1), .second, .val (.long v2), .second, .val (.int at_), .val (.ref ob), .val (.ref a), .val (.int r1), .val (.int r2), .val (.int r3), .val (.int t2), .val (.int nn), .val (.long w), .second, .val (.long left), .second, .val (.int (1 : Int32))] [(.int (1 : Int32))])
    refine Own.if_eq H_234 (pc := 341) 444 at_341 (by decide) (by decide) (fun hc => absurd hc (by decide)) (fun _ => ?_)
    refine Own.aload H_234 (pc := 344) at_344 rfl rfl ?_
    refine Own.bipush H_234 (pc := 346) (6) at_346 rfl ?_
    refine Own.iload H_234 (pc := 348) at_348 rfl ?_
    refine Own.iload H_234 (pc := 350) at_350 rfl ?_
    refine Own.lload H_234 (pc := 352) at_352 rfl ?_
    refine Own.callS H_234 (pc := 354) (y := (⟨"termstone/packing/PackerAddPinLaw", "byteOk", "([BIIIJ)Z"⟩ : MethodName)) [(.ref ob), (.int (6 : Int32)), (.int at_), (.int nn), (.long left)] [] at_354 (hw _ (List.mem_of_getElem? (i := 29) rfl)) (hw _ (List.mem_of_getElem? (i := 30) rfl)) (hw _ (List.mem_of_getElem? (i := 31) rfl)) (hw _ (List.mem_of_getElem? (i := 32) rfl)) (by decide) (rm_ok l Z a0 hw ob (6 : Int32) at_ nn left _ n0 H_234.z0 L B5 6 ai ((2 * bn + 7) / 8) rfl hai hnn (by omega) hLn (by omega) (by omega) (hLv 6 (by decide))) (r := (some .boolean)) (ps := [(.array .byte), .int, .int, .int, .long]) (by decide) rfl rfl 0 rfl (by decide) (by decide) (by decide) (by decide) rfl (fun T_241 v_243 h_242 H_240 z_244 q_245 => ?_)
    obtain ⟨rfl, rfl⟩ := q_245
    show OEnds _ _ _ _ _ _ _ _ _ (mkF _ 357 #[.val (.int p0), .val (.long p1), .second, .val (.long p2), .second, .val (.long p3), .second, .val (.int p4), .val (.int b), .val (.long (((1 : Int64) <<< ((b).toInt64 &&& 63)) - (1 : Int64))), .second, .val (.long v1), .second, .val (.long v2), .second, .val (.int at_), .val (.ref ob), .val (.ref a), .val (.int r1), .val (.int r2), .val (.int r3), .val (.int t2), .val (.int nn), .val (.long w), .second, .val (.long left), .second, .val (.int (1 : Int32))] [(.int (1 : Int32))])
    refine Own.if_eq H_240 (pc := 357) 444 at_357 (by decide) (by decide) (fun hc => absurd hc (by decide)) (fun _ => ?_)
    refine Own.aload H_240 (pc := 360) at_360 rfl rfl ?_
    refine Own.bipush H_240 (pc := 362) (7) at_362 rfl ?_
    refine Own.iload H_240 (pc := 364) at_364 rfl ?_
    refine Own.iload H_240 (pc := 366) at_366 rfl ?_
    refine Own.lload H_240 (pc := 368) at_368 rfl ?_
    refine Own.callS H_240 (pc := 370) (y := (⟨"termstone/packing/PackerAddPinLaw", "byteOk", "([BIIIJ)Z"⟩ : MethodName)) [(.ref ob), (.int (7 : Int32)), (.int at_), (.int nn), (.long left)] [] at_370 (hw _ (List.mem_of_getElem? (i := 29) rfl)) (hw _ (List.mem_of_getElem? (i := 30) rfl)) (hw _ (List.mem_of_getElem? (i := 31) rfl)) (hw _ (List.mem_of_getElem? (i := 32) rfl)) (by decide) (rm_ok l Z a0 hw ob (7 : Int32) at_ nn left _ n0 H_240.z0 L B5 7 ai ((2 * bn + 7) / 8) rfl hai hnn (by omega) hLn (by omega) (by omega) (hLv 7 (by decide))) (r := (some .boolean)) (ps := [(.array .byte), .int, .int, .int, .long]) (by decide) rfl rfl 0 rfl (by decide) (by decide) (by decide) (by decide) rfl (fun T_247 v_249 h_248 H_246 z_250 q_251 => ?_)
    obtain ⟨rfl, rfl⟩ := q_251
    show OEnds _ _ _ _ _ _ _ _ _ (mkF _ 373 #[.val (.int p0), .val (.long p1), .second, .val (.long p2), .second, .val (.long p3), .second, .val (.int p4), .val (.int b), .val (.long (((1 : Int64) <<< ((b).toInt64 &&& 63)) - (1 : Int64))), .second, .val (.long v1), .second, .val (.long v2), .second, .val (.int at_), .val (.ref ob), .val (.ref a), .val (.int r1), .val (.int r2), .val (.int r3), .val (.int t2), .val (.int nn), .val (.long w), .second, .val (.long left), .second, .val (.int (1 : Int32))] [(.int (1 : Int32))])
    refine Own.if_eq H_246 (pc := 373) 444 at_373 (by decide) (by decide) (fun hc => absurd hc (by decide)) (fun _ => ?_)
    refine Own.aload H_246 (pc := 376) at_376 rfl rfl ?_
    refine Own.bipush H_246 (pc := 378) (8) at_378 rfl ?_
    refine Own.iload H_246 (pc := 380) at_380 rfl ?_
    refine Own.iload H_246 (pc := 382) at_382 rfl ?_
    refine Own.lload H_246 (pc := 384) at_384 rfl ?_
    refine Own.callS H_246 (pc := 386) (y := (⟨"termstone/packing/PackerAddPinLaw", "byteOk", "([BIIIJ)Z"⟩ : MethodName)) [(.ref ob), (.int (8 : Int32)), (.int at_), (.int nn), (.long left)] [] at_386 (hw _ (List.mem_of_getElem? (i := 29) rfl)) (hw _ (List.mem_of_getElem? (i := 30) rfl)) (hw _ (List.mem_of_getElem? (i := 31) rfl)) (hw _ (List.mem_of_getElem? (i := 32) rfl)) (by decide) (rm_ok l Z a0 hw ob (8 : Int32) at_ nn left _ n0 H_246.z0 L B5 8 ai ((2 * bn + 7) / 8) rfl hai hnn (by omega) hLn (by omega) (by omega) (hLv 8 (by decide))) (r := (some .boolean)) (ps := [(.array .byte), .int, .int, .int, .long]) (by decide) rfl rfl 0 rfl (by decide) (by decide) (by decide) (by decide) rfl (fun T_253 v_255 h_254 H_252 z_256 q_257 => ?_)
    obtain ⟨rfl, rfl⟩ := q_257
    show OEnds _ _ _ _ _ _ _ _ _ (mkF _ 389 #[.val (.int p0), .val (.long p1), .second, .val (.long p2), .second, .val (.long p3), .second, .val (.int p4), .val (.int b), .val (.long (((1 : Int64) <<< ((b).toInt64 &&& 63)) - (1 : Int64))), .second, .val (.long v1), .second, .val (.long v2), .second, .val (.int at_), .val (.ref ob), .val (.ref a), .val (.int r1), .val (.int r2), .val (.int r3), .val (.int t2), .val (.int nn), .val (.long w), .second, .val (.long left), .second, .val (.int (1 : Int32))] [(.int (1 : Int32))])
    refine Own.if_eq H_252 (pc := 389) 444 at_389 (by decide) (by decide) (fun hc => absurd hc (by decide)) (fun _ => ?_)
    refine Own.aload H_252 (pc := 392) at_392 rfl rfl ?_
    refine Own.bipush H_252 (pc := 394) (9) at_394 rfl ?_
    refine Own.iload H_252 (pc := 396) at_396 rfl ?_
    refine Own.iload H_252 (pc := 398) at_398 rfl ?_
    refine Own.lload H_252 (pc := 400) at_400 rfl ?_
    refine Own.callS H_252 (pc := 402) (y := (⟨"termstone/packing/PackerAddPinLaw", "byteOk", "([BIIIJ)Z"⟩ : MethodName)) [(.ref ob), (.int (9 : Int32)), (.int at_), (.int nn), (.long left)] [] at_402 (hw _ (List.mem_of_getElem? (i := 29) rfl)) (hw _ (List.mem_of_getElem? (i := 30) rfl)) (hw _ (List.mem_of_getElem? (i := 31) rfl)) (hw _ (List.mem_of_getElem? (i := 32) rfl)) (by decide) (rm_ok l Z a0 hw ob (9 : Int32) at_ nn left _ n0 H_252.z0 L B5 9 ai ((2 * bn + 7) / 8) rfl hai hnn (by omega) hLn (by omega) (by omega) (hLv 9 (by decide))) (r := (some .boolean)) (ps := [(.array .byte), .int, .int, .int, .long]) (by decide) rfl rfl 0 rfl (by decide) (by decide) (by decide) (by decide) rfl (fun T_259 v_261 h_260 H_258 z_262 q_263 => ?_)
    obtain ⟨rfl, rfl⟩ := q_263
    show OEnds _ _ _ _ _ _ _ _ _ (mkF _ 405 #[.val (.int p0), .val (.long p1), .second, .val (.long p2), .second, .val (.long p3), .second, .val (.int p4), .val (.int b), .val (.long (((1 : Int64) <<< ((b).toInt64 &&& 63)) - (1 : Int64))), .second, .val (.long v1), .second, .val (.long v2), .second, .val (.int at_), .val (.ref ob), .val (.ref a), .val (.int r1), .val (.int r2), .val (.int r3), .val (.int t2), .val (.int nn), .val (.long w), .second, .val (.long left), .second, .val (.int (1 : Int32))] [(.int (1 : Int32))])
    refine Own.if_eq H_258 (pc := 405) 444 at_405 (by decide) (by decide) (fun hc => absurd hc (by decide)) (fun _ => ?_)
    refine Own.aload H_258 (pc := 408) at_408 rfl rfl ?_
    refine Own.bipush H_258 (pc := 410) (10) at_410 rfl ?_
    refine Own.iload H_258 (pc := 412) at_412 rfl ?_
    refine Own.iload H_258 (pc := 414) at_414 rfl ?_
    refine Own.lload H_258 (pc := 416) at_416 rfl ?_
    refine Own.callS H_258 (pc := 418) (y := (⟨"termstone/packing/PackerAddPinLaw", "byteOk", "([BIIIJ)Z"⟩ : MethodName)) [(.ref ob), (.int (10 : Int32)), (.int at_), (.int nn), (.long left)] [] at_418 (hw _ (List.mem_of_getElem? (i := 29) rfl)) (hw _ (List.mem_of_getElem? (i := 30) rfl)) (hw _ (List.mem_of_getElem? (i := 31) rfl)) (hw _ (List.mem_of_getElem? (i := 32) rfl)) (by decide) (rm_ok l Z a0 hw ob (10 : Int32) at_ nn left _ n0 H_258.z0 L B5 10 ai ((2 * bn + 7) / 8) rfl hai hnn (by omega) hLn (by omega) (by omega) (hLv 10 (by decide))) (r := (some .boolean)) (ps := [(.array .byte), .int, .int, .int, .long]) (by decide) rfl rfl 0 rfl (by decide) (by decide) (by decide) (by decide) rfl (fun T_265 v_267 h_266 H_264 z_268 q_269 => ?_)
    obtain ⟨rfl, rfl⟩ := q_269
    show OEnds _ _ _ _ _ _ _ _ _ (mkF _ 421 #[.val (.int p0), .val (.long p1), .second, .val (.long p2), .second, .val (.long p3), .second, .val (.int p4), .val (.int b), .val (.long (((1 : Int64) <<< ((b).toInt64 &&& 63)) - (1 : Int64))), .second, .val (.long v1), .second, .val (.long v2), .second, .val (.int at_), .val (.ref ob), .val (.ref a), .val (.int r1), .val (.int r2), .val (.int r3), .val (.int t2), .val (.int nn), .val (.long w), .second, .val (.long left), .second, .val (.int (1 : Int32))] [(.int (1 : Int32))])
    refine Own.if_eq H_264 (pc := 421) 444 at_421 (by decide) (by decide) (fun hc => absurd hc (by decide)) (fun _ => ?_)
    refine Own.aload H_264 (pc := 424) at_424 rfl rfl ?_
    refine Own.bipush H_264 (pc := 426) (11) at_426 rfl ?_
    refine Own.iload H_264 (pc := 428) at_428 rfl ?_
    refine Own.iload H_264 (pc := 430) at_430 rfl ?_
    refine Own.lload H_264 (pc := 432) at_432 rfl ?_
    refine Own.callS H_264 (pc := 434) (y := (⟨"termstone/packing/PackerAddPinLaw", "byteOk", "([BIIIJ)Z"⟩ : MethodName)) [(.ref ob), (.int (11 : Int32)), (.int at_), (.int nn), (.long left)] [] at_434 (hw _ (List.mem_of_getElem? (i := 29) rfl)) (hw _ (List.mem_of_getElem? (i := 30) rfl)) (hw _ (List.mem_of_getElem? (i := 31) rfl)) (hw _ (List.mem_of_getElem? (i := 32) rfl)) (by decide) (rm_ok l Z a0 hw ob (11 : Int32) at_ nn left _ n0 H_264.z0 L B5 11 ai ((2 * bn + 7) / 8) rfl hai hnn (by omega) hLn (by omega) (by omega) (hLv 11 (by decide))) (r := (some .boolean)) (ps := [(.array .byte), .int, .int, .int, .long]) (by decide) rfl rfl 0 rfl (by decide) (by decide) (by decide) (by decide) rfl (fun T_271 v_273 h_272 H_270 z_274 q_275 => ?_)
    obtain ⟨rfl, rfl⟩ := q_275
    show OEnds _ _ _ _ _ _ _ _ _ (mkF _ 437 #[.val (.int p0), .val (.long p1), .second, .val (.long p2), .second, .val (.long p3), .second, .val (.int p4), .val (.int b), .val (.long (((1 : Int64) <<< ((b).toInt64 &&& 63)) - (1 : Int64))), .second, .val (.long v1), .second, .val (.long v2), .second, .val (.int at_), .val (.ref ob), .val (.ref a), .val (.int r1), .val (.int r2), .val (.int r3), .val (.int t2), .val (.int nn), .val (.long w), .second, .val (.long left), .second, .val (.int (1 : Int32))] [(.int (1 : Int32))])
    refine Own.if_eq H_270 (pc := 437) 444 at_437 (by decide) (by decide) (fun hc => absurd hc (by decide)) (fun _ => ?_)
    refine Own.iconst H_270 (pc := 440) (1) at_440 rfl ?_
    refine Own.goto H_270 (pc := 441) 445 at_441 (by decide) (by decide) ?_
    exact Own.ret_nar H_270 (pc := 445) (1) at_445 rfl (by simp) (by decide) (by decide) (by decide) (rfl)
  · intro J
    refine Own.if_ne H_198 (pc := 189) 196 at_189 (by decide) (by decide) (fun hz => ?_) (fun hz => ?_)
    · refine Own.lload H_198 (pc := 196) at_196 rfl ?_
      refine Own.bipush H_198 (pc := 198) (64) at_198 rfl ?_
      refine Own.iload H_198 (pc := 200) at_200 rfl ?_
      refine Own.isub H_198 (pc := 202) at_202 ?_
      refine Own.lshl H_198 (pc := 203) at_203 ?_
      have h64 : ((64 : Int32) - t2).toInt = ((64 - 2 * bn : Nat) : Int) := by
        have a1 := c_isub 64 t2
        have r := rng32 (64 - t2)
        have e64 : (64 : Int32).toInt = 64 := rfl
        omega
      exact J _ (own_shn w (64 - 2 * bn) _ h64 (by have h0 : t2.toInt ≠ 0 := fun q => hz (own_eq q); omega))
    · refine Own.lconst H_198 (pc := 192) (0) at_192 rfl ?_
      refine Own.goto H_198 (pc := 193) 204 at_193 (by decide) (by decide) ?_
      exact J 0 (by have e1 : bn = 0 := (by have e := congrArg Int32.toInt hz; rw [ht2] at e; have e0 : (0 : Int32).toInt = 0 := rfl; omega); rw [e1]; show (0#64) = _; simp)
set_option maxRecDepth 65536 in
set_option maxHeartbeats 40000000 in
theorem comes_1 {Post : Tables → Env → Array Value → State → Outcome → State → Prop} (hpost : ∀ tb e args s v u, (limb_1_1.after args s (.returned v) u = true ∧ limb_1_2.after args s (.returned v) u = true ∧ True) → FrameEnd s (.returned v) u (Jvm.fieldLocs frame_1_writes args s ++ Jvm.arrayLocs frame_1_arrays args s ++ Jvm.staticLocs frame_1_statics s) 16 128 → Post tb e args s (.returned v) u) :
    ArmFor flags0 classFile x code maxLocals ret World_1 tables_1 room_1 Calls_1 rest_1 Pre_1 Post := by
  intro l hfl _ _ p e ha hc hk s m args below hf hA hF happ hP
  obtain ⟨hcalls, hrest, hpre⟩ := hP
  obtain ⟨-, -, -, hnamed, -, -, -, hat⟩ := (Spec.applies_iff hf).mp happ
  obtain ⟨hg, hn⟩ := and_e (Cond.before_iff.mp (show (Jvm.Cond.and given_1 narrow_1).before args s = true from hpre))
  obtain ⟨g0, k0⟩ := and_e hg
  obtain ⟨g1, k1⟩ := and_e k0
  obtain ⟨g2, k2⟩ := and_e k1
  obtain ⟨g3, k3⟩ := and_e k2
  obtain ⟨g4, k4⟩ := and_e k3
  obtain ⟨w0, w1, w2, w3, w4, rfl⟩ : ∃ w0 w1 w2 w3 w4 : Value, args = #[w0, w1, w2, w3, w4] := by
    have hs : args.size = 5 := by simpa [Cond.value, given_1] using g0
    obtain ⟨L⟩ := args
    match L, hs with
    | [w0, w1, w2, w3, w4], _ => exact ⟨w0, w1, w2, w3, w4, rfl⟩
  have hw := fun d (hd : d ∈ tables_1) => atoms_spec (ws := Jvm.Cond.code x code maxLocals ret :: tables_1) hat d (List.mem_cons_of_mem _ hd)
  have hfit : Fit s := fun {y c} hc i hi => by
    obtain ⟨ha, rfl⟩ := Array.getElem?_eq_some_iff.mp hc
    have q := List.all_eq_true.mp ((Array.all_eq_true_iff_forall_mem.mp hF) _ (Array.getElem_mem ha)) i (List.mem_range.mpr hi)
    simpa [Array.getElem?_eq_getElem hi] using q
  obtain ⟨i0, e0⟩ := is_v g1
  obtain rfl : w0 = (.int i0) := Option.some.inj e0
  obtain ⟨i1, e1⟩ := isL_v g2
  obtain rfl : w1 = (.long i1) := Option.some.inj e1
  obtain ⟨i2, e2⟩ := isL_v g3
  obtain rfl : w2 = (.long i2) := Option.some.inj e2
  obtain ⟨i3, e3⟩ := isL_v g4
  obtain rfl : w3 = (.long i3) := Option.some.inj e3
  obtain ⟨i4, e4⟩ := is_v k4
  obtain rfl : w4 = (.int i4) := Option.some.inj e4
  obtain ⟨n, o, h1, h2, h3, _, L, rfl, ⟨N, -, rfl⟩, hq⟩ := rm_law l s _ hw i0 i1 i2 i3 i4 s.heap s.heap.size (Nat.le_refl _)  tables_1 p e ha hc hk s m _ below hf ((Spec.applies_iff_loose hf).mp happ).1 ⟨rfl, State.Warmed39.refl s, rfl⟩ trivial
  refine ⟨n, _, h1, h2, h3, hpost _ _ _ _ _ _ ⟨Cond.after_iff.mpr rfl, Cond.after_iff.mpr (eq_i res_at (Term.int_eval (1)) rfl), trivial⟩ ⟨hq.1, hq.2.1, (hq.2.2.sift fun y hy => Or.inr (N y hy)).mono (by decide) (by decide)⟩⟩
theorem main_1_1 : Claimed_1_1 := comes_1 fun _ _ _ _ _ _ h hF => ⟨h.1, hF⟩
theorem main_1_2 : Claimed_1_2 := comes_1 fun _ _ _ _ _ _ h hF => ⟨h.2.1, hF⟩
end Jvm.Pilot.@@N@@
namespace Jvm.Pilot.@@N@@
open Jvm Jvm.ClassFile Sem Op Lib Jvm.Free Jvm.Stand Jvm.Pilot.@@N@@.Jvm.D
/-! MADE BY PROGRAM (witnessworld.py) out of the Statement's table words and the real class files: 9 classes; the members and pool entries that the words name. The judged class is class 1, her method 1. -/
namespace start1
open Jvm.ClassFile
def u (s : String) : CpInfo := .utf8 (stringToUtf16 s)
/-- a pool by its gaps: so many unusable entries, then the entry; so many at the end -/
def gap : Nat → List CpInfo → List CpInfo
  | 0, r => r
  | n + 1, r => .unusable :: gap n r
def poolList (es : List (Nat × CpInfo)) (last : Nat) : List CpInfo := es.foldr (fun e r => gap e.1 (e.2 :: r)) (gap last [])
def pool (es : List (Nat × CpInfo)) (last : Nat) : Array CpInfo := ⟨poolList es last⟩
def fileOf (pool : Array CpInfo) (this : Nat) (attrs : Array Attribute := #[]) (ms : Array MethodInfo := #[]) (fl : Nat := 33) (sup : Nat := 0) (ifs : Array Nat := #[]) (fds : Array FieldInfo := #[]) : ClassFile where
  minorVersion := 0
  majorVersion := 65
  constantPool := pool
  accessFlags := fl
  thisClass := this
  superClass := sup
  interfaces := ifs
  fields := fds
  methods := ms
  attributes := attrs
def plain (name : String) (sup : Option ClassId) : Class where
  name := name
  kind := .ordinary
  loader := none
  accessFlags := 33
  super := sup
  interfaces := #[]
  cf := none
  fields := #[]
  methods := #[]
  instanceTypes := #[]
  staticTypes := #[]
  resolved := #[]
  callSites := []
  init := .initialized
  statics := none
  mirror := none

def pool0 : Array CpInfo := pool [(5, u "<init>"), (0, u "()V"), (1, .class_ 10), (1, u "java/lang/Object")] 113

def k0c0 : Code := { maxStack := 0, maxLocals := 1, code := object_method_1_code, exceptionTable := #[], attributes := #[] }
def k0m0 : Method := { name := "<init>", desc := "()V", sig := { parameters := [], returnType := none }, accessFlags := 1, code := some k0c0 }
/-- java/lang/Object -/
def k0 : Class := { plain "java/lang/Object" none with
  accessFlags := 33
  interfaces := #[]
  cf := some (fileOf pool0 8 #[] #[{ accessFlags := 1, nameIndex := 5, descriptorIndex := 6, attributes := #[] }] 33 0 #[] #[])
  fields := #[]
  methods := #[k0m0]
  instanceTypes := #[]
  staticTypes := #[]
  resolved := Array.replicate 124 none
  statics := none }

def pool1 : Array CpInfo := pool [(2, .class_ 4), (1, u "java/lang/Object"), (0, u "<init>"), (0, u "()V"), (0, .integer 2147483647), (0, .class_ 9), (0, u "termstone/packing/PackedInts$Packer"), (0, .methodref 8 11), (0, .nameAndType 5 12), (0, u "(JI)V"), (0, .methodref 8 14), (0, .nameAndType 15 16), (0, u "add"), (0, u "(J[BI)I"), (0, .methodref 8 18), (0, .nameAndType 19 20), (0, u "finish"), (0, u "([BI)I"), (0, .methodref 22 23), (0, .class_ 24), (0, .nameAndType 25 26), (0, u "termstone/packing/PackerAddPinLaw"), (0, u "byteOk"), (0, u "([BIIIJ)Z"), (2, u "law"), (0, u "(IJJJI)Z")] 9

def k1m0 : Method := { name := "<init>", desc := "()V", sig := { parameters := [], returnType := none }, accessFlags := 1, code := none }
def k1c1 : Code := { maxStack := 6, maxLocals := 28, code := code, exceptionTable := #[], attributes := #[] }
def k1m1 : Method := { name := "law", desc := "(IJJJI)Z", sig := { parameters := [.int, .long, .long, .long, .int], returnType := some .boolean }, accessFlags := 9, code := some k1c1 }
def k1c2 : Code := { maxStack := 5, maxLocals := 8, code := method_3_code, exceptionTable := #[], attributes := #[] }
def k1m2 : Method := { name := "byteOk", desc := "([BIIIJ)Z", sig := { parameters := [(.array .byte), .int, .int, .int, .long], returnType := some .boolean }, accessFlags := 10, code := some k1c2 }
/-- termstone/packing/PackerAddPinLaw -/
def k1 : Class := { plain "termstone/packing/PackerAddPinLaw" (some 0) with
  accessFlags := 49
  interfaces := #[]
  cf := some (fileOf pool1 22 #[] #[{ accessFlags := 1, nameIndex := 5, descriptorIndex := 6, attributes := #[] }, { accessFlags := 9, nameIndex := 29, descriptorIndex := 30, attributes := #[] }, { accessFlags := 10, nameIndex := 25, descriptorIndex := 26, attributes := #[] }] 49 2 #[] #[])
  fields := #[]
  methods := #[k1m0, k1m1, k1m2]
  instanceTypes := #[]
  staticTypes := #[]
  resolved := Array.replicate 40 none
  statics := none }

def pool2 : Array CpInfo := pool [(3, .class_ 4), (0, u "termstone/packing/PackedInts"), (0, .methodref 6 7), (0, .class_ 8), (0, .nameAndType 9 10), (0, u "java/lang/Object"), (0, u "<init>"), (0, u "()V"), (0, .fieldref 12 13), (0, .class_ 14), (0, .nameAndType 15 16), (0, u "termstone/packing/PackedInts$Packer"), (0, u "base"), (0, u "J"), (0, .fieldref 12 18), (0, .nameAndType 19 20), (0, u "bits"), (0, u "I"), (0, .fieldref 12 22), (0, .nameAndType 23 16), (0, u "pending"), (0, .fieldref 12 25), (0, .nameAndType 26 20), (0, u "held"), (0, u "MAX_BYTES"), (2, u "(JI)V"), (2, u "add"), (0, u "(J[BI)I"), (1, u "finish"), (0, u "([BI)I")] 5

def k2c0 : Code := { maxStack := 3, maxLocals := 4, code := prog_74_method_1_code, exceptionTable := #[], attributes := #[] }
def k2m0 : Method := { name := "<init>", desc := "(JI)V", sig := { parameters := [.long, .int], returnType := none }, accessFlags := 1, code := some k2c0 }
def k2c1 : Code := { maxStack := 7, maxLocals := 6, code := prog_74_method_2_code, exceptionTable := #[], attributes := #[] }
def k2m1 : Method := { name := "add", desc := "(J[BI)I", sig := { parameters := [.long, (.array .byte), .int], returnType := some .int }, accessFlags := 1, code := some k2c1 }
def k2c2 : Code := { maxStack := 6, maxLocals := 3, code := prog_74_method_3_code, exceptionTable := #[], attributes := #[] }
def k2m2 : Method := { name := "finish", desc := "([BI)I", sig := { parameters := [(.array .byte), .int], returnType := some .int }, accessFlags := 1, code := some k2c2 }
/-- termstone/packing/PackedInts$Packer -/
def k2 : Class := { plain "termstone/packing/PackedInts$Packer" (some 0) with
  accessFlags := 49
  interfaces := #[]
  cf := some (fileOf pool2 12 #[.nestHost 3] #[{ accessFlags := 1, nameIndex := 9, descriptorIndex := 30, attributes := #[] }, { accessFlags := 1, nameIndex := 33, descriptorIndex := 34, attributes := #[] }, { accessFlags := 1, nameIndex := 36, descriptorIndex := 37, attributes := #[] }] 49 6 #[] #[{ accessFlags := 25, nameIndex := 27, descriptorIndex := 20, attributes := #[] }, { accessFlags := 18, nameIndex := 15, descriptorIndex := 16, attributes := #[] }, { accessFlags := 18, nameIndex := 19, descriptorIndex := 20, attributes := #[] }, { accessFlags := 2, nameIndex := 23, descriptorIndex := 16, attributes := #[] }, { accessFlags := 2, nameIndex := 26, descriptorIndex := 20, attributes := #[] }])
  fields := #[{ name := "MAX_BYTES", type := .int, accessFlags := 25, slot := 0, constantValue := 0 }, { name := "base", type := .long, accessFlags := 18, slot := 0, constantValue := 0 }, { name := "bits", type := .int, accessFlags := 18, slot := 1, constantValue := 0 }, { name := "pending", type := .long, accessFlags := 2, slot := 2, constantValue := 0 }, { name := "held", type := .int, accessFlags := 2, slot := 3, constantValue := 0 }]
  methods := #[k2m0, k2m1, k2m2]
  instanceTypes := #[.long, .int, .long, .int]
  staticTypes := #[.int]
  resolved := Array.replicate 43 none
  statics := none }

def pool3 : Array CpInfo := pool [(1, u "java/lang/Cloneable"), (0, .class_ 1), (0, u "java/lang/Object"), (0, .class_ 3)] 3

/-- java/lang/Cloneable -/
def k3 : Class := { plain "java/lang/Cloneable" (some 0) with
  accessFlags := 1537
  interfaces := #[]
  cf := some (fileOf pool3 2 #[] #[] 1537 4 #[] #[])
  fields := #[]
  methods := #[]
  instanceTypes := #[]
  staticTypes := #[]
  resolved := Array.replicate 8 none
  statics := none }

def pool4 : Array CpInfo := pool [(1, u "java/io/Serializable"), (0, .class_ 1), (0, u "java/lang/Object"), (0, .class_ 3)] 3

/-- java/io/Serializable -/
def k4 : Class := { plain "java/io/Serializable" (some 0) with
  accessFlags := 1537
  interfaces := #[]
  cf := some (fileOf pool4 2 #[] #[] 1537 4 #[] #[])
  fields := #[]
  methods := #[]
  instanceTypes := #[]
  staticTypes := #[]
  resolved := Array.replicate 8 none
  statics := none }

/-- the primitive byte -/
def k5 : Class := { plain "byte" none with kind := .primitive 'B', accessFlags := 0x411 }
/-- [B -/
def k6 : Class := { plain "[B" (some 0) with kind := .array 5 .byte, interfaces := #[3, 4], accessFlags := 1041 }

/-- the primitive int -/
def k7 : Class := { plain "int" none with kind := .primitive 'I', accessFlags := 0x411 }
/-- [I -/
def k8 : Class := { plain "[I" (some 0) with kind := .array 7 .int, interfaces := #[3, 4], accessFlags := 1041 }

def heap : Heap := #[]
def classes : Array Class := #[k0, k1, k2, k3, k4, k5, k6, k7, k8]
def interned : List (Array UInt16 × Addr) := []
def slotsUsed : Nat := 0
def theMethod : MethodId := ⟨1, 1⟩
def args0 : Array Value := #[.int 5, .long 7, .long 9, .long 11, .int 3]
def aboutOver (below : List Frame) : State where
  vm := { classes := classes, interned := interned.toArray }
  heap := heap
  slotsUsed := slotsUsed
  threads := #[{ frames := .invoking theMethod args0 :: below }]
def below0 : List Frame := [.native { method := ⟨0, 0⟩, args := #[] }]
def about1 : State := aboutOver below0
def p0 : Program := .bare "" "" ""
def e0 : Env := launch0.env 0 0 0
theorem w_frames : about1.frames = Frame.invoking theMethod args0 :: below0 := rfl
set_option maxRecDepth 65536 in
theorem w_args : argsFit about1.vm theMethod args0 = true := by decide +kernel
set_option maxRecDepth 65536 in
theorem w_heap : heapFits about1 = true := by decide +kernel
set_option maxRecDepth 65536 in
theorem w_runnable : about1.curStatus? = some .runnable := by decide +kernel
set_option maxRecDepth 65536 in
theorem w_alone : about1.alone = true := by decide +kernel
set_option maxRecDepth 65536 in
theorem w_named : about1.methodNamed? x = some theMethod := by decide +kernel
set_option maxRecDepth 65536 in
theorem w_hears : about1.hears theMethod below0 = true := by decide +kernel
set_option maxRecDepth 65536 in
theorem w_ripe : about1.ripe theMethod args0 below0 = true := by decide +kernel
theorem w_running : about1.status = .running := rfl
set_option maxRecDepth 65536 in
theorem w_room : about1.hasRoom e0.platform room_1 = true :=
  launch0.hasRoom_least _ room_1 (by decide +kernel) (by decide +kernel) (by decide +kernel) (by decide +kernel) (by decide +kernel) (by decide +kernel)
theorem allAtoms_all (ts : List Jvm.Cond) (a : Array Jvm.Value) (st : Jvm.State) : (allAtoms ts).before a st = ts.all (fun c => c.before a st) := by
  induction ts with
  | nil => rfl
  | cons c t ih =>
    show (Jvm.Cond.and c (allAtoms t)).before a st = _
    rw [Jvm.Cond.before_and, ih, List.all_cons]
def words1 : List Jvm.Cond := Jvm.Cond.code x code maxLocals ret :: tables_1
/-- a 'code' word, met by the world's own term for the bytes: nothing is compared byte by byte -/
theorem code_word {y : MethodName} {bytes : ByteArray} {mx : Nat} {rt : Option FieldType} {a : Array Value} {s : State} {m : MethodId} {meth : Method} {c : Code} (h1 : s.methodNamed? y = some m) (h2 : s.vm.method? m = some meth) (h3 : meth.code = some c) (h4 : c.code = bytes)
    (h5 : (c.maxLocals == mx && c.exceptionTable.isEmpty && decide (c.maxStack ≤ mostOperands) && decide (meth.sig.returnType = rt) && !meth.locks && decide (parseMethodDescriptor y.desc = some meth.sig)) = true) : (Jvm.Cond.code y bytes mx rt).before a s = true := by
  simp only [Bool.and_eq_true, beq_iff_eq, Bool.not_eq_true', decide_eq_true_eq] at h5
  obtain ⟨⟨⟨⟨⟨g1, g2⟩, g3⟩, g4⟩, g5⟩, g6⟩ := h5
  simp [Cond.before, Cond.holds, Cond.value, h1, h2, h3, h4, g1, g2, g3, g4, g5, g6]
def isCode : Jvm.Cond → Bool
  | .code _ _ _ _ => true
  | _ => false
theorem all_split {L : List Jvm.Cond} {P : Jvm.Cond → Bool} (h1 : L.all (fun c => isCode c || P c) = true) (h2 : ∀ c ∈ L.filter isCode, P c = true) : L.all P = true := by
  refine List.all_eq_true.mpr fun c hc => ?_
  have h := List.all_eq_true.mp h1 c hc
  rcases Bool.eq_false_or_eq_true (isCode c) with hi | hi
  · exact h2 c (List.mem_filter.mpr ⟨hc, hi⟩)
  · simpa [hi] using h
set_option maxRecDepth 65536 in
theorem w_c0 : (Jvm.Cond.code x code maxLocals ret).before args0 about1 = true := code_word (m := ⟨1, 1⟩) (meth := k1m1) (c := k1c1) (by decide +kernel) rfl rfl rfl (by decide +kernel)
set_option maxRecDepth 65536 in
theorem w_c1 : (Jvm.Cond.code ({ cls := "termstone/packing/PackedInts$Packer", name := "<init>", desc := "(JI)V" } : Jvm.MethodName) prog_74_method_1_code (4 : Nat) (Option.none : Option Jvm.ClassFile.FieldType)).before args0 about1 = true := code_word (m := ⟨2, 0⟩) (meth := k2m0) (c := k2c0) (by decide +kernel) rfl rfl rfl (by decide +kernel)
set_option maxRecDepth 65536 in
theorem w_c2 : (Jvm.Cond.code ({ cls := "java/lang/Object", name := "<init>", desc := "()V" } : Jvm.MethodName) object_method_1_code (1 : Nat) (Option.none : Option Jvm.ClassFile.FieldType)).before args0 about1 = true := code_word (m := ⟨0, 0⟩) (meth := k0m0) (c := k0c0) (by decide +kernel) rfl rfl rfl (by decide +kernel)
set_option maxRecDepth 65536 in
theorem w_c3 : (Jvm.Cond.code ({ cls := "termstone/packing/PackedInts$Packer", name := "add", desc := "(J[BI)I" } : Jvm.MethodName) prog_74_method_2_code (6 : Nat) (Option.some Jvm.ClassFile.FieldType.int)).before args0 about1 = true := code_word (m := ⟨2, 1⟩) (meth := k2m1) (c := k2c1) (by decide +kernel) rfl rfl rfl (by decide +kernel)
set_option maxRecDepth 65536 in
theorem w_c4 : (Jvm.Cond.code ({ cls := "termstone/packing/PackedInts$Packer", name := "finish", desc := "([BI)I" } : Jvm.MethodName) prog_74_method_3_code (3 : Nat) (Option.some Jvm.ClassFile.FieldType.int)).before args0 about1 = true := code_word (m := ⟨2, 2⟩) (meth := k2m2) (c := k2c2) (by decide +kernel) rfl rfl rfl (by decide +kernel)
set_option maxRecDepth 65536 in
theorem w_c5 : (Jvm.Cond.code ({ cls := "termstone/packing/PackerAddPinLaw", name := "byteOk", desc := "([BIIIJ)Z" } : Jvm.MethodName) method_3_code (8 : Nat) (Option.some Jvm.ClassFile.FieldType.boolean)).before args0 about1 = true := code_word (m := ⟨1, 2⟩) (meth := k1m2) (c := k1c2) (by decide +kernel) rfl rfl rfl (by decide +kernel)
def codes1 : List Jvm.Cond := [Jvm.Cond.code x code maxLocals ret, Jvm.Cond.code ({ cls := "termstone/packing/PackedInts$Packer", name := "<init>", desc := "(JI)V" } : Jvm.MethodName) prog_74_method_1_code (4 : Nat) (Option.none : Option Jvm.ClassFile.FieldType), Jvm.Cond.code ({ cls := "java/lang/Object", name := "<init>", desc := "()V" } : Jvm.MethodName) object_method_1_code (1 : Nat) (Option.none : Option Jvm.ClassFile.FieldType), Jvm.Cond.code ({ cls := "termstone/packing/PackedInts$Packer", name := "add", desc := "(J[BI)I" } : Jvm.MethodName) prog_74_method_2_code (6 : Nat) (Option.some Jvm.ClassFile.FieldType.int), Jvm.Cond.code ({ cls := "termstone/packing/PackedInts$Packer", name := "finish", desc := "([BI)I" } : Jvm.MethodName) prog_74_method_3_code (3 : Nat) (Option.some Jvm.ClassFile.FieldType.int), Jvm.Cond.code ({ cls := "termstone/packing/PackerAddPinLaw", name := "byteOk", desc := "([BIIIJ)Z" } : Jvm.MethodName) method_3_code (8 : Nat) (Option.some Jvm.ClassFile.FieldType.boolean)]
set_option maxRecDepth 65536 in
theorem codes_eq : words1.filter isCode = codes1 := rfl
theorem w_codes : ∀ c ∈ words1.filter isCode, c.before args0 about1 = true := by
  rw [codes_eq]
  intro c hc
  simp only [codes1, List.mem_cons, List.not_mem_nil, or_false] at hc
  rcases hc with rfl | rfl | rfl | rfl | rfl | rfl
  · exact w_c0
  · exact w_c1
  · exact w_c2
  · exact w_c3
  · exact w_c4
  · exact w_c5
set_option maxRecDepth 65536 in
theorem w_t1 : (words1.take 24).all (fun c => isCode c || c.before args0 about1) = true := by decide +kernel
set_option maxRecDepth 65536 in
theorem w_t2 : (words1.drop 24).all (fun c => isCode c || c.before args0 about1) = true := by decide +kernel
theorem w_tables : (allAtoms (Jvm.Cond.code x code maxLocals ret :: tables_1)).before args0 about1 = true := by
  rw [allAtoms_all]
  show words1.all (fun c => c.before args0 about1) = true
  refine all_split ?_ w_codes
  rw [← List.take_append_drop 24 words1, List.all_append, w_t1, w_t2]
  rfl
set_option maxRecDepth 65536 in
theorem w_case : (Jvm.Cond.and given_1 narrow_1).before args0 about1 = true := by decide +kernel
theorem w_applies : (headSpec (Jvm.Cond.code x code maxLocals ret :: tables_1) room_1).applies x e0.platform about1 = true :=
  (Spec.applies_iff w_frames).mpr ⟨w_running, w_runnable, w_alone, w_named, w_hears, w_ripe, w_room, w_tables⟩
theorem atStart : AtStart classFile x code maxLocals ret World_1 tables_1 room_1 Calls_1 rest_1 Pre_1 launch0 p0 e0 about1 theMethod args0 below0 :=
  ⟨lists_1, trivial, launch0.admits_env _ _ _, launch0.least_env, fairChoices_fair.cas, fairChoices_fair.clock, w_frames, w_args, w_heap, w_applies, trivial, trivial, w_case⟩
end start1
theorem witness_1 : WitnessClaimed_1 := ⟨start1.p0, start1.e0, start1.about1, start1.theMethod, start1.args0, start1.below0, start1.atStart⟩
end Jvm.Pilot.@@N@@
